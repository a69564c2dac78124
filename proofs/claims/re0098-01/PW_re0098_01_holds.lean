import PyProof.Rows.All
import Wide.All
import OpenK.AllK
import Wide.FinOn
import PySem.Challenge.RW_re0098_01
set_option linter.all false
set_option Elab.async false
set_option maxRecDepth 100000
section
open PySem PySem.W PyProof.Rows PySem.Spec PySem.Calls
namespace Mine
abbrev pw : Program := PySem.Challenge.pw_re0098_01
noncomputable def st (i : Nat) : Stmt := (PySem.Challenge.pw_re0098_01.main.body.drop i).headD default
def bodyOf : Stmt → List Stmt
  | .FunctionDef _ _ b _ _ _ _ _ _ _ => b
  | _ => []
def argsOf : Stmt → Arguments
  | .FunctionDef _ a _ _ _ _ _ _ _ _ => a
  | _ => default
def scopeOf : Stmt → Scope
  | .FunctionDef _ _ _ _ _ _ s _ _ _ => s
  | _ => default
abbrev Q (l : List Nat) : PySem.Str := PySem.Str.mk (Array.mk l)
noncomputable def oB_11 (P : Params) : Obj := Obj.mk (Value.type PySem.W.SL.s2766695959194262286x5) none (Data.seq (List.toArray []) 0) (List.toArray [])
noncomputable def oB_12 (P : Params) : Obj := Obj.mk Value.none none (Data.fields (List.toArray [])) (List.toArray [])
noncomputable def oB_13 (P : Params) : Obj := Obj.mk (Value.type PySem.W.SL.s5856160107412720595x4) none (Data.fields (List.toArray [(Value.str (Q [60,109,111,100,117,108,101,62]) 182), (Value.str (Q [60,109,111,100,117,108,101,62]) 183), (Value.str (Q [47,99,108,97,105,109,47,99,117,116,46,112,121]) 184), (Value.int 1 0), (Value.int 0 0), (Value.int 0 0), (Value.int 0 0), (Value.int 0 0), (Value.ref 11), (Value.bool false), (Value.int 181 0), (Value.ref 12), Value.none, Value.none, Value.none, Value.none, (Value.int 185 0), (Value.int 1 0), (Value.str (Q [47,99,108,97,105,109,47,99,117,116,46,112,121]) 186)])) (List.toArray [])
noncomputable def oB_14 (P : Params) : Obj := Obj.mk (Value.type PySem.W.SL.s658472552662922059x5) none Data.plain (List.toArray [(some (Value.ref 13)), (some (Value.ref 3)), (some (Value.ref 3)), none, (some (Value.str (Q [95,95,109,97,105,110,95,95]) 164)), none, (some (Value.ref 0))])
noncomputable def TB (P : Params) : BT := (BT.node (boot_o_0 P) (BT.node (boot_o_1 P) (BT.node (boot_o_3 P) (BT.node (boot_o_7 P) BT.nil BT.nil) (BT.node (oB_11 P) BT.nil BT.nil)) (BT.node (boot_o_5 P) (BT.node (boot_o_9 P) BT.nil BT.nil) (BT.node (oB_13 P) BT.nil BT.nil))) (BT.node (boot_o_2 P) (BT.node (boot_o_4 P) (BT.node (boot_o_8 P) BT.nil BT.nil) (BT.node (oB_12 P) BT.nil BT.nil)) (BT.node (boot_o_6 P) (BT.node (boot_o_10 P) BT.nil BT.nil) (BT.node (oB_14 P) BT.nil BT.nil))))
noncomputable def SB (w : World) (os : OsState) : SharedT := SharedT.mk (TB w.params) 15 {} (Array.mk []) {} 187 os
noncomputable def o5_3 (P : Params) : Obj := Obj.mk (Value.type PySem.W.SL.s14018661285674007319x4) none (Data.dict (List.toArray [(DictEntry.mk (PyData.keyHash P (Q [95,95,110,97,109,101,95,95])) (Value.str (Q [95,95,110,97,109,101,95,95]) 165) (Value.str (Q [99,112,121,51,49,51,46,100,111,99,116,101,115,116]) 187)), (DictEntry.mk (PyData.keyHash P (Q [95,95,100,111,99,95,95])) (Value.str (Q [95,95,100,111,99,95,95]) 166) Value.none), (DictEntry.mk (PyData.keyHash P (Q [95,95,112,97,99,107,97,103,101,95,95])) (Value.str (Q [95,95,112,97,99,107,97,103,101,95,95]) 167) Value.none), (DictEntry.mk (PyData.keyHash P (Q [95,95,108,111,97,100,101,114,95,95])) (Value.str (Q [95,95,108,111,97,100,101,114,95,95]) 168) (Value.builtin PySem.W.SL.s7097527257260152453x26)), (DictEntry.mk (PyData.keyHash P (Q [95,95,115,112,101,99,95,95])) (Value.str (Q [95,95,115,112,101,99,95,95]) 169) Value.none), (DictEntry.mk (PyData.keyHash P (Q [95,95,97,110,110,111,116,97,116,105,111,110,115,95,95])) (Value.str (Q [95,95,97,110,110,111,116,97,116,105,111,110,115,95,95]) 170) (Value.ref 6)), (DictEntry.mk (PyData.keyHash P (Q [95,95,98,117,105,108,116,105,110,115,95,95])) (Value.str (Q [95,95,98,117,105,108,116,105,110,115,95,95]) 171) (Value.ref 4)), (DictEntry.mk (PyData.keyHash P (Q [95,95,102,105,108,101,95,95])) (Value.str (Q [95,95,102,105,108,101,95,95]) 173) (Value.str (Q [47,99,108,97,105,109,47,99,117,116,46,112,121]) 172)), (DictEntry.mk (PyData.keyHash P (Q [95,95,99,97,99,104,101,100,95,95])) (Value.str (Q [95,95,99,97,99,104,101,100,95,95]) 174) Value.none), (DictEntry.mk (PyData.keyHash P (Q [69,76,76,73,80,83,73,83,95,77,65,82,75,69,82])) (Value.str (Q [69,76,76,73,80,83,73,83,95,77,65,82,75,69,82]) 190) (Value.str (Q [46,46,46]) 189)), (DictEntry.mk (PyData.keyHash P (Q [95,101,108,108,105,112,115,105,115,95,109,97,116,99,104])) (Value.str (Q [95,101,108,108,105,112,115,105,115,95,109,97,116,99,104]) 202) (Value.ref 21)), (DictEntry.mk (PyData.keyHash P (Q [67,82,76,70])) (Value.str (Q [67,82,76,70]) 204) (Value.str (Q [13,10]) 203)), (DictEntry.mk (PyData.keyHash P (Q [78,76])) (Value.str (Q [78,76]) 206) (Value.str (Q [10]) 205)), (DictEntry.mk (PyData.keyHash P (Q [95,81,85,79,80,82,73,95,77,65,80])) (Value.str (Q [95,81,85,79,80,82,73,95,77,65,80]) 1234) (Value.ref 24))]) 14) (List.toArray [])
noncomputable def o5_12 (P : Params) : Obj := Obj.mk Value.none none (Data.fields (List.toArray [(Value.int 3 0), (Value.int 0 0), (Value.ref 20)])) (List.toArray [])
noncomputable def o5_15 (P : Params) : Obj := Obj.mk (Value.type PySem.W.SL.s2766695959194262286x5) none (Data.seq (List.toArray []) 0) (List.toArray [])
noncomputable def o5_16 (P : Params) : Obj := Obj.mk Value.none none (Data.fields (List.toArray [])) (List.toArray [])
noncomputable def o5_17 (P : Params) : Obj := Obj.mk (Value.type PySem.W.SL.s2766695959194262286x5) none (Data.seq (List.toArray [(Value.str (Q [119,97,110,116]) 194), (Value.str (Q [103,111,116]) 195), (Value.str (Q [119,115]) 196), (Value.str (Q [115,116,97,114,116,112,111,115]) 197), (Value.str (Q [101,110,100,112,111,115]) 198), (Value.str (Q [119]) 199)]) 0) (List.toArray [])
noncomputable def o5_18 (P : Params) : Obj := Obj.mk (Value.type PySem.W.SL.s2766695959194262286x5) none (Data.seq (List.toArray []) 0) (List.toArray [])
noncomputable def o5_19 (P : Params) : Obj := Obj.mk Value.none none (Data.func (FuncData.mk (Q [95,101,108,108,105,112,115,105,115,95,109,97,116,99,104]) (Q [95,101,108,108,105,112,115,105,115,95,109,97,116,99,104]) (argsOf (st 2)) (FuncBody.stmts (bodyOf (st 2))) (scopeOf (st 2)) 0 [] Value.none Value.none Value.none Value.none none Value.none Value.none 0)) (List.toArray [])
noncomputable def o5_20 (P : Params) : Obj := Obj.mk (Value.type PySem.W.SL.s5856160107412720595x4) none (Data.fields (List.toArray [(Value.str (Q [95,101,108,108,105,112,115,105,115,95,109,97,116,99,104]) 191), (Value.str (Q [95,101,108,108,105,112,115,105,115,95,109,97,116,99,104]) 192), (Value.str (Q [47,99,108,97,105,109,47,99,117,116,46,112,121]) 193), (Value.int 3 0), (Value.int 2 0), (Value.int 0 0), (Value.int 0 0), (Value.int 3 0), (Value.ref 15), (Value.bool true), (Value.int 181 0), (Value.ref 16), Value.none, (Value.ref 17), (Value.ref 18), (Value.ref 19), (Value.int 200 0), (Value.int 3 0), (Value.str (Q [47,99,108,97,105,109,47,99,117,116,46,112,121]) 201)])) (List.toArray [])
noncomputable def o5_21 (P : Params) : Obj := Obj.mk (Value.type PySem.W.SL.s7174869446012820540x8) none (Data.func (FuncData.mk (Q [95,101,108,108,105,112,115,105,115,95,109,97,116,99,104]) (Q [95,101,108,108,105,112,115,105,115,95,109,97,116,99,104]) (argsOf (st 2)) (FuncBody.stmts (bodyOf (st 2))) (scopeOf (st 2)) 3 [] Value.none Value.none Value.none (Value.str (Q [99,112,121,51,49,51,46,100,111,99,116,101,115,116]) 187) none (Value.ref 20) Value.none 0)) (List.toArray [])
noncomputable def o5_22 (P : Params) : Obj := Obj.mk (Value.type PySem.W.SL.s1438033511350832697x5) none (Data.fields (List.toArray [(Value.int 0 208), (Value.int 256 207), (Value.int 1 209)])) (List.toArray [])
noncomputable def o5_23 (P : Params) : Obj := Obj.mk (Value.type PySem.W.SL.s15992201931430999065x14) none (Data.fields (List.toArray [(Value.int 256 0), (Value.int 0 0), (Value.int 1 0)])) (List.toArray [])
noncomputable def L0 : List Value := [(Value.str (Q [61,48,48]) 213), (Value.str (Q [61,48,49]) 217), (Value.str (Q [61,48,50]) 221), (Value.str (Q [61,48,51]) 225), (Value.str (Q [61,48,52]) 229), (Value.str (Q [61,48,53]) 233), (Value.str (Q [61,48,54]) 237), (Value.str (Q [61,48,55]) 241), (Value.str (Q [61,48,56]) 245), (Value.str (Q [61,48,57]) 249), (Value.str (Q [61,48,65]) 253), (Value.str (Q [61,48,66]) 257), (Value.str (Q [61,48,67]) 261), (Value.str (Q [61,48,68]) 265), (Value.str (Q [61,48,69]) 269), (Value.str (Q [61,48,70]) 273), (Value.str (Q [61,49,48]) 277), (Value.str (Q [61,49,49]) 281), (Value.str (Q [61,49,50]) 285), (Value.str (Q [61,49,51]) 289), (Value.str (Q [61,49,52]) 293), (Value.str (Q [61,49,53]) 297), (Value.str (Q [61,49,54]) 301), (Value.str (Q [61,49,55]) 305), (Value.str (Q [61,49,56]) 309), (Value.str (Q [61,49,57]) 313), (Value.str (Q [61,49,65]) 317), (Value.str (Q [61,49,66]) 321), (Value.str (Q [61,49,67]) 325), (Value.str (Q [61,49,68]) 329), (Value.str (Q [61,49,69]) 333), (Value.str (Q [61,49,70]) 337), (Value.str (Q [61,50,48]) 341), (Value.str (Q [61,50,49]) 345), (Value.str (Q [61,50,50]) 349), (Value.str (Q [61,50,51]) 353), (Value.str (Q [61,50,52]) 357), (Value.str (Q [61,50,53]) 361), (Value.str (Q [61,50,54]) 365), (Value.str (Q [61,50,55]) 369), (Value.str (Q [61,50,56]) 373), (Value.str (Q [61,50,57]) 377), (Value.str (Q [61,50,65]) 381), (Value.str (Q [61,50,66]) 385), (Value.str (Q [61,50,67]) 389), (Value.str (Q [61,50,68]) 393), (Value.str (Q [61,50,69]) 397), (Value.str (Q [61,50,70]) 401), (Value.str (Q [61,51,48]) 405), (Value.str (Q [61,51,49]) 409), (Value.str (Q [61,51,50]) 413), (Value.str (Q [61,51,51]) 417), (Value.str (Q [61,51,52]) 421), (Value.str (Q [61,51,53]) 425), (Value.str (Q [61,51,54]) 429), (Value.str (Q [61,51,55]) 433), (Value.str (Q [61,51,56]) 437), (Value.str (Q [61,51,57]) 441), (Value.str (Q [61,51,65]) 445), (Value.str (Q [61,51,66]) 449), (Value.str (Q [61,51,67]) 453), (Value.str (Q [61,51,68]) 457), (Value.str (Q [61,51,69]) 461), (Value.str (Q [61,51,70]) 465), (Value.str (Q [61,52,48]) 469), (Value.str (Q [61,52,49]) 473), (Value.str (Q [61,52,50]) 477), (Value.str (Q [61,52,51]) 481), (Value.str (Q [61,52,52]) 485), (Value.str (Q [61,52,53]) 489), (Value.str (Q [61,52,54]) 493), (Value.str (Q [61,52,55]) 497), (Value.str (Q [61,52,56]) 501), (Value.str (Q [61,52,57]) 505), (Value.str (Q [61,52,65]) 509), (Value.str (Q [61,52,66]) 513), (Value.str (Q [61,52,67]) 517), (Value.str (Q [61,52,68]) 521), (Value.str (Q [61,52,69]) 525), (Value.str (Q [61,52,70]) 529), (Value.str (Q [61,53,48]) 533), (Value.str (Q [61,53,49]) 537), (Value.str (Q [61,53,50]) 541), (Value.str (Q [61,53,51]) 545), (Value.str (Q [61,53,52]) 549), (Value.str (Q [61,53,53]) 553), (Value.str (Q [61,53,54]) 557), (Value.str (Q [61,53,55]) 561), (Value.str (Q [61,53,56]) 565), (Value.str (Q [61,53,57]) 569), (Value.str (Q [61,53,65]) 573), (Value.str (Q [61,53,66]) 577), (Value.str (Q [61,53,67]) 581), (Value.str (Q [61,53,68]) 585), (Value.str (Q [61,53,69]) 589), (Value.str (Q [61,53,70]) 593), (Value.str (Q [61,54,48]) 597), (Value.str (Q [61,54,49]) 601), (Value.str (Q [61,54,50]) 605), (Value.str (Q [61,54,51]) 609), (Value.str (Q [61,54,52]) 613), (Value.str (Q [61,54,53]) 617), (Value.str (Q [61,54,54]) 621), (Value.str (Q [61,54,55]) 625), (Value.str (Q [61,54,56]) 629), (Value.str (Q [61,54,57]) 633), (Value.str (Q [61,54,65]) 637), (Value.str (Q [61,54,66]) 641), (Value.str (Q [61,54,67]) 645), (Value.str (Q [61,54,68]) 649), (Value.str (Q [61,54,69]) 653), (Value.str (Q [61,54,70]) 657), (Value.str (Q [61,55,48]) 661), (Value.str (Q [61,55,49]) 665), (Value.str (Q [61,55,50]) 669), (Value.str (Q [61,55,51]) 673), (Value.str (Q [61,55,52]) 677), (Value.str (Q [61,55,53]) 681), (Value.str (Q [61,55,54]) 685), (Value.str (Q [61,55,55]) 689), (Value.str (Q [61,55,56]) 693), (Value.str (Q [61,55,57]) 697), (Value.str (Q [61,55,65]) 701), (Value.str (Q [61,55,66]) 705), (Value.str (Q [61,55,67]) 709), (Value.str (Q [61,55,68]) 713), (Value.str (Q [61,55,69]) 717), (Value.str (Q [61,55,70]) 721), (Value.str (Q [61,56,48]) 725), (Value.str (Q [61,56,49]) 729), (Value.str (Q [61,56,50]) 733), (Value.str (Q [61,56,51]) 737), (Value.str (Q [61,56,52]) 741), (Value.str (Q [61,56,53]) 745), (Value.str (Q [61,56,54]) 749), (Value.str (Q [61,56,55]) 753), (Value.str (Q [61,56,56]) 757), (Value.str (Q [61,56,57]) 761), (Value.str (Q [61,56,65]) 765), (Value.str (Q [61,56,66]) 769), (Value.str (Q [61,56,67]) 773), (Value.str (Q [61,56,68]) 777), (Value.str (Q [61,56,69]) 781), (Value.str (Q [61,56,70]) 785), (Value.str (Q [61,57,48]) 789), (Value.str (Q [61,57,49]) 793), (Value.str (Q [61,57,50]) 797), (Value.str (Q [61,57,51]) 801), (Value.str (Q [61,57,52]) 805), (Value.str (Q [61,57,53]) 809), (Value.str (Q [61,57,54]) 813), (Value.str (Q [61,57,55]) 817), (Value.str (Q [61,57,56]) 821), (Value.str (Q [61,57,57]) 825), (Value.str (Q [61,57,65]) 829), (Value.str (Q [61,57,66]) 833), (Value.str (Q [61,57,67]) 837), (Value.str (Q [61,57,68]) 841), (Value.str (Q [61,57,69]) 845), (Value.str (Q [61,57,70]) 849), (Value.str (Q [61,65,48]) 853), (Value.str (Q [61,65,49]) 857), (Value.str (Q [61,65,50]) 861), (Value.str (Q [61,65,51]) 865), (Value.str (Q [61,65,52]) 869), (Value.str (Q [61,65,53]) 873), (Value.str (Q [61,65,54]) 877), (Value.str (Q [61,65,55]) 881), (Value.str (Q [61,65,56]) 885), (Value.str (Q [61,65,57]) 889), (Value.str (Q [61,65,65]) 893), (Value.str (Q [61,65,66]) 897), (Value.str (Q [61,65,67]) 901), (Value.str (Q [61,65,68]) 905), (Value.str (Q [61,65,69]) 909), (Value.str (Q [61,65,70]) 913), (Value.str (Q [61,66,48]) 917), (Value.str (Q [61,66,49]) 921), (Value.str (Q [61,66,50]) 925), (Value.str (Q [61,66,51]) 929), (Value.str (Q [61,66,52]) 933), (Value.str (Q [61,66,53]) 937), (Value.str (Q [61,66,54]) 941), (Value.str (Q [61,66,55]) 945), (Value.str (Q [61,66,56]) 949), (Value.str (Q [61,66,57]) 953), (Value.str (Q [61,66,65]) 957), (Value.str (Q [61,66,66]) 961), (Value.str (Q [61,66,67]) 965), (Value.str (Q [61,66,68]) 969), (Value.str (Q [61,66,69]) 973), (Value.str (Q [61,66,70]) 977), (Value.str (Q [61,67,48]) 981), (Value.str (Q [61,67,49]) 985), (Value.str (Q [61,67,50]) 989), (Value.str (Q [61,67,51]) 993), (Value.str (Q [61,67,52]) 997), (Value.str (Q [61,67,53]) 1001), (Value.str (Q [61,67,54]) 1005), (Value.str (Q [61,67,55]) 1009), (Value.str (Q [61,67,56]) 1013), (Value.str (Q [61,67,57]) 1017), (Value.str (Q [61,67,65]) 1021), (Value.str (Q [61,67,66]) 1025), (Value.str (Q [61,67,67]) 1029), (Value.str (Q [61,67,68]) 1033), (Value.str (Q [61,67,69]) 1037), (Value.str (Q [61,67,70]) 1041), (Value.str (Q [61,68,48]) 1045), (Value.str (Q [61,68,49]) 1049), (Value.str (Q [61,68,50]) 1053), (Value.str (Q [61,68,51]) 1057), (Value.str (Q [61,68,52]) 1061), (Value.str (Q [61,68,53]) 1065), (Value.str (Q [61,68,54]) 1069), (Value.str (Q [61,68,55]) 1073), (Value.str (Q [61,68,56]) 1077), (Value.str (Q [61,68,57]) 1081), (Value.str (Q [61,68,65]) 1085), (Value.str (Q [61,68,66]) 1089), (Value.str (Q [61,68,67]) 1093), (Value.str (Q [61,68,68]) 1097), (Value.str (Q [61,68,69]) 1101), (Value.str (Q [61,68,70]) 1105), (Value.str (Q [61,69,48]) 1109), (Value.str (Q [61,69,49]) 1113), (Value.str (Q [61,69,50]) 1117), (Value.str (Q [61,69,51]) 1121), (Value.str (Q [61,69,52]) 1125), (Value.str (Q [61,69,53]) 1129), (Value.str (Q [61,69,54]) 1133), (Value.str (Q [61,69,55]) 1137), (Value.str (Q [61,69,56]) 1141), (Value.str (Q [61,69,57]) 1145), (Value.str (Q [61,69,65]) 1149), (Value.str (Q [61,69,66]) 1153), (Value.str (Q [61,69,67]) 1157), (Value.str (Q [61,69,68]) 1161), (Value.str (Q [61,69,69]) 1165), (Value.str (Q [61,69,70]) 1169), (Value.str (Q [61,70,48]) 1173), (Value.str (Q [61,70,49]) 1177), (Value.str (Q [61,70,50]) 1181), (Value.str (Q [61,70,51]) 1185), (Value.str (Q [61,70,52]) 1189), (Value.str (Q [61,70,53]) 1193), (Value.str (Q [61,70,54]) 1197), (Value.str (Q [61,70,55]) 1201), (Value.str (Q [61,70,56]) 1205), (Value.str (Q [61,70,57]) 1209), (Value.str (Q [61,70,65]) 1213), (Value.str (Q [61,70,66]) 1217), (Value.str (Q [61,70,67]) 1221), (Value.str (Q [61,70,68]) 1225), (Value.str (Q [61,70,69]) 1229), (Value.str (Q [61,70,70]) 1233)]
noncomputable def o5_24 (P : Params) : Obj := Obj.mk (Value.type PySem.W.SL.s9222952809800978799x4) none (Data.seq (List.toArray L0) 256) (List.toArray [])
noncomputable def o5_25 (P : Params) : Obj := Obj.mk (Value.type PySem.W.SL.s14018661285674007319x4) none (Data.dict (List.toArray []) 2) (List.toArray [])
noncomputable def o5_26 (P : Params) : Obj := Obj.mk (Value.type PySem.W.SL.s2766695959194262286x5) none (Data.seq (List.toArray []) 0) (List.toArray [])
noncomputable def o5_27 (P : Params) : Obj := Obj.mk (Value.type PySem.W.SL.s5991306692159431302x13) none (Data.fields (List.toArray [(Value.ref 26), Value.none, Value.none, Value.none, (Value.bool false), Value.none])) (List.toArray [])
noncomputable def T5 (P : Params) : BT := (BT.node (boot_o_0 P) (BT.node (boot_o_1 P) (BT.node (o5_3 P) (BT.node (boot_o_7 P) (BT.node (o5_15 P) BT.nil BT.nil) (BT.node (o5_23 P) BT.nil BT.nil)) (BT.node (oB_11 P) (BT.node (o5_19 P) BT.nil BT.nil) (BT.node (o5_27 P) BT.nil BT.nil))) (BT.node (boot_o_5 P) (BT.node (boot_o_9 P) (BT.node (o5_17 P) BT.nil BT.nil) (BT.node (o5_25 P) BT.nil BT.nil)) (BT.node (oB_13 P) (BT.node (o5_21 P) BT.nil BT.nil) BT.nil))) (BT.node (boot_o_2 P) (BT.node (boot_o_4 P) (BT.node (boot_o_8 P) (BT.node (o5_16 P) BT.nil BT.nil) (BT.node (o5_24 P) BT.nil BT.nil)) (BT.node (o5_12 P) (BT.node (o5_20 P) BT.nil BT.nil) BT.nil)) (BT.node (boot_o_6 P) (BT.node (boot_o_10 P) (BT.node (o5_18 P) BT.nil BT.nil) (BT.node (o5_26 P) BT.nil BT.nil)) (BT.node (oB_14 P) (BT.node (o5_22 P) BT.nil BT.nil) BT.nil))))
noncomputable def S5 (w : World) (os : OsState) : SharedT := SharedT.mk (T5 w.params) 28 {} (Array.mk []) {} 1235 os
noncomputable def o14_3 (P : Params) : Obj := Obj.mk (Value.type PySem.W.SL.s14018661285674007319x4) none (Data.dict (List.toArray [(DictEntry.mk (PyData.keyHash P (Q [95,95,110,97,109,101,95,95])) (Value.str (Q [95,95,110,97,109,101,95,95]) 165) (Value.str (Q [99,112,121,51,49,51,46,101,109,97,105,108,46,113,117,111,112,114,105,109,105,109,101]) 1250)), (DictEntry.mk (PyData.keyHash P (Q [95,95,100,111,99,95,95])) (Value.str (Q [95,95,100,111,99,95,95]) 166) Value.none), (DictEntry.mk (PyData.keyHash P (Q [95,95,112,97,99,107,97,103,101,95,95])) (Value.str (Q [95,95,112,97,99,107,97,103,101,95,95]) 167) Value.none), (DictEntry.mk (PyData.keyHash P (Q [95,95,108,111,97,100,101,114,95,95])) (Value.str (Q [95,95,108,111,97,100,101,114,95,95]) 168) (Value.builtin PySem.W.SL.s7097527257260152453x26)), (DictEntry.mk (PyData.keyHash P (Q [95,95,115,112,101,99,95,95])) (Value.str (Q [95,95,115,112,101,99,95,95]) 169) Value.none), (DictEntry.mk (PyData.keyHash P (Q [95,95,97,110,110,111,116,97,116,105,111,110,115,95,95])) (Value.str (Q [95,95,97,110,110,111,116,97,116,105,111,110,115,95,95]) 170) (Value.ref 6)), (DictEntry.mk (PyData.keyHash P (Q [95,95,98,117,105,108,116,105,110,115,95,95])) (Value.str (Q [95,95,98,117,105,108,116,105,110,115,95,95]) 171) (Value.ref 4)), (DictEntry.mk (PyData.keyHash P (Q [95,95,102,105,108,101,95,95])) (Value.str (Q [95,95,102,105,108,101,95,95]) 173) (Value.str (Q [47,99,108,97,105,109,47,99,117,116,46,112,121]) 172)), (DictEntry.mk (PyData.keyHash P (Q [95,95,99,97,99,104,101,100,95,95])) (Value.str (Q [95,95,99,97,99,104,101,100,95,95]) 174) Value.none), (DictEntry.mk (PyData.keyHash P (Q [69,76,76,73,80,83,73,83,95,77,65,82,75,69,82])) (Value.str (Q [69,76,76,73,80,83,73,83,95,77,65,82,75,69,82]) 190) (Value.str (Q [46,46,46]) 189)), (DictEntry.mk (PyData.keyHash P (Q [95,101,108,108,105,112,115,105,115,95,109,97,116,99,104])) (Value.str (Q [95,101,108,108,105,112,115,105,115,95,109,97,116,99,104]) 202) (Value.ref 21)), (DictEntry.mk (PyData.keyHash P (Q [67,82,76,70])) (Value.str (Q [67,82,76,70]) 204) (Value.str (Q [13,10]) 203)), (DictEntry.mk (PyData.keyHash P (Q [78,76])) (Value.str (Q [78,76]) 206) (Value.str (Q [10]) 205)), (DictEntry.mk (PyData.keyHash P (Q [95,81,85,79,80,82,73,95,77,65,80])) (Value.str (Q [95,81,85,79,80,82,73,95,77,65,80]) 1234) (Value.ref 24)), (DictEntry.mk (PyData.keyHash P (Q [95,81,85,79,80,82,73,95,72,69,65,68,69,82,95,77,65,80])) (Value.str (Q [95,81,85,79,80,82,73,95,72,69,65,68,69,82,95,77,65,80]) 1235) (Value.ref 29)), (DictEntry.mk (PyData.keyHash P (Q [95,81,85,79,80,82,73,95,66,79,68,89,95,77,65,80])) (Value.str (Q [95,81,85,79,80,82,73,95,66,79,68,89,95,77,65,80]) 1236) (Value.ref 31)), (DictEntry.mk (PyData.keyHash P (Q [97,115,99,105,105,95,108,111,119,101,114,99,97,115,101])) (Value.str (Q [97,115,99,105,105,95,108,111,119,101,114,99,97,115,101]) 1238) (Value.str (Q [97,98,99,100,101,102,103,104,105,106,107,108,109,110,111,112,113,114,115,116,117,118,119,120,121,122]) 1237)), (DictEntry.mk (PyData.keyHash P (Q [97,115,99,105,105,95,117,112,112,101,114,99,97,115,101])) (Value.str (Q [97,115,99,105,105,95,117,112,112,101,114,99,97,115,101]) 1240) (Value.str (Q [65,66,67,68,69,70,71,72,73,74,75,76,77,78,79,80,81,82,83,84,85,86,87,88,89,90]) 1239)), (DictEntry.mk (PyData.keyHash P (Q [97,115,99,105,105,95,108,101,116,116,101,114,115])) (Value.str (Q [97,115,99,105,105,95,108,101,116,116,101,114,115]) 1242) (Value.str (Q [97,98,99,100,101,102,103,104,105,106,107,108,109,110,111,112,113,114,115,116,117,118,119,120,121,122,65,66,67,68,69,70,71,72,73,74,75,76,77,78,79,80,81,82,83,84,85,86,87,88,89,90]) 1241)), (DictEntry.mk (PyData.keyHash P (Q [100,105,103,105,116,115])) (Value.str (Q [100,105,103,105,116,115]) 1244) (Value.str (Q [48,49,50,51,52,53,54,55,56,57]) 1243)), (DictEntry.mk (PyData.keyHash P (Q [104,101,120,100,105,103,105,116,115])) (Value.str (Q [104,101,120,100,105,103,105,116,115]) 1249) (Value.str (Q [48,49,50,51,52,53,54,55,56,57,97,98,99,100,101,102,65,66,67,68,69,70]) 1248)), (DictEntry.mk (PyData.keyHash P (Q [99])) (Value.str (Q [99]) 1260) (Value.int 57 1457))]) 22) (List.toArray [])
noncomputable def o14_28 (P : Params) : Obj := Obj.mk (Value.type PySem.W.SL.s4674234679698826739x5) none (Data.fields (List.toArray [Value.none, Value.none, Value.none])) (List.toArray [])
noncomputable def L1 : List Value := [(Value.str (Q [61,48,48]) 213), (Value.str (Q [61,48,49]) 217), (Value.str (Q [61,48,50]) 221), (Value.str (Q [61,48,51]) 225), (Value.str (Q [61,48,52]) 229), (Value.str (Q [61,48,53]) 233), (Value.str (Q [61,48,54]) 237), (Value.str (Q [61,48,55]) 241), (Value.str (Q [61,48,56]) 245), (Value.str (Q [61,48,57]) 249), (Value.str (Q [61,48,65]) 253), (Value.str (Q [61,48,66]) 257), (Value.str (Q [61,48,67]) 261), (Value.str (Q [61,48,68]) 265), (Value.str (Q [61,48,69]) 269), (Value.str (Q [61,48,70]) 273), (Value.str (Q [61,49,48]) 277), (Value.str (Q [61,49,49]) 281), (Value.str (Q [61,49,50]) 285), (Value.str (Q [61,49,51]) 289), (Value.str (Q [61,49,52]) 293), (Value.str (Q [61,49,53]) 297), (Value.str (Q [61,49,54]) 301), (Value.str (Q [61,49,55]) 305), (Value.str (Q [61,49,56]) 309), (Value.str (Q [61,49,57]) 313), (Value.str (Q [61,49,65]) 317), (Value.str (Q [61,49,66]) 321), (Value.str (Q [61,49,67]) 325), (Value.str (Q [61,49,68]) 329), (Value.str (Q [61,49,69]) 333), (Value.str (Q [61,49,70]) 337), (Value.str (Q [61,50,48]) 341), (Value.str (Q [33]) 1264), (Value.str (Q [61,50,50]) 349), (Value.str (Q [61,50,51]) 353), (Value.str (Q [61,50,52]) 357), (Value.str (Q [61,50,53]) 361), (Value.str (Q [61,50,54]) 365), (Value.str (Q [61,50,55]) 369), (Value.str (Q [61,50,56]) 373), (Value.str (Q [61,50,57]) 377), (Value.str (Q [42]) 1267), (Value.str (Q [43]) 1270), (Value.str (Q [61,50,67]) 389), (Value.str (Q [45]) 1261), (Value.str (Q [61,50,69]) 397), (Value.str (Q [47]) 1273), (Value.str (Q [48]) 1432), (Value.str (Q [49]) 1435), (Value.str (Q [50]) 1438), (Value.str (Q [51]) 1441), (Value.str (Q [52]) 1444), (Value.str (Q [53]) 1447), (Value.str (Q [54]) 1450), (Value.str (Q [55]) 1453), (Value.str (Q [56]) 1456), (Value.str (Q [57]) 1459), (Value.str (Q [61,51,65]) 445), (Value.str (Q [61,51,66]) 449), (Value.str (Q [61,51,67]) 453), (Value.str (Q [61,51,68]) 457), (Value.str (Q [61,51,69]) 461), (Value.str (Q [61,51,70]) 465), (Value.str (Q [61,52,48]) 469), (Value.str (Q [65]) 1354), (Value.str (Q [66]) 1357), (Value.str (Q [67]) 1360), (Value.str (Q [68]) 1363), (Value.str (Q [69]) 1366), (Value.str (Q [70]) 1369), (Value.str (Q [71]) 1372), (Value.str (Q [72]) 1375), (Value.str (Q [73]) 1378), (Value.str (Q [74]) 1381), (Value.str (Q [75]) 1384), (Value.str (Q [76]) 1387), (Value.str (Q [77]) 1390), (Value.str (Q [78]) 1393), (Value.str (Q [79]) 1396), (Value.str (Q [80]) 1399), (Value.str (Q [81]) 1402), (Value.str (Q [82]) 1405), (Value.str (Q [83]) 1408), (Value.str (Q [84]) 1411), (Value.str (Q [85]) 1414), (Value.str (Q [86]) 1417), (Value.str (Q [87]) 1420), (Value.str (Q [88]) 1423), (Value.str (Q [89]) 1426), (Value.str (Q [90]) 1429), (Value.str (Q [61,53,66]) 577), (Value.str (Q [61,53,67]) 581), (Value.str (Q [61,53,68]) 585), (Value.str (Q [61,53,69]) 589), (Value.str (Q [61,53,70]) 593), (Value.str (Q [61,54,48]) 597), (Value.str (Q [97]) 1276), (Value.str (Q [98]) 1279), (Value.str (Q [99]) 1282), (Value.str (Q [100]) 1285), (Value.str (Q [101]) 1288), (Value.str (Q [102]) 1291), (Value.str (Q [103]) 1294), (Value.str (Q [104]) 1297), (Value.str (Q [105]) 1300), (Value.str (Q [106]) 1303), (Value.str (Q [107]) 1306), (Value.str (Q [108]) 1309), (Value.str (Q [109]) 1312), (Value.str (Q [110]) 1315), (Value.str (Q [111]) 1318), (Value.str (Q [112]) 1321), (Value.str (Q [113]) 1324), (Value.str (Q [114]) 1327), (Value.str (Q [115]) 1330), (Value.str (Q [116]) 1333), (Value.str (Q [117]) 1336), (Value.str (Q [118]) 1339), (Value.str (Q [119]) 1342), (Value.str (Q [120]) 1345), (Value.str (Q [121]) 1348), (Value.str (Q [122]) 1351), (Value.str (Q [61,55,66]) 705), (Value.str (Q [61,55,67]) 709), (Value.str (Q [61,55,68]) 713), (Value.str (Q [61,55,69]) 717), (Value.str (Q [61,55,70]) 721), (Value.str (Q [61,56,48]) 725), (Value.str (Q [61,56,49]) 729), (Value.str (Q [61,56,50]) 733), (Value.str (Q [61,56,51]) 737), (Value.str (Q [61,56,52]) 741), (Value.str (Q [61,56,53]) 745), (Value.str (Q [61,56,54]) 749), (Value.str (Q [61,56,55]) 753), (Value.str (Q [61,56,56]) 757), (Value.str (Q [61,56,57]) 761), (Value.str (Q [61,56,65]) 765), (Value.str (Q [61,56,66]) 769), (Value.str (Q [61,56,67]) 773), (Value.str (Q [61,56,68]) 777), (Value.str (Q [61,56,69]) 781), (Value.str (Q [61,56,70]) 785), (Value.str (Q [61,57,48]) 789), (Value.str (Q [61,57,49]) 793), (Value.str (Q [61,57,50]) 797), (Value.str (Q [61,57,51]) 801), (Value.str (Q [61,57,52]) 805), (Value.str (Q [61,57,53]) 809), (Value.str (Q [61,57,54]) 813), (Value.str (Q [61,57,55]) 817), (Value.str (Q [61,57,56]) 821), (Value.str (Q [61,57,57]) 825), (Value.str (Q [61,57,65]) 829), (Value.str (Q [61,57,66]) 833), (Value.str (Q [61,57,67]) 837), (Value.str (Q [61,57,68]) 841), (Value.str (Q [61,57,69]) 845), (Value.str (Q [61,57,70]) 849), (Value.str (Q [61,65,48]) 853), (Value.str (Q [61,65,49]) 857), (Value.str (Q [61,65,50]) 861), (Value.str (Q [61,65,51]) 865), (Value.str (Q [61,65,52]) 869), (Value.str (Q [61,65,53]) 873), (Value.str (Q [61,65,54]) 877), (Value.str (Q [61,65,55]) 881), (Value.str (Q [61,65,56]) 885), (Value.str (Q [61,65,57]) 889), (Value.str (Q [61,65,65]) 893), (Value.str (Q [61,65,66]) 897), (Value.str (Q [61,65,67]) 901), (Value.str (Q [61,65,68]) 905), (Value.str (Q [61,65,69]) 909), (Value.str (Q [61,65,70]) 913), (Value.str (Q [61,66,48]) 917), (Value.str (Q [61,66,49]) 921), (Value.str (Q [61,66,50]) 925), (Value.str (Q [61,66,51]) 929), (Value.str (Q [61,66,52]) 933), (Value.str (Q [61,66,53]) 937), (Value.str (Q [61,66,54]) 941), (Value.str (Q [61,66,55]) 945), (Value.str (Q [61,66,56]) 949), (Value.str (Q [61,66,57]) 953), (Value.str (Q [61,66,65]) 957), (Value.str (Q [61,66,66]) 961), (Value.str (Q [61,66,67]) 965), (Value.str (Q [61,66,68]) 969), (Value.str (Q [61,66,69]) 973), (Value.str (Q [61,66,70]) 977), (Value.str (Q [61,67,48]) 981), (Value.str (Q [61,67,49]) 985), (Value.str (Q [61,67,50]) 989), (Value.str (Q [61,67,51]) 993), (Value.str (Q [61,67,52]) 997), (Value.str (Q [61,67,53]) 1001), (Value.str (Q [61,67,54]) 1005), (Value.str (Q [61,67,55]) 1009), (Value.str (Q [61,67,56]) 1013), (Value.str (Q [61,67,57]) 1017), (Value.str (Q [61,67,65]) 1021), (Value.str (Q [61,67,66]) 1025), (Value.str (Q [61,67,67]) 1029), (Value.str (Q [61,67,68]) 1033), (Value.str (Q [61,67,69]) 1037), (Value.str (Q [61,67,70]) 1041), (Value.str (Q [61,68,48]) 1045), (Value.str (Q [61,68,49]) 1049), (Value.str (Q [61,68,50]) 1053), (Value.str (Q [61,68,51]) 1057), (Value.str (Q [61,68,52]) 1061), (Value.str (Q [61,68,53]) 1065), (Value.str (Q [61,68,54]) 1069), (Value.str (Q [61,68,55]) 1073), (Value.str (Q [61,68,56]) 1077), (Value.str (Q [61,68,57]) 1081), (Value.str (Q [61,68,65]) 1085), (Value.str (Q [61,68,66]) 1089), (Value.str (Q [61,68,67]) 1093), (Value.str (Q [61,68,68]) 1097), (Value.str (Q [61,68,69]) 1101), (Value.str (Q [61,68,70]) 1105), (Value.str (Q [61,69,48]) 1109), (Value.str (Q [61,69,49]) 1113), (Value.str (Q [61,69,50]) 1117), (Value.str (Q [61,69,51]) 1121), (Value.str (Q [61,69,52]) 1125), (Value.str (Q [61,69,53]) 1129), (Value.str (Q [61,69,54]) 1133), (Value.str (Q [61,69,55]) 1137), (Value.str (Q [61,69,56]) 1141), (Value.str (Q [61,69,57]) 1145), (Value.str (Q [61,69,65]) 1149), (Value.str (Q [61,69,66]) 1153), (Value.str (Q [61,69,67]) 1157), (Value.str (Q [61,69,68]) 1161), (Value.str (Q [61,69,69]) 1165), (Value.str (Q [61,69,70]) 1169), (Value.str (Q [61,70,48]) 1173), (Value.str (Q [61,70,49]) 1177), (Value.str (Q [61,70,50]) 1181), (Value.str (Q [61,70,51]) 1185), (Value.str (Q [61,70,52]) 1189), (Value.str (Q [61,70,53]) 1193), (Value.str (Q [61,70,54]) 1197), (Value.str (Q [61,70,55]) 1201), (Value.str (Q [61,70,56]) 1205), (Value.str (Q [61,70,57]) 1209), (Value.str (Q [61,70,65]) 1213), (Value.str (Q [61,70,66]) 1217), (Value.str (Q [61,70,67]) 1221), (Value.str (Q [61,70,68]) 1225), (Value.str (Q [61,70,69]) 1229), (Value.str (Q [61,70,70]) 1233)]
noncomputable def o14_29 (P : Params) : Obj := Obj.mk (Value.type PySem.W.SL.s9222952809800978799x4) none (Data.seq (List.toArray L1) 0) (List.toArray [])
noncomputable def o14_30 (P : Params) : Obj := Obj.mk (Value.type PySem.W.SL.s4674234679698826739x5) none (Data.fields (List.toArray [Value.none, Value.none, Value.none])) (List.toArray [])
noncomputable def o14_31 (P : Params) : Obj := Obj.mk (Value.type PySem.W.SL.s9222952809800978799x4) none (Data.seq (List.toArray L0) 0) (List.toArray [])
noncomputable def o14_32 (P : Params) : Obj := Obj.mk (Value.type PySem.W.SL.s1378417608194177226x14) none (Data.fields (List.toArray [Value.none, (Value.int 67 0)])) (List.toArray [])
noncomputable def o14_33 (P : Params) : Obj := Obj.mk (Value.type PySem.W.SL.s2766695959194262286x5) none (Data.seq (List.toArray []) 0) (List.toArray [])
noncomputable def o14_34 (P : Params) : Obj := Obj.mk (Value.type PySem.W.SL.s5991306692159431302x13) none (Data.fields (List.toArray [(Value.ref 33), Value.none, Value.none, Value.none, (Value.bool false), Value.none])) (List.toArray [])
noncomputable def T14 (P : Params) : BT := (BT.node (boot_o_0 P) (BT.node (boot_o_1 P) (BT.node (o14_3 P) (BT.node (boot_o_7 P) (BT.node (o5_15 P) (BT.node (o14_31 P) BT.nil BT.nil) BT.nil) (BT.node (o5_23 P) BT.nil BT.nil)) (BT.node (oB_11 P) (BT.node (o5_19 P) BT.nil BT.nil) (BT.node (o5_27 P) BT.nil BT.nil))) (BT.node (boot_o_5 P) (BT.node (boot_o_9 P) (BT.node (o5_17 P) (BT.node (o14_33 P) BT.nil BT.nil) BT.nil) (BT.node (o5_25 P) BT.nil BT.nil)) (BT.node (oB_13 P) (BT.node (o5_21 P) BT.nil BT.nil) (BT.node (o14_29 P) BT.nil BT.nil)))) (BT.node (boot_o_2 P) (BT.node (boot_o_4 P) (BT.node (boot_o_8 P) (BT.node (o5_16 P) (BT.node (o14_32 P) BT.nil BT.nil) BT.nil) (BT.node (o5_24 P) BT.nil BT.nil)) (BT.node (o5_12 P) (BT.node (o5_20 P) BT.nil BT.nil) (BT.node (o14_28 P) BT.nil BT.nil))) (BT.node (boot_o_6 P) (BT.node (boot_o_10 P) (BT.node (o5_18 P) (BT.node (o14_34 P) BT.nil BT.nil) BT.nil) (BT.node (o5_26 P) BT.nil BT.nil)) (BT.node (oB_14 P) (BT.node (o5_22 P) BT.nil BT.nil) (BT.node (o14_30 P) BT.nil BT.nil)))))
noncomputable def S14 (w : World) (os : OsState) : SharedT := SharedT.mk (T14 w.params) 35 {} (Array.mk []) {} 1460 os
noncomputable def o16_3 (P : Params) : Obj := Obj.mk (Value.type PySem.W.SL.s14018661285674007319x4) none (Data.dict (List.toArray [(DictEntry.mk (PyData.keyHash P (Q [95,95,110,97,109,101,95,95])) (Value.str (Q [95,95,110,97,109,101,95,95]) 165) (Value.str (Q [99,112,121,51,49,51,46,101,109,97,105,108,46,113,117,111,112,114,105,109,105,109,101]) 1250)), (DictEntry.mk (PyData.keyHash P (Q [95,95,100,111,99,95,95])) (Value.str (Q [95,95,100,111,99,95,95]) 166) Value.none), (DictEntry.mk (PyData.keyHash P (Q [95,95,112,97,99,107,97,103,101,95,95])) (Value.str (Q [95,95,112,97,99,107,97,103,101,95,95]) 167) Value.none), (DictEntry.mk (PyData.keyHash P (Q [95,95,108,111,97,100,101,114,95,95])) (Value.str (Q [95,95,108,111,97,100,101,114,95,95]) 168) (Value.builtin PySem.W.SL.s7097527257260152453x26)), (DictEntry.mk (PyData.keyHash P (Q [95,95,115,112,101,99,95,95])) (Value.str (Q [95,95,115,112,101,99,95,95]) 169) Value.none), (DictEntry.mk (PyData.keyHash P (Q [95,95,97,110,110,111,116,97,116,105,111,110,115,95,95])) (Value.str (Q [95,95,97,110,110,111,116,97,116,105,111,110,115,95,95]) 170) (Value.ref 6)), (DictEntry.mk (PyData.keyHash P (Q [95,95,98,117,105,108,116,105,110,115,95,95])) (Value.str (Q [95,95,98,117,105,108,116,105,110,115,95,95]) 171) (Value.ref 4)), (DictEntry.mk (PyData.keyHash P (Q [95,95,102,105,108,101,95,95])) (Value.str (Q [95,95,102,105,108,101,95,95]) 173) (Value.str (Q [47,99,108,97,105,109,47,99,117,116,46,112,121]) 172)), (DictEntry.mk (PyData.keyHash P (Q [95,95,99,97,99,104,101,100,95,95])) (Value.str (Q [95,95,99,97,99,104,101,100,95,95]) 174) Value.none), (DictEntry.mk (PyData.keyHash P (Q [69,76,76,73,80,83,73,83,95,77,65,82,75,69,82])) (Value.str (Q [69,76,76,73,80,83,73,83,95,77,65,82,75,69,82]) 190) (Value.str (Q [46,46,46]) 189)), (DictEntry.mk (PyData.keyHash P (Q [95,101,108,108,105,112,115,105,115,95,109,97,116,99,104])) (Value.str (Q [95,101,108,108,105,112,115,105,115,95,109,97,116,99,104]) 202) (Value.ref 21)), (DictEntry.mk (PyData.keyHash P (Q [67,82,76,70])) (Value.str (Q [67,82,76,70]) 204) (Value.str (Q [13,10]) 203)), (DictEntry.mk (PyData.keyHash P (Q [78,76])) (Value.str (Q [78,76]) 206) (Value.str (Q [10]) 205)), (DictEntry.mk (PyData.keyHash P (Q [95,81,85,79,80,82,73,95,77,65,80])) (Value.str (Q [95,81,85,79,80,82,73,95,77,65,80]) 1234) (Value.ref 24)), (DictEntry.mk (PyData.keyHash P (Q [95,81,85,79,80,82,73,95,72,69,65,68,69,82,95,77,65,80])) (Value.str (Q [95,81,85,79,80,82,73,95,72,69,65,68,69,82,95,77,65,80]) 1235) (Value.ref 29)), (DictEntry.mk (PyData.keyHash P (Q [95,81,85,79,80,82,73,95,66,79,68,89,95,77,65,80])) (Value.str (Q [95,81,85,79,80,82,73,95,66,79,68,89,95,77,65,80]) 1236) (Value.ref 31)), (DictEntry.mk (PyData.keyHash P (Q [97,115,99,105,105,95,108,111,119,101,114,99,97,115,101])) (Value.str (Q [97,115,99,105,105,95,108,111,119,101,114,99,97,115,101]) 1238) (Value.str (Q [97,98,99,100,101,102,103,104,105,106,107,108,109,110,111,112,113,114,115,116,117,118,119,120,121,122]) 1237)), (DictEntry.mk (PyData.keyHash P (Q [97,115,99,105,105,95,117,112,112,101,114,99,97,115,101])) (Value.str (Q [97,115,99,105,105,95,117,112,112,101,114,99,97,115,101]) 1240) (Value.str (Q [65,66,67,68,69,70,71,72,73,74,75,76,77,78,79,80,81,82,83,84,85,86,87,88,89,90]) 1239)), (DictEntry.mk (PyData.keyHash P (Q [97,115,99,105,105,95,108,101,116,116,101,114,115])) (Value.str (Q [97,115,99,105,105,95,108,101,116,116,101,114,115]) 1242) (Value.str (Q [97,98,99,100,101,102,103,104,105,106,107,108,109,110,111,112,113,114,115,116,117,118,119,120,121,122,65,66,67,68,69,70,71,72,73,74,75,76,77,78,79,80,81,82,83,84,85,86,87,88,89,90]) 1241)), (DictEntry.mk (PyData.keyHash P (Q [100,105,103,105,116,115])) (Value.str (Q [100,105,103,105,116,115]) 1244) (Value.str (Q [48,49,50,51,52,53,54,55,56,57]) 1243)), (DictEntry.mk (PyData.keyHash P (Q [104,101,120,100,105,103,105,116,115])) (Value.str (Q [104,101,120,100,105,103,105,116,115]) 1249) (Value.str (Q [48,49,50,51,52,53,54,55,56,57,97,98,99,100,101,102,65,66,67,68,69,70]) 1248)), (DictEntry.mk (PyData.keyHash P (Q [99])) (Value.str (Q [99]) 1260) (Value.int 9 1746))]) 22) (List.toArray [])
noncomputable def L2 : List Value := [(Value.str (Q [61,48,48]) 213), (Value.str (Q [61,48,49]) 217), (Value.str (Q [61,48,50]) 221), (Value.str (Q [61,48,51]) 225), (Value.str (Q [61,48,52]) 229), (Value.str (Q [61,48,53]) 233), (Value.str (Q [61,48,54]) 237), (Value.str (Q [61,48,55]) 241), (Value.str (Q [61,48,56]) 245), (Value.str (Q [61,48,57]) 249), (Value.str (Q [61,48,65]) 253), (Value.str (Q [61,48,66]) 257), (Value.str (Q [61,48,67]) 261), (Value.str (Q [61,48,68]) 265), (Value.str (Q [61,48,69]) 269), (Value.str (Q [61,48,70]) 273), (Value.str (Q [61,49,48]) 277), (Value.str (Q [61,49,49]) 281), (Value.str (Q [61,49,50]) 285), (Value.str (Q [61,49,51]) 289), (Value.str (Q [61,49,52]) 293), (Value.str (Q [61,49,53]) 297), (Value.str (Q [61,49,54]) 301), (Value.str (Q [61,49,55]) 305), (Value.str (Q [61,49,56]) 309), (Value.str (Q [61,49,57]) 313), (Value.str (Q [61,49,65]) 317), (Value.str (Q [61,49,66]) 321), (Value.str (Q [61,49,67]) 325), (Value.str (Q [61,49,68]) 329), (Value.str (Q [61,49,69]) 333), (Value.str (Q [61,49,70]) 337), (Value.str (Q [95]) 1460), (Value.str (Q [33]) 1264), (Value.str (Q [61,50,50]) 349), (Value.str (Q [61,50,51]) 353), (Value.str (Q [61,50,52]) 357), (Value.str (Q [61,50,53]) 361), (Value.str (Q [61,50,54]) 365), (Value.str (Q [61,50,55]) 369), (Value.str (Q [61,50,56]) 373), (Value.str (Q [61,50,57]) 377), (Value.str (Q [42]) 1267), (Value.str (Q [43]) 1270), (Value.str (Q [61,50,67]) 389), (Value.str (Q [45]) 1261), (Value.str (Q [61,50,69]) 397), (Value.str (Q [47]) 1273), (Value.str (Q [48]) 1432), (Value.str (Q [49]) 1435), (Value.str (Q [50]) 1438), (Value.str (Q [51]) 1441), (Value.str (Q [52]) 1444), (Value.str (Q [53]) 1447), (Value.str (Q [54]) 1450), (Value.str (Q [55]) 1453), (Value.str (Q [56]) 1456), (Value.str (Q [57]) 1459), (Value.str (Q [61,51,65]) 445), (Value.str (Q [61,51,66]) 449), (Value.str (Q [61,51,67]) 453), (Value.str (Q [61,51,68]) 457), (Value.str (Q [61,51,69]) 461), (Value.str (Q [61,51,70]) 465), (Value.str (Q [61,52,48]) 469), (Value.str (Q [65]) 1354), (Value.str (Q [66]) 1357), (Value.str (Q [67]) 1360), (Value.str (Q [68]) 1363), (Value.str (Q [69]) 1366), (Value.str (Q [70]) 1369), (Value.str (Q [71]) 1372), (Value.str (Q [72]) 1375), (Value.str (Q [73]) 1378), (Value.str (Q [74]) 1381), (Value.str (Q [75]) 1384), (Value.str (Q [76]) 1387), (Value.str (Q [77]) 1390), (Value.str (Q [78]) 1393), (Value.str (Q [79]) 1396), (Value.str (Q [80]) 1399), (Value.str (Q [81]) 1402), (Value.str (Q [82]) 1405), (Value.str (Q [83]) 1408), (Value.str (Q [84]) 1411), (Value.str (Q [85]) 1414), (Value.str (Q [86]) 1417), (Value.str (Q [87]) 1420), (Value.str (Q [88]) 1423), (Value.str (Q [89]) 1426), (Value.str (Q [90]) 1429), (Value.str (Q [61,53,66]) 577), (Value.str (Q [61,53,67]) 581), (Value.str (Q [61,53,68]) 585), (Value.str (Q [61,53,69]) 589), (Value.str (Q [61,53,70]) 593), (Value.str (Q [61,54,48]) 597), (Value.str (Q [97]) 1276), (Value.str (Q [98]) 1279), (Value.str (Q [99]) 1282), (Value.str (Q [100]) 1285), (Value.str (Q [101]) 1288), (Value.str (Q [102]) 1291), (Value.str (Q [103]) 1294), (Value.str (Q [104]) 1297), (Value.str (Q [105]) 1300), (Value.str (Q [106]) 1303), (Value.str (Q [107]) 1306), (Value.str (Q [108]) 1309), (Value.str (Q [109]) 1312), (Value.str (Q [110]) 1315), (Value.str (Q [111]) 1318), (Value.str (Q [112]) 1321), (Value.str (Q [113]) 1324), (Value.str (Q [114]) 1327), (Value.str (Q [115]) 1330), (Value.str (Q [116]) 1333), (Value.str (Q [117]) 1336), (Value.str (Q [118]) 1339), (Value.str (Q [119]) 1342), (Value.str (Q [120]) 1345), (Value.str (Q [121]) 1348), (Value.str (Q [122]) 1351), (Value.str (Q [61,55,66]) 705), (Value.str (Q [61,55,67]) 709), (Value.str (Q [61,55,68]) 713), (Value.str (Q [61,55,69]) 717), (Value.str (Q [61,55,70]) 721), (Value.str (Q [61,56,48]) 725), (Value.str (Q [61,56,49]) 729), (Value.str (Q [61,56,50]) 733), (Value.str (Q [61,56,51]) 737), (Value.str (Q [61,56,52]) 741), (Value.str (Q [61,56,53]) 745), (Value.str (Q [61,56,54]) 749), (Value.str (Q [61,56,55]) 753), (Value.str (Q [61,56,56]) 757), (Value.str (Q [61,56,57]) 761), (Value.str (Q [61,56,65]) 765), (Value.str (Q [61,56,66]) 769), (Value.str (Q [61,56,67]) 773), (Value.str (Q [61,56,68]) 777), (Value.str (Q [61,56,69]) 781), (Value.str (Q [61,56,70]) 785), (Value.str (Q [61,57,48]) 789), (Value.str (Q [61,57,49]) 793), (Value.str (Q [61,57,50]) 797), (Value.str (Q [61,57,51]) 801), (Value.str (Q [61,57,52]) 805), (Value.str (Q [61,57,53]) 809), (Value.str (Q [61,57,54]) 813), (Value.str (Q [61,57,55]) 817), (Value.str (Q [61,57,56]) 821), (Value.str (Q [61,57,57]) 825), (Value.str (Q [61,57,65]) 829), (Value.str (Q [61,57,66]) 833), (Value.str (Q [61,57,67]) 837), (Value.str (Q [61,57,68]) 841), (Value.str (Q [61,57,69]) 845), (Value.str (Q [61,57,70]) 849), (Value.str (Q [61,65,48]) 853), (Value.str (Q [61,65,49]) 857), (Value.str (Q [61,65,50]) 861), (Value.str (Q [61,65,51]) 865), (Value.str (Q [61,65,52]) 869), (Value.str (Q [61,65,53]) 873), (Value.str (Q [61,65,54]) 877), (Value.str (Q [61,65,55]) 881), (Value.str (Q [61,65,56]) 885), (Value.str (Q [61,65,57]) 889), (Value.str (Q [61,65,65]) 893), (Value.str (Q [61,65,66]) 897), (Value.str (Q [61,65,67]) 901), (Value.str (Q [61,65,68]) 905), (Value.str (Q [61,65,69]) 909), (Value.str (Q [61,65,70]) 913), (Value.str (Q [61,66,48]) 917), (Value.str (Q [61,66,49]) 921), (Value.str (Q [61,66,50]) 925), (Value.str (Q [61,66,51]) 929), (Value.str (Q [61,66,52]) 933), (Value.str (Q [61,66,53]) 937), (Value.str (Q [61,66,54]) 941), (Value.str (Q [61,66,55]) 945), (Value.str (Q [61,66,56]) 949), (Value.str (Q [61,66,57]) 953), (Value.str (Q [61,66,65]) 957), (Value.str (Q [61,66,66]) 961), (Value.str (Q [61,66,67]) 965), (Value.str (Q [61,66,68]) 969), (Value.str (Q [61,66,69]) 973), (Value.str (Q [61,66,70]) 977), (Value.str (Q [61,67,48]) 981), (Value.str (Q [61,67,49]) 985), (Value.str (Q [61,67,50]) 989), (Value.str (Q [61,67,51]) 993), (Value.str (Q [61,67,52]) 997), (Value.str (Q [61,67,53]) 1001), (Value.str (Q [61,67,54]) 1005), (Value.str (Q [61,67,55]) 1009), (Value.str (Q [61,67,56]) 1013), (Value.str (Q [61,67,57]) 1017), (Value.str (Q [61,67,65]) 1021), (Value.str (Q [61,67,66]) 1025), (Value.str (Q [61,67,67]) 1029), (Value.str (Q [61,67,68]) 1033), (Value.str (Q [61,67,69]) 1037), (Value.str (Q [61,67,70]) 1041), (Value.str (Q [61,68,48]) 1045), (Value.str (Q [61,68,49]) 1049), (Value.str (Q [61,68,50]) 1053), (Value.str (Q [61,68,51]) 1057), (Value.str (Q [61,68,52]) 1061), (Value.str (Q [61,68,53]) 1065), (Value.str (Q [61,68,54]) 1069), (Value.str (Q [61,68,55]) 1073), (Value.str (Q [61,68,56]) 1077), (Value.str (Q [61,68,57]) 1081), (Value.str (Q [61,68,65]) 1085), (Value.str (Q [61,68,66]) 1089), (Value.str (Q [61,68,67]) 1093), (Value.str (Q [61,68,68]) 1097), (Value.str (Q [61,68,69]) 1101), (Value.str (Q [61,68,70]) 1105), (Value.str (Q [61,69,48]) 1109), (Value.str (Q [61,69,49]) 1113), (Value.str (Q [61,69,50]) 1117), (Value.str (Q [61,69,51]) 1121), (Value.str (Q [61,69,52]) 1125), (Value.str (Q [61,69,53]) 1129), (Value.str (Q [61,69,54]) 1133), (Value.str (Q [61,69,55]) 1137), (Value.str (Q [61,69,56]) 1141), (Value.str (Q [61,69,57]) 1145), (Value.str (Q [61,69,65]) 1149), (Value.str (Q [61,69,66]) 1153), (Value.str (Q [61,69,67]) 1157), (Value.str (Q [61,69,68]) 1161), (Value.str (Q [61,69,69]) 1165), (Value.str (Q [61,69,70]) 1169), (Value.str (Q [61,70,48]) 1173), (Value.str (Q [61,70,49]) 1177), (Value.str (Q [61,70,50]) 1181), (Value.str (Q [61,70,51]) 1185), (Value.str (Q [61,70,52]) 1189), (Value.str (Q [61,70,53]) 1193), (Value.str (Q [61,70,54]) 1197), (Value.str (Q [61,70,55]) 1201), (Value.str (Q [61,70,56]) 1205), (Value.str (Q [61,70,57]) 1209), (Value.str (Q [61,70,65]) 1213), (Value.str (Q [61,70,66]) 1217), (Value.str (Q [61,70,67]) 1221), (Value.str (Q [61,70,68]) 1225), (Value.str (Q [61,70,69]) 1229), (Value.str (Q [61,70,70]) 1233)]
noncomputable def o16_29 (P : Params) : Obj := Obj.mk (Value.type PySem.W.SL.s9222952809800978799x4) none (Data.seq (List.toArray L2) 0) (List.toArray [])
noncomputable def L3 : List Value := [(Value.str (Q [61,48,48]) 213), (Value.str (Q [61,48,49]) 217), (Value.str (Q [61,48,50]) 221), (Value.str (Q [61,48,51]) 225), (Value.str (Q [61,48,52]) 229), (Value.str (Q [61,48,53]) 233), (Value.str (Q [61,48,54]) 237), (Value.str (Q [61,48,55]) 241), (Value.str (Q [61,48,56]) 245), (Value.str (Q [9]) 1748), (Value.str (Q [61,48,65]) 253), (Value.str (Q [61,48,66]) 257), (Value.str (Q [61,48,67]) 261), (Value.str (Q [61,48,68]) 265), (Value.str (Q [61,48,69]) 269), (Value.str (Q [61,48,70]) 273), (Value.str (Q [61,49,48]) 277), (Value.str (Q [61,49,49]) 281), (Value.str (Q [61,49,50]) 285), (Value.str (Q [61,49,51]) 289), (Value.str (Q [61,49,52]) 293), (Value.str (Q [61,49,53]) 297), (Value.str (Q [61,49,54]) 301), (Value.str (Q [61,49,55]) 305), (Value.str (Q [61,49,56]) 309), (Value.str (Q [61,49,57]) 313), (Value.str (Q [61,49,65]) 317), (Value.str (Q [61,49,66]) 321), (Value.str (Q [61,49,67]) 325), (Value.str (Q [61,49,68]) 329), (Value.str (Q [61,49,69]) 333), (Value.str (Q [61,49,70]) 337), (Value.str (Q [32]) 1466), (Value.str (Q [33]) 1469), (Value.str (Q [34]) 1472), (Value.str (Q [35]) 1475), (Value.str (Q [36]) 1478), (Value.str (Q [37]) 1481), (Value.str (Q [38]) 1484), (Value.str (Q [39]) 1487), (Value.str (Q [40]) 1490), (Value.str (Q [41]) 1493), (Value.str (Q [42]) 1496), (Value.str (Q [43]) 1499), (Value.str (Q [44]) 1502), (Value.str (Q [45]) 1505), (Value.str (Q [46]) 1508), (Value.str (Q [47]) 1511), (Value.str (Q [48]) 1514), (Value.str (Q [49]) 1517), (Value.str (Q [50]) 1520), (Value.str (Q [51]) 1523), (Value.str (Q [52]) 1526), (Value.str (Q [53]) 1529), (Value.str (Q [54]) 1532), (Value.str (Q [55]) 1535), (Value.str (Q [56]) 1538), (Value.str (Q [57]) 1541), (Value.str (Q [58]) 1544), (Value.str (Q [59]) 1547), (Value.str (Q [60]) 1550), (Value.str (Q [61,51,68]) 457), (Value.str (Q [62]) 1553), (Value.str (Q [63]) 1556), (Value.str (Q [64]) 1559), (Value.str (Q [65]) 1562), (Value.str (Q [66]) 1565), (Value.str (Q [67]) 1568), (Value.str (Q [68]) 1571), (Value.str (Q [69]) 1574), (Value.str (Q [70]) 1577), (Value.str (Q [71]) 1580), (Value.str (Q [72]) 1583), (Value.str (Q [73]) 1586), (Value.str (Q [74]) 1589), (Value.str (Q [75]) 1592), (Value.str (Q [76]) 1595), (Value.str (Q [77]) 1598), (Value.str (Q [78]) 1601), (Value.str (Q [79]) 1604), (Value.str (Q [80]) 1607), (Value.str (Q [81]) 1610), (Value.str (Q [82]) 1613), (Value.str (Q [83]) 1616), (Value.str (Q [84]) 1619), (Value.str (Q [85]) 1622), (Value.str (Q [86]) 1625), (Value.str (Q [87]) 1628), (Value.str (Q [88]) 1631), (Value.str (Q [89]) 1634), (Value.str (Q [90]) 1637), (Value.str (Q [91]) 1640), (Value.str (Q [92]) 1643), (Value.str (Q [93]) 1646), (Value.str (Q [94]) 1649), (Value.str (Q [95]) 1652), (Value.str (Q [96]) 1655), (Value.str (Q [97]) 1658), (Value.str (Q [98]) 1661), (Value.str (Q [99]) 1664), (Value.str (Q [100]) 1667), (Value.str (Q [101]) 1670), (Value.str (Q [102]) 1673), (Value.str (Q [103]) 1676), (Value.str (Q [104]) 1679), (Value.str (Q [105]) 1682), (Value.str (Q [106]) 1685), (Value.str (Q [107]) 1688), (Value.str (Q [108]) 1691), (Value.str (Q [109]) 1694), (Value.str (Q [110]) 1697), (Value.str (Q [111]) 1700), (Value.str (Q [112]) 1703), (Value.str (Q [113]) 1706), (Value.str (Q [114]) 1709), (Value.str (Q [115]) 1712), (Value.str (Q [116]) 1715), (Value.str (Q [117]) 1718), (Value.str (Q [118]) 1721), (Value.str (Q [119]) 1724), (Value.str (Q [120]) 1727), (Value.str (Q [121]) 1730), (Value.str (Q [122]) 1733), (Value.str (Q [123]) 1736), (Value.str (Q [124]) 1739), (Value.str (Q [125]) 1742), (Value.str (Q [126]) 1745), (Value.str (Q [61,55,70]) 721), (Value.str (Q [61,56,48]) 725), (Value.str (Q [61,56,49]) 729), (Value.str (Q [61,56,50]) 733), (Value.str (Q [61,56,51]) 737), (Value.str (Q [61,56,52]) 741), (Value.str (Q [61,56,53]) 745), (Value.str (Q [61,56,54]) 749), (Value.str (Q [61,56,55]) 753), (Value.str (Q [61,56,56]) 757), (Value.str (Q [61,56,57]) 761), (Value.str (Q [61,56,65]) 765), (Value.str (Q [61,56,66]) 769), (Value.str (Q [61,56,67]) 773), (Value.str (Q [61,56,68]) 777), (Value.str (Q [61,56,69]) 781), (Value.str (Q [61,56,70]) 785), (Value.str (Q [61,57,48]) 789), (Value.str (Q [61,57,49]) 793), (Value.str (Q [61,57,50]) 797), (Value.str (Q [61,57,51]) 801), (Value.str (Q [61,57,52]) 805), (Value.str (Q [61,57,53]) 809), (Value.str (Q [61,57,54]) 813), (Value.str (Q [61,57,55]) 817), (Value.str (Q [61,57,56]) 821), (Value.str (Q [61,57,57]) 825), (Value.str (Q [61,57,65]) 829), (Value.str (Q [61,57,66]) 833), (Value.str (Q [61,57,67]) 837), (Value.str (Q [61,57,68]) 841), (Value.str (Q [61,57,69]) 845), (Value.str (Q [61,57,70]) 849), (Value.str (Q [61,65,48]) 853), (Value.str (Q [61,65,49]) 857), (Value.str (Q [61,65,50]) 861), (Value.str (Q [61,65,51]) 865), (Value.str (Q [61,65,52]) 869), (Value.str (Q [61,65,53]) 873), (Value.str (Q [61,65,54]) 877), (Value.str (Q [61,65,55]) 881), (Value.str (Q [61,65,56]) 885), (Value.str (Q [61,65,57]) 889), (Value.str (Q [61,65,65]) 893), (Value.str (Q [61,65,66]) 897), (Value.str (Q [61,65,67]) 901), (Value.str (Q [61,65,68]) 905), (Value.str (Q [61,65,69]) 909), (Value.str (Q [61,65,70]) 913), (Value.str (Q [61,66,48]) 917), (Value.str (Q [61,66,49]) 921), (Value.str (Q [61,66,50]) 925), (Value.str (Q [61,66,51]) 929), (Value.str (Q [61,66,52]) 933), (Value.str (Q [61,66,53]) 937), (Value.str (Q [61,66,54]) 941), (Value.str (Q [61,66,55]) 945), (Value.str (Q [61,66,56]) 949), (Value.str (Q [61,66,57]) 953), (Value.str (Q [61,66,65]) 957), (Value.str (Q [61,66,66]) 961), (Value.str (Q [61,66,67]) 965), (Value.str (Q [61,66,68]) 969), (Value.str (Q [61,66,69]) 973), (Value.str (Q [61,66,70]) 977), (Value.str (Q [61,67,48]) 981), (Value.str (Q [61,67,49]) 985), (Value.str (Q [61,67,50]) 989), (Value.str (Q [61,67,51]) 993), (Value.str (Q [61,67,52]) 997), (Value.str (Q [61,67,53]) 1001), (Value.str (Q [61,67,54]) 1005), (Value.str (Q [61,67,55]) 1009), (Value.str (Q [61,67,56]) 1013), (Value.str (Q [61,67,57]) 1017), (Value.str (Q [61,67,65]) 1021), (Value.str (Q [61,67,66]) 1025), (Value.str (Q [61,67,67]) 1029), (Value.str (Q [61,67,68]) 1033), (Value.str (Q [61,67,69]) 1037), (Value.str (Q [61,67,70]) 1041), (Value.str (Q [61,68,48]) 1045), (Value.str (Q [61,68,49]) 1049), (Value.str (Q [61,68,50]) 1053), (Value.str (Q [61,68,51]) 1057), (Value.str (Q [61,68,52]) 1061), (Value.str (Q [61,68,53]) 1065), (Value.str (Q [61,68,54]) 1069), (Value.str (Q [61,68,55]) 1073), (Value.str (Q [61,68,56]) 1077), (Value.str (Q [61,68,57]) 1081), (Value.str (Q [61,68,65]) 1085), (Value.str (Q [61,68,66]) 1089), (Value.str (Q [61,68,67]) 1093), (Value.str (Q [61,68,68]) 1097), (Value.str (Q [61,68,69]) 1101), (Value.str (Q [61,68,70]) 1105), (Value.str (Q [61,69,48]) 1109), (Value.str (Q [61,69,49]) 1113), (Value.str (Q [61,69,50]) 1117), (Value.str (Q [61,69,51]) 1121), (Value.str (Q [61,69,52]) 1125), (Value.str (Q [61,69,53]) 1129), (Value.str (Q [61,69,54]) 1133), (Value.str (Q [61,69,55]) 1137), (Value.str (Q [61,69,56]) 1141), (Value.str (Q [61,69,57]) 1145), (Value.str (Q [61,69,65]) 1149), (Value.str (Q [61,69,66]) 1153), (Value.str (Q [61,69,67]) 1157), (Value.str (Q [61,69,68]) 1161), (Value.str (Q [61,69,69]) 1165), (Value.str (Q [61,69,70]) 1169), (Value.str (Q [61,70,48]) 1173), (Value.str (Q [61,70,49]) 1177), (Value.str (Q [61,70,50]) 1181), (Value.str (Q [61,70,51]) 1185), (Value.str (Q [61,70,52]) 1189), (Value.str (Q [61,70,53]) 1193), (Value.str (Q [61,70,54]) 1197), (Value.str (Q [61,70,55]) 1201), (Value.str (Q [61,70,56]) 1205), (Value.str (Q [61,70,57]) 1209), (Value.str (Q [61,70,65]) 1213), (Value.str (Q [61,70,66]) 1217), (Value.str (Q [61,70,67]) 1221), (Value.str (Q [61,70,68]) 1225), (Value.str (Q [61,70,69]) 1229), (Value.str (Q [61,70,70]) 1233)]
noncomputable def o16_31 (P : Params) : Obj := Obj.mk (Value.type PySem.W.SL.s9222952809800978799x4) none (Data.seq (List.toArray L3) 0) (List.toArray [])
noncomputable def o16_35 (P : Params) : Obj := Obj.mk (Value.type PySem.W.SL.s1378417608194177226x14) none (Data.fields (List.toArray [Value.none, (Value.int 95 0)])) (List.toArray [])
noncomputable def o16_36 (P : Params) : Obj := Obj.mk (Value.type PySem.W.SL.s2766695959194262286x5) none (Data.seq (List.toArray []) 0) (List.toArray [])
noncomputable def o16_37 (P : Params) : Obj := Obj.mk (Value.type PySem.W.SL.s5991306692159431302x13) none (Data.fields (List.toArray [(Value.ref 36), Value.none, Value.none, Value.none, (Value.bool false), Value.none])) (List.toArray [])
noncomputable def T16 (P : Params) : BT := (BT.node (boot_o_0 P) (BT.node (boot_o_1 P) (BT.node (o16_3 P) (BT.node (boot_o_7 P) (BT.node (o5_15 P) (BT.node (o16_31 P) BT.nil BT.nil) BT.nil) (BT.node (o5_23 P) BT.nil BT.nil)) (BT.node (oB_11 P) (BT.node (o5_19 P) (BT.node (o16_35 P) BT.nil BT.nil) BT.nil) (BT.node (o5_27 P) BT.nil BT.nil))) (BT.node (boot_o_5 P) (BT.node (boot_o_9 P) (BT.node (o5_17 P) (BT.node (o14_33 P) BT.nil BT.nil) BT.nil) (BT.node (o5_25 P) BT.nil BT.nil)) (BT.node (oB_13 P) (BT.node (o5_21 P) (BT.node (o16_37 P) BT.nil BT.nil) BT.nil) (BT.node (o16_29 P) BT.nil BT.nil)))) (BT.node (boot_o_2 P) (BT.node (boot_o_4 P) (BT.node (boot_o_8 P) (BT.node (o5_16 P) (BT.node (o14_32 P) BT.nil BT.nil) BT.nil) (BT.node (o5_24 P) BT.nil BT.nil)) (BT.node (o5_12 P) (BT.node (o5_20 P) (BT.node (o16_36 P) BT.nil BT.nil) BT.nil) (BT.node (o14_28 P) BT.nil BT.nil))) (BT.node (boot_o_6 P) (BT.node (boot_o_10 P) (BT.node (o5_18 P) (BT.node (o14_34 P) BT.nil BT.nil) BT.nil) (BT.node (o5_26 P) BT.nil BT.nil)) (BT.node (oB_14 P) (BT.node (o5_22 P) BT.nil BT.nil) (BT.node (o14_30 P) BT.nil BT.nil)))))
noncomputable def S16 (w : World) (os : OsState) : SharedT := SharedT.mk (T16 w.params) 38 {} (Array.mk []) {} 1749 os
noncomputable def o29_3 (P : Params) : Obj := Obj.mk (Value.type PySem.W.SL.s14018661285674007319x4) none (Data.dict (List.toArray [(DictEntry.mk (PyData.keyHash P (Q [95,95,110,97,109,101,95,95])) (Value.str (Q [95,95,110,97,109,101,95,95]) 165) (Value.str (Q [108,97,119,95,114,101,48,48,57,56,95,48,49]) 1804)), (DictEntry.mk (PyData.keyHash P (Q [95,95,100,111,99,95,95])) (Value.str (Q [95,95,100,111,99,95,95]) 166) Value.none), (DictEntry.mk (PyData.keyHash P (Q [95,95,112,97,99,107,97,103,101,95,95])) (Value.str (Q [95,95,112,97,99,107,97,103,101,95,95]) 167) Value.none), (DictEntry.mk (PyData.keyHash P (Q [95,95,108,111,97,100,101,114,95,95])) (Value.str (Q [95,95,108,111,97,100,101,114,95,95]) 168) (Value.builtin PySem.W.SL.s7097527257260152453x26)), (DictEntry.mk (PyData.keyHash P (Q [95,95,115,112,101,99,95,95])) (Value.str (Q [95,95,115,112,101,99,95,95]) 169) Value.none), (DictEntry.mk (PyData.keyHash P (Q [95,95,97,110,110,111,116,97,116,105,111,110,115,95,95])) (Value.str (Q [95,95,97,110,110,111,116,97,116,105,111,110,115,95,95]) 170) (Value.ref 6)), (DictEntry.mk (PyData.keyHash P (Q [95,95,98,117,105,108,116,105,110,115,95,95])) (Value.str (Q [95,95,98,117,105,108,116,105,110,115,95,95]) 171) (Value.ref 4)), (DictEntry.mk (PyData.keyHash P (Q [95,95,102,105,108,101,95,95])) (Value.str (Q [95,95,102,105,108,101,95,95]) 173) (Value.str (Q [47,99,108,97,105,109,47,99,117,116,46,112,121]) 172)), (DictEntry.mk (PyData.keyHash P (Q [95,95,99,97,99,104,101,100,95,95])) (Value.str (Q [95,95,99,97,99,104,101,100,95,95]) 174) Value.none), (DictEntry.mk (PyData.keyHash P (Q [69,76,76,73,80,83,73,83,95,77,65,82,75,69,82])) (Value.str (Q [69,76,76,73,80,83,73,83,95,77,65,82,75,69,82]) 190) (Value.str (Q [46,46,46]) 189)), (DictEntry.mk (PyData.keyHash P (Q [95,101,108,108,105,112,115,105,115,95,109,97,116,99,104])) (Value.str (Q [95,101,108,108,105,112,115,105,115,95,109,97,116,99,104]) 202) (Value.ref 21)), (DictEntry.mk (PyData.keyHash P (Q [67,82,76,70])) (Value.str (Q [67,82,76,70]) 204) (Value.str (Q [13,10]) 203)), (DictEntry.mk (PyData.keyHash P (Q [78,76])) (Value.str (Q [78,76]) 206) (Value.str (Q [10]) 205)), (DictEntry.mk (PyData.keyHash P (Q [95,81,85,79,80,82,73,95,77,65,80])) (Value.str (Q [95,81,85,79,80,82,73,95,77,65,80]) 1234) (Value.ref 24)), (DictEntry.mk (PyData.keyHash P (Q [95,81,85,79,80,82,73,95,72,69,65,68,69,82,95,77,65,80])) (Value.str (Q [95,81,85,79,80,82,73,95,72,69,65,68,69,82,95,77,65,80]) 1235) (Value.ref 29)), (DictEntry.mk (PyData.keyHash P (Q [95,81,85,79,80,82,73,95,66,79,68,89,95,77,65,80])) (Value.str (Q [95,81,85,79,80,82,73,95,66,79,68,89,95,77,65,80]) 1236) (Value.ref 31)), (DictEntry.mk (PyData.keyHash P (Q [97,115,99,105,105,95,108,111,119,101,114,99,97,115,101])) (Value.str (Q [97,115,99,105,105,95,108,111,119,101,114,99,97,115,101]) 1238) (Value.str (Q [97,98,99,100,101,102,103,104,105,106,107,108,109,110,111,112,113,114,115,116,117,118,119,120,121,122]) 1237)), (DictEntry.mk (PyData.keyHash P (Q [97,115,99,105,105,95,117,112,112,101,114,99,97,115,101])) (Value.str (Q [97,115,99,105,105,95,117,112,112,101,114,99,97,115,101]) 1240) (Value.str (Q [65,66,67,68,69,70,71,72,73,74,75,76,77,78,79,80,81,82,83,84,85,86,87,88,89,90]) 1239)), (DictEntry.mk (PyData.keyHash P (Q [97,115,99,105,105,95,108,101,116,116,101,114,115])) (Value.str (Q [97,115,99,105,105,95,108,101,116,116,101,114,115]) 1242) (Value.str (Q [97,98,99,100,101,102,103,104,105,106,107,108,109,110,111,112,113,114,115,116,117,118,119,120,121,122,65,66,67,68,69,70,71,72,73,74,75,76,77,78,79,80,81,82,83,84,85,86,87,88,89,90]) 1241)), (DictEntry.mk (PyData.keyHash P (Q [100,105,103,105,116,115])) (Value.str (Q [100,105,103,105,116,115]) 1244) (Value.str (Q [48,49,50,51,52,53,54,55,56,57]) 1243)), (DictEntry.mk (PyData.keyHash P (Q [104,101,120,100,105,103,105,116,115])) (Value.str (Q [104,101,120,100,105,103,105,116,115]) 1249) (Value.str (Q [48,49,50,51,52,53,54,55,56,57,97,98,99,100,101,102,65,66,67,68,69,70]) 1248)), (DictEntry.mk (PyData.keyHash P (Q [117,110,113,117,111,116,101])) (Value.str (Q [117,110,113,117,111,116,101]) 1755) (Value.ref 44)), (DictEntry.mk (PyData.keyHash P (Q [113,117,111,116,101])) (Value.str (Q [113,117,111,116,101]) 1762) (Value.ref 51)), (DictEntry.mk (PyData.keyHash P (Q [95,81,85,79,80,82,73,95,66,79,68,89,95,69,78,67,79,68,69,95,77,65,80])) (Value.str (Q [95,81,85,79,80,82,73,95,66,79,68,89,95,69,78,67,79,68,69,95,77,65,80]) 1763) (Value.ref 53)), (DictEntry.mk (PyData.keyHash P (Q [98,111,100,121,95,101,110,99,111,100,101])) (Value.str (Q [98,111,100,121,95,101,110,99,111,100,101]) 1790) (Value.ref 64)), (DictEntry.mk (PyData.keyHash P (Q [100,101,99,111,100,101])) (Value.str (Q [100,101,99,111,100,101]) 1803) (Value.ref 72)), (DictEntry.mk (PyData.keyHash P (Q [95,108,97,119,95,100,114,97,119,110])) (Value.str (Q [95,108,97,119,95,100,114,97,119,110]) 1820) (Value.ref 79)), (DictEntry.mk (PyData.keyHash P (Q [95,108,97,119,95,112,97,114,116,115])) (Value.str (Q [95,108,97,119,95,112,97,114,116,115]) 1831) (Value.ref 86)), (DictEntry.mk (PyData.keyHash P (Q [95,108,97,119,95,100,101,97,108,116])) (Value.str (Q [95,108,97,119,95,100,101,97,108,116]) 1842) (Value.ref 93)), (DictEntry.mk (PyData.keyHash P (Q [95,108,97,119,95,114,101,102,117,115,101,100])) (Value.str (Q [95,108,97,119,95,114,101,102,117,115,101,100]) 1850) (Value.ref 100)), (DictEntry.mk (PyData.keyHash P (Q [108,97,119])) (Value.str (Q [108,97,119]) 1856) (Value.ref 105))]) 33) (List.toArray [])
noncomputable def o29_12 (P : Params) : Obj := Obj.mk Value.none none (Data.fields (List.toArray [(Value.int 3 0), (Value.int 0 0), (Value.ref 20), (Value.int 47 0), (Value.int 0 0), (Value.ref 43), (Value.int 49 0), (Value.int 0 0), (Value.ref 50), (Value.int 55 0), (Value.int 0 0), (Value.ref 63), (Value.int 93 0), (Value.int 0 0), (Value.ref 71), (Value.int 124 0), (Value.int 0 0), (Value.ref 78), (Value.int 144 0), (Value.int 0 0), (Value.ref 85), (Value.int 150 0), (Value.int 0 0), (Value.ref 92), (Value.int 166 0), (Value.int 0 0), (Value.ref 99), (Value.int 172 0), (Value.int 0 0), (Value.ref 104)])) (List.toArray [])
noncomputable def o29_38 (P : Params) : Obj := Obj.mk (Value.type PySem.W.SL.s2766695959194262286x5) none (Data.seq (List.toArray []) 0) (List.toArray [])
noncomputable def o29_39 (P : Params) : Obj := Obj.mk Value.none none (Data.fields (List.toArray [])) (List.toArray [])
noncomputable def o29_40 (P : Params) : Obj := Obj.mk (Value.type PySem.W.SL.s2766695959194262286x5) none (Data.seq (List.toArray [(Value.str (Q [115]) 1752)]) 0) (List.toArray [])
noncomputable def o29_41 (P : Params) : Obj := Obj.mk (Value.type PySem.W.SL.s2766695959194262286x5) none (Data.seq (List.toArray []) 0) (List.toArray [])
noncomputable def o29_42 (P : Params) : Obj := Obj.mk Value.none none (Data.func (FuncData.mk (Q [117,110,113,117,111,116,101]) (Q [117,110,113,117,111,116,101]) (argsOf (st 17)) (FuncBody.stmts (bodyOf (st 17))) (scopeOf (st 17)) 0 [] Value.none Value.none Value.none Value.none none Value.none Value.none 0)) (List.toArray [])
noncomputable def o29_43 (P : Params) : Obj := Obj.mk (Value.type PySem.W.SL.s5856160107412720595x4) none (Data.fields (List.toArray [(Value.str (Q [117,110,113,117,111,116,101]) 1749), (Value.str (Q [117,110,113,117,111,116,101]) 1750), (Value.str (Q [47,99,108,97,105,109,47,99,117,116,46,112,121]) 1751), (Value.int 47 0), (Value.int 1 0), (Value.int 0 0), (Value.int 0 0), (Value.int 3 0), (Value.ref 38), (Value.bool true), (Value.int 181 0), (Value.ref 39), Value.none, (Value.ref 40), (Value.ref 41), (Value.ref 42), (Value.int 1753 0), (Value.int 47 0), (Value.str (Q [47,99,108,97,105,109,47,99,117,116,46,112,121]) 1754)])) (List.toArray [])
noncomputable def o29_44 (P : Params) : Obj := Obj.mk (Value.type PySem.W.SL.s7174869446012820540x8) none (Data.func (FuncData.mk (Q [117,110,113,117,111,116,101]) (Q [117,110,113,117,111,116,101]) (argsOf (st 17)) (FuncBody.stmts (bodyOf (st 17))) (scopeOf (st 17)) 3 [] Value.none Value.none Value.none (Value.str (Q [99,112,121,51,49,51,46,101,109,97,105,108,46,113,117,111,112,114,105,109,105,109,101]) 1250) none (Value.ref 43) Value.none 0)) (List.toArray [])
noncomputable def o29_45 (P : Params) : Obj := Obj.mk (Value.type PySem.W.SL.s2766695959194262286x5) none (Data.seq (List.toArray []) 0) (List.toArray [])
noncomputable def o29_46 (P : Params) : Obj := Obj.mk Value.none none (Data.fields (List.toArray [])) (List.toArray [])
noncomputable def o29_47 (P : Params) : Obj := Obj.mk (Value.type PySem.W.SL.s2766695959194262286x5) none (Data.seq (List.toArray [(Value.str (Q [99]) 1759)]) 0) (List.toArray [])
noncomputable def o29_48 (P : Params) : Obj := Obj.mk (Value.type PySem.W.SL.s2766695959194262286x5) none (Data.seq (List.toArray []) 0) (List.toArray [])
noncomputable def o29_49 (P : Params) : Obj := Obj.mk Value.none none (Data.func (FuncData.mk (Q [113,117,111,116,101]) (Q [113,117,111,116,101]) (argsOf (st 18)) (FuncBody.stmts (bodyOf (st 18))) (scopeOf (st 18)) 0 [] Value.none Value.none Value.none Value.none none Value.none Value.none 0)) (List.toArray [])
noncomputable def o29_50 (P : Params) : Obj := Obj.mk (Value.type PySem.W.SL.s5856160107412720595x4) none (Data.fields (List.toArray [(Value.str (Q [113,117,111,116,101]) 1756), (Value.str (Q [113,117,111,116,101]) 1757), (Value.str (Q [47,99,108,97,105,109,47,99,117,116,46,112,121]) 1758), (Value.int 49 0), (Value.int 1 0), (Value.int 0 0), (Value.int 0 0), (Value.int 3 0), (Value.ref 45), (Value.bool true), (Value.int 181 0), (Value.ref 46), Value.none, (Value.ref 47), (Value.ref 48), (Value.ref 49), (Value.int 1760 0), (Value.int 49 0), (Value.str (Q [47,99,108,97,105,109,47,99,117,116,46,112,121]) 1761)])) (List.toArray [])
noncomputable def o29_51 (P : Params) : Obj := Obj.mk (Value.type PySem.W.SL.s7174869446012820540x8) none (Data.func (FuncData.mk (Q [113,117,111,116,101]) (Q [113,117,111,116,101]) (argsOf (st 18)) (FuncBody.stmts (bodyOf (st 18))) (scopeOf (st 18)) 3 [] Value.none Value.none Value.none (Value.str (Q [99,112,121,51,49,51,46,101,109,97,105,108,46,113,117,111,112,114,105,109,105,109,101]) 1250) none (Value.ref 50) Value.none 0)) (List.toArray [])
noncomputable def o29_52 (P : Params) : Obj := Obj.mk (Value.type PySem.W.SL.s4674234679698826739x5) none (Data.fields (List.toArray [Value.none, Value.none, Value.none])) (List.toArray [])
noncomputable def L4 : List Value := [(Value.str (Q [61,48,48]) 213), (Value.str (Q [61,48,49]) 217), (Value.str (Q [61,48,50]) 221), (Value.str (Q [61,48,51]) 225), (Value.str (Q [61,48,52]) 229), (Value.str (Q [61,48,53]) 233), (Value.str (Q [61,48,54]) 237), (Value.str (Q [61,48,55]) 241), (Value.str (Q [61,48,56]) 245), (Value.str (Q [9]) 1748), (Value.str (Q [10]) 1770), (Value.str (Q [61,48,66]) 257), (Value.str (Q [61,48,67]) 261), (Value.str (Q [13]) 1767), (Value.str (Q [61,48,69]) 269), (Value.str (Q [61,48,70]) 273), (Value.str (Q [61,49,48]) 277), (Value.str (Q [61,49,49]) 281), (Value.str (Q [61,49,50]) 285), (Value.str (Q [61,49,51]) 289), (Value.str (Q [61,49,52]) 293), (Value.str (Q [61,49,53]) 297), (Value.str (Q [61,49,54]) 301), (Value.str (Q [61,49,55]) 305), (Value.str (Q [61,49,56]) 309), (Value.str (Q [61,49,57]) 313), (Value.str (Q [61,49,65]) 317), (Value.str (Q [61,49,66]) 321), (Value.str (Q [61,49,67]) 325), (Value.str (Q [61,49,68]) 329), (Value.str (Q [61,49,69]) 333), (Value.str (Q [61,49,70]) 337), (Value.str (Q [32]) 1466), (Value.str (Q [33]) 1469), (Value.str (Q [34]) 1472), (Value.str (Q [35]) 1475), (Value.str (Q [36]) 1478), (Value.str (Q [37]) 1481), (Value.str (Q [38]) 1484), (Value.str (Q [39]) 1487), (Value.str (Q [40]) 1490), (Value.str (Q [41]) 1493), (Value.str (Q [42]) 1496), (Value.str (Q [43]) 1499), (Value.str (Q [44]) 1502), (Value.str (Q [45]) 1505), (Value.str (Q [46]) 1508), (Value.str (Q [47]) 1511), (Value.str (Q [48]) 1514), (Value.str (Q [49]) 1517), (Value.str (Q [50]) 1520), (Value.str (Q [51]) 1523), (Value.str (Q [52]) 1526), (Value.str (Q [53]) 1529), (Value.str (Q [54]) 1532), (Value.str (Q [55]) 1535), (Value.str (Q [56]) 1538), (Value.str (Q [57]) 1541), (Value.str (Q [58]) 1544), (Value.str (Q [59]) 1547), (Value.str (Q [60]) 1550), (Value.str (Q [61,51,68]) 457), (Value.str (Q [62]) 1553), (Value.str (Q [63]) 1556), (Value.str (Q [64]) 1559), (Value.str (Q [65]) 1562), (Value.str (Q [66]) 1565), (Value.str (Q [67]) 1568), (Value.str (Q [68]) 1571), (Value.str (Q [69]) 1574), (Value.str (Q [70]) 1577), (Value.str (Q [71]) 1580), (Value.str (Q [72]) 1583), (Value.str (Q [73]) 1586), (Value.str (Q [74]) 1589), (Value.str (Q [75]) 1592), (Value.str (Q [76]) 1595), (Value.str (Q [77]) 1598), (Value.str (Q [78]) 1601), (Value.str (Q [79]) 1604), (Value.str (Q [80]) 1607), (Value.str (Q [81]) 1610), (Value.str (Q [82]) 1613), (Value.str (Q [83]) 1616), (Value.str (Q [84]) 1619), (Value.str (Q [85]) 1622), (Value.str (Q [86]) 1625), (Value.str (Q [87]) 1628), (Value.str (Q [88]) 1631), (Value.str (Q [89]) 1634), (Value.str (Q [90]) 1637), (Value.str (Q [91]) 1640), (Value.str (Q [92]) 1643), (Value.str (Q [93]) 1646), (Value.str (Q [94]) 1649), (Value.str (Q [95]) 1652), (Value.str (Q [96]) 1655), (Value.str (Q [97]) 1658), (Value.str (Q [98]) 1661), (Value.str (Q [99]) 1664), (Value.str (Q [100]) 1667), (Value.str (Q [101]) 1670), (Value.str (Q [102]) 1673), (Value.str (Q [103]) 1676), (Value.str (Q [104]) 1679), (Value.str (Q [105]) 1682), (Value.str (Q [106]) 1685), (Value.str (Q [107]) 1688), (Value.str (Q [108]) 1691), (Value.str (Q [109]) 1694), (Value.str (Q [110]) 1697), (Value.str (Q [111]) 1700), (Value.str (Q [112]) 1703), (Value.str (Q [113]) 1706), (Value.str (Q [114]) 1709), (Value.str (Q [115]) 1712), (Value.str (Q [116]) 1715), (Value.str (Q [117]) 1718), (Value.str (Q [118]) 1721), (Value.str (Q [119]) 1724), (Value.str (Q [120]) 1727), (Value.str (Q [121]) 1730), (Value.str (Q [122]) 1733), (Value.str (Q [123]) 1736), (Value.str (Q [124]) 1739), (Value.str (Q [125]) 1742), (Value.str (Q [126]) 1745), (Value.str (Q [61,55,70]) 721), (Value.str (Q [61,56,48]) 725), (Value.str (Q [61,56,49]) 729), (Value.str (Q [61,56,50]) 733), (Value.str (Q [61,56,51]) 737), (Value.str (Q [61,56,52]) 741), (Value.str (Q [61,56,53]) 745), (Value.str (Q [61,56,54]) 749), (Value.str (Q [61,56,55]) 753), (Value.str (Q [61,56,56]) 757), (Value.str (Q [61,56,57]) 761), (Value.str (Q [61,56,65]) 765), (Value.str (Q [61,56,66]) 769), (Value.str (Q [61,56,67]) 773), (Value.str (Q [61,56,68]) 777), (Value.str (Q [61,56,69]) 781), (Value.str (Q [61,56,70]) 785), (Value.str (Q [61,57,48]) 789), (Value.str (Q [61,57,49]) 793), (Value.str (Q [61,57,50]) 797), (Value.str (Q [61,57,51]) 801), (Value.str (Q [61,57,52]) 805), (Value.str (Q [61,57,53]) 809), (Value.str (Q [61,57,54]) 813), (Value.str (Q [61,57,55]) 817), (Value.str (Q [61,57,56]) 821), (Value.str (Q [61,57,57]) 825), (Value.str (Q [61,57,65]) 829), (Value.str (Q [61,57,66]) 833), (Value.str (Q [61,57,67]) 837), (Value.str (Q [61,57,68]) 841), (Value.str (Q [61,57,69]) 845), (Value.str (Q [61,57,70]) 849), (Value.str (Q [61,65,48]) 853), (Value.str (Q [61,65,49]) 857), (Value.str (Q [61,65,50]) 861), (Value.str (Q [61,65,51]) 865), (Value.str (Q [61,65,52]) 869), (Value.str (Q [61,65,53]) 873), (Value.str (Q [61,65,54]) 877), (Value.str (Q [61,65,55]) 881), (Value.str (Q [61,65,56]) 885), (Value.str (Q [61,65,57]) 889), (Value.str (Q [61,65,65]) 893), (Value.str (Q [61,65,66]) 897), (Value.str (Q [61,65,67]) 901), (Value.str (Q [61,65,68]) 905), (Value.str (Q [61,65,69]) 909), (Value.str (Q [61,65,70]) 913), (Value.str (Q [61,66,48]) 917), (Value.str (Q [61,66,49]) 921), (Value.str (Q [61,66,50]) 925), (Value.str (Q [61,66,51]) 929), (Value.str (Q [61,66,52]) 933), (Value.str (Q [61,66,53]) 937), (Value.str (Q [61,66,54]) 941), (Value.str (Q [61,66,55]) 945), (Value.str (Q [61,66,56]) 949), (Value.str (Q [61,66,57]) 953), (Value.str (Q [61,66,65]) 957), (Value.str (Q [61,66,66]) 961), (Value.str (Q [61,66,67]) 965), (Value.str (Q [61,66,68]) 969), (Value.str (Q [61,66,69]) 973), (Value.str (Q [61,66,70]) 977), (Value.str (Q [61,67,48]) 981), (Value.str (Q [61,67,49]) 985), (Value.str (Q [61,67,50]) 989), (Value.str (Q [61,67,51]) 993), (Value.str (Q [61,67,52]) 997), (Value.str (Q [61,67,53]) 1001), (Value.str (Q [61,67,54]) 1005), (Value.str (Q [61,67,55]) 1009), (Value.str (Q [61,67,56]) 1013), (Value.str (Q [61,67,57]) 1017), (Value.str (Q [61,67,65]) 1021), (Value.str (Q [61,67,66]) 1025), (Value.str (Q [61,67,67]) 1029), (Value.str (Q [61,67,68]) 1033), (Value.str (Q [61,67,69]) 1037), (Value.str (Q [61,67,70]) 1041), (Value.str (Q [61,68,48]) 1045), (Value.str (Q [61,68,49]) 1049), (Value.str (Q [61,68,50]) 1053), (Value.str (Q [61,68,51]) 1057), (Value.str (Q [61,68,52]) 1061), (Value.str (Q [61,68,53]) 1065), (Value.str (Q [61,68,54]) 1069), (Value.str (Q [61,68,55]) 1073), (Value.str (Q [61,68,56]) 1077), (Value.str (Q [61,68,57]) 1081), (Value.str (Q [61,68,65]) 1085), (Value.str (Q [61,68,66]) 1089), (Value.str (Q [61,68,67]) 1093), (Value.str (Q [61,68,68]) 1097), (Value.str (Q [61,68,69]) 1101), (Value.str (Q [61,68,70]) 1105), (Value.str (Q [61,69,48]) 1109), (Value.str (Q [61,69,49]) 1113), (Value.str (Q [61,69,50]) 1117), (Value.str (Q [61,69,51]) 1121), (Value.str (Q [61,69,52]) 1125), (Value.str (Q [61,69,53]) 1129), (Value.str (Q [61,69,54]) 1133), (Value.str (Q [61,69,55]) 1137), (Value.str (Q [61,69,56]) 1141), (Value.str (Q [61,69,57]) 1145), (Value.str (Q [61,69,65]) 1149), (Value.str (Q [61,69,66]) 1153), (Value.str (Q [61,69,67]) 1157), (Value.str (Q [61,69,68]) 1161), (Value.str (Q [61,69,69]) 1165), (Value.str (Q [61,69,70]) 1169), (Value.str (Q [61,70,48]) 1173), (Value.str (Q [61,70,49]) 1177), (Value.str (Q [61,70,50]) 1181), (Value.str (Q [61,70,51]) 1185), (Value.str (Q [61,70,52]) 1189), (Value.str (Q [61,70,53]) 1193), (Value.str (Q [61,70,54]) 1197), (Value.str (Q [61,70,55]) 1201), (Value.str (Q [61,70,56]) 1205), (Value.str (Q [61,70,57]) 1209), (Value.str (Q [61,70,65]) 1213), (Value.str (Q [61,70,66]) 1217), (Value.str (Q [61,70,67]) 1221), (Value.str (Q [61,70,68]) 1225), (Value.str (Q [61,70,69]) 1229), (Value.str (Q [61,70,70]) 1233)]
noncomputable def o29_53 (P : Params) : Obj := Obj.mk (Value.type PySem.W.SL.s9222952809800978799x4) none (Data.seq (List.toArray L4) 0) (List.toArray [])
noncomputable def o29_54 (P : Params) : Obj := Obj.mk (Value.type PySem.W.SL.s1378417608194177226x14) none (Data.fields (List.toArray [Value.none, (Value.int 2 0)])) (List.toArray [])
noncomputable def o29_55 (P : Params) : Obj := Obj.mk (Value.type PySem.W.SL.s2766695959194262286x5) none (Data.seq (List.toArray []) 0) (List.toArray [])
noncomputable def o29_56 (P : Params) : Obj := Obj.mk (Value.type PySem.W.SL.s5991306692159431302x13) none (Data.fields (List.toArray [(Value.ref 55), Value.none, Value.none, Value.none, (Value.bool false), Value.none])) (List.toArray [])
noncomputable def o29_57 (P : Params) : Obj := Obj.mk (Value.type PySem.W.SL.s2766695959194262286x5) none (Data.seq (List.toArray [(Value.int 76 1771), (Value.str (Q [10]) 205)]) 0) (List.toArray [])
noncomputable def o29_58 (P : Params) : Obj := Obj.mk (Value.type PySem.W.SL.s2766695959194262286x5) none (Data.seq (List.toArray []) 0) (List.toArray [])
noncomputable def o29_59 (P : Params) : Obj := Obj.mk Value.none none (Data.fields (List.toArray [])) (List.toArray [])
noncomputable def o29_60 (P : Params) : Obj := Obj.mk (Value.type PySem.W.SL.s2766695959194262286x5) none (Data.seq (List.toArray [(Value.str (Q [98,111,100,121]) 1775), (Value.str (Q [109,97,120,108,105,110,101,108,101,110]) 1776), (Value.str (Q [101,111,108]) 1777), (Value.str (Q [115,111,102,116,95,98,114,101,97,107]) 1778), (Value.str (Q [109,97,120,108,105,110,101,108,101,110,49]) 1779), (Value.str (Q [101,110,99,111,100,101,100,95,98,111,100,121]) 1780), (Value.str (Q [97,112,112,101,110,100]) 1781), (Value.str (Q [108,105,110,101]) 1782), (Value.str (Q [115,116,97,114,116]) 1783), (Value.str (Q [108,97,115,116,115,116,97,114,116]) 1784), (Value.str (Q [115,116,111,112]) 1785), (Value.str (Q [114,111,111,109]) 1786), (Value.str (Q [113]) 1787)]) 0) (List.toArray [])
noncomputable def o29_61 (P : Params) : Obj := Obj.mk (Value.type PySem.W.SL.s2766695959194262286x5) none (Data.seq (List.toArray []) 0) (List.toArray [])
noncomputable def o29_62 (P : Params) : Obj := Obj.mk Value.none none (Data.func (FuncData.mk (Q [98,111,100,121,95,101,110,99,111,100,101]) (Q [98,111,100,121,95,101,110,99,111,100,101]) (argsOf (st 22)) (FuncBody.stmts (bodyOf (st 22))) (scopeOf (st 22)) 0 [] Value.none Value.none Value.none Value.none none Value.none Value.none 0)) (List.toArray [])
noncomputable def o29_63 (P : Params) : Obj := Obj.mk (Value.type PySem.W.SL.s5856160107412720595x4) none (Data.fields (List.toArray [(Value.str (Q [98,111,100,121,95,101,110,99,111,100,101]) 1772), (Value.str (Q [98,111,100,121,95,101,110,99,111,100,101]) 1773), (Value.str (Q [47,99,108,97,105,109,47,99,117,116,46,112,121]) 1774), (Value.int 55 0), (Value.int 3 0), (Value.int 0 0), (Value.int 0 0), (Value.int 3 0), (Value.ref 58), (Value.bool true), (Value.int 181 0), (Value.ref 59), Value.none, (Value.ref 60), (Value.ref 61), (Value.ref 62), (Value.int 1788 0), (Value.int 55 0), (Value.str (Q [47,99,108,97,105,109,47,99,117,116,46,112,121]) 1789)])) (List.toArray [])
noncomputable def o29_64 (P : Params) : Obj := Obj.mk (Value.type PySem.W.SL.s7174869446012820540x8) none (Data.func (FuncData.mk (Q [98,111,100,121,95,101,110,99,111,100,101]) (Q [98,111,100,121,95,101,110,99,111,100,101]) (argsOf (st 22)) (FuncBody.stmts (bodyOf (st 22))) (scopeOf (st 22)) 3 [] (Value.ref 57) Value.none Value.none (Value.str (Q [99,112,121,51,49,51,46,101,109,97,105,108,46,113,117,111,112,114,105,109,105,109,101]) 1250) none (Value.ref 63) Value.none 0)) (List.toArray [])
noncomputable def o29_65 (P : Params) : Obj := Obj.mk (Value.type PySem.W.SL.s2766695959194262286x5) none (Data.seq (List.toArray [(Value.str (Q [10]) 205)]) 0) (List.toArray [])
noncomputable def o29_66 (P : Params) : Obj := Obj.mk (Value.type PySem.W.SL.s2766695959194262286x5) none (Data.seq (List.toArray []) 0) (List.toArray [])
noncomputable def o29_67 (P : Params) : Obj := Obj.mk Value.none none (Data.fields (List.toArray [])) (List.toArray [])
noncomputable def o29_68 (P : Params) : Obj := Obj.mk (Value.type PySem.W.SL.s2766695959194262286x5) none (Data.seq (List.toArray [(Value.str (Q [101,110,99,111,100,101,100]) 1794), (Value.str (Q [101,111,108]) 1795), (Value.str (Q [100,101,99,111,100,101,100]) 1796), (Value.str (Q [108,105,110,101]) 1797), (Value.str (Q [105]) 1798), (Value.str (Q [110]) 1799), (Value.str (Q [99]) 1800)]) 0) (List.toArray [])
noncomputable def o29_69 (P : Params) : Obj := Obj.mk (Value.type PySem.W.SL.s2766695959194262286x5) none (Data.seq (List.toArray []) 0) (List.toArray [])
noncomputable def o29_70 (P : Params) : Obj := Obj.mk Value.none none (Data.func (FuncData.mk (Q [100,101,99,111,100,101]) (Q [100,101,99,111,100,101]) (argsOf (st 23)) (FuncBody.stmts (bodyOf (st 23))) (scopeOf (st 23)) 0 [] Value.none Value.none Value.none Value.none none Value.none Value.none 0)) (List.toArray [])
noncomputable def o29_71 (P : Params) : Obj := Obj.mk (Value.type PySem.W.SL.s5856160107412720595x4) none (Data.fields (List.toArray [(Value.str (Q [100,101,99,111,100,101]) 1791), (Value.str (Q [100,101,99,111,100,101]) 1792), (Value.str (Q [47,99,108,97,105,109,47,99,117,116,46,112,121]) 1793), (Value.int 93 0), (Value.int 2 0), (Value.int 0 0), (Value.int 0 0), (Value.int 3 0), (Value.ref 66), (Value.bool true), (Value.int 181 0), (Value.ref 67), Value.none, (Value.ref 68), (Value.ref 69), (Value.ref 70), (Value.int 1801 0), (Value.int 93 0), (Value.str (Q [47,99,108,97,105,109,47,99,117,116,46,112,121]) 1802)])) (List.toArray [])
noncomputable def o29_72 (P : Params) : Obj := Obj.mk (Value.type PySem.W.SL.s7174869446012820540x8) none (Data.func (FuncData.mk (Q [100,101,99,111,100,101]) (Q [100,101,99,111,100,101]) (argsOf (st 23)) (FuncBody.stmts (bodyOf (st 23))) (scopeOf (st 23)) 3 [] (Value.ref 65) Value.none Value.none (Value.str (Q [99,112,121,51,49,51,46,101,109,97,105,108,46,113,117,111,112,114,105,109,105,109,101]) 1250) none (Value.ref 71) Value.none 0)) (List.toArray [])
noncomputable def o29_73 (P : Params) : Obj := Obj.mk (Value.type PySem.W.SL.s2766695959194262286x5) none (Data.seq (List.toArray []) 0) (List.toArray [])
noncomputable def o29_74 (P : Params) : Obj := Obj.mk Value.none none (Data.fields (List.toArray [])) (List.toArray [])
noncomputable def o29_75 (P : Params) : Obj := Obj.mk (Value.type PySem.W.SL.s2766695959194262286x5) none (Data.seq (List.toArray [(Value.str (Q [115,99,114,105,112,116]) 1809), (Value.str (Q [115,112,111,116]) 1810), (Value.str (Q [114,111,119,115]) 1811), (Value.str (Q [115,101,101,110]) 1812), (Value.str (Q [120]) 1813), (Value.str (Q [115,105,122,101]) 1814), (Value.str (Q [109,111,114,101]) 1815), (Value.str (Q [101,110,100,95,97,115,107,101,100]) 1816), (Value.str (Q [101,110,100,95,115,101,101,110]) 1817)]) 0) (List.toArray [])
noncomputable def o29_76 (P : Params) : Obj := Obj.mk (Value.type PySem.W.SL.s2766695959194262286x5) none (Data.seq (List.toArray []) 0) (List.toArray [])
noncomputable def o29_77 (P : Params) : Obj := Obj.mk Value.none none (Data.func (FuncData.mk (Q [95,108,97,119,95,100,114,97,119,110]) (Q [95,108,97,119,95,100,114,97,119,110]) (argsOf (st 25)) (FuncBody.stmts (bodyOf (st 25))) (scopeOf (st 25)) 0 [] Value.none Value.none Value.none Value.none none Value.none Value.none 0)) (List.toArray [])
noncomputable def o29_78 (P : Params) : Obj := Obj.mk (Value.type PySem.W.SL.s5856160107412720595x4) none (Data.fields (List.toArray [(Value.str (Q [95,108,97,119,95,100,114,97,119,110]) 1806), (Value.str (Q [95,108,97,119,95,100,114,97,119,110]) 1807), (Value.str (Q [47,99,108,97,105,109,47,99,117,116,46,112,121]) 1808), (Value.int 124 0), (Value.int 1 0), (Value.int 0 0), (Value.int 0 0), (Value.int 3 0), (Value.ref 73), (Value.bool true), (Value.int 181 0), (Value.ref 74), Value.none, (Value.ref 75), (Value.ref 76), (Value.ref 77), (Value.int 1818 0), (Value.int 124 0), (Value.str (Q [47,99,108,97,105,109,47,99,117,116,46,112,121]) 1819)])) (List.toArray [])
noncomputable def o29_79 (P : Params) : Obj := Obj.mk (Value.type PySem.W.SL.s7174869446012820540x8) none (Data.func (FuncData.mk (Q [95,108,97,119,95,100,114,97,119,110]) (Q [95,108,97,119,95,100,114,97,119,110]) (argsOf (st 25)) (FuncBody.stmts (bodyOf (st 25))) (scopeOf (st 25)) 3 [] Value.none Value.none Value.none (Value.str (Q [108,97,119,95,114,101,48,48,57,56,95,48,49]) 1804) none (Value.ref 78) Value.none 0)) (List.toArray [])
noncomputable def o29_80 (P : Params) : Obj := Obj.mk (Value.type PySem.W.SL.s2766695959194262286x5) none (Data.seq (List.toArray []) 0) (List.toArray [])
noncomputable def o29_81 (P : Params) : Obj := Obj.mk Value.none none (Data.fields (List.toArray [])) (List.toArray [])
noncomputable def o29_82 (P : Params) : Obj := Obj.mk (Value.type PySem.W.SL.s2766695959194262286x5) none (Data.seq (List.toArray [(Value.str (Q [114,111,119,115]) 1824), (Value.str (Q [119,105,100,116,104]) 1825), (Value.str (Q [112,97,114,116,115]) 1826), (Value.str (Q [115,105,122,101]) 1827), (Value.str (Q [98,114,101,97,107,115]) 1828)]) 0) (List.toArray [])
noncomputable def o29_83 (P : Params) : Obj := Obj.mk (Value.type PySem.W.SL.s2766695959194262286x5) none (Data.seq (List.toArray []) 0) (List.toArray [])
noncomputable def o29_84 (P : Params) : Obj := Obj.mk Value.none none (Data.func (FuncData.mk (Q [95,108,97,119,95,112,97,114,116,115]) (Q [95,108,97,119,95,112,97,114,116,115]) (argsOf (st 26)) (FuncBody.stmts (bodyOf (st 26))) (scopeOf (st 26)) 0 [] Value.none Value.none Value.none Value.none none Value.none Value.none 0)) (List.toArray [])
noncomputable def o29_85 (P : Params) : Obj := Obj.mk (Value.type PySem.W.SL.s5856160107412720595x4) none (Data.fields (List.toArray [(Value.str (Q [95,108,97,119,95,112,97,114,116,115]) 1821), (Value.str (Q [95,108,97,119,95,112,97,114,116,115]) 1822), (Value.str (Q [47,99,108,97,105,109,47,99,117,116,46,112,121]) 1823), (Value.int 144 0), (Value.int 2 0), (Value.int 0 0), (Value.int 0 0), (Value.int 3 0), (Value.ref 80), (Value.bool true), (Value.int 181 0), (Value.ref 81), Value.none, (Value.ref 82), (Value.ref 83), (Value.ref 84), (Value.int 1829 0), (Value.int 144 0), (Value.str (Q [47,99,108,97,105,109,47,99,117,116,46,112,121]) 1830)])) (List.toArray [])
noncomputable def o29_86 (P : Params) : Obj := Obj.mk (Value.type PySem.W.SL.s7174869446012820540x8) none (Data.func (FuncData.mk (Q [95,108,97,119,95,112,97,114,116,115]) (Q [95,108,97,119,95,112,97,114,116,115]) (argsOf (st 26)) (FuncBody.stmts (bodyOf (st 26))) (scopeOf (st 26)) 3 [] Value.none Value.none Value.none (Value.str (Q [108,97,119,95,114,101,48,48,57,56,95,48,49]) 1804) none (Value.ref 85) Value.none 0)) (List.toArray [])
noncomputable def o29_87 (P : Params) : Obj := Obj.mk (Value.type PySem.W.SL.s2766695959194262286x5) none (Data.seq (List.toArray []) 0) (List.toArray [])
noncomputable def o29_88 (P : Params) : Obj := Obj.mk Value.none none (Data.fields (List.toArray [])) (List.toArray [])
noncomputable def o29_89 (P : Params) : Obj := Obj.mk (Value.type PySem.W.SL.s2766695959194262286x5) none (Data.seq (List.toArray [(Value.str (Q [97,115,107,101,100]) 1835), (Value.str (Q [115,101,101,110]) 1836), (Value.str (Q [116,97,107,101,110]) 1837), (Value.str (Q [106]) 1838), (Value.str (Q [114,111,111,109]) 1839)]) 0) (List.toArray [])
noncomputable def o29_90 (P : Params) : Obj := Obj.mk (Value.type PySem.W.SL.s2766695959194262286x5) none (Data.seq (List.toArray []) 0) (List.toArray [])
noncomputable def o29_91 (P : Params) : Obj := Obj.mk Value.none none (Data.func (FuncData.mk (Q [95,108,97,119,95,100,101,97,108,116]) (Q [95,108,97,119,95,100,101,97,108,116]) (argsOf (st 27)) (FuncBody.stmts (bodyOf (st 27))) (scopeOf (st 27)) 0 [] Value.none Value.none Value.none Value.none none Value.none Value.none 0)) (List.toArray [])
noncomputable def o29_92 (P : Params) : Obj := Obj.mk (Value.type PySem.W.SL.s5856160107412720595x4) none (Data.fields (List.toArray [(Value.str (Q [95,108,97,119,95,100,101,97,108,116]) 1832), (Value.str (Q [95,108,97,119,95,100,101,97,108,116]) 1833), (Value.str (Q [47,99,108,97,105,109,47,99,117,116,46,112,121]) 1834), (Value.int 150 0), (Value.int 2 0), (Value.int 0 0), (Value.int 0 0), (Value.int 3 0), (Value.ref 87), (Value.bool true), (Value.int 181 0), (Value.ref 88), Value.none, (Value.ref 89), (Value.ref 90), (Value.ref 91), (Value.int 1840 0), (Value.int 150 0), (Value.str (Q [47,99,108,97,105,109,47,99,117,116,46,112,121]) 1841)])) (List.toArray [])
noncomputable def o29_93 (P : Params) : Obj := Obj.mk (Value.type PySem.W.SL.s7174869446012820540x8) none (Data.func (FuncData.mk (Q [95,108,97,119,95,100,101,97,108,116]) (Q [95,108,97,119,95,100,101,97,108,116]) (argsOf (st 27)) (FuncBody.stmts (bodyOf (st 27))) (scopeOf (st 27)) 3 [] Value.none Value.none Value.none (Value.str (Q [108,97,119,95,114,101,48,48,57,56,95,48,49]) 1804) none (Value.ref 92) Value.none 0)) (List.toArray [])
noncomputable def o29_94 (P : Params) : Obj := Obj.mk (Value.type PySem.W.SL.s2766695959194262286x5) none (Data.seq (List.toArray []) 0) (List.toArray [])
noncomputable def o29_95 (P : Params) : Obj := Obj.mk Value.none none (Data.fields (List.toArray [])) (List.toArray [])
noncomputable def o29_96 (P : Params) : Obj := Obj.mk (Value.type PySem.W.SL.s2766695959194262286x5) none (Data.seq (List.toArray [(Value.str (Q [116,101,120,116]) 1846), (Value.str (Q [119,105,100,116,104]) 1847)]) 0) (List.toArray [])
noncomputable def o29_97 (P : Params) : Obj := Obj.mk (Value.type PySem.W.SL.s2766695959194262286x5) none (Data.seq (List.toArray []) 0) (List.toArray [])
noncomputable def o29_98 (P : Params) : Obj := Obj.mk Value.none none (Data.func (FuncData.mk (Q [95,108,97,119,95,114,101,102,117,115,101,100]) (Q [95,108,97,119,95,114,101,102,117,115,101,100]) (argsOf (st 28)) (FuncBody.stmts (bodyOf (st 28))) (scopeOf (st 28)) 0 [] Value.none Value.none Value.none Value.none none Value.none Value.none 0)) (List.toArray [])
noncomputable def o29_99 (P : Params) : Obj := Obj.mk (Value.type PySem.W.SL.s5856160107412720595x4) none (Data.fields (List.toArray [(Value.str (Q [95,108,97,119,95,114,101,102,117,115,101,100]) 1843), (Value.str (Q [95,108,97,119,95,114,101,102,117,115,101,100]) 1844), (Value.str (Q [47,99,108,97,105,109,47,99,117,116,46,112,121]) 1845), (Value.int 166 0), (Value.int 2 0), (Value.int 0 0), (Value.int 0 0), (Value.int 3 0), (Value.ref 94), (Value.bool true), (Value.int 181 0), (Value.ref 95), Value.none, (Value.ref 96), (Value.ref 97), (Value.ref 98), (Value.int 1848 0), (Value.int 166 0), (Value.str (Q [47,99,108,97,105,109,47,99,117,116,46,112,121]) 1849)])) (List.toArray [])
noncomputable def o29_100 (P : Params) : Obj := Obj.mk (Value.type PySem.W.SL.s7174869446012820540x8) none (Data.func (FuncData.mk (Q [95,108,97,119,95,114,101,102,117,115,101,100]) (Q [95,108,97,119,95,114,101,102,117,115,101,100]) (argsOf (st 28)) (FuncBody.stmts (bodyOf (st 28))) (scopeOf (st 28)) 3 [] Value.none Value.none Value.none (Value.str (Q [108,97,119,95,114,101,48,48,57,56,95,48,49]) 1804) none (Value.ref 99) Value.none 0)) (List.toArray [])
noncomputable def o29_101 (P : Params) : Obj := Obj.mk (Value.type PySem.W.SL.s2766695959194262286x5) none (Data.seq (List.toArray []) 0) (List.toArray [])
noncomputable def o29_102 (P : Params) : Obj := Obj.mk Value.none none (Data.fields (List.toArray [])) (List.toArray [])
noncomputable def o29_103 (P : Params) : Obj := Obj.mk Value.none none (Data.func (FuncData.mk (Q [108,97,119]) (Q [108,97,119]) (argsOf (st 29)) (FuncBody.stmts (bodyOf (st 29))) (scopeOf (st 29)) 0 [] Value.none Value.none Value.none Value.none none Value.none Value.none 0)) (List.toArray [])
noncomputable def o29_104 (P : Params) : Obj := Obj.mk (Value.type PySem.W.SL.s5856160107412720595x4) none (Data.fields (List.toArray [(Value.str (Q [108,97,119]) 1851), (Value.str (Q [108,97,119]) 1852), (Value.str (Q [47,99,108,97,105,109,47,99,117,116,46,112,121]) 1853), (Value.int 172 0), (Value.int 1 0), (Value.int 0 0), (Value.int 0 0), (Value.int 3 0), (Value.ref 101), (Value.bool true), (Value.int 181 0), (Value.ref 102), Value.none, Value.none, Value.none, (Value.ref 103), (Value.int 1854 0), (Value.int 172 0), (Value.str (Q [47,99,108,97,105,109,47,99,117,116,46,112,121]) 1855)])) (List.toArray [])
noncomputable def o29_105 (P : Params) : Obj := Obj.mk (Value.type PySem.W.SL.s7174869446012820540x8) none (Data.func (FuncData.mk (Q [108,97,119]) (Q [108,97,119]) (argsOf (st 29)) (FuncBody.stmts (bodyOf (st 29))) (scopeOf (st 29)) 3 [] Value.none Value.none Value.none (Value.str (Q [108,97,119,95,114,101,48,48,57,56,95,48,49]) 1804) none (Value.ref 104) Value.none 0)) (List.toArray [])
noncomputable def T29 (P : Params) : BT := (BT.node (boot_o_0 P) (BT.node (boot_o_1 P) (BT.node (o29_3 P) (BT.node (boot_o_7 P) (BT.node (o5_15 P) (BT.node (o16_31 P) (BT.node (o29_63 P) BT.nil BT.nil) (BT.node (o29_95 P) BT.nil BT.nil)) (BT.node (o29_47 P) (BT.node (o29_79 P) BT.nil BT.nil) BT.nil)) (BT.node (o5_23 P) (BT.node (o29_39 P) (BT.node (o29_71 P) BT.nil BT.nil) (BT.node (o29_103 P) BT.nil BT.nil)) (BT.node (o29_55 P) (BT.node (o29_87 P) BT.nil BT.nil) BT.nil))) (BT.node (oB_11 P) (BT.node (o5_19 P) (BT.node (o16_35 P) (BT.node (o29_67 P) BT.nil BT.nil) (BT.node (o29_99 P) BT.nil BT.nil)) (BT.node (o29_51 P) (BT.node (o29_83 P) BT.nil BT.nil) BT.nil)) (BT.node (o5_27 P) (BT.node (o29_43 P) (BT.node (o29_75 P) BT.nil BT.nil) BT.nil) (BT.node (o29_59 P) (BT.node (o29_91 P) BT.nil BT.nil) BT.nil)))) (BT.node (boot_o_5 P) (BT.node (boot_o_9 P) (BT.node (o5_17 P) (BT.node (o14_33 P) (BT.node (o29_65 P) BT.nil BT.nil) (BT.node (o29_97 P) BT.nil BT.nil)) (BT.node (o29_49 P) (BT.node (o29_81 P) BT.nil BT.nil) BT.nil)) (BT.node (o5_25 P) (BT.node (o29_41 P) (BT.node (o29_73 P) BT.nil BT.nil) (BT.node (o29_105 P) BT.nil BT.nil)) (BT.node (o29_57 P) (BT.node (o29_89 P) BT.nil BT.nil) BT.nil))) (BT.node (oB_13 P) (BT.node (o5_21 P) (BT.node (o16_37 P) (BT.node (o29_69 P) BT.nil BT.nil) (BT.node (o29_101 P) BT.nil BT.nil)) (BT.node (o29_53 P) (BT.node (o29_85 P) BT.nil BT.nil) BT.nil)) (BT.node (o16_29 P) (BT.node (o29_45 P) (BT.node (o29_77 P) BT.nil BT.nil) BT.nil) (BT.node (o29_61 P) (BT.node (o29_93 P) BT.nil BT.nil) BT.nil))))) (BT.node (boot_o_2 P) (BT.node (boot_o_4 P) (BT.node (boot_o_8 P) (BT.node (o5_16 P) (BT.node (o14_32 P) (BT.node (o29_64 P) BT.nil BT.nil) (BT.node (o29_96 P) BT.nil BT.nil)) (BT.node (o29_48 P) (BT.node (o29_80 P) BT.nil BT.nil) BT.nil)) (BT.node (o5_24 P) (BT.node (o29_40 P) (BT.node (o29_72 P) BT.nil BT.nil) (BT.node (o29_104 P) BT.nil BT.nil)) (BT.node (o29_56 P) (BT.node (o29_88 P) BT.nil BT.nil) BT.nil))) (BT.node (o29_12 P) (BT.node (o5_20 P) (BT.node (o16_36 P) (BT.node (o29_68 P) BT.nil BT.nil) (BT.node (o29_100 P) BT.nil BT.nil)) (BT.node (o29_52 P) (BT.node (o29_84 P) BT.nil BT.nil) BT.nil)) (BT.node (o14_28 P) (BT.node (o29_44 P) (BT.node (o29_76 P) BT.nil BT.nil) BT.nil) (BT.node (o29_60 P) (BT.node (o29_92 P) BT.nil BT.nil) BT.nil)))) (BT.node (boot_o_6 P) (BT.node (boot_o_10 P) (BT.node (o5_18 P) (BT.node (o14_34 P) (BT.node (o29_66 P) BT.nil BT.nil) (BT.node (o29_98 P) BT.nil BT.nil)) (BT.node (o29_50 P) (BT.node (o29_82 P) BT.nil BT.nil) BT.nil)) (BT.node (o5_26 P) (BT.node (o29_42 P) (BT.node (o29_74 P) BT.nil BT.nil) BT.nil) (BT.node (o29_58 P) (BT.node (o29_90 P) BT.nil BT.nil) BT.nil))) (BT.node (oB_14 P) (BT.node (o5_22 P) (BT.node (o29_38 P) (BT.node (o29_70 P) BT.nil BT.nil) (BT.node (o29_102 P) BT.nil BT.nil)) (BT.node (o29_54 P) (BT.node (o29_86 P) BT.nil BT.nil) BT.nil)) (BT.node (o14_30 P) (BT.node (o29_46 P) (BT.node (o29_78 P) BT.nil BT.nil) BT.nil) (BT.node (o29_62 P) (BT.node (o29_94 P) BT.nil BT.nil) BT.nil))))))
noncomputable def S29 (w : World) (os : OsState) : SharedT := SharedT.mk (T29 w.params) 106 {} (Array.mk []) {} 1857 os
noncomputable def env0 : Env := { scope := pw.main.scope, locals := mainNs, globals := mainNs, cells := [], code := .ref 13, frame := some 14 }
noncomputable def cE : Code := .body (behindTheImports pw) env0
abbrev q0 : Pos := ⟨0, 0, 0, 0⟩
abbrev F0 : List Frame := [topFrame q0]
noncomputable def stsA : List Stmt := (pw.main.body.drop 0).take 6
noncomputable def stsB : List Stmt := (pw.main.body.drop 6).take 9
noncomputable def stsD : List Stmt := (pw.main.body.drop 17).take 13
noncomputable def contRun (w : World) (N : Nat) : Option (SharedT × Thread) → Option (Flow × SharedT × Code × Pos)
  | some x => PySem.W.Fast.tw10110043849684766642 PySem.W.Fast.tw14364793385576792824 pw w 11 (some (.ref 6)) 1 N x.1 x.2
  | none => none
noncomputable def stsC : List Stmt := (pw.main.body.drop 15).take 2
end Mine
end
section
open PySem PySem.W PyProof.Rows PySem.Spec PySem.Calls
set_option maxHeartbeats 0
namespace Mine
noncomputable def midA (w : World) (os : OsState) : Option (SharedT × Thread) := PySem.W.Fast.tw10295753902157049106 PySem.W.Fast.tw14364793385576792824 pw ((w.withFollow "special-get-raises" false).withFollow "comprehension-iter-twice" false) 11 (some (.ref 6)) 1 150 (SB w os) ⟨(PySem.W.Fast.tw12563942051412417395 stsA env0).wrap doneF deadEnd id id, cE, ⟨0, 0, 0, 0⟩, F0⟩
theorem restA (w : World) (os : OsState) : contRun w 9600 (midA w os) = some (.next, S5 w os, cE, ⟨33, 0, 33, 11⟩) := by kernel_rfl
theorem wayA00 (w : World) (os : OsState) : PySem.W.Fast.tw10295753902157049106 PySem.W.Fast.tw14364793385576792824 pw ((w.withFollow "special-get-raises" false).withFollow "comprehension-iter-twice" false) 11 (some (.ref 6)) 1 150 (SB ((w.withFollow "special-get-raises" false).withFollow "comprehension-iter-twice" false) os) ⟨(PySem.W.Fast.tw12563942051412417395 stsA env0).wrap doneF deadEnd id id, cE, ⟨0, 0, 0, 0⟩, F0⟩ = midA ((w.withFollow "special-get-raises" false).withFollow "comprehension-iter-twice" false) os := by kernel_rfl
theorem wayA01 (w : World) (os : OsState) : PySem.W.Fast.tw10295753902157049106 PySem.W.Fast.tw14364793385576792824 pw ((w.withFollow "special-get-raises" false).withFollow "comprehension-iter-twice" true) 11 (some (.ref 6)) 1 140 (SB ((w.withFollow "special-get-raises" false).withFollow "comprehension-iter-twice" true) os) ⟨(PySem.W.Fast.tw12563942051412417395 stsA env0).wrap doneF deadEnd id id, cE, ⟨0, 0, 0, 0⟩, F0⟩ = midA ((w.withFollow "special-get-raises" false).withFollow "comprehension-iter-twice" true) os := by kernel_rfl
theorem wayA10 (w : World) (os : OsState) : PySem.W.Fast.tw10295753902157049106 PySem.W.Fast.tw14364793385576792824 pw ((w.withFollow "special-get-raises" true).withFollow "comprehension-iter-twice" false) 11 (some (.ref 6)) 1 150 (SB ((w.withFollow "special-get-raises" true).withFollow "comprehension-iter-twice" false) os) ⟨(PySem.W.Fast.tw12563942051412417395 stsA env0).wrap doneF deadEnd id id, cE, ⟨0, 0, 0, 0⟩, F0⟩ = midA ((w.withFollow "special-get-raises" true).withFollow "comprehension-iter-twice" false) os := by kernel_rfl
theorem wayA11 (w : World) (os : OsState) : PySem.W.Fast.tw10295753902157049106 PySem.W.Fast.tw14364793385576792824 pw ((w.withFollow "special-get-raises" true).withFollow "comprehension-iter-twice" true) 11 (some (.ref 6)) 1 140 (SB ((w.withFollow "special-get-raises" true).withFollow "comprehension-iter-twice" true) os) ⟨(PySem.W.Fast.tw12563942051412417395 stsA env0).wrap doneF deadEnd id id, cE, ⟨0, 0, 0, 0⟩, F0⟩ = midA ((w.withFollow "special-get-raises" true).withFollow "comprehension-iter-twice" true) os := by kernel_rfl
end Mine
end
section
open PySem PySem.W PyProof.Rows PySem.Spec PySem.Calls
set_option maxHeartbeats 0
namespace Mine
noncomputable def midB (w : World) (os : OsState) : Option (SharedT × Thread) := PySem.W.Fast.tw10295753902157049106 PySem.W.Fast.tw14364793385576792824 pw (w.withFollow "special-get-raises" false) 11 (some (.ref 6)) 1 180 (S5 w os) ⟨(PySem.W.Fast.tw12563942051412417395 stsB env0).wrap doneF deadEnd id id, cE, ⟨33, 0, 33, 11⟩, F0⟩
theorem restB (w : World) (os : OsState) : contRun w 3200 (midB w os) = some (.next, S14 w os, cE, ⟨42, 9, 42, 74⟩) := by kernel_rfl
theorem wayB0 (w : World) (os : OsState) : PySem.W.Fast.tw10295753902157049106 PySem.W.Fast.tw14364793385576792824 pw (w.withFollow "special-get-raises" false) 11 (some (.ref 6)) 1 180 (S5 (w.withFollow "special-get-raises" false) os) ⟨(PySem.W.Fast.tw12563942051412417395 stsB env0).wrap doneF deadEnd id id, cE, ⟨33, 0, 33, 11⟩, F0⟩ = midB (w.withFollow "special-get-raises" false) os := by kernel_rfl
theorem wayB1 (w : World) (os : OsState) : PySem.W.Fast.tw10295753902157049106 PySem.W.Fast.tw14364793385576792824 pw (w.withFollow "special-get-raises" true) 11 (some (.ref 6)) 1 180 (S5 (w.withFollow "special-get-raises" true) os) ⟨(PySem.W.Fast.tw12563942051412417395 stsB env0).wrap doneF deadEnd id id, cE, ⟨33, 0, 33, 11⟩, F0⟩ = midB (w.withFollow "special-get-raises" true) os := by kernel_rfl
end Mine
end
section
open PySem PySem.W PyProof.Rows PySem.Spec PySem.Calls
set_option maxHeartbeats 0
namespace Mine
noncomputable def midC (w : World) (os : OsState) : Option (SharedT × Thread) := PySem.W.Fast.tw10295753902157049106 PySem.W.Fast.tw14364793385576792824 pw (w.withFollow "special-get-raises" false) 11 (some (.ref 6)) 1 36 (S14 w os) ⟨(PySem.W.Fast.tw12563942051412417395 stsC env0).wrap doneF deadEnd id id, cE, ⟨42, 9, 42, 74⟩, F0⟩
theorem restC (w : World) (os : OsState) : contRun w 4400 (midC w os) = some (.next, S16 w os, cE, ⟨45, 9, 45, 110⟩) := by kernel_rfl
theorem wayC0 (w : World) (os : OsState) : PySem.W.Fast.tw10295753902157049106 PySem.W.Fast.tw14364793385576792824 pw (w.withFollow "special-get-raises" false) 11 (some (.ref 6)) 1 36 (S14 (w.withFollow "special-get-raises" false) os) ⟨(PySem.W.Fast.tw12563942051412417395 stsC env0).wrap doneF deadEnd id id, cE, ⟨42, 9, 42, 74⟩, F0⟩ = midC (w.withFollow "special-get-raises" false) os := by kernel_rfl
theorem wayC1 (w : World) (os : OsState) : PySem.W.Fast.tw10295753902157049106 PySem.W.Fast.tw14364793385576792824 pw (w.withFollow "special-get-raises" true) 11 (some (.ref 6)) 1 36 (S14 (w.withFollow "special-get-raises" true) os) ⟨(PySem.W.Fast.tw12563942051412417395 stsC env0).wrap doneF deadEnd id id, cE, ⟨42, 9, 42, 74⟩, F0⟩ = midC (w.withFollow "special-get-raises" true) os := by kernel_rfl
end Mine
end
section
open PySem PySem.W PyProof.Rows PySem.Spec PySem.Calls
set_option maxHeartbeats 0
namespace Mine
noncomputable def midD (w : World) (os : OsState) : Option (SharedT × Thread) := PySem.W.Fast.tw10295753902157049106 PySem.W.Fast.tw14364793385576792824 pw (w.withFollow "special-get-raises" false) 11 (some (.ref 6)) 1 110 (S16 w os) ⟨(PySem.W.Fast.tw12563942051412417395 stsD env0).wrap doneF deadEnd id id, cE, ⟨45, 9, 45, 110⟩, F0⟩
theorem restD (w : World) (os : OsState) : contRun w 600 (midD w os) = some (.next, S29 w os, cE, ⟨172, 0, 197, 78⟩) := by kernel_rfl
theorem wayD0 (w : World) (os : OsState) : PySem.W.Fast.tw10295753902157049106 PySem.W.Fast.tw14364793385576792824 pw (w.withFollow "special-get-raises" false) 11 (some (.ref 6)) 1 110 (S16 (w.withFollow "special-get-raises" false) os) ⟨(PySem.W.Fast.tw12563942051412417395 stsD env0).wrap doneF deadEnd id id, cE, ⟨45, 9, 45, 110⟩, F0⟩ = midD (w.withFollow "special-get-raises" false) os := by kernel_rfl
theorem wayD1 (w : World) (os : OsState) : PySem.W.Fast.tw10295753902157049106 PySem.W.Fast.tw14364793385576792824 pw (w.withFollow "special-get-raises" true) 11 (some (.ref 6)) 1 110 (S16 (w.withFollow "special-get-raises" true) os) ⟨(PySem.W.Fast.tw12563942051412417395 stsD env0).wrap doneF deadEnd id id, cE, ⟨45, 9, 45, 110⟩, F0⟩ = midD (w.withFollow "special-get-raises" true) os := by kernel_rfl
end Mine
end
section
open PySem PySem.W PyProof.Rows PySem.Spec PySem.Calls
set_option maxHeartbeats 0
namespace Mine
theorem h_imp0 (w : World) : importEnds treeTable (opening pw) w 700 (start (opening pw)).1 (start (opening pw)).2 = some ⟨boot_heap w.params, Array.mk [], boot_drawn, boot_toks, (start (opening pw)).1.os⟩ := by kernel_rfl
theorem h_size : ∀ w : World, ((boot_heap w.params).isNs mainGlobals && (Array.mk [] : Array GenState).size == 0, (boot_heap w.params).objs.size, (boot_heap w.params).nsMap mainGlobals "__annotations__") = (true, 11, some (.ref 6)) := fun w => by kernel_rfl
theorem h_pre0 (w : World) (os : OsState) : PySem.W.Fast.tw15667345088766844465 PySem.W.Fast.tw14364793385576792824 pw w 11 (some (.ref 6)) 12 ⟨boot_heap w.params, Array.mk [], boot_drawn, boot_toks, os⟩ (topStub pw) = some ((SB w os).abs, ⟨PySem.W.Fast.tw11892475500146522536 PySem.W.Fast.tw14364793385576792824 cE, cE, q0, F0⟩) := by kernel_rfl
theorem h_block0 (w : World) (os : OsState) : PySem.W.Fast.tw14374325043358763698 PySem.W.Fast.tw14364793385576792824 pw w 11 (some (.ref 6)) 1 1 (SB w os).abs ⟨(PySem.W.Fast.tw1066825118222455980 (behindTheImports pw) env0).wrap (fun _ => doneF .next) deadEnd id id, cE, q0, F0⟩ = some (.next, (SB w os).abs, cE, q0) := by kernel_rfl
theorem h_fin0 (w : World) (os : OsState) : PySem.W.Fast.tw14082659384304107361 PySem.W.Fast.tw14364793385576792824 pw w 11 (some (.ref 6)) 2 (S29 w os).abs ⟨doneF .next, cE, ⟨172, 0, 197, 78⟩, F0⟩ = some (S29 w os).abs := by kernel_rfl
end Mine
end
section
open PySem PySem.W PyProof.Rows PySem.Spec PySem.Calls
set_option maxHeartbeats 0
namespace Mine
def RunOf (w : World) (S T : SharedT) (l : List Stmt) (p q : Pos) : Prop := ∃ n, n ≤ 11000 ∧ segRun treeTable pw w 11 (some (.ref 6)) 1 n S.abs (piecesOf l env0 cE p F0) = some (.next, T.abs, cE, q)
theorem cut_way {w : World} {S T : SharedT} {l : List Stmt} {p q : Pos} {k N : Nat} {mid : Option (SharedT × Thread)} (hk : k + N ≤ 11000)
    (h1 : PySem.W.Fast.tw10295753902157049106 PySem.W.Fast.tw14364793385576792824 pw w 11 (some (.ref 6)) 1 k S ⟨(PySem.W.Fast.tw12563942051412417395 l env0).wrap doneF deadEnd id id, cE, p, F0⟩ = mid)
    (h2 : contRun w N mid = some (.next, T, cE, q)) : RunOf w S T l p q := by
  rw [← PySem.W.Fast.te10295753902157049106, ← PySem.W.Fast.te14364793385576792824, ← PySem.W.Fast.te12563942051412417395] at h1
  cases mid with
  | none => exact nomatch h2
  | some x =>
    obtain ⟨s, t⟩ := x
    have h2 : PySem.W.Fast.tw10110043849684766642 PySem.W.Fast.tw14364793385576792824 pw w 11 (some (.ref 6)) 1 N s t = some (.next, T, cE, q) := h2
    rw [← PySem.W.Fast.te10110043849684766642, ← PySem.W.Fast.te14364793385576792824] at h2
    exact ⟨k + N, hk, seg_go (segGo_of h1) (segRun_of h2)⟩
theorem grpA (w : World) (os : OsState) : RunOf w (SB w os) (S5 w os) stsA ⟨0, 0, 0, 0⟩ ⟨33, 0, 33, 11⟩ := by
  refine byRow2 "comprehension-iter-twice" (P := fun w => RunOf w (SB w os) (S5 w os) stsA ⟨0, 0, 0, 0⟩ ⟨33, 0, 33, 11⟩) (fun w => ?_) (fun w => ?_) w
  · exact byRow2 "special-get-raises" (P := fun w => RunOf (w.withFollow "comprehension-iter-twice" false) (SB (w.withFollow "comprehension-iter-twice" false) os) (S5 (w.withFollow "comprehension-iter-twice" false) os) stsA ⟨0, 0, 0, 0⟩ ⟨33, 0, 33, 11⟩) (fun w => cut_way (by decide) (wayA00 w os) (restA _ os)) (fun w => cut_way (by decide) (wayA10 w os) (restA _ os)) w
  · exact byRow2 "special-get-raises" (P := fun w => RunOf (w.withFollow "comprehension-iter-twice" true) (SB (w.withFollow "comprehension-iter-twice" true) os) (S5 (w.withFollow "comprehension-iter-twice" true) os) stsA ⟨0, 0, 0, 0⟩ ⟨33, 0, 33, 11⟩) (fun w => cut_way (by decide) (wayA01 w os) (restA _ os)) (fun w => cut_way (by decide) (wayA11 w os) (restA _ os)) w
theorem grpB (w : World) (os : OsState) : RunOf w (S5 w os) (S14 w os) stsB ⟨33, 0, 33, 11⟩ ⟨42, 9, 42, 74⟩ :=
  byRow2 "special-get-raises" (P := fun w => RunOf w (S5 w os) (S14 w os) stsB ⟨33, 0, 33, 11⟩ ⟨42, 9, 42, 74⟩) (fun w => cut_way (by decide) (wayB0 w os) (restB _ os)) (fun w => cut_way (by decide) (wayB1 w os) (restB _ os)) w
theorem grpC (w : World) (os : OsState) : RunOf w (S14 w os) (S16 w os) stsC ⟨42, 9, 42, 74⟩ ⟨45, 9, 45, 110⟩ :=
  byRow2 "special-get-raises" (P := fun w => RunOf w (S14 w os) (S16 w os) stsC ⟨42, 9, 42, 74⟩ ⟨45, 9, 45, 110⟩) (fun w => cut_way (by decide) (wayC0 w os) (restC _ os)) (fun w => cut_way (by decide) (wayC1 w os) (restC _ os)) w
theorem grpD (w : World) (os : OsState) : RunOf w (S16 w os) (S29 w os) stsD ⟨45, 9, 45, 110⟩ ⟨172, 0, 197, 78⟩ :=
  byRow2 "special-get-raises" (P := fun w => RunOf w (S16 w os) (S29 w os) stsD ⟨45, 9, 45, 110⟩ ⟨172, 0, 197, 78⟩) (fun w => cut_way (by decide) (wayD0 w os) (restD _ os)) (fun w => cut_way (by decide) (wayD1 w os) (restD _ os)) w
theorem body_split : behindTheImports pw = stsA ++ (stsB ++ (stsC ++ (stsD ++ []))) := by kernel_rfl
noncomputable def H1 (P : Params) : Heap := ⟨⟨(T29 P).list 106⟩, {}⟩
theorem h_run (w : World) (os : OsState) : topRun treeTable pw w 11 (some (.ref 6)) 50000 ⟨boot_heap w.params, Array.mk [], boot_drawn, boot_toks, os⟩ (topStub pw) = some (S29 w os).abs := by
  have hpre := h_pre0 w os
  rw [← PySem.W.Fast.te15667345088766844465, ← PySem.W.Fast.te11892475500146522536, ← PySem.W.Fast.te14364793385576792824] at hpre
  have hblock := h_block0 w os
  rw [← PySem.W.Fast.te14374325043358763698, ← PySem.W.Fast.te1066825118222455980, ← PySem.W.Fast.te14364793385576792824] at hblock
  have hfin := h_fin0 w os
  rw [← PySem.W.Fast.te14082659384304107361, ← PySem.W.Fast.te14364793385576792824] at hfin
  obtain ⟨nD, hnD, hD⟩ := grpD w os
  obtain ⟨nC, hnC, hC⟩ := grpC w os
  obtain ⟨nB, hnB, hB⟩ := grpB w os
  obtain ⟨nA, hnA, hA⟩ := grpA w os
  have kD := piece_app (rest := []) hD (piece_nil hfin)
  have kC := piece_app hC kD
  have kB := piece_app hB kC
  have kA := piece_app hA kB
  rw [← body_split] at kA
  have kb := piece_block hblock kA
  have kp := go_top hpre kb
  have hM : 12 + (1 + (nA + (nB + (nC + (nD + 2))))) + (50000 - (12 + (1 + (nA + (nB + (nC + (nD + 2))))))) = 50000 := by omega
  rw [← hM]
  exact topRun_mono _ _ _ _ _ kp
end Mine
end
section
open PySem PySem.W PyProof.Rows PySem.Spec PySem.Calls
set_option maxHeartbeats 0
namespace Mine
noncomputable def kf21 (P : Params) : Obj := by
  refine (fun (x : Obj) (_ : Obj.mk (Value.type "function") none (Data.func (FuncData.mk (Str.ofString "_ellipsis_match") (Str.ofString "_ellipsis_match") (argsOf (st 2)) (FuncBody.stmts (bodyOf (st 2))) (scopeOf (st 2)) 3 [] Value.none Value.none Value.none (Value.str (Str.ofString "cpy313.doctest") 187) none (Value.ref 20) Value.none 0)) (List.toArray []) = x) => x) ?x ?h
  case h => (dsimp only [st, bodyOf, argsOf, scopeOf, PySem.Challenge.pw_re0098_01, List.drop, List.headD]; exact rfl)
noncomputable def kf44 (P : Params) : Obj := by
  refine (fun (x : Obj) (_ : Obj.mk (Value.type "function") none (Data.func (FuncData.mk (Str.ofString "unquote") (Str.ofString "unquote") (argsOf (st 17)) (FuncBody.stmts (bodyOf (st 17))) (scopeOf (st 17)) 3 [] Value.none Value.none Value.none (Value.str (Str.ofString "cpy313.email.quoprimime") 1250) none (Value.ref 43) Value.none 0)) (List.toArray []) = x) => x) ?x ?h
  case h => (dsimp only [st, bodyOf, argsOf, scopeOf, PySem.Challenge.pw_re0098_01, List.drop, List.headD]; exact rfl)
noncomputable def kf51 (P : Params) : Obj := by
  refine (fun (x : Obj) (_ : Obj.mk (Value.type "function") none (Data.func (FuncData.mk (Str.ofString "quote") (Str.ofString "quote") (argsOf (st 18)) (FuncBody.stmts (bodyOf (st 18))) (scopeOf (st 18)) 3 [] Value.none Value.none Value.none (Value.str (Str.ofString "cpy313.email.quoprimime") 1250) none (Value.ref 50) Value.none 0)) (List.toArray []) = x) => x) ?x ?h
  case h => (dsimp only [st, bodyOf, argsOf, scopeOf, PySem.Challenge.pw_re0098_01, List.drop, List.headD]; exact rfl)
noncomputable def kf64 (P : Params) : Obj := by
  refine (fun (x : Obj) (_ : Obj.mk (Value.type "function") none (Data.func (FuncData.mk (Str.ofString "body_encode") (Str.ofString "body_encode") (argsOf (st 22)) (FuncBody.stmts (bodyOf (st 22))) (scopeOf (st 22)) 3 [] (Value.ref 57) Value.none Value.none (Value.str (Str.ofString "cpy313.email.quoprimime") 1250) none (Value.ref 63) Value.none 0)) (List.toArray []) = x) => x) ?x ?h
  case h => (dsimp only [st, bodyOf, argsOf, scopeOf, PySem.Challenge.pw_re0098_01, List.drop, List.headD]; exact rfl)
noncomputable def kf72 (P : Params) : Obj := by
  refine (fun (x : Obj) (_ : Obj.mk (Value.type "function") none (Data.func (FuncData.mk (Str.ofString "decode") (Str.ofString "decode") (argsOf (st 23)) (FuncBody.stmts (bodyOf (st 23))) (scopeOf (st 23)) 3 [] (Value.ref 65) Value.none Value.none (Value.str (Str.ofString "cpy313.email.quoprimime") 1250) none (Value.ref 71) Value.none 0)) (List.toArray []) = x) => x) ?x ?h
  case h => (dsimp only [st, bodyOf, argsOf, scopeOf, PySem.Challenge.pw_re0098_01, List.drop, List.headD]; exact rfl)
noncomputable def kf79 (P : Params) : Obj := by
  refine (fun (x : Obj) (_ : Obj.mk (Value.type "function") none (Data.func (FuncData.mk (Str.ofString "_law_drawn") (Str.ofString "_law_drawn") (argsOf (st 25)) (FuncBody.stmts (bodyOf (st 25))) (scopeOf (st 25)) 3 [] Value.none Value.none Value.none (Value.str (Str.ofString "law_re0098_01") 1804) none (Value.ref 78) Value.none 0)) (List.toArray []) = x) => x) ?x ?h
  case h => (dsimp only [st, bodyOf, argsOf, scopeOf, PySem.Challenge.pw_re0098_01, List.drop, List.headD]; exact rfl)
noncomputable def kf86 (P : Params) : Obj := by
  refine (fun (x : Obj) (_ : Obj.mk (Value.type "function") none (Data.func (FuncData.mk (Str.ofString "_law_parts") (Str.ofString "_law_parts") (argsOf (st 26)) (FuncBody.stmts (bodyOf (st 26))) (scopeOf (st 26)) 3 [] Value.none Value.none Value.none (Value.str (Str.ofString "law_re0098_01") 1804) none (Value.ref 85) Value.none 0)) (List.toArray []) = x) => x) ?x ?h
  case h => (dsimp only [st, bodyOf, argsOf, scopeOf, PySem.Challenge.pw_re0098_01, List.drop, List.headD]; exact rfl)
noncomputable def kf93 (P : Params) : Obj := by
  refine (fun (x : Obj) (_ : Obj.mk (Value.type "function") none (Data.func (FuncData.mk (Str.ofString "_law_dealt") (Str.ofString "_law_dealt") (argsOf (st 27)) (FuncBody.stmts (bodyOf (st 27))) (scopeOf (st 27)) 3 [] Value.none Value.none Value.none (Value.str (Str.ofString "law_re0098_01") 1804) none (Value.ref 92) Value.none 0)) (List.toArray []) = x) => x) ?x ?h
  case h => (dsimp only [st, bodyOf, argsOf, scopeOf, PySem.Challenge.pw_re0098_01, List.drop, List.headD]; exact rfl)
noncomputable def kf100 (P : Params) : Obj := by
  refine (fun (x : Obj) (_ : Obj.mk (Value.type "function") none (Data.func (FuncData.mk (Str.ofString "_law_refused") (Str.ofString "_law_refused") (argsOf (st 28)) (FuncBody.stmts (bodyOf (st 28))) (scopeOf (st 28)) 3 [] Value.none Value.none Value.none (Value.str (Str.ofString "law_re0098_01") 1804) none (Value.ref 99) Value.none 0)) (List.toArray []) = x) => x) ?x ?h
  case h => (dsimp only [st, bodyOf, argsOf, scopeOf, PySem.Challenge.pw_re0098_01, List.drop, List.headD]; exact rfl)
noncomputable def kf105 (P : Params) : Obj := by
  refine (fun (x : Obj) (_ : Obj.mk (Value.type "function") none (Data.func (FuncData.mk (Str.ofString "law") (Str.ofString "law") (argsOf (st 29)) (FuncBody.stmts (bodyOf (st 29))) (scopeOf (st 29)) 3 [] Value.none Value.none Value.none (Value.str (Str.ofString "law_re0098_01") 1804) none (Value.ref 104) Value.none 0)) (List.toArray []) = x) => x) ?x ?h
  case h => (dsimp only [st, bodyOf, argsOf, scopeOf, PySem.Challenge.pw_re0098_01, List.drop, List.headD]; exact rfl)
noncomputable def heap (P : Params) : Frag :=
    (nat_lit 2, Obj.mk Value.none none (Data.dict (List.toArray []) 0) (List.toArray [])) ::
    (nat_lit 3, Obj.mk (Value.type "dict") none (Data.dict (List.toArray [(DictEntry.mk (PyData.keyHash P (Str.ofString "__name__")) (Value.str (Str.ofString "__name__") 165) (Value.str (Str.ofString "law_re0098_01") 1804)), (DictEntry.mk (PyData.keyHash P (Str.ofString "__doc__")) (Value.str (Str.ofString "__doc__") 166) Value.none), (DictEntry.mk (PyData.keyHash P (Str.ofString "__package__")) (Value.str (Str.ofString "__package__") 167) Value.none), (DictEntry.mk (PyData.keyHash P (Str.ofString "__loader__")) (Value.str (Str.ofString "__loader__") 168) (Value.builtin "__main__.__loader__#opaque")), (DictEntry.mk (PyData.keyHash P (Str.ofString "__spec__")) (Value.str (Str.ofString "__spec__") 169) Value.none), (DictEntry.mk (PyData.keyHash P (Str.ofString "__annotations__")) (Value.str (Str.ofString "__annotations__") 170) (Value.ref 6)), (DictEntry.mk (PyData.keyHash P (Str.ofString "__builtins__")) (Value.str (Str.ofString "__builtins__") 171) (Value.ref 4)), (DictEntry.mk (PyData.keyHash P (Str.ofString "__file__")) (Value.str (Str.ofString "__file__") 173) (Value.str (Str.ofString "/claim/cut.py") 172)), (DictEntry.mk (PyData.keyHash P (Str.ofString "__cached__")) (Value.str (Str.ofString "__cached__") 174) Value.none), (DictEntry.mk (PyData.keyHash P (Str.ofString "ELLIPSIS_MARKER")) (Value.str (Str.ofString "ELLIPSIS_MARKER") 190) (Value.str (Str.ofString "...") 189)), (DictEntry.mk (PyData.keyHash P (Str.ofString "_ellipsis_match")) (Value.str (Str.ofString "_ellipsis_match") 202) (Value.ref 21)), (DictEntry.mk (PyData.keyHash P (Str.ofString "CRLF")) (Value.str (Str.ofString "CRLF") 204) (Value.str (Str.ofString "\x0d\n") 203)), (DictEntry.mk (PyData.keyHash P (Str.ofString "NL")) (Value.str (Str.ofString "NL") 206) (Value.str (Str.ofString "\n") 205)), (DictEntry.mk (PyData.keyHash P (Str.ofString "_QUOPRI_MAP")) (Value.str (Str.ofString "_QUOPRI_MAP") 1234) (Value.ref 24)), (DictEntry.mk (PyData.keyHash P (Str.ofString "_QUOPRI_HEADER_MAP")) (Value.str (Str.ofString "_QUOPRI_HEADER_MAP") 1235) (Value.ref 29)), (DictEntry.mk (PyData.keyHash P (Str.ofString "_QUOPRI_BODY_MAP")) (Value.str (Str.ofString "_QUOPRI_BODY_MAP") 1236) (Value.ref 31)), (DictEntry.mk (PyData.keyHash P (Str.ofString "ascii_lowercase")) (Value.str (Str.ofString "ascii_lowercase") 1238) (Value.str (Str.ofString "abcdefghijklmnopqrstuvwxyz") 1237)), (DictEntry.mk (PyData.keyHash P (Str.ofString "ascii_uppercase")) (Value.str (Str.ofString "ascii_uppercase") 1240) (Value.str (Str.ofString "ABCDEFGHIJKLMNOPQRSTUVWXYZ") 1239)), (DictEntry.mk (PyData.keyHash P (Str.ofString "ascii_letters")) (Value.str (Str.ofString "ascii_letters") 1242) (Value.str (Str.ofString "abcdefghijklmnopqrstuvwxyzABCDEFGHIJKLMNOPQRSTUVWXYZ") 1241)), (DictEntry.mk (PyData.keyHash P (Str.ofString "digits")) (Value.str (Str.ofString "digits") 1244) (Value.str (Str.ofString "0123456789") 1243)), (DictEntry.mk (PyData.keyHash P (Str.ofString "hexdigits")) (Value.str (Str.ofString "hexdigits") 1249) (Value.str (Str.ofString "0123456789abcdefABCDEF") 1248)), (DictEntry.mk (PyData.keyHash P (Str.ofString "unquote")) (Value.str (Str.ofString "unquote") 1755) (Value.ref 44)), (DictEntry.mk (PyData.keyHash P (Str.ofString "quote")) (Value.str (Str.ofString "quote") 1762) (Value.ref 51)), (DictEntry.mk (PyData.keyHash P (Str.ofString "_QUOPRI_BODY_ENCODE_MAP")) (Value.str (Str.ofString "_QUOPRI_BODY_ENCODE_MAP") 1763) (Value.ref 53)), (DictEntry.mk (PyData.keyHash P (Str.ofString "body_encode")) (Value.str (Str.ofString "body_encode") 1790) (Value.ref 64)), (DictEntry.mk (PyData.keyHash P (Str.ofString "decode")) (Value.str (Str.ofString "decode") 1803) (Value.ref 72)), (DictEntry.mk (PyData.keyHash P (Str.ofString "_law_drawn")) (Value.str (Str.ofString "_law_drawn") 1820) (Value.ref 79)), (DictEntry.mk (PyData.keyHash P (Str.ofString "_law_parts")) (Value.str (Str.ofString "_law_parts") 1831) (Value.ref 86)), (DictEntry.mk (PyData.keyHash P (Str.ofString "_law_dealt")) (Value.str (Str.ofString "_law_dealt") 1842) (Value.ref 93)), (DictEntry.mk (PyData.keyHash P (Str.ofString "_law_refused")) (Value.str (Str.ofString "_law_refused") 1850) (Value.ref 100)), (DictEntry.mk (PyData.keyHash P (Str.ofString "law")) (Value.str (Str.ofString "law") 1856) (Value.ref 105))]) 33) (List.toArray [])) ::
    (nat_lit 6, Obj.mk (Value.type "dict") none (Data.dict (List.toArray []) 0) (List.toArray [])) ::
    (nat_lit 15, Obj.mk (Value.type "tuple") none (Data.seq (List.toArray []) 0) (List.toArray [])) ::
    (nat_lit 17, Obj.mk (Value.type "tuple") none (Data.seq (List.toArray [(Value.str (Str.ofString "want") 194), (Value.str (Str.ofString "got") 195), (Value.str (Str.ofString "ws") 196), (Value.str (Str.ofString "startpos") 197), (Value.str (Str.ofString "endpos") 198), (Value.str (Str.ofString "w") 199)]) 0) (List.toArray [])) ::
    (nat_lit 18, Obj.mk (Value.type "tuple") none (Data.seq (List.toArray []) 0) (List.toArray [])) ::
    (nat_lit 20, Obj.mk (Value.type "code") none (Data.fields (List.toArray [(Value.str (Str.ofString "_ellipsis_match") 191), (Value.str (Str.ofString "_ellipsis_match") 192), (Value.str (Str.ofString "/claim/cut.py") 193), (Value.int 3 0), (Value.int 2 0), (Value.int 0 0), (Value.int 0 0), (Value.int 3 0), (Value.ref 15), (Value.bool true), (Value.int 181 0), (Value.ref 16), Value.none, (Value.ref 17), (Value.ref 18), (Value.ref 19), (Value.int 200 0), (Value.int 3 0), (Value.str (Str.ofString "/claim/cut.py") 201)])) (List.toArray [])) ::
    (nat_lit 21, kf21 P) ::
    (nat_lit 38, Obj.mk (Value.type "tuple") none (Data.seq (List.toArray []) 0) (List.toArray [])) ::
    (nat_lit 40, Obj.mk (Value.type "tuple") none (Data.seq (List.toArray [(Value.str (Str.ofString "s") 1752)]) 0) (List.toArray [])) ::
    (nat_lit 41, Obj.mk (Value.type "tuple") none (Data.seq (List.toArray []) 0) (List.toArray [])) ::
    (nat_lit 43, Obj.mk (Value.type "code") none (Data.fields (List.toArray [(Value.str (Str.ofString "unquote") 1749), (Value.str (Str.ofString "unquote") 1750), (Value.str (Str.ofString "/claim/cut.py") 1751), (Value.int 47 0), (Value.int 1 0), (Value.int 0 0), (Value.int 0 0), (Value.int 3 0), (Value.ref 38), (Value.bool true), (Value.int 181 0), (Value.ref 39), Value.none, (Value.ref 40), (Value.ref 41), (Value.ref 42), (Value.int 1753 0), (Value.int 47 0), (Value.str (Str.ofString "/claim/cut.py") 1754)])) (List.toArray [])) ::
    (nat_lit 44, kf44 P) ::
    (nat_lit 45, Obj.mk (Value.type "tuple") none (Data.seq (List.toArray []) 0) (List.toArray [])) ::
    (nat_lit 47, Obj.mk (Value.type "tuple") none (Data.seq (List.toArray [(Value.str (Str.ofString "c") 1759)]) 0) (List.toArray [])) ::
    (nat_lit 48, Obj.mk (Value.type "tuple") none (Data.seq (List.toArray []) 0) (List.toArray [])) ::
    (nat_lit 50, Obj.mk (Value.type "code") none (Data.fields (List.toArray [(Value.str (Str.ofString "quote") 1756), (Value.str (Str.ofString "quote") 1757), (Value.str (Str.ofString "/claim/cut.py") 1758), (Value.int 49 0), (Value.int 1 0), (Value.int 0 0), (Value.int 0 0), (Value.int 3 0), (Value.ref 45), (Value.bool true), (Value.int 181 0), (Value.ref 46), Value.none, (Value.ref 47), (Value.ref 48), (Value.ref 49), (Value.int 1760 0), (Value.int 49 0), (Value.str (Str.ofString "/claim/cut.py") 1761)])) (List.toArray [])) ::
    (nat_lit 51, kf51 P) ::
    (nat_lit 53, Obj.mk (Value.type "list") none (Data.seq (List.toArray [(Value.str (Str.ofString "=00") 213), (Value.str (Str.ofString "=01") 217), (Value.str (Str.ofString "=02") 221), (Value.str (Str.ofString "=03") 225), (Value.str (Str.ofString "=04") 229), (Value.str (Str.ofString "=05") 233), (Value.str (Str.ofString "=06") 237), (Value.str (Str.ofString "=07") 241), (Value.str (Str.ofString "=08") 245), (Value.str (Str.ofString "\t") 1748), (Value.str (Str.ofString "\n") 1770), (Value.str (Str.ofString "=0B") 257), (Value.str (Str.ofString "=0C") 261), (Value.str (Str.ofString "\x0d") 1767), (Value.str (Str.ofString "=0E") 269), (Value.str (Str.ofString "=0F") 273), (Value.str (Str.ofString "=10") 277), (Value.str (Str.ofString "=11") 281), (Value.str (Str.ofString "=12") 285), (Value.str (Str.ofString "=13") 289), (Value.str (Str.ofString "=14") 293), (Value.str (Str.ofString "=15") 297), (Value.str (Str.ofString "=16") 301), (Value.str (Str.ofString "=17") 305), (Value.str (Str.ofString "=18") 309), (Value.str (Str.ofString "=19") 313), (Value.str (Str.ofString "=1A") 317), (Value.str (Str.ofString "=1B") 321), (Value.str (Str.ofString "=1C") 325), (Value.str (Str.ofString "=1D") 329), (Value.str (Str.ofString "=1E") 333), (Value.str (Str.ofString "=1F") 337), (Value.str (Str.ofString " ") 1466), (Value.str (Str.ofString "!") 1469), (Value.str (Str.ofString "\"") 1472), (Value.str (Str.ofString "#") 1475), (Value.str (Str.ofString "$") 1478), (Value.str (Str.ofString "%") 1481), (Value.str (Str.ofString "&") 1484), (Value.str (Str.ofString "'") 1487), (Value.str (Str.ofString "(") 1490), (Value.str (Str.ofString ")") 1493), (Value.str (Str.ofString "*") 1496), (Value.str (Str.ofString "+") 1499), (Value.str (Str.ofString ",") 1502), (Value.str (Str.ofString "-") 1505), (Value.str (Str.ofString ".") 1508), (Value.str (Str.ofString "/") 1511), (Value.str (Str.ofString "0") 1514), (Value.str (Str.ofString "1") 1517), (Value.str (Str.ofString "2") 1520), (Value.str (Str.ofString "3") 1523), (Value.str (Str.ofString "4") 1526), (Value.str (Str.ofString "5") 1529), (Value.str (Str.ofString "6") 1532), (Value.str (Str.ofString "7") 1535), (Value.str (Str.ofString "8") 1538), (Value.str (Str.ofString "9") 1541), (Value.str (Str.ofString ":") 1544), (Value.str (Str.ofString ";") 1547), (Value.str (Str.ofString "<") 1550), (Value.str (Str.ofString "=3D") 457), (Value.str (Str.ofString ">") 1553), (Value.str (Str.ofString "?") 1556), (Value.str (Str.ofString "@") 1559), (Value.str (Str.ofString "A") 1562), (Value.str (Str.ofString "B") 1565), (Value.str (Str.ofString "C") 1568), (Value.str (Str.ofString "D") 1571), (Value.str (Str.ofString "E") 1574), (Value.str (Str.ofString "F") 1577), (Value.str (Str.ofString "G") 1580), (Value.str (Str.ofString "H") 1583), (Value.str (Str.ofString "I") 1586), (Value.str (Str.ofString "J") 1589), (Value.str (Str.ofString "K") 1592), (Value.str (Str.ofString "L") 1595), (Value.str (Str.ofString "M") 1598), (Value.str (Str.ofString "N") 1601), (Value.str (Str.ofString "O") 1604), (Value.str (Str.ofString "P") 1607), (Value.str (Str.ofString "Q") 1610), (Value.str (Str.ofString "R") 1613), (Value.str (Str.ofString "S") 1616), (Value.str (Str.ofString "T") 1619), (Value.str (Str.ofString "U") 1622), (Value.str (Str.ofString "V") 1625), (Value.str (Str.ofString "W") 1628), (Value.str (Str.ofString "X") 1631), (Value.str (Str.ofString "Y") 1634), (Value.str (Str.ofString "Z") 1637), (Value.str (Str.ofString "[") 1640), (Value.str (Str.ofString "\\") 1643), (Value.str (Str.ofString "]") 1646), (Value.str (Str.ofString "^") 1649), (Value.str (Str.ofString "_") 1652), (Value.str (Str.ofString "`") 1655), (Value.str (Str.ofString "a") 1658), (Value.str (Str.ofString "b") 1661), (Value.str (Str.ofString "c") 1664), (Value.str (Str.ofString "d") 1667), (Value.str (Str.ofString "e") 1670), (Value.str (Str.ofString "f") 1673), (Value.str (Str.ofString "g") 1676), (Value.str (Str.ofString "h") 1679), (Value.str (Str.ofString "i") 1682), (Value.str (Str.ofString "j") 1685), (Value.str (Str.ofString "k") 1688), (Value.str (Str.ofString "l") 1691), (Value.str (Str.ofString "m") 1694), (Value.str (Str.ofString "n") 1697), (Value.str (Str.ofString "o") 1700), (Value.str (Str.ofString "p") 1703), (Value.str (Str.ofString "q") 1706), (Value.str (Str.ofString "r") 1709), (Value.str (Str.ofString "s") 1712), (Value.str (Str.ofString "t") 1715), (Value.str (Str.ofString "u") 1718), (Value.str (Str.ofString "v") 1721), (Value.str (Str.ofString "w") 1724), (Value.str (Str.ofString "x") 1727), (Value.str (Str.ofString "y") 1730), (Value.str (Str.ofString "z") 1733), (Value.str (Str.ofString "{") 1736), (Value.str (Str.ofString "|") 1739), (Value.str (Str.ofString "}") 1742), (Value.str (Str.ofString "~") 1745), (Value.str (Str.ofString "=7F") 721), (Value.str (Str.ofString "=80") 725), (Value.str (Str.ofString "=81") 729), (Value.str (Str.ofString "=82") 733), (Value.str (Str.ofString "=83") 737), (Value.str (Str.ofString "=84") 741), (Value.str (Str.ofString "=85") 745), (Value.str (Str.ofString "=86") 749), (Value.str (Str.ofString "=87") 753), (Value.str (Str.ofString "=88") 757), (Value.str (Str.ofString "=89") 761), (Value.str (Str.ofString "=8A") 765), (Value.str (Str.ofString "=8B") 769), (Value.str (Str.ofString "=8C") 773), (Value.str (Str.ofString "=8D") 777), (Value.str (Str.ofString "=8E") 781), (Value.str (Str.ofString "=8F") 785), (Value.str (Str.ofString "=90") 789), (Value.str (Str.ofString "=91") 793), (Value.str (Str.ofString "=92") 797), (Value.str (Str.ofString "=93") 801), (Value.str (Str.ofString "=94") 805), (Value.str (Str.ofString "=95") 809), (Value.str (Str.ofString "=96") 813), (Value.str (Str.ofString "=97") 817), (Value.str (Str.ofString "=98") 821), (Value.str (Str.ofString "=99") 825), (Value.str (Str.ofString "=9A") 829), (Value.str (Str.ofString "=9B") 833), (Value.str (Str.ofString "=9C") 837), (Value.str (Str.ofString "=9D") 841), (Value.str (Str.ofString "=9E") 845), (Value.str (Str.ofString "=9F") 849), (Value.str (Str.ofString "=A0") 853), (Value.str (Str.ofString "=A1") 857), (Value.str (Str.ofString "=A2") 861), (Value.str (Str.ofString "=A3") 865), (Value.str (Str.ofString "=A4") 869), (Value.str (Str.ofString "=A5") 873), (Value.str (Str.ofString "=A6") 877), (Value.str (Str.ofString "=A7") 881), (Value.str (Str.ofString "=A8") 885), (Value.str (Str.ofString "=A9") 889), (Value.str (Str.ofString "=AA") 893), (Value.str (Str.ofString "=AB") 897), (Value.str (Str.ofString "=AC") 901), (Value.str (Str.ofString "=AD") 905), (Value.str (Str.ofString "=AE") 909), (Value.str (Str.ofString "=AF") 913), (Value.str (Str.ofString "=B0") 917), (Value.str (Str.ofString "=B1") 921), (Value.str (Str.ofString "=B2") 925), (Value.str (Str.ofString "=B3") 929), (Value.str (Str.ofString "=B4") 933), (Value.str (Str.ofString "=B5") 937), (Value.str (Str.ofString "=B6") 941), (Value.str (Str.ofString "=B7") 945), (Value.str (Str.ofString "=B8") 949), (Value.str (Str.ofString "=B9") 953), (Value.str (Str.ofString "=BA") 957), (Value.str (Str.ofString "=BB") 961), (Value.str (Str.ofString "=BC") 965), (Value.str (Str.ofString "=BD") 969), (Value.str (Str.ofString "=BE") 973), (Value.str (Str.ofString "=BF") 977), (Value.str (Str.ofString "=C0") 981), (Value.str (Str.ofString "=C1") 985), (Value.str (Str.ofString "=C2") 989), (Value.str (Str.ofString "=C3") 993), (Value.str (Str.ofString "=C4") 997), (Value.str (Str.ofString "=C5") 1001), (Value.str (Str.ofString "=C6") 1005), (Value.str (Str.ofString "=C7") 1009), (Value.str (Str.ofString "=C8") 1013), (Value.str (Str.ofString "=C9") 1017), (Value.str (Str.ofString "=CA") 1021), (Value.str (Str.ofString "=CB") 1025), (Value.str (Str.ofString "=CC") 1029), (Value.str (Str.ofString "=CD") 1033), (Value.str (Str.ofString "=CE") 1037), (Value.str (Str.ofString "=CF") 1041), (Value.str (Str.ofString "=D0") 1045), (Value.str (Str.ofString "=D1") 1049), (Value.str (Str.ofString "=D2") 1053), (Value.str (Str.ofString "=D3") 1057), (Value.str (Str.ofString "=D4") 1061), (Value.str (Str.ofString "=D5") 1065), (Value.str (Str.ofString "=D6") 1069), (Value.str (Str.ofString "=D7") 1073), (Value.str (Str.ofString "=D8") 1077), (Value.str (Str.ofString "=D9") 1081), (Value.str (Str.ofString "=DA") 1085), (Value.str (Str.ofString "=DB") 1089), (Value.str (Str.ofString "=DC") 1093), (Value.str (Str.ofString "=DD") 1097), (Value.str (Str.ofString "=DE") 1101), (Value.str (Str.ofString "=DF") 1105), (Value.str (Str.ofString "=E0") 1109), (Value.str (Str.ofString "=E1") 1113), (Value.str (Str.ofString "=E2") 1117), (Value.str (Str.ofString "=E3") 1121), (Value.str (Str.ofString "=E4") 1125), (Value.str (Str.ofString "=E5") 1129), (Value.str (Str.ofString "=E6") 1133), (Value.str (Str.ofString "=E7") 1137), (Value.str (Str.ofString "=E8") 1141), (Value.str (Str.ofString "=E9") 1145), (Value.str (Str.ofString "=EA") 1149), (Value.str (Str.ofString "=EB") 1153), (Value.str (Str.ofString "=EC") 1157), (Value.str (Str.ofString "=ED") 1161), (Value.str (Str.ofString "=EE") 1165), (Value.str (Str.ofString "=EF") 1169), (Value.str (Str.ofString "=F0") 1173), (Value.str (Str.ofString "=F1") 1177), (Value.str (Str.ofString "=F2") 1181), (Value.str (Str.ofString "=F3") 1185), (Value.str (Str.ofString "=F4") 1189), (Value.str (Str.ofString "=F5") 1193), (Value.str (Str.ofString "=F6") 1197), (Value.str (Str.ofString "=F7") 1201), (Value.str (Str.ofString "=F8") 1205), (Value.str (Str.ofString "=F9") 1209), (Value.str (Str.ofString "=FA") 1213), (Value.str (Str.ofString "=FB") 1217), (Value.str (Str.ofString "=FC") 1221), (Value.str (Str.ofString "=FD") 1225), (Value.str (Str.ofString "=FE") 1229), (Value.str (Str.ofString "=FF") 1233)]) 0) (List.toArray [])) ::
    (nat_lit 57, Obj.mk (Value.type "tuple") none (Data.seq (List.toArray [(Value.int 76 1771), (Value.str (Str.ofString "\n") 205)]) 0) (List.toArray [])) ::
    (nat_lit 58, Obj.mk (Value.type "tuple") none (Data.seq (List.toArray []) 0) (List.toArray [])) ::
    (nat_lit 60, Obj.mk (Value.type "tuple") none (Data.seq (List.toArray [(Value.str (Str.ofString "body") 1775), (Value.str (Str.ofString "maxlinelen") 1776), (Value.str (Str.ofString "eol") 1777), (Value.str (Str.ofString "soft_break") 1778), (Value.str (Str.ofString "maxlinelen1") 1779), (Value.str (Str.ofString "encoded_body") 1780), (Value.str (Str.ofString "append") 1781), (Value.str (Str.ofString "line") 1782), (Value.str (Str.ofString "start") 1783), (Value.str (Str.ofString "laststart") 1784), (Value.str (Str.ofString "stop") 1785), (Value.str (Str.ofString "room") 1786), (Value.str (Str.ofString "q") 1787)]) 0) (List.toArray [])) ::
    (nat_lit 61, Obj.mk (Value.type "tuple") none (Data.seq (List.toArray []) 0) (List.toArray [])) ::
    (nat_lit 63, Obj.mk (Value.type "code") none (Data.fields (List.toArray [(Value.str (Str.ofString "body_encode") 1772), (Value.str (Str.ofString "body_encode") 1773), (Value.str (Str.ofString "/claim/cut.py") 1774), (Value.int 55 0), (Value.int 3 0), (Value.int 0 0), (Value.int 0 0), (Value.int 3 0), (Value.ref 58), (Value.bool true), (Value.int 181 0), (Value.ref 59), Value.none, (Value.ref 60), (Value.ref 61), (Value.ref 62), (Value.int 1788 0), (Value.int 55 0), (Value.str (Str.ofString "/claim/cut.py") 1789)])) (List.toArray [])) ::
    (nat_lit 64, kf64 P) ::
    (nat_lit 65, Obj.mk (Value.type "tuple") none (Data.seq (List.toArray [(Value.str (Str.ofString "\n") 205)]) 0) (List.toArray [])) ::
    (nat_lit 66, Obj.mk (Value.type "tuple") none (Data.seq (List.toArray []) 0) (List.toArray [])) ::
    (nat_lit 68, Obj.mk (Value.type "tuple") none (Data.seq (List.toArray [(Value.str (Str.ofString "encoded") 1794), (Value.str (Str.ofString "eol") 1795), (Value.str (Str.ofString "decoded") 1796), (Value.str (Str.ofString "line") 1797), (Value.str (Str.ofString "i") 1798), (Value.str (Str.ofString "n") 1799), (Value.str (Str.ofString "c") 1800)]) 0) (List.toArray [])) ::
    (nat_lit 69, Obj.mk (Value.type "tuple") none (Data.seq (List.toArray []) 0) (List.toArray [])) ::
    (nat_lit 71, Obj.mk (Value.type "code") none (Data.fields (List.toArray [(Value.str (Str.ofString "decode") 1791), (Value.str (Str.ofString "decode") 1792), (Value.str (Str.ofString "/claim/cut.py") 1793), (Value.int 93 0), (Value.int 2 0), (Value.int 0 0), (Value.int 0 0), (Value.int 3 0), (Value.ref 66), (Value.bool true), (Value.int 181 0), (Value.ref 67), Value.none, (Value.ref 68), (Value.ref 69), (Value.ref 70), (Value.int 1801 0), (Value.int 93 0), (Value.str (Str.ofString "/claim/cut.py") 1802)])) (List.toArray [])) ::
    (nat_lit 72, kf72 P) ::
    (nat_lit 73, Obj.mk (Value.type "tuple") none (Data.seq (List.toArray []) 0) (List.toArray [])) ::
    (nat_lit 75, Obj.mk (Value.type "tuple") none (Data.seq (List.toArray [(Value.str (Str.ofString "script") 1809), (Value.str (Str.ofString "spot") 1810), (Value.str (Str.ofString "rows") 1811), (Value.str (Str.ofString "seen") 1812), (Value.str (Str.ofString "x") 1813), (Value.str (Str.ofString "size") 1814), (Value.str (Str.ofString "more") 1815), (Value.str (Str.ofString "end_asked") 1816), (Value.str (Str.ofString "end_seen") 1817)]) 0) (List.toArray [])) ::
    (nat_lit 76, Obj.mk (Value.type "tuple") none (Data.seq (List.toArray []) 0) (List.toArray [])) ::
    (nat_lit 78, Obj.mk (Value.type "code") none (Data.fields (List.toArray [(Value.str (Str.ofString "_law_drawn") 1806), (Value.str (Str.ofString "_law_drawn") 1807), (Value.str (Str.ofString "/claim/cut.py") 1808), (Value.int 124 0), (Value.int 1 0), (Value.int 0 0), (Value.int 0 0), (Value.int 3 0), (Value.ref 73), (Value.bool true), (Value.int 181 0), (Value.ref 74), Value.none, (Value.ref 75), (Value.ref 76), (Value.ref 77), (Value.int 1818 0), (Value.int 124 0), (Value.str (Str.ofString "/claim/cut.py") 1819)])) (List.toArray [])) ::
    (nat_lit 79, kf79 P) ::
    (nat_lit 80, Obj.mk (Value.type "tuple") none (Data.seq (List.toArray []) 0) (List.toArray [])) ::
    (nat_lit 82, Obj.mk (Value.type "tuple") none (Data.seq (List.toArray [(Value.str (Str.ofString "rows") 1824), (Value.str (Str.ofString "width") 1825), (Value.str (Str.ofString "parts") 1826), (Value.str (Str.ofString "size") 1827), (Value.str (Str.ofString "breaks") 1828)]) 0) (List.toArray [])) ::
    (nat_lit 83, Obj.mk (Value.type "tuple") none (Data.seq (List.toArray []) 0) (List.toArray [])) ::
    (nat_lit 85, Obj.mk (Value.type "code") none (Data.fields (List.toArray [(Value.str (Str.ofString "_law_parts") 1821), (Value.str (Str.ofString "_law_parts") 1822), (Value.str (Str.ofString "/claim/cut.py") 1823), (Value.int 144 0), (Value.int 2 0), (Value.int 0 0), (Value.int 0 0), (Value.int 3 0), (Value.ref 80), (Value.bool true), (Value.int 181 0), (Value.ref 81), Value.none, (Value.ref 82), (Value.ref 83), (Value.ref 84), (Value.int 1829 0), (Value.int 144 0), (Value.str (Str.ofString "/claim/cut.py") 1830)])) (List.toArray [])) ::
    (nat_lit 86, kf86 P) ::
    (nat_lit 87, Obj.mk (Value.type "tuple") none (Data.seq (List.toArray []) 0) (List.toArray [])) ::
    (nat_lit 89, Obj.mk (Value.type "tuple") none (Data.seq (List.toArray [(Value.str (Str.ofString "asked") 1835), (Value.str (Str.ofString "seen") 1836), (Value.str (Str.ofString "taken") 1837), (Value.str (Str.ofString "j") 1838), (Value.str (Str.ofString "room") 1839)]) 0) (List.toArray [])) ::
    (nat_lit 90, Obj.mk (Value.type "tuple") none (Data.seq (List.toArray []) 0) (List.toArray [])) ::
    (nat_lit 92, Obj.mk (Value.type "code") none (Data.fields (List.toArray [(Value.str (Str.ofString "_law_dealt") 1832), (Value.str (Str.ofString "_law_dealt") 1833), (Value.str (Str.ofString "/claim/cut.py") 1834), (Value.int 150 0), (Value.int 2 0), (Value.int 0 0), (Value.int 0 0), (Value.int 3 0), (Value.ref 87), (Value.bool true), (Value.int 181 0), (Value.ref 88), Value.none, (Value.ref 89), (Value.ref 90), (Value.ref 91), (Value.int 1840 0), (Value.int 150 0), (Value.str (Str.ofString "/claim/cut.py") 1841)])) (List.toArray [])) ::
    (nat_lit 93, kf93 P) ::
    (nat_lit 94, Obj.mk (Value.type "tuple") none (Data.seq (List.toArray []) 0) (List.toArray [])) ::
    (nat_lit 96, Obj.mk (Value.type "tuple") none (Data.seq (List.toArray [(Value.str (Str.ofString "text") 1846), (Value.str (Str.ofString "width") 1847)]) 0) (List.toArray [])) ::
    (nat_lit 97, Obj.mk (Value.type "tuple") none (Data.seq (List.toArray []) 0) (List.toArray [])) ::
    (nat_lit 99, Obj.mk (Value.type "code") none (Data.fields (List.toArray [(Value.str (Str.ofString "_law_refused") 1843), (Value.str (Str.ofString "_law_refused") 1844), (Value.str (Str.ofString "/claim/cut.py") 1845), (Value.int 166 0), (Value.int 2 0), (Value.int 0 0), (Value.int 0 0), (Value.int 3 0), (Value.ref 94), (Value.bool true), (Value.int 181 0), (Value.ref 95), Value.none, (Value.ref 96), (Value.ref 97), (Value.ref 98), (Value.int 1848 0), (Value.int 166 0), (Value.str (Str.ofString "/claim/cut.py") 1849)])) (List.toArray [])) ::
    (nat_lit 100, kf100 P) ::
    (nat_lit 101, Obj.mk (Value.type "tuple") none (Data.seq (List.toArray []) 0) (List.toArray [])) ::
    (nat_lit 104, Obj.mk (Value.type "code") none (Data.fields (List.toArray [(Value.str (Str.ofString "law") 1851), (Value.str (Str.ofString "law") 1852), (Value.str (Str.ofString "/claim/cut.py") 1853), (Value.int 172 0), (Value.int 1 0), (Value.int 0 0), (Value.int 0 0), (Value.int 3 0), (Value.ref 101), (Value.bool true), (Value.int 181 0), (Value.ref 102), Value.none, Value.none, Value.none, (Value.ref 103), (Value.int 1854 0), (Value.int 172 0), (Value.str (Str.ofString "/claim/cut.py") 1855)])) (List.toArray [])) ::
    (nat_lit 105, kf105 P) :: []
noncomputable def bodyV : List Stmt := by
  refine (fun (x : List Stmt) (_ : [st 1, st 2, st 3, st 4, st 5, st 6, st 7, st 8, st 9, st 10, st 11, st 12, st 17, st 18, st 19, st 25, st 26, st 27, st 28, st 29] = x) => x) ?x ?h
  case h => (dsimp only [st, PySem.Challenge.pw_re0098_01, List.drop, List.headD]; exact rfl)
noncomputable def view : Program := { PySem.Challenge.pw_re0098_01 with main := { PySem.Challenge.pw_re0098_01.main with body := bodyV } }
def loose : List Str := [Str.ofString "_QUOPRI_MAP", Str.ofString "_QUOPRI_HEADER_MAP", Str.ofString "_QUOPRI_BODY_MAP", Str.ofString "ascii_letters", Str.ofString "hexdigits", Str.ofString "_QUOPRI_BODY_ENCODE_MAP", Str.ofString "body_encode", Str.ofString "decode"]
def reads : List (Str × WData) := [(Str.ofString "ascii_letters", WData.str (Str.mk (List.toArray [97,98,99,100,101,102,103,104,105,106,107,108,109,110,111,112,113,114,115,116,117,118,119,120,121,122,65,66,67,68,69,70,71,72,73,74,75,76,77,78,79,80,81,82,83,84,85,86,87,88,89,90]))), (Str.ofString "hexdigits", WData.str (Str.mk (List.toArray [48,49,50,51,52,53,54,55,56,57,97,98,99,100,101,102,65,66,67,68,69,70])))]
def addrs : List Addr := nat_lit 2 :: nat_lit 3 :: nat_lit 6 :: nat_lit 15 :: nat_lit 17 :: nat_lit 18 :: nat_lit 20 :: nat_lit 21 :: nat_lit 38 :: nat_lit 40 :: nat_lit 41 :: nat_lit 43 :: nat_lit 44 :: nat_lit 45 :: nat_lit 47 :: nat_lit 48 :: nat_lit 50 :: nat_lit 51 :: nat_lit 53 :: nat_lit 57 :: nat_lit 58 :: nat_lit 60 :: nat_lit 61 :: nat_lit 63 :: nat_lit 64 :: nat_lit 65 :: nat_lit 66 :: nat_lit 68 :: nat_lit 69 :: nat_lit 71 :: nat_lit 72 :: nat_lit 73 :: nat_lit 75 :: nat_lit 76 :: nat_lit 78 :: nat_lit 79 :: nat_lit 80 :: nat_lit 82 :: nat_lit 83 :: nat_lit 85 :: nat_lit 86 :: nat_lit 87 :: nat_lit 89 :: nat_lit 90 :: nat_lit 92 :: nat_lit 93 :: nat_lit 94 :: nat_lit 96 :: nat_lit 97 :: nat_lit 99 :: nat_lit 100 :: nat_lit 101 :: nat_lit 104 :: nat_lit 105 :: []
theorem addrs_eq (P : Params) : addrs = (heap P).map (·.1) := by kernel_rfl
end Mine
end
section
open PySem PySem.W PyProof.Rows PySem.Spec PySem.Calls
set_option maxHeartbeats 0
namespace Mine
noncomputable def H29 (P : Params) : Heap := absHeap (T29 P) 106 {}
noncomputable def Hk : Hook := kHook heap addrs addrs_eq
noncomputable def Xt (s : Shared) : Bool := xlAt view reads s && recOk (RowW.records PySem.Challenge.rw_re0098_01.row.toRowW) s
theorem l_stat (w : World) : staticsOk (PySem.W.Fast.tw5923862056798008813 pw.main.body) (boot_heap w.params) (H29 w.params) = true := by kernel_rfl
theorem l_names (w : World) : namesBound pw (H29 w.params) = true := by kernel_rfl
theorem l_gens (w : World) (os : OsState) : gensDone ⟨H29 w.params, Array.mk [], {}, 1857, os⟩ = true := by kernel_rfl
theorem l_laid (w : World) : laidKept (boot_heap w.params) (H29 w.params) = true := by kernel_rfl
end Mine
end
section
open PySem PySem.W PyProof.Rows PySem.Spec PySem.Calls
set_option maxHeartbeats 0
namespace Mine
theorem l_obs (w : World) (os : OsState) : Hk.obs ⟨H29 w.params, Array.mk [], {}, 1857, os⟩ = Hk.val w := by kernel_rfl
theorem l_seen (w : World) (os : OsState) : PySem.W.Fast.tw4187177175401517315 view loose (PySem.W.Fast.tw5923862056798008813 pw.main.body) Xt true ⟨H29 w.params, Array.mk [], {}, 1857, os⟩ = openGood view loose := by kernel_rfl
end Mine
end
section
open PySem PySem.W PyProof.Rows PySem.Spec PySem.Calls
set_option maxHeartbeats 0
namespace Mine
theorem looks_all (w : World) (os : OsState) : ((staticsOk (importedModules pw.main.body) (boot_heap w.params) (H29 w.params) && namesBound pw (H29 w.params) && gensDone ⟨H29 w.params, Array.mk [], {}, 1857, os⟩ && laidKept (boot_heap w.params) (H29 w.params)),
    openSeen view loose (importedModules pw.main.body) Xt true ⟨H29 w.params, Array.mk [], {}, 1857, os⟩, Hk.obs ⟨H29 w.params, Array.mk [], {}, 1857, os⟩) = (true, openGood view loose, Hk.val w) := by
  have h1 := l_stat w
  have h2 := l_seen w os
  rw [← PySem.W.Fast.te5923862056798008813] at h1 h2
  rw [← PySem.W.Fast.te4187177175401517315] at h2
  rw [h1, h2, l_names, l_gens, l_laid, l_obs]
  rfl
theorem h_fence (w : World) : (fun os => (fenceModules? pw ⟨boot_heap w.params, Array.mk [], boot_drawn, boot_toks, os⟩).map (fun s => (s.heap, s.gens, s.drawn, s.toks))) = fun _ => some (boot_heap w.params, Array.mk [], boot_drawn, boot_toks) := by kernel_rfl
theorem h_open : ∀ w : World, (fencedOpening treeTable pw w 60000).map (fun s => (s.heap, s.gens, s.drawn, s.toks)) = some (boot_heap w.params, Array.mk [], boot_drawn, boot_toks) := open_cut h_imp0 (by decide) h_fence
theorem left : LeftO pw view loose Xt Hk.obs Hk.val 60000 true :=
  LeftO.of_pieces (H₀ := boot_heap) (H₁ := H29) (gs₀ := Array.mk []) (gs₁ := Array.mk []) (d₀ := boot_drawn) (d₁ := {}) (k₀ := boot_toks) (k₁ := 1857) (m₀ := 11) (ann := some (.ref 6)) (M := 50000) h_open h_size (fun w os => h_run w os) (by decide) (fun w => funext fun os => looks_all w os)
end Mine
end
section
open PySem PySem.W PyProof.Rows PySem.Spec PySem.Calls
namespace Mine
abbrev Led := List (Addr × Obj)
/-- what a call of the def at f gives back, from any frame -/
def Con (w : World) (f : Addr) (args : List Value) (Pre : Led → Prop) (Post : Led → Value → Prop) : Prop :=
  ∀ (loose : List Str) (mean : ExcName → Option Value) (mg mb : Str → Option Value) (dp un : Nat) (gd : Option (List Code)) (cn : Str) (cs : Scope) (a : Addr) (ccd : Value) (cl : List (Str × Addr)) (outer : List Env) (A₀ : Around) (base h₀ : Heap) (L : Addr) (m : Str → Option Value) (news : Led) (s : Shared)
    (Q E : Value → Shared → Prop),
    Below A₀ base outer h₀ → Fr h₀ L s.heap m → (Mine.heap w.params).In h₀ → News h₀ L s.heap news → Top Mine.view loose mean mg mb h₀ → cs.kind = .function → Pre news → dp + 6 < recursionLimit → un + 200 < cLine →
    (∀ r tl h' tk', Fr h₀ L h' m → News h₀ L h' (tl ++ news) → (∀ p ∈ tl, ∀ q ∈ news, q.1 < p.1) → Post (tl ++ news) r → Q r { s with heap := h', toks := tk' }) →
    wpAny (model PySem.Challenge.rw_re0098_01.row.prog w) (ktrTop dp un gd cn cs L a ccd cl outer) (call (.ref f) args) Q E s
end Mine
end
section
open PySem PySem.W PyProof.Rows PySem.Spec PySem.Calls PySem.Builtin PySem.Builtin.Str
namespace Mine
/-! plain words on texts -/
def find4 (x y : Str) (i j : Int) : Int := match occurrences x y (fromIndex x.length i) (min (fromIndex x.length j) x.length) 1 with | k :: _ => (k : Int) | [] => -1
theorem gives_find4 (x y : Str) (i j : Int) (t u v z : Tok) : Gives («str.find» ⟨[.str x t, .str y u, .int i v, .int j z], []⟩) (.int (find4 x y i j)) := by
  show Gives (match occurrences x y (fromIndex x.length i) (min (fromIndex x.length j) x.length) 1 with | k :: _ => retInt k | [] => (do rule "str.find.not-found"; retInt (-1))) _
  unfold find4
  cases occurrences x y (fromIndex x.length i) (min (fromIndex x.length j) x.length) 1 with
  | nil => exact .rule (.of_eq rfl)
  | cons k _ => exact .of_eq rfl
theorem call_find4 {prog : Program} {w : World} {A : Around} {E : Value → Shared → Prop} {s : Shared} {x y : Str} {t u v z : Tok} {i j : Int} {Q : Value → Shared → Prop}
    (hq : Q (.int (find4 x y i j) s.toks) { s with toks := s.toks + 1 }) : wpAny (model prog w) A (call (.builtin "str.find") [.str x t, .str y u, .int i v, .int j z]) Q E s :=
  call_gives PySem.F.slot_str_find (typeIs_str _ _ _) PySem.F.entry_str_find (PySem.F.args_str_find_4 _ _ _ _) (gives_find4 x y i j t u v z) hq
/-- a loop over a list of the ledger, by what holds of the frame's map between the turns -/
theorem iter_invL {prog : Program} {w : World} {A : Around} {E : Value → Shared → Prop} {s : Shared} {env : Env} {h₀ : Heap} {x : Str} {body : List Stmt} {Q : Flow → Shared → Prop}
    {l : Addr} {vs : List Value} {n : Nat} {m₀ : Str → Option Value} {news : Led} (J : Nat → (Str → Option Value) → Prop)
    (hh : A.handled = none) (hm : (l, ({ cls := .type "list", data := .seq vs.toArray n } : Obj)) ∈ news) (F : Fr h₀ env.locals s.heap m₀) (N : News h₀ env.locals s.heap news) (hj : J 0 m₀)
    (turn : ∀ i v m₁ h tk own, vs[i]? = some v → J i m₁ → Fr h₀ env.locals h (fun y => if y = x then some v else m₁ y) → News h₀ env.locals h (own ++ news) →
      wpAny (model prog w) A (execs body env) (InvPost h₀ env.locals (J (i + 1)) (own ++ news) { s with heap := h, toks := tk } Q) E { s with heap := h, toks := tk })
    (done : ∀ m₁ h tk, J vs.length m₁ → Fr h₀ env.locals h m₁ → News h₀ env.locals h news → Q .next { s with heap := h, toks := tk }) :
    wpAny (model prog w) A (pyIter (.ref l)) (fun it s₂ => LoopAtV prog w A h₀ env x body Q E it s₂) E s := by
  have hls : s.heap.IsList l vs.toArray := News.isList N hm
  have hne : l ≠ s.heap.objs.size := Nat.ne_of_lt (Heap.lt_size (N _ hm).1)
  refine wpAny_pyIter_list hls ?_
  have W := Walks.list (prog := prog) (w := w) hh s.heap.objs.size l hne vs.toArray
  have hlen : vs.toArray.size = vs.length := by simp
  rw [hlen] at W
  let J' : Nat → (Str → Option Value) → Led → Prop := fun i m₁ news₁ => news₁ = news ∧ J i m₁
  refine ⟨_, _, _, vs.length, _, _, m₀, news, J', rfl, W, ?_, ?_, ?_, ⟨⟨_, Heap.get?_push_size _ rfl, rfl, rfl⟩, hls.at fun o e => Heap.get?_push_of_some _ e⟩, F.push _, (fun p hp => ⟨Heap.get?_push_of_some _ (N p hp).1, (N p hp).2⟩), ⟨rfl, hj⟩, ?_, ?_⟩
  · intro hmem
    rcases List.mem_cons.mp hmem with e | hmem
    · exact absurd F.ns.lt (e ▸ Nat.lt_irrefl _)
    · exact (N _ hm).2.1 (List.mem_singleton.mp hmem).symm
  · intro b hb
    rw [List.mem_singleton.mp hb]
    exact next_is_new F
  · intro p hp hI
    exact absurd (Heap.lt_size (N p hp).1) ((List.mem_singleton.mp hI) ▸ Nat.lt_irrefl _)
  · rintro i v m₁ news₁ s₁ own ⟨hh', tk', rfl⟩ hin hP ⟨rfl, hJ⟩ hoff _ _ _ _ F₁ N₁
    have hv : vs[i]? = some v := by simpa using hP
    refine wpAny_mono (turn i v m₁ hh' tk' own hv hJ F₁ N₁) (fun f s₂ p => ?_) fun _ _ e => e
    have fin : InvEnd h₀ env.locals (J (i + 1)) (own ++ news₁) { s with heap := hh', toks := tk' } s₂ → LoopStepU h₀ env.locals [s.heap.objs.size] own (J' (i + 1)) { s with heap := hh', toks := tk' } .next s₂ := by
      rintro ⟨h', tk, m', news', e, F', N', hn, hm⟩
      exact ⟨rfl, h', tk, m', news₁, e, F', fun p hp => N' p (hn p hp), hoff, rfl, hm⟩
    cases f with
    | ret v => exact .ret p
    | brk => exact .brk p
    | next => exact .next (fin p)
    | cont => exact .cont (fin p)
  · rintro h' tk m' news' F' N' _ ⟨rfl, hJ⟩
    exact done m' h' tk hJ F' N'
end Mine
end
section
open PySem PySem.W PyProof.Rows PySem.Spec PySem.Calls PySem.Builtin PySem.Builtin.Str
namespace Mine
abbrev lst (vs : List Value) (n : Nat) : Obj := { cls := .type "list", data := .seq vs.toArray n }
theorem strsAre_len {vs : List Value} {ys : List Str} (h : StrsAre vs ys) : vs.length = ys.length := by
  induction h with
  | nil => rfl
  | cons _ _ _ ih => simp [ih]
theorem strsAre_snoc {ys : List Str} {z : Str} : ∀ {vs : List Value}, StrsAre vs (ys ++ [z]) → ∃ vm t, vs = vm ++ [.str z t] ∧ StrsAre vm ys := by
  induction ys with
  | nil =>
    intro vs h
    cases h with
    | cons _ t r => cases r; exact ⟨[], t, rfl, .nil⟩
  | cons y ys ih =>
    intro vs h
    cases h with
    | cons _ t r =>
      obtain ⟨vm, u, rfl, h'⟩ := ih r
      exact ⟨_ :: vm, u, rfl, .cons _ _ h'⟩
theorem ends_of {α : Type} {ws : List α} (h : 2 ≤ ws.length) : ∃ a mid z, ws = a :: (mid ++ [z]) := by
  cases ws with
  | nil => simp at h
  | cons a r =>
    have hr : r ≠ [] := by rintro rfl; simp at h
    exact ⟨a, r.dropLast, r.getLast hr, by rw [List.dropLast_concat_getLast]⟩
section
variable {prog : Program} {w : World} {A : Around} {E : Value → Shared → Prop} {s : Shared} {h₀ : Heap} {L : Addr} {m : Str → Option Value} {news : Led} {x y : Str} {t u : Tok} {Q : Value → Shared → Prop}
theorem news_lt (N : News h₀ L s.heap news) : ∀ p ∈ news, p.1 < s.heap.objs.size := fun p hp => Heap.lt_size (N p hp).1
theorem r_split (F : Fr h₀ L s.heap m) (N : News h₀ L s.heap news) (hy : (y.length == 0) = false) (hlen : 2 ≤ (Txt.split x y).length) (hsz : x.length + 2 ≤ sizeLine)
    (h : ∀ B a ta vm mid z tz h' k, Txt.split x y = a :: (mid ++ [z]) → StrsAre vm mid → (∀ p ∈ news, p.1 < B) → Fr h₀ L h' m → News h₀ L h' ((B, lst (Value.str a ta :: (vm ++ [.str z tz])) 0) :: news) → Q (.ref B) { s with heap := h', toks := k }) :
    wpAny (model prog w) A (call (.builtin "str.split") [.str x t, .str y u]) Q E s := by
  obtain ⟨a, mid, z, e⟩ := ends_of hlen
  refine splitN1A F N hy (fun l h' k el hs _ _ F' N' => ?_) hsz
  rw [el, e] at hs
  generalize hv : strValues l = vs at hs N'
  cases hs with
  | cons _ ta r =>
    obtain ⟨vm, tz, rfl, hm⟩ := strsAre_snoc r
    exact h _ a ta vm mid z tz h' k e hm (news_lt N) F' N'
theorem r_len {B : Addr} {a z : Value} {vm : List Value} {n : Nat} (N : News h₀ L s.heap news) (hm : (B, lst (a :: (vm ++ [z])) n) ∈ news) (hf : vm.length ≤ 1000000)
    (h : Q (.int ((vm.length : Int) + 2) (s.toks + 1)) { s with toks := s.toks + 1 + 1 }) : wpAny (model prog w) A (call (.builtin "len") [.ref B]) Q E s := by
  refine len_list (News.isList N hm) (by simp; omega) ?_
  have e : (((a :: (vm ++ [z])).toArray.size : Nat) : Int) = (vm.length : Int) + 2 := by simp; omega
  rw [e]; exact h
theorem r_first {value slice : PySem.Expr} {B : Addr} {a : Value} {r : List Value} {n : Nat} (N : News h₀ L s.heap news) (hm : (B, lst (a :: r) n) ∈ news) (h : Q a s)
    (hs : subscripted slice false (.ref B) (.int 0 u) = operate [.ref B, .int 0 u] (getItem (.ref B) (.int 0 u)) := by with_unfolding_all rfl) :
    wpAny (model prog w) A (subscriptTail value slice (.ref B) (.int 0 u)) Q E s :=
  have hl := News.isList N hm
  tail_any hl.typeIs slot_list_getitem.lookup (wpAny_getItem_list hl (by decide) (by decide) (by simp) h) hs
theorem r_last {value slice : PySem.Expr} {B : Addr} {z : Value} {r : List Value} {n : Nat} (N : News h₀ L s.heap news) (hm : (B, lst (r ++ [z]) n) ∈ news) (h : Q z s)
    (hs : subscripted slice false (.ref B) (.int (-1) u) = operate [.ref B, .int (-1) u] (getItem (.ref B) (.int (-1) u)) := by with_unfolding_all rfl) :
    wpAny (model prog w) A (subscriptTail value slice (.ref B) (.int (-1) u)) Q E s :=
  have hl := News.isList N hm
  tail_any hl.typeIs slot_list_getitem.lookup (wpAny_getItem_list_neg hl (by decide) (by simp; omega) (by decide) (by
    have e : (-1 + (((r ++ [z]).toArray.size : Nat) : Int)).toNat = r.length := by simp; omega
    rw [e]; simp) h) hs
theorem r_del {B : Addr} {vs : List Value} {n : Nat} {i : Int} {k : Nat} {pre post : Led} {Q : Unit → Shared → Prop} (F : Fr h₀ L s.heap m) (N : News h₀ L s.heap (pre ++ (B, lst vs n) :: post)) (h1 : ∀ p ∈ pre, p.1 ≠ B) (h2 : ∀ p ∈ post, p.1 ≠ B)
    (hfit : Builtin.List.listFitsIndex i = true) (hk : seqIndex? i vs.length = some k) (hsz : vs.length ≤ sizeLine)
    (h : ∀ h', Fr h₀ L h' m → News h₀ L h' (pre ++ (B, lst (vs.eraseIdx k) (n + 1)) :: post) → Q () { s with heap := h' }) : wpAny (model prog w) A (delItem (.ref B) (.int i u)) Q E s := by
  have hm : (B, lst vs n) ∈ pre ++ (B, lst vs n) :: post := by simp
  refine delItem_at (k := k) (N.get hm) hfit (by simpa using hk) (fun h' hs ho' => h h' (F.change hs (N _ hm).2.1 (N _ hm).2.2) ?_) (by simpa using hsz)
  intro p hp
  rcases List.mem_append.mp hp with q | q
  · have P := N p (List.mem_append_left _ q); exact ⟨(hs.2 p.1 (h1 p q)).trans P.1, P.2⟩
  · rcases List.mem_cons.mp q with rfl | q
    · exact ⟨by simpa using ho', (N _ hm).2⟩
    · have P := N p (List.mem_append_right _ (.tail _ q)); exact ⟨(hs.2 p.1 (h2 p q)).trans P.1, P.2⟩
theorem erase_last {α : Type} (r : List α) (z : α) : (r ++ [z]).eraseIdx r.length = r := by
  rw [List.eraseIdx_append_of_length_le (by simp)]; simp
theorem last_idx (n : Nat) : seqIndex? (-1) (n + 1) = some n := by
  rw [seqIndex_neg (by decide) (by omega)]
  congr 1; omega
/-- del ws[0] -/
theorem r_del0 {B : Addr} {a : Value} {r : List Value} {n : Nat} {q : Addr × Obj} {post : Led} {Q : Unit → Shared → Prop} (F : Fr h₀ L s.heap m) (N : News h₀ L s.heap (q :: (B, lst (a :: r) n) :: post)) (h1 : B < q.1) (h2 : ∀ p ∈ post, p.1 < B)
    (hsz : r.length ≤ 1000000)
    (h : ∀ h', Fr h₀ L h' m → News h₀ L h' (q :: (B, lst r (n + 1)) :: post) → Q () { s with heap := h' }) : wpAny (model prog w) A (delItem (.ref B) (.int 0 u)) Q E s :=
  r_del (pre := [q]) (k := 0) F N (fun p hp => by rw [List.mem_singleton.mp hp]; exact Nat.ne_of_gt h1) (fun p hp => Nat.ne_of_lt (h2 p hp)) (by decide) (by rw [List.length_cons]; exact seqIndex_at (by decide) (by omega)) (by rw [sizeLine_eq]; simp only [List.length_cons]; omega) h
/-- del ws[-1] -/
theorem r_delL {B : Addr} {z : Value} {r : List Value} {n : Nat} {q : Addr × Obj} {post : Led} {Q : Unit → Shared → Prop} (F : Fr h₀ L s.heap m) (N : News h₀ L s.heap (q :: (B, lst (r ++ [z]) n) :: post)) (h1 : B < q.1) (h2 : ∀ p ∈ post, p.1 < B)
    (hsz : r.length ≤ 1000000)
    (h : ∀ h', Fr h₀ L h' m → News h₀ L h' (q :: (B, lst r (n + 1)) :: post) → Q () { s with heap := h' }) : wpAny (model prog w) A (delItem (.ref B) (.int (-1) u)) Q E s :=
  r_del (pre := [q]) (k := r.length) F N (fun p hp => by rw [List.mem_singleton.mp hp]; exact Nat.ne_of_gt h1) (fun p hp => Nat.ne_of_lt (h2 p hp)) (by decide) (by rw [List.length_append]; exact last_idx _) (by rw [sizeLine_eq]; simp only [List.length_append, List.length_cons, List.length_nil]; omega)
    (fun h' F' N' => h h' F' (by rw [erase_last] at N'; exact N'))
end
end Mine
end
section
open PySem PySem.StrLaws PySem.Builtin PySem.Builtin.Str
namespace Mine
def nlS : Str := Str.ofString "\n"
def dots : Str := Str.ofString "..."
def lst0 (x : Str) : List Nat := x.cps.toList
theorem getD_at {x : Str} {p j : Nat} {pre l : List Nat} (h : x.cps.toList = pre ++ l) (hp : pre.length = p) : x.cps.getD (p + j) 0 = (l[j]?).getD 0 := by
  have e : x.cps.getD (p + j) 0 = (x.cps.toList[p + j]?).getD 0 := by simp [Array.getD_eq_getD_getElem?]
  rw [e, h, List.getElem?_append_right (by omega)]
  congr 2
  omega
theorem sub_at {x : Str} {p : Nat} {pre y rest : List Nat} (h : x.cps.toList = pre ++ (y ++ rest)) (hp : pre.length = p) : strSub x p (p + y.length) = ⟨y.toArray⟩ := by
  apply Str.ext'
  apply Array.toList_inj.mp
  rw [strSub_toList, h, List.drop_append_of_le_length (by omega), List.drop_of_length_le (by omega), List.nil_append]
  simp
theorem len_at {x : Str} {l : List Nat} (h : x.cps.toList = l) : x.length = l.length := by
  rw [← h]; simp [Str.length]
theorem ls_skip (s : Str) : ∀ (m cur : Nat) (st : LsSt), (∀ j, j < m → Unicode.isLineBreak (s.cps.getD (cur + j) 0) = false) → Id.run (forIn (m := Id) (List.range' cur m) st (lsBody s)) = st
  | 0, _, _, _ => rfl
  | m + 1, cur, st, h => by
    rw [List.range'_succ, List.forIn_cons]
    have h0 := h 0 (by omega)
    rw [Nat.add_zero] at h0
    unfold lsBody
    simp only [h0, Bool.and_false, Bool.false_eq_true, if_false]
    have ih := ls_skip s m (cur + 1) st (fun j hj => by have := h (j + 1) (by omega); rwa [show cur + (j + 1) = cur + 1 + j by omega] at this)
    unfold lsBody at ih
    exact ih
theorem range_split (p a b : Nat) : List.range' p (a + b) = List.range' p a ++ List.range' (p + a) b := by
  rw [List.range'_append_1]
theorem forIn_app {f : Nat → LsSt → Id (ForInStep LsSt)} (hf : ∀ i st, ∃ st', f i st = pure (ForInStep.yield st')) : ∀ (l l' : List Nat) (st : LsSt), Id.run (forIn (m := Id) (l ++ l') st f) = Id.run (forIn (m := Id) l' (Id.run (forIn (m := Id) l st f)) f)
  | [], _, _ => rfl
  | a :: l, l', st => by
    obtain ⟨st', e⟩ := hf a st
    rw [List.cons_append, List.forIn_cons, List.forIn_cons, e]
    exact forIn_app hf l l' st'
theorem lsBody_yield (s : Str) (i : Nat) (st : LsSt) : ∃ st', lsBody s i st = pure (ForInStep.yield st') := by
  unfold lsBody
  split
  · exact ⟨_, rfl⟩
  · exact ⟨_, rfl⟩
def NoBreak (y : Str) : Prop := ∀ c ∈ y.cps.toList, Unicode.isLineBreak c = false
def resL (ys : List Str) : List Str := if ys.getLast? = some Str.empty then ys.dropLast else ys
theorem resL_cons {y z : Str} {r : List Str} : resL (y :: z :: r) = y :: resL (z :: r) := by
  unfold resL
  rw [List.getLast?_cons_cons]
  split
  · rw [List.dropLast_cons_cons]
  · rfl
theorem noBreak_at {x y : Str} {p j : Nat} {pre rest : List Nat} (hy : NoBreak y) (h : x.cps.toList = pre ++ (y.cps.toList ++ rest)) (hp : pre.length = p) (hj : j < y.cps.toList.length) : Unicode.isLineBreak (x.cps.getD (p + j) 0) = false := by
  rw [getD_at h hp, List.getElem?_append_left hj, List.getElem?_eq_getElem hj]
  exact hy _ (List.getElem_mem hj)
theorem str_eta (y : Str) : (⟨y.cps.toList.toArray⟩ : Str) = y := by cases y; simp
theorem lines_run (x : Str) : ∀ (ys : List Str) (p : Nat) (pre : List Nat) (acc : Array (Nat × Nat × Nat)), ys ≠ [] → (∀ y ∈ ys, NoBreak y) → x.cps.toList = pre ++ (Str.join nlS ys).cps.toList → pre.length = p →
    ((lsEnd x (Id.run (forIn (m := Id) (List.range' p (x.length - p)) ((acc, p) : LsSt) (lsBody x)))).map fun q => strSub x q.1 q.2.1) = (acc.toList.map fun q => strSub x q.1 q.2.1) ++ resL ys
  | [], _, _, _, h, _, _, _ => absurd rfl h
  | [y], p, pre, acc, _, hb, hx, hp => by
    rw [PyProof.Rows.join_one] at hx
    have hl := len_at hx
    rw [List.length_append] at hl
    rw [ls_skip]
    · unfold lsEnd resL
      by_cases hy : y.cps.toList = []
      · rw [hy] at hl
        have ey : y = Str.empty := by apply Str.ext'; apply Array.toList_inj.mp; exact hy
        rw [if_neg (by simp at hl; simp; omega), if_pos (by simp [ey])]
        simp
      · have hpos := List.length_pos_iff.mpr hy
        rw [if_pos (by simp; omega), if_neg (by simp; rintro rfl; exact hy rfl), Array.toList_push, List.map_append]
        have e : x.length = p + y.cps.toList.length := by omega
        have := sub_at (x := x) (p := p) (pre := pre) (y := y.cps.toList) (rest := []) (by rw [hx, List.append_nil]) hp
        simp only [List.map_cons, List.map_nil]
        rw [e, this, str_eta]
    · intro j hj
      exact noBreak_at (rest := []) (hb y (.head _)) (by rw [hx, List.append_nil]) hp (by omega)
  | y :: z :: r, p, pre, acc, _, hb, hx, hp => by
    rw [PyProof.Rows.join_cons_cons] at hx
    simp only [Str.cps_append, Array.toList_append] at hx
    have hn : nlS.cps.toList = [10] := by decide +kernel
    rw [hn, List.append_assoc] at hx
    have hl := len_at hx
    simp only [List.length_append, List.length_cons, List.length_nil] at hl
    have e : x.length - p = y.cps.toList.length + (1 + (x.length - (p + y.cps.toList.length + 1))) := by omega
    have hskip := ls_skip x y.cps.toList.length p (acc, p) (fun j hj => noBreak_at (hb y (.head _)) hx hp hj)
    rw [e, range_split, range_split, forIn_app (lsBody_yield x), forIn_app (lsBody_yield x), hskip]
    · have h10 : x.cps.getD (p + y.cps.toList.length) 0 = 10 := by
        rw [getD_at hx hp, List.getElem?_append_right (by omega)]
        simp
      have hb10 : Unicode.isLineBreak 10 = true := by decide +kernel
      have hstep : Id.run (forIn (m := Id) (List.range' (p + y.cps.toList.length) 1) ((acc, p) : LsSt) (lsBody x)) = (acc.push (p, p + y.cps.toList.length, p + y.cps.toList.length + 1), p + y.cps.toList.length + 1) := by
        show Id.run (forIn (m := Id) [p + y.cps.toList.length] _ _) = _
        rw [List.forIn_cons]
        have hne : lsNext x (p + y.cps.toList.length) = p + y.cps.toList.length + 1 := by
          unfold lsNext
          rw [h10]
          exact if_neg (by simp)
        have hc : (decide (p ≤ p + y.cps.toList.length) && Unicode.isLineBreak (x.cps.getD (p + y.cps.toList.length) 0)) = true := by
          rw [h10, hb10, decide_eq_true (Nat.le_add_right _ _)]
          rfl
        unfold lsBody
        rw [hne, if_pos hc]
        rfl
      rw [hstep]
      have ih := lines_run x (z :: r) (p + y.cps.toList.length + 1) (pre ++ (y.cps.toList ++ [10])) (acc.push (p, p + y.cps.toList.length, p + y.cps.toList.length + 1)) (by simp) (fun a ha => hb a (List.mem_cons_of_mem _ ha)) (by rw [hx]; simp) (by simp; omega)
      rw [ih, resL_cons, Array.toList_push, List.map_append, List.append_assoc]
      congr 1
      simp only [List.map_cons, List.map_nil]
      rw [sub_at (pre := pre) (y := y.cps.toList) hx hp, str_eta]
      rfl
theorem lines_join {ys : List Str} (hne : ys ≠ []) (hb : ∀ y ∈ ys, NoBreak y) : Txt.lines (Str.join nlS ys) = resL ys := by
  have e : linesOf (Str.join nlS ys) = resL ys := by
    have := lines_run (Str.join nlS ys) ys 0 [] #[] hne hb rfl rfl
    unfold linesOf lineCuts
    rw [ls_eq, List.map_map]
    simp only [Array.toList_empty, List.map_nil, List.nil_append, Nat.sub_zero] at this
    exact this
  unfold Txt.lines
  split
  · rename_i h
    rw [← e]
    have h' := eq_of_beq h
    unfold linesOf
    rw [h']
    simp [sub_whole]
  · exact e
end Mine
end
section
open PySem PySem.StrLaws PySem.Builtin PySem.Builtin.Str
namespace Mine
def aS (n : Nat) : Str := ⟨(List.replicate n 97).toArray⟩
def text (rows : List Nat) : Str := Str.join nlS (rows.map aS)
def rowsL (rows : List Nat) : List Nat := if rows.getLast? = some 0 then rows.dropLast else rows
theorem nl_len : nlS.length = 1 := by decide +kernel
theorem nl_cps : nlS.cps.toList = [10] := by decide +kernel
theorem str_len (x : Str) : x.length = x.cps.toList.length := by simp [Str.length]
theorem join_len_le (sep : Str) (B : Nat) : ∀ ys : List Str, (∀ y ∈ ys, y.length ≤ B) → (Str.join sep ys).length ≤ ys.length * (B + sep.length)
  | [], _ => by simp [Str.join, Str.empty, Str.length]
  | [y], h => by
    rw [PyProof.Rows.join_one]
    have := h y (.head _)
    simp; omega
  | y :: z :: r, h => by
    rw [PyProof.Rows.join_cons_cons]
    have ih := join_len_le sep B (z :: r) fun a ha => h a (.tail _ ha)
    have h1 := h y (.head _)
    have e : (y ++ sep ++ Str.join sep (z :: r)).length = y.length + sep.length + (Str.join sep (z :: r)).length := by
      simp only [str_len, Str.cps_append, Array.toList_append, List.length_append]
    rw [e, List.length_cons, Nat.add_mul, Nat.one_mul]
    omega
theorem aS_len' (n : Nat) : (aS n).length = n := by simp [aS, Str.length]
theorem aS_mem {n c : Nat} (h : c ∈ (aS n).cps.toList) : c = 97 := by simp [aS] at h; exact h.2
theorem text_len {rows : List Nat} (hr : ∀ n ∈ rows, n ≤ 200) (hl : rows.length ≤ 20) : (text rows).length ≤ 5000 := by
  have := join_len_le nlS 200 (rows.map aS) (fun y hy => by
    obtain ⟨n, hn, rfl⟩ := List.mem_map.mp hy
    rw [aS_len']; exact hr n hn)
  rw [nl_len, List.length_map] at this
  have h2 : rows.length * (200 + 1) ≤ 20 * 201 := Nat.mul_le_mul_right _ hl
  show (Str.join nlS (rows.map aS)).length ≤ 5000
  omega
theorem join_mem {sep : Str} {c : Nat} : ∀ {ys : List Str}, c ∈ (Str.join sep ys).cps.toList → c ∈ sep.cps.toList ∨ ∃ y ∈ ys, c ∈ y.cps.toList
  | [], h => by simp [Str.join, Str.empty] at h
  | [y], h => .inr ⟨y, .head _, h⟩
  | y :: z :: r, h => by
    rw [PyProof.Rows.join_cons_cons] at h
    simp only [Str.cps_append, Array.toList_append, List.mem_append] at h
    rcases h with (h | h) | h
    · exact .inr ⟨y, .head _, h⟩
    · exact .inl h
    · rcases join_mem h with h | ⟨a, ha, h⟩
      · exact .inl h
      · exact .inr ⟨a, .tail _ ha, h⟩
theorem text_plain' (rows : List Nat) : ∀ c ∈ (text rows).cps.toList, c = 97 ∨ c = 10 := by
  intro c hc
  rcases join_mem hc with h | ⟨y, hy, h⟩
  · rw [nl_cps] at h; exact .inr (List.mem_singleton.mp h)
  · obtain ⟨n, hn, rfl⟩ := List.mem_map.mp hy
    exact .inl (aS_mem h)
theorem aS_noBreak (n : Nat) : NoBreak (aS n) := fun c hc => by rw [aS_mem hc]; decide +kernel
theorem aS_empty {n : Nat} : aS n = Str.empty ↔ n = 0 := by
  constructor
  · intro h
    have := congrArg Str.length h
    rw [aS_len'] at this
    exact this
  · rintro rfl; rfl
theorem resL_map (rows : List Nat) : resL (rows.map aS) = (rowsL rows).map aS := by
  unfold resL rowsL
  have e : ((rows.map aS).getLast? = some Str.empty) ↔ rows.getLast? = some 0 := by
    rw [List.getLast?_map]
    cases rows.getLast? with
    | none => simp
    | some n => simp [aS_empty]
  by_cases h : rows.getLast? = some 0
  · rw [if_pos (e.mpr h), if_pos h, List.map_dropLast]
  · rw [if_neg (fun h' => h (e.mp h')), if_neg h]
theorem text_lines {rows : List Nat} (hl : 1 ≤ rows.length) : Txt.lines (text rows) = (rowsL rows).map aS := by
  unfold text
  rw [lines_join (by rintro h; rw [List.map_eq_nil_iff] at h; subst h; simp at hl), resL_map]
  intro y hy
  obtain ⟨n, _, rfl⟩ := List.mem_map.mp hy
  exact aS_noBreak n
theorem item_last {x : Str} {l : List Nat} {c : Nat} (h : x.cps.toList = l ++ [c]) : Txt.item x (-1) = ⟨#[c]⟩ := by
  have hn : x.length = l.length + 1 := by rw [str_len, h]; simp
  have e : Txt.item x (-1) = Txt.item x ((l.length : Int)) := by
    unfold Txt.item Txt.charAt
    rw [hn, StrLaws.seqIndex_neg (by decide) (by omega), PyProof.Rows.seqIndex_at (by omega) (by omega)]
    have e2 : (-1 + ((l.length + 1 : Nat) : Int)).toNat = (l.length : Int).toNat := by omega
    rw [e2]
  rw [e]
  refine PyProof.Rows.item_meets (by omega) ?_
  have : x.cps[l.length]? = x.cps.toList[l.length]? := by simp
  rw [Int.toNat_natCast, this, h]
  simp
theorem text_snoc (r : List Nat) (n : Nat) (h : r ≠ []) : text (r ++ [n]) = text r ++ nlS ++ aS n := by
  unfold text
  rw [List.map_append, List.map_cons, List.map_nil, PyProof.Rows.FinIter.join_snoc, if_neg (by simpa using h)]
theorem text_last0 {rows : List Nat} (h : rows.getLast? = some 0) (hne : (text rows).length ≠ 0) : Txt.item (text rows) (-1) = ⟨#[10]⟩ := by
  obtain ⟨r, rfl⟩ : ∃ r, rows = r ++ [0] := by
    obtain ⟨hne, e⟩ := List.getLast?_eq_some_iff.mp h
    exact ⟨_, e⟩
  by_cases hr : r = []
  · subst hr; exact absurd rfl hne
  · rw [text_snoc r 0 hr]
    refine item_last (l := (text r).cps.toList) ?_
    simp only [Str.cps_append, Array.toList_append, nl_cps]
    simp [aS]
theorem rows_snoc {rows : List Nat} (h : rows ≠ []) : ∃ r n, rows = r ++ [n] := ⟨_, _, (List.dropLast_concat_getLast h).symm⟩
theorem text_last1 {rows : List Nat} (h : rows.getLast? ≠ some 0) (hne : (text rows).length ≠ 0) : Txt.item (text rows) (-1) = ⟨#[97]⟩ := by
  by_cases h0 : rows = []
  · subst h0; exact absurd rfl hne
  obtain ⟨r, n, rfl⟩ := rows_snoc h0
  rw [List.getLast?_concat] at h
  obtain ⟨k, rfl⟩ : ∃ k, n = k + 1 := ⟨n - 1, by have : n ≠ 0 := fun e => h (by rw [e]); omega⟩
  have e : (aS (k + 1)).cps.toList = List.replicate k 97 ++ [97] := by simp [aS, List.replicate_succ']
  by_cases hr : r = []
  · subst hr
    exact item_last (l := List.replicate k 97) e
  · rw [text_snoc r _ hr]
    refine item_last (l := (text r).cps.toList ++ [10] ++ List.replicate k 97) ?_
    simp only [Str.cps_append, Array.toList_append, nl_cps, e, List.append_assoc]
theorem text_zero {rows : List Nat} (hl : 1 ≤ rows.length) (h : (text rows).length = 0) : rows = [0] := by
  have h0 : rows ≠ [] := by rintro rfl; simp at hl
  obtain ⟨r, n, rfl⟩ := rows_snoc h0
  by_cases hr : r = []
  · subst hr
    have e : text [n] = aS n := rfl
    rw [List.nil_append, e, aS_len'] at h
    rw [h]; rfl
  · rw [text_snoc r _ hr] at h
    simp only [str_len, Str.cps_append, Array.toList_append, List.length_append, nl_cps] at h
    simp at h
end Mine
end
section
open PySem PySem.StrLaws PySem.Builtin PySem.Builtin.Str
namespace Mine
theorem occ_all (x y : Str) (hw : 1 ≤ y.length) (lo : Nat) (limit : Nat) (hl : x.length + 1 - lo ≤ limit) : ∃ f, ChainG x y x.length lo (occurrences x y lo x.length limit) f ∧ ∀ k, f ≤ k → ¬ At x y x.length k := by
  rw [occ_eq]
  have key := tight_run x y x.length limit lo hw (x.length + 1 - lo) lo ((#[] : Array Nat), lo) rfl (fun k h1 h2 => by have h1' : lo ≤ k := h1; omega) (by simpa using hl)
  refine ⟨_, key.1, fun k hk hA => ?_⟩
  exact key.2 k hk (by have := hA.1; omega) hA
theorem chain_len (x y : Str) (hw : 1 ≤ y.length) : ∀ (cuts : List Nat) (a f : Nat), ChainG x y x.length a cuts f → a + cuts.length ≤ f ∧ (cuts ≠ [] → f ≤ x.length)
  | [], a, f, h => ⟨by have e : f = a := h; simp [e], fun h => absurd rfl h⟩
  | c :: r, a, f, h => by
    obtain ⟨h1, h2, _, h4⟩ := h
    have ih := chain_len x y hw r _ f h4
    refine ⟨by simp only [List.length_cons]; omega, fun _ => ?_⟩
    cases r with
    | nil => have e : f = c + y.length := h4; have := h2.1; omega
    | cons d r' => exact ih.2 (by simp)
theorem partsFrom_len (x : Str) (w : Nat) : ∀ (a : Nat) (cuts : List Nat), (partsFrom x w a cuts).length = cuts.length + 1
  | _, [] => rfl
  | a, c :: r => by show (partsFrom x w (c + w) r).length + 1 = _; rw [partsFrom_len x w (c + w) r]; simp
theorem split_le {x y : Str} (hy : 0 < y.length) : (Txt.split x y).length ≤ x.length + 1 := by
  unfold Txt.split
  split
  · simp
  · split
    · simp
    · rw [partsBetween_eq, partsFrom_len]
      obtain ⟨f, h, _⟩ := occ_all x y hy 0 (x.length + 1) (by omega)
      have hl := chain_len x y hy _ _ _ h
      by_cases h0 : occurrences x y 0 x.length (x.length + 1) = []
      · rw [h0]; simp
      · have := hl.2 h0; omega
theorem str_length' (x : Str) : x.length = x.cps.toList.length := by simp [Str.length]
theorem dots_cps : dots.cps.toList = [46, 46, 46] := by decide +kernel
theorem dots_len : dots.length = 3 := by decide +kernel
theorem dots_kind (x : Str) : strKind dots ≤ strKind x := by
  have e : strKind dots = 1 := by decide +kernel
  rw [e]
  have g : ∀ b c : Bool, 1 ≤ (if b = true then 1 else if c = true then 2 else 4 : Nat) := by decide
  exact g _ _
theorem split_eq {x : Str} (h : (occurrences x dots 0 x.length 1).isEmpty = false) : ∃ c r f, ChainG x dots x.length 0 (c :: r) f ∧ (∀ k, f ≤ k → ¬ At x dots x.length k) ∧ Txt.split x dots = partsFrom x dots.length 0 (c :: r) := by
  have h1 : (!(occurrences x dots 0 x.length 1).isEmpty) = true := by rw [h]; rfl
  obtain ⟨i, hi⟩ := (found_iff x dots).mp h1
  obtain ⟨f, hc, hf⟩ := occ_all x dots (by rw [dots_len]; decide) 0 (x.length + 1) (by omega)
  unfold Txt.split
  rw [if_neg (by
    have := hi.1
    have := dots_kind x
    simp; omega)]
  cases hl : occurrences x dots 0 x.length (x.length + 1) with
  | nil =>
    rw [hl] at hc
    have e : f = 0 := hc
    exact absurd hi (hf i (by omega))
  | cons c r =>
    rw [hl] at hc
    refine ⟨c, r, f, hc, hf, ?_⟩
    rw [if_neg (by simp), partsBetween_eq]
theorem split_two {x : Str} (h : (occurrences x (Str.ofString "...") 0 x.length 1).isEmpty = false) : 2 ≤ (Txt.split x (Str.ofString "...")).length := by
  obtain ⟨c, r, f, _, _, e⟩ := split_eq (x := x) h
  show 2 ≤ (Txt.split x dots).length
  rw [e, partsFrom_len]
  simp
def NoDot (y : Str) : Prop := 46 ∉ y.cps.toList
theorem at_dots {x : Str} {p : Nat} {pre l : List Nat} (hx : x.cps.toList = pre ++ l) (hp : pre.length = p) {k : Nat} (h : At x dots x.length (p + k)) : (l.drop k).take 3 = [46, 46, 46] := by
  have h2 := h.2
  rw [subAt_eq, dots_cps, dots_len, hx, ← List.drop_drop, List.drop_append_of_le_length (i := p) (by omega), List.drop_of_length_le (i := p) (by omega), List.nil_append] at h2
  exact eq_of_beq h2
theorem no_at {x y : Str} {p : Nat} {pre rest : List Nat} (hy : NoDot y) (hx : x.cps.toList = pre ++ (y.cps.toList ++ rest)) (hp : pre.length = p) {k : Nat} (hk : k < y.cps.toList.length) : ¬ At x dots x.length (p + k) := by
  intro h
  have := at_dots hx hp h
  have e : ((y.cps.toList ++ rest).drop k).head? = some 46 := by
    cases hd : (y.cps.toList ++ rest).drop k with
    | nil => rw [hd] at this; simp at this
    | cons a l => rw [hd] at this; simp at this; simp [this.1]
  rw [List.head?_drop, List.getElem?_append_left hk] at e
  exact hy (List.mem_of_getElem? e)
theorem yes_at {x : Str} {p : Nat} {pre rest : List Nat} (hx : x.cps.toList = pre ++ (dots.cps.toList ++ rest)) (hp : pre.length = p) : At x dots x.length p := by
  have hl := len_at hx
  rw [dots_cps] at hl hx
  simp only [List.length_append, List.length_cons, List.length_nil] at hl
  refine ⟨by rw [dots_len]; omega, ?_⟩
  rw [subAt_eq, dots_cps, dots_len, hx, List.drop_append_of_le_length (by omega), List.drop_of_length_le (by omega), List.nil_append]
  simp
theorem parts_join (x : Str) : ∀ (ys : List Str) (p : Nat) (pre : List Nat) (cuts : List Nat) (f : Nat), ys ≠ [] → (∀ y ∈ ys, NoDot y) → x.cps.toList = pre ++ (Str.join dots ys).cps.toList → pre.length = p →
    ChainG x dots x.length p cuts f → (∀ k, f ≤ k → ¬ At x dots x.length k) → partsFrom x dots.length p cuts = ys
  | [], _, _, _, _, h, _, _, _, _, _ => absurd rfl h
  | [y], p, pre, cuts, f, _, hn, hx, hp, hc, hf => by
    rw [PyProof.Rows.join_one] at hx
    have hl := len_at hx
    rw [List.length_append] at hl
    have none : ∀ k, p ≤ k → ¬ At x dots x.length k := by
      intro k hk hA
      by_cases hb : k < p + y.cps.toList.length
      · have := no_at (x := x) (rest := []) (hn y (.head _)) (by rw [hx, List.append_nil]) hp (k := k - p) (by omega)
        rw [show p + (k - p) = k by omega] at this
        exact this hA
      · have := hA.1; rw [dots_len] at this; omega
    cases cuts with
    | cons c r => exact absurd hc.2.1 (none c hc.1)
    | nil =>
      show [strSub x p x.length] = [y]
      have e : x.length = p + y.cps.toList.length := by omega
      rw [e, sub_at (pre := pre) (rest := []) (by rw [hx, List.append_nil]) hp, str_eta]
  | y :: z :: r, p, pre, cuts, f, _, hn, hx, hp, hc, hf => by
    rw [PyProof.Rows.join_cons_cons] at hx
    simp only [Str.cps_append, Array.toList_append, List.append_assoc] at hx
    have hA : At x dots x.length (p + y.cps.toList.length) := by
      refine yes_at (pre := pre ++ y.cps.toList) (rest := (Str.join dots (z :: r)).cps.toList) (by rw [hx]; simp) ?_
      simp; omega
    have hno : ∀ k, p ≤ k → k < p + y.cps.toList.length → ¬ At x dots x.length k := by
      intro k h1 h2
      have := no_at (hn y (.head _)) hx hp (k := k - p) (by omega)
      rwa [show p + (k - p) = k by omega] at this
    cases cuts with
    | nil => have e : f = p := hc; exact absurd hA (hf _ (by omega))
    | cons c cr =>
      obtain ⟨h1, h2, h3, h4⟩ := hc
      have ec : c = p + y.cps.toList.length := by
        rcases Nat.lt_trichotomy c (p + y.cps.toList.length) with h | h | h
        · exact absurd h2 (hno c h1 h)
        · exact h
        · exact absurd hA (h3 _ (by omega) h)
      subst ec
      show strSub x p (p + y.cps.toList.length) :: partsFrom x dots.length (p + y.cps.toList.length + dots.length) cr = _
      rw [sub_at hx hp, str_eta]
      congr 1
      refine parts_join x (z :: r) _ (pre ++ (y.cps.toList ++ dots.cps.toList)) cr f (by simp) (fun a ha => hn a (.tail _ ha)) (by rw [hx]; simp) ?_ h4 hf
      rw [dots_cps, dots_len]
      simp
      omega
theorem split_join {ys : List Str} (h2 : 2 ≤ ys.length) (hn : ∀ y ∈ ys, NoDot y) : (occurrences (Str.join dots ys) dots 0 (Str.join dots ys).length 1).isEmpty = false ∧ Txt.split (Str.join dots ys) dots = ys := by
  have h0 : (occurrences (Str.join dots ys) dots 0 (Str.join dots ys).length 1).isEmpty = false := by
    obtain ⟨y, z, r, rfl⟩ : ∃ y z r, ys = y :: z :: r := by
      match ys, h2 with
      | y :: z :: r, _ => exact ⟨y, z, r, rfl⟩
    have hA : At (Str.join dots (y :: z :: r)) dots (Str.join dots (y :: z :: r)).length y.cps.toList.length := by
      refine yes_at (pre := y.cps.toList) (rest := (Str.join dots (z :: r)).cps.toList) ?_ rfl
      rw [PyProof.Rows.join_cons_cons]
      simp only [Str.cps_append, Array.toList_append, List.append_assoc]
    have := (found_iff (Str.join dots (y :: z :: r)) dots).mpr ⟨_, hA⟩
    cases hh : (occurrences (Str.join dots (y :: z :: r)) dots 0 (Str.join dots (y :: z :: r)).length 1).isEmpty with
    | false => rfl
    | true => rw [hh] at this; cases this
  obtain ⟨c, r, f, h1, h3, h4⟩ := split_eq h0
  refine ⟨h0, ?_⟩
  rw [h4]
  exact parts_join _ ys 0 [] (c :: r) f (by rintro rfl; simp at h2) hn rfl rfl h1 h3
theorem split_none {y : Str} (hn : NoDot y) : (occurrences y dots 0 y.length 1).isEmpty = true := by
  cases h : (occurrences y dots 0 y.length 1).isEmpty with
  | true => rfl
  | false =>
    have h1 : (!(occurrences y dots 0 y.length 1).isEmpty) = true := by rw [h]; rfl
    obtain ⟨i, hi⟩ := (found_iff y dots).mp h1
    have hl := hi.1
    rw [dots_len, str_length'] at hl
    exact absurd hi (by have := no_at (x := y) (p := 0) (pre := []) (rest := []) hn (by simp) rfl (k := i) (by omega); rwa [Nat.zero_add] at this)
end Mine
end
section
open PySem
namespace Mine
abbrev Part := Nat × Bool
def shs (b : Bool) : List Nat := if b then [61] else []
def wr (p : Part) : List Nat := List.replicate p.1 97 ++ shs p.2
def tl : List Part → List Nat
  | [] => []
  | p :: ps => 10 :: (wr p ++ tl ps)
def after (w : List Nat) : List Nat → Option (List Nat)
  | [] => if w.isPrefixOf [] then some [] else none
  | c :: r => if w.isPrefixOf (c :: r) then some ((c :: r).drop w.length) else after w r
def runL : List (List Nat) → List Nat → Bool
  | [], _ => true
  | w :: ws, rest => match after w rest with
    | none => false
    | some r => runL ws r
def fill : Nat → Bool → List Part → List Part
  | _, _, [] => []
  | r, sh, (n, b) :: as => if n ≤ r ∧ (sh = true ∨ b = false) then (if b then as else fill (r - n) sh as) else (n, b) :: as
def deal : List Part → List Part → Bool
  | [], as => as.isEmpty
  | (r, sh) :: more, as => deal more (fill r sh as)
theorem deal_nil : ∀ more, deal more [] = true
  | [] => rfl
  | (r, sh) :: more => by show deal more (fill r sh []) = true; exact deal_nil more
theorem after_yes {w rest : List Nat} (h : w.isPrefixOf rest = true) : after w rest = some (rest.drop w.length) := by
  cases rest with
  | nil => unfold after; rw [if_pos h]; simp
  | cons c r => unfold after; rw [if_pos h]
theorem after_no {w r : List Nat} {c : Nat} (h : w.isPrefixOf (c :: r) = false) : after w (c :: r) = after w r := by
  conv => lhs; unfold after
  rw [if_neg (by rw [h]; decide)]
theorem rep_succ (r : Nat) (X : List Nat) : List.replicate (r + 1) 97 ++ X = 97 :: (List.replicate r 97 ++ X) := by
  rw [List.replicate_succ]; rfl
theorem preA : ∀ (n r : Nat) (X : List Nat), X.head? ≠ some 97 → (List.replicate n 97).isPrefixOf (List.replicate r 97 ++ X) = decide (n ≤ r)
  | 0, r, X, _ => by simp
  | n + 1, 0, X, h => by
    cases X with
    | nil => simp [List.replicate_succ, List.isPrefixOf]
    | cons c X =>
      have hc : (97 == c) = false := by
        rw [beq_eq_false_iff_ne]; rintro rfl; exact h rfl
      simp [List.replicate_succ, List.isPrefixOf, hc]
  | n + 1, r + 1, X, h => by
    rw [rep_succ, List.replicate_succ]
    show ((97 == 97) && (List.replicate n 97).isPrefixOf (List.replicate r 97 ++ X)) = _
    rw [preA n r X h]; simp
theorem preS : ∀ (n r : Nat) (X : List Nat), X.head? ≠ some 97 → (List.replicate n 97 ++ [61]).isPrefixOf (List.replicate r 97 ++ X) = (decide (n = r) && X.head? == some 61)
  | 0, 0, X, _ => by
    cases X with
    | nil => rfl
    | cons c X => simp [List.isPrefixOf, Bool.beq_comm]
  | 0, r + 1, X, _ => by simp [List.replicate_succ, List.isPrefixOf]
  | n + 1, 0, X, h => by
    cases X with
    | nil => simp [List.replicate_succ, List.isPrefixOf]
    | cons c X =>
      have hc : (97 == c) = false := by
        rw [beq_eq_false_iff_ne]; rintro rfl; exact h rfl
      simp [List.replicate_succ, List.isPrefixOf, hc]
  | n + 1, r + 1, X, h => by
    rw [rep_succ, rep_succ]
    show ((97 == 97) && (List.replicate n 97 ++ [61]).isPrefixOf (List.replicate r 97 ++ X)) = _
    rw [preS n r X h]; simp
theorem drop_rep {n r : Nat} (h : n ≤ r) (X : List Nat) : (List.replicate r 97 ++ X).drop n = List.replicate (r - n) 97 ++ X := by
  rw [List.drop_append_of_le_length (by simpa using h)]; simp
/-- an open part with room -/
theorem after_open {n r : Nat} {X : List Nat} (hX : X.head? ≠ some 97) (h : n ≤ r) : after (List.replicate n 97) (List.replicate r 97 ++ X) = some (List.replicate (r - n) 97 ++ X) := by
  rw [after_yes (by rw [preA n r X hX]; simpa using h), List.length_replicate, drop_rep h]
theorem after_open_no {n : Nat} {X : List Nat} (hX : X.head? ≠ some 97) : ∀ r, r < n → after (List.replicate n 97) (List.replicate r 97 ++ X) = after (List.replicate n 97) X
  | 0, _ => by simp
  | r + 1, h => by
    have p := preA n (r + 1) X hX
    rw [rep_succ] at p ⊢
    rw [after_no (by rw [p]; simp; omega), after_open_no hX r (by omega)]
theorem after_shut {n : Nat} {Y : List Nat} : ∀ r, n ≤ r → after (List.replicate n 97 ++ [61]) (List.replicate r 97 ++ 61 :: Y) = some Y
  | 0, h => by
    have hn : n = 0 := by omega
    subst hn
    rw [after_yes (by rw [preS _ _ _ (by simp)]; simp)]; simp
  | r + 1, h => by
    have p := preS n (r + 1) (61 :: Y) (by simp)
    by_cases e : n = r + 1
    · subst e
      rw [after_yes (by rw [p]; simp)]
      simp [List.drop_append]
    · rw [rep_succ] at p ⊢
      rw [after_no (by rw [p]; simp [e]), after_shut r (by omega)]
theorem after_shut_no {n : Nat} {X : List Nat} (hX : X.head? ≠ some 97) : ∀ r, (r < n ∨ X.head? ≠ some 61) → after (List.replicate n 97 ++ [61]) (List.replicate r 97 ++ X) = after (List.replicate n 97 ++ [61]) X
  | 0, _ => by simp
  | r + 1, h => by
    have p := preS n (r + 1) X hX
    rw [rep_succ] at p ⊢
    rw [after_no, after_shut_no hX r (h.imp (by omega) id)]
    rw [p]
    rcases h with h | h
    · have : n ≠ r + 1 := by omega
      simp [this]
    · simp [h]
theorem skip_head {n c : Nat} {t X : List Nat} (hn : 1 ≤ n) (hc : c ≠ 97) : after (List.replicate n 97 ++ t) (c :: X) = after (List.replicate n 97 ++ t) X := by
  obtain ⟨k, rfl⟩ : ∃ k, n = k + 1 := ⟨n - 1, by omega⟩
  rw [rep_succ]
  refine after_no ?_
  show ((97 == c) && _) = false
  have : (97 == c) = false := by rw [beq_eq_false_iff_ne]; exact fun e => hc e.symm
  rw [this]; rfl
theorem tl_head (more : List Part) : (tl more).head? ≠ some 97 := by cases more <;> simp [tl]
theorem tl_head2 (more : List Part) : (tl more).head? ≠ some 61 := by cases more <;> simp [tl]
theorem shs_head (sh : Bool) (more : List Part) : (shs sh ++ tl more).head? ≠ some 97 := by
  cases sh
  · exact tl_head more
  · simp [shs]
theorem after_nil {n : Nat} {t : List Nat} (hn : 1 ≤ n) : after (List.replicate n 97 ++ t) [] = none := by
  obtain ⟨k, rfl⟩ : ∃ k, n = k + 1 := ⟨n - 1, by omega⟩
  rw [rep_succ]; unfold after; rw [if_neg (by simp [List.isPrefixOf])]
def cur (r : Nat) (sh : Bool) (more : List Part) : List Nat := List.replicate r 97 ++ (shs sh ++ tl more)
/-- a part that does not go into this room is sought behind it -/
theorem after_pass {n r : Nat} {b sh : Bool} {more : List Part} (hn : b = true → 1 ≤ n) (h : ¬ (n ≤ r ∧ (sh = true ∨ b = false))) : after (wr (n, b)) (cur r sh more) = after (wr (n, b)) (tl more) := by
  cases b with
  | false =>
    have hr : r < n := by simpa using h
    have e0 : wr (n, false) = List.replicate n 97 := by simp [wr, shs]
    unfold cur
    rw [e0, after_open_no (shs_head sh more) r hr]
    cases sh with
    | false => rfl
    | true =>
      have := skip_head (n := n) (c := 61) (t := []) (X := tl more) (by omega) (by decide)
      simpa [shs] using this
  | true =>
    have h1 := hn rfl
    have hr : r < n ∨ sh = false := by
      cases sh
      · exact .inr rfl
      · left; simpa using h
    unfold cur wr
    simp only [shs, if_true]
    cases sh with
    | false =>
      simp only [Bool.false_eq_true, if_false, List.nil_append]
      rw [after_shut_no (tl_head more) r (.inr (tl_head2 more))]
    | true =>
      have hr : r < n := by simpa using hr
      simp only [if_true, List.cons_append, List.nil_append]
      rw [after_shut_no (by simp) r (.inl hr)]
      exact skip_head h1 (by decide)
theorem wr_pos {n : Nat} {b : Bool} (h : b = true → 1 ≤ n) (h2 : ¬ (n = 0 ∧ b = false)) : 1 ≤ n := by
  cases b
  · cases n
    · exact absurd ⟨rfl, rfl⟩ h2
    · omega
  · exact h rfl
def LastOpen (l : List Part) : Prop := ∀ p, l.getLast? = some p → p.2 = false
theorem lastOpen_tail {p q : Part} {r : List Part} (h : LastOpen (p :: q :: r)) : LastOpen (q :: r) := fun x hx => h x (by rw [List.getLast?_cons_cons]; exact hx)
theorem runL_cons {w rest : List Nat} {ws : List (List Nat)} {r : List Nat} (h : after w rest = some r) : runL (w :: ws) rest = runL ws r := by
  show (match after w rest with | none => false | some r => runL ws r) = _
  rw [h]
theorem runL_none {w rest : List Nat} {ws : List (List Nat)} (h : after w rest = none) : runL (w :: ws) rest = false := by
  show (match after w rest with | none => false | some r => runL ws r) = _
  rw [h]
theorem runL_eq {w rest rest' : List Nat} {ws : List (List Nat)} (h : after w rest = after w rest') : runL (w :: ws) rest = runL (w :: ws) rest' := by
  show (match after w rest with | none => false | some r => runL ws r) = (match after w rest' with | none => false | some r => runL ws r)
  rw [h]
def Good (as : List Part) : Prop := ∀ p ∈ as, p.2 = true → 1 ≤ p.1
theorem fill_zero (r : Nat) (sh : Bool) (as : List Part) : fill r sh ((0, false) :: as) = fill r sh as := by
  conv => lhs; unfold fill
  rw [if_pos ⟨Nat.zero_le _, .inr rfl⟩]; simp
/-- the seen rooms take the parts: first the room at hand, then those behind -/
theorem main : ∀ (more : List Part),
    (more ≠ [] → LastOpen more → ∀ as, Good as → runL (as.map wr) (tl more) = deal more as) ∧
    ∀ (sh : Bool), (∀ r : Nat, LastOpen ((r, sh) :: more) → ∀ as, Good as → runL (as.map wr) (cur r sh more) = deal ((r, sh) :: more) as) := by
  intro more
  induction more with
  | nil =>
    refine ⟨fun h => absurd rfl h, fun sh r hl as hg => ?_⟩
    have hsh : sh = false := hl (r, sh) rfl
    subst hsh
    induction as generalizing r with
    | nil => rfl
    | cons p as ih =>
      obtain ⟨n, b⟩ := p
      have hg1 : b = true → 1 ≤ n := hg (n, b) (.head _)
      have hg2 : Good as := fun q hq => hg q (.tail _ hq)
      by_cases hc : n ≤ r ∧ (false = true ∨ b = false)
      · obtain ⟨hnr, hb⟩ := hc
        have hb : b = false := by simpa using hb
        subst hb
        show runL (wr (n, false) :: as.map wr) _ = deal [] (fill r false ((n, false) :: as))
        have e : after (wr (n, false)) (cur r false []) = some (cur (r - n) false []) := by
          have e0 : wr (n, false) = List.replicate n 97 := by simp [wr, shs]
          rw [e0]
          exact after_open (shs_head false []) hnr
        rw [runL_cons e, ih (r - n) hg2 (by intro p hp; cases hp; rfl)]
        conv => rhs; unfold fill
        rw [if_pos ⟨hnr, .inr rfl⟩]
        rfl
      · show runL (wr (n, b) :: as.map wr) _ = deal [] (fill r false ((n, b) :: as))
        have hn1 : 1 ≤ n := wr_pos hg1 (by rintro ⟨rfl, rfl⟩; exact hc ⟨Nat.zero_le _, .inr rfl⟩)
        have e : after (wr (n, b)) (cur r false []) = none := by
          rw [after_pass hg1 hc]; exact after_nil hn1
        rw [runL_none e]
        unfold fill
        rw [if_neg hc]
        rfl
  | cons q ps ih =>
    obtain ⟨r₁, sh₁⟩ := q
    obtain ⟨_, ih2⟩ := ih
    have hcur : tl ((r₁, sh₁) :: ps) = 10 :: cur r₁ sh₁ ps := by
      unfold cur; show 10 :: (wr (r₁, sh₁) ++ tl ps) = _; unfold wr; simp
    have dead : LastOpen ((r₁, sh₁) :: ps) → ∀ as, Good as → runL (as.map wr) (tl ((r₁, sh₁) :: ps)) = deal ((r₁, sh₁) :: ps) as := by
      intro hl as
      induction as with
      | nil => intro _; exact (deal_nil _).symm
      | cons p as iha =>
        intro hg
        obtain ⟨n, b⟩ := p
        have hg1 : b = true → 1 ≤ n := hg (n, b) (.head _)
        have hg2 : Good as := fun q hq => hg q (.tail _ hq)
        by_cases hz : n = 0 ∧ b = false
        · obtain ⟨rfl, rfl⟩ := hz
          show runL (wr (0, false) :: as.map wr) _ = deal ps (fill r₁ sh₁ ((0, false) :: as))
          have e : after (wr (0, false)) (tl ((r₁, sh₁) :: ps)) = some (tl ((r₁, sh₁) :: ps)) := by
            rw [after_yes (by simp [wr, shs])]; simp [wr, shs]
          rw [runL_cons e, iha hg2, fill_zero]
          rfl
        · have hn1 := wr_pos hg1 hz
          show runL (wr (n, b) :: as.map wr) _ = _
          rw [hcur]
          refine (runL_eq (show after (wr (n, b)) _ = _ from skip_head (n := n) (c := 10) (t := shs b) (X := cur r₁ sh₁ ps) hn1 (by decide))).trans ?_
          exact ih2 sh₁ r₁ hl ((n, b) :: as) hg
    refine ⟨fun _ hl as hg => dead hl as hg, fun sh r hl as hg => ?_⟩
    have hl' := lastOpen_tail hl
    induction as generalizing r with
    | nil => exact (deal_nil _).symm
    | cons p as iha =>
      obtain ⟨n, b⟩ := p
      have hg1 : b = true → 1 ≤ n := hg (n, b) (.head _)
      have hg2 : Good as := fun q hq => hg q (.tail _ hq)
      show runL (wr (n, b) :: as.map wr) _ = deal ((r₁, sh₁) :: ps) (fill r sh ((n, b) :: as))
      by_cases hc : n ≤ r ∧ (sh = true ∨ b = false)
      · cases b with
        | false =>
          have e : after (wr (n, false)) (cur r sh ((r₁, sh₁) :: ps)) = some (cur (r - n) sh ((r₁, sh₁) :: ps)) := by
            have e0 : wr (n, false) = List.replicate n 97 := by simp [wr, shs]
            rw [e0]
            exact after_open (shs_head sh _) hc.1
          rw [runL_cons e, iha (r - n) (by intro p hp; exact hl p (by rw [List.getLast?_cons_cons] at hp ⊢; exact hp)) hg2]
          conv => rhs; unfold fill
          rw [if_pos hc]
          rfl
        | true =>
          have hsh : sh = true := by simpa using hc.2
          subst hsh
          have e : after (wr (n, true)) (cur r true ((r₁, sh₁) :: ps)) = some (tl ((r₁, sh₁) :: ps)) := by
            unfold wr cur; simp only [shs, if_true, List.cons_append, List.nil_append]
            exact after_shut r hc.1
          rw [runL_cons e, dead hl' as hg2]
          conv => rhs; unfold fill
          rw [if_pos hc, if_pos rfl]
      · have hn1 : 1 ≤ n := wr_pos hg1 (by rintro ⟨rfl, rfl⟩; exact hc ⟨Nat.zero_le _, .inr rfl⟩)
        rw [runL_eq (after_pass hg1 hc)]
        have := dead hl' ((n, b) :: as) hg
        conv => rhs; unfold fill
        rw [if_neg hc]
        exact this
end Mine
end
section
open PySem PySem.W PyProof.Rows PySem.Spec PySem.Calls PySem.Builtin PySem.Builtin.Str
namespace Mine
def Hold (p : Prop) : Prop := p
theorem hold {p : Prop} (h : Hold p) : p := h
theorem fr_map {h₀ h : Heap} {L : Addr} {m m' : Str → Option Value} (F : Fr h₀ L h m) (e : m = m') : Fr h₀ L h m' := e ▸ F
theorem lookup_mem {β : Type} {y : Str} {v : β} : ∀ {ps : List (Str × β)}, List.lookup y ps = some v → (y, v) ∈ ps
  | (z, u) :: r, h => by
    rw [List.lookup_cons] at h
    by_cases e : (y == z) = true
    · simp only [e] at h
      rw [beq_iff_eq.mp e, Option.some.inj h]; exact .head _
    · simp only [e] at h
      exact .tail _ (lookup_mem h)
theorem kept_map {ps : List (Str × Value)} {m : Str → Option Value} (h : ∀ p ∈ ps, m p.1 = some p.2) : m = fun y => (List.lookup y ps).or (m y) := by
  funext y
  cases e : List.lookup y ps with
  | none => rfl
  | some v => exact h _ (lookup_mem e)
theorem kept_map2 {ps : List (Str × Value)} {m : Str → Option Value} {x : Str} {v : Value} (h : ∀ p ∈ ps, m p.1 = some p.2) : (fun y => if y = x then some v else m y) = fun y => if y = x then some v else (List.lookup y ps).or (m y) := by
  funext y
  by_cases e : y = x
  · simp only [if_pos e]
  · simp only [if_neg e]; exact congrFun (kept_map h) y
/-- what is kept between the turns -/
def JP {σ : Type} (ps : σ → List (Str × Value)) (Lg : σ → Led) (P : σ → Prop) (news : Led) (m : Str → Option Value) (nx : Led) : Prop := ∃ c, nx = Lg c ++ news ∧ P c ∧ ∀ p ∈ ps c, m p.1 = some p.2
section
variable {prog : Program} {w : World} {A : Around} {E : Value → Shared → Prop} {s : Shared} {env : Env} {h₀ : Heap} {x : Str} {body : List Stmt} {Q : Flow → Shared → Prop}
theorem for_listP {σ : Type} {l : Addr} {vs : List Value} {nn : Nat} {m₀ : Str → Option Value} {news : Led} (ps : σ → List (Str × Value)) (Lg : σ → Led) (P : Nat → σ → Prop) (c₀ : σ)
    (hh : A.handled = none) (F : Fr h₀ env.locals s.heap m₀) (N : News h₀ env.locals s.heap (Lg c₀ ++ news)) (hl : (l, lst vs nn) ∈ news) (hp : P 0 c₀) (hk : ∀ p ∈ ps c₀, m₀ p.1 = some p.2)
    (turn : ∀ i v c (m₁ : Str → Option Value) h tk own, vs[i]? = some v → P i c → OwnOff own ((Lg c ++ news).map (·.1)) → Fr h₀ env.locals h (fun y => if y = x then some v else (List.lookup y (ps c)).or (m₁ y)) → News h₀ env.locals h (Lg c ++ (news ++ own)) →
      wpAny (model prog w) A (execs body env) (InvPostG h₀ env.locals (JP ps Lg (P (i + 1)) news) own { s with heap := h, toks := tk } Q) E { s with heap := h, toks := tk })
    (done : ∀ c (m₁ : Str → Option Value) h tk, P vs.length c → Fr h₀ env.locals h (fun y => (List.lookup y (ps c)).or (m₁ y)) → News h₀ env.locals h (Lg c ++ news) → Q .next { s with heap := h, toks := tk }) :
    wpAny (model prog w) A (pyIter (.ref l)) (fun it s₂ => LoopAtV prog w A h₀ env x body Q E it s₂) E s := by
  refine kdl_iter (fun i m nx => JP ps Lg (P i) news m nx) hh (List.mem_append_right _ hl) F N ⟨c₀, rfl, hp, hk⟩ ?_ ?_
  · rintro i v m₁ nx h tk own hi hoff _ ⟨c, rfl, hP, hm⟩ F₁ N₁
    rw [List.append_assoc] at N₁
    refine wpAny_mono (turn i v c m₁ h tk own hi hP hoff (fr_map F₁ (kept_map2 hm)) N₁) (fun f s₂ p => ?_) fun _ _ e => e
    have up : InvEndG h₀ env.locals (JP ps Lg (P (i + 1)) news) own { s with heap := h, toks := tk } s₂ → InvEndG h₀ env.locals (fun m' nx => (l, lst vs nn) ∈ nx ∧ JP ps Lg (P (i + 1)) news m' nx) own { s with heap := h, toks := tk } s₂ := by
      rintro ⟨h', tk', m', news', nx, e, F', N', hn, ho, ha, c', rfl, hP', hm'⟩
      exact ⟨h', tk', m', news', _, e, F', N', hn, ho, ha, List.mem_append_right _ hl, c', rfl, hP', hm'⟩
    cases f with
    | ret v => exact p
    | brk => exact p
    | next => exact up p
    | cont => exact up p
  · rintro m₁ nx h tk ⟨c, rfl, hP, hm⟩ F₁ N₁
    exact done c m₁ h tk hP (fr_map F₁ (kept_map hm)) N₁
theorem for_rangeP {σ : Type} {r : Addr} {a₀ b₀ : Int} {t₀ u₀ v₀ : Tok} {n : Nat} {m₀ : Str → Option Value} {news : Led} (ps : σ → List (Str × Value)) (Lg : σ → Led) (P : Nat → σ → Prop) (c₀ : σ)
    (hh : A.handled = none) (hr : IsRange s.heap r a₀ b₀ 1 t₀ u₀ v₀) (hsmall : Builtin.Range.small a₀ b₀ 1 = true) (hsz : Builtin.Range.rangeSize a₀ b₀ 1 = (n : Int)) (F : Fr h₀ env.locals s.heap m₀) (N : News h₀ env.locals s.heap (Lg c₀ ++ news)) (hp : P 0 c₀) (hk : ∀ p ∈ ps c₀, m₀ p.1 = some p.2)
    (turn : ∀ i c t (m₁ : Str → Option Value) h tk own, i < n → P i c → OwnOff own ((Lg c ++ news).map (·.1)) → Fr h₀ env.locals h (fun y => if y = x then some (.int (a₀ + (i : Int)) t) else (List.lookup y (ps c)).or (m₁ y)) → News h₀ env.locals h (Lg c ++ (news ++ own)) →
      wpAny (model prog w) A (execs body env) (InvPostG h₀ env.locals (JP ps Lg (P (i + 1)) news) own { s with heap := h, toks := tk } Q) E { s with heap := h, toks := tk })
    (done : ∀ c (m₁ : Str → Option Value) h tk, P n c → Fr h₀ env.locals h (fun y => (List.lookup y (ps c)).or (m₁ y)) → News h₀ env.locals h (Lg c ++ news) → Q .next { s with heap := h, toks := tk }) :
    wpAny (model prog w) A (pyIter (.ref r)) (fun it s₂ => LoopAtV prog w A h₀ env x body Q E it s₂) E s := by
  refine wpAny_pyIter_range hr hsmall ?_
  have W : Walks prog w A s.heap.objs.size [s.heap.objs.size] [s.heap.objs.size] n (fun i v => i < n ∧ ∃ t, v = .int (a₀ + i * 1) t)
      (fun i h => IsRangeIter h s.heap.objs.size (a₀ + (i : Nat) * 1) ((n : Int) - (i : Nat)) 1) := (Walks.range hh _ a₀ 1 n).bound
  refine kdr_loop (fun i m nx => JP ps Lg (P i) news m nx) W (fun _ h => h) (fun _ h => h) ?_ ?_ ?_ ?_ (by show IsRangeIter _ _ _ _ _; rw [hsz]; simpa using Heap.get?_push_size _ rfl) (F.push _) (fun p hp => ⟨Heap.get?_push_of_some _ (N p hp).1, (N p hp).2⟩) ⟨c₀, rfl, hp, hk⟩ ?_ ?_
  · intro i h hi b hb
    rw [List.mem_singleton.mp hb]
    exact ⟨_, hi⟩
  · intro hm
    exact absurd F.ns.lt ((List.mem_singleton.mp hm) ▸ Nat.lt_irrefl _)
  · intro b hb
    rw [List.mem_singleton.mp hb]
    exact next_is_new F
  · intro p hp hI
    exact absurd (Heap.lt_size (N p hp).1) ((List.mem_singleton.mp hI) ▸ Nat.lt_irrefl _)
  · rintro i v m₁ nx h tk own hi ⟨_, t, rfl⟩ hoff ⟨c, rfl, hP, hm⟩ F₁ N₁
    have e1 : a₀ + (i : Int) * 1 = a₀ + (i : Int) := by omega
    rw [e1] at F₁
    rw [List.append_assoc] at N₁
    exact turn i c t m₁ h tk own hi hP hoff (fr_map F₁ (kept_map2 hm)) N₁
  · rintro m₁ nx h tk ⟨c, rfl, hP, hm⟩ F₁ N₁
    exact done c m₁ h tk hP (fr_map F₁ (kept_map hm)) N₁
/-- the end of a while's turn -/
def WEnd {σ : Type} (h₀ : Heap) (L : Addr) (s : Shared) (ps : σ → List (Str × Value)) (Lg : σ → Led) (P : σ → Prop) (μ : σ → Nat) (news : Led) (k : Nat) (s₂ : Shared) : Prop :=
  ∃ (c' : σ) (h' : Heap) (tk : Nat) (m' : Str → Option Value) (news' : Led), s₂ = { s with heap := h', toks := tk } ∧ Fr h₀ L h' m' ∧ News h₀ L h' news' ∧ (∀ p ∈ Lg c' ++ news, p ∈ news') ∧ (∀ p ∈ ps c', m' p.1 = some p.2) ∧ P c' ∧ μ c' < k
def WPost {σ : Type} (h₀ : Heap) (L : Addr) (s : Shared) (ps : σ → List (Str × Value)) (Lg : σ → Led) (P : σ → Prop) (μ : σ → Nat) (news : Led) (Q : Flow → Shared → Prop) (k : Nat) (f : Flow) (s₂ : Shared) : Prop :=
  match f with
  | .ret v => Q (.ret v) s₂
  | .brk => Q .next s₂
  | _ => WEnd h₀ L s ps Lg P μ news k s₂
theorem while_P {σ : Type} {L : Addr} {test : PySem.Expr} {pos : Pos} {m₀ : Str → Option Value} {news : Led} (ps : σ → List (Str × Value)) (Lg : σ → Led) (P : σ → Prop) (μ : σ → Nat) (c₀ : σ)
    (F : Fr h₀ L s.heap m₀) (N : News h₀ L s.heap (Lg c₀ ++ news)) (hp : P c₀) (hk : ∀ p ∈ ps c₀, m₀ p.1 = some p.2)
    (turn : ∀ c (m₁ : Str → Option Value) h tk, P c → Fr h₀ L h (fun y => (List.lookup y (ps c)).or (m₁ y)) → News h₀ L h (Lg c ++ news) →
      wpAny (model prog w) A (isTrue test env (eval test env)) (fun b s₂ => if b = true then wpAny (model prog w) A (execs body env) (WPost h₀ L s ps Lg P μ news Q (μ c)) E s₂ else Q .next s₂) E { s with heap := h, toks := tk })
    (hE : PassesOwn (model prog w) A env E := by passes_own) :
    wpAny (model prog w) A (exec (.While test body [] pos) env) Q E s := by
  refine While_inv2 (fun n m nx => ∃ c : σ, nx = Lg c ++ news ∧ μ c = n ∧ P c ∧ ∀ p ∈ ps c, m p.1 = some p.2) F N ⟨c₀, rfl, rfl, hp, hk⟩ ?_ hE
  rintro n m₁ nx h tk F₁ N₁ ⟨c, rfl, hsz, hp', h1⟩
  rw [← hsz]
  refine wpAny_mono (turn c m₁ h tk hp' (fr_map F₁ (kept_map h1)) N₁) (fun b s₂ p => ?_) fun _ _ x => x
  cases b with
  | false => simpa using p
  | true =>
    simp only [if_true] at p ⊢
    refine wpAny_mono p (fun f s₃ q => ?_) fun _ _ x => x
    cases f with
    | ret v => exact q
    | brk => exact q
    | next =>
      obtain ⟨c', h', tk', m', news', rfl, F', N', hn, hk9, hp9, hm9⟩ := q
      exact ⟨h', tk', m', _, μ c', rfl, F', fun p hp => N' p (hn p hp), hm9, c', rfl, rfl, hp9, hk9⟩
    | cont =>
      obtain ⟨c', h', tk', m', news', rfl, F', N', hn, hk9, hp9, hm9⟩ := q
      exact ⟨h', tk', m', _, μ c', rfl, F', fun p hp => N' p (hn p hp), hm9, c', rfl, rfl, hp9, hk9⟩
theorem w_end {σ : Type} {L : Addr} {ps : σ → List (Str × Value)} {Lg : σ → Led} {P : σ → Prop} {μ : σ → Nat} {news news' : Led} {k : Nat} {h' : Heap} {tk : Nat} {m' : Str → Option Value} (c' : σ) (F : Fr h₀ L h' m') (N : News h₀ L h' news') (hn : ∀ p ∈ Lg c' ++ news, p ∈ news') (hk : ∀ p ∈ ps c', m' p.1 = some p.2) (hp : P c') (hm : μ c' < k) :
    WEnd h₀ L s ps Lg P μ news k { s with heap := h', toks := tk } := ⟨c', h', tk, m', news', rfl, F, N, hn, hk, hp, hm⟩
theorem g_end {σ : Type} {L : Addr} {ps : σ → List (Str × Value)} {Lg : σ → Led} {P : σ → Prop} {news own news' : Led} {h' : Heap} {tk : Nat} {m' : Str → Option Value} (c' : σ) (F : Fr h₀ L h' m') (N : News h₀ L h' news') (hn : ∀ p ∈ Lg c' ++ news, p ∈ news') (ho : ∀ p ∈ own, p ∈ news') (ha : OwnOff own ((Lg c' ++ news).map (·.1))) (hk : ∀ p ∈ ps c', m' p.1 = some p.2) (hp : P c') :
    InvEndG h₀ L (JP ps Lg P news) own s { s with heap := h', toks := tk } := ⟨h', tk, m', news', _, rfl, F, N, hn, ho, ha, c', rfl, hp, hk⟩
end
end Mine
end
section
open PySem PySem.W PyProof.Rows PySem.Spec PySem.Calls PySem.Builtin PySem.Builtin.Str
namespace Mine
def pd (p : Nat × Bool) : Dat := .tuple [.int p.1, .bool p.2]
abbrev tup (vs : List Value) (n : Nat) : Obj := { cls := .type "tuple", data := .seq vs.toArray n }
def PairAt (news : Led) (q : Addr) (p : Part) : Prop := ∃ t k, (q, tup [.int (p.1 : Int) t, .bool p.2] k) ∈ news
def PairsIn (news : Led) (a : Addr) (ps : List Part) : Prop := ∃ vs n, (a, lst vs n) ∈ news ∧ DatAll news vs (ps.map pd)
theorem pairsIn_dat {news : Led} {a : Addr} {ps : List Part} (h : DatIn news (.ref a) (.list (ps.map pd))) : PairsIn news a ps := by
  cases h with
  | list hm r => exact ⟨_, _, hm, r⟩
theorem PairsIn.dat {news : Led} {a : Addr} {ps : List Part} (h : PairsIn news a ps) : DatIn news (.ref a) (.list (ps.map pd)) := let ⟨_, _, hm, r⟩ := h; .list hm r
theorem PairsIn.mono {n m : Led} {a : Addr} {ps : List Part} (hs : ∀ p ∈ n, p ∈ m) (h : PairsIn n a ps) : PairsIn m a ps := let ⟨vs, k, hm, r⟩ := h; ⟨vs, k, hs _ hm, DatAll.mono hs r⟩
def pt (ps : List Part) (i : Nat) : Part := ps.getD i (0, false)
theorem pt_eq {ps : List Part} {i : Nat} (h : i < ps.length) : pt ps i = ps[i] := by unfold pt; simp [h]
theorem pair_at {news : Led} {v : Value} {p : Part} (h : DatIn news v (pd p)) : ∃ q, v = .ref q ∧ PairAt news q p := by
  unfold pd at h
  cases h with
  | tuple hm r =>
    cases r with
    | cons h1 r =>
      cases r with
      | cons h2 r =>
        cases r
        cases h1
        cases h2
        exact ⟨_, rfl, _, _, hm⟩
theorem pairs_get {news : Led} {vs : List Value} {ps : List Part} (h : DatAll news vs (ps.map pd)) {i : Nat} (hi : i < ps.length) : ∃ q, vs[i]? = some (.ref q) ∧ PairAt news q (pt ps i) := by
  obtain ⟨v, e, hv⟩ := DatAll.get h (k := i) (by simpa using hi)
  rw [List.getElem_map] at hv
  obtain ⟨q, rfl, hq⟩ := pair_at hv
  exact ⟨q, e, by rw [pt_eq hi]; exact hq⟩
section
variable {prog : Program} {w : World} {A : Around} {E : Value → Shared → Prop} {s : Shared} {h₀ : Heap} {L : Addr} {m : Str → Option Value} {news n₀ n₁ : Led} {u : Tok} {Q : Value → Shared → Prop} {a b : Addr} {ps qs : List Part} {value slice : PySem.Expr}
theorem r_pair {k : Int} {i : Nat} (N : News h₀ L s.heap news) (hP : PairsIn n₀ a ps) (sub : ∀ p ∈ n₀, p ∈ news) (hk : k = (i : Int)) (hi : i < ps.length) (hb : i < 1000000)
    (hs : subscripted slice false (.ref a) (.int k u) = operate [.ref a, .int k u] (getItem (.ref a) (.int k u)))
    (h : ∀ q, PairAt n₀ q (pt ps i) → Q (.ref q) s) :
    wpAny (model prog w) A (subscriptTail value slice (.ref a) (.int k u)) Q E s := by
  obtain ⟨vs, n, hm, r⟩ := hP
  obtain ⟨q, e, hq⟩ := pairs_get r hi
  subst hk
  have hl := News.isList N (sub _ hm)
  exact tail_any hl.typeIs slot_list_getitem.lookup (wpAny_getItem_list hl (by omega) (by omega) (by simpa using e) (h q hq)) hs
theorem r_pairL {k : Int} (N : News h₀ L s.heap news) (hP : PairsIn n₀ a ps) (sub : ∀ p ∈ n₀, p ∈ news) (hk : k = -1) (hi : 0 < ps.length)
    (hs : subscripted slice false (.ref a) (.int k u) = operate [.ref a, .int k u] (getItem (.ref a) (.int k u)))
    (h : ∀ q, PairAt n₀ q (pt ps (ps.length - 1)) → Q (.ref q) s) :
    wpAny (model prog w) A (subscriptTail value slice (.ref a) (.int k u)) Q E s := by
  obtain ⟨vs, n, hm, r⟩ := hP
  have hlen : vs.length = ps.length := by rw [DatAll.length r, List.length_map]
  obtain ⟨q, e, hq⟩ := pairs_get r (show ps.length - 1 < ps.length by omega)
  subst hk
  have hl := News.isList N (sub _ hm)
  refine tail_any hl.typeIs slot_list_getitem.lookup (wpAny_getItem_list_neg hl (by decide) (by simp; omega) (by decide) ?_ (h q hq)) hs
  have e2 : (-1 + ((vs.toArray.size : Nat) : Int)).toNat = ps.length - 1 := by simp; omega
  rw [e2]; simpa using e
theorem r_lenP (hP : PairsIn n₀ a ps) (sub : ∀ p ∈ n₀, p ∈ news) (N : News h₀ L s.heap news) (hb : ps.length < 1000000) (h : Q (.int (ps.length : Int) (s.toks + 1)) { s with toks := s.toks + 1 + 1 }) : wpAny (model prog w) A (call (.builtin "len") [.ref a]) Q E s := by
  obtain ⟨vs, n, hm, r⟩ := hP
  have hlen : vs.length = ps.length := by rw [DatAll.length r, List.length_map]
  refine len_list (News.isList N (sub _ hm)) (by simp; omega) ?_
  have e : ((vs.toArray.size : Nat) : Int) = (ps.length : Int) := by simp; omega
  rw [e]; exact h
theorem r_fst {q : Addr} {p : Part} {k : Int} (hP : PairAt n₀ q p) (sub : ∀ p ∈ n₀, p ∈ news) (N : News h₀ L s.heap news) (hk : k = 0)
    (hs : subscripted slice false (.ref q) (.int k u) = operate [.ref q, .int k u] (getItem (.ref q) (.int k u)))
    (h : ∀ t, Q (.int (p.1 : Int) t) s) : wpAny (model prog w) A (subscriptTail value slice (.ref q) (.int k u)) Q E s := by
  obtain ⟨t, n, hm⟩ := hP
  subst hk
  exact item_tupleT (l := [_, _]) (News.isTup N (sub _ hm)) (by decide) (by decide) rfl rfl (h t) hs
theorem r_snd {q : Addr} {p : Part} {k : Int} (hP : PairAt n₀ q p) (sub : ∀ p ∈ n₀, p ∈ news) (N : News h₀ L s.heap news) (hk : k = 1)
    (hs : subscripted slice false (.ref q) (.int k u) = operate [.ref q, .int k u] (getItem (.ref q) (.int k u)))
    (h : Q (.bool p.2) s) : wpAny (model prog w) A (subscriptTail value slice (.ref q) (.int k u)) Q E s := by
  obtain ⟨t, n, hm⟩ := hP
  subst hk
  exact item_tupleT (l := [_, _]) (News.isTup N (sub _ hm)) (by decide) (by decide) rfl rfl h hs
end
def pp (p : Part) : PyData := .tuple [.int p.1, .bool p.2]
theorem reads_pair {h₀ h : Heap} {L : Addr} {news : Led} {q : Addr} {p : Part} (N : News h₀ L h news) (hP : PairAt news q p) : ∃ as, Reads h (.ref q) (pp p) as := by
  obtain ⟨t, n, hm⟩ := hP
  exact ⟨_, reads_tuple_at (N.get hm) rfl rfl (by simpa using ReadsAll.cons (Reads.int _ _) (.cons (Reads.bool _) .nil))⟩
theorem reads_pairs {h₀ h : Heap} {L : Addr} {news : Led} (N : News h₀ L h news) : ∀ {ps : List Part} {vs : List Value}, DatAll news vs (ps.map pd) → ∃ as, ReadsAll h vs (ps.map pp) as
  | [], _, hd => by cases hd; exact ⟨_, .nil⟩
  | p :: ps, _, hd => by
    cases hd with
    | cons h1 r =>
      obtain ⟨q, rfl, hq⟩ := pair_at h1
      obtain ⟨as, ra⟩ := reads_pair N hq
      obtain ⟨bs, rb⟩ := reads_pairs N r
      exact ⟨_, .cons ra rb⟩
theorem eqv_pp (p q : Part) : PyData.eqv (pp p) (pp q) = decide (p = q) := by
  obtain ⟨n, b⟩ := p
  obtain ⟨k, c⟩ := q
  rw [Bool.eq_iff_iff]
  simp only [pp, PyData.eqv, PyData.eqvAll, Bool.and_eq_true, Bool.and_true, beq_iff_eq, decide_eq_true_eq, Prod.ext_iff]
  constructor
  · rintro ⟨h1, h2⟩; exact ⟨by omega, h2⟩
  · rintro ⟨h1, h2⟩; exact ⟨by omega, h2⟩
theorem eqv_pps : ∀ ps qs : List Part, PyData.eqvAll (ps.map pp) (qs.map pp) = decide (ps = qs)
  | [], [] => by simp [PyData.eqvAll]
  | [], q :: qs => by simp [PyData.eqvAll]
  | p :: ps, [] => by simp [PyData.eqvAll]
  | p :: ps, q :: qs => by
    simp only [List.map_cons, PyData.eqvAll]
    rw [eqv_pp, eqv_pps ps qs]
    simp [List.cons.injEq]
theorem shaped_pp (p : Part) : SeqAt.shaped (pp p) = true := by
  simp [SeqAt.shaped, pp, PyData.canLay0, PyData.canLayAll0, PyData.depth, PyData.depthAll]
theorem lay_pps : ∀ ps : List Part, PyData.canLayAll0 (ps.map pp) = true ∧ PyData.depthAll (ps.map pp) ≤ 3
  | [] => by simp [PyData.canLayAll0, PyData.depthAll]
  | p :: ps => by
    obtain ⟨h1, h2⟩ := lay_pps ps
    simp only [List.map_cons, PyData.canLayAll0, PyData.depthAll, h1]
    constructor
    · simp [pp, PyData.canLay0, PyData.canLayAll0]
    · have : (pp p).depth ≤ 3 := by simp [pp, PyData.depth, PyData.depthAll]
      omega
theorem shaped_pps (ps : List Part) : SeqAt.shaped (.list (ps.map pp)) = true := by
  obtain ⟨h1, h2⟩ := lay_pps ps
  simp only [SeqAt.shaped, PyData.canLay0, PyData.depth, h1, Bool.true_and]
  exact decide_eq_true (by omega)
section
variable {prog : Program} {w : World} {A : Around} {E : Value → Shared → Prop} {s : Shared} {h₀ : Heap} {L : Addr} {news n₀ n₁ : Led} {Q : Value → Shared → Prop} {a b : Addr} {ps qs : List Part} {p q : Part}
theorem r_eqP (N : News h₀ L s.heap news) (ha : PairsIn n₀ a ps) (sa : ∀ p ∈ n₀, p ∈ news) (hb : PairsIn n₁ b qs) (sb : ∀ p ∈ n₁, p ∈ news) (hu : A.units + 64 < cLine) (h : Q (.bool (decide (ps = qs))) s) :
    wpAny (model prog w) A (compareOp .Eq (.ref a) (.ref b)) Q E s := by
  obtain ⟨va, na, ma, ra⟩ := PairsIn.mono sa ha
  obtain ⟨vb, nb, mb, rb⟩ := PairsIn.mono sb hb
  obtain ⟨as, ra'⟩ := reads_pairs N ra
  obtain ⟨bs, rb'⟩ := reads_pairs N rb
  refine eq_dataH (reads_list_at (N.get ma) rfl rfl (by simpa using ra')) (reads_list_at (N.get mb) rfl rfl (by simpa using rb')) (shaped_pps _) (shaped_pps _) hu ?_
  have e : PyData.eqv (.list (ps.map pp)) (.list (qs.map pp)) = decide (ps = qs) := by rw [← eqv_pps]; simp [PyData.eqv]
  rw [e]; exact h
theorem r_neP (N : News h₀ L s.heap news) (ha : PairAt n₀ a p) (sa : ∀ p ∈ n₀, p ∈ news) (hb : PairAt n₁ b q) (sb : ∀ p ∈ n₁, p ∈ news) (hu : A.units + 64 < cLine) (h : Q (.bool (!decide (p = q))) s) :
    wpAny (model prog w) A (compareOp .NotEq (.ref a) (.ref b)) Q E s := by
  obtain ⟨ta, ka, ma⟩ := ha
  obtain ⟨tb, kb, mb⟩ := hb
  obtain ⟨as, ra⟩ := reads_pair N ⟨ta, ka, sa _ ma⟩
  obtain ⟨bs, rb⟩ := reads_pair N ⟨tb, kb, sb _ mb⟩
  exact ne_dataH ra rb (shaped_pp _) (shaped_pp _) hu (by rw [eqv_pp]; exact h)
end
/-! what _law_dealt answers -/
def rooms (seen : List Part) (m : Nat) : List Part := seen.dropLast ++ [((pt seen (seen.length - 1)).1 - m, (pt seen (seen.length - 1)).2)]
def dealtS (asked seen : List Part) : Bool :=
  if asked.length = 1 then decide (asked = seen)
  else if (pt asked 0).1 > (pt seen 0).1 then false
  else if (pt asked (asked.length - 1)).1 > (pt seen (seen.length - 1)).1 then false
  else if (pt asked 0).2 = true ∧ pt asked 0 ≠ pt seen 0 then false
  else deal (rooms seen (pt asked (asked.length - 1)).1) asked.dropLast
def fillI : Int → Bool → List Part → List Part
  | _, _, [] => []
  | r, sh, (n, b) :: as => if (n : Int) ≤ r ∧ (sh = true ∨ b = false) then fillI (if b then -1 else r - n) sh as else (n, b) :: as
theorem fillI_dead (sh : Bool) : ∀ as, fillI (-1) sh as = as
  | [] => rfl
  | (n, b) :: as => by unfold fillI; rw [if_neg]; omega
theorem fillI_eq (sh : Bool) : ∀ (as : List Part) (r : Nat), fillI r sh as = fill r sh as
  | [], r => rfl
  | (n, b) :: as, r => by
    unfold fillI fill
    by_cases h : n ≤ r ∧ (sh = true ∨ b = false)
    · rw [if_pos h, if_pos ⟨by omega, h.2⟩]
      cases b with
      | true => simp only [if_true]; exact fillI_dead sh as
      | false =>
        simp only [Bool.false_eq_true, if_false]
        have : ((r : Int) - (n : Int)) = ((r - n : Nat) : Int) := by omega
        rw [this]; exact fillI_eq sh as (r - n)
    · rw [if_neg h, if_neg (fun q => h ⟨by omega, q.2⟩)]
end Mine
end
section
open PySem PySem.W PyProof.Rows PySem.Spec PySem.Calls PySem.Builtin PySem.Builtin.Str
namespace Mine
def breaksOf (W n : Nat) : Nat := (n - 2) / (W - 1)
theorem breaks_is {W k : Nat} (hW : 4 ≤ W) : (if Int.fdiv ((k : Int) - 2) ((W : Int) - 1) > 0 then Int.fdiv ((k : Int) - 2) ((W : Int) - 1) else 0) = (breaksOf W k : Int) := by
  have e : ((W : Int) - 1) = ((W - 1 : Nat) : Int) := by omega
  unfold breaksOf
  by_cases h : 2 ≤ k
  · have e2 : ((k : Int) - 2) = ((k - 2 : Nat) : Int) := by omega
    have e3 : Int.fdiv ((k - 2 : Nat) : Int) ((W - 1 : Nat) : Int) = (((k - 2) / (W - 1) : Nat) : Int) := by
      rw [Int.fdiv_eq_ediv_of_nonneg _ (by omega)]; rfl
    rw [e2, e, e3]
    generalize (k - 2) / (W - 1) = q
    split
    · rfl
    · omega
  · have hlt : Int.fdiv ((k : Int) - 2) ((W : Int) - 1) < 0 := by
      rw [Int.fdiv_eq_ediv_of_nonneg _ (by omega)]
      exact Int.ediv_neg_of_neg_of_pos (by omega) (by omega)
    rw [if_neg (by omega)]
    have : (k - 2) / (W - 1) = 0 := by
      have : k - 2 = 0 := by omega
      rw [this]; simp
    rw [this]; rfl
section
variable {prog : Program} {w : World} {A : Around} {E : Value → Shared → Prop} {s : Shared} {h₀ : Heap} {L : Addr} {m : Str → Option Value} {news news' : Led} {t u : Tok} {Q : Value → Shared → Prop}
theorem r_maxB {W k : Nat} (hW : 4 ≤ W) (hh : A.handled = none) (F : Fr h₀ L s.heap m) (N : News h₀ L s.heap news)
    (h : ∀ h' tk t', Fr h₀ L h' m → News h₀ L h' news → Q (.int (breaksOf W k : Int) t') { s with heap := h', toks := tk }) :
    wpAny (model prog w) A (call (.builtin "max") [.int 0 t, .int (Int.fdiv ((k : Int) - 2) ((W : Int) - 1)) u]) Q E s :=
  max_two_N hh F N fun h' tk F' N' => by rw [breaks_is hW]; exact h h' tk _ F' N'
theorem foldl_one (v : Value) : ∀ (b : Nat) (acc : Array Value), List.foldl (fun x1 x2 => x1 ++ x2) acc (List.replicate b #[v]) = acc ++ (List.replicate b v).toArray
  | 0, acc => by simp
  | b + 1, acc => by
    rw [List.replicate_succ, List.foldl_cons, foldl_one v b, List.replicate_succ]
    apply Array.toList_inj.mp
    simp only [Array.toList_append, List.append_assoc]
    rfl
theorem r_mul1 {D : Addr} {v : Value} {n b : Nat} (F : Fr h₀ L s.heap m) (N : News h₀ L s.heap news) (hm : (D, lst [v] n) ∈ news) (hb : b ≤ 100000)
    (h : ∀ B h', (∀ p ∈ news, p.1 < B) → Fr h₀ L h' m → News h₀ L h' ((B, lst (List.replicate b v) 0) :: news) → Q (.ref B) { s with heap := h' }) :
    wpAny (model prog w) A (binaryOp .Mult (.ref D) (.int (b : Int) u)) Q E s := by
  refine mul_list (items := #[v]) (k := n) F N (N.get hm) (by omega) (by omega) (by simp; omega) fun h' F' N' => h _ h' (news_lt N) F' ?_
  have e : List.foldl (fun x1 x2 => x1 ++ x2) #[] (List.replicate (if (#[v] : Array Value).isEmpty = true then 0 else (b : Int).toNat) #[v]) = (List.replicate b v).toArray := by
    simp only [List.isEmpty_toArray, List.isEmpty_cons, Bool.false_eq_true, if_false, Int.toNat_natCast]
    rw [foldl_one]; simp
  rw [e] at N'
  exact N'
theorem r_addL {D D' : Addr} {xs ys : List Value} {n n' : Nat} (F : Fr h₀ L s.heap m) (N : News h₀ L s.heap news) (h1 : (D, lst xs n) ∈ news) (h2 : (D', lst ys n') ∈ news) (hb : xs.length + ys.length ≤ 100000)
    (h : ∀ B h', (∀ p ∈ news, p.1 < B) → Fr h₀ L h' m → News h₀ L h' ((B, lst (xs ++ ys) 0) :: news) → Q (.ref B) { s with heap := h' }) :
    wpAny (model prog w) A (binaryOp .Add (.ref D) (.ref D')) Q E s :=
  add_arrays F N (News.isList N h1) (News.isList N h2) (fun h' F' N' => h _ h' (news_lt N) F' (by simpa using N')) (by rw [sizeLine_eq]; simp; omega)
theorem r_extend {D D' : Addr} {xs ys : List Value} {n n' : Nat} (F : Fr h₀ L s.heap m) (N : News h₀ L s.heap news) (h2 : (D', lst ys n') ∈ news) (hne : ys ≠ []) (U : Upd D (lst xs n) (lst (xs ++ ys) (n + 1)) news news') (hb : xs.length + ys.length ≤ 100000)
    (h : ∀ h', Fr h₀ L h' m → News h₀ L h' news' → Q .none { s with heap := h' }) : wpAny (model prog w) A (call (.builtin "list.extend") [.ref D, .ref D']) Q E s :=
  kl_extend (its := xs.toArray) (its2 := ys.toArray) (l := xs ++ ys) F N h2 (by simp) (by simp; exact hne) U (by
    simp only [Bool.and_eq_true, not_and, Builtin.List.listTooLong, decide_eq_true_eq]
    intro _; rw [sizeLine_eq]; simp; omega) (by rw [sizeLine_eq]; simp; omega) (by rw [sizeLine_eq]; simp; omega) h
end
end Mine
end
section
open PySem PySem.W PyProof.Rows PySem.Spec PySem.Calls PySem.Builtin PySem.Builtin.Str
namespace Mine
section
variable {prog : Program} {w : World} {A : Around} {E : Value → Shared → Prop} {s : Shared}
theorem tl_spec {T : Addr} {items : Array Value} {c : Nat} {y : Str} {u : Tok} {Q : Mapped → Shared → Prop} (hl : s.heap.IsList T items) (hc : c < 1000000) (hi : items[c]? = some (.str y u))
    (h : Q (.text y) { s with toks := s.toks + 1 }) : wpAny (model prog w) A (tableLookup (.ref T) c) Q E s := by
  unfold tableLookup
  refine wpAny_bind (wpAny_attempt (wpAny_bind (wpAny_mkInt ?_)))
  refine wpAny_getItem_list (s := { s with toks := s.toks + 1 }) hl (by omega) (by omega) (by simpa using hi) ?_
  exact wpAny_bind (wpAny_pure (wpAny_bind (wpAny_pure (wpAny_pure h))))
def Plain (x : Str) : Prop := ∀ c ∈ x.cps.toList, c = 97 ∨ c = 10
def TabOk (items : Array Value) : Prop := (∃ u, items[97]? = some (.str ⟨#[97]⟩ u)) ∧ ∃ u, items[10]? = some (.str ⟨#[10]⟩ u)
theorem TabOk.at {items : Array Value} (h : TabOk items) {c : Nat} (hc : c = 97 ∨ c = 10) : ∃ u, items[c]? = some (.str ⟨#[c]⟩ u) := by
  rcases hc with rfl | rfl
  · exact h.1
  · exact h.2
theorem foldl_pieces : ∀ (ps : List Str) (acc : Array Nat), (ps.foldl (fun acc p => acc ++ p.cps) acc).toList = acc.toList ++ ps.flatMap fun p => p.cps.toList
  | [], acc => by simp
  | p :: ps, acc => by rw [List.foldl_cons, foldl_pieces ps]; simp
def trSpec (T : Addr) (items : Array Value) (x : Str) : PySem.Spec := fun _ R s => s.heap.IsList T items ∧ ∀ t' k, R (.ok (.ret (.str x t'))) { s with toks := k }
theorem meets_translate {T : Addr} {items : Array Value} {x : Str} {t : Tok} (ht : TabOk items) (hx : Plain x) (hne : x.length ≠ 0) (hsz : x.length ≤ 100000) :
    Meets («str.translate» ⟨[.str x t, .ref T], []⟩) (trSpec T items x) := .of_wp fun prog w A R s h => by
  obtain ⟨hl, h⟩ := h
  unfold «str.translate»
  refine wpAny_bind (wpAny_pure ?_)
  dsimp only
  rw [if_neg (by simpa using hne)]
  have hasc : (x.cps.all fun c => decide (c < 128)) = true := by
    rw [← Array.all_toList, List.all_eq_true]
    intro c hc
    rcases hx c hc with rfl | rfl <;> decide
  have hsl : sizeLine = 16777216 := sizeLine_eq
  refine wpAny_bind (MeetsSeq2.wpAny_forIn_array _ (fun rest b s' => b.2.2.1 = true ∧ (∃ k, s' = { s with toks := k }) ∧ (∀ c a, List.lookup c b.2.2.2.1 = some a → a = some c) ∧ (∀ c ∈ rest, c = 97 ∨ c = 10) ∧ b.2.1 + rest.length = x.length ∧ (b.1.reverse.flatMap fun p => p.cps.toList) ++ rest = x.cps.toList) _ ?_ ?_ _ _ ?_)
  · rintro c rest ⟨ps, tot, fast, known, ad⟩ s' ⟨hf, ⟨k, rfl⟩, hk, hr, htot, hp⟩
    dsimp only at hf hk htot hp ⊢
    subst hf
    rw [List.length_cons] at htot
    have hc := hr c (List.mem_cons_self ..)
    have hr2 : ∀ d ∈ rest, d = 97 ∨ d = 10 := fun d hd => hr d (List.mem_cons_of_mem _ hd)
    have hlong : tooLong tot = false := by unfold tooLong; rw [hsl]; exact decide_eq_false (by omega)
    have hend : ((({ cps := #[c] } : Str) :: ps).reverse.flatMap fun p => p.cps.toList) ++ rest = x.cps.toList := by
      rw [← hp]; simp
    rw [if_neg (by rw [hlong]; decide), if_pos rfl]
    cases hlk : List.lookup c known with
    | some a =>
      obtain rfl := hk c a hlk
      dsimp only
      refine wpAny_bind (wpAny_pure ?_)
      dsimp only
      exact wpAny_pure ⟨rfl, ⟨k, rfl⟩, hk, hr2, by dsimp only; omega, hend⟩
    | none =>
      dsimp only
      obtain ⟨u, hu⟩ := ht.at hc
      refine wpAny_bind (tl_spec (s := { s with toks := k }) hl (by rcases hc with rfl | rfl <;> decide) hu ?_)
      have h1 : ((⟨#[c]⟩ : Str).length == 1 && (⟨#[c]⟩ : Str).cps.all fun x => decide (x < 128)) = true := by rcases hc with rfl | rfl <;> simp [Str.length]
      dsimp only
      simp only [h1, if_true]
      refine wpAny_bind (wpAny_pure ?_)
      refine wpAny_pure ⟨rfl, ⟨_, rfl⟩, ?_, hr2, by dsimp only; omega, hend⟩
      intro d a hd
      dsimp only at hd
      rw [List.lookup_cons] at hd
      by_cases e : (d == c) = true
      · simp only [e] at hd
        have := beq_iff_eq.mp e
        subst this
        simpa using hd.symm
      · simp only [e] at hd
        exact hk d a hd
  · rintro ⟨ps, tot, fast, known, ad⟩ s' ⟨hf, ⟨k, rfl⟩, hk, hr, htot, hp⟩
    dsimp only at hf hk htot hp ⊢
    have hlong : tooLong tot = false := by unfold tooLong; rw [hsl]; exact decide_eq_false (by simp at htot; omega)
    rw [if_neg (by rw [hlong]; decide)]
    have e : (⟨ps.reverse.foldl (fun acc p => acc ++ p.cps) #[]⟩ : Str) = x := by
      apply Str.ext'
      apply Array.toList_inj.mp
      show (ps.reverse.foldl (fun acc p => acc ++ p.cps) #[]).toList = _
      rw [foldl_pieces]
      simpa using hp
    rw [e]
    exact wpAny_bind (wpAny_mkStr (wpAny_pure ⟨_, rfl, h _ _⟩) (by rw [hsl]; omega))
  · refine ⟨hasc, ⟨s.toks, rfl⟩, ?_, hx, ?_, ?_⟩
    · intro c a h; cases h
    · show 0 + x.cps.toList.length = x.length
      simp [Str.length]
    · rfl
theorem r_translate {T : Addr} {items : Array Value} {x : Str} {t : Tok} {Q : Value → Shared → Prop} (hl : s.heap.IsList T items) (ht : TabOk items) (hx : Plain x) (hne : x.length ≠ 0) (hsz : x.length ≤ 100000) (h : ∀ t' k, Q (.str x t') { s with toks := k }) :
    wpAny (model prog w) A (call (.builtin "str.translate") [.str x t, .ref T]) Q E s :=
  call_meets F.slot_str_translate (typeIs_str _ _ _) F.entry_str_translate (F.args_str_translate_2 _ _) (meets_translate ht hx hne hsz) ⟨hl, h⟩
end
end Mine
end
section
open PySem
namespace Mine
theorem lk_append : typeLookup (.type "list") "append" = pure (some (.builtin "list.append")) := F.slot_list_append.lookup
theorem ty_append : typeOf (.builtin "list.append") = pure (.type "method_descriptor") := by show builtinType _ = _; rw [builtinType_eq_fast]; kernel_rfl
theorem slot_md_get : Slot "method_descriptor" "__get__" "method_descriptor.__get__" :=
  .of (owner := "method_descriptor") (n := "__get__") (by rw [typeLookup_type, builtinLookup_eq_fast]; kernel_rfl) (by decide +kernel) (by decide +kernel) (by decide +kernel)
    (by first | exact .inl (by decide +kernel) | exact .inr (by decide +kernel)) (by rw [isSubtype_type]; kernel_rfl)
theorem lk_md_set : typeLookup (.type "method_descriptor") "__set__" = pure none := by rw [typeLookup_type, builtinLookup_eq_fast]; kernel_rfl
theorem lk_md_del : typeLookup (.type "method_descriptor") "__delete__" = pure none := by rw [typeLookup_type, builtinLookup_eq_fast]; kernel_rfl
theorem entry_md_get : entryFor table "method_descriptor.__get__" = some Builtin.«method_descriptor.__get__» := entryFor_of_tree (by kernel_rfl)
theorem args_md_get (a b c : Value) : argsOk "method_descriptor.__get__" ⟨[a, b, c], []⟩ := by unfold argsOk; kernel_rfl
theorem told_no : Manifest.toldItsClass.contains "list.append" = false := by decide +kernel
theorem owner_append : (".".intercalate ("list.append".cutAt '.').dropLast) = "list" := by
  have e0 : "list.append".cutAt '.' = ["list", "append"] := by first | rfl | decide +kernel
  rw [e0]; decide +kernel
theorem sub_list_list : isSubtype (.type "list") (.type (".".intercalate ("list.append".cutAt '.').dropLast)) = pure true := by
  rw [owner_append, isSubtype_type]; kernel_rfl
section
variable {prog : Program} {w : World} {A : Around} {E : Value → Shared → Prop} {h : Heap} {g : Array GenState} {d : Drawn} {t : Nat} {os : OsState} {a : Addr} {o : Obj}
abbrev bmObj (a : Addr) : Obj := { cls := .type "builtin_function_or_method", data := .fields #[.builtin "list.append", .ref a] }
theorem append_get {R : Result → Shared → Prop} (hx : h.get? a = some o) (hc : o.cls = .type "list") (hq : R (.ok (.ret (.ref h.objs.size))) ⟨h.push (bmObj a), g, d, t, os⟩) :
    codeAny (model prog w) A (.call (.builtin "method_descriptor.__get__") ⟨[.builtin "list.append", .ref a, .type "list"], []⟩) R ⟨h, g, d, t, os⟩ := by
  have hT : (⟨h, g, d, t, os⟩ : Shared).TypeIs (.ref a) "list" := ⟨_, hx, hc⟩
  have hT5 : (⟨h, g, d, t, os⟩ : Shared).TypeIs (.builtin "list.append") "method_descriptor" := ty_append
  have f8 := sub_list_list
  have f9 := told_no
  refine codeAny_call_builtin slot_md_get.plain entry_md_get (slot_md_get.check _ _ _ _ _ _ _ _ hT5 (args_md_get _ _ _) ?_)
  unfold Builtin.«method_descriptor.__get__»
  refine wpAny_bind (wpAny_pure (a := (Value.builtin "list.append", some (Value.ref a), some (Value.type "list"))) ?_)
  dsimp only
  rw [if_neg (by rw [f9]; decide)]
  refine (show wpAny _ _ (_ >>= _) _ _ _ from wpAny_bind ?_)
  refine (show wpAny _ _ (_ >>= _) _ _ _ from wpAny_bind ?_)
  refine wpAny_pure (a := (_, Value.type (".".intercalate ("list.append".cutAt '.').dropLast))) ?_
  dsimp only
  refine wpAny_bind (wpAny_isInstance hT f8 ?_)
  rw [if_neg (by decide)]
  refine wpAny_pure ?_
  refine wpAny_bind ?_
  unfold newFields
  refine wpAny_newObj_type (s := ⟨h, g, d, t, os⟩) ?_ (by size_fits)
  exact wpAny_pure hq
theorem append_entry {tk : Tok} {items : Array Value} {n : Nat} {Q : Fin → Shared → Prop} (hx : h.get? a = some ⟨.type "list", none, .seq items n, #[]⟩) (hq : Q (.done (.ret (.ref h.objs.size))) ⟨h.push (bmObj a), g, d, t, os⟩) :
    wpAny (model prog w) A (Builtin.«object.__getattribute__» ⟨[.ref a, .str "append" tk], []⟩) Q E ⟨h, g, d, t, os⟩ := by
  have hT : (⟨h, g, d, t, os⟩ : Shared).TypeIs (.ref a) "list" := ⟨_, hx, rfl⟩
  have hT5 : (⟨h, g, d, t, os⟩ : Shared).TypeIs (.builtin "list.append") "method_descriptor" := ty_append
  have f4 := lk_append
  have f5 := ty_append
  have f6 := slot_md_get.lookup
  have f7 := lk_md_set
  have f8 := lk_md_del
  repeat (any_goals (first | assumption | wp_step))
  refine append_get hx rfl ?_
  repeat (any_goals (first | assumption | wp_step))
theorem append_by {tk : Tok} {b : Bool} {items : Array Value} {n : Nat} {Q : Value → Shared → Prop} (hx : h.get? a = some ⟨.type "list", none, .seq items n, #[]⟩) (hq : Q (.ref h.objs.size) ⟨h.push (bmObj a), g, d, t, os⟩) :
    wpAny (model prog w) A (getAttrBy (.ref a) (.str "append" tk) true b) Q E ⟨h, g, d, t, os⟩ := by
  have hT : (⟨h, g, d, t, os⟩ : Shared).TypeIs (.ref a) "list" := ⟨_, hx, rfl⟩
  have f2 := F.slot_list_getattribute.lookup
  have f3 := F.slot_list_getattribute.bind (.ref a)
  have call (R : Result → Shared → Prop) (A : Around) (hq : R (.ok (.ret (.ref h.objs.size))) ⟨h.push (bmObj a), g, d, t, os⟩) :
      codeAny (model prog w) A (.call (.builtin "list.__getattribute__") ⟨[.ref a, .str "append" tk], []⟩) R ⟨h, g, d, t, os⟩ :=
    codeAny_call_builtin F.slot_list_getattribute.plain F.entry_list_ga (F.slot_list_getattribute.check _ _ _ _ _ _ _ _ hT (F.args_list_getattribute_2 _ _) (append_entry hx hq))
  repeat (any_goals (first | assumption | wp_step))
  have e : (b && onTheHeap (Value.builtin "list.__getattribute__")) = false := by cases b <;> rfl
  rw [if_neg (by rw [e]; decide)]
  unfold boundAndCalled
  repeat (any_goals (first | assumption | wp_step))
  refine call _ _ ?_
  exact wpAny_pure hq
end
section
open PySem.W PyProof.Rows
variable {prog : Program} {w : World} {A : Around} {E : Value → Shared → Prop} {s : Shared} {h₀ : Heap} {L D q : Addr} {m : Str → Option Value} {news news' : Led}
theorem r_attrAppend {b : Bool} {vs : List Value} {n : Nat} {Q : Value → Shared → Prop} (F : Fr h₀ L s.heap m) (N : News h₀ L s.heap news) (hm : (D, lst vs n) ∈ news)
    (h : ∀ q h' k, (∀ p ∈ news, p.1 < q) → Fr h₀ L h' m → News h₀ L h' ((q, bmObj D) :: news) → Q (.ref q) { s with heap := h', toks := k }) :
    wpAny (model prog w) A (getAttr (.ref D) "append" b) Q E s := by
  obtain ⟨hp, g, d, t, os⟩ := s
  refine wpAny_bind (wpAny_mkText ?_)
  exact append_by (N _ hm).1 (h _ _ _ (news_lt N) (F.push _) (N.push F _))
theorem sig_append (D : Addr) (x : Value) : (Manifest.signature? "list.append").map (fun sig => Bind.checkArgs "list.append" { machinery := sig.machinery, full := toString (Bind.lastOf "list") ++ toString "." ++ toString (Bind.lastOf "list.append"), short := sig.short, receiver := sig.receiver, params := sig.params } ⟨[.ref D, x], []⟩) = some (pure ()) := by
  rw [signature?_of (id := "list.append") (n := ['d', 'n', 'e', 'p', 'p', 'a']) (o := ['t', 's', 'i', 'l']) (by kernel_rfl) F.owner_list]; kernel_rfl
theorem kind_append : builtinKind "list.append" = some .method := by decide +kernel
theorem var_append : Manifest.varargsMethods.contains "list.append" = false := by decide +kernel
theorem sub_module : isSubtype (.type "list") (.type "module") = pure false := by rw [isSubtype_type]; kernel_rfl
theorem check_append {D : Addr} {x : Value} {items : Array Value} {n : Nat} {Q : Unit → Shared → Prop} (hx : s.heap.get? D = some ⟨.type "list", none, .seq items n, #[]⟩) (hQ : Q () s) : wpAny (model prog w) A (checkBoundCall "list.append" ⟨[.ref D, x], []⟩) Q E s := by
  have hT : s.TypeIs (.ref D) "list" := ⟨_, hx, rfl⟩
  have hs := sig_append D x
  unfold checkBoundCall
  cases h : Manifest.signature? "list.append" with
  | none => rw [h] at hs; cases hs
  | some sig =>
    rw [h] at hs
    have hs' := Option.some.inj hs
    dsimp only at hs' ⊢
    rw [kind_append]
    dsimp only
    rw [if_neg (by decide)]
    refine wpAny_bind (wpAny_isInstance hT sub_module ?_)
    rw [var_append, if_neg (by decide)]
    unfold isType
    refine wpAny_bind (wpAny_bind (wpAny_loadPart hx ?_))
    refine wpAny_pure ?_
    rw [if_neg (show ¬ (false = true) by decide)]
    refine wpAny_bind (wpAny_typeOf hT ?_)
    dsimp only
    rw [hs']
    exact wpAny_pure hQ
theorem r_callAppend {x : Value} {vs : List Value} {n : Nat} {Q : Value → Shared → Prop} (F : Fr h₀ L s.heap m) (N : News h₀ L s.heap news) (hq : (q, bmObj D) ∈ news) (U : Upd D (lst vs n) (lst (vs ++ [x]) (n + 1)) news news')
    (hsz : vs.length ≤ 1000000) (h : ∀ h', Fr h₀ L h' m → News h₀ L h' news' → Q .none { s with heap := h' }) : wpAny (model prog w) A (call (.ref q) [x]) Q E s := by
  have hbm := (N _ hq).1
  obtain ⟨pre, post, rfl, rfl, a, b⟩ := U.split
  have z := N (D, lst vs n) (List.mem_append.mpr (.inr (.head _)))
  refine wpAny_call (codeAny_of_tree ?_)
  show wpAny _ _ (callAny (.ref q) _) _ _ _
  refine nd_load hbm ?_
  show wpAny _ _ (checkBoundCall "list.append" ⟨[.ref D, x], []⟩ >>= fun _ => again (.builtin "list.append" ⟨[.ref D, x], []⟩)) _ _ _
  refine wpAny_bind (check_append z.1 (wpAny_pure ⟨Code.quiet_builtin _ (by decide +kernel), codeAny_builtin entry_list_append ?_⟩))
  show wpAny _ _ (updateSeq D (·.push x) >>= fun _ => ret .none) _ _ s
  refine wpAny_bind ?_
  refine wpAny_updateSeq z.1 rfl (wpAny_pure ?_) (by rw [sizeLine_eq]; simp; omega)
  have hs : Heap.SameBut D s.heap (s.heap.update D (Obj.mapSeq (·.push x))) := Heap.SameBut.update ..
  have e : (lst (vs ++ [x]) (n + 1)) = Obj.mapSeq (·.push x) (lst vs n) := by rw [mapSeq_push]; simp
  refine h _ (F.change hs z.2.1 z.2.2) (news_set N a b hs ?_)
  rw [Heap.get?_update_self _ z.1 (by rw [mapSeq_push]; rfl), e]
end
section
open PySem.W PyProof.Rows
variable {M : Model} {A : Around} {E : Value → Shared → Prop} {s : Shared} {env : Env} {pos : Pos} {first : List Value} {Q : Value → Shared → Prop} {q D : Addr}
abbrev BMP (q D : Addr) (h : Heap) : Prop := h.get? q = some (bmObj D)
theorem keeps_B {q D : Addr} (h : Heap) (X : BMP q D h) : ∃ k, (k = Keeper.frame ∨ k = Keeper.machine ∨ k = Keeper.boundFrame) ∧ Looks M h (keeperOf (.ref q)) k :=
  ⟨.machine, .inr (.inl rfl), (Looks.ld (part := none) X).andThen .now⟩
theorem callWith_B {h₀ : Heap} {L : Addr} {news : Led} {e : PySem.Expr} {rest : List PySem.Expr} (_N : News h₀ L s.heap news) (_hm : (q, bmObj D) ∈ news) (h : wpAny M A (spliced (backTo pos (starEach (e :: rest) env))) (fun vs s₁ => BMP q D s₁.heap ∧ wpAny M A (call (.ref q) (first ++ vs)) Q E s₁) E s)
    (he : starEach (e :: rest) env = (false, eval e env) :: starEach rest env) (hplain : (backTo pos (starEach rest env)).any (·.1) = false) :
    wpAny M A (callWith pos (.ref q) first (backTo pos (starEach (e :: rest) env)) []) Q E s := by
  rw [he] at h ⊢
  exact callWith_of (by show ((false || (backTo pos (starEach rest env)).any (·.1)) || false) = false; rw [hplain]; rfl) keeps_B (PySem.Calls.evalArgs_plain h)
end
end Mine
end
section
open PySem PySem.W PyProof.Rows PySem.Spec PySem.Calls
namespace Mine
/-- a comprehension, element by element: V i news y says what the i-th made value is -/
theorem compRest_all {prog : Program} {w : World} {A : Around} {h₀ : Heap} {L : Addr} {m : Str → Option Value} {env : Env} {elt : PySem.Expr} {x : Str} {scope : Scope} {cl : List (Str × Addr)} {s : Shared} {S : Led → Prop} {P : Nat → Value → Prop} {Fin : List Value → Led → Prop} (V : Nat → Led → Value → Prop) (base : Led) (n : Nat)
    (mono : ∀ i a b y, (∀ p ∈ a, p ∈ b) → V i a y → V i b y)
    (elem : ∀ i v I oI C oC D m₂ h tk (E' : Value → Shared → Prop) ys news', i < n → P i v → LCg.NsObj oC m₂ → m₂ x = some v → Fr h₀ L h m → News h₀ L h ((I, oI) :: (C, oC) :: (D, LCg.lst ys) :: news') → LCg.Off3 I C D news' → ((@Ne Nat I C) ∧ (@Ne Nat I D) ∧ (@Ne Nat C D)) → (∀ p ∈ base, p ∈ news') →
      wpAny (model prog w) A (eval elt (compEnvC scope cl C env)) (LCg.CompEnd h₀ L m { s with heap := h, toks := tk } I oI C oC D (LCg.lst ys) S (fun y news'' => V i news'' y ∧ ∀ p ∈ news', p ∈ news'')) E' { s with heap := h, toks := tk })
    (fin : ∀ ys news', ys.length = n → (∀ i y, ys[i]? = some y → V i news' y) → (∀ p ∈ base, p ∈ news') → Fin ys news') :
    LCg.CompRest prog w A h₀ L m env elt x scope cl s S P Fin n 0 [] base := by
  suffices g : ∀ k i ys news', i + k = n → ys.length = i → (∀ j y, ys[j]? = some y → V j news' y) → (∀ p ∈ base, p ∈ news') → LCg.CompRest prog w A h₀ L m env elt x scope cl s S P Fin k i ys news' from
    g n 0 [] base (Nat.zero_add n) rfl (fun j y h => by simp at h) fun _ h => h
  intro k
  induction k with
  | zero => exact fun i ys news' hi hy hV hs => LCg.CompRest.zero (fin ys news' (by omega) hV hs)
  | succ k ih =>
    intro i ys news' hi hy hV hs
    refine LCg.CompRest.succ fun v I oI C oC D m₂ h tk E' hP hC hx F N off ne => ?_
    refine wpAny_mono (elem i v I oI C oC D m₂ h tk E' ys news' (by omega) hP hC hx F N off ne hs) (fun y s₂ e => ?_) fun _ _ e => e
    obtain ⟨h', tk', news₂, rfl, F', N', off', hS', hV', hsub⟩ := e
    refine ⟨h', tk', news₂, rfl, F', N', off', hS', ih (i + 1) (ys ++ [y]) news₂ (by omega) (by simp [hy]) (fun j z hz => ?_) fun p hp => hsub p (hs p hp)⟩
    by_cases hj : j < ys.length
    · rw [List.getElem?_append_left hj] at hz
      exact mono j news' news₂ z hsub (hV j z hz)
    · have hj2 := (List.getElem?_eq_some_iff.mp hz).1
      rw [List.length_append, List.length_singleton] at hj2
      have e : j = ys.length := by omega
      subst e
      rw [List.getElem?_append_right (Nat.le_refl _), Nat.sub_self] at hz
      cases hz
      rw [hy]
      exact hV'
end Mine
end
section
open PySem PySem.W PyProof.Rows PySem.Spec PySem.Calls PySem.Builtin PySem.Builtin.Str
namespace Mine
def partsRow (W n : Nat) : List Part := List.replicate (breaksOf W n) (W - 1, true) ++ [(n - breaksOf W n * (W - 1), false)]
def partsOf (W : Nat) (rows : List Nat) : List Part := rows.flatMap (partsRow W)
def wS (p : Part) : Str := ⟨(wr p).toArray⟩
def enc (W : Nat) (eol : Str) (rows : List Nat) : Str := Str.join eol ((partsOf W rows).map wS)
theorem text_plain (rows : List Nat) : Plain (text rows) := text_plain' rows
theorem text_ne {rows : List Nat} (h : ((text rows).length : Int) ≠ 0) : (text rows).length ≠ 0 := by omega
theorem rowsL_mem {rows : List Nat} {n : Nat} (h : n ∈ rowsL rows) : n ∈ rows := by
  unfold rowsL at h
  split at h
  · exact List.dropLast_subset _ h
  · exact h
theorem strsAre_get2 {vs : List Value} {ys : List Str} (h : StrsAre vs ys) : ∀ {i : Nat} {v : Value}, vs[i]? = some v → ∃ y t, v = .str y t ∧ ys[i]? = some y := by
  induction h with
  | nil => intro i v e; simp at e
  | cons y t _ ih =>
    intro i v e
    cases i with
    | zero => simp at e; exact ⟨y, t, e.symm, by simp⟩
    | succ i => simp at e; simpa using ih e
section
variable {prog : Program} {w : World} {A : Around} {E : Value → Shared → Prop} {s : Shared} {h₀ : Heap} {L : Addr} {m : Str → Option Value} {news : Led} {t : Tok} {Q : Value → Shared → Prop}
theorem aS_len (n : Nat) : (aS n).length = n := by simp [aS, Str.length]
theorem aS_item {n : Nat} {i : Int} (h0 : 0 ≤ i) (h1 : i < n) : Txt.item (aS n) i = ⟨#[97]⟩ := by
  refine PyProof.Rows.item_meets h0 ?_
  have : i.toNat < n := by omega
  simp [aS, this]
theorem aS_slice {n : Nat} {i j : Int} (h0 : 0 ≤ i) (h1 : i ≤ j) (h2 : j ≤ n) : Txt.slice (aS n) (some i) (some j) = aS (j - i).toNat := by
  show StrLaws.sliceText _ _ _ = _
  rw [StrLaws.sliceText_plain ⟨h0, h1, by simp [aS]; omega⟩]
  unfold aS
  congr 2
  simp
  omega
theorem aS_sliceN {n : Nat} {i : Int} (h0 : 0 ≤ i) (h1 : i ≤ n) : Txt.slice (aS n) (some i) none = aS (n - i).toNat := by
  show StrLaws.sliceText _ _ _ = _
  rw [StrLaws.sliceText_from ⟨h0, by simp [aS]; omega⟩]
  unfold aS
  congr 2
  simp
  omega
theorem r_lenA {n : Nat} (hn : n ≤ 1000) (h : Q (.int (n : Int) (s.toks + 1)) { s with toks := s.toks + 1 + 1 }) : wpAny (model prog w) A (call (.builtin "len") [.str (aS n) t]) Q E s :=
  SBL.len (by rw [aS_len]; omega) (by rw [aS_len]; exact h)
section
variable {value slice : PySem.Expr} {n : Nat}
theorem r_itemA {i : Int} {u : Tok} (h0 : 0 ≤ i) (h1 : i < n) (hn : n ≤ 1000)
    (hs : subscripted slice false (.str (aS n) t) (.int i u) = operate [.str (aS n) t, .int i u] (getItem (.str (aS n) t) (.int i u)))
    (ht : ∀ r, letTemporaryGo value (.str (aS n) t) r = pure ())
    (h : Q (.str ⟨#[97]⟩ s.toks) { s with toks := s.toks + 1 }) :
    wpAny (model prog w) A (subscriptTail value slice (.str (aS n) t) (.int i u)) Q E s :=
  item_str (fitsSsize_of (N := 1000) (by omega) (by omega) (by decide)) (by omega) (by rw [aS_len]; exact h1) (fun _ => by rw [aS_item h0 h1]; exact h) hs ht
theorem r_sliceA {i j : Int} {ui uj : Tok} (hF : Fr h₀ L s.heap m) (hN : News h₀ L s.heap news) (h0 : 0 ≤ i) (h1 : i ≤ j) (h2 : j ≤ n) (hn : n ≤ 1000)
    (hs : subscripted slice false (.str (aS n) t) (.ref s.heap.objs.size) = operate [.ref s.heap.objs.size, .str (aS n) t] (getItem (.str (aS n) t) (.ref s.heap.objs.size)))
    (ht : ∀ r, letTemporaryGo value (.str (aS n) t) r = pure ())
    (h : ∀ h' t' k, Fr h₀ L h' m → News h₀ L h' news → Q (.str (aS (j - i).toNat) t') { s with heap := h', toks := k }) :
    wpAny (model prog w) A (subscriptTail value slice (.str (aS n) t) (.ref s.heap.objs.size)) Q E { s with heap := s.heap.push { cls := .type "slice", data := .fields #[.int i ui, .int j uj, .none] } } :=
  slice_strN_ss hF hN (fun h' t' k F N => by rw [aS_slice h0 h1 h2]; exact h h' t' k F N) hs ht (by rw [aS_len, sizeLine_eq]; omega)
theorem r_sliceAN {i : Int} {ui : Tok} (hF : Fr h₀ L s.heap m) (hN : News h₀ L s.heap news) (h0 : 0 ≤ i) (h1 : i ≤ n) (hn : n ≤ 1000)
    (hs : subscripted slice false (.str (aS n) t) (.ref s.heap.objs.size) = operate [.ref s.heap.objs.size, .str (aS n) t] (getItem (.str (aS n) t) (.ref s.heap.objs.size)))
    (ht : ∀ r, letTemporaryGo value (.str (aS n) t) r = pure ())
    (h : ∀ h' t' k, Fr h₀ L h' m → News h₀ L h' news → Q (.str (aS (n - i).toNat) t') { s with heap := h', toks := k }) :
    wpAny (model prog w) A (subscriptTail value slice (.str (aS n) t) (.ref s.heap.objs.size)) Q E { s with heap := s.heap.push { cls := .type "slice", data := .fields #[.int i ui, .none, .none] } } :=
  slice_strN_sn hF hN (fun h' t' k F N => by rw [aS_sliceN h0 h1]; exact h h' t' k F N) hs ht (by rw [aS_len, sizeLine_eq]; omega)
end
theorem wS_false (n : Nat) : wS (n, false) = aS n := by simp [wS, aS, wr, shs]
theorem aS_eq (n : Nat) : aS n ++ Str.ofString "=" = wS (n, true) := by
  have e : Str.ofString "=" = ⟨#[61]⟩ := by decide +kernel
  rw [e]
  apply Str.ext'
  apply Array.toList_inj.mp
  rw [Str.cps_append]
  simp [wS, aS, wr, shs]
theorem r_addEq {n : Nat} {u : Tok} (hn : n ≤ 1000) (h : ∀ t' k, Q (.str (wS (n, true)) t') { s with toks := k }) : wpAny (model prog w) A (binaryOp .Add (.str (aS n) t) (.str (Str.ofString "=") u)) Q E s :=
  SBL.add (fun t' k _ => by rw [aS_eq]; exact h t' k) (by rw [aS_len, sizeLine_eq]; have e : (Str.ofString "=").length = 1 := by decide +kernel
                                                          omega)
theorem aS_itemL {n : Nat} (h : 0 < n) : Txt.item (aS n) (-1) = ⟨#[97]⟩ := by
  have e : Txt.item (aS n) (-1) = Txt.item (aS n) ((n : Int) - 1) := by
    unfold Txt.item Txt.charAt
    rw [aS_len, seqIndex_neg (by decide) (by omega), seqIndex_at (by omega) (by omega)]
    congr 5
  rw [e, aS_item (by omega) (by omega)]
theorem r_itemAL {value slice : PySem.Expr} {n : Nat} {i : Int} {u : Tok} (hi : i = -1) (h1 : 0 < n) (hn : n ≤ 1000)
    (hs : subscripted slice false (.str (aS n) t) (.int i u) = operate [.str (aS n) t, .int i u] (getItem (.str (aS n) t) (.int i u)))
    (ht : ∀ r, letTemporaryGo value (.str (aS n) t) r = pure ())
    (h : Q (.str ⟨#[97]⟩ s.toks) { s with toks := s.toks + 1 }) :
    wpAny (model prog w) A (subscriptTail value slice (.str (aS n) t) (.int i u)) Q E s := by
  subst hi
  exact item_str (by decide) (by rw [aS_len]; omega) (by rw [aS_len]; omega) (fun _ => by rw [aS_itemL h1]; exact h) hs ht
theorem r_truthyA {n : Nat} {Q : Bool → Shared → Prop} (hn : n ≤ 1000) (h : Q (decide ((n : Int) ≠ 0)) { s with toks := s.toks + 1 + 1 }) : wpAny (model prog w) A (PySem.truthy (.str (aS n) t)) Q E s :=
  SBL.truthy (by rw [aS_len]; omega) (by
    have e : (((aS n).length : Int) != 0) = decide ((n : Int) ≠ 0) := by rw [aS_len, Bool.eq_iff_iff]; simp [bne]
    rw [e]; exact h)
theorem breaks_le (W k : Nat) : breaksOf W k * (W - 1) ≤ k := by
  unfold breaksOf
  have := Nat.div_mul_le_self (k - 2) (W - 1)
  omega
theorem breaks_small {W n : Nat} (h : n ≤ 200) : breaksOf W n ≤ 200 := Nat.le_trans (Nat.div_le_self _ _) (by omega)
theorem parts_len (W : Nat) : ∀ rows : List Nat, (∀ n ∈ rows, n ≤ 200) → (partsOf W rows).length ≤ rows.length * 201
  | [], _ => Nat.le_refl _
  | n :: r, h => by
    have ih := parts_len W r fun m hm => h m (.tail _ hm)
    have hb : breaksOf W n ≤ 200 := breaks_small (h n (.head _))
    show ((partsRow W n) ++ partsOf W r).length ≤ (r.length + 1) * 201
    rw [List.length_append]
    unfold partsRow
    simp only [List.length_append, List.length_replicate, List.length_cons, List.length_nil]
    omega
theorem rowsL_len (rows : List Nat) : (rowsL rows).length ≤ rows.length := by
  unfold rowsL
  split
  · simp
  · exact Nat.le_refl _
theorem snoc_are {us : List Value} {ws : List Str} {x : Str} {t : Tok} (h : StrsAre us ws) : StrsAre (us ++ [.str x t]) (ws ++ [x]) := by
  induction h with
  | nil => exact .cons _ _ .nil
  | cons y u _ ih => exact .cons y u ih
theorem int_eq {i j : Int} {t : Tok} (h : i = j) : some (Value.int i t) = some (Value.int j t) := by rw [h]
theorem enc_more {W k : Nat} {t : Tok} {vs : List Value} {pre : List Str} {x : Str} (h : StrsAre vs (pre ++ List.replicate k (wS (W - 1, true)))) (hx : x = wS (W - 1, true)) : StrsAre (vs ++ [.str x t]) (pre ++ List.replicate (k + 1) (wS (W - 1, true))) := by
  rw [List.replicate_succ', ← List.append_assoc, hx]
  exact snoc_are h
theorem partsOf_take {W i n : Nat} {rows : List Nat} (h : rows[i]? = some n) : partsOf W (rows.take (i + 1)) = partsOf W (rows.take i) ++ partsRow W n := by
  rw [List.take_add_one, h]
  unfold partsOf
  rw [List.flatMap_append]; simp
theorem enc_row {W i n : Nat} {rows : List Nat} {t : Tok} {vs : List Value} {x : Str} (hn : rows[i]? = some n) (h : StrsAre vs ((partsOf W (rows.take i)).map wS ++ List.replicate (breaksOf W n) (wS (W - 1, true)))) (hx : x = aS (n - breaksOf W n * (W - 1))) :
    StrsAre (vs ++ [.str x t]) ((partsOf W (rows.take (i + 1))).map wS) := by
  rw [partsOf_take hn, List.map_append]
  unfold partsRow
  rw [List.map_append, List.map_replicate, ← List.append_assoc, hx]
  show StrsAre _ (_ ++ [wS (_, false)])
  rw [wS_false]
  exact snoc_are h
theorem g_end1 {σ : Type} {h₀ : Heap} {L D : Addr} {s : Shared} {ps : σ → List (Str × Value)} {Lg : σ → Led} {P : σ → Prop} {rest own : Led} {h' : Heap} {tk k' : Nat} {vs' : List Value} {m' : Str → Option Value} (c' : σ) (F : Fr h₀ L h' m') (N : News h₀ L h' ((D, lst vs' k') :: (rest ++ own)))
    (e : Lg c' = [(D, lst vs' k')]) (ha : OwnOff own (D :: rest.map (·.1))) (hk : ∀ p ∈ ps c', m' p.1 = some p.2) (hp : P c') :
    InvEndG h₀ L (JP ps Lg P rest) own s { s with heap := h', toks := tk } := by
  refine g_end c' F N ?_ (fun p hp => .tail _ (List.mem_append_right _ hp)) ?_ hk hp
  · intro p hp
    rw [e] at hp
    rcases List.mem_cons.mp hp with rfl | hp
    · exact .head _
    · exact .tail _ (List.mem_append_left _ hp)
  · rw [e]; exact ha
theorem lt_breaks {W n k : Nat} (hW : 4 ≤ W) : k < breaksOf W n ↔ k * (W - 1) + 1 + W ≤ n := by
  unfold breaksOf
  have h1 : k < (n - 2) / (W - 1) ↔ (k + 1) * (W - 1) ≤ n - 2 := by
    rw [← Nat.succ_le_iff, Nat.le_div_iff_mul_le (by omega)]
  rw [h1, Nat.succ_mul]
  omega
theorem r_inC {c : Nat} {y : Str} {u : Tok} (b : Bool) (hb : decide (c ∈ y.cps.toList) = b) (h : Q (.bool b) s) : wpAny (model prog w) A (compareOp .In (.str ⟨#[c]⟩ t) (.str y u)) Q E s := by
  refine in_str ?_
  rw [StrLaws.found_one, hb]; exact h
theorem wS_len (p : Part) : (wS p).length ≤ p.1 + 1 := by
  obtain ⟨n, b⟩ := p
  cases b <;> simp [wS, wr, shs, Str.length]
theorem parts_small {W : Nat} {rows : List Nat} (hW : W ≤ 7) (hr : ∀ n ∈ rows, n ≤ 200) : ∀ p ∈ partsOf W rows, p.1 ≤ 200 := by
  intro p hp
  unfold partsOf at hp
  obtain ⟨n, hn, hp⟩ := List.mem_flatMap.mp hp
  have := hr n hn
  unfold partsRow at hp
  rcases List.mem_append.mp hp with hp | hp
  · have := List.eq_of_mem_replicate hp
    subst this
    dsimp only
    omega
  · rw [List.mem_singleton.mp hp]
    dsimp only
    omega
theorem r_joinL {D : Addr} {vs : List Value} {n : Nat} {ys : List Str} {x : Str} (N : News h₀ L s.heap news) (hm : (D, lst vs n) ∈ news) (hv : StrsAre vs ys) (hx : x.length ≤ 10) (hy : ∀ y ∈ ys, y.length ≤ 1000) (hl : ys.length ≤ 5000)
    (h : ∀ t' k, Q (.str (Str.join x ys) t') { s with toks := k }) : wpAny (model prog w) A (call (.builtin "str.join") [.str x t, .ref D]) Q E s := by
  have h1 := StrLaws.sumLen_le ys hy
  have h2 : ys.length * x.length ≤ ys.length * 10 := Nat.mul_le_mul_left _ hx
  refine join_list (News.isList N hm) (by simpa using hv) (by omega) fun t' k => ?_
  have e : Txt.join x ys = Str.join x ys := StrLaws.glued_eq_join x ys
  rw [e]; exact h t' k
theorem r_itemT {value slice : PySem.Expr} {x : Str} {c : Nat} {i : Int} {u : Tok} (hi : i = -1) (h1 : x.length ≠ 0) (hc : Txt.item x (-1) = ⟨#[c]⟩)
    (hs : subscripted slice false (.str x t) (.int i u) = operate [.str x t, .int i u] (getItem (.str x t) (.int i u)))
    (ht : ∀ r, letTemporaryGo value (.str x t) r = pure ())
    (h : Q (.str ⟨#[c]⟩ s.toks) { s with toks := s.toks + 1 }) :
    wpAny (model prog w) A (subscriptTail value slice (.str x t) (.int i u)) Q E s := by
  subst hi
  exact item_str (by decide) (by omega) (by omega) (fun _ => by rw [hc]; exact h) hs ht
theorem enc_zero {W : Nat} {eol : Str} {rows : List Nat} (hl : 1 ≤ rows.length) (h : (text rows).length = 0) : enc W eol rows = text rows := by
  rw [text_zero hl h]
  simp [enc, text, partsOf, partsRow, breaksOf, Str.join, wS_false]
theorem enc_last0 {W : Nat} {eol : Str} {rows : List Nat} (h : rows.getLast? = some 0) : Str.join eol ((partsOf W (rowsL rows)).map wS ++ [Str.ofString ""]) = enc W eol rows := by
  obtain ⟨r, rfl⟩ : ∃ r, rows = r ++ [0] := by
    obtain ⟨hne, e⟩ := List.getLast?_eq_some_iff.mp h
    exact ⟨_, e⟩
  unfold enc rowsL
  rw [if_pos h, List.dropLast_concat]
  have e : partsOf W (r ++ [0]) = partsOf W r ++ [(0, false)] := by
    unfold partsOf; rw [List.flatMap_append]; simp [partsRow, breaksOf]
  rw [e, List.map_append]
  congr 2
theorem enc_last1 {W : Nat} {eol : Str} {rows : List Nat} (h : rows.getLast? ≠ some 0) : Str.join eol ((partsOf W (rowsL rows)).map wS) = enc W eol rows := by
  unfold enc rowsL
  rw [if_neg h]
theorem r_translateK {T : Addr} {K : Frag} {d : Option Addr} {sl : Array (Option Value)} {n : Nat} {items : Array Value} {x : Str} (X : K.In h₀) (F : Fr h₀ L s.heap m) (e : K.lookup T = some ⟨.type "list", d, .seq items n, sl⟩) (ht : TabOk items) (hx : Plain x) (hne : x.length ≠ 0) (hsz : x.length ≤ 100000) (h : ∀ t' k, Q (.str x t') { s with toks := k }) :
    wpAny (model prog w) A (call (.builtin "str.translate") [.str x t, .ref T]) Q E s :=
  r_translate ⟨_, X.keeps F.keep _ _ e, rfl, _, rfl⟩ ht hx hne hsz h
theorem gm_translate {M : Model} {x : Str} {pl : Sem Bool} {Q : Value × List Value → Shared → Prop} (h : Q (.builtin "str.translate", [.str x t]) s) : wpAny M A (getMethod (.str x t) "translate" pl) Q E s := by
  with_reducible exact GM.of (.str x t) (typeIs_str _ _ _) F.slot_str_translate F.type_str_translate GM.noRef h
theorem r_lines {x : Str} (F : Fr h₀ L s.heap m) (N : News h₀ L s.heap news) (hsz : x.length ≤ 100000)
    (h : ∀ B vs h' k, StrsAre vs (Txt.lines x) → (∀ p ∈ news, p.1 < B) → Fr h₀ L h' m → News h₀ L h' ((B, lst vs 0) :: news) → Q (.ref B) { s with heap := h', toks := k }) :
    wpAny (model prog w) A (call (.builtin "str.splitlines") [.str x t]) Q E s :=
  splitlinesNA F N (fun l h' k el hs _ _ F' N' => h _ _ h' k (el ▸ hs) (news_lt N) F' N') (by rw [sizeLine_eq]; omega)
end
end Mine
end
section
open PySem PySem.W PyProof.Rows PySem.Spec PySem.Calls PySem.Builtin PySem.Builtin.Str
namespace Mine
theorem fold_a : ∀ (n : Nat) (acc : Array Nat), (List.foldl (fun x1 x2 : Array Nat => x1 ++ x2) acc (List.replicate n #[97])).toList = acc.toList ++ List.replicate n 97
  | 0, acc => by simp
  | n + 1, acc => by rw [List.replicate_succ, List.foldl_cons, fold_a n]; simp [List.replicate_succ]
theorem a_cps : Str.ofString "a" = ⟨#[97]⟩ := by decide +kernel
theorem mul_a (n : Nat) : Txt.mul (Str.ofString "a") (n : Int) = aS n := by
  rw [a_cps]
  unfold Txt.mul
  by_cases h : (n : Int) < 1
  · rw [if_pos h]
    have : n = 0 := by omega
    subst this; rfl
  · rw [if_neg h]
    by_cases h1 : n = 1
    · subst h1; rfl
    · have e : ((n : Int) == 1 || (⟨#[97]⟩ : Str).length == 0) = false := by
        have : ((n : Int) == 1) = false := by rw [beq_eq_false_iff_ne]; omega
        rw [this]; rfl
      rw [if_neg (by rw [e]; decide)]
      apply Str.ext'
      apply Array.toList_inj.mp
      rw [Int.toNat_natCast]
      show (List.foldl (fun x1 x2 : Array Nat => x1 ++ x2) #[] (List.replicate n #[97])).toList = (aS n).cps.toList
      rw [fold_a]
      simp [aS]
section
variable {prog : Program} {w : World} {A : Around} {E : Value → Shared → Prop} {s : Shared} {t u : Tok} {Q : Value → Shared → Prop}
theorem r_mulA {n : Nat} (hn : n ≤ 1000) (h : ∀ t' k, Q (.str (aS n) t') { s with toks := k }) : wpAny (model prog w) A (binaryOp .Mult (.str (Str.ofString "a") t) (.int (n : Int) u)) Q E s := by
  have hl : (Str.ofString "a").length = 1 := by decide +kernel
  refine SB.mul ⟨?_, fun h1 _ => ?_, fun _ _ => ?_⟩ fun t' k => by rw [mul_a]; exact h t' k
  · simp; omega
  · rw [hl]
    have : (1 : Int) ≤ (2 ^ 63 - 1) / (n : Int) := by
      rw [Int.le_ediv_iff_mul_le (by omega)]
      omega
    omega
  · rw [hl]; unfold tooLong; rw [Int.toNat_natCast]; simp; rw [sizeLine_eq]; omega
end
end Mine
end
section
open PySem PySem.W PyProof.Rows PySem.Spec PySem.Calls PySem.Builtin PySem.Builtin.Str
set_option maxHeartbeats 1000000
namespace Mine
local macro_rules | `(tactic| walk_at "pyIter ref") => `(tactic| (refine hold ?_))
local macro_rules | `(tactic| walk_at "exec While Compare cons nil") => `(tactic| (refine hold ?_))
local macro_rules | `(tactic| walk_at "truthy str") => `(tactic| (refine SBL.truthy (by rw [sizeLine_eq]; omega) ?_; (try dsimp only)))
local macro_rules | `(tactic| walk_at "call builtin:str.translate") => `(tactic| ((with_reducible rename Fr _ _ _ _ => F'); (with_reducible rename Frag.In _ _ => X'); refine' r_translateK X' F' ?k1 ?k2 ?k3 ?k4 ?k5 ?_; (case k1 => k_is); (case k2 => exact ⟨⟨_, rfl⟩, ⟨_, rfl⟩⟩); (case k3 => exact text_plain _); (case k4 => omega); (case k5 => omega); intro t' k'; (try dsimp only)))
local macro_rules | `(tactic| walk_at "call builtin:str.splitlines") => `(tactic| (refine hold ?_))
local macro_rules | `(tactic| walk_at "getMethod str") => `(tactic| with_reducible refine gm_translate ?_)
local macro_rules | `(tactic| k_mem) => `(tactic| first | with_reducible assumption | exact List.mem_append_left _ (by with_reducible assumption))
local macro_rules | `(tactic| walk_at "newList") => `(tactic| (refine hold ?_))
local macro_rules | `(tactic| walk_at "getAttr ref") => `(tactic| (refine hold ?_))
local macro_rules | `(tactic| walk_at "callWith ref") => `(tactic| ((with_reducible rename News _ _ _ _ => N'); refine' callWith_B N' ?k1 ?_ ?k2 ?k3; (case k1 => k_mem); (case k2 => rfl); (case k3 => rfl)))
local macro_rules | `(tactic| walk_at "And") => `(tactic| ((with_reducible rename News _ _ _ _ => N'); refine ⟨(N' (_, bmObj _) (by k_mem)).1, ?_⟩; try dsimp only [List.nil_append, List.cons_append]))
local macro_rules | `(tactic| walk_at "call ref") => `(tactic| ((with_reducible rename Fr _ _ _ _ => F'); (with_reducible rename News _ _ _ _ => N'); refine' r_callAppend F' N' ?k1 ?k2 ?k3 ?_; (case k1 => k_mem); (case k2 => k_upd); (case k3 => omega); clear F' N'; intro h' F' N'; (try dsimp only)))
local macro_rules | `(tactic| walk_at "call builtin:len") => `(tactic| (refine r_lenA (by omega) ?_; (try dsimp only)))
local macro_rules | `(tactic| walk_at "subscriptTail Name BinOp str int") => `(tactic| (refine' r_itemA ?k1 ?k2 ?k3 ?k4 ?k5 ?_; (case k1 => omega); (case k2 => omega); (case k3 => omega); (case k4 => with_unfolding_all rfl); (case k5 => (intro _; with_unfolding_all rfl)); (try dsimp only)))
local macro_rules | `(tactic| walk_at "subscriptTail Name Slice str ref") => `(tactic| ((with_reducible show wpAny _ _ (subscriptTail _ (PySem.Expr.Slice (some _) (some _) none _) _ _) _ _ _); (with_reducible rename Fr _ _ _ _ => F'); (with_reducible rename News _ _ _ _ => N'); refine' r_sliceA (s := ⟨_, _, _, _, _⟩) F' N' ?k1 ?k2 ?k3 ?k6 ?k4 ?k5 ?_; (case k1 => omega); (case k2 => omega); (case k3 => omega); (case k6 => omega); (case k4 => with_unfolding_all rfl); (case k5 => (intro _; with_unfolding_all rfl)); clear F' N'; intro h' t' k' F' N'; (try dsimp only)))
local macro_rules | `(tactic| walk_at "subscriptTail Name Slice str ref") => `(tactic| ((with_reducible show wpAny _ _ (subscriptTail _ (PySem.Expr.Slice (some _) none none _) _ _) _ _ _); (with_reducible rename Fr _ _ _ _ => F'); (with_reducible rename News _ _ _ _ => N'); refine' r_sliceAN (s := ⟨_, _, _, _, _⟩) F' N' ?k1 ?k2 ?k6 ?k4 ?k5 ?_; (case k1 => omega); (case k2 => omega); (case k6 => omega); (case k4 => with_unfolding_all rfl); (case k5 => (intro _; with_unfolding_all rfl)); clear F' N'; intro h' t' k' F' N'; (try dsimp only)))
local macro_rules | `(tactic| walk_at "subscriptTail Name UnaryOp str int") => `(tactic| (refine' r_itemAL ?k1 ?k2 ?k3 ?k4 ?k5 ?_; (case k1 => rfl); (case k2 => omega); (case k3 => omega); (case k4 => with_unfolding_all rfl); (case k5 => (intro _; with_unfolding_all rfl)); (try dsimp only)))
local macro_rules | `(tactic| walk_at "binaryOp Add str str") => `(tactic| (refine r_addEq (by omega) ?_; intro t' k'; (try dsimp only)))
local macro_rules | `(tactic| walk_at "truthy str") => `(tactic| (refine r_truthyA (by omega) ?_; (try dsimp only)))
local macro_rules | `(tactic| k_all) => `(tactic| assumption)
local macro_rules | `(tactic| walk_at "compareOp In str str") => `(tactic| ((first | refine r_inC false (by decide +kernel) ?_ | refine r_inC true (by decide +kernel) ?_); (try dsimp only)))
local macro_rules | `(tactic| walk_at "subscriptTail Name UnaryOp str int") => `(tactic| (refine' r_itemT ?k1 ?k2 ?k3 ?k4 ?k5 ?_; (case k1 => rfl); (case k3 => with_reducible assumption); (case k2 => omega); (case k4 => with_unfolding_all rfl); (case k5 => (intro _; with_unfolding_all rfl)); (try dsimp only)))
local macro_rules | `(tactic| walk_at "call builtin:str.join") => `(tactic| (refine hold ?_))
theorem bodyenc (w : World) (args : List Value) (rows : List Nat) (W : Nat) (eol : Str) (t u v : Tok) (hargs : args = [.str (text rows) t, .int W u, .str eol v] ∨ (args = [.str (text rows) t, .int W u] ∧ eol = Str.ofString "\n" ∧ v = 205)) (hW : 4 ≤ W ∧ W ≤ 7) (hr : ∀ n ∈ rows, n ≤ 200) (hl : 1 ≤ rows.length ∧ rows.length ≤ 20) (he : eol.length ≤ 10) :
    Con w 64 args (fun _ => True) (fun _ r => ∃ t', r = .str (enc W eol rows) t') := by
  unfold Con
  k_fill
  intro loose mean mg mb dp un gd cn cs ad ccd cl outer A₀ base h₀ L m news s Q E B F X N T hk hpre hd hu hret
  refine wpAny_call ?_
  k_dflt (refine' code_def ?k1 ?k2 ?k3 ?k4 ?k5 ?kA ?kF ?kK ?k6 ?k7 ?k8 ?k9 ?kB ?_ ?c2 ?c3 ?c4 ?c5; (case kA => exact rfl); (case kF => exact rfl); (case kK => assumption); (case k1 => k_asm); (case k2 => k_asm); (case k3 => k_asm); (case k4 => k_asm); (case k5 => k_asm); (case k6 => k_is); (case k7 => k_is); (case k8 => ktr_room); (case k9 => ((show BindsTo _ _ _ [(Str.ofString "body", Value.str (text rows) t), (Str.ofString "maxlinelen", Value.int W u), (Str.ofString "eol", Value.str eol v)]); rcases hargs with h | ⟨h1, h2, h3⟩ <;> first | (rw [h]; exact binds_K (by k_in) rfl (by k_is) rfl rfl rfl) | (rw [h1, h2, h3]; exact binds_K (by k_in) rfl (by k_is) rfl rfl rfl))); (case c5 => decide); (case kB => exact locs rfl); (case c2 => exact rfl); (case c3 => exact rfl); (case c4 => exact rfl); k_whole; intro g' L' h' FG' F' N' B' X' T'; (try dsimp only); (try k_fold))
  clear hargs
  rename Fr _ _ _ (fun y => _) => F0
  have F1 := fr_map (m' := fun y' => List.lookup y' [(Str.ofString "eol", Value.str eol v), (Str.ofString "maxlinelen", Value.int W u), (Str.ofString "body", Value.str (text rows) t)]) F0 (by with_unfolding_all rfl)
  clear F0
  have hlen := text_len hr hl.2
  k_steps
  rotate_left 1
  · refine hret _ [] _ _ (by assumption) (by assumption) (fun _ h => nomatch h) ⟨t, ?_⟩
    rw [enc_zero hl.1 (by omega)]
  unfold Hold
  (rename Fr _ _ _ _ => F9)
  (rename News _ _ _ _ => N9)
  refine newList_K F9 N9 ?_
  clear F9 N9
  intro D9 h9 F9 N9 l19
  try dsimp only
  k_steps
  unfold Hold
  (rename Fr _ _ _ _ => F9)
  (rename News _ _ _ _ => N9)
  refine r_attrAppend F9 N9 (List.Mem.head _) ?_
  clear F9 N9
  intro q9 h9 k9 hlt9 F9 N9
  k_lt hlt9
  try dsimp only
  k_steps
  unfold Hold
  (rename Fr _ _ _ _ => F9)
  (rename News _ _ _ _ => N9)
  refine r_lines F9 N9 (by omega) ?_
  clear F9 N9
  intro B9 vs9 h9 k9 hvs9 hltB9 F9 N9
  try dsimp only
  k_steps
  rw [text_lines hl.1] at hvs9
  unfold Hold
  refine' for_listP (σ := (List Value × Nat) × Tok × Tok × Tok × Tok × Tok) (l := B9) (vs := vs9) (nn := 0) (news := (B9, lst vs9 0) :: (q9, bmObj D9) :: news)
    (fun c => [(Str.ofString "append", Value.ref q9), (Str.ofString "encoded_body", Value.ref D9), (Str.ofString "maxlinelen1", Value.int ((W : Int) - 1) c.2.1), (Str.ofString "soft_break", Value.str (Str.ofString "=" ++ eol) c.2.2.1), (Str.ofString "body", Value.str (text rows) c.2.2.2.1), (Str.ofString "eol", Value.str eol v), (Str.ofString "maxlinelen", Value.int (W : Int) u)])
    (fun c => [(D9, lst c.1.1 c.1.2)]) (fun i c => StrsAre c.1.1 ((partsOf W ((rowsL rows).take i)).map wS)) (([], 0), _, _, _, u, u) (by rfl) F9 (fun p hp => N9 p ?k0) (List.Mem.head _) ?k1 ?k3 ?_ ?_
  case k0 => (simp only [List.cons_append, List.nil_append, List.mem_cons] at hp ⊢; rcases hp with h | h | h | h <;> simp [h])
  case k1 => exact .nil
  case k3 => (intro p hp; simp only [List.mem_cons, List.not_mem_nil, or_false] at hp; rcases hp with rfl | rfl | rfl | rfl | rfl | rfl | rfl <;> with_unfolding_all rfl)
  · rintro i' v' ⟨⟨cv, ck⟩, t1, t2, t3, t4, t5⟩ m' h' tk' own' hi' hP' hoff' F' N'
    dsimp only at F' N' hP' hoff'
    simp only [List.cons_append, List.nil_append] at N' hoff'
    clear F9 N9
    obtain ⟨x', tx', rfl, hx'⟩ := strsAre_get2 hvs9 hi'
    obtain ⟨n9, hn9, rfl⟩ : ∃ n, (rowsL rows)[i']? = some n ∧ aS n = x' := by simpa using hx'
    have hn2 : n9 ≤ 200 := hr n9 (rowsL_mem (List.mem_of_getElem? hn9))
    have hpl : (partsOf W ((rowsL rows).take i')).length ≤ 4020 := by
      have p1 := parts_len W ((rowsL rows).take i') (fun n hn => hr n (rowsL_mem (List.mem_of_mem_take hn)))
      have p2 := rowsL_len rows
      rw [List.length_take] at p1
      have p3 : min i' (rowsL rows).length * 201 ≤ 20 * 201 := Nat.mul_le_mul_right _ (by omega)
      omega
    have hcl : cv.length ≤ 4020 := by rw [strsAre_len hP', List.length_map]; exact hpl
    have hno : ∀ p ∈ news ++ own', p.1 ≠ D9 := by
      intro p hp
      rcases List.mem_append.mp hp with hp | hp
      · exact Nat.ne_of_lt (l19 p hp)
      · exact hoff' p hp D9 (by simp)
    have hBD : @LT.lt Nat _ D9 B9 := hltB9 (D9, _) (.tail _ (.head _))
    (try k_fold)
    k_steps
    (rename Fr _ _ _ _ => F9)
    (rename News _ _ _ _ => N9)
    unfold Hold
    refine' while_P (σ := (List Value × Nat) × Nat × Nat × Tok × Tok) (news := (B9, lst vs9 0) :: (q9, bmObj D9) :: (news ++ own'))
      (fun c => [(Str.ofString "start", Value.int (c.2.1 : Int) c.2.2.2.1), (Str.ofString "laststart", Value.int ((n9 : Int) - 1 - (W : Int)) c.2.2.2.2), (Str.ofString "line", Value.str (aS n9) tx'), (Str.ofString "append", Value.ref q9), (Str.ofString "encoded_body", Value.ref D9), (Str.ofString "maxlinelen1", Value.int ((W : Int) - 1) t1), (Str.ofString "soft_break", Value.str (Str.ofString "=" ++ eol) t2), (Str.ofString "body", Value.str (text rows) t3), (Str.ofString "eol", Value.str eol v), (Str.ofString "maxlinelen", Value.int (W : Int) u)])
      (fun c => [(D9, lst c.1.1 c.1.2)])
      (fun c => c.2.1 = c.2.2.1 * (W - 1) ∧ c.2.2.1 ≤ breaksOf W n9 ∧ StrsAre c.1.1 ((partsOf W ((rowsL rows).take i')).map wS ++ List.replicate c.2.2.1 (wS (W - 1, true))))
      (fun c => breaksOf W n9 - c.2.2.1) ((cv, ck), 0, 0, _, _) F9 (fun p hp => N9 p ?k0) ⟨by simp, Nat.zero_le _, by simpa using hP'⟩ ?k3 ?_
    case k0 => (simp only [List.cons_append, List.nil_append, List.mem_cons, List.mem_append] at hp ⊢; exact hp)
    case k3 => (intro p hp; simp only [List.mem_cons, List.not_mem_nil, or_false] at hp; rcases hp with rfl | rfl | rfl | rfl | rfl | rfl | rfl | rfl | rfl | rfl <;> with_unfolding_all rfl)
    clear F9 N9 F'
    rintro ⟨⟨cw, cj⟩, S9, k9, tS9, tl9⟩ m9 h9 tk9 ⟨hS9, hk9, hs9⟩ F8 N8
    dsimp only at hS9 hk9 hs9 F8 N8
    simp only [List.nil_append, List.cons_append] at N8
    have hlb := lt_breaks (n := n9) (k := k9) hW.1
    rw [← hS9] at hlb
    have hbs := breaks_small (W := W) hn2
    have hcl2 : cw.length ≤ 4300 := by rw [strsAre_len hs9, List.length_append, List.length_map, List.length_replicate]; omega
    have hSn : S9 ≤ n9 := by rw [hS9]; exact Nat.le_trans (Nat.mul_le_mul_right _ hk9) (breaks_le W n9)
    (try k_fold)
    k_steps
    all_goals first
      | (rename News _ _ _ _ => N7
         exact (N7 (_, bmObj _) (by k_mem)).1)
      | (refine' w_end (σ := (List Value × Nat) × Nat × Nat × Tok × Tok) ((_, _), S9 + (W - 1), k9 + 1, _, tl9) (by assumption) (by assumption) (fun p hp => hp) ?k5 ⟨?k6, ?k7, ?k8⟩ ?k9
         case k5 => (intro p hp; simp only [List.mem_cons, List.not_mem_nil, or_false] at hp; rcases hp with rfl | rfl | rfl | rfl | rfl | rfl | rfl | rfl | rfl | rfl <;> first | with_unfolding_all rfl | exact Eq.trans (b := some (Value.int ((S9 : Int) + ((W : Int) - 1)) _)) (by with_unfolding_all rfl) (int_eq (by (try dsimp only); omega)))
         case k6 => (dsimp only; rw [Nat.succ_mul, ← hS9])
         case k7 => (dsimp only; omega)
         case k8 => (dsimp only; refine enc_more hs9 (congrArg (fun n => wS (n, true)) ?_); omega)
         case k9 => (dsimp only; omega))
      | (have hkb : k9 = breaksOf W n9 := by omega
         refine' g_end1 (σ := (List Value × Nat) × Tok × Tok × Tok × Tok × Tok) (rest := (B9, lst vs9 0) :: (q9, bmObj D9) :: news) ((_, _), t1, t2, t3, t4, t5) (by assumption) ?k0 ?k1 (by simpa using hoff') ?k5 ?k6
         case k0 => assumption
         case k1 => rfl
         case k5 => (intro p hp; simp only [List.mem_cons, List.not_mem_nil, or_false] at hp; rcases hp with rfl | rfl | rfl | rfl | rfl | rfl | rfl <;> with_unfolding_all rfl)
         case k6 => (dsimp only; rw [hkb] at hs9 hS9; refine enc_row hn9 hs9 (congrArg aS ?_); rw [← hS9]; omega))
      | fail "an end"
  · rintro ⟨⟨cv, ck⟩, t1, t2, t3, t4, t5⟩ m' h' tk' hP' F' N'
    dsimp only at F' N' hP'
    simp only [List.cons_append, List.nil_append] at N'
    clear F9 N9
    rw [strsAre_len hvs9, List.length_map, List.take_length] at hP'
    have hne : (text rows).length ≠ 0 := by omega
    have hpl : (partsOf W (rowsL rows)).length ≤ 4020 := by
      have p1 := parts_len W (rowsL rows) (fun n hn => hr n (rowsL_mem hn))
      have p2 := rowsL_len rows
      have p3 : (rowsL rows).length * 201 ≤ 20 * 201 := Nat.mul_le_mul_right _ (by omega)
      omega
    have hps : ∀ y ∈ (partsOf W (rowsL rows)).map wS, y.length ≤ 1000 := by
      intro y hy
      obtain ⟨p, hp, rfl⟩ := List.mem_map.mp hy
      have h1 := parts_small hW.2 (fun n hn => hr n (rowsL_mem hn)) p hp
      have h2 := wS_len p
      omega
    have hcl : cv.length ≤ 4020 := by rw [strsAre_len hP', List.length_map]; exact hpl
    have hno : ∀ p ∈ news, p.1 ≠ D9 := fun p hp => Nat.ne_of_lt (l19 p hp)
    have hBD : @LT.lt Nat _ D9 B9 := hltB9 (D9, _) (.tail _ (.head _))
    (try k_fold)
    by_cases hz : rows.getLast? = some 0
    · have hlast := text_last0 hz hne
      k_steps
      · rename News _ _ _ _ => N7
        exact (N7 (_, bmObj _) (by k_mem)).1
      · unfold Hold
        rename News _ _ _ _ => N7
        refine r_joinL N7 (.head _) (snoc_are hP') he ?_ (by simp; omega) ?_
        · intro y hy
          rcases List.mem_append.mp hy with hy | hy
          · exact hps y hy
          · rw [List.mem_singleton.mp hy]; decide +kernel
        · intro t7 k7
          rw [enc_last0 hz]
          k_steps
          all_goals (
            (rename News _ _ _ _ => N5)
            refine hret _ [] _ _ (by assumption) (fun p hp => N5 p (.tail _ (.tail _ (.tail _ hp)))) (fun _ h => nomatch h) ⟨_, rfl⟩)
    · have hlast := text_last1 hz hne
      k_steps
      unfold Hold
      rename News _ _ _ _ => N7
      refine r_joinL N7 (.head _) hP' he hps (by simp; omega) ?_
      intro t7 k7
      rw [enc_last1 hz]
      k_steps
      all_goals (
        (rename News _ _ _ _ => N5)
        refine hret _ [] _ _ (by assumption) (fun p hp => N5 p (.tail _ (.tail _ (.tail _ hp)))) (fun _ h => nomatch h) ⟨_, rfl⟩)
theorem bodyenc3 (w : World) (rows : List Nat) (W : Nat) (eol : Str) (t u v : Tok) (hW : 4 ≤ W ∧ W ≤ 7) (hr : ∀ n ∈ rows, n ≤ 200) (hl : 1 ≤ rows.length ∧ rows.length ≤ 20) (he : eol.length ≤ 10) :
    Con w 64 [.str (text rows) t, .int W u, .str eol v] (fun _ => True) (fun _ r => ∃ t', r = .str (enc W eol rows) t') := bodyenc w _ rows W eol t u v (.inl rfl) hW hr hl he
theorem bodyenc2 (w : World) (rows : List Nat) (W : Nat) (t u : Tok) (hW : 4 ≤ W ∧ W ≤ 7) (hr : ∀ n ∈ rows, n ≤ 200) (hl : 1 ≤ rows.length ∧ rows.length ≤ 20) :
    Con w 64 [.str (text rows) t, .int W u] (fun _ => True) (fun _ r => ∃ t', r = .str (enc W nlS rows) t') := bodyenc w _ rows W nlS t u 205 (.inr ⟨rfl, rfl, rfl⟩) hW hr hl (by rw [nl_len]; decide)
end Mine
end
section
open PySem PySem.W PyProof.Rows PySem.Spec PySem.Calls PySem.Builtin PySem.Builtin.Str
set_option maxHeartbeats 1000000
namespace Mine
def runS (y : Str) (b : Int) : Int → List Str → Bool
  | _, [] => true
  | a, v :: ws => if find4 y v a b < 0 then false else runS y b (find4 y v a b + v.length) ws
/-- behind the first part -/
def ellTail (ws : List Str) (z : Str) (y : Str) (a : Int) : Bool :=
  if (z.length : Int) = 0 then (if a > (y.length : Int) then false else runS y y.length a (ws ++ [z]))
  else if Txt.endswith y z = true then (if a > (y.length : Int) - z.length then false else runS y (y.length - z.length) a ws) else false
def ellW (a : Str) (mid : List Str) (z : Str) (y : Str) : Bool :=
  if (a.length : Int) = 0 then ellTail (a :: mid) z y 0
  else if Txt.startswith y a = true then ellTail mid z y a.length else false
theorem strsAre_get {vs : List Value} {ys : List Str} (h : StrsAre vs ys) : ∀ {i : Nat} {v : Value}, vs[i]? = some v → ∃ y t, v = .str y t ∧ ys[i]? = some y := by
  induction h with
  | nil => intro i v e; simp at e
  | cons y t _ ih =>
    intro i v e
    cases i with
    | zero => simp at e; exact ⟨y, t, e.symm, by simp⟩
    | succ i => simp at e; simpa using ih e
theorem drop_of_get {α : Type} {l : List α} {i : Nat} {a : α} (h : l[i]? = some a) : l.drop i = a :: l.drop (i + 1) := by
  obtain ⟨hl, e⟩ := List.getElem?_eq_some_iff.mp h
  rw [List.drop_eq_getElem_cons hl, e]
section
variable {prog : Program} {w : World} {A : Around} {E : Value → Shared → Prop} {s : Shared} {env : Env} {h₀ : Heap} {body : List Stmt} {Q : Flow → Shared → Prop}
theorem ell_loop {l : Addr} {vs : List Value} {ws : List Str} {n : Nat} {m₀ : Str → Option Value} {news : Led} {y : Str} {u t₀ t₁ : Tok} {a₀ b₀ : Int}
    (hh : A.handled = none) (F : Fr h₀ env.locals s.heap m₀) (N : News h₀ env.locals s.heap news) (hm : (l, lst vs n) ∈ news) (hv : StrsAre vs ws)
    (hg : m₀ (Str.ofString "got") = some (.str y u)) (hst : m₀ (Str.ofString "startpos") = some (.int a₀ t₀)) (hen : m₀ (Str.ofString "endpos") = some (.int b₀ t₁)) {nb : Nat} (hb : ∀ v ∈ ws, v.length ≤ nb)
    (turn : ∀ a ta wi ti rest (m₁ : Str → Option Value) h tk own, runS y b₀ a₀ ws = runS y b₀ a (wi :: rest) → wi.length ≤ nb →
      Fr h₀ env.locals h (fun z => if z = Str.ofString "w" then some (.str wi ti) else if z = Str.ofString "startpos" then some (.int a ta) else if z = Str.ofString "endpos" then some (.int b₀ t₁) else if z = Str.ofString "got" then some (.str y u) else m₁ z) →
      News h₀ env.locals h (own ++ news) →
      wpAny (model prog w) A (execs body env) (InvPost h₀ env.locals (fun m' => ∃ a' t', m' (Str.ofString "startpos") = some (.int a' t') ∧ m' (Str.ofString "got") = some (.str y u) ∧ m' (Str.ofString "endpos") = some (.int b₀ t₁) ∧ runS y b₀ a₀ ws = runS y b₀ a' rest) (own ++ news) { s with heap := h, toks := tk } Q) E { s with heap := h, toks := tk })
    (done : ∀ m₁ h tk, runS y b₀ a₀ ws = true → Fr h₀ env.locals h m₁ → News h₀ env.locals h news → Q .next { s with heap := h, toks := tk }) :
    wpAny (model prog w) A (pyIter (.ref l)) (fun it s₂ => LoopAtV prog w A h₀ env (Str.ofString "w") body Q E it s₂) E s := by
  refine iter_invL (fun i m => ∃ a' t', m (Str.ofString "startpos") = some (.int a' t') ∧ m (Str.ofString "got") = some (.str y u) ∧ m (Str.ofString "endpos") = some (.int b₀ t₁) ∧ runS y b₀ a₀ ws = runS y b₀ a' (ws.drop i)) hh hm F N ⟨a₀, t₀, hst, hg, hen, by simp⟩ ?_ ?_
  · rintro i v m₁ h tk own hi ⟨a, ta, h1, h2, h3, h4⟩ F₁ N₁
    obtain ⟨wi, ti, rfl, hw⟩ := strsAre_get hv hi
    rw [drop_of_get hw] at h4
    refine turn a ta wi ti _ m₁ h tk own h4 (hb _ (List.mem_of_getElem? hw)) (fr_map F₁ ?_) N₁
    funext z
    by_cases e0 : z = Str.ofString "w"
    · simp [e0]
    · by_cases e1 : z = Str.ofString "startpos"
      · subst e1; simp only [if_neg e0, if_true]; exact h1
      · by_cases e2 : z = Str.ofString "endpos"
        · subst e2; simp only [if_neg e0, if_neg e1, if_true]; exact h3
        · by_cases e3 : z = Str.ofString "got"
          · subst e3; simp only [if_neg e0, if_neg e1, if_neg e2, if_true]; exact h2
          · simp only [if_neg e0, if_neg e1, if_neg e2, if_neg e3]
  · rintro m₁ h tk ⟨a, ta, h1, h2, h3, h4⟩ F₁ N₁
    refine done m₁ h tk ?_ F₁ N₁
    rw [h4, strsAre_len hv, List.drop_length]; rfl
end
theorem snoc_areE {us : List Value} {ws : List Str} {x : Str} {t : Tok} (h : StrsAre us ws) : StrsAre (us ++ [.str x t]) (ws ++ [x]) := by
  induction h with
  | nil => exact .cons _ _ .nil
  | cons y u _ ih => exact .cons y u ih
theorem parts_short {x y a z : Str} {mid : List Str} (h : Txt.split x y = a :: (mid ++ [z])) : a.length ≤ x.length ∧ z.length ≤ x.length ∧ ∀ v ∈ mid, v.length ≤ x.length :=
  ⟨part_short (y := y) (by rw [h]; simp), part_short (y := y) (by rw [h]; simp), fun v hv => part_short (y := y) (by rw [h]; simp [hv])⟩
section
variable {prog : Program} {w : World} {A : Around} {E : Value → Shared → Prop} {s : Shared} {h₀ : Heap} {L : Addr} {m : Str → Option Value} {news : Led} {u : Tok} {Q : Value → Shared → Prop}
theorem r_last2 {value slice : PySem.Expr} {B : Addr} {a z : Value} {r : List Value} {n : Nat} (N : News h₀ L s.heap news) (hm : (B, lst (a :: (r ++ [z])) n) ∈ news) (h : Q z s)
    (hs : subscripted slice false (.ref B) (.int (-1) u) = operate [.ref B, .int (-1) u] (getItem (.ref B) (.int (-1) u)) := by with_unfolding_all rfl) :
    wpAny (model prog w) A (subscriptTail value slice (.ref B) (.int (-1) u)) Q E s := r_last (r := a :: r) N hm h hs
theorem r_delL2 {B : Addr} {a z : Value} {r : List Value} {n : Nat} {q : Addr × Obj} {post : Led} {Q : Unit → Shared → Prop} (F : Fr h₀ L s.heap m) (N : News h₀ L s.heap (q :: (B, lst (a :: (r ++ [z])) n) :: post)) (h1 : B < q.1) (h2 : ∀ p ∈ post, p.1 < B)
    (hsz : r.length ≤ 100000)
    (h : ∀ h', Fr h₀ L h' m → News h₀ L h' (q :: (B, lst (a :: r) (n + 1)) :: post) → Q () { s with heap := h' }) : wpAny (model prog w) A (delItem (.ref B) (.int (-1) u)) Q E s :=
  r_delL (r := a :: r) F N h1 h2 (by simp only [List.length_cons]; omega) h
end
section
variable {prog : Program} {w : World} {A : Around} {E : Value → Shared → Prop} {s : Shared} {h₀ : Heap} {L : Addr} {m : Str → Option Value} {news : Led} {u : Tok} {k : Int} {Q : Value → Shared → Prop}
theorem i_first {value slice : PySem.Expr} {B : Addr} {a : Value} {r : List Value} {n : Nat} (N : News h₀ L s.heap news) (hm : (B, lst (a :: r) n) ∈ news) (hk : k = 0) (h : Q a s)
    (hs : subscripted slice false (.ref B) (.int k u) = operate [.ref B, .int k u] (getItem (.ref B) (.int k u))) :
    wpAny (model prog w) A (subscriptTail value slice (.ref B) (.int k u)) Q E s := by subst hk; exact r_first N hm h hs
theorem i_last {value slice : PySem.Expr} {B : Addr} {z : Value} {r : List Value} {n : Nat} (N : News h₀ L s.heap news) (hm : (B, lst (r ++ [z]) n) ∈ news) (hk : k = -1) (h : Q z s)
    (hs : subscripted slice false (.ref B) (.int k u) = operate [.ref B, .int k u] (getItem (.ref B) (.int k u))) :
    wpAny (model prog w) A (subscriptTail value slice (.ref B) (.int k u)) Q E s := by subst hk; exact r_last N hm h hs
theorem i_last2 {value slice : PySem.Expr} {B : Addr} {a z : Value} {r : List Value} {n : Nat} (N : News h₀ L s.heap news) (hm : (B, lst (a :: (r ++ [z])) n) ∈ news) (hk : k = -1) (h : Q z s)
    (hs : subscripted slice false (.ref B) (.int k u) = operate [.ref B, .int k u] (getItem (.ref B) (.int k u))) :
    wpAny (model prog w) A (subscriptTail value slice (.ref B) (.int k u)) Q E s := by subst hk; exact r_last2 N hm h hs
end
section
variable {prog : Program} {w : World} {A : Around} {E : Value → Shared → Prop} {s : Shared} {h₀ : Heap} {L : Addr} {m : Str → Option Value} {news : Led} {u : Tok} {k : Int} {Q : Unit → Shared → Prop} {B : Addr} {a z : Value} {r : List Value} {n : Nat} {q : Addr × Obj} {post : Led}
theorem i_del0 (F : Fr h₀ L s.heap m) (N : News h₀ L s.heap (q :: (B, lst (a :: r) n) :: post)) (hk : k = 0) (h1 : B < q.1) (h2 : ∀ p ∈ post, p.1 < B) (hsz : r.length ≤ 1000000)
    (h : ∀ h', Fr h₀ L h' m → News h₀ L h' (q :: (B, lst r (n + 1)) :: post) → Q () { s with heap := h' }) : wpAny (model prog w) A (delItem (.ref B) (.int k u)) Q E s := by subst hk; exact r_del0 F N h1 h2 hsz h
theorem i_delL (F : Fr h₀ L s.heap m) (N : News h₀ L s.heap (q :: (B, lst (r ++ [z]) n) :: post)) (hk : k = -1) (h1 : B < q.1) (h2 : ∀ p ∈ post, p.1 < B) (hsz : r.length ≤ 1000000)
    (h : ∀ h', Fr h₀ L h' m → News h₀ L h' (q :: (B, lst r (n + 1)) :: post) → Q () { s with heap := h' }) : wpAny (model prog w) A (delItem (.ref B) (.int k u)) Q E s := by subst hk; exact r_delL F N h1 h2 hsz h
theorem i_delL2 (F : Fr h₀ L s.heap m) (N : News h₀ L s.heap (q :: (B, lst (a :: (r ++ [z])) n) :: post)) (hk : k = -1) (h1 : B < q.1) (h2 : ∀ p ∈ post, p.1 < B) (hsz : r.length ≤ 100000)
    (h : ∀ h', Fr h₀ L h' m → News h₀ L h' (q :: (B, lst (a :: r) (n + 1)) :: post) → Q () { s with heap := h' }) : wpAny (model prog w) A (delItem (.ref B) (.int k u)) Q E s := by subst hk; exact r_delL2 F N h1 h2 hsz h
end
theorem parts_few {x a z : Str} {mid : List Str} (h : Txt.split x (Str.ofString "...") = a :: (mid ++ [z])) : mid.length + 1 ≤ x.length := by
  have h1 := split_le (x := x) (y := Str.ofString "...") (by decide +kernel)
  rw [h] at h1
  simp only [List.length_cons, List.length_append, List.length_nil] at h1
  omega
local macro_rules | `(tactic| walk_at "truthy str") => `(tactic| (refine SBL.truthy (by omega) ?_))
local macro_rules | `(tactic| walk_at "call builtin:str.split") => `(tactic| ((with_reducible rename Fr _ _ _ _ => F'); (with_reducible rename News _ _ _ _ => N'); refine r_split F' N' (by rfl) (split_two (by assumption)) (by rw [sizeLine_eq]; omega) ?_; clear F' N'; intro B' a' ta' vm' mid' z' tz' h' k' hsp' hvm' hlt' F' N'; (have hln' := strsAre_len hvm'); (have hsl' := parts_few hsp'); (have hsh' := parts_short hsp'); (obtain ⟨hsa', hsz', hsm'⟩ := hsh')))
local macro_rules | `(tactic| walk_at "call builtin:len") => `(tactic| ((with_reducible show wpAny _ _ (call (Value.builtin _) [Value.ref _]) _ _ _); refine r_len (by assumption) (by k_mem) (by omega) ?_))
local macro_rules | `(tactic| walk_at "subscriptTail") => `(tactic| ((with_reducible show wpAny _ _ (subscriptTail _ _ (Value.ref _) (Value.int _ _)) _ _ _); (with_reducible rename News _ _ _ _ => N'); first | (refine' i_first N' ?k2 ?k4 ?_ ?k3; (case k2 => (repeat (first | exact List.Mem.head _ | apply List.Mem.tail))); (case k4 => rfl); (case k3 => with_unfolding_all rfl)) | (refine' i_last N' ?k2 ?k4 ?_ ?k3; (case k2 => (repeat (first | exact List.Mem.head _ | apply List.Mem.tail))); (case k4 => rfl); (case k3 => with_unfolding_all rfl)) | (refine' i_last2 N' ?k2 ?k4 ?_ ?k3; (case k2 => (repeat (first | exact List.Mem.head _ | apply List.Mem.tail))); (case k4 => rfl); (case k3 => with_unfolding_all rfl))))
local macro_rules | `(tactic| walk_at "delItem ref int") => `(tactic| ((with_reducible rename Fr _ _ _ _ => F'); (with_reducible rename News _ _ _ _ => N'); first | (refine' i_del0 F' N' ?k0 ?k1 ?k2 ?k3 ?_; (case k0 => rfl); (case k1 => (refine ltN ?_; dsimp only; omega)); (case k2 => with_reducible assumption); (case k3 => (simp only [List.length_append, List.length_cons, List.length_nil]; omega)); clear F' N'; intro h' F' N') | (refine' i_delL F' N' ?k0 ?k1 ?k2 ?k3 ?_; (case k0 => rfl); (case k1 => (refine ltN ?_; dsimp only; omega)); (case k2 => with_reducible assumption); (case k3 => omega); clear F' N'; intro h' F' N') | (refine' i_delL2 F' N' ?k0 ?k1 ?k2 ?k3 ?_; (case k0 => rfl); (case k1 => (refine ltN ?_; dsimp only; omega)); (case k2 => with_reducible assumption); (case k3 => omega); clear F' N'; intro h' F' N')))
local macro_rules | `(tactic| walk_at "call builtin:str.find") => `(tactic| refine call_find4 ?_)
local macro_rules | `(tactic| walk_at "exec For Name Name cons nil") => `(tactic| (k_here; (rename Fr _ _ _ _ => lF'); (with_unfolding_all refine' For_invVF lF' ?k1 ?k2 ?_; (case k1 => exact rfl); (case k2 => exact rfl); k_whole)))
local macro_rules | `(tactic| walk_at "pyIter ref") => `(tactic| (refine hold ?_))
def ellL (ws : List Str) (y : Str) : Bool := ellW (ws.headD Str.empty) ws.tail.dropLast (ws.getLastD Str.empty) y
/-- what _ellipsis_match says of x and y -/
def ellS (x y : Str) : Bool := if (occurrences x (Str.ofString "...") 0 x.length 1).isEmpty = true then x == y else ellL (Txt.split x (Str.ofString "...")) y
theorem ellS_not {x y : Str} (h : (occurrences x (Str.ofString "...") 0 x.length 1).isEmpty = true) : ellS x y = (x == y) := by unfold ellS; rw [if_pos h]
theorem ellS_two {x y a z : Str} {mid : List Str} (h : (occurrences x (Str.ofString "...") 0 x.length 1).isEmpty = false) (e : Txt.split x (Str.ofString "...") = a :: (mid ++ [z])) : ellS x y = ellW a mid z y := by
  unfold ellS
  rw [if_neg (by rw [h]; decide), e]
  unfold ellL
  congr 1
  · simp
  · rw [show a :: (mid ++ [z]) = (a :: mid) ++ [z] from rfl, List.getLastD_concat]
theorem drop_news2 {h₀ h : Heap} {L : Addr} {own news : Led} {p q : Addr × Obj} (N : News h₀ L h (own ++ (p :: q :: news))) : News h₀ L h ([] ++ news) := fun x hx => N x (List.mem_append_right _ (.tail _ (.tail _ hx)))
theorem run_on {y v : Str} {ws rest : List Str} {a a₀ b : Int} (h : runS y b a₀ ws = runS y b a (v :: rest)) (hn : ¬ find4 y v a b < 0) : runS y b a₀ ws = runS y b (find4 y v a b + v.length) rest := by
  rw [h]; show (if _ then _ else _) = _; rw [if_neg hn]
theorem run_off {y v : Str} {ws rest : List Str} {a a₀ b : Int} (h : runS y b a₀ ws = runS y b a (v :: rest)) (hn : find4 y v a b < 0) : runS y b a₀ ws = false := by
  rw [h]; show (if _ then _ else _) = _; rw [if_pos hn]
theorem drop_news {h₀ h : Heap} {L : Addr} {tl news : Led} (N : News h₀ L h (tl ++ news)) : News h₀ L h ([] ++ news) := fun p hp => N p (List.mem_append_right _ hp)
theorem ell (w : World) (x y : Str) (t u : Tok) (hx : x.length ≤ 100000) (hy : y.length ≤ 100000) : Con w 21 [.str x t, .str y u] (fun _ => True) (fun _ r => r = .bool (ellS x y)) := by
  unfold Con
  k_fill
  intro loose mean mg mb dp un gd cn cs a ccd cl outer A₀ base h₀ L m news s Q E B F X N T hk hpre hd hu hret
  refine wpAny_call ?_
  k_dflt ktr_enter
  rename Fr _ _ _ (fun y => _) => F0
  have F1 := fr_map (m' := fun y' => List.lookup y' [(Str.ofString "got", Value.str y u), (Str.ofString "want", Value.str x t)]) F0 (by with_unfolding_all rfl)
  clear F0
  repeat' (first | (k_unfold; (try dsimp only)) | (k_end; wrow_close) | walk1 | (dsimp only; walk1) | (leave1; walk_say "STEP leave1"; try dsimp only) | (dsimp only; k_unfold; try dsimp only) | fail "no step")
  all_goals try (
    unfold Hold
    (rename Fr _ _ _ _ => lF')
    (rename News _ _ _ _ => lN')
    (with_unfolding_all refine' ell_loop (nb := 100000) (by rfl) lF' lN' ?k1 ?k2 ?k3 ?k4 ?k5 ?k6 (fun ea' eta' ewi' eti' erest' em' h' tk' own' hrun' hmem' F' N' => ?_) (fun m' h' tk' hrun' F' N' => ?_))
    (case k1 => k_mem)
    (case k2 => with_reducible first | (with_reducible rename StrsAre _ _ => hz'; exact hz') | (with_reducible rename StrsAre _ _ => hz'; exact StrsAre.cons _ _ hz') | (with_reducible rename StrsAre _ _ => hz'; exact snoc_areE hz') | (with_reducible rename StrsAre _ _ => hz'; exact StrsAre.cons _ _ (snoc_areE hz')))
    (case k3 => with_unfolding_all rfl)
    (case k4 => with_unfolding_all rfl)
    (case k5 => with_unfolding_all rfl)
    (case k6 => (intro v hv; (try simp only [List.mem_cons, List.mem_append, List.not_mem_nil, or_false] at hv); first | (rename (∀ v ∈ _, Str.length v ≤ _) => hq; have hq2 := hq v hv; omega) | (rcases hv with hv | hv <;> first | (subst hv; omega) | (rename (∀ v ∈ _, Str.length v ≤ _) => hq; have hq2 := hq v hv; omega)) | (rcases hv with hv | hv | hv <;> first | (subst hv; omega) | (rename (∀ v ∈ _, Str.length v ≤ _) => hq; have hq2 := hq v hv; omega))))
    (all_goals (try clear lF' lN'))
    (all_goals (try k_fold)))
  repeat' (first | (k_unfold; (try dsimp only)) | (k_end; wrow_close) | walk1 | (dsimp only; walk1) | (leave1; walk_say "STEP leave1"; try dsimp only) | (dsimp only; k_unfold; try dsimp only) | fail "no step")
  all_goals first
    | (refine hret _ [] _ _ (by assumption) (drop_news (tl := [_, _]) (by assumption)) (fun _ h => nomatch h) ?_; refine congrArg Value.bool ?_; rw [ellS_two (by assumption) (by assumption)]; simp_all [ellW, ellTail, runS]; done)
    | (refine hret _ [] _ _ (by assumption) (by assumption) (fun _ h => nomatch h) ?_; refine congrArg Value.bool ?_; rw [ellS_not (by assumption)]; done)
    | (refine hret _ [] _ _ (by assumption) (drop_news2 (by assumption)) (fun _ h => nomatch h) ?_; refine congrArg Value.bool ?_; rw [ellS_two (by assumption) (by assumption)]; (have hoff := run_off (by assumption) (by omega)); simp_all [ellW, ellTail]; done)
    | (refine InvEnd.intro (by assumption) (by assumption) (fun p hp => hp) ⟨_, _, by with_unfolding_all rfl, by with_unfolding_all rfl, by with_unfolding_all rfl, run_on (by assumption) (by omega)⟩)
    | fail "an end"
end Mine
end
section
open PySem PySem.W PyProof.Rows PySem.Spec PySem.Calls PySem.Builtin PySem.Builtin.Str
set_option maxHeartbeats 6000000
namespace Mine
local macro_rules | `(tactic| walk_at "pyIter ref") => `(tactic| (refine hold ?_))
local macro_rules | `(tactic| walk_at "exec While BoolOp cons nil") => `(tactic| (refine hold ?_))
local macro_rules | `(tactic| k_in) => `(tactic| first | exact fun _ h => h | exact fun _ h => List.mem_append_left _ h)
local macro_rules | `(tactic| k_units) => `(tactic| ((try simp only [units_in1, units_deeper]); (try dsimp only [ktrTop]); (have hcL9 := cLine_is); omega))
local macro_rules | `(tactic| walk_at "call builtin:len") => `(tactic| ((with_reducible show wpAny _ _ (call (Value.builtin _) [Value.ref _]) _ _ _); (with_reducible rename News _ _ _ _ => N'); refine' r_lenP ?k1 ?k2 N' ?k3 ?_; (case k1 => with_reducible assumption); (case k2 => k_in); (case k3 => omega); (try dsimp only)))
local macro_rules | `(tactic| walk_at "subscriptTail") => `(tactic| ((with_reducible show wpAny _ _ (subscriptTail _ _ (Value.ref _) (Value.int _ _)) _ _ _); (with_reducible rename News _ _ _ _ => N'); (first
  | refine r_fst (by with_reducible assumption) (by k_in) N' rfl (by with_unfolding_all rfl) (fun _ => ?_)
  | refine r_snd (by with_reducible assumption) (by k_in) N' rfl (by with_unfolding_all rfl) ?_
  | refine r_pair (i := 0) N' (by with_reducible assumption) (by k_in) rfl (by omega) (by decide) (by with_unfolding_all rfl) (fun _ hq' => ?_)
  | refine r_pairL N' (by with_reducible assumption) (by k_in) rfl (by omega) (by with_unfolding_all rfl) (fun _ hq' => ?_)
  | refine r_pair N' (by with_reducible assumption) (by k_in) rfl (by omega) (by omega) (by with_unfolding_all rfl) (fun _ hq' => ?_)); (try dsimp only)))
local macro_rules | `(tactic| walk_at "compareOp Eq ref ref") => `(tactic| ((with_reducible rename News _ _ _ _ => N'); refine r_eqP N' (by with_reducible assumption) (by k_in) (by with_reducible assumption) (by k_in) (by k_units) ?_; (try dsimp only)))
local macro_rules | `(tactic| walk_at "compareOp NotEq ref ref") => `(tactic| ((with_reducible rename News _ _ _ _ => N'); refine r_neP N' (by with_reducible assumption) (by k_in) (by with_reducible assumption) (by k_in) (by k_units) ?_; (try dsimp only)))
def rmf (seen : List Part) (M i : Nat) : Part := if i = seen.length - 1 then ((pt seen i).1 - M, (pt seen i).2) else pt seen i
theorem rooms_len (seen : List Part) (M : Nat) (h : 1 ≤ seen.length) : (rooms seen M).length = seen.length := by unfold rooms; simp; omega
theorem rooms_drop {seen : List Part} {M i : Nat} (hi : i < seen.length) : (rooms seen M).drop i = rmf seen M i :: (rooms seen M).drop (i + 1) := by
  have hl := rooms_len seen M (by omega)
  rw [List.drop_eq_getElem_cons (by omega)]
  congr 1
  unfold rmf rooms
  by_cases h : i = seen.length - 1
  · rw [if_pos h, List.getElem_append_right (by simp; omega)]
    simp [h]
  · rw [if_neg h, List.getElem_append_left (by simp; omega), pt_eq hi]
    simp
theorem asked_drop {asked : List Part} {T : Nat} (h : T < asked.length - 1) : asked.dropLast.drop T = pt asked T :: asked.dropLast.drop (T + 1) := by
  rw [List.drop_eq_getElem_cons (by simp; omega), pt_eq (by omega)]
  simp
theorem fillI_yes {r : Int} {sh : Bool} {p : Part} {as : List Part} (h : (p.1 : Int) ≤ r) (h2 : sh = true ∨ p.2 = false) : fillI r sh (p :: as) = fillI (if p.2 = true then -1 else r - p.1) sh as := by
  obtain ⟨n, b⟩ := p
  conv => lhs; unfold fillI
  rw [if_pos ⟨h, h2⟩]
theorem fillI_no {r : Int} {sh : Bool} {p : Part} {as : List Part} (h : ¬ ((p.1 : Int) ≤ r ∧ (sh = true ∨ p.2 = false))) : fillI r sh (p :: as) = p :: as := by
  obtain ⟨n, b⟩ := p
  conv => lhs; unfold fillI
  rw [if_neg h]
theorem dealt_turn {asked seen : List Part} {M i T T' : Nat} {room : Int} (hi : i < seen.length) (h : deal ((rooms seen M).drop i) (asked.dropLast.drop T) = deal (rooms seen M) asked.dropLast)
    (hf : fillI room (pt seen i).2 (asked.dropLast.drop T') = fill (rmf seen M i).1 (rmf seen M i).2 (asked.dropLast.drop T)) (hs : fillI room (pt seen i).2 (asked.dropLast.drop T') = asked.dropLast.drop T') :
    deal ((rooms seen M).drop (i + 1)) (asked.dropLast.drop T') = deal (rooms seen M) asked.dropLast := by
  rw [← h, rooms_drop hi, ← hs, hf]
  rfl
theorem dealt_end {asked seen : List Part} {M T : Nat} (hs : 1 ≤ seen.length) (ha : 1 ≤ asked.length) (hT : T ≤ asked.length - 1) (h : deal ((rooms seen M).drop seen.length) (asked.dropLast.drop T) = deal (rooms seen M) asked.dropLast) :
    ((T : Int) == (asked.length : Int) - 1) = deal (rooms seen M) asked.dropLast := by
  rw [← h, List.drop_of_length_le (by rw [rooms_len _ _ hs]; omega)]
  show _ = (asked.dropLast.drop T).isEmpty
  rw [Bool.eq_iff_iff]
  simp only [beq_iff_eq, List.isEmpty_iff, List.drop_eq_nil_iff, List.length_dropLast]
  omega
theorem rmf_last {seen : List Part} {M i : Nat} (h : i = seen.length - 1) (hM : M ≤ (pt seen i).1) (l : List Part) : fillI (((pt seen i).1 : Int) - (M : Int)) (pt seen i).2 l = fill (rmf seen M i).1 (rmf seen M i).2 l := by
  unfold rmf
  rw [if_pos h, ← fillI_eq]
  congr 1
  show _ = (((pt seen i).1 - M : Nat) : Int)
  omega
theorem rmf_not {seen : List Part} {M i : Nat} (h : i ≠ seen.length - 1) (l : List Part) : fillI ((pt seen i).1 : Int) (pt seen i).2 l = fill (rmf seen M i).1 (rmf seen M i).2 l := by
  unfold rmf
  rw [if_neg h, ← fillI_eq]
theorem dealt (w : World) (a b : Addr) (asked seen : List Part) (ha : 1 ≤ asked.length ∧ asked.length ≤ 5000) (hb : 1 ≤ seen.length ∧ seen.length ≤ 5000) :
    Con w 93 [.ref a, .ref b] (fun news => PairsIn news a asked ∧ PairsIn news b seen) (fun _ v => v = .bool (dealtS asked seen)) := by
  unfold Con
  k_fill
  intro loose mean mg mb dp un gd cn cs ad ccd cl outer A₀ base h₀ L m news s Q E B F X N T hk hpre hd hu hret
  obtain ⟨hPa, hPb⟩ := hpre
  refine wpAny_call ?_
  k_dflt ktr_enter
  rename Fr _ _ _ (fun y => _) => F0
  have F1 := fr_map (m' := fun y' => List.lookup y' [(Str.ofString "seen", Value.ref b), (Str.ofString "asked", Value.ref a)]) F0 (by with_unfolding_all rfl)
  clear F0
  k_steps
  · refine hret _ [] _ _ (by assumption) (by assumption) (fun _ h => nomatch h) ?_
    unfold dealtS; rw [if_pos (by omega)]
  · refine hret _ [] _ _ (by assumption) (by assumption) (fun _ h => nomatch h) ?_
    unfold dealtS; rw [if_neg (by omega), if_pos (by omega)]
  · refine hret _ [] _ _ (by assumption) (by assumption) (fun _ h => nomatch h) ?_
    unfold dealtS; rw [if_neg (by omega), if_neg (by omega), if_pos (by omega)]
  rotate_left 1
  · refine hret _ [] _ _ (by assumption) (by assumption) (fun _ h => nomatch h) ?_
    unfold dealtS; rw [if_neg (by omega), if_neg (by omega), if_neg (by omega), if_pos ⟨by assumption, by assumption⟩]
  all_goals (
    have hds : dealtS asked seen = deal (rooms seen (pt asked (asked.length - 1)).1) asked.dropLast := by
      unfold dealtS; rw [if_neg (by omega), if_neg (by omega), if_neg (by omega), if_neg (by simp_all)]
    (rename IsRange _ _ _ _ _ _ _ _ => R9)
    (rename Fr _ _ _ _ => F9)
    (rename News _ _ _ _ => N9)
    unfold Hold
    refine' for_rangeP (σ := Nat × Tok) (n := seen.length) (fun c => [(Str.ofString "taken", Value.int (c.1 : Int) c.2), (Str.ofString "seen", Value.ref b), (Str.ofString "asked", Value.ref a)]) (fun _ => [])
      (fun i c => c.1 ≤ asked.length - 1 ∧ deal ((rooms seen (pt asked (asked.length - 1)).1).drop i) (asked.dropLast.drop c.1) = deal (rooms seen (pt asked (asked.length - 1)).1) asked.dropLast) (0, _) (by rfl) R9 ?k1 ?k2 F9 N9 ⟨by omega, by simp⟩ ?k3 ?_ ?_
    (case k3 => (intro p hp; simp only [List.mem_cons, List.not_mem_nil, or_false] at hp; rcases hp with rfl | rfl | rfl <;> with_unfolding_all rfl))
    (case k1 => exact small_one (by decide) (by omega) (by omega) (by omega))
    (case k2 => exact rangeSize_nat _ _)
    · rintro i' ⟨T', tT'⟩ t' m' h' tk' own' hi' ⟨hT', hP'⟩ hoff' F' N'
      simp only [Int.zero_add, List.nil_append] at F' N'
      clear F9 N9 R9
      (try k_fold)
      k_steps
      all_goals (
        (rename Fr _ _ _ _ => F9)
        (rename News _ _ _ _ => N9)
        unfold Hold
        refine' while_P (σ := Int × Tok × Nat × Tok) (news := news ++ own') (fun c => [(Str.ofString "room", Value.int c.1 c.2.1), (Str.ofString "taken", Value.int (c.2.2.1 : Int) c.2.2.2), (Str.ofString "j", Value.int (i' : Int) t'), (Str.ofString "seen", Value.ref b), (Str.ofString "asked", Value.ref a)]) (fun _ => [])
          (fun c => c.2.2.1 ≤ asked.length - 1 ∧ fillI c.1 (pt seen i').2 (asked.dropLast.drop c.2.2.1) = fill (rmf seen (pt asked (asked.length - 1)).1 i').1 (rmf seen (pt asked (asked.length - 1)).1 i').2 (asked.dropLast.drop T')) (fun c => asked.length - 1 - c.2.2.1) (_, _, T', tT') F9 N9 ⟨hT', ?k4⟩ ?k3 ?_
        (case k3 => (intro p hp; simp only [List.mem_cons, List.not_mem_nil, or_false] at hp; rcases hp with rfl | rfl | rfl | rfl | rfl <;> with_unfolding_all rfl))
        (case k4 => first | exact rmf_last (by omega) (by have hq : i' = seen.length - 1 := by omega
                                                          rw [hq]; omega) _ | exact rmf_not (by omega) _)
        rintro ⟨r9, tr9, T9, tT9⟩ m9 h9 tk9 ⟨hT9, hP9⟩ F8 N8
        dsimp only at hT9 hP9 F8
        simp only [List.nil_append] at N8
        clear F9 N9 F'
        (try k_fold)
        k_steps)
      all_goals first
        | (refine g_end (σ := Nat × Tok) (T9, tT9) (by assumption) (by assumption) (fun p hp => List.mem_append_left _ hp) (fun p hp => List.mem_append_right _ hp) hoff' ?_ ⟨hT9, dealt_turn hi' hP' hP9 ?_⟩
           · (intro p hp; simp only [List.mem_cons, List.not_mem_nil, or_false] at hp; rcases hp with rfl | rfl | rfl <;> with_unfolding_all rfl)
           · first
             | (rw [List.drop_of_length_le (by rw [List.length_dropLast]; omega)]; rfl)
             | (rw [asked_drop (by omega)]; refine fillI_no ?_; rintro ⟨h1, h2⟩; first | omega | simp_all))
        | (refine' w_end (σ := Int × Tok × Nat × Tok) (-1, _, T9 + 1, _) (by assumption) (by assumption) (fun p hp => hp) ?k5 ⟨by dsimp only; omega, ?k6⟩ (by dsimp only; omega)
           case k5 => (intro p hp; simp only [List.mem_cons, List.not_mem_nil, or_false] at hp; rcases hp with rfl | rfl | rfl | rfl | rfl <;> with_unfolding_all rfl)
           case k6 => (dsimp only; rw [← hP9, asked_drop (T := T9) (by omega), fillI_yes (by assumption) (by simp_all), if_pos (by assumption)]))
        | (refine' w_end (σ := Int × Tok × Nat × Tok) (r9 - ((pt asked T9).1 : Int), _, T9 + 1, _) (by assumption) (by assumption) (fun p hp => hp) ?k5 ⟨by dsimp only; omega, ?k6⟩ (by dsimp only; omega)
           case k5 => (intro p hp; simp only [List.mem_cons, List.not_mem_nil, or_false] at hp; rcases hp with rfl | rfl | rfl | rfl | rfl <;> with_unfolding_all rfl)
           case k6 => (dsimp only; rw [← hP9, asked_drop (T := T9) (by omega), fillI_yes (by assumption) (by simp_all), if_neg (by simp_all)]))
        | fail "an end"
    · rintro ⟨T', tT'⟩ m' h' tk' ⟨hT', hP'⟩ F' N'
      simp only [List.nil_append] at N'
      clear F9 N9 R9
      (try k_fold)
      k_steps
      refine hret _ [] _ _ (by assumption) (by assumption) (fun _ h => nomatch h) ?_
      rw [hds, ← dealt_end hb.1 ha.1 hT' hP'])
end Mine
end
section
open PySem PySem.W PyProof.Rows PySem.Spec PySem.Calls PySem.Builtin PySem.Builtin.Str
set_option maxHeartbeats 1000000
namespace Mine
def ConN (w : World) (f : Addr) (args : List Value) (Pre : Led → Prop) (Post : Led → Value → Prop) : Prop :=
  ∀ (loose : List Str) (mean : ExcName → Option Value) (mg mb : Str → Option Value) (dp un : Nat) (gd : Option (List Code)) (cn : Str) (cs : Scope) (a : Addr) (ccd : Value) (cl : List (Str × Addr)) (outer : List Env) (A₀ : Around) (base h₀ : Heap) (L : Addr) (m : Str → Option Value) (news : Led) (s : Shared)
    (Q E : Value → Shared → Prop),
    Below A₀ base outer h₀ → Fr h₀ L s.heap m → (Mine.heap w.params).In h₀ → News h₀ L s.heap news → Top Mine.view loose mean mg mb h₀ → cs.kind = .function → Pre news → dp + 6 < recursionLimit → un + 200 < cLine →
    (∀ r tl h' tk', Fr h₀ L h' m → News h₀ L h' (tl ++ news) → (∀ p ∈ tl, ∀ q ∈ news, q.1 < p.1) → Post tl r → Q r { s with heap := h', toks := tk' }) →
    wpAny (model PySem.Challenge.rw_re0098_01.row.prog w) (ktrTop dp un gd cn cs L a ccd cl outer) (call (.ref f) args) Q E s
def natInts (rows : List Nat) : List Int := rows.map fun (k : Nat) => (k : Int)
def RowsIn (news : Led) (r : Addr) (rows : List Nat) : Prop := ∃ vs n, (r, lst vs n) ∈ news ∧ IntsAre vs (natInts rows)
section
variable {prog : Program} {w : World} {A : Around} {E : Value → Shared → Prop} {s : Shared} {env : Env} {h₀ : Heap} {body : List Stmt} {Q : Flow → Shared → Prop}
/-- a loop over a list of ints of the ledger that grows one list D of the ledger -/
theorem of_allLt {d : Nat} {l : Led} : AllLt d l → ∀ p ∈ l, @LT.lt Nat _ p.1 d := by
  induction l with
  | nil => intro _ p hp; cases hp
  | cons q r ih =>
    intro h p hp
    obtain ⟨h1, h2⟩ : @LT.lt Nat _ q.1 d ∧ AllLt d r := h
    rcases List.mem_cons.mp hp with rfl | hp
    · exact h1
    · exact ih h2 p hp
theorem iter_grow {x : Str} {r D : Addr} {vs cur₀ : List Value} {rows : List Nat} {n k₀ : Nat} {m₀ : Str → Option Value} {news : Led} (ps : List (Str × Value)) (G : List Nat → List Dat)
    (hh : A.handled = none) (F : Fr h₀ env.locals s.heap m₀) (N : News h₀ env.locals s.heap ((D, lst cur₀ k₀) :: news)) (hm : (r, lst vs n) ∈ news) (hv : IntsAre vs (natInts rows)) (hD : ∀ p ∈ news, p.1 < D) (h0 : DatAll [] cur₀ (G [])) (hk : ∀ p ∈ ps, m₀ p.1 = some p.2)
    (turn : ∀ i k t pre cur kk tl (m₁ : Str → Option Value) h tk own, rows[i]? = some k → pre = rows.take i → DatAll tl cur (G pre) → (∀ p ∈ tl ++ (news ++ own), p.1 ≠ D) → (∀ p ∈ tl, ∀ q ∈ news, q.1 < p.1) → (∀ p ∈ own, ∀ q ∈ tl ++ news, q.1 ≠ p.1) →
      Fr h₀ env.locals h (fun y => if y = x then some (.int (k : Int) t) else (List.lookup y ps).or (m₁ y)) → News h₀ env.locals h ((D, lst cur kk) :: (tl ++ (news ++ own))) →
      wpAny (model prog w) A (execs body env) (InvPostG h₀ env.locals (fun m' nx => (r, lst vs n) ∈ nx ∧ ((∀ p ∈ ps, m' p.1 = some p.2) ∧ ∃ cur' kk' tl', nx = (D, lst cur' kk') :: (tl' ++ news) ∧ (∀ p ∈ tl' ++ news, p.1 ≠ D) ∧ (∀ p ∈ tl', ∀ q ∈ news, q.1 < p.1) ∧ DatAll tl' cur' (G (pre ++ [k])))) own { s with heap := h, toks := tk } Q) E { s with heap := h, toks := tk })
    (done : ∀ cur kk tl (m₁ : Str → Option Value) h tk, DatAll tl cur (G rows) → (∀ p ∈ tl, ∀ q ∈ news, q.1 < p.1) → (∀ p ∈ tl ++ news, p.1 ≠ D) → Fr h₀ env.locals h (fun y => (List.lookup y ps).or (m₁ y)) → News h₀ env.locals h ((D, lst cur kk) :: (tl ++ news)) → Q .next { s with heap := h, toks := tk }) :
    wpAny (model prog w) A (pyIter (.ref r)) (fun it s₂ => LoopAtV prog w A h₀ env x body Q E it s₂) E s := by
  have hlen : vs.length = rows.length := by rw [hv.length]; simp [natInts]
  refine kdl_iter (news := (D, lst cur₀ k₀) :: news) (fun i m nx => (∀ p ∈ ps, m p.1 = some p.2) ∧ ∃ cur kk tl, nx = (D, lst cur kk) :: (tl ++ news) ∧ (∀ p ∈ tl ++ news, p.1 ≠ D) ∧ (∀ p ∈ tl, ∀ q ∈ news, q.1 < p.1) ∧ DatAll tl cur (G (rows.take i))) hh (.tail _ hm) F N
    ⟨hk, cur₀, k₀, [], rfl, fun p hp => Nat.ne_of_lt (hD p hp), (fun p hp => nomatch hp), h0⟩ ?_ ?_
  · rintro i v m₁ nx h tk own hi hoff _ ⟨hkm, cur, kk, tl, rfl, hne, hlt, hd⟩ F₁ N₁
    have hi' : i < rows.length := by rw [← hlen]; exact (List.getElem?_eq_some_iff.mp hi).1
    obtain ⟨t, hx⟩ := hv.get i ((rows[i] : Nat) : Int) (by unfold natInts; rw [List.getElem?_map, List.getElem?_eq_getElem hi']; rfl)
    rw [hi] at hx
    obtain rfl := Option.some.inj hx
    have hs : rows.take (i + 1) = rows.take i ++ [rows[i]] := by rw [List.take_add_one, List.getElem?_eq_getElem hi']; rfl
    rw [hs]
    have hoD : ∀ p ∈ own, p.1 ≠ D := fun p hp => hoff p hp D (by simp)
    refine turn i rows[i] t _ cur kk tl m₁ h tk own (List.getElem?_eq_getElem hi') rfl hd ?_ hlt ?_ (fr_map F₁ ?_) ?_
    · intro p hp
      rcases List.mem_append.mp hp with q | q
      · exact hne p (List.mem_append_left _ q)
      · rcases List.mem_append.mp q with q | q
        · exact hne p (List.mem_append_right _ q)
        · exact hoD p q
    · intro p hp q hq
      exact fun e => hoff p hp q.1 (by simp only [List.map_cons, List.mem_cons]; exact .inr (List.mem_map_of_mem hq)) e.symm
    · funext y
      by_cases e : y = x
      · simp only [if_pos e]
      · simp only [if_neg e]; exact congrFun (kept_map hkm) y
    · intro p hp
      exact N₁ p (by simpa [List.append_assoc] using hp)
  · rintro m₁ nx h tk ⟨hkm, cur, kk, tl, rfl, hne, hlt, hd⟩ F₁ N₁
    rw [hlen, List.take_length] at hd
    exact done cur kk tl m₁ h tk hd hlt hne (fr_map F₁ (kept_map hkm)) N₁
end
theorem partsOf_snoc (W : Nat) (pre : List Nat) (k : Nat) : partsOf W (pre ++ [k]) = partsOf W pre ++ partsRow W k := by
  unfold partsOf; rw [List.flatMap_append]; simp
theorem datAll_rep {news : Led} {v : Value} {d : Dat} (h : DatIn news v d) : ∀ b, DatAll news (List.replicate b v) (List.replicate b d)
  | 0 => .nil
  | b + 1 => by rw [List.replicate_succ, List.replicate_succ]; exact .cons h (datAll_rep h b)
theorem parts_turn {h₀ h : Heap} {L D D1 D2 r : Addr} {m' : Str → Option Value} {news tl own X Y : Led} {vs cur : List Value} {n kk k W : Nat} {t1 t2 : Tok} {pre : List Nat} {t : Tok} {s₁ : Shared} {tk : Nat} (hW : 4 ≤ W)
    (F : Fr h₀ L h m') (N : News h₀ L h (X ++ (D2, ({ cls := .type "tuple", data := .seq #[.int ((k : Int) - (breaksOf W k : Int) * ((W : Int) - 1)) t2, .bool false] } : Obj)) :: (Y ++ (D1, ({ cls := .type "tuple", data := .seq #[.int ((W : Int) - 1) t1, .bool true] } : Obj)) ::
      (D, lst (cur ++ (List.replicate (breaksOf W k) (.ref D1) ++ [.ref D2])) (kk + 1)) :: (tl ++ (news ++ own)))))
    (hm : (r, lst vs n) ∈ news) (hk : ∀ p ∈ [(Str.ofString "parts", Value.ref D), (Str.ofString "width", Value.int (W : Int) t)], m' p.1 = some p.2)
    (hd : DatAll tl cur ((partsOf W pre).map pd)) (hne : ∀ p ∈ tl ++ (news ++ own), p.1 ≠ D) (hlt : ∀ p ∈ tl, ∀ q ∈ news, q.1 < p.1) (hown : ∀ p ∈ own, ∀ q ∈ tl ++ news, q.1 ≠ p.1)
    (d1 : D < D1) (a1 : AllLt D1 (tl ++ (news ++ own))) (d2 : D < D2) (a2 : AllLt D2 (tl ++ (news ++ own))) :
    InvEndG h₀ L (fun m' nx => (r, lst vs n) ∈ nx ∧ ((∀ p ∈ [(Str.ofString "parts", Value.ref D), (Str.ofString "width", Value.int (W : Int) t)], m' p.1 = some p.2) ∧ ∃ cur' kk' tl', nx = (D, lst cur' kk') :: (tl' ++ news) ∧ (∀ p ∈ tl' ++ news, p.1 ≠ D) ∧ (∀ p ∈ tl', ∀ q ∈ news, q.1 < p.1) ∧ DatAll tl' cur' ((partsOf W (pre ++ [k])).map pd))) own s₁ { s₁ with heap := h, toks := tk } := by
  have b1 := of_allLt a1
  have b2 := of_allLt a2
  have hin : ∀ p ∈ tl ++ news, p ∈ tl ++ (news ++ own) := fun p hp => by
    rcases List.mem_append.mp hp with q | q
    · exact List.mem_append_left _ q
    · exact List.mem_append_right _ (List.mem_append_left _ q)
  have hsub : ∀ p ∈ tl, p ∈ (D2, ({ cls := .type "tuple", data := .seq #[.int ((k : Int) - (breaksOf W k : Int) * ((W : Int) - 1)) t2, .bool false] } : Obj)) :: (D1, ({ cls := .type "tuple", data := .seq #[.int ((W : Int) - 1) t1, .bool true] } : Obj)) :: tl :=
    fun p hp => .tail _ (.tail _ hp)
  refine InvEndG.intro (nx := (D, lst (cur ++ (List.replicate (breaksOf W k) (.ref D1) ++ [.ref D2])) (kk + 1)) :: (((D2, ({ cls := .type "tuple", data := .seq #[.int ((k : Int) - (breaksOf W k : Int) * ((W : Int) - 1)) t2, .bool false] } : Obj)) :: (D1, ({ cls := .type "tuple", data := .seq #[.int ((W : Int) - 1) t1, .bool true] } : Obj)) :: tl) ++ news)) F N ⟨.tail _ (List.mem_append_right _ hm), hk, _, _, _, rfl, ?_, ?_, ?_⟩ ?_ ?_ ?_
  · intro p hp
    rcases List.mem_append.mp hp with hp | hp
    · rcases List.mem_cons.mp hp with rfl | hp
      · exact (Nat.ne_of_gt d2)
      · rcases List.mem_cons.mp hp with rfl | hp
        · exact (Nat.ne_of_gt d1)
        · exact hne p (List.mem_append_left _ hp)
    · exact hne p (hin p (List.mem_append_right _ hp))
  · intro p hp q hq
    rcases List.mem_cons.mp hp with rfl | hp
    · exact b2 q (hin q (List.mem_append_right _ hq))
    · rcases List.mem_cons.mp hp with rfl | hp
      · exact b1 q (hin q (List.mem_append_right _ hq))
      · exact hlt p hp q hq
  · rw [partsOf_snoc, List.map_append]
    refine DatAll.append (DatAll.mono hsub hd) ?_
    unfold partsRow
    rw [List.map_append, List.map_replicate]
    refine DatAll.append (datAll_rep ?_ _) (DatAll.one ?_)
    · refine DatIn.tuple (vs := [_, _]) (.tail _ (.head _)) ?_
      have e : ((W - 1 : Nat) : Int) = (W : Int) - 1 := by omega
      rw [e]
      exact .cons (.int _ _) (.cons (.bool _) .nil)
    · refine DatIn.tuple (vs := [_, _]) (.head _) ?_
      have hb := breaks_le W k
      have e : ((k - breaksOf W k * (W - 1) : Nat) : Int) = (k : Int) - (breaksOf W k : Int) * ((W : Int) - 1) := by
        rw [Int.ofNat_sub hb, Int.natCast_mul]
        have : ((W - 1 : Nat) : Int) = (W : Int) - 1 := by omega
        rw [this]
      rw [e]
      exact .cons (.int _ _) (.cons (.bool _) .nil)
  · intro p hp b hb e
    obtain ⟨q, hq, rfl⟩ := List.mem_map.mp hb
    have hpo : p ∈ tl ++ (news ++ own) := List.mem_append_right _ (List.mem_append_right _ hp)
    rcases List.mem_cons.mp hq with rfl | hq
    · exact hne p hpo e
    · rcases List.mem_append.mp hq with hq | hq
      · rcases List.mem_cons.mp hq with rfl | hq
        · exact Nat.ne_of_lt (b2 p hpo) e
        · rcases List.mem_cons.mp hq with rfl | hq
          · exact Nat.ne_of_lt (b1 p hpo) e
          · exact hown p hp q (List.mem_append_left _ hq) e.symm
      · exact hown p hp q (List.mem_append_right _ hq) e.symm
  · intro p hp
    rcases List.mem_cons.mp hp with rfl | hp
    · simp
    · rcases List.mem_append.mp hp with hp | hp
      · rcases List.mem_cons.mp hp with rfl | hp
        · simp
        · rcases List.mem_cons.mp hp with rfl | hp
          · simp
          · simp [hp]
      · simp [hp]
  · intro p hp
    simp [hp]
local macro_rules | `(tactic| k_all) => `(tactic| assumption)
local macro_rules | `(tactic| walk_at "storeName") => `(tactic| (rw [breaks_is (by omega)]; generalize (if Int.fdiv _ _ > 0 then _ else _ : Nat) = tkm'))
local macro_rules | `(tactic| walk_at "binaryOp Mult ref int") => `(tactic| ((with_reducible rename Fr _ _ _ _ => F'); (with_reducible rename News _ _ _ _ => N'); refine' r_mul1 F' N' ?k1 ?k2 ?_; (case k1 => (repeat (first | exact List.Mem.head _ | apply List.Mem.tail))); (case k2 => omega); clear F' N'; intro B' h' hlt' F' N'; k_lt hlt'))
local macro_rules | `(tactic| walk_at "binaryOp Add ref ref") => `(tactic| ((with_reducible rename Fr _ _ _ _ => F'); (with_reducible rename News _ _ _ _ => N'); refine' r_addL F' N' ?k1 ?k2 ?k3 ?_; (case k1 => (first | with_reducible assumption | exact List.mem_cons_of_mem _ (by with_reducible assumption) | (repeat (first | exact List.Mem.head _ | apply List.Mem.tail)))); (case k2 => (first | with_reducible assumption | exact List.mem_cons_of_mem _ (by with_reducible assumption) | (repeat (first | exact List.Mem.head _ | apply List.Mem.tail)))); (case k3 => ((try simp only [List.length_append, List.length_replicate, List.length_cons, List.length_nil]); omega)); clear F' N'; intro D' h' l1 F' N'; (try k_lt l1); (try dsimp only)))
local macro_rules | `(tactic| walk_at "call builtin:list.extend") => `(tactic| ((with_reducible rename Fr _ _ _ _ => F'); (with_reducible rename News _ _ _ _ => N'); refine' r_extend F' N' ?k1 ?k2 ?k3 ?k4 ?_; (case k1 => (repeat (first | exact List.Mem.head _ | apply List.Mem.tail))); (case k2 => simp); (case k3 => k_upd); (case k4 => (simp only [List.length_append, List.length_replicate, List.length_cons, List.length_nil]; omega)); clear F' N'; intro h' F' N'))
theorem parts (w : World) (r : Addr) (W : Nat) (t : Tok) (rows : List Nat) (hW : 4 ≤ W ∧ W ≤ 7) (hr : ∀ n ∈ rows, n ≤ 200) (hl : rows.length ≤ 20) :
    ConN w 86 [.ref r, .int W t] (fun news => RowsIn news r rows) (fun news v => DatIn news v (.list ((partsOf W rows).map pd))) := by
  unfold ConN
  k_fill
  intro loose mean mg mb dp un gd cn cs a ccd cl outer A₀ base h₀ L m news s Q E B F X N T hk hpre hd hu hret
  obtain ⟨vs, n, hm, hi⟩ := hpre
  refine wpAny_call ?_
  k_dflt ktr_enter
  rename Fr _ _ _ (fun y => _) => F0
  have F1 := fr_map (m' := fun y' => List.lookup y' [(Str.ofString "width", Value.int W t), (Str.ofString "rows", Value.ref r)]) F0 (by with_unfolding_all rfl)
  clear F0
  repeat' (first | (k_unfold; (try dsimp only)) | (k_end; wrow_close) | walk1 | (dsimp only; walk1) | (leave1; walk_say "STEP leave1"; try dsimp only) | (dsimp only; k_unfold; try dsimp only) | fail "no step")
  · (rename Fr _ _ _ _ => lF')
    (rename News _ _ _ _ => lN')
    refine' iter_grow [(Str.ofString "parts", _), (Str.ofString "width", _)] (fun pre => (partsOf W pre).map pd) (by rfl) lF' lN' ?k1 ?k2 ?k3 ?k4 ?k5 (fun i' k' t' pre' cur' kk' tl' m' h' tk' own' hi' hpre' hd' hne' hlt' hown' F' N' => ?_) (fun cur' kk' tl' m' h' tk' hd' hlt' hne' F' N' => ?_)
    (case k1 => assumption)
    (case k2 => assumption)
    (case k3 => first | assumption | exact of_allLt (by assumption))
    (case k4 => exact DatAll.nil)
    (case k5 => (intro p hp; simp only [List.mem_cons, List.not_mem_nil, or_false] at hp; rcases hp with rfl | rfl <;> with_unfolding_all rfl))
    · have hk9 : k' ≤ 200 := hr k' (List.mem_of_getElem? hi')
      have hb9 : breaksOf W k' ≤ 200 := Nat.le_trans (Nat.div_le_self _ _) (by omega)
      have hc9 : cur'.length ≤ 5000 := by
        have e := hd'.length
        rw [List.length_map] at e
        have p1 := parts_len W pre' (fun n hn => hr n (List.mem_of_mem_take (hpre' ▸ hn)))
        have p2 : pre'.length ≤ rows.length := by rw [hpre', List.length_take]; omega
        omega
      repeat' (first | (k_unfold; (try dsimp only)) | (k_end; wrow_close) | walk1 | (dsimp only; walk1) | (leave1; walk_say "STEP leave1"; try dsimp only) | (dsimp only; k_unfold; try dsimp only) | fail "no step")
      · (with_reducible rename Fr _ _ _ _ => F9)
        (with_reducible rename News _ _ _ _ => N9)
        exact parts_turn (X := [_, _]) (Y := [_, _]) hW.1 F9 N9 hm (by intro p hp; simp only [List.mem_cons, List.not_mem_nil, or_false] at hp; rcases hp with rfl | rfl <;> with_unfolding_all rfl) hd' hne' hlt' hown' (by refine ltN ?_; omega) (by simp_all) (by refine ltN ?_; omega) (by simp_all)
    · repeat' (first | (k_unfold; (try dsimp only)) | (k_end; wrow_close) | walk1 | (dsimp only; walk1) | (leave1; walk_say "STEP leave1"; try dsimp only) | (dsimp only; k_unfold; try dsimp only) | fail "no step")
      refine hret _ ((_, lst cur' kk') :: tl') _ _ (by assumption) (by assumption) ?_ (DatIn.list (List.Mem.head _) (DatAll.mono (fun p hp => .tail _ hp) hd'))
      intro p hp q hq
      rcases List.mem_cons.mp hp with rfl | hp
      · rename (∀ p ∈ news, p.1 < _) => hz9; exact hz9 q hq
      · exact hlt' p hp q hq
end Mine
end
section
open PySem PySem.StrLaws PySem.Builtin PySem.Builtin.Str
namespace Mine
theorem pre_iff (v L : List Nat) : v.isPrefixOf L = true ↔ L.take v.length = v := by
  rw [List.isPrefixOf_iff_prefix, List.prefix_iff_eq_take]; exact eq_comm
theorem after_none {v : List Nat} : ∀ L : List Nat, (∀ i, i ≤ L.length → v.isPrefixOf (L.drop i) = false) → after v L = none
  | [], h => by
    unfold after
    rw [if_neg (by have := h 0 (Nat.le_refl _); rw [List.drop_zero] at this; rw [this]; decide)]
  | c :: r, h => by
    rw [after_no (h 0 (Nat.zero_le _))]
    exact after_none r fun i hi => h (i + 1) (by simpa using hi)
theorem after_some {v : List Nat} : ∀ (L : List Nat) (k : Nat), k ≤ L.length → v.isPrefixOf (L.drop k) = true → (∀ i, i < k → v.isPrefixOf (L.drop i) = false) → after v L = some (L.drop (k + v.length))
  | L, 0, _, h, _ => by rw [List.drop_zero] at h; rw [after_yes h, Nat.zero_add]
  | [], k + 1, hk, _, _ => by simp at hk
  | c :: r, k + 1, hk, h, hn => by
    rw [after_no (hn 0 (by omega)), after_some r k (by simpa using hk) h fun i hi => hn (i + 1) (by omega)]
    congr 1
    rw [show k + 1 + v.length = (k + v.length) + 1 by omega, List.drop_succ_cons]
theorem after_long {v L : List Nat} (h : L.length < v.length) : after v L = none := after_none L fun i _ => by
  cases hp : v.isPrefixOf (L.drop i) with
  | false => rfl
  | true =>
    have := congrArg List.length ((pre_iff _ _).mp hp)
    simp at this
    omega
theorem at_iff {y v : Str} {b i : Nat} (hb : b ≤ y.length) (hi : i ≤ b) : At y v b i ↔ v.cps.toList.isPrefixOf ((y.cps.toList.take b).drop i) = true := by
  rw [pre_iff, List.drop_take, List.take_take]
  have hl := str_length' v
  have hy := str_length' y
  constructor
  · rintro ⟨h1, h2⟩
    rw [subAt_eq] at h2
    rw [Nat.min_eq_left (by omega), ← hl]
    exact eq_of_beq h2
  · intro h
    have h1 := congrArg List.length h
    rw [List.length_take, List.length_drop] at h1
    have h3 : i + v.length ≤ b := by omega
    refine ⟨h3, ?_⟩
    rw [Nat.min_eq_left (by omega), ← hl] at h
    rw [subAt_eq, h]
    exact beq_self_eq_true _
theorem from_nat {n i : Nat} (h : i ≤ n) : fromIndex n (i : Int) = i := by
  unfold fromIndex
  rw [if_neg (by omega), Int.max_eq_right (by omega)]
  omega
theorem range_pre {a n c : Nat} {pre post : List Nat} (h : List.range' a n = pre ++ c :: post) : a ≤ c ∧ c < a + n ∧ ∀ k, a ≤ k → k < c → k ∈ pre := by
  have hc : c ∈ List.range' a n := by rw [h]; simp
  have hc2 := List.mem_range'_1.mp hc
  refine ⟨hc2.1, hc2.2, fun k h1 h2 => ?_⟩
  have hk : k ∈ List.range' a n := List.mem_range'_1.mpr ⟨h1, by omega⟩
  rw [h] at hk
  rcases List.mem_append.mp hk with hk | hk
  · exact hk
  · have hs : List.Pairwise (· < ·) (List.range' a n) := List.pairwise_lt_range'
    rw [h] at hs
    have := (List.pairwise_append.mp hs).2.1
    rcases List.mem_cons.mp hk with rfl | hk
    · omega
    · have := (List.pairwise_cons.mp this).1 k hk
      omega
theorem find_run {y v : Str} {a b : Nat} (hab : a ≤ b) (hb : b ≤ y.length) :
    (find4 y v a b = -1 ∧ after v.cps.toList ((y.cps.toList.take b).drop a) = none) ∨
    ∃ k : Nat, find4 y v a b = k ∧ k + v.length ≤ b ∧ after v.cps.toList ((y.cps.toList.take b).drop a) = some ((y.cps.toList.take b).drop (k + v.length)) := by
  have hy := str_length' y
  have hl := str_length' v
  have hT : (y.cps.toList.take b).length = b := by rw [List.length_take]; omega
  unfold find4
  rw [from_nat (by omega), from_nat hb, Nat.min_eq_left hb, occ_eq]
  rcases occ_first y v b 1 (Nat.le_refl _) (List.range' a (b + 1 - a)) a (fun i hi => (List.mem_range'_1.mp hi).1) with ⟨h0, hn⟩ | ⟨pre, c, post, e, h0, hc, hn⟩
  · left
    rw [h0]
    refine ⟨rfl, after_none _ fun i hi => ?_⟩
    rw [List.length_drop, hT] at hi
    rw [List.drop_drop]
    cases hp : v.cps.toList.isPrefixOf ((y.cps.toList.take b).drop (a + i)) with
    | false => rfl
    | true => exact absurd ((at_iff hb (by omega)).mpr hp) (hn (a + i) (List.mem_range'_1.mpr ⟨by omega, by omega⟩))
  · right
    obtain ⟨h1, h2, h3⟩ := range_pre e
    refine ⟨c, ?_, hc.1, ?_⟩
    · cases hh : (forIn (m := Id) (List.range' a (b + 1 - a)) ((#[] : Array Nat), a) (occBody y v b 1)).run.fst.toList with
      | nil =>
        have hz : (forIn (m := Id) (List.range' a (b + 1 - a)) ((#[] : Array Nat), a) (occBody y v b 1)).run.fst = #[] := Array.toList_inj.mp hh
        rw [hz] at h0; simp at h0
      | cons d r =>
        rw [← Array.getElem?_toList, hh] at h0
        simp at h0
        subst h0
        rfl
    · rw [after_some _ (c - a) (by rw [List.length_drop, hT]; omega)]
      · rw [List.drop_drop, ← hl]
        congr 2
        omega
      · rw [List.drop_drop, show a + (c - a) = c by omega]
        exact (at_iff hb (by omega)).mp hc
      · intro i hi
        rw [List.drop_drop]
        cases hp : v.cps.toList.isPrefixOf ((y.cps.toList.take b).drop (a + i)) with
        | false => rfl
        | true => exact absurd ((at_iff hb (by omega)).mpr hp) (hn (a + i) (h3 _ (by omega) (by omega)))
theorem runS_eq {y : Str} {b : Nat} (hb : b ≤ y.length) : ∀ (ws : List Str) (a : Nat), a ≤ b → runS y b a ws = runL (ws.map fun w => w.cps.toList) ((y.cps.toList.take b).drop a)
  | [], _, _ => rfl
  | v :: ws, a, ha => by
    show (if find4 y v a b < 0 then false else runS y b (find4 y v a b + v.length) ws) = runL (v.cps.toList :: ws.map fun w => w.cps.toList) _
    rcases find_run (v := v) ha hb with ⟨h1, h2⟩ | ⟨k, h1, h2, h3⟩
    · rw [h1, if_pos (by decide), runL_none h2]
    · rw [h1, if_neg (by omega), runL_cons h3]
      have ih := runS_eq hb ws (k + v.length) h2
      rw [← ih]
      congr 1
theorem runL_snoc (X : List Nat) : ∀ (ws : List (List Nat)) (X : List Nat), runL (ws ++ [[]]) X = runL ws X
  | [], X => by
    show runL [[]] X = true
    rw [runL_cons (after_yes (by simp))]
    rfl
  | w :: ws, X => by
    cases h : after w X with
    | none => rw [runL_none h]; exact runL_none (ws := ws ++ [[]]) h
    | some r => rw [runL_cons h, ← runL_snoc X ws r]; exact runL_cons (ws := ws ++ [[]]) h
theorem starts_eq (x y : Str) : Txt.startswith x y = y.cps.toList.isPrefixOf x.cps.toList := by
  have hx := str_length' x
  have hy := str_length' y
  have := at_iff (y := x) (v := y) (b := x.length) (i := 0) (Nat.le_refl _) (Nat.zero_le _)
  rw [hx, List.take_length, List.drop_zero, ← hx] at this
  rw [Bool.eq_iff_iff, ← this]
  unfold Txt.startswith At
  simp
theorem ends_eq (x y : Str) : Txt.endswith x y = y.cps.toList.reverse.isPrefixOf x.cps.toList.reverse := by
  have hx := str_length' x
  have hy := str_length' y
  rw [Bool.eq_iff_iff, List.isPrefixOf_iff_prefix, List.reverse_prefix]
  unfold Txt.endswith
  rw [subAt_eq]
  constructor
  · intro h
    rw [Bool.and_eq_true, decide_eq_true_eq] at h
    refine ⟨x.cps.toList.take (x.length - y.length), ?_⟩
    have h2 := eq_of_beq h.2
    rw [List.take_of_length_le (by rw [List.length_drop]; omega)] at h2
    rw [← h2, List.take_append_drop]
  · rintro ⟨p, e⟩
    have hl := congrArg List.length e
    rw [List.length_append] at hl
    rw [Bool.and_eq_true, decide_eq_true_eq]
    refine ⟨by omega, ?_⟩
    rw [← e, List.drop_append_of_le_length (by omega), List.drop_of_length_le (by omega), List.nil_append, hy, List.take_length]
    exact beq_self_eq_true _
end Mine
end
section
open PySem PySem.StrLaws PySem.Builtin PySem.Builtin.Str
namespace Mine
def lay (ps : List Part) : List Nat := (tl ps).drop 1
theorem lay_cons (p : Part) (ps : List Part) : lay (p :: ps) = wr p ++ tl ps := rfl
theorem lay_cur (r : Nat) (sh : Bool) (ps : List Part) : lay ((r, sh) :: ps) = cur r sh ps := by
  rw [lay_cons]; unfold wr cur; simp
theorem wS_cps (p : Part) : (wS p).cps.toList = wr p := by simp [wS]
theorem tl_app : ∀ (a b : List Part), tl (a ++ b) = tl a ++ tl b
  | [], b => rfl
  | p :: a, b => by show 10 :: (wr p ++ tl (a ++ b)) = 10 :: (wr p ++ tl a) ++ tl b; rw [tl_app a b]; simp
theorem join_lay : ∀ (p : Part) (ps : List Part), (Str.join nlS ((p :: ps).map wS)).cps.toList = lay (p :: ps)
  | p, [] => by
    show (wS p).cps.toList = wr p ++ []
    rw [wS_cps, List.append_nil]
  | p, q :: ps => by
    rw [List.map_cons, List.map_cons, PyProof.Rows.join_cons_cons, ← List.map_cons]
    simp only [Str.cps_append, Array.toList_append]
    rw [join_lay q ps, wS_cps, nl_cps]
    show (wr p ++ [10]) ++ (wr q ++ tl ps) = wr p ++ 10 :: (wr q ++ tl ps)
    simp
theorem wr_noDot (p : Part) : 46 ∉ wr p := by
  unfold wr shs
  intro h
  rcases List.mem_append.mp h with h | h
  · have := (List.mem_replicate.mp h).2; omega
  · cases p.2 <;> simp at h
theorem wS_noDot (p : Part) : NoDot (wS p) := by unfold NoDot; rw [wS_cps]; exact wr_noDot p
theorem wS_len2 (p : Part) : (wS p).length = (wr p).length := by rw [str_length', wS_cps]
/-- what stands behind: the last room and the cut -/
theorem lay_cut {pre : List Part} {l m : Nat} (h : m ≤ l) : lay (pre ++ [(l, false)]) = lay (pre ++ [(l - m, false)]) ++ List.replicate m 97 := by
  have e : tl (pre ++ [(l, false)]) = tl (pre ++ [(l - m, false)]) ++ List.replicate m 97 := by
    rw [tl_app, tl_app, List.append_assoc]
    congr 1
    show 10 :: (List.replicate l 97 ++ [] ++ []) = 10 :: (List.replicate (l - m) 97 ++ [] ++ []) ++ _
    rw [List.append_nil, List.append_nil, List.append_nil, List.append_nil, List.cons_append, List.replicate_append_replicate]
    congr 2
    omega
  unfold lay
  rw [e]
  cases hp : tl (pre ++ [(l - m, false)]) with
  | nil => rw [tl_app] at hp; simp [tl] at hp
  | cons c r => rfl
theorem rev_rep (m : Nat) : (List.replicate m 97).reverse = List.replicate m 97 := List.reverse_replicate
theorem lay_rev (pre : List Part) (l : Nat) : ∃ X : List Nat, X.head? ≠ some 97 ∧ (lay (pre ++ [(l, false)])).reverse = List.replicate l 97 ++ X := by
  cases pre with
  | nil => exact ⟨[], by simp, by
      show (List.replicate l 97 ++ [] ++ []).reverse = _
      simp⟩
  | cons p ps =>
    refine ⟨10 :: (wr p ++ tl ps).reverse, by simp, ?_⟩
    rw [List.cons_append, lay_cons, tl_app]
    show (wr p ++ (tl ps ++ 10 :: (List.replicate l 97 ++ [] ++ []))).reverse = _
    rw [List.append_nil, List.append_nil]
    simp [rev_rep]
theorem ends_lay (pre : List Part) (l m : Nat) {y : Str} (hy : y.cps.toList = lay (pre ++ [(l, false)])) : Txt.endswith y (wS (m, false)) = decide (m ≤ l) := by
  rw [ends_eq, hy, wS_cps]
  obtain ⟨X, hX, e⟩ := lay_rev pre l
  rw [e]
  have e2 : (wr (m, false)).reverse = List.replicate m 97 := by simp [wr, shs]
  rw [e2]
  exact preA m l X hX
theorem tail_eq {ws : List Str} {y : Str} {pre : List Part} {l m k : Nat} (hy : y.cps.toList = lay (pre ++ [(l, false)])) :
    ellTail ws (wS (m, false)) y k = if m ≤ l then (if (lay (pre ++ [(l - m, false)])).length < k then false else runL (ws.map fun w => w.cps.toList) ((lay (pre ++ [(l - m, false)])).drop k)) else false := by
  have hl : (wS (m, false)).length = m := by rw [wS_len2]; simp [wr, shs]
  have hn := str_length' y
  unfold ellTail
  rw [hl]
  by_cases h0 : m = 0
  · subst h0
    rw [if_pos (show ((0 : Nat) : Int) = 0 from rfl), if_pos (Nat.zero_le _), Nat.sub_zero, ← hy, ← hn]
    by_cases hk : y.length < k
    · rw [if_pos (by omega), if_pos hk]
    · rw [if_neg (by omega), if_neg hk, runS_eq (Nat.le_refl _) _ _ (by omega), List.map_append, hn, List.take_length]
      have : (wS (0, false)).cps.toList = [] := by rw [wS_cps]; rfl
      rw [List.map_cons, List.map_nil, this, runL_snoc []]
  · rw [if_neg (by omega), ends_lay pre l m hy]
    by_cases hm : m ≤ l
    · rw [decide_eq_true hm, if_pos rfl, if_pos hm]
      have hc := lay_cut (pre := pre) hm
      rw [← hy] at hc
      have hlen := congrArg List.length hc
      rw [List.length_append, List.length_replicate] at hlen
      by_cases hk : (lay (pre ++ [(l - m, false)])).length < k
      · rw [if_pos (by omega), if_pos hk]
      · rw [if_neg (by omega), if_neg hk]
        have e : ((y.length : Int) - (m : Int)) = ((lay (pre ++ [(l - m, false)])).length : Int) := by omega
        rw [e, runS_eq (by omega) _ _ (by omega), hc, List.take_left]
    · rw [decide_eq_false hm, if_neg (by decide), if_neg hm]
theorem runL_false {w X : List Nat} {ws : List (List Nat)} (h : X.length < w.length) : runL (w :: ws) X = false := runL_none (after_long h)
theorem map_wS (ps : List Part) : (ps.map wS).map (fun w => w.cps.toList) = ps.map wr := by
  rw [List.map_map]
  exact List.map_congr_left fun p _ => wS_cps p
theorem snocOf {α : Type} {l : List α} (h : l ≠ []) : ∃ r x, l = r ++ [x] := ⟨_, _, (List.dropLast_concat_getLast h).symm⟩
theorem pt_last (r : List Part) (x : Part) : pt (r ++ [x]) ((r ++ [x]).length - 1) = x := by
  rw [pt_eq (by simp)]
  simp
theorem pt_zero (p : Part) (r : List Part) : pt (p :: r) 0 = p := rfl
theorem rooms_snoc (r : List Part) (x : Part) (m : Nat) : rooms (r ++ [x]) m = r ++ [(x.1 - m, x.2)] := by
  unfold rooms
  rw [pt_last, List.dropLast_concat]
theorem pre_wr {p q : Part} {ps : List Part} : (wr p).isPrefixOf (lay (q :: ps)) = if p.2 = true then decide (p.1 = q.1 ∧ q.2 = true) else decide (p.1 ≤ q.1) := by
  obtain ⟨n, b⟩ := p
  obtain ⟨r, sh⟩ := q
  rw [lay_cur]
  unfold cur
  cases b with
  | false =>
    have e0 : wr (n, false) = List.replicate n 97 := by simp [wr, shs]
    rw [e0, preA n r _ (shs_head sh ps), if_neg (by simp)]
  | true =>
    have e0 : wr (n, true) = List.replicate n 97 ++ [61] := by simp [wr, shs]
    rw [e0, preS n r _ (shs_head sh ps), if_pos rfl]
    cases sh
    · have := tl_head2 ps
      simp [shs, this]
    · simp [shs]
/-- the ellipsis match of parts is the deal -/
theorem ell_deal {asked seen : List Part} (ha0 : asked ≠ []) (hs0 : seen ≠ []) (hg : Good asked) (hla : LastOpen asked) (hls : LastOpen seen) :
    ellS (Str.join dots (asked.map wS)) (Str.join nlS (seen.map wS)) = dealtS asked seen := by
  obtain ⟨s₀, more, rfl⟩ : ∃ s₀ more, seen = s₀ :: more := by cases seen with
    | nil => exact absurd rfl hs0
    | cons a b => exact ⟨a, b, rfl⟩
  obtain ⟨pre, ⟨l, bl⟩, es⟩ := snocOf hs0
  have hbl : bl = false := hls (l, bl) (by rw [es, List.getLast?_concat])
  subst hbl
  have hy := join_lay s₀ more
  rw [es] at hy
  rw [← es] at hy
  have hy2 : (Str.join nlS ((s₀ :: more).map wS)).cps.toList = lay (pre ++ [(l, false)]) := by rw [hy, es]
  generalize hY : Str.join nlS ((s₀ :: more).map wS) = y at hy hy2
  obtain ⟨p₀, ar, rfl⟩ : ∃ p₀ ar, asked = p₀ :: ar := by cases asked with
    | nil => exact absurd rfl ha0
    | cons a b => exact ⟨a, b, rfl⟩
  by_cases har : ar = []
  · subst har
    obtain ⟨m, b⟩ := p₀
    have hb : b = false := hla (m, b) rfl
    subst hb
    have e1 : Str.join dots ([(m, false)].map wS) = wS (m, false) := rfl
    rw [e1, ellS_not (split_none (wS_noDot _))]
    unfold dealtS
    rw [if_pos (show [(m, false)].length = 1 from rfl), Bool.eq_iff_iff, decide_eq_true_eq, beq_iff_eq]
    have hw : wr (m, false) = List.replicate m 97 := by simp [wr, shs]
    constructor
    · intro h
      have h2 := congrArg (fun z : Str => z.cps.toList) h
      rw [wS_cps, hy, hw] at h2
      have hall : ∀ c ∈ lay (s₀ :: more), c = 97 := by rw [← h2]; exact fun c hc => (List.mem_replicate.mp hc).2
      rw [lay_cons] at hall h2
      cases more with
      | cons q ps => exact absurd (hall 10 (by simp [tl])) (by decide)
      | nil =>
        obtain ⟨r, sh⟩ := s₀
        have hsh : sh = false := hls (r, sh) rfl
        subst hsh
        have := congrArg List.length h2
        simp [wr, shs, tl] at this
        rw [this]
    · intro h
      injection h with h1 h2
      subst h1; subst h2
      rw [← hY]
      rfl
  · obtain ⟨mid, ⟨m, bm⟩, rfl⟩ := snocOf har
    have hbm : bm = false := hla (m, bm) (by rw [← List.cons_append, List.getLast?_concat])
    subst hbm
    have hsp := split_join (ys := (p₀ :: (mid ++ [(m, false)])).map wS) (by simp) (by
      intro x hx
      obtain ⟨p, _, rfl⟩ := List.mem_map.mp hx
      exact wS_noDot p)
    have emap : (p₀ :: (mid ++ [(m, false)])).map wS = wS p₀ :: (mid.map wS ++ [wS (m, false)]) := by simp
    rw [ellS_two hsp.1 (hsp.2.trans emap)]
    have hg0 : Good (p₀ :: mid) := fun q hq => hg q (by
      rcases List.mem_cons.mp hq with rfl | hq
      · exact .head _
      · exact .tail _ (List.mem_append_left _ hq))
    have hap : pt (p₀ :: (mid ++ [(m, false)])) ((p₀ :: (mid ++ [(m, false)])).length - 1) = (m, false) := pt_last (p₀ :: mid) (m, false)
    have hsp2 : pt (s₀ :: more) ((s₀ :: more).length - 1) = (l, false) := by rw [es]; exact pt_last pre (l, false)
    have hdl : (p₀ :: (mid ++ [(m, false)])).dropLast = p₀ :: mid := by rw [← List.cons_append, List.dropLast_concat]
    have hrm : rooms (s₀ :: more) m = pre ++ [(l - m, false)] := by rw [es, rooms_snoc]
    have hD : dealtS (p₀ :: (mid ++ [(m, false)])) (s₀ :: more) = if p₀.1 > s₀.1 then false else if m > l then false else if p₀.2 = true ∧ p₀ ≠ s₀ then false else deal (pre ++ [(l - m, false)]) (p₀ :: mid) := by
      unfold dealtS
      rw [if_neg (by simp), hap, hsp2, hdl, hrm, pt_zero, pt_zero]
    rw [hD]
    -- the rooms
    have hmain : runL ((p₀ :: mid).map wr) (lay (pre ++ [(l - m, false)])) = deal (pre ++ [(l - m, false)]) (p₀ :: mid) := by
      obtain ⟨⟨r, sh⟩, mo, e⟩ : ∃ q mo, pre ++ [(l - m, false)] = q :: mo := by cases h : pre ++ [(l - m, false)] with
        | nil => simp at h
        | cons a b => exact ⟨a, b, rfl⟩
      rw [e, lay_cur]
      refine (main mo).2 sh r ?_ _ hg0
      rw [← e]
      intro p hp
      rw [List.getLast?_concat] at hp
      cases hp; rfl
    have hst : Txt.startswith y (wS p₀) = if p₀.2 = true then decide (p₀.1 = s₀.1 ∧ s₀.2 = true) else decide (p₀.1 ≤ s₀.1) := by
      rw [starts_eq, hy, wS_cps, pre_wr]
    unfold ellW
    by_cases hz : (wS p₀).length = 0
    · rw [if_pos (by omega)]
      have hwz : wr p₀ = [] := List.length_eq_zero_iff.mp (by rw [← wS_len2]; exact hz)
      have hp : p₀.1 = 0 ∧ p₀.2 = false := by
        obtain ⟨n, b⟩ := p₀
        have := congrArg List.length hwz
        cases b <;> simp [wr, shs] at this
        exact ⟨this, rfl⟩
      have te := tail_eq (ws := wS p₀ :: mid.map wS) (m := m) (k := 0) hy2
      rw [show ((0 : Nat) : Int) = 0 from rfl] at te
      rw [te, if_neg (Nat.not_lt_zero _), List.drop_zero, ← List.map_cons, map_wS, hmain, if_neg (show ¬ p₀.1 > s₀.1 by omega)]
      by_cases hml : m ≤ l
      · rw [if_pos hml, if_neg (show ¬ m > l by omega), if_neg (by rw [hp.2]; simp)]
      · rw [if_neg hml, if_pos (show m > l by omega)]
    · rw [if_neg (by omega)]
      by_cases hs : Txt.startswith y (wS p₀) = true
      · rw [if_pos hs]
        have hpre : (wr p₀).isPrefixOf (lay (s₀ :: more)) = true := by rw [starts_eq, hy, wS_cps] at hs; exact hs
        rw [hst] at hs
        have h1 : ¬ p₀.1 > s₀.1 := by
          intro h
          by_cases hb : p₀.2 = true
          · rw [if_pos hb] at hs; have := (of_decide_eq_true hs).1; omega
          · rw [if_neg hb] at hs; have := of_decide_eq_true hs; omega
        have h3 : ¬ (p₀.2 = true ∧ p₀ ≠ s₀) := by
          rintro ⟨hb, hne⟩
          rw [if_pos hb] at hs
          have := of_decide_eq_true hs
          exact hne (Prod.ext this.1 (hb.trans this.2.symm))
        rw [if_neg h1, tail_eq hy2]
        by_cases hml : m ≤ l
        · rw [if_pos hml, if_neg (show ¬ m > l by omega), if_neg h3]
          rw [wS_len2]
          by_cases hk : (lay (pre ++ [(l - m, false)])).length < (wr p₀).length
          · rw [if_pos hk, ← hmain]
            exact (runL_false hk).symm
          · rw [if_neg hk, ← hmain, map_wS]
            have hp2 : (wr p₀).isPrefixOf (lay (pre ++ [(l - m, false)])) = true := by
              rw [pre_iff]
              rw [es, lay_cut hml, pre_iff, List.take_append_of_le_length (by omega)] at hpre
              exact hpre
            exact (runL_cons (after_yes hp2)).symm
        · rw [if_neg hml, if_pos (show m > l by omega)]
      · rw [if_neg hs]
        rw [hst] at hs
        by_cases hb : p₀.2 = true
        · rw [if_pos hb] at hs
          have hne : p₀ ≠ s₀ := by
            rintro rfl
            exact hs (decide_eq_true ⟨rfl, hb⟩)
          split
          · rfl
          · split
            · rfl
            · rw [if_pos ⟨hb, hne⟩]
        · rw [if_neg hb] at hs
          have : ¬ p₀.1 ≤ s₀.1 := fun h => hs (decide_eq_true h)
          rw [if_pos (by omega)]
end Mine
end
section
open PySem PySem.StrLaws PySem.Builtin PySem.Builtin.Str
namespace Mine
theorem parts_last {W : Nat} {r : List Nat} {n : Nat} : ∃ P k, partsOf W (r ++ [n]) = P ++ [(k, false)] ∧ k = n - breaksOf W n * (W - 1) := by
  refine ⟨partsOf W r ++ List.replicate (breaksOf W n) (W - 1, true), _, ?_, rfl⟩
  unfold partsOf
  rw [List.flatMap_append]
  simp [partsRow]
theorem breaks_left {W n : Nat} (h : 0 < n) : 0 < n - breaksOf W n * (W - 1) := by
  by_cases h2 : n < 2
  · have : breaksOf W n = 0 := by
      unfold breaksOf
      rw [show n - 2 = 0 by omega]
      exact Nat.zero_div _
    rw [this]; omega
  · have : breaksOf W n * (W - 1) ≤ n - 2 := Nat.div_mul_le_self _ _
    omega
theorem parts_good (W : Nat) (hW : 2 ≤ W) (rows : List Nat) : Good (partsOf W rows) := by
  intro p hp hb
  obtain ⟨n, _, hp⟩ := List.mem_flatMap.mp hp
  unfold partsRow at hp
  rcases List.mem_append.mp hp with hp | hp
  · rw [(List.mem_replicate.mp hp).2]; show 1 ≤ W - 1; omega
  · rw [List.mem_singleton.mp hp] at hb; cases hb
theorem parts_ne {W : Nat} {rows : List Nat} (h : rows ≠ []) : partsOf W rows ≠ [] := by
  obtain ⟨r, n, rfl⟩ := rows_snoc h
  obtain ⟨P, k, e, _⟩ := parts_last (W := W) (r := r) (n := n)
  rw [e]; simp
theorem parts_open (W : Nat) (rows : List Nat) : LastOpen (partsOf W rows) := by
  intro p hp
  by_cases h : rows = []
  · subst h; simp [partsOf] at hp
  · obtain ⟨r, n, rfl⟩ := rows_snoc h
    obtain ⟨P, k, e, _⟩ := parts_last (W := W) (r := r) (n := n)
    rw [e, List.getLast?_concat] at hp
    cases hp; rfl
theorem sum_rep (a b : Nat) : (List.replicate a b).sum = a * b := by induction a with
  | zero => simp
  | succ k ih => rw [List.replicate_succ, List.sum_cons, ih, Nat.succ_mul]; omega
theorem parts_sum (W : Nat) : ∀ rows : List Nat, ((partsOf W rows).map (·.1)).sum = rows.sum
  | [] => rfl
  | n :: r => by
    have e : partsOf W (n :: r) = partsRow W n ++ partsOf W r := rfl
    rw [e, List.map_append, List.sum_append, parts_sum W r, List.sum_cons]
    congr 1
    unfold partsRow
    rw [List.map_append, List.sum_append, List.map_replicate, sum_rep]
    have := breaks_le W n
    show breaksOf W n * (W - 1) + (n - breaksOf W n * (W - 1) + 0) = n
    omega
theorem sum_le {rows : List Nat} {B : Nat} (h : ∀ n ∈ rows, n ≤ B) : rows.sum ≤ rows.length * B := by
  induction rows with
  | nil => simp
  | cons a r ih =>
    have h1 := h a (.head _)
    have h2 := ih fun n hn => h n (.tail _ hn)
    rw [List.sum_cons, List.length_cons, Nat.succ_mul]
    omega
theorem wS_sum : ∀ ps : List Part, ((ps.map wS).map (·.length)).sum ≤ (ps.map (·.1)).sum + ps.length
  | [] => by simp
  | p :: ps => by
    have ih := wS_sum ps
    have := wS_len p
    simp only [List.map_cons, List.sum_cons, List.length_cons]
    omega
theorem enc_len {W : Nat} {eol : Str} {rows : List Nat} (he : eol.length ≤ 3) (hr : ∀ n ∈ rows, n ≤ 200) (hl : rows.length ≤ 20) : (enc W eol rows).length ≤ 30000 := by
  have h1 := StrLaws.join_length_le eol ((partsOf W rows).map wS)
  have h2 := wS_sum (partsOf W rows)
  rw [parts_sum] at h2
  have h3 := sum_le hr
  have h4 := parts_len W rows hr
  have h5 : rows.length * 201 ≤ 20 * 201 := Nat.mul_le_mul_right _ hl
  have h6 : rows.length * 200 ≤ 20 * 200 := Nat.mul_le_mul_right _ hl
  rw [List.length_map] at h1
  have h7 : (partsOf W rows).length * eol.length ≤ 4020 * 3 := Nat.mul_le_mul (by omega) he
  show (Str.join eol ((partsOf W rows).map wS)).length ≤ 30000
  omega
theorem wr_noBreak (p : Part) : NoBreak (wS p) := by
  intro c hc
  rw [wS_cps] at hc
  unfold wr shs at hc
  rcases List.mem_append.mp hc with h | h
  · rw [(List.mem_replicate.mp h).2]; decide +kernel
  · cases hb : p.2 with
    | false => rw [hb] at h; simp at h
    | true => rw [hb] at h; simp at h; rw [h]; decide +kernel
theorem wS_empty {p : Part} : wS p = Str.empty ↔ p = (0, false) := by
  constructor
  · intro h
    obtain ⟨n, b⟩ := p
    have := congrArg Str.length h
    rw [wS_len2] at this
    have e0 : Str.empty.length = 0 := rfl
    rw [e0] at this
    cases b <;> simp [wr, shs] at this
    rw [this]
  · rintro rfl; rfl
theorem enc_lines {W : Nat} {rows : List Nat} (h : rows ≠ []) : Txt.lines (enc W nlS rows) = (partsOf W (rowsL rows)).map wS := by
  unfold enc
  rw [lines_join (by rw [Ne, List.map_eq_nil_iff]; exact parts_ne h)]
  · obtain ⟨r, n, rfl⟩ := rows_snoc h
    obtain ⟨P, k, e, hk⟩ := parts_last (W := W) (r := r) (n := n)
    unfold resL rowsL
    rw [e, List.map_append, List.map_cons, List.map_nil, List.getLast?_concat, List.getLast?_concat]
    by_cases hn : n = 0
    · subst hn
      have hk0 : k = 0 := by rw [hk]; exact Nat.zero_sub _
      subst hk0
      rw [if_pos (by rw [wS_empty.mpr rfl]), if_pos rfl, List.dropLast_concat, List.dropLast_concat]
      have e2 : partsOf W (r ++ [0]) = partsOf W r ++ [(0, false)] := by
        unfold partsOf; rw [List.flatMap_append]; simp [partsRow, breaksOf]
      rw [e2] at e
      rw [(List.append_inj' e rfl).1]
    · have := breaks_left (W := W) (n := n) (by omega)
      rw [if_neg, if_neg (by simpa using hn), e, List.map_append, List.map_cons, List.map_nil]
      intro h'
      injection h' with h'
      have := wS_empty.mp h'
      injection this
      omega
  · intro y hy
    obtain ⟨p, _, rfl⟩ := List.mem_map.mp hy
    exact wr_noBreak p
theorem parts_many (W : Nat) : ∀ rows : List Nat, rows.length ≤ (partsOf W rows).length
  | [] => Nat.le_refl _
  | n :: r => by
    have ih := parts_many W r
    show r.length + 1 ≤ (partsRow W n ++ partsOf W r).length
    rw [List.length_append]
    unfold partsRow
    simp only [List.length_append, List.length_replicate, List.length_cons, List.length_nil]
    omega
theorem join_pos {ys : List Str} (h : 2 ≤ ys.length) : (Str.join nlS ys).length ≠ 0 := by
  match ys, h with
  | y :: z :: r, _ =>
    rw [PyProof.Rows.join_cons_cons, Str.length_append, Str.length_append, nl_len]
    omega
theorem enc_len0 {W : Nat} {rows : List Nat} (h : rows ≠ []) (h0 : (enc W nlS rows).length = 0) : rows = [0] := by
  have h1 : (partsOf W rows).length < 2 := by
    apply Nat.lt_of_not_le
    intro h2
    exact join_pos (by rw [List.length_map]; exact h2) h0
  have h2 := parts_many W rows
  match rows, h with
  | [n], _ =>
    by_cases hn : n = 0
    · rw [hn]
    · exfalso
      obtain ⟨P, k, e, hk⟩ := parts_last (W := W) (r := []) (n := n)
      have hb := breaks_left (W := W) (n := n) (by omega)
      rw [List.nil_append] at e
      rw [e, List.length_append] at h1
      have hP : P = [] := List.length_eq_zero_iff.mp (by simp only [List.length_cons, List.length_nil] at h1; omega)
      subst hP
      unfold enc at h0
      rw [e] at h0
      have : (wS (k, false)).length = 0 := h0
      rw [wS_len2] at this
      simp [wr, shs] at this
      omega
  | n :: m :: r, _ => simp only [List.length_cons] at h2; omega
theorem wS_last {k : Nat} (h : 0 < k) : ∃ l, wr (k, false) = l ++ [97] := by
  obtain ⟨j, rfl⟩ : ∃ j, k = j + 1 := ⟨k - 1, by omega⟩
  exact ⟨List.replicate j 97, by simp [wr, shs, List.replicate_succ']⟩
theorem enc_item1 {W : Nat} {rows : List Nat} (h : rows ≠ []) (hl : rows.getLast? ≠ some 0) : Txt.item (enc W nlS rows) (-1) = ⟨#[97]⟩ := by
  obtain ⟨r, n, rfl⟩ := rows_snoc h
  rw [List.getLast?_concat] at hl
  obtain ⟨P, k, e, hk⟩ := parts_last (W := W) (r := r) (n := n)
  have hb := breaks_left (W := W) (n := n) (by
    have : n ≠ 0 := fun h => hl (by rw [h])
    omega)
  obtain ⟨l, el⟩ := wS_last (k := k) (by omega)
  unfold enc
  rw [e, List.map_append, List.map_cons, List.map_nil, PyProof.Rows.FinIter.join_snoc]
  split
  · exact item_last (l := l) (by rw [wS_cps, el])
  · exact item_last (l := (Str.join nlS (P.map wS)).cps.toList ++ nlS.cps.toList ++ l) (by
      simp only [Str.cps_append, Array.toList_append, wS_cps, el, List.append_assoc])
theorem enc_item0 {W : Nat} {rows : List Nat} (h : rows ≠ []) (hl : rows.getLast? = some 0) (h0 : (enc W nlS rows).length ≠ 0) : Txt.item (enc W nlS rows) (-1) = ⟨#[10]⟩ := by
  obtain ⟨r, n, rfl⟩ := rows_snoc h
  rw [List.getLast?_concat] at hl
  cases hl
  have e2 : partsOf W (r ++ [0]) = partsOf W r ++ [(0, false)] := by
    unfold partsOf; rw [List.flatMap_append]; simp [partsRow, breaksOf]
  unfold enc at h0 ⊢
  rw [e2, List.map_append, List.map_cons, List.map_nil, PyProof.Rows.FinIter.join_snoc] at h0 ⊢
  split
  · rename_i hn
    rw [if_pos hn] at h0
    exact absurd rfl h0
  · exact item_last (l := (Str.join nlS ((partsOf W r).map wS)).cps.toList) (by
      simp only [Str.cps_append, Array.toList_append, wS_cps, nl_cps]
      simp [wr, shs])
/-- what decode has made of the lines -/
def decP (p : Part) : List Nat := List.replicate p.1 97 ++ if p.2 then [] else [46, 46, 46]
def decL (ps : List Part) : List Nat := ps.flatMap decP
def decS (ps : List Part) : Str := ⟨(decL ps).toArray⟩
def decAt (D : Str) (p : Part) (i : Nat) : Str := ⟨(D.cps.toList ++ (List.replicate (min i p.1) 97 ++ if i = p.1 ∧ p.2 = false then [46, 46, 46] else [])).toArray⟩
theorem decS_snoc (ps : List Part) (p : Part) : decS (ps ++ [p]) = ⟨((decS ps).cps.toList ++ decP p).toArray⟩ := by
  unfold decS decL
  simp
theorem str_cps {a b : Str} (h : a.cps.toList = b.cps.toList) : a = b := Str.ext' (Array.toList_inj.mp h)
theorem ofS (s : Str) : s = ⟨s.cps.toList.toArray⟩ := (str_eta s).symm
theorem dec_eol (ps : List Part) : decS ps ++ dots = decS (ps ++ [(0, false)]) := by
  apply str_cps
  rw [decS_snoc, Str.cps_append, Array.toList_append, dots_cps]
  simp [decP]
theorem dec_start (D : Str) (p : Part) (h : 0 < p.1) : decAt D p 0 = D := by
  apply str_cps
  unfold decAt
  rw [if_neg (by omega)]
  simp
theorem dec_a (D : Str) (p : Part) {i : Nat} (h : i + 1 < p.1 ∨ (i + 1 = p.1 ∧ p.2 = true)) : decAt D p i ++ ⟨#[97]⟩ = decAt D p (i + 1) := by
  apply str_cps
  rw [Str.cps_append, Array.toList_append]
  unfold decAt
  have h1 : ¬ (i = p.1 ∧ p.2 = false) := by omega
  have h2 : ¬ (i + 1 = p.1 ∧ p.2 = false) := by
    rintro ⟨h2, h3⟩
    rcases h with h | h
    · omega
    · rw [h3] at h; cases h.2
  rw [if_neg h1, if_neg h2, Nat.min_eq_left (by omega), Nat.min_eq_left (by omega), List.replicate_succ']
  simp
theorem dec_aEnd (D : Str) (p : Part) {i : Nat} (h : i + 1 = p.1) (h2 : p.2 = false) : decAt D p i ++ ⟨#[97]⟩ ++ dots = decAt D p (i + 1) := by
  apply str_cps
  rw [Str.cps_append, Array.toList_append, Str.cps_append, Array.toList_append, dots_cps]
  unfold decAt
  rw [if_neg (by omega), if_pos ⟨h, h2⟩, Nat.min_eq_left (by omega), Nat.min_eq_left (by omega), List.replicate_succ']
  simp
theorem dec_eq (D : Str) (p : Part) (h2 : p.2 = true) : decAt D p p.1 = decAt D p (p.1 + 1) := by
  unfold decAt
  rw [Nat.min_self, Nat.min_eq_right (Nat.le_succ _), if_neg (by rw [h2]; rintro ⟨_, h⟩; cases h), if_neg (by rw [h2]; rintro ⟨_, h⟩; cases h)]
theorem dec_row (ps : List Part) (p : Part) {n : Nat} (h : n = p.1 + if p.2 = true then 1 else 0) : decAt (decS ps) p n = decS (ps ++ [p]) := by
  rw [decS_snoc]
  unfold decAt decP
  obtain ⟨k, b⟩ := p
  cases b
  · have hn : n = k := by simpa using h
    subst hn
    simp
  · have hn : n = k + 1 := by simpa using h
    subst hn
    simp [Nat.min_eq_right (Nat.le_succ k)]
theorem decL_row (W n : Nat) : decL (partsRow W n) = List.replicate n 97 ++ [46, 46, 46] := by
  unfold decL partsRow
  rw [List.flatMap_append]
  have e : ∀ b, (List.replicate b (W - 1, true)).flatMap decP = List.replicate (b * (W - 1)) 97 := by
    intro b
    induction b with
    | zero => simp
    | succ k ih =>
      rw [List.replicate_succ, List.flatMap_cons, ih, Nat.succ_mul, Nat.add_comm, ← List.replicate_append_replicate]
      simp [decP]
  rw [e]
  have hb := breaks_le W n
  have e2 : n = breaksOf W n * (W - 1) + (n - breaksOf W n * (W - 1)) := by omega
  conv => rhs; rw [e2, ← List.replicate_append_replicate]
  simp only [decP, List.flatMap_cons, List.flatMap_nil, List.append_assoc, Bool.false_eq_true, if_false, List.append_nil]
theorem decL_rows (W : Nat) : ∀ rows : List Nat, decL (partsOf W rows) = rows.flatMap fun n => List.replicate n 97 ++ [46, 46, 46]
  | [] => rfl
  | n :: r => by
    have e : partsOf W (n :: r) = partsRow W n ++ partsOf W r := rfl
    rw [e]
    have e2 : decL (partsRow W n ++ partsOf W r) = decL (partsRow W n) ++ decL (partsOf W r) := by unfold decL; rw [List.flatMap_append]
    rw [e2, decL_row, decL_rows W r]
    rfl
theorem join_dots : ∀ (rows : List Nat), rows ≠ [] → (Str.join dots (rows.map aS)).cps.toList ++ [46, 46, 46] = rows.flatMap fun n => List.replicate n 97 ++ [46, 46, 46]
  | [], h => absurd rfl h
  | [n], _ => by
    show (aS n).cps.toList ++ _ = _
    simp [aS]
  | n :: m :: r, _ => by
    have ih := join_dots (m :: r) (by simp)
    rw [List.map_cons, List.map_cons, PyProof.Rows.join_cons_cons, ← List.map_cons, Str.cps_append, Array.toList_append, Str.cps_append, Array.toList_append, List.append_assoc, ih, dots_cps]
    simp [aS]
def hardS (rows : List Nat) : Str := Str.join dots (rows.map aS)
theorem dec_end0 {W : Nat} {rows : List Nat} (h : rows.getLast? = some 0) (h2 : 2 ≤ rows.length) : decS (partsOf W (rowsL rows)) = hardS rows := by
  obtain ⟨r, rfl⟩ : ∃ r, rows = r ++ [0] := by
    obtain ⟨hne, e⟩ := List.getLast?_eq_some_iff.mp h
    exact ⟨_, e⟩
  have hr : r ≠ [] := by rintro rfl; simp at h2
  unfold rowsL hardS
  rw [if_pos h, List.dropLast_concat, List.map_append, List.map_cons, List.map_nil, PyProof.Rows.FinIter.join_snoc, if_neg (by simpa using hr)]
  apply str_cps
  rw [Str.cps_append, Array.toList_append, Str.cps_append, Array.toList_append, dots_cps, join_dots r hr, ← decL_rows W r]
  simp [decS, aS]
theorem dec_end1 {W : Nat} {rows : List Nat} (h0 : rows ≠ []) (h : rows.getLast? ≠ some 0) : decS (partsOf W (rowsL rows)) = hardS rows ++ dots := by
  unfold rowsL
  rw [if_neg h]
  apply str_cps
  rw [Str.cps_append, Array.toList_append, dots_cps]
  unfold hardS
  rw [join_dots rows h0, ← decL_rows W rows]
  simp [decS]
theorem ends_dots (x : Str) : Txt.endswith (x ++ dots) dots = true := by
  rw [ends_eq, List.isPrefixOf_iff_prefix, List.reverse_prefix, Str.cps_append, Array.toList_append]
  exact List.suffix_append _ _
theorem slice_dots (x : Str) : Txt.slice (x ++ dots) none (some (-3)) = x := by
  have hn : (x ++ dots).length = x.length + 3 := by rw [Str.length_append, dots_len]
  have h3 := StrLaws.sliceText_to_neg (x := x ++ dots) (j := -3) (by decide) (by omega)
  refine (show Txt.slice (x ++ dots) none (some (-3)) = _ from h3).trans ?_
  have e : (-3 + ((x ++ dots).length : Int) - 0).toNat = x.cps.toList.length := by rw [hn, ← str_length']; omega
  rw [e]
  apply str_cps
  rw [Str.cps_append, Array.toList_append]
  simp
theorem rstrip_wS (p : Part) : Txt.rstrip (wS p) = wS p := by
  obtain ⟨hi, h1, h2, h3, _⟩ := PyProof.Rows.rstrip_cut (x := wS p) (by
    intro c hc
    rw [wS_cps] at hc
    unfold wr shs at hc
    rcases List.mem_append.mp hc with h | h
    · rw [(List.mem_replicate.mp h).2]; decide
    · cases hb : p.2 with
      | false => rw [hb] at h; simp at h
      | true => rw [hb] at h; simp at h; rw [h]; decide)
  by_cases he : hi = (wS p).length
  · rw [h2, he, StrLaws.sub_whole]
  · exfalso
    have h4 := h3 hi (Nat.le_refl _) (by omega)
    have hm : (wS p).cps.getD hi 0 ∈ (wS p).cps.toList := by
      have hlt : hi < (wS p).cps.toList.length := by rw [← str_length']; omega
      have e : (wS p).cps.getD hi 0 = (wS p).cps.toList[hi] := by
        have hlt2 : hi < (wS p).cps.size := by simpa using hlt
        simp [Array.getD_eq_getD_getElem?, hlt2]
      rw [e]; exact List.getElem_mem hlt
    generalize (wS p).cps.getD hi 0 = c at h4 hm
    have hc : c = 97 ∨ c = 61 := by
      rw [wS_cps] at hm
      unfold wr shs at hm
      rcases List.mem_append.mp hm with h | h
      · exact .inl (List.mem_replicate.mp h).2
      · cases hb : p.2 with
        | false => rw [hb] at h; simp at h
        | true => rw [hb] at h; simp at h; exact .inr h
    rcases hc with rfl | rfl
    · exact absurd h4 (by decide +kernel)
    · exact absurd h4 (by decide +kernel)
theorem wS_length (p : Part) : (wS p).length = p.1 + if p.2 = true then 1 else 0 := by
  obtain ⟨n, b⟩ := p
  rw [wS_len2]
  cases b <;> simp [wr, shs]
theorem decL_len : ∀ ps : List Part, (decL ps).length ≤ (ps.map (·.1)).sum + 3 * ps.length
  | [] => by simp [decL]
  | p :: ps => by
    have ih := decL_len ps
    have e : decL (p :: ps) = decP p ++ decL ps := rfl
    have e2 : (decP p).length ≤ p.1 + 3 := by
      unfold decP
      rw [List.length_append, List.length_replicate]
      split <;> simp
    rw [e, List.length_append, List.map_cons, List.sum_cons, List.length_cons]
    omega
theorem decS_take (ps : List Part) (i : Nat) : (decS (ps.take i)).length ≤ (decS ps).length := by
  have e : decL ps = decL (ps.take i) ++ decL (ps.drop i) := by
    unfold decL
    rw [← List.flatMap_append, List.take_append_drop]
  have h1 : (decS ps).length = (decL ps).length := by simp [decS, Str.length]
  have h2 : (decS (ps.take i)).length = (decL (ps.take i)).length := by simp [decS, Str.length]
  rw [h1, h2, e, List.length_append]
  omega
theorem dec_size {W : Nat} {rows : List Nat} (hr : ∀ n ∈ rows, n ≤ 200) (hl : rows.length ≤ 20) : (decS (partsOf W (rowsL rows))).length ≤ 20000 := by
  have h1 : (decS (partsOf W (rowsL rows))).length = (decL (partsOf W (rowsL rows))).length := by simp [decS, Str.length]
  have h2 := decL_len (partsOf W (rowsL rows))
  have hr2 : ∀ n ∈ rowsL rows, n ≤ 200 := fun n hn => hr n (rowsL_mem hn)
  have h3 := sum_le hr2
  have h4 := parts_len W _ hr2
  have h5 := rowsL_len rows
  have h6 : (rowsL rows).length * 201 ≤ 20 * 201 := Nat.mul_le_mul_right _ (by omega)
  have h7 : (rowsL rows).length * 200 ≤ 20 * 200 := Nat.mul_le_mul_right _ (by omega)
  rw [parts_sum] at h2
  omega
theorem decAt_len (D : Str) (p : Part) (i : Nat) : (decAt D p i).length ≤ D.length + p.1 + 3 := by
  unfold decAt
  rw [str_length', str_length']
  show ((D.cps.toList ++ _).toArray.toList).length ≤ _
  rw [List.length_append, List.length_append, List.length_replicate]
  split <;> simp <;> omega
theorem parts_take {ps : List Part} {i : Nat} {p : Part} (h : ps[i]? = some p) : ps.take (i + 1) = ps.take i ++ [p] := by
  rw [List.take_add_one, h]; rfl
theorem hard_zero {W : Nat} : enc W nlS [0] = hardS [0] := by
  simp [enc, hardS, partsOf, partsRow, breaksOf, Str.join, wS_false]
theorem item_a {p : Part} {i : Nat} (h : i < p.1) : Txt.item (wS p) i = ⟨#[97]⟩ := by
  refine PyProof.Rows.item_meets (by omega) ?_
  have : (wS p).cps[i]? = (wS p).cps.toList[i]? := by simp
  rw [Int.toNat_natCast, this, wS_cps]
  unfold wr
  rw [List.getElem?_append_left (by simpa using h)]
  simp [h]
theorem item_e {n : Nat} : Txt.item (wS (n, true)) n = ⟨#[61]⟩ := by
  refine PyProof.Rows.item_meets (by omega) ?_
  have : (wS (n, true)).cps[n]? = (wS (n, true)).cps.toList[n]? := by simp
  rw [Int.toNat_natCast, this, wS_cps]
  simp [wr, shs]
end Mine
end
section
open PySem PySem.W PyProof.Rows PySem.Spec PySem.Calls PySem.Builtin PySem.Builtin.Str
set_option maxHeartbeats 1000000
namespace Mine
section
variable {prog : Program} {w : World} {A : Around} {E : Value → Shared → Prop} {s : Shared} {h₀ : Heap} {L : Addr} {m : Str → Option Value} {news : Led} {t : Tok} {Q : Value → Shared → Prop}
theorem r_rstripW {p : Part} (hp : p.1 ≤ 1000) (h : ∀ t' k, Q (.str (wS p) t') { s with toks := k }) : wpAny (model prog w) A (call (.builtin "str.rstrip") [.str (wS p) t]) Q E s :=
  SC.rstrip (fun t' k => by rw [rstrip_wS]; exact h t' k) (by have := wS_len p; rw [sizeLine_eq]; omega)
theorem r_lenW {p : Part} (hp : p.1 ≤ 1000) (h : Q (.int ((wS p).length : Int) (s.toks + 1)) { s with toks := s.toks + 1 + 1 }) : wpAny (model prog w) A (call (.builtin "len") [.str (wS p) t]) Q E s :=
  SBL.len (by have := wS_len p; omega) h
theorem r_itemP {value slice : PySem.Expr} {x : Str} {c : Nat} {i : Int} {u : Tok} (hc : Txt.item x i = ⟨#[c]⟩) (h0 : 0 ≤ i) (h1 : i < x.length) (hx : x.length ≤ 1000)
    (hs : subscripted slice false (.str x t) (.int i u) = operate [.str x t, .int i u] (getItem (.str x t) (.int i u)))
    (ht : ∀ r, letTemporaryGo value (.str x t) r = pure ())
    (h : Q (.str ⟨#[c]⟩ s.toks) { s with toks := s.toks + 1 }) :
    wpAny (model prog w) A (subscriptTail value slice (.str x t) (.int i u)) Q E s :=
  item_str (fitsSsize_of (N := 1000) (by omega) (by omega) (by decide)) (by omega) (by omega) (fun _ => by rw [hc]; exact h) hs ht
theorem r_notInC {c : Nat} {y : Str} {u : Tok} (b : Bool) (hb : decide (c ∈ y.cps.toList) = b) (h : Q (.bool (!b)) s) : wpAny (model prog w) A (compareOp .NotIn (.str ⟨#[c]⟩ t) (.str y u)) Q E s := by
  refine notIn_str ?_
  rw [StrLaws.found_one, hb]; exact h
theorem r_addS {x y : Str} {u : Tok} (hsz : x.length + y.length ≤ 100000) (h : ∀ t' k, Q (.str (x ++ y) t') { s with toks := k }) : wpAny (model prog w) A (binaryOp .Add (.str x t) (.str y u)) Q E s :=
  SBL.add (fun t' k _ => h t' k) (by rw [sizeLine_eq]; omega)
end
local macro_rules | `(tactic| ktr_enter) => `(tactic| (refine' code_def ?k1 ?k2 ?k3 ?k4 ?k5 ?kA ?kF ?kK ?k6 ?k7 ?k8 ?k9 ?kB ?_ ?c2 ?c3 ?c4 ?c5; (case kA => exact rfl); (case kF => exact rfl); (case kK => first | assumption | exact rfl); (case k1 => k_asm); (case k2 => k_asm); (case k3 => k_asm); (case k4 => k_asm); (case k5 => k_asm); (case k6 => k_is); (case k7 => k_is); (case k8 => ktr_room); (case k9 => first | exact BindsTo.of_eq rfl | exact binds_K (by k_in) rfl (by k_is) rfl rfl rfl); (case c5 => decide); (case kB => exact locs rfl); (case c2 => exact rfl); (case c3 => exact rfl); (case c4 => exact rfl); k_whole; intro g' L' h' FG' F' N' B' X' T'; (try dsimp only); (try k_fold)))
local macro_rules | `(tactic| walk_at "pyIter ref") => `(tactic| (refine hold ?_))
local macro_rules | `(tactic| walk_at "exec While Compare cons nil") => `(tactic| (refine hold ?_))
local macro_rules | `(tactic| walk_at "truthy str") => `(tactic| (refine SBL.truthy (by rw [sizeLine_eq]; omega) ?_; (try dsimp only)))
local macro_rules | `(tactic| walk_at "truthy str") => `(tactic| (refine SBL.truthy (x := wS _) (by rw [sizeLine_eq]; omega) ?_; (try dsimp only)))
local macro_rules | `(tactic| walk_at "call builtin:str.rstrip") => `(tactic| (refine r_rstripW (by omega) ?_; intro t' k'; (try dsimp only)))
local macro_rules | `(tactic| walk_at "call builtin:len") => `(tactic| (refine r_lenW (by omega) ?_; (try dsimp only)))
local macro_rules | `(tactic| walk_at "binaryOp Add str str") => `(tactic| (refine r_addS (by (try simp only [Str.length_append]); omega) ?_; intro t' k'; (try dsimp only)))
local macro_rules | `(tactic| walk_at "subscriptTail Name Name str int") => `(tactic| (refine' r_itemP ?k1 ?k2 ?k3 ?k6 ?k4 ?k5 ?_; (case k1 => with_reducible assumption); (case k2 => omega); (case k3 => omega); (case k6 => omega); (case k4 => with_unfolding_all rfl); (case k5 => (intro _; with_unfolding_all rfl)); (try dsimp only)))
local macro_rules | `(tactic| walk_at "subscriptTail Name UnaryOp str int") => `(tactic| (refine' r_itemT ?k1 ?k2 ?k3 ?k4 ?k5 ?_; (case k1 => rfl); (case k3 => with_reducible assumption); (case k2 => omega); (case k4 => with_unfolding_all rfl); (case k5 => (intro _; with_unfolding_all rfl)); (try dsimp only)))
local macro_rules | `(tactic| walk_at "compareOp NotIn str str") => `(tactic| ((first | refine r_notInC false (by decide +kernel) ?_ | refine r_notInC true (by decide +kernel) ?_); (try dsimp only [Bool.not_true, Bool.not_false])))
local macro_rules | `(tactic| walk_at "call builtin:str.splitlines") => `(tactic| (refine hold ?_))
theorem decoded (w : World) (rows : List Nat) (W : Nat) (t u : Tok) (hW : 4 ≤ W ∧ W ≤ 7) (hr : ∀ n ∈ rows, n ≤ 200) (hl : 1 ≤ rows.length ∧ rows.length ≤ 20) :
    Con w 72 [.str (enc W nlS rows) t, .str dots u] (fun _ => True) (fun _ r => ∃ t', r = .str (hardS rows) t') := by
  unfold Con
  k_fill
  intro loose mean mg mb dp un gd cn cs ad ccd cl outer A₀ base h₀ L m news s Q E B F X N T hk hpre hd hu hret
  refine wpAny_call ?_
  k_dflt ktr_enter
  rename Fr _ _ _ (fun y => _) => F0
  have F1 := fr_map (m' := fun y' => List.lookup y' [(Str.ofString "eol", Value.str dots u), (Str.ofString "encoded", Value.str (enc W nlS rows) t)]) F0 (by with_unfolding_all rfl)
  clear F0
  have hne : rows ≠ [] := by rintro rfl; simp at hl
  have hlen := enc_len (W := W) (eol := nlS) (by rw [nl_len]; omega) hr hl.2
  k_steps
  rotate_left 1
  · have h0 := enc_len0 hne (W := W) (by omega)
    refine hret _ [] _ _ (by assumption) (by assumption) (fun _ h => nomatch h) ⟨t, ?_⟩
    rw [h0, hard_zero]
  unfold Hold
  (rename Fr _ _ _ _ => F9)
  (rename News _ _ _ _ => N9)
  refine r_lines F9 N9 (by omega) ?_
  clear F9 N9
  intro B9 vs9 h9 k9 hvs9 hltB9 F9 N9
  try dsimp only
  k_steps
  rw [enc_lines hne] at hvs9
  unfold Hold
  refine' for_listP (σ := Str × Tok) (l := B9) (vs := vs9) (nn := 0) (news := (B9, lst vs9 0) :: news)
    (fun c => [(Str.ofString "decoded", Value.str c.1 c.2), (Str.ofString "encoded", Value.str (enc W nlS rows) t), (Str.ofString "eol", Value.str dots u)])
    (fun c => []) (fun i c => c.1 = decS ((partsOf W (rowsL rows)).take i)) (_, _) (by rfl) F9 N9 (List.Mem.head _) ?k1 ?k3 ?_ ?_
  case k1 => rfl
  case k3 => (intro p hp; simp only [List.mem_cons, List.not_mem_nil, or_false] at hp; rcases hp with rfl | rfl | rfl <;> with_unfolding_all rfl)
  · rintro i' v' ⟨D9, tD9⟩ m' h' tk' own' hi' hP' hoff' F' N'
    dsimp only at F' N' hP' hoff'
    simp only [List.cons_append, List.nil_append] at N' hoff'
    clear F9 N9
    obtain ⟨x', tx', rfl, hx'⟩ := strsAre_get2 hvs9 hi'
    obtain ⟨p9, hp9, rfl⟩ : ∃ p, (partsOf W (rowsL rows))[i']? = some p ∧ wS p = x' := by simpa using hx'
    have hp2 := parts_small hW.2 (fun n hn => hr n (rowsL_mem hn)) p9 (List.mem_of_getElem? hp9)
    have hp3 := wS_len p9
    have hp4 := wS_length p9
    have hgo := parts_good W (by omega) (rowsL rows) p9 (List.mem_of_getElem? hp9)
    have hsz1 := dec_size (W := W) hr hl.2
    have hsz2 := decS_take (partsOf W (rowsL rows)) i'
    rw [← hP'] at hsz2
    have hd3 := dots_len
    have hd4 := parts_take hp9
    (try k_fold)
    k_steps
    rotate_left 1
    · have h0 : p9 = (0, false) := wS_empty.mp (str_cps (List.length_eq_zero_iff.mp (by rw [← str_length']; omega)))
      refine' g_end (σ := Str × Tok) (D9 ++ dots, _) (by assumption) (by assumption) (fun p hp => List.mem_append_left _ hp) (fun p hp => List.mem_append_right ((B9, lst vs9 0) :: news) hp) hoff' ?k5 ?k6
      case k5 => (intro p hp; simp only [List.mem_cons, List.not_mem_nil, or_false] at hp; rcases hp with rfl | rfl | rfl <;> with_unfolding_all rfl)
      case k6 => (dsimp only; rw [hP', hd4, h0]; exact dec_eol _)
    unfold Hold
    (rename Fr _ _ _ _ => F9)
    (rename News _ _ _ _ => N9)
    refine' while_P (σ := Nat × Str × Tok × Tok) (news := (B9, lst vs9 0) :: (news ++ own'))
      (fun c => [(Str.ofString "i", Value.int (c.1 : Int) c.2.2.1), (Str.ofString "decoded", Value.str c.2.1 c.2.2.2), (Str.ofString "n", Value.int ((wS p9).length : Int) _), (Str.ofString "line", Value.str (wS p9) _), (Str.ofString "encoded", Value.str (enc W nlS rows) t), (Str.ofString "eol", Value.str dots u)])
      (fun c => [])
      (fun c => c.1 ≤ (wS p9).length ∧ c.2.1 = decAt D9 p9 c.1)
      (fun c => (wS p9).length - c.1) (0, D9, _, _) F9 N9 ⟨Nat.zero_le _, ?k4⟩ ?k3 ?_
    case k4 => exact (dec_start _ _ (by
      cases hb : p9.2 with
      | true => exact hgo hb
      | false => rw [hb] at hp4; simp at hp4; omega)).symm
    case k3 => (intro p hp; simp only [List.mem_cons, List.not_mem_nil, or_false] at hp; rcases hp with rfl | rfl | rfl | rfl | rfl | rfl <;> with_unfolding_all rfl)
    clear F9 N9 F'
    rintro ⟨i9, X9, ti9, tX9⟩ m9 h9 tk9 ⟨hi9, hX9⟩ F8 N8
    dsimp only at hi9 hX9 F8 N8
    simp only [List.nil_append] at N8
    have hsz3 := decAt_len D9 p9 i9
    rw [← hX9] at hsz3
    have hc1 : (⟨#[97]⟩ : Str).length = 1 := rfl
    have hc2 : (⟨#[61]⟩ : Str).length = 1 := rfl
    by_cases hlt9 : i9 < p9.1
    · have hit := item_a hlt9
      (try k_fold)
      k_steps
      · refine' w_end (σ := Nat × Str × Tok × Tok) (i9 + 1, X9 ++ Str.ofString "a" ++ dots, _, _) (by assumption) (by assumption) (fun p hp => hp) ?k5 ⟨?k6, ?k7⟩ ?k8
        case k5 => (intro p hp; simp only [List.mem_cons, List.not_mem_nil, or_false] at hp; rcases hp with rfl | rfl | rfl | rfl | rfl | rfl <;> with_unfolding_all rfl)
        case k6 => (dsimp only; omega)
        case k7 =>
          dsimp only
          rw [hX9]
          cases hb : p9.2 with
          | true => rw [hb] at hp4; simp at hp4; omega
          | false => rw [hb] at hp4; simp at hp4; exact dec_aEnd D9 p9 (by omega) hb
        case k8 => (dsimp only; omega)
      · refine' w_end (σ := Nat × Str × Tok × Tok) (i9 + 1, X9 ++ Str.ofString "a", _, _) (by assumption) (by assumption) (fun p hp => hp) ?k5 ⟨?k6, ?k7⟩ ?k8
        case k5 => (intro p hp; simp only [List.mem_cons, List.not_mem_nil, or_false] at hp; rcases hp with rfl | rfl | rfl | rfl | rfl | rfl <;> with_unfolding_all rfl)
        case k6 => (dsimp only; omega)
        case k7 =>
          dsimp only
          rw [hX9]
          cases hb : p9.2 with
          | true => rw [hb] at hp4; simp at hp4; exact dec_a D9 p9 (if h : i9 + 1 < p9.1 then .inl h else .inr ⟨by omega, hb⟩)
          | false => rw [hb] at hp4; simp at hp4; exact dec_a D9 p9 (.inl (by omega))
        case k8 => (dsimp only; omega)
    · by_cases hlt8 : i9 < (wS p9).length
      · have hb9 : p9.2 = true := by
          cases hb : p9.2 with
          | true => rfl
          | false => rw [hb] at hp4; simp at hp4; omega
        rw [if_pos hb9] at hp4
        have he9 : i9 = p9.1 := by omega
        have hit : Txt.item (wS p9) (i9 : Int) = ⟨#[61]⟩ := by
          have := item_e (n := p9.1)
          rw [he9, show p9 = (p9.1, true) from Prod.ext rfl hb9]
          exact this
        have hpr : ((i9 : Int) + 1 == ((wS p9).length : Int)) = true := beq_iff_eq.mpr (by omega)
        (try k_fold)
        k_steps
        refine' w_end (σ := Nat × Str × Tok × Tok) (i9 + 1, X9, _, tX9) (by assumption) (by assumption) (fun p hp => hp) ?k5 ⟨?k6, ?k7⟩ ?k8
        case k5 => (intro p hp; simp only [List.mem_cons, List.not_mem_nil, or_false] at hp; rcases hp with rfl | rfl | rfl | rfl | rfl | rfl <;> with_unfolding_all rfl)
        case k6 => (dsimp only; omega)
        case k7 =>
          dsimp only
          rw [hX9, he9]
          exact dec_eq D9 p9 hb9
        case k8 => (dsimp only; omega)
      · (try k_fold)
        k_steps
        refine' g_end (σ := Str × Tok) (X9, tX9) (by assumption) (by assumption) (fun p hp => List.mem_append_left _ hp) (fun p hp => List.mem_append_right ((B9, lst vs9 0) :: news) hp) hoff' ?k5 ?k6
        case k5 => (intro p hp; simp only [List.mem_cons, List.not_mem_nil, or_false] at hp; rcases hp with rfl | rfl | rfl <;> with_unfolding_all rfl)
        case k6 => (dsimp only; rw [hX9, hP', hd4]; exact dec_row _ _ (by omega))
  · rintro ⟨D9, tD9⟩ m' h' tk' hP' F' N'
    dsimp only at F' N' hP'
    simp only [List.nil_append] at N'
    rw [strsAre_len hvs9, List.length_map, List.take_length] at hP'
    clear F9 N9
    have hsz1 := dec_size (W := W) hr hl.2
    rw [← hP'] at hsz1
    have hx0 : (enc W nlS rows).length ≠ 0 := by omega
    have hd3 := dots_len
    by_cases hz : rows.getLast? = some 0
    · have hit := enc_item0 hne hz hx0
      have hr2 : 2 ≤ rows.length := by
        apply Nat.lt_of_not_le
        intro h2
        match rows, hne with
        | [n], _ =>
          simp at hz
          subst hz
          rw [hard_zero] at hx0
          exact hx0 rfl
        | n :: m :: r, _ => simp only [List.length_cons] at h2; omega
      rw [dec_end0 hz hr2] at hP'
      (try k_fold)
      k_steps
      (rename News _ _ _ _ => N5)
      refine hret _ [] _ _ (by assumption) (fun p hp => N5 p (.tail _ hp)) (fun _ h => nomatch h) ⟨tD9, by rw [hP']⟩
    · have hit := enc_item1 (W := W) hne hz
      have hP2 := dec_end1 (W := W) hne hz
      rw [hP2] at hP'
      subst hP'
      have hen := ends_dots (hardS rows)
      (try k_fold)
      k_steps
      (rename News _ _ _ _ => N5)
      refine hret _ [] _ _ (by assumption) (fun p hp => N5 p (.tail _ hp)) (fun _ h => nomatch h) ⟨_, congrArg (fun z => Value.str z _) ((congrArg (fun k : Nat => Txt.slice (hardS rows ++ dots) none (some (-(k : Int)))) hd3).trans (slice_dots _))⟩
end Mine
end
section
open PySem PySem.W PyProof.Rows PySem.Spec PySem.Calls PySem.Builtin PySem.Builtin.Str
set_option maxHeartbeats 6000000
namespace Mine
local macro_rules | `(tactic| ktr_enter) => `(tactic| (refine' code_def ?k1 ?k2 ?k3 ?k4 ?k5 ?kA ?kF ?kK ?k6 ?k7 ?k8 ?k9 ?kB ?_ ?c2 ?c3 ?c4 ?c5; (case kA => exact rfl); (case kF => exact rfl); (case kK => first | assumption | exact rfl); (case k1 => k_asm); (case k2 => k_asm); (case k3 => k_asm); (case k4 => k_asm); (case k5 => k_asm); (case k6 => k_is); (case k7 => k_is); (case k8 => ktr_room); (case k9 => first | exact BindsTo.of_eq rfl | exact binds_K (by k_in) rfl (by k_is) rfl rfl rfl); (case c5 => decide); (case kB => exact locs rfl); (case c2 => exact rfl); (case c3 => exact rfl); (case c4 => exact rfl); k_whole; intro g' L' h' FG' F' N' B' X' T'; (try dsimp only); (try k_fold)))
theorem il_keep {h₀ h : Heap} {L a : Addr} {m : Str → Option Value} {v : Array Value} (F : Fr h₀ L h m) (hl : h₀.IsList a v) : h.IsList a v := let ⟨o, e, r⟩ := hl; ⟨o, F.keep _ _ e, r⟩
local macro_rules | `(tactic| walk_at "call builtin:sum") => `(tactic| ((with_reducible rename Fr _ _ _ _ => F'); (with_reducible rename News _ _ _ _ => N'); (with_reducible rename IntsAre _ _ => I'); refine' LSm.sum_ints F' N' ?k1 ?k2 I' ?_; (case k1 => rfl); (case k2 => exact il_keep F' (by with_reducible assumption)); clear F' N'; intro h' tk' t' F' N'; (try dsimp only)))
local macro_rules | `(tactic| walk_at "subscriptTail") => `(tactic| ((with_reducible show wpAny _ _ (subscriptTail _ _ (Value.ref _) (Value.int _ _)) _ _ _); refine hold ?_))
local macro_rules | `(tactic| walk_at "pyIter ref") => `(tactic| (refine hold ?_))
theorem fm_b (a : Int) {b : Int} (h : 0 < b) : 0 ≤ a.fmod b ∧ a.fmod b < b := by
  rw [Int.fmod_eq_emod_of_nonneg _ (by omega)]
  exact ⟨Int.emod_nonneg _ (by omega), Int.emod_lt_of_pos _ h⟩
theorem fd_b {a b c : Int} (h0 : 0 ≤ a) (hb : 0 < b) (h : a < c * b) : 0 ≤ a.fdiv b ∧ a.fdiv b < c := by
  rw [Int.fdiv_eq_ediv_of_nonneg _ (by omega)]
  exact ⟨Int.ediv_nonneg h0 (by omega), Int.ediv_lt_of_lt_mul hb h⟩
/-- a pair of lists of small numbers -/
def TwoIn (led : Led) (v : Value) (lo : Nat) : Prop := ∃ (q a b : Addr) (k : Nat) (R S : List Nat), v = .ref q ∧ (q, tup [.ref a, .ref b] k) ∈ led ∧ RowsIn led a R ∧ RowsIn led b S ∧ lo ≤ R.length ∧ lo ≤ S.length ∧ R.length ≤ 1 ∧ S.length ≤ 1 ∧ (∀ n ∈ R, n ≤ 9) ∧ (∀ n ∈ S, n ≤ 9)
theorem TwoIn.of {led : Led} {lo : Nat} {q a b : Addr} {k ka kb : Nat} {R S : List Nat} {vr vs : List Value} (h1 : (q, tup [.ref a, .ref b] k) ∈ led) (h2 : (a, lst vr ka) ∈ led) (h3 : (b, lst vs kb) ∈ led) (hr : IntsAre vr (natInts R)) (hs : IntsAre vs (natInts S))
    (hb : lo ≤ R.length ∧ lo ≤ S.length ∧ R.length ≤ 1 ∧ S.length ≤ 1 ∧ (∀ n ∈ R, n ≤ 9) ∧ (∀ n ∈ S, n ≤ 9)) : TwoIn led (.ref q) lo := ⟨q, a, b, k, R, S, rfl, h1, ⟨vr, ka, h2, hr⟩, ⟨vs, kb, h3, hs⟩, hb⟩
section
variable {prog : Program} {w : World} {A : Around} {E : Value → Shared → Prop} {s : Shared} {h₀ : Heap} {L : Addr} {m : Str → Option Value} {news : Led} {u : Tok} {Q : Value → Shared → Prop}
theorem r_pick3 {value slice : PySem.Expr} {B : Addr} {x y z : Value} {n : Nat} {k : Int} (N : News h₀ L s.heap news) (hm : (B, lst [x, y, z] n) ∈ news) (h0 : 0 ≤ k) (h3 : k < 3) (h : ∀ v, (v = x ∨ v = y ∨ v = z) → Q v s)
    (hs : subscripted slice false (.ref B) (.int k u) = operate [.ref B, .int k u] (getItem (.ref B) (.int k u)) := by with_unfolding_all rfl) :
    wpAny (model prog w) A (subscriptTail value slice (.ref B) (.int k u)) Q E s := by
  have hl := News.isList N hm
  have hc : k = 0 ∨ k = 1 ∨ k = 2 := by omega
  rcases hc with rfl | rfl | rfl
  · exact tail_any hl.typeIs slot_list_getitem.lookup (wpAny_getItem_list hl (by decide) (by decide) (by rfl) (h _ (.inl rfl))) hs
  · exact tail_any hl.typeIs slot_list_getitem.lookup (wpAny_getItem_list hl (by decide) (by decide) (by rfl) (h _ (.inr (.inl rfl)))) hs
  · exact tail_any hl.typeIs slot_list_getitem.lookup (wpAny_getItem_list hl (by decide) (by decide) (by rfl) (h _ (.inr (.inr rfl)))) hs
end
theorem pick_init (r : List Value) (z : Value) : (slicePick (r ++ [z]).toArray none (some (-1)) none).toList = r := by
  have e : sliceBounds none (some (-1)) none (r ++ [z]).toArray.size = (((0 : Nat) : Int), ((r.length : Nat) : Int), 1) := by
    simp only [sliceBounds, Option.getD_none, show (1 : Int) > 0 by decide, if_true, show (-1 : Int) < 0 by decide, List.size_toArray, List.length_append, List.length_cons, List.length_nil]
    congr 1
    congr 1
    omega
  rw [kmk_pick_nat _ e]
  simp
theorem pick_two {led : Led} {lo : Nat} {x y z v : Value} (hv : v = x ∨ v = y ∨ v = z) (hx : TwoIn led x lo) (hy : TwoIn led y lo) (hz : TwoIn led z lo) : TwoIn led v lo := by
  rcases hv with rfl | rfl | rfl
  · exact hx
  · exact hy
  · exact hz
theorem two_led {h₀ h : Heap} {L : Addr} {led news : Led} {v : Value} {lo : Nat} {G : Prop} (N : News h₀ L h led) (h2 : TwoIn led v lo) (hled : ∃ tl, led = tl ++ news ∧ ∀ p ∈ tl, ∀ q ∈ news, q.1 < p.1)
    (k : ∀ tl, News h₀ L h (tl ++ news) → (∀ p ∈ tl, ∀ q ∈ news, q.1 < p.1) → TwoIn (tl ++ news) v lo → G) : G := by
  obtain ⟨tl, rfl, hlt⟩ := hled
  exact k tl N hlt h2
theorem two_led0 {h₀ h : Heap} {L : Addr} {led news : Led} {v : Value} {lo : Nat} {G : Prop} (N : News h₀ L h led) (h2 : TwoIn led v lo) (hled : ∃ tl, led = tl ++ news)
    (k : ∀ tl, News h₀ L h (tl ++ news) → TwoIn (tl ++ news) v lo → G) : G := by
  obtain ⟨tl, rfl⟩ := hled
  exact k tl N h2
theorem mem_mid {h₀ h : Heap} {L : Addr} {tl l : Led} {x : Addr × Obj} (_ : News h₀ L h (tl ++ x :: l)) : x ∈ tl ++ x :: l := List.mem_append_right _ (.head _)
theorem mem_mid2 {h₀ h : Heap} {L : Addr} {tl l : Led} {x y : Addr × Obj} (_ : News h₀ L h (tl ++ x :: y :: l)) : y ∈ tl ++ x :: y :: l := List.mem_append_right _ (.tail _ (.head _))
/-- what _law_drawn gives back -/
def DrawnIn (led : Led) (v : Value) : Prop := ∃ (q a b : Addr) (k : Nat) (R S : List Nat), v = .ref q ∧ (q, tup [.ref a, .ref b] k) ∈ led ∧ RowsIn led a R ∧ RowsIn led b S ∧ (1 ≤ R.length ∧ R.length ≤ 8 ∧ ∀ n ∈ R, n ≤ 100) ∧ 1 ≤ S.length ∧ S.length ≤ 8 ∧ ∀ n ∈ S, n ≤ 100
theorem ints_app {us vs : List Value} {R S : List Nat} (h : IntsAre us (natInts R)) (g : IntsAre vs (natInts S)) : IntsAre (us ++ vs) (natInts (R ++ S)) := by
  have e : natInts (R ++ S) = natInts R ++ natInts S := by simp [natInts]
  rw [e]
  generalize natInts R = A at h
  induction h with
  | nil => exact g
  | cons n t _ ih => exact .cons n t ih
theorem drawn_end {h₀ h : Heap} {L : Addr} {m : Str → Option Value} {news rest : Led} {Q : Value → Shared → Prop} {s : Shared} {tk : Nat} {Dq D1 D2 : Addr} {usx wsx : List Value} {R S : List Nat} {X1 X2 : Prop}
    (F : Fr h₀ L h m) (N : News h₀ L h ((Dq, tup [.ref D2, .ref D1] 0) :: (D1, lst wsx 0) :: (D2, lst usx 0) :: rest)) (sub : ∀ p ∈ news, p ∈ rest) (l2 : ∀ p ∈ rest, p.1 < D2) (l1 : D2 < D1 ∧ X1) (lq : D1 < Dq ∧ X2)
    (hR : IntsAre usx (natInts R)) (hS : IntsAre wsx (natInts S)) (bR : 1 ≤ R.length ∧ R.length ≤ 8 ∧ ∀ n ∈ R, n ≤ 100) (bS : 1 ≤ S.length ∧ S.length ≤ 8 ∧ ∀ n ∈ S, n ≤ 100)
    (hret : ∀ r tl h' tk', Fr h₀ L h' m → News h₀ L h' (tl ++ news) → (∀ p ∈ tl, ∀ q ∈ news, q.1 < p.1) → DrawnIn tl r → Q r { s with heap := h', toks := tk' }) : Q (.ref Dq) { s with heap := h, toks := tk } := by
  refine hret _ [(Dq, tup [.ref D2, .ref D1] 0), (D1, lst wsx 0), (D2, lst usx 0)] _ _ F ?_ ?_ ⟨Dq, D2, D1, 0, R, S, rfl, .head _, ⟨usx, 0, .tail _ (.tail _ (.head _)), hR⟩, ⟨wsx, 0, .tail _ (.head _), hS⟩, bR, bS⟩
  · intro p hp
    rcases List.mem_append.mp hp with hp | hp
    · exact N p (List.mem_append_left (bs := rest) hp)
    · exact N p (.tail _ (.tail _ (.tail _ (sub p hp))))
  · intro p hp q hq
    have h2 := l2 q (sub q hq)
    have h1 : @LT.lt Nat _ q.1 D1 := Nat.lt_trans h2 l1.1
    rcases List.mem_cons.mp hp with rfl | hp
    · exact Nat.lt_trans h1 lq.1
    · rcases List.mem_cons.mp hp with rfl | hp
      · exact h1
      · rw [List.mem_singleton.mp hp]; exact h2
theorem drawn_bounds {R R' : List Nat} {i : Nat} (h : 1 ≤ R.length ∧ R.length ≤ 1 + i ∧ ∀ n ∈ R, n ≤ 9 + 12 * i) (hi : i ≤ 6) (h1 : R'.length ≤ 1) (h2 : ∀ n ∈ R', n ≤ 9) : 1 ≤ (R ++ R').length ∧ (R ++ R').length ≤ 8 ∧ ∀ n ∈ R ++ R', n ≤ 100 := by
  refine ⟨by simp; omega, by simp; omega, fun n hn => ?_⟩
  rcases List.mem_append.mp hn with hn | hn
  · have := h.2.2 n hn; omega
  · have := h2 n hn; omega
def ConS (w : World) (f : Addr) (args : List Value) (Base : Heap → Prop) (Post : Led → Value → Prop) : Prop :=
  ∀ (loose : List Str) (mean : ExcName → Option Value) (mg mb : Str → Option Value) (dp un : Nat) (gd : Option (List Code)) (cn : Str) (cs : Scope) (a : Addr) (ccd : Value) (cl : List (Str × Addr)) (outer : List Env) (A₀ : Around) (base h₀ : Heap) (L : Addr) (m : Str → Option Value) (news : Led) (s : Shared)
    (Q E : Value → Shared → Prop),
    Below A₀ base outer h₀ → Fr h₀ L s.heap m → (Mine.heap w.params).In h₀ → News h₀ L s.heap news → Top Mine.view loose mean mg mb h₀ → cs.kind = .function → Base h₀ → dp + 6 < recursionLimit → un + 200 < cLine →
    (∀ r tl h' tk', Fr h₀ L h' m → News h₀ L h' (tl ++ news) → (∀ p ∈ tl, ∀ q ∈ news, q.1 < p.1) → Post tl r → Q r { s with heap := h', toks := tk' }) →
    wpAny (model PySem.Challenge.rw_re0098_01.row.prog w) (ktrTop dp un gd cn cs L a ccd cl outer) (call (.ref f) args) Q E s
local macro_rules | `(tactic| walk_at "subscriptTail Name Slice ref ref") => `(tactic| ((with_reducible show wpAny _ _ (subscriptTail _ (PySem.Expr.Slice none (some (PySem.Expr.UnaryOp _ _ _)) none _) (Value.ref _) (Value.ref _)) _ _ _); (with_reducible rename Fr _ _ _ _ => F'); (with_reducible rename News _ _ _ _ => N'); with_plain (refine' kmk_slice_lit F' N' ?kl ?kp ?kq ?ke ?_ ?ks ?kt ?kz; (case kl => exact News.isList N' (by repeat (first | exact List.Mem.head _ | apply List.Mem.tail))); (case kp => kmk_part); (case kq => kmk_part); (case ke => exact pick_init _ _); (case ks => with_unfolding_all rfl); (case kt => (intro _; with_unfolding_all rfl)); (case kz => (rw [sizeLine_eq]; simp only [List.size_toArray, List.length_append, List.length_cons, List.length_nil]; omega))); clear F' N'; intro D' h' F' N' l1; (try k_lt l1); (try dsimp only)))
local macro_rules | `(tactic| walk_at "binaryOp Add ref ref") => `(tactic| ((with_reducible rename Fr _ _ _ _ => F'); (with_reducible rename News _ _ _ _ => N'); refine' r_addL F' N' ?k1 ?k2 ?k3 ?_; (case k1 => (first | with_reducible assumption | exact List.mem_cons_of_mem _ (by with_reducible assumption) | (repeat (first | exact List.Mem.head _ | apply List.Mem.tail)))); (case k2 => (first | with_reducible assumption | exact List.mem_cons_of_mem _ (by with_reducible assumption) | (repeat (first | exact List.Mem.head _ | apply List.Mem.tail)))); (case k3 => ((try simp only [List.length_append, List.length_replicate, List.length_cons, List.length_nil]); omega)); clear F' N'; intro D' h' l1 F' N'; (try k_lt l1); (try dsimp only)))
local macro_rules | `(tactic| walk_at "subscriptTail") => `(tactic| ((with_reducible show wpAny _ _ (subscriptTail _ (PySem.Expr.UnaryOp _ _ _) (Value.ref _) (Value.int _ _)) _ _ _); (with_reducible rename News _ _ _ _ => N'); refine' i_last (k := -1) N' ?k1 rfl ?_ ?k2; (case k1 => (repeat (first | exact List.Mem.head _ | apply List.Mem.tail))); (case k2 => with_unfolding_all rfl); (try dsimp only)))
theorem snoc_ints {us : List Value} {R : List Nat} (h : IntsAre us (natInts R)) (h1 : 1 ≤ R.length) : ∃ us' R' y t, us = us' ++ [.int ((y : Nat) : Int) t] ∧ R = R' ++ [y] ∧ IntsAre us' (natInts R') := by
  obtain ⟨R', y, rfl⟩ := snocOf (l := R) (by rintro rfl; simp at h1)
  have e : natInts (R' ++ [y]) = natInts R' ++ [(y : Int)] := by simp [natInts]
  rw [e] at h
  suffices g : ∀ (A : List Int) (us : List Value) (y : Int), IntsAre us (A ++ [y]) → ∃ us' t, us = us' ++ [.int y t] ∧ IntsAre us' A by
    obtain ⟨us', t, h1, h2⟩ := g _ _ _ h
    exact ⟨us', R', y, t, h1, rfl, h2⟩
  intro A
  induction A with
  | nil =>
    intro us y h
    cases h with
    | cons _ t r => cases r; exact ⟨[], t, rfl, .nil⟩
  | cons a A ih =>
    intro us y h
    cases h with
    | cons _ t r =>
      obtain ⟨us', t', rfl, h2⟩ := ih _ _ r
      exact ⟨.int a t :: us', t', rfl, .cons a t h2⟩
theorem snoc_intsR {us : List Value} {R : List Nat} {k : Int} {y : Nat} {t : Tok} (h : IntsAre us (natInts R)) (e : k = (y : Int)) : IntsAre (us ++ [.int k t]) (natInts (R ++ [y])) := by
  subst e
  have e : natInts (R ++ [y]) = natInts R ++ [(y : Int)] := by simp [natInts]
  rw [e]
  generalize natInts R = A at h
  induction h with
  | nil => exact .cons _ _ .nil
  | cons a t' _ ih => exact .cons a t' ih
theorem for_listP2 {prog : Program} {w : World} {A : Around} {E : Value → Shared → Prop} {s : Shared} {env : Env} {h₀ g : Heap} {L : Addr} {x : Str} {body : List Stmt} {Q : Flow → Shared → Prop} {σ : Type} {l : Addr} {vs : List Value} {nn : Nat} {m₀ : Str → Option Value} {rest : Led}
    (N : News h₀ L g ((l, lst vs nn) :: rest)) (F : Fr h₀ L g m₀) (ps : σ → List (Str × Value)) (Lg : σ → Led) (P : Nat → σ → Prop) (c₀ : σ)
    (hh : A.handled = none) (eL : env.locals = L) (eg : s.heap = g) (hs : ∀ p ∈ Lg c₀, p ∈ rest) (hp : P 0 c₀) (hk : ∀ p ∈ ps c₀, m₀ p.1 = some p.2)
    (turn : ∀ i v c (m₁ : Str → Option Value) h tk own, vs[i]? = some v → P i c → OwnOff own ((Lg c ++ (l, lst vs nn) :: rest).map (·.1)) → Fr h₀ L h (fun y => if y = x then some v else (List.lookup y (ps c)).or (m₁ y)) → News h₀ L h (Lg c ++ (((l, lst vs nn) :: rest) ++ own)) →
      wpAny (model prog w) A (execs body env) (InvPostG h₀ L (JP ps Lg (P (i + 1)) ((l, lst vs nn) :: rest)) own { s with heap := h, toks := tk } Q) E { s with heap := h, toks := tk })
    (done : ∀ c (m₁ : Str → Option Value) h tk, P vs.length c → Fr h₀ L h (fun y => (List.lookup y (ps c)).or (m₁ y)) → News h₀ L h (Lg c ++ (l, lst vs nn) :: rest) → Q .next { s with heap := h, toks := tk }) :
    wpAny (model prog w) A (pyIter (.ref l)) (fun it s₂ => LoopAtV prog w A h₀ env x body Q E it s₂) E s := by
  subst eL; subst eg
  exact for_listP ps Lg P c₀ hh F (fun p hp => (List.mem_append.mp hp).elim (fun h => N p (.tail _ (hs p h))) (N p)) (.head _) hp hk turn done
theorem own_two {own : Led} {x y a b : Addr} {rest : List Addr} (h : OwnOff own (x :: y :: rest)) (ha : ∀ p ∈ own, p.1 ≠ a) (hb : ∀ p ∈ own, p.1 ≠ b) : OwnOff own (a :: b :: rest) := by
  intro p hp c hc
  rcases List.mem_cons.mp hc with rfl | hc
  · exact ha p hp
  · rcases List.mem_cons.mp hc with rfl | hc
    · exact hb p hp
    · exact h p hp c (.tail _ (.tail _ hc))
theorem own_ne {own A : Led} {D : Addr} (h : AllLt D (A ++ own)) : ∀ p ∈ own, p.1 ≠ D := fun p hp => Nat.ne_of_lt (of_allLt h p (List.mem_append_right _ hp))
def GoodR (i : Nat) (us : List Value) (R : List Nat) : Prop := IntsAre us (natInts R) ∧ 1 ≤ R.length ∧ R.length ≤ 1 + i ∧ ∀ n ∈ R, n ≤ 9 + 12 * i
theorem goodR_more {i : Nat} {us : List Value} {R : List Nat} (h : GoodR i us R) : GoodR (i + 1) us R := ⟨h.1, h.2.1, by have := h.2.2.1; omega, fun n hn => by have := h.2.2.2 n hn; omega⟩
theorem goodR_snoc {i : Nat} {us : List Value} {R : List Nat} {k : Int} {t : Tok} (h : GoodR i us R) (h0 : 0 ≤ k) (h1 : k ≤ 12) : GoodR (i + 1) (us ++ [.int k t]) (R ++ [k.toNat]) := by
  refine ⟨snoc_intsR h.1 (by omega), by simp, by have := h.2.2.1; simp; omega, fun n hn => ?_⟩
  rcases List.mem_append.mp hn with hn | hn
  · have := h.2.2.2 n hn; omega
  · rw [List.mem_singleton.mp hn]; omega
theorem goodR_last {i : Nat} {us : List Value} {R : List Nat} {y : Nat} {k : Int} {t t' : Tok} (h : GoodR i (us ++ [.int (y : Int) t]) (R ++ [y])) (hu : IntsAre us (natInts R)) (h0 : (y : Int) ≤ k) (h1 : k ≤ y + 12) : GoodR (i + 1) (us ++ [.int k t']) (R ++ [k.toNat]) := by
  refine ⟨snoc_intsR hu (by omega), by simp, by have := h.2.2.1; simp at this ⊢; omega, fun n hn => ?_⟩
  rcases List.mem_append.mp hn with hn | hn
  · have := h.2.2.2 n (List.mem_append_left _ hn); omega
  · have := h.2.2.2 y (by simp)
    rw [List.mem_singleton.mp hn]; omega
local macro_rules | `(tactic| walk_at "exec For Name Subscript cons nil") => `(tactic| (k_here; (rename Fr _ _ _ _ => lF'); (with_unfolding_all refine' For_invVF lF' ?k1 ?k2 ?_ ?k3 ?k4; (case k1 => exact rfl); (case k2 => exact rfl); (case k3 => (intro _; rfl)); (case k4 => assumption); k_whole)))
theorem fr_cons {h₀ h : Heap} {L : Addr} {x : Str} {v : Value} {ps : List (Str × Value)} (F : Fr h₀ L h (fun y => if y = x then some v else List.lookup y ps)) : Fr h₀ L h (fun y => List.lookup y ((x, v) :: ps)) := by
  refine fr_map F ?_
  funext y
  rw [List.lookup_cons]
  by_cases e : y = x
  · rw [if_pos e, beq_iff_eq.mpr e]
  · rw [if_neg e, beq_eq_false_iff_ne.mpr e]
theorem fr_cons2 {h₀ h : Heap} {L : Addr} {x x₂ : Str} {v v₂ : Value} {ps : List (Str × Value)} (F : Fr h₀ L h (fun y => if y = x then some v else if y = x₂ then some v₂ else List.lookup y ps)) : Fr h₀ L h (fun y => List.lookup y ((x, v) :: (x₂, v₂) :: ps)) := by
  refine fr_cons (fr_map F ?_)
  funext y
  by_cases e : y = x
  · rw [if_pos e, if_pos e]
  · rw [if_neg e, if_neg e, List.lookup_cons]
    by_cases e2 : y = x₂
    · rw [if_pos e2, beq_iff_eq.mpr e2]
    · rw [if_neg e2, beq_eq_false_iff_ne.mpr e2]
theorem fr_or {h₀ h : Heap} {L : Addr} {x : Str} {v : Value} {ps : List (Str × Value)} {m₁ : Str → Option Value} (F : Fr h₀ L h (fun y => if y = x then some v else (List.lookup y ps).or (m₁ y))) : Fr h₀ L h (fun y => (List.lookup y ((x, v) :: ps)).or (m₁ y)) := by
  refine fr_map F ?_
  funext y
  rw [List.lookup_cons]
  by_cases e : y = x
  · rw [if_pos e, beq_iff_eq.mpr e]; rfl
  · rw [if_neg e, beq_eq_false_iff_ne.mpr e]
noncomputable def drnB : List Stmt := by
  refine (fun (x : List Stmt) (_ : bodyOf (st 25) = x) => x) ?x ?h
  case h => (dsimp only [bodyOf, st, PySem.Challenge.pw_re0098_01, List.drop, List.headD]; exact rfl)
noncomputable def drnSc : Scope := by
  refine (fun (x : Scope) (_ : scopeOf (st 25) = x) => x) ?x ?h
  case h => (dsimp only [scopeOf, st, PySem.Challenge.pw_re0098_01, List.drop, List.headD]; exact rfl)
noncomputable def drn0 : Stmt := by
  refine (fun (x : Stmt) (_ : (drnB.drop 0).headD default = x) => x) ?x ?h
  case h => (dsimp only [drnB, List.drop, List.headD]; exact rfl)
noncomputable def drn1 : Stmt := by
  refine (fun (x : Stmt) (_ : (drnB.drop 1).headD default = x) => x) ?x ?h
  case h => (dsimp only [drnB, List.drop, List.headD]; exact rfl)
noncomputable def drn2 : Stmt := by
  refine (fun (x : Stmt) (_ : (drnB.drop 2).headD default = x) => x) ?x ?h
  case h => (dsimp only [drnB, List.drop, List.headD]; exact rfl)
noncomputable def drn3 : Stmt := by
  refine (fun (x : Stmt) (_ : (drnB.drop 3).headD default = x) => x) ?x ?h
  case h => (dsimp only [drnB, List.drop, List.headD]; exact rfl)
noncomputable def drn4 : Stmt := by
  refine (fun (x : Stmt) (_ : (drnB.drop 4).headD default = x) => x) ?x ?h
  case h => (dsimp only [drnB, List.drop, List.headD]; exact rfl)
noncomputable def drnT : List Stmt := by
  refine (fun (x : List Stmt) (_ : (match drn2 with | .For _ _ b _ _ => b | _ => []) = x) => x) ?x ?h
  case h => (dsimp only [drn2]; exact rfl)
noncomputable def dtn0 : Stmt := by
  refine (fun (x : Stmt) (_ : (drnT.drop 0).headD default = x) => x) ?x ?h
  case h => (dsimp only [drnT, List.drop, List.headD]; exact rfl)
noncomputable def dtn1 : Stmt := by
  refine (fun (x : Stmt) (_ : (drnT.drop 1).headD default = x) => x) ?x ?h
  case h => (dsimp only [drnT, List.drop, List.headD]; exact rfl)
noncomputable def dtn2 : Stmt := by
  refine (fun (x : Stmt) (_ : (drnT.drop 2).headD default = x) => x) ?x ?h
  case h => (dsimp only [drnT, List.drop, List.headD]; exact rfl)
noncomputable abbrev denv (L' : Addr) : Env := envOf (Str.ofString "_law_drawn") drnSc L' 79 (.ref 78)
section
variable {w : World} {g : Heap} {loose : List Str} {mean : ExcName → Option Value} {mg mb : Str → Option Value} {dp un : Nat} {gd : Option (List Code)} {cn : Str} {cs : Scope} {L L' a : Addr} {ccd : Value} {cl : List (Str × Addr)} {outer : List Env} {s : Shared} {Q : Flow → Shared → Prop} {E : Value → Shared → Prop} {la : Addr} {vs : List Value} {ns : List Int} {news : Led}
theorem drn_s0 (X : (Mine.heap w.params).In g) (T : Top Mine.view loose mean mg mb g) (I : IntsAre vs ns) (H : g.IsList la vs.toArray) (hlen : ns.length ≤ 63)
    (F : Fr g L' s.heap (fun y => List.lookup y [(Str.ofString "script", Value.ref la)])) (N : News g L' s.heap news)
    (k : ∀ tp h tk, Fr g L' h (fun y => List.lookup y [(Str.ofString "spot", Value.int ((ns.sum.fdiv 7).fmod 9) tp), (Str.ofString "script", Value.ref la)]) → News g L' h news → Q .next { s with heap := h, toks := tk }) :
    wpAny (model PySem.Challenge.rw_re0098_01.row.prog w) ((ktrTop dp un gd cn cs L a ccd cl outer).deeper (denv L')) (exec drn0 (denv L')) Q E s := by
  revert X T
  k_fill
  intro X T
  unfold drn0
  dsimp only
  k_steps
  (rename Fr _ _ _ _ => F5)
  (rename News _ _ _ _ => N5)
  exact k _ _ _ (fr_cons F5) N5
theorem drn_s1 {tp : Tok} (X : (Mine.heap w.params).In g) (T : Top Mine.view loose mean mg mb g)
    (F : Fr g L' s.heap (fun y => List.lookup y [(Str.ofString "spot", Value.int ((ns.sum.fdiv 7).fmod 9) tp), (Str.ofString "script", Value.ref la)])) (N : News g L' s.heap news)
    (k : ∀ a1 b1 us ws n m R S h tk, Fr g L' h (fun y => List.lookup y [(Str.ofString "seen", Value.ref b1), (Str.ofString "rows", Value.ref a1), (Str.ofString "spot", Value.int ((ns.sum.fdiv 7).fmod 9) tp), (Str.ofString "script", Value.ref la)]) → News g L' h ((a1, lst us n) :: (b1, lst ws m) :: news) → GoodR 0 us R → GoodR 0 ws S → Q .next { s with heap := h, toks := tk }) :
    wpAny (model PySem.Challenge.rw_re0098_01.row.prog w) ((ktrTop dp un gd cn cs L a ccd cl outer).deeper (denv L')) (exec drn1 (denv L')) Q E s := by
  revert X T
  k_fill
  intro X T
  unfold drn1
  dsimp only
  k_steps
  unfold Hold
  (rename Fr _ _ _ _ => F9)
  (rename News _ _ _ _ => N9)
  refine r_pick3 N9 (List.Mem.head _) (fm_b _ (by decide)).1 (fm_b _ (by decide)).2 ?_
  intro v9 hv9
  refine' two_led0 (news := news) N9 (pick_two (lo := 1) hv9 ?p1 ?p2 ?p3) ⟨[_, _, _, _, _, _, _, _, _, _], rfl⟩ ?_
  case p1 =>
    refine' TwoIn.of (R := [0]) (S := [4]) ?m1 ?m2 ?m3 ?i1 ?i2 (by simp)
    case m1 => (repeat (first | exact List.Mem.head _ | apply List.Mem.tail))
    case m2 => (repeat (first | exact List.Mem.head _ | apply List.Mem.tail))
    case m3 => (repeat (first | exact List.Mem.head _ | apply List.Mem.tail))
    case i1 => first | exact .nil | exact .cons _ _ .nil
    case i2 => first | exact .nil | exact .cons _ _ .nil
  case p2 =>
    refine' TwoIn.of (R := [5]) (S := [5]) ?m1 ?m2 ?m3 ?i1 ?i2 (by simp)
    case m1 => (repeat (first | exact List.Mem.head _ | apply List.Mem.tail))
    case m2 => (repeat (first | exact List.Mem.head _ | apply List.Mem.tail))
    case m3 => (repeat (first | exact List.Mem.head _ | apply List.Mem.tail))
    case i1 => first | exact .nil | exact .cons _ _ .nil
    case i2 => first | exact .nil | exact .cons _ _ .nil
  case p3 =>
    refine' TwoIn.of (R := [7]) (S := [9]) ?m1 ?m2 ?m3 ?i1 ?i2 (by simp)
    case m1 => (repeat (first | exact List.Mem.head _ | apply List.Mem.tail))
    case m2 => (repeat (first | exact List.Mem.head _ | apply List.Mem.tail))
    case m3 => (repeat (first | exact List.Mem.head _ | apply List.Mem.tail))
    case i1 => first | exact .nil | exact .cons _ _ .nil
    case i2 => first | exact .nil | exact .cons _ _ .nil
  clear N9 hv9
  (repeat (rename _ ∧ _ => hz; clear hz))
  intro tl9 N9 h29
  obtain ⟨q9, a9, b9, k9, R9, S9, rfl, hq9, ⟨us9, n9, hus9, hI9⟩, ⟨ws9, m9, hws9, hJ9⟩, hb9⟩ := h29
  have hma := hus9
  have hmb := hws9
  k_steps
  (rename Fr _ _ _ _ => F5)
  (rename News _ _ _ _ => N5)
  refine k a9 b9 us9 ws9 n9 m9 R9 S9 _ _ (fr_cons2 F5) (fun p hp => N5 p ?_) ⟨hI9, hb9.1, hb9.2.2.1, fun n hn => hb9.2.2.2.2.1 n hn⟩ ⟨hJ9, hb9.2.1, hb9.2.2.2.1, fun n hn => hb9.2.2.2.2.2 n hn⟩
  rcases List.mem_cons.mp hp with rfl | hp
  · exact hus9
  · rcases List.mem_cons.mp hp with rfl | hp
    · exact hws9
    · exact List.mem_append_right _ hp
theorem drn_t0 {a1 b1 : Addr} {tp tx : Tok} {x9 : Int} {m₁ : Str → Option Value} (X : (Mine.heap w.params).In g) (T : Top Mine.view loose mean mg mb g)
    (F : Fr g L' s.heap (fun y => (List.lookup y [(Str.ofString "x", Value.int x9 tx), (Str.ofString "rows", Value.ref a1), (Str.ofString "seen", Value.ref b1), (Str.ofString "spot", Value.int ((ns.sum.fdiv 7).fmod 9) tp), (Str.ofString "script", Value.ref la)]).or (m₁ y))) (N : News g L' s.heap news)
    (k : ∀ tz h tk, Fr g L' h (fun y => (List.lookup y [(Str.ofString "size", Value.int ((x9.fdiv 6).fmod 9) tz), (Str.ofString "x", Value.int x9 tx), (Str.ofString "rows", Value.ref a1), (Str.ofString "seen", Value.ref b1), (Str.ofString "spot", Value.int ((ns.sum.fdiv 7).fmod 9) tp), (Str.ofString "script", Value.ref la)]).or (m₁ y)) → News g L' h news → Q .next { s with heap := h, toks := tk }) :
    wpAny (model PySem.Challenge.rw_re0098_01.row.prog w) ((ktrTop dp un gd cn cs L a ccd cl outer).deeper (denv L')) (exec dtn0 (denv L')) Q E s := by
  revert X T
  k_fill
  intro X T
  unfold dtn0
  dsimp only
  k_steps
  (rename Fr _ _ _ _ => F5)
  (rename News _ _ _ _ => N5)
  exact k _ _ _ (fr_or F5) N5
theorem drn_t1 {a1 b1 : Addr} {tp tx tz : Tok} {x9 z9 : Int} {m₁ : Str → Option Value} (X : (Mine.heap w.params).In g) (T : Top Mine.view loose mean mg mb g)
    (F : Fr g L' s.heap (fun y => (List.lookup y [(Str.ofString "size", Value.int z9 tz), (Str.ofString "x", Value.int x9 tx), (Str.ofString "rows", Value.ref a1), (Str.ofString "seen", Value.ref b1), (Str.ofString "spot", Value.int ((ns.sum.fdiv 7).fmod 9) tp), (Str.ofString "script", Value.ref la)]).or (m₁ y))) (N : News g L' s.heap news)
    (k : ∀ tm h tk, Fr g L' h (fun y => (List.lookup y [(Str.ofString "more", Value.int ((x9.fdiv 54).fmod 5) tm), (Str.ofString "size", Value.int z9 tz), (Str.ofString "x", Value.int x9 tx), (Str.ofString "rows", Value.ref a1), (Str.ofString "seen", Value.ref b1), (Str.ofString "spot", Value.int ((ns.sum.fdiv 7).fmod 9) tp), (Str.ofString "script", Value.ref la)]).or (m₁ y)) → News g L' h news → Q .next { s with heap := h, toks := tk }) :
    wpAny (model PySem.Challenge.rw_re0098_01.row.prog w) ((ktrTop dp un gd cn cs L a ccd cl outer).deeper (denv L')) (exec dtn1 (denv L')) Q E s := by
  revert X T
  k_fill
  intro X T
  unfold dtn1
  dsimp only
  k_steps
  (rename Fr _ _ _ _ => F5)
  (rename News _ _ _ _ => N5)
  exact k _ _ _ (fr_or F5) N5
theorem drn_t2 {a1 b1 : Addr} {tp tx tz tm : Tok} {x9 z9 o9 : Int} {m₁ : Str → Option Value} {us ws : List Value} {n m i : Nat} {R S : List Nat} (X : (Mine.heap w.params).In g) (T : Top Mine.view loose mean mg mb g) (z1 : 0 ≤ z9 ∧ z9 < 9) (z2 : 0 ≤ o9 ∧ o9 < 5) (hi : i < 6) (hR8 : GoodR i us R) (hS8 : GoodR i ws S)
    (F : Fr g L' s.heap (fun y => (List.lookup y [(Str.ofString "more", Value.int o9 tm), (Str.ofString "size", Value.int z9 tz), (Str.ofString "x", Value.int x9 tx), (Str.ofString "rows", Value.ref a1), (Str.ofString "seen", Value.ref b1), (Str.ofString "spot", Value.int ((ns.sum.fdiv 7).fmod 9) tp), (Str.ofString "script", Value.ref la)]).or (m₁ y))) (N : News g L' s.heap ((a1, lst us n) :: (b1, lst ws m) :: news))
    (k : ∀ a2 b2 us2 ws2 n2 m2 R2 S2 (m' : Str → Option Value) h tk, Fr g L' h m' → (∀ p ∈ [(Str.ofString "rows", Value.ref a2), (Str.ofString "seen", Value.ref b2), (Str.ofString "spot", Value.int ((ns.sum.fdiv 7).fmod 9) tp), (Str.ofString "script", Value.ref la)], m' p.1 = some p.2) → News g L' h ((a2, lst us2 n2) :: (b2, lst ws2 m2) :: news) → (a2 = a1 ∨ ∀ p ∈ news, p.1 ≠ a2) → (b2 = b1 ∨ ∀ p ∈ news, p.1 ≠ b2) → GoodR (i + 1) us2 R2 → GoodR (i + 1) ws2 S2 → Q .next { s with heap := h, toks := tk }) :
    wpAny (model PySem.Challenge.rw_re0098_01.row.prog w) ((ktrTop dp un gd cn cs L a ccd cl outer).deeper (denv L')) (exec dtn2 (denv L')) Q E s := by
  have hr1 := hR8.2.2.1
  have hs1 := hS8.2.2.1
  obtain ⟨us7, R7, y7, ty7, rfl, rfl, hI7⟩ := snoc_ints hR8.1 hR8.2.1
  obtain ⟨ws7, S7, y6, ty6, rfl, rfl, hJ7⟩ := snoc_ints hS8.1 hS8.2.1
  have q1 : us7.length ≤ 100 := by have := hR8.1.length; simp [natInts] at this hr1; omega
  have q2 : ws7.length ≤ 100 := by have := hS8.1.length; simp [natInts] at this hs1; omega
  revert X T
  k_fill
  intro X T
  unfold dtn2
  dsimp only
  k_steps
  all_goals (
    (rename Fr _ _ _ _ => F5)
    (rename News _ _ _ _ => N5)
    refine' k _ _ _ _ _ _ _ _ _ _ _ F5 ?e4 (fun p hp => N5 p ?e1) ?e2 ?e3 ?e5 ?e6
    case e4 => (intro p hp; simp only [List.mem_cons, List.not_mem_nil, or_false] at hp; rcases hp with rfl | rfl | rfl | rfl <;> with_unfolding_all rfl)
    case e1 =>
      rcases List.mem_cons.mp hp with rfl | hp
      · (repeat (first | exact List.Mem.head _ | apply List.Mem.tail))
      · rcases List.mem_cons.mp hp with rfl | hp
        · (repeat (first | exact List.Mem.head _ | apply List.Mem.tail))
        · (repeat (first | exact hp | apply List.Mem.tail))
    case e5 => ((try dsimp only); first | exact goodR_more hR8 | (refine goodR_last (t' := _) hR8 hI7 ?_ ?_ <;> omega) | (refine goodR_snoc (t := _) hR8 ?_ ?_ <;> omega))
    case e6 => ((try dsimp only); first | exact goodR_more hS8 | (refine goodR_last (t' := _) hS8 hJ7 ?_ ?_ <;> omega) | (refine goodR_snoc (t := _) hS8 ?_ ?_ <;> omega))
    case e2 =>
      (repeat (with_reducible rename _ ∧ _ => hz; obtain ⟨_, _⟩ := hz))
      first | exact Or.inl rfl | exact Or.inr (fun p hp => Nat.ne_of_lt (of_allLt (by with_reducible assumption) p hp))
    case e3 =>
      (repeat (with_reducible rename _ ∧ _ => hz; obtain ⟨_, _⟩ := hz))
      first | exact Or.inl rfl | exact Or.inr (fun p hp => Nat.ne_of_lt (of_allLt (by with_reducible assumption) p hp)))
theorem drn_s2 {a1 b1 : Addr} {tp : Tok} {us ws : List Value} {n m : Nat} {R S : List Nat} (X : (Mine.heap w.params).In g) (T : Top Mine.view loose mean mg mb g) (hE : PassesOwn (model PySem.Challenge.rw_re0098_01.row.prog w) ((ktrTop dp un gd cn cs L a ccd cl outer).deeper (denv L')) (denv L') E) (I : IntsAre vs ns) (H : g.IsList la vs.toArray) (hlen : ns.length ≤ 63) (hR : GoodR 0 us R) (hS : GoodR 0 ws S)
    (F : Fr g L' s.heap (fun y => List.lookup y [(Str.ofString "seen", Value.ref b1), (Str.ofString "rows", Value.ref a1), (Str.ofString "spot", Value.int ((ns.sum.fdiv 7).fmod 9) tp), (Str.ofString "script", Value.ref la)])) (N : News g L' s.heap ((a1, lst us n) :: (b1, lst ws m) :: news))
    (k : ∀ a2 b2 us2 ws2 n2 m2 R2 S2 (m₁ : Str → Option Value) h tk, Fr g L' h (fun y => (List.lookup y [(Str.ofString "rows", Value.ref a2), (Str.ofString "seen", Value.ref b2), (Str.ofString "spot", Value.int ((ns.sum.fdiv 7).fmod 9) tp), (Str.ofString "script", Value.ref la)]).or (m₁ y)) → News g L' h ((a2, lst us2 n2) :: (b2, lst ws2 m2) :: news) → GoodR 6 us2 R2 → GoodR 6 ws2 S2 → Q .next { s with heap := h, toks := tk }) :
    wpAny (model PySem.Challenge.rw_re0098_01.row.prog w) ((ktrTop dp un gd cn cs L a ccd cl outer).deeper (denv L')) (exec drn2 (denv L')) Q E s := by
  revert X T
  k_fill
  intro X T
  unfold drn2
  dsimp only
  k_steps
  unfold Hold
  (rename Fr _ _ _ _ => F9)
  (rename News _ _ _ _ => N9)
  (rename IntsAre _ (List.take _ _) => I9)
  (rename List Value => ws9)
  have hv6 : ws9.length ≤ 6 := by rw [I9.length, List.length_take]; omega
  refine' for_listP2 (σ := (Addr × List Value × Nat × List Nat) × (Addr × List Value × Nat × List Nat)) N9 F9
    (fun c => [(Str.ofString "rows", Value.ref c.1.1), (Str.ofString "seen", Value.ref c.2.1), (Str.ofString "spot", Value.int ((ns.sum.fdiv 7).fmod 9) tp), (Str.ofString "script", Value.ref la)])
    (fun c => [(c.1.1, lst c.1.2.1 c.1.2.2.1), (c.2.1, lst c.2.2.1 c.2.2.2.1)])
    (fun i c => GoodR i c.1.2.1 c.1.2.2.2 ∧ GoodR i c.2.2.1 c.2.2.2.2) ((a1, us, n, R), (b1, ws, m, S)) ?kh ?kL ?kg ?k0 ?k1 ?k3 ?_ ?_
  case kh => rfl
  case kL => rfl
  case kg => rfl
  case k0 => (intro p hp; simp only [List.mem_cons, List.not_mem_nil, or_false] at hp; rcases hp with rfl | rfl; exact .head _; exact .tail _ (.head _))
  case k1 => exact ⟨hR, hS⟩
  case k3 => (intro p hp; simp only [List.mem_cons, List.not_mem_nil, or_false] at hp; rcases hp with rfl | rfl | rfl | rfl <;> with_unfolding_all rfl)
  · rintro i' v' ⟨⟨a8, us8, n8, R8⟩, ⟨b8, ws8, k8, S8⟩⟩ m' h' tk' own' hi' ⟨hR8, hS8⟩ hoff' F' N'
    dsimp only at F' N' hR8 hS8 hoff'
    simp only [List.cons_append, List.nil_append] at N' hoff'
    clear F9 N9
    have hi6 : i' < 6 := by
      have h1 := (List.getElem?_eq_some_iff.mp hi').1
      omega
    obtain ⟨x', hx'⟩ : ∃ x, (List.take 6 ns)[i']? = some x := by
      have h1 := (List.getElem?_eq_some_iff.mp hi').1
      rw [I9.length] at h1
      exact ⟨_, List.getElem?_eq_getElem h1⟩
    obtain ⟨t7, hx7⟩ := I9.get i' x' hx'
    have hvx := Option.some.inj (hi'.symm.trans hx7)
    subst hvx
    refine wpAny_execs_cons (drn_t0 X T (fr_or F') N' ?_)
    clear F' N'
    intro tz h1 tk1 F1 N1
    refine wpAny_execs_cons (drn_t1 X T F1 N1 ?_)
    clear F1 N1
    intro tm h1 tk1 F1 N1
    refine wpAny_execs_cons (drn_t2 X T (fm_b _ (by decide)) (fm_b _ (by decide)) hi6 hR8 hS8 F1 N1 ?_)
    clear F1 N1
    intro a3 b3 us3 ws3 n3 m3 R3 S3 m4 h1 tk1 F1 hm4 N1 fa fb hR3 hS3
    refine wpAny_execs_nil ?_
    refine g_end (σ := (Addr × List Value × Nat × List Nat) × (Addr × List Value × Nat × List Nat)) ((a3, us3, n3, R3), (b3, ws3, m3, S3)) F1 N1 (fun p hp => ?_) (fun p hp => .tail _ (.tail _ (List.mem_append_right (_ :: _ :: _ :: news) hp))) (own_two hoff' (fun p hp => ?_) (fun p hp => ?_)) hm4 ⟨hR3, hS3⟩
    · rcases List.mem_cons.mp hp with rfl | hp
      · exact .head _
      · rcases List.mem_cons.mp hp with rfl | hp
        · exact .tail _ (.head _)
        · exact .tail _ (.tail _ (List.mem_append_left own' hp))
    · rcases fa with rfl | fa
      · exact hoff'.ne (.head _) p hp
      · exact fa p (List.mem_append_right (_ :: _ :: _ :: news) hp)
    · rcases fb with rfl | fb
      · exact hoff'.ne (.tail _ (.head _)) p hp
      · exact fb p (List.mem_append_right (_ :: _ :: _ :: news) hp)
  · rintro ⟨⟨a8, us8, n8, R8⟩, ⟨b8, ws8, k8, S8⟩⟩ m' h' tk' ⟨hR8, hS8⟩ F' N'
    dsimp only at F' N' hR8 hS8
    simp only [List.cons_append, List.nil_append] at N'
    clear F9 N9
    k_steps
    refine k a8 b8 us8 ws8 n8 k8 R8 S8 m' _ _ F' (fun p hp => N' p ?_) ⟨hR8.1, hR8.2.1, Nat.le_trans hR8.2.2.1 (by omega), fun n hn => Nat.le_trans (hR8.2.2.2 n hn) (by omega)⟩ ⟨hS8.1, hS8.2.1, Nat.le_trans hS8.2.2.1 (by omega), fun n hn => Nat.le_trans (hS8.2.2.2 n hn) (by omega)⟩
    rcases List.mem_cons.mp hp with rfl | hp
    · exact .head _
    · rcases List.mem_cons.mp hp with rfl | hp
      · exact .tail _ (.head _)
      · exact .tail _ (.tail _ (.tail _ (.tail _ (.tail _ hp))))
theorem fr_or2 {h₀ h : Heap} {L : Addr} {x x₂ : Str} {v v₂ : Value} {ps : List (Str × Value)} {m₁ : Str → Option Value} (F : Fr h₀ L h (fun y => if y = x then some v else if y = x₂ then some v₂ else (List.lookup y ps).or (m₁ y))) : Fr h₀ L h (fun y => (List.lookup y ((x, v) :: (x₂, v₂) :: ps)).or (m₁ y)) := by
  refine fr_or (fr_map F ?_)
  funext y
  by_cases e : y = x
  · rw [if_pos e, if_pos e]
  · rw [if_neg e, if_neg e, List.lookup_cons]
    by_cases e2 : y = x₂
    · rw [if_pos e2, beq_iff_eq.mpr e2]; rfl
    · rw [if_neg e2, beq_eq_false_iff_ne.mpr e2]
theorem drn_s3 {a1 b1 : Addr} {tp : Tok} {m₁ : Str → Option Value} (X : (Mine.heap w.params).In g) (T : Top Mine.view loose mean mg mb g)
    (F : Fr g L' s.heap (fun y => (List.lookup y [(Str.ofString "rows", Value.ref a1), (Str.ofString "seen", Value.ref b1), (Str.ofString "spot", Value.int ((ns.sum.fdiv 7).fmod 9) tp), (Str.ofString "script", Value.ref la)]).or (m₁ y))) (N : News g L' s.heap news)
    (k : ∀ e1 e2 us ws n m R S h tk, Fr g L' h (fun y => (List.lookup y [(Str.ofString "end_seen", Value.ref e2), (Str.ofString "end_asked", Value.ref e1), (Str.ofString "rows", Value.ref a1), (Str.ofString "seen", Value.ref b1), (Str.ofString "spot", Value.int ((ns.sum.fdiv 7).fmod 9) tp), (Str.ofString "script", Value.ref la)]).or (m₁ y)) → News g L' h ((e1, lst us n) :: (e2, lst ws m) :: news) → IntsAre us (natInts R) → IntsAre ws (natInts S) → R.length ≤ 1 ∧ S.length ≤ 1 ∧ (∀ n ∈ R, n ≤ 9) ∧ (∀ n ∈ S, n ≤ 9) → Q .next { s with heap := h, toks := tk }) :
    wpAny (model PySem.Challenge.rw_re0098_01.row.prog w) ((ktrTop dp un gd cn cs L a ccd cl outer).deeper (denv L')) (exec drn3 (denv L')) Q E s := by
  revert X T
  k_fill
  intro X T
  unfold drn3
  dsimp only
  k_steps
  unfold Hold
  (rename Fr _ _ _ _ => F9)
  (rename News _ _ _ _ => N9)
  have g1 := fd_b (b := 3) (c := 3) (fm_b (ns.sum.fdiv 7) (b := 9) (by decide)).1 (by decide) (fm_b (ns.sum.fdiv 7) (b := 9) (by decide)).2
  refine r_pick3 N9 (List.Mem.head _) g1.1 g1.2 ?_
  intro v9 hv9
  refine' two_led0 (news := news) N9 (pick_two (lo := 0) hv9 ?p1 ?p2 ?p3) ⟨[_, _, _, _, _, _, _, _, _, _], rfl⟩ ?_
  case p1 =>
    refine' TwoIn.of (R := [6]) (S := [8]) ?m1 ?m2 ?m3 ?i1 ?i2 (by simp)
    case m1 => (repeat (first | exact List.Mem.head _ | apply List.Mem.tail))
    case m2 => (repeat (first | exact List.Mem.head _ | apply List.Mem.tail))
    case m3 => (repeat (first | exact List.Mem.head _ | apply List.Mem.tail))
    case i1 => first | exact .nil | exact .cons _ _ .nil
    case i2 => first | exact .nil | exact .cons _ _ .nil
  case p2 =>
    refine' TwoIn.of (R := []) (S := []) ?m1 ?m2 ?m3 ?i1 ?i2 (by simp)
    case m1 => (repeat (first | exact List.Mem.head _ | apply List.Mem.tail))
    case m2 => (repeat (first | exact List.Mem.head _ | apply List.Mem.tail))
    case m3 => (repeat (first | exact List.Mem.head _ | apply List.Mem.tail))
    case i1 => first | exact .nil | exact .cons _ _ .nil
    case i2 => first | exact .nil | exact .cons _ _ .nil
  case p3 =>
    refine' TwoIn.of (R := [0]) (S := [3]) ?m1 ?m2 ?m3 ?i1 ?i2 (by simp)
    case m1 => (repeat (first | exact List.Mem.head _ | apply List.Mem.tail))
    case m2 => (repeat (first | exact List.Mem.head _ | apply List.Mem.tail))
    case m3 => (repeat (first | exact List.Mem.head _ | apply List.Mem.tail))
    case i1 => first | exact .nil | exact .cons _ _ .nil
    case i2 => first | exact .nil | exact .cons _ _ .nil
  clear N9 hv9
  (repeat (rename _ ∧ AllLt _ _ => hz; clear hz))
  intro tl9 N9 h29
  obtain ⟨q9, a9, b9, k9, R9, S9, rfl, hq9, ⟨us9, n9, hus9, hI9⟩, ⟨ws9, m9, hws9, hJ9⟩, hb9⟩ := h29
  k_steps
  (rename Fr _ _ _ _ => F5)
  (rename News _ _ _ _ => N5)
  refine k a9 b9 us9 ws9 n9 m9 R9 S9 _ _ (fr_or2 F5) (fun p hp => N5 p ?_) hI9 hJ9 hb9.2.2
  rcases List.mem_cons.mp hp with rfl | hp
  · exact hus9
  · rcases List.mem_cons.mp hp with rfl | hp
    · exact hws9
    · exact List.mem_append_right _ hp
theorem news_drop4 {h₀ h : Heap} {L : Addr} {news : Led} {x y z p q r t : Addr × Obj} (N : News h₀ L h (x :: y :: z :: p :: q :: r :: t :: news)) : News h₀ L h (x :: y :: z :: news) := fun u hu => N u (by
  simp only [List.mem_cons] at hu ⊢
  rcases hu with h | h | h | h <;> simp [h])
theorem drn_s4 {a1 b1 e1 e2 : Addr} {tp : Tok} {m₁ : Str → Option Value} {us ws us3 ws3 : List Value} {n m n3 m3 : Nat} {R S R3 S3 : List Nat} (X : (Mine.heap w.params).In g) (T : Top Mine.view loose mean mg mb g) (hR : GoodR 6 us R) (hS : GoodR 6 ws S) (hI : IntsAre us3 (natInts R3)) (hJ : IntsAre ws3 (natInts S3)) (hb : R3.length ≤ 1 ∧ S3.length ≤ 1 ∧ (∀ n ∈ R3, n ≤ 9) ∧ (∀ n ∈ S3, n ≤ 9))
    (F : Fr g L' s.heap (fun y => (List.lookup y [(Str.ofString "end_seen", Value.ref e2), (Str.ofString "end_asked", Value.ref e1), (Str.ofString "rows", Value.ref a1), (Str.ofString "seen", Value.ref b1), (Str.ofString "spot", Value.int ((ns.sum.fdiv 7).fmod 9) tp), (Str.ofString "script", Value.ref la)]).or (m₁ y))) (N : News g L' s.heap ((e1, lst us3 n3) :: (e2, lst ws3 m3) :: (a1, lst us n) :: (b1, lst ws m) :: news))
    (k : ∀ r tl m' h tk, Fr g L' h m' → News g L' h (tl ++ news) → (∀ p ∈ tl, ∀ q ∈ news, q.1 < p.1) → DrawnIn tl r → Q (.ret r) { s with heap := h, toks := tk }) :
    wpAny (model PySem.Challenge.rw_re0098_01.row.prog w) ((ktrTop dp un gd cn cs L a ccd cl outer).deeper (denv L')) (exec drn4 (denv L')) Q E s := by
  have q1 : us.length ≤ 100 := by have h1 := hR.1.length; have h2 := hR.2.2.1; simp [natInts] at h1; omega
  have q2 : ws.length ≤ 100 := by have h1 := hS.1.length; have h2 := hS.2.2.1; simp [natInts] at h1; omega
  have q3 : us3.length ≤ 100 := by have h1 := hI.length; simp [natInts] at h1; omega
  have q4 : ws3.length ≤ 100 := by have h1 := hJ.length; simp [natInts] at h1; omega
  revert X T
  k_fill
  intro X T
  unfold drn4
  dsimp only
  k_steps
  (rename Fr _ _ _ _ => F5)
  (rename News _ _ _ _ => N5)
  with_reducible rename _ ∧ _ ∧ _ ∧ _ ∧ AllLt _ _ => z5
  have N6 := news_drop4 N5
  refine drawn_end (Q := fun v s' => Q (.ret v) s') (R := R ++ R3) (S := S ++ S3) F5 N6 (fun p hp => hp) (of_allLt z5.2.2.2.2) (by assumption) (by assumption) (ints_app hR.1 hI) (ints_app hS.1 hJ) (drawn_bounds ⟨hR.2.1, hR.2.2.1, hR.2.2.2⟩ (Nat.le_refl _) hb.1 hb.2.2.1) (drawn_bounds ⟨hS.2.1, hS.2.2.1, hS.2.2.2⟩ (Nat.le_refl _) hb.2.1 hb.2.2.2) (fun r tl h tk F N l d => k r tl _ h tk F N l d)
theorem drnB_eq : drnB = [drn0, drn1, drn2, drn3, drn4] := rfl
theorem drn_all (X9 : (Mine.heap w.params).In g) (T9 : Top Mine.view loose mean mg mb g) (hE : PassesOwn (model PySem.Challenge.rw_re0098_01.row.prog w) ((ktrTop dp un gd cn cs L a ccd cl outer).deeper (denv L')) (denv L') E) (hI : IntsAre vs ns) (hl1 : g.IsList la vs.toArray) (hlen : ns.length ≤ 63)
    (F1 : Fr g L' s.heap (fun y => List.lookup y [(Str.ofString "script", Value.ref la)])) (N9 : News g L' s.heap news)
    (k : ∀ r tl m' h tk, Fr g L' h m' → News g L' h (tl ++ news) → (∀ p ∈ tl, ∀ q ∈ news, q.1 < p.1) → DrawnIn tl r → Q (.ret r) { s with heap := h, toks := tk }) :
    wpAny (model PySem.Challenge.rw_re0098_01.row.prog w) ((ktrTop dp un gd cn cs L a ccd cl outer).deeper (denv L')) (execs drnB (denv L')) Q E s := by
  rw [drnB_eq]
  with_reducible refine wpAny_execs_cons (drn_s0 X9 T9 hI hl1 hlen F1 N9 ?_)
  clear F1 N9
  intro tp h1 tk1 F1 N1
  with_reducible refine wpAny_execs_cons (drn_s1 (ns := ns) (tp := tp) (la := la) X9 T9 F1 N1 ?_)
  clear F1 N1
  intro a1 b1 us ws n m R S h1 tk1 F1 N1 hR hS
  with_reducible refine wpAny_execs_cons (drn_s2 X9 T9 hE hI hl1 hlen hR hS F1 N1 ?_)
  clear F1 N1
  intro a1 b1 us ws n m R S m1 h1 tk1 F1 N1 hR hS
  with_reducible refine wpAny_execs_cons (drn_s3 X9 T9 F1 N1 ?_)
  clear F1 N1
  intro e1 e2 us3 ws3 n3 m3 R3 S3 h1 tk1 F1 N1 hI3 hJ3 hb
  with_reducible refine wpAny_execs_cons (drn_s4 X9 T9 hR hS hI3 hJ3 hb F1 N1 ?_)
  clear F1 N1
  intro r tl m2 h1 tk1 F1 N1 hlt hp
  exact k r tl m2 _ _ F1 N1 hlt hp
end
theorem drawn (w : World) (la : Addr) (vs : List Value) (ns : List Int) (hI : IntsAre vs ns) (hlen : ns.length ≤ 63) :
    ConS w 79 [.ref la] (fun h => h.IsList la vs.toArray) DrawnIn := by
  unfold ConS
  k_fill
  intro loose mean mg mb dp un gd cn cs ad ccd cl outer A₀ base h₀ L m news s Q E B F X N T hk hpre hd hu hret
  refine wpAny_call ?_
  k_dflt ktr_enter
  rename Fr h₀ L _ m => FG
  have hl1 := il_keep FG hpre
  rename Fr _ _ _ (fun y => _) => F0
  have F1 := fr_map (m' := fun y' => List.lookup y' [(Str.ofString "script", Value.ref la)]) F0 (by with_unfolding_all rfl)
  clear F0
  (rename News _ _ _ _ => N9)
  (rename Frag.In _ _ => X9)
  (rename Top _ _ _ _ _ _ => T9)
  refine' drn_all X9 T9 ?zE hI hl1 hlen F1 N9 ?_
  case zE => passes_own
  clear F1 N9
  intro r tl m2 h1 tk1 F1 N1 hlt hp
  k_steps
  (rename News _ _ _ _ => N5)
  exact hret r tl _ _ (by assumption) N5 hlt hp
end Mine
end
section
open PySem PySem.W PyProof.Rows PySem.Spec PySem.Calls PySem.Builtin PySem.Builtin.Str
set_option maxHeartbeats 1000000
namespace Mine
noncomputable def lawB : List Stmt := by
  refine (fun (x : List Stmt) (_ : bodyOf (st 29) = x) => x) ?x ?h
  case h => (dsimp only [bodyOf, st, PySem.Challenge.pw_re0098_01, List.drop, List.headD]; exact rfl)
noncomputable def lawSc : Scope := by
  refine (fun (x : Scope) (_ : scopeOf (st 29) = x) => x) ?x ?h
  case h => (dsimp only [scopeOf, st, PySem.Challenge.pw_re0098_01, List.drop, List.headD]; exact rfl)
noncomputable def law0 : Stmt := by
  refine (fun (x : Stmt) (_ : (lawB.drop 0).headD default = x) => x) ?x ?h
  case h => (dsimp only [lawB, List.drop, List.headD]; exact rfl)
noncomputable def law1 : Stmt := by
  refine (fun (x : Stmt) (_ : (lawB.drop 1).headD default = x) => x) ?x ?h
  case h => (dsimp only [lawB, List.drop, List.headD]; exact rfl)
noncomputable def law2 : Stmt := by
  refine (fun (x : Stmt) (_ : (lawB.drop 2).headD default = x) => x) ?x ?h
  case h => (dsimp only [lawB, List.drop, List.headD]; exact rfl)
noncomputable def law3 : Stmt := by
  refine (fun (x : Stmt) (_ : (lawB.drop 3).headD default = x) => x) ?x ?h
  case h => (dsimp only [lawB, List.drop, List.headD]; exact rfl)
noncomputable def law4 : Stmt := by
  refine (fun (x : Stmt) (_ : (lawB.drop 4).headD default = x) => x) ?x ?h
  case h => (dsimp only [lawB, List.drop, List.headD]; exact rfl)
noncomputable def law5 : Stmt := by
  refine (fun (x : Stmt) (_ : (lawB.drop 5).headD default = x) => x) ?x ?h
  case h => (dsimp only [lawB, List.drop, List.headD]; exact rfl)
noncomputable def law6 : Stmt := by
  refine (fun (x : Stmt) (_ : (lawB.drop 6).headD default = x) => x) ?x ?h
  case h => (dsimp only [lawB, List.drop, List.headD]; exact rfl)
noncomputable def law7 : Stmt := by
  refine (fun (x : Stmt) (_ : (lawB.drop 7).headD default = x) => x) ?x ?h
  case h => (dsimp only [lawB, List.drop, List.headD]; exact rfl)
noncomputable def law8 : Stmt := by
  refine (fun (x : Stmt) (_ : (lawB.drop 8).headD default = x) => x) ?x ?h
  case h => (dsimp only [lawB, List.drop, List.headD]; exact rfl)
noncomputable def law9 : Stmt := by
  refine (fun (x : Stmt) (_ : (lawB.drop 9).headD default = x) => x) ?x ?h
  case h => (dsimp only [lawB, List.drop, List.headD]; exact rfl)
noncomputable def law10 : Stmt := by
  refine (fun (x : Stmt) (_ : (lawB.drop 10).headD default = x) => x) ?x ?h
  case h => (dsimp only [lawB, List.drop, List.headD]; exact rfl)
noncomputable abbrev lenv (L fa : Addr) (cd : Value) : Env := envOfC (Str.ofString "law") lawSc L fa cd
end Mine
end
section
open PySem PySem.W PyProof.Rows PySem.Spec PySem.Calls PySem.Builtin PySem.Builtin.Str
set_option maxHeartbeats 1000000
namespace Mine
theorem news_swap {h₀ h : Heap} {L : Addr} {tl : Led} {x y : Addr × Obj} (N : News h₀ L h (tl ++ [x, y])) : News h₀ L h (x :: y :: tl) := fun p hp => N p (by
  rcases List.mem_cons.mp hp with rfl | hp
  · exact List.mem_append_right _ (.head _)
  · rcases List.mem_cons.mp hp with rfl | hp
    · exact List.mem_append_right _ (.tail _ (.head _))
    · exact List.mem_append_left _ hp)
theorem swap_sub {tl : Led} {x y : Addr × Obj} : ∀ p ∈ tl ++ [x, y], p ∈ x :: y :: tl := fun p hp => by
  rcases List.mem_append.mp hp with hp | hp
  · exact .tail _ (.tail _ hp)
  · rcases List.mem_cons.mp hp with rfl | hp
    · exact .head _
    · rw [List.mem_singleton.mp hp]; exact .tail _ (.head _)
theorem mem_front {h₀ h : Heap} {L : Addr} {tl : Led} {x y p : Addr × Obj} (_ : News h₀ L h (tl ++ [x, y])) (hp : p ∈ tl) : p ∈ tl ++ [x, y] := List.mem_append_left _ hp
theorem RowsIn.mono {n m : Led} {r : Addr} {rows : List Nat} (hs : ∀ p ∈ n, p ∈ m) (h : RowsIn n r rows) : RowsIn m r rows := let ⟨vs, k, hm, e⟩ := h; ⟨vs, k, hs _ hm, e⟩
theorem strs_of {ys : List Value} {R : List Nat} (hl : ys.length = R.length) (hV : ∀ i y, ys[i]? = some y → ∃ t, y = Value.str (aS (R.getD i 0)) t) : StrsAre ys (R.map aS) := by
  induction ys generalizing R with
  | nil => cases R with
    | nil => exact .nil
    | cons a r => simp at hl
  | cons y ys ih => cases R with
    | nil => simp at hl
    | cons a r =>
      obtain ⟨t, rfl⟩ := hV 0 y rfl
      exact .cons _ _ (ih (by simpa using hl) fun i z hz => by simpa using hV (i + 1) z hz)
theorem lt_ne {tl : Led} {x y : Addr × Obj} (h : ∀ p ∈ tl, ∀ q ∈ [x, y], q.1 < p.1) : (∀ p ∈ tl, p.1 ≠ x.1) ∧ ∀ p ∈ tl, p.1 ≠ y.1 := ⟨fun p hp => Nat.ne_of_gt (h p hp x (.head _)), fun p hp => Nat.ne_of_gt (h p hp y (.tail _ (.head _)))⟩
local macro_rules | `(tactic| k_all) => `(tactic| assumption)
local macro_rules | `(tactic| walk_at "call ref") => `(tactic| (refine hold ?_))
section
variable {w : World} {h₀ : Heap} {L fa : Addr} {cd : Value} {loose : List Str} {mean : ExcName → Option Value} {mg mb : Str → Option Value} {s : Shared} {Q : Flow → Shared → Prop} {E : Value → Shared → Prop} {la : Addr} {vs : List Value} {ns : List Int}
theorem stage0 {o1 o2 : Obj} (B : Below callerA h₀ [] h₀) (X : (Mine.heap w.params).In h₀) (T : Top Mine.view loose mean mg mb h₀) (I : IntsAre vs ns) (H : h₀.IsList la vs.toArray) (hlen : ns.length ≤ 63)
    (F : Fr h₀ L s.heap (fun y => List.lookup y [(Str.ofString "script", Value.ref la)])) (N : News h₀ L s.heap [(L + 1 + 1, o2), (L + 1, o1)]) (d2 : o2.data = .cell none) (d1 : o1.data = .cell none)
    (k : ∀ R S ra rb tl o2' o1' h tk, Fr h₀ L h (fun y => List.lookup y [(Str.ofString "rows", Value.ref ra), (Str.ofString "script", Value.ref la)]) → News h₀ L h ((L + 1 + 1, o2') :: (L + 1, o1') :: tl) → (∀ p ∈ tl, p.1 ≠ L + 1 + 1) → (∀ p ∈ tl, p.1 ≠ L + 1) →
      o2'.data = .cell none → o1'.data = .cell (some (.ref rb)) → RowsIn tl ra R → RowsIn tl rb S → (1 ≤ R.length ∧ R.length ≤ 8 ∧ ∀ n ∈ R, n ≤ 100) → (1 ≤ S.length ∧ S.length ≤ 8 ∧ ∀ n ∈ S, n ≤ 100) → Q .next { s with heap := h, toks := tk }) :
    wpAny (model PySem.Challenge.rw_re0098_01.row.prog w) (callerA.deeper (lenv L fa cd)) (exec law0 (lenv L fa cd)) Q E s := by
  revert X T
  k_fill
  intro X T
  unfold law0
  dsimp only
  k_steps
  unfold Hold
  refine' drawn _ _ _ _ I ?kl _ _ _ _ _ _ _ _ _ _ _ _ _ _ _ _ _ _ _ _ _ _ B F X N T rfl H ?kd ?ku ?_
  case kl => omega
  case kd => decide
  case ku => decide
  intro r9 tl9 h9 k9 F9 N9 hlt9 hp9
  obtain ⟨q9, a9, b9, k8, R9, S9, rfl, hq9, hR9, hS9, bR9, bS9⟩ := hp9
  clear N F
  have N8 := news_swap N9
  have hq8 := swap_sub _ (mem_front N9 hq9)
  obtain ⟨u9, v9⟩ := lt_ne hlt9
  dsimp only at u9 v9
  clear N9
  k_steps
  (rename Fr _ _ _ _ => F5)
  (rename News _ _ _ _ => N5)
  exact k R9 S9 _ _ _ _ _ _ _ (fr_cons F5) N5 u9 v9 (by assumption) (by assumption) hR9 hS9 bR9 bS9
end
end Mine
end
section
open PySem PySem.W PyProof.Rows PySem.Spec PySem.Calls PySem.Builtin PySem.Builtin.Str
set_option maxHeartbeats 1000000
namespace Mine
local macro_rules | `(tactic| walk_at "eval ListComp") => `(tactic| (k_here; k_dflt (refine LCg.ListComp_U (F₀ := by k_asm) (by with_unfolding_all rfl) (by decide) (by rfl) (by decide) (by rfl) ?_)))
local macro_rules | `(tactic| walk_at "binaryOp Mult str int") => `(tactic| (refine r_mulA (by omega) ?_; intro t' k'; (try dsimp only)))
local macro_rules | `(tactic| k_all) => `(tactic| assumption)
local macro_rules | `(tactic| walk_at "call ref") => `(tactic| (refine hold ?_))
section
variable {w : World} {h₀ : Heap} {L fa : Addr} {cd : Value} {loose : List Str} {mean : ExcName → Option Value} {mg mb : Str → Option Value} {s : Shared} {Q : Flow → Shared → Prop} {E : Value → Shared → Prop}
theorem stage1 {la ra c1 c2 : Addr} {o1 o2 : Obj} {R : List Nat} {tl : Led} (B : Below callerA h₀ [] h₀) (X : (Mine.heap w.params).In h₀) (T : Top Mine.view loose mean mg mb h₀)
    (hR : RowsIn tl ra R) (bR : 1 ≤ R.length ∧ R.length ≤ 8 ∧ ∀ n ∈ R, n ≤ 100)
    (F : Fr h₀ L s.heap (fun y => List.lookup y [(Str.ofString "rows", Value.ref ra), (Str.ofString "script", Value.ref la)])) (N : News h₀ L s.heap ((c2, o2) :: (c1, o1) :: tl))
    (k : ∀ t h tk, Fr h₀ L h (fun y => List.lookup y [(Str.ofString "text", Value.str (text R) t), (Str.ofString "rows", Value.ref ra), (Str.ofString "script", Value.ref la)]) → News h₀ L h ((c2, o2) :: (c1, o1) :: tl) → Q .next { s with heap := h, toks := tk }) :
    wpAny (model PySem.Challenge.rw_re0098_01.row.prog w) (callerA.deeper (lenv L fa cd)) (exec law1 (lenv L fa cd)) Q E s := by
  revert X T
  k_fill
  intro X T
  unfold law1
  dsimp only
  k_steps
  obtain ⟨vr9, nr9, hmr9, hIr9⟩ := hR
  (rename Fr _ _ _ _ => F5)
  (rename News _ _ _ _ => N5)
  refine' LCg.CompSrc.ledger (k := nr9) (its := vr9.toArray) ?kh F5 N5 ?km ?ks ?_
  case kh => rfl
  case km => exact .tail _ (.tail _ hmr9)
  case ks => (rw [sizeLine_eq, List.size_toArray, hIr9.length]; simp [natInts]; omega)
  intro g5
  refine compRest_all (fun i _ y => ∃ t, y = Value.str (aS (R.getD i 0)) t) _ _ (fun i a b y _ h => h) ?_ ?_
  · intro i9 v9' I9 oI9 C9 oC9 D9 m9 h9' tk9 E9 ys9 news9 hi9 hP9 hC9 hx9 F7 N7 off7 ne7 hs7
    obtain ⟨t7, hx7⟩ := hIr9.get i9 ((R.getD i9 0 : Nat) : Int) (by
      have h1 : i9 < R.length := by rw [List.size_toArray, hIr9.length] at hi9; simpa [natInts] using hi9
      simp [natInts, h1])
    have e7 : v9' = Value.int ((R.getD i9 0 : Nat) : Int) t7 := by
      have := hP9
      simp at this
      rw [hx7] at this
      exact (Option.some.inj this).symm
    subst e7
    have hb7 : R.getD i9 0 ≤ 1000 := by
      by_cases h1 : i9 < R.length
      · have := bR.2.2 (R[i9]) (List.getElem_mem h1); simp [h1]; omega
      · simp [Nat.not_lt.mp h1]
    (try k_fold)
    k_steps
    exact LCg.CompEnd.intro F7 N7 news9 (fun _ h => h) off7 (.inr ⟨_, hs7 _ (.tail _ (.tail _ hmr9)), rfl, _, rfl⟩) ⟨⟨_, rfl⟩, fun _ h => h⟩
  · intro ys9 news9 hl9 hV9 hs9
    unfold LCg.FinE
    intro D9 h9' tk9 F7 N7 off7
    (try k_fold)
    k_steps
    have hst9 := strs_of (R := R) (by rw [hl9, List.size_toArray, hIr9.length]; simp [natInts]) hV9
    refine r_joinL N7 (.head _) hst9 (by decide +kernel) ?_ (by simp; omega) ?_
    · intro y hy
      obtain ⟨n, hn, rfl⟩ := List.mem_map.mp hy
      rw [aS_len]; have := bR.2.2 n hn; omega
    · intro t7 k7
      k_steps
      (rename Fr _ _ _ _ => F8)
      (rename News _ _ _ _ => N8)
      exact k _ _ _ (fr_cons F8) (fun p hp => N8 p (.tail _ (hs9 p hp)))
end
end Mine
end
section
open PySem PySem.W PyProof.Rows PySem.Spec PySem.Calls PySem.Builtin PySem.Builtin.Str
set_option maxHeartbeats 1000000
namespace Mine
mutual
theorem datIn_keep {news news' : List (Addr × Obj)} (hs : ∀ p ∈ news, (∀ v, p.2.data ≠ Data.cell v) → p ∈ news') : ∀ {v : Value} {d : Dat}, DatIn news v d → DatIn news' v d
  | _, _, .none => .none
  | _, _, .bool b => .bool b
  | _, _, .int i t => .int i t
  | _, _, .str x t => .str x t
  | _, _, .bytes b t => .bytes b t
  | _, _, .tuple h r => .tuple (hs _ h (fun _ e => nomatch e)) (datAll_keep hs r)
  | _, _, .list h r => .list (hs _ h (fun _ e => nomatch e)) (datAll_keep hs r)
theorem datAll_keep {news news' : List (Addr × Obj)} (hs : ∀ p ∈ news, (∀ v, p.2.data ≠ Data.cell v) → p ∈ news') : ∀ {vs : List Value} {ds : List Dat}, DatAll news vs ds → DatAll news' vs ds
  | _, _, .nil => .nil
  | _, _, .cons h r => .cons (datIn_keep hs h) (datAll_keep hs r)
end
theorem RowsIn.keep {n m : Led} {r : Addr} {rows : List Nat} (hs : ∀ p ∈ n, (∀ v, p.2.data ≠ Data.cell v) → p ∈ m) (h : RowsIn n r rows) : RowsIn m r rows := let ⟨vs, k, hm, e⟩ := h; ⟨vs, k, hs _ hm (fun _ e => nomatch e), e⟩
theorem PairsIn.keep {n m : Led} {a : Addr} {ps : List Part} (hs : ∀ p ∈ n, (∀ v, p.2.data ≠ Data.cell v) → p ∈ m) (h : PairsIn n a ps) : PairsIn m a ps := let ⟨vs, k, hm, r⟩ := h; ⟨vs, k, hs _ hm (fun _ e => nomatch e), datAll_keep hs r⟩
theorem regroup {h₀ h : Heap} {L c2 c1 : Addr} {o2 o1 : Obj} {led : Led} {v2 v1 : Option Value} (N : News h₀ L h led) (m2 : (c2, o2) ∈ led) (m1 : (c1, o1) ∈ led) (d2 : o2.data = .cell v2) (d1 : o1.data = .cell v1) :
    ∃ tl', News h₀ L h ((c2, o2) :: (c1, o1) :: tl') ∧ (∀ p ∈ tl', p.1 ≠ c2) ∧ (∀ p ∈ tl', p.1 ≠ c1) ∧ ∀ p ∈ led, (∀ v, p.2.data ≠ .cell v) → p ∈ tl' := by
  refine ⟨led.filter fun p => !(Nat.beq p.1 c2) && !(Nat.beq p.1 c1), ?_, ?_, ?_, ?_⟩
  · intro p hp
    rcases List.mem_cons.mp hp with rfl | hp
    · exact N _ m2
    · rcases List.mem_cons.mp hp with rfl | hp
      · exact N _ m1
      · exact N p (List.mem_filter.mp hp).1
  · rintro p hp rfl
    have := (List.mem_filter.mp hp).2
    rw [Nat.beq_refl] at this
    cases this
  · rintro p hp rfl
    have := (List.mem_filter.mp hp).2
    rw [Nat.beq_refl] at this
    simp at this
  · intro p hp hc
    refine List.mem_filter.mpr ⟨hp, ?_⟩
    have h2 : Nat.beq p.1 c2 = false := by
      cases e : Nat.beq p.1 c2 with
      | false => rfl
      | true =>
        have e' := Nat.eq_of_beq_eq_true e
        have a := (N p hp).1
        have b := (N _ m2).1
        rw [e'] at a
        have q : p.2 = o2 := Option.some.inj (a.symm.trans b)
        rw [q] at hc
        exact absurd d2 (hc _)
    have h1 : Nat.beq p.1 c1 = false := by
      cases e : Nat.beq p.1 c1 with
      | false => rfl
      | true =>
        have e' := Nat.eq_of_beq_eq_true e
        have a := (N p hp).1
        have b := (N _ m1).1
        rw [e'] at a
        have q : p.2 = o1 := Option.some.inj (a.symm.trans b)
        rw [q] at hc
        exact absurd d1 (hc _)
    rw [h2, h1]; rfl
local macro_rules | `(tactic| walk_at "eval ListComp") => `(tactic| (k_here; k_dflt (refine LCg.ListComp_U (F₀ := by k_asm) (by with_unfolding_all rfl) (by decide) (by rfl) (by decide) (by rfl) ?_)))
local macro_rules | `(tactic| walk_at "binaryOp Mult str int") => `(tactic| (refine r_mulA (by omega) ?_; intro t' k'; (try dsimp only)))
local macro_rules | `(tactic| k_all) => `(tactic| assumption)
local macro_rules | `(tactic| walk_at "call ref") => `(tactic| (refine hold ?_))
section
variable {w : World} {h₀ : Heap} {L fa : Addr} {cd : Value} {loose : List Str} {mean : ExcName → Option Value} {mg mb : Str → Option Value} {s : Shared} {Q : Flow → Shared → Prop} {E : Value → Shared → Prop}
theorem stage2 {la ra rb : Addr} {tt : Tok} {o1 o2 : Obj} {R S : List Nat} {tl : Led} (B : Below callerA h₀ [] h₀) (X : (Mine.heap w.params).In h₀) (T : Top Mine.view loose mean mg mb h₀)
    (u9 : ∀ p ∈ tl, p.1 ≠ L + 1 + 1) (d2 : o2.data = .cell none) (d1 : o1.data = .cell (some (.ref rb))) (hS : RowsIn tl rb S) (bS : 1 ≤ S.length ∧ S.length ≤ 8 ∧ ∀ n ∈ S, n ≤ 100)
    (F : Fr h₀ L s.heap (fun y => List.lookup y [(Str.ofString "text", Value.str (text R) tt), (Str.ofString "rows", Value.ref ra), (Str.ofString "script", Value.ref la)])) (N : News h₀ L s.heap ((L + 1 + 1, o2) :: (L + 1, o1) :: tl))
    (k : ∀ t o2' h tk, Fr h₀ L h (fun y => List.lookup y [(Str.ofString "text", Value.str (text R) tt), (Str.ofString "rows", Value.ref ra), (Str.ofString "script", Value.ref la)]) → News h₀ L h ((L + 1 + 1, o2') :: (L + 1, o1) :: tl) → o2'.data = .cell (some (.str (text S) t)) → Q .next { s with heap := h, toks := tk }) :
    wpAny (model PySem.Challenge.rw_re0098_01.row.prog w) (callerA.deeper (lenv L fa cd)) (exec law2 (lenv L fa cd)) Q E s := by
  revert X T
  k_fill
  intro X T
  unfold law2
  dsimp only
  k_steps
  obtain ⟨vr9, nr9, hmr9, hIr9⟩ := hS
  (rename Fr _ _ _ _ => F5)
  (rename News _ _ _ _ => N5)
  refine' LCg.CompSrc.ledger (k := nr9) (its := vr9.toArray) ?kh F5 N5 ?km ?ks ?_
  case kh => rfl
  case km => exact .tail _ (.tail _ hmr9)
  case ks => (rw [sizeLine_eq, List.size_toArray, hIr9.length]; simp [natInts]; omega)
  intro g5
  refine compRest_all (fun i _ y => ∃ t, y = Value.str (aS (S.getD i 0)) t) _ _ (fun i a b y _ h => h) ?_ ?_
  · intro i9 v9' I9 oI9 C9 oC9 D9 m9 h9' tk9 E9 ys9 news9 hi9 hP9 hC9 hx9 F7 N7 off7 ne7 hs7
    obtain ⟨t7, hx7⟩ := hIr9.get i9 ((S.getD i9 0 : Nat) : Int) (by
      have h1 : i9 < S.length := by rw [List.size_toArray, hIr9.length] at hi9; simpa [natInts] using hi9
      simp [natInts, h1])
    have e7 : v9' = Value.int ((S.getD i9 0 : Nat) : Int) t7 := by
      have := hP9
      simp at this
      rw [hx7] at this
      exact (Option.some.inj this).symm
    subst e7
    have hb7 : S.getD i9 0 ≤ 1000 := by
      by_cases h1 : i9 < S.length
      · have := bS.2.2 (S[i9]) (List.getElem_mem h1); simp [h1]; omega
      · simp [Nat.not_lt.mp h1]
    (try k_fold)
    k_steps
    exact LCg.CompEnd.intro F7 N7 news9 (fun _ h => h) off7 (.inr ⟨_, hs7 _ (.tail _ (.tail _ hmr9)), rfl, _, rfl⟩) ⟨⟨_, rfl⟩, fun _ h => h⟩
  · intro ys9 news9 hl9 hV9 hs9
    unfold LCg.FinE
    intro D9 h9' tk9 F7 N7 off7
    (try k_fold)
    k_steps
    have hst9 := strs_of (R := S) (by rw [hl9, List.size_toArray, hIr9.length]; simp [natInts]) hV9
    refine r_joinL N7 (.head _) hst9 (by decide +kernel) ?_ (by simp; omega) ?_
    · intro y hy
      obtain ⟨n, hn, rfl⟩ := List.mem_map.mp hy
      rw [aS_len]; have := bS.2.2 n hn; omega
    · intro t7 k7
      (rename Fr _ _ _ _ => F8)
      have N8 : News h₀ L _ ((L + 1 + 1, o2) :: (L + 1, o1) :: tl) := fun p hp => N7 p (.tail _ (hs9 p hp))
      clear N7
      k_steps
      (rename Fr _ _ _ _ => F8)
      (rename News _ _ _ _ => N8)
      exact k _ _ _ _ F8 N8 (by assumption)
theorem stage3 {la ra c1 c2 : Addr} {tt : Tok} {o1 o2 : Obj} {R : List Nat} {tl : Led} (B : Below callerA h₀ [] h₀) (X : (Mine.heap w.params).In h₀) (T : Top Mine.view loose mean mg mb h₀)
    (hR : RowsIn tl ra R) (bR : 1 ≤ R.length ∧ R.length ≤ 8 ∧ ∀ n ∈ R, n ≤ 100)
    (F : Fr h₀ L s.heap (fun y => List.lookup y [(Str.ofString "text", Value.str (text R) tt), (Str.ofString "rows", Value.ref ra), (Str.ofString "script", Value.ref la)])) (N : News h₀ L s.heap ((c2, o2) :: (c1, o1) :: tl))
    (k : ∀ th h tk, Fr h₀ L h (fun y => List.lookup y [(Str.ofString "hard", Value.str (hardS R) th), (Str.ofString "text", Value.str (text R) tt), (Str.ofString "rows", Value.ref ra), (Str.ofString "script", Value.ref la)]) → News h₀ L h ((c2, o2) :: (c1, o1) :: tl) → Q .next { s with heap := h, toks := tk }) :
    wpAny (model PySem.Challenge.rw_re0098_01.row.prog w) (callerA.deeper (lenv L fa cd)) (exec law3 (lenv L fa cd)) Q E s := by
  revert X T
  k_fill
  intro X T
  unfold law3
  dsimp only
  k_steps
  obtain ⟨vr9, nr9, hmr9, hIr9⟩ := hR
  (rename Fr _ _ _ _ => F5)
  (rename News _ _ _ _ => N5)
  refine' LCg.CompSrc.ledger (k := nr9) (its := vr9.toArray) ?kh F5 N5 ?km ?ks ?_
  case kh => rfl
  case km => exact .tail _ (.tail _ hmr9)
  case ks => (rw [sizeLine_eq, List.size_toArray, hIr9.length]; simp [natInts]; omega)
  intro g5
  refine compRest_all (fun i _ y => ∃ t, y = Value.str (aS (R.getD i 0)) t) _ _ (fun i a b y _ h => h) ?_ ?_
  · intro i9 v9' I9 oI9 C9 oC9 D9 m9 h9' tk9 E9 ys9 news9 hi9 hP9 hC9 hx9 F7 N7 off7 ne7 hs7
    obtain ⟨t7, hx7⟩ := hIr9.get i9 ((R.getD i9 0 : Nat) : Int) (by
      have h1 : i9 < R.length := by rw [List.size_toArray, hIr9.length] at hi9; simpa [natInts] using hi9
      simp [natInts, h1])
    have e7 : v9' = Value.int ((R.getD i9 0 : Nat) : Int) t7 := by
      have := hP9
      simp at this
      rw [hx7] at this
      exact (Option.some.inj this).symm
    subst e7
    have hb7 : R.getD i9 0 ≤ 1000 := by
      by_cases h1 : i9 < R.length
      · have := bR.2.2 (R[i9]) (List.getElem_mem h1); simp [h1]; omega
      · simp [Nat.not_lt.mp h1]
    (try k_fold)
    k_steps
    exact LCg.CompEnd.intro F7 N7 news9 (fun _ h => h) off7 (.inr ⟨_, hs7 _ (.tail _ (.tail _ hmr9)), rfl, _, rfl⟩) ⟨⟨_, rfl⟩, fun _ h => h⟩
  · intro ys9 news9 hl9 hV9 hs9
    unfold LCg.FinE
    intro D9 h9' tk9 F7 N7 off7
    (try k_fold)
    k_steps
    have hst9 := strs_of (R := R) (by rw [hl9, List.size_toArray, hIr9.length]; simp [natInts]) hV9
    refine r_joinL N7 (.head _) hst9 (by decide +kernel) ?_ (by simp; omega) ?_
    · intro y hy
      obtain ⟨n, hn, rfl⟩ := List.mem_map.mp hy
      rw [aS_len]; have := bR.2.2 n hn; omega
    · intro t7 k7
      k_steps
      (rename Fr _ _ _ _ => F8)
      (rename News _ _ _ _ => N8)
      exact k _ _ _ (fr_cons F8) (fun p hp => N8 p (.tail _ (hs9 p hp)))
end
end Mine
end
section
open PySem PySem.W PyProof.Rows PySem.Spec PySem.Calls PySem.Builtin PySem.Builtin.Str
set_option maxHeartbeats 1000000
namespace Mine
theorem dat_pairs {led : Led} : ∀ {ys : List Value} {ps : List Part}, ys.length = ps.length → (∀ i y, ys[i]? = some y → ∃ q, y = Value.ref q ∧ PairAt led q (ps.getD i (0, false))) → DatAll led ys (ps.map pd)
  | [], [], _, _ => .nil
  | [], _ :: _, h, _ => by simp at h
  | _ :: _, [], h, _ => by simp at h
  | y :: ys, p :: ps, hl, h => by
    obtain ⟨q, rfl, t, k, hm⟩ := h 0 y rfl
    refine .cons ?_ (dat_pairs (by simpa using hl) fun i z hz => by simpa using h (i + 1) z hz)
    exact .tuple (vs := [_, _]) hm (.cons (.int _ _) (.cons (.bool _) .nil))
theorem PairAt.mono {n m : Led} {q : Addr} {p : Part} (hs : ∀ p ∈ n, p ∈ m) (h : PairAt n q p) : PairAt m q p := let ⟨t, k, hm⟩ := h; ⟨t, k, hs _ hm⟩
def opens (R : List Nat) : List Part := R.map fun n => (n, false)
theorem opens_at (R : List Nat) (i : Nat) : (opens R).getD i (0, false) = (R.getD i 0, false) := by
  unfold opens
  by_cases h : i < R.length
  · simp [h]
  · simp [Nat.not_lt.mp h]
local macro_rules | `(tactic| walk_at "eval ListComp") => `(tactic| (k_here; k_dflt (refine LCg.ListComp_U (F₀ := by k_asm) (by with_unfolding_all rfl) (by decide) (by rfl) (by decide) (by rfl) ?_)))
local macro_rules | `(tactic| walk_at "binaryOp Mult str int") => `(tactic| (refine r_mulA (by omega) ?_; intro t' k'; (try dsimp only)))
local macro_rules | `(tactic| walk_at "exec Assign cons ListComp") => `(tactic| (k_here; k_dflt (refine LCg.Assign_ListComp_U (F₀ := by k_asm) (by rfl) (by with_unfolding_all rfl) (by with_unfolding_all rfl) (by decide) (by rfl) (by decide) (by rfl) (by rfl) (by rfl) ?_)))
local macro_rules | `(tactic| k_all) => `(tactic| assumption)
local macro_rules | `(tactic| walk_at "call ref") => `(tactic| (refine hold ?_))
section
variable {w : World} {h₀ : Heap} {L fa : Addr} {cd : Value} {loose : List Str} {mean : ExcName → Option Value} {mg mb : Str → Option Value} {s : Shared} {Q : Flow → Shared → Prop} {E : Value → Shared → Prop}
theorem stage4 {la ra wa pa rb : Addr} {tt th : Tok} {o1 o2 : Obj} {v1 v2 : Option Value} {R S : List Nat} {tl : Led} (B : Below callerA h₀ [] h₀) (X : (Mine.heap w.params).In h₀) (T : Top Mine.view loose mean mg mb h₀)
    (d2 : o2.data = .cell v2) (d1 : o1.data = .cell v1) (hR : RowsIn tl ra R) (bR : 1 ≤ R.length ∧ R.length ≤ 8 ∧ ∀ n ∈ R, n ≤ 100)
    (F : Fr h₀ L s.heap (fun y => List.lookup y [(Str.ofString "hard", Value.str (hardS R) th), (Str.ofString "text", Value.str (text R) tt), (Str.ofString "rows", Value.ref ra), (Str.ofString "script", Value.ref la)])) (N : News h₀ L s.heap ((L + 1 + 1, o2) :: (L + 1, o1) :: tl))
    (k : ∀ wa tl' h tk, Fr h₀ L h (fun y => List.lookup y [(Str.ofString "whole", Value.ref wa), (Str.ofString "hard", Value.str (hardS R) th), (Str.ofString "text", Value.str (text R) tt), (Str.ofString "rows", Value.ref ra), (Str.ofString "script", Value.ref la)]) → News h₀ L h ((L + 1 + 1, o2) :: (L + 1, o1) :: tl') → (∀ p ∈ tl', p.1 ≠ L + 1 + 1) → (∀ p ∈ tl', p.1 ≠ L + 1) → (∀ p ∈ tl, (∀ v, p.2.data ≠ .cell v) → p ∈ tl') → PairsIn tl' wa (opens R) → Q .next { s with heap := h, toks := tk }) :
    wpAny (model PySem.Challenge.rw_re0098_01.row.prog w) (callerA.deeper (lenv L fa cd)) (exec law4 (lenv L fa cd)) Q E s := by
  revert X T
  k_fill
  intro X T
  unfold law4
  dsimp only
  k_steps
  obtain ⟨vr9, nr9, hmr9, hIr9⟩ := hR
  (rename Fr _ _ _ _ => F5)
  (rename News _ _ _ _ => N5)
  refine' LCg.CompSrc.ledger (k := nr9) (its := vr9.toArray) ?kh F5 N5 ?km ?ks ?_
  case kh => rfl
  case km => exact .tail _ (.tail _ hmr9)
  case ks => (rw [sizeLine_eq, List.size_toArray, hIr9.length]; simp [natInts]; omega)
  intro g5
  refine compRest_all (fun i led y => ∃ q, y = Value.ref q ∧ PairAt led q (R.getD i 0, false)) _ _ (fun i a b y hs h => let ⟨q, e, r⟩ := h; ⟨q, e, r.mono hs⟩) ?_ ?_
  · intro i9 v9' I9 oI9 C9 oC9 D9 m9 h9' tk9 E9 ys9 news9 hi9 hP9 hC9 hx9 F7 N7 off7 ne7 hs7
    obtain ⟨t7, hx7⟩ := hIr9.get i9 ((R.getD i9 0 : Nat) : Int) (by
      have h1 : i9 < R.length := by rw [List.size_toArray, hIr9.length] at hi9; simpa [natInts] using hi9
      simp [natInts, h1])
    have e7 : v9' = Value.int ((R.getD i9 0 : Nat) : Int) t7 := by
      have := hP9
      simp at this
      rw [hx7] at this
      exact (Option.some.inj this).symm
    subst e7
    (try k_fold)
    k_steps
    rename _ ∧ _ ∧ _ ∧ AllLt _ _ => z7
    (rename Fr _ _ _ _ => F6)
    (rename News _ _ _ _ => N6)
    exact LCg.CompEnd.intro F6 N6 ((_, _) :: news9) (fun p hp => by simp only [List.mem_cons] at hp ⊢; rcases hp with h | h | h | h | h <;> simp [h]) ⟨⟨Nat.ne_of_gt z7.1, Nat.ne_of_gt z7.2.1, Nat.ne_of_gt z7.2.2.1⟩, off7⟩
      (.inr ⟨_, .tail _ (hs7 _ (.tail _ (.tail _ hmr9))), rfl, _, rfl⟩) ⟨⟨_, rfl, t7, 0, .head _⟩, fun p hp => .tail _ hp⟩
  · intro ys9 news9 hl9 hV9 hs9
    unfold LCg.FinA
    intro D9 h9' tk9 F8 N8 off7
    have hlen9 : ys9.length = R.length := by rw [hl9, List.size_toArray, hIr9.length]; simp [natInts]
    obtain ⟨tl', N6, u6, v6, sub6⟩ := regroup N8 (.tail _ (hs9 _ (.head _))) (.tail _ (hs9 _ (.tail _ (.head _)))) d2 d1
    refine k D9 tl' _ _ (fr_cons F8) N6 u6 v6 (fun p hp hc => sub6 p (.tail _ (hs9 p (.tail _ (.tail _ hp)))) hc) ?_
    refine PairsIn.keep sub6 ⟨ys9, _, .head _, dat_pairs (by simp [opens, hlen9]) fun i y hy => ?_⟩
    obtain ⟨q, e, r⟩ := hV9 i y hy
    rw [opens_at]
    exact ⟨q, e, r.mono fun p hp => .tail _ hp⟩
theorem stage5 {la ra wa pa rb : Addr} {tt th : Tok} {o1 o2 : Obj} {v1 v2 : Option Value} {R S : List Nat} {tl : Led} (B : Below callerA h₀ [] h₀) (X : (Mine.heap w.params).In h₀) (T : Top Mine.view loose mean mg mb h₀)
    (d2 : o2.data = .cell v2) (d1 : o1.data = .cell (some (.ref rb))) (hS : RowsIn tl rb S) (bS : 1 ≤ S.length ∧ S.length ≤ 8 ∧ ∀ n ∈ S, n ≤ 100)
    (F : Fr h₀ L s.heap (fun y => List.lookup y [(Str.ofString "whole", Value.ref wa), (Str.ofString "hard", Value.str (hardS R) th), (Str.ofString "text", Value.str (text R) tt), (Str.ofString "rows", Value.ref ra), (Str.ofString "script", Value.ref la)])) (N : News h₀ L s.heap ((L + 1 + 1, o2) :: (L + 1, o1) :: tl))
    (k : ∀ pa tl' h tk, Fr h₀ L h (fun y => List.lookup y [(Str.ofString "plain", Value.ref pa), (Str.ofString "whole", Value.ref wa), (Str.ofString "hard", Value.str (hardS R) th), (Str.ofString "text", Value.str (text R) tt), (Str.ofString "rows", Value.ref ra), (Str.ofString "script", Value.ref la)]) → News h₀ L h ((L + 1 + 1, o2) :: (L + 1, o1) :: tl') → (∀ p ∈ tl', p.1 ≠ L + 1 + 1) → (∀ p ∈ tl', p.1 ≠ L + 1) → (∀ p ∈ tl, (∀ v, p.2.data ≠ .cell v) → p ∈ tl') → PairsIn tl' pa (opens S) → Q .next { s with heap := h, toks := tk }) :
    wpAny (model PySem.Challenge.rw_re0098_01.row.prog w) (callerA.deeper (lenv L fa cd)) (exec law5 (lenv L fa cd)) Q E s := by
  revert X T
  k_fill
  intro X T
  unfold law5
  dsimp only
  k_steps
  obtain ⟨vr9, nr9, hmr9, hIr9⟩ := hS
  (rename Fr _ _ _ _ => F5)
  (rename News _ _ _ _ => N5)
  refine' LCg.CompSrc.ledger (k := nr9) (its := vr9.toArray) ?kh F5 N5 ?km ?ks ?_
  case kh => rfl
  case km => exact .tail _ (.tail _ hmr9)
  case ks => (rw [sizeLine_eq, List.size_toArray, hIr9.length]; simp [natInts]; omega)
  intro g5
  refine compRest_all (fun i led y => ∃ q, y = Value.ref q ∧ PairAt led q (S.getD i 0, false)) _ _ (fun i a b y hs h => let ⟨q, e, r⟩ := h; ⟨q, e, r.mono hs⟩) ?_ ?_
  · intro i9 v9' I9 oI9 C9 oC9 D9 m9 h9' tk9 E9 ys9 news9 hi9 hP9 hC9 hx9 F7 N7 off7 ne7 hs7
    obtain ⟨t7, hx7⟩ := hIr9.get i9 ((S.getD i9 0 : Nat) : Int) (by
      have h1 : i9 < S.length := by rw [List.size_toArray, hIr9.length] at hi9; simpa [natInts] using hi9
      simp [natInts, h1])
    have e7 : v9' = Value.int ((S.getD i9 0 : Nat) : Int) t7 := by
      have := hP9
      simp at this
      rw [hx7] at this
      exact (Option.some.inj this).symm
    subst e7
    (try k_fold)
    k_steps
    rename _ ∧ _ ∧ _ ∧ AllLt _ _ => z7
    (rename Fr _ _ _ _ => F6)
    (rename News _ _ _ _ => N6)
    exact LCg.CompEnd.intro F6 N6 ((_, _) :: news9) (fun p hp => by simp only [List.mem_cons] at hp ⊢; rcases hp with h | h | h | h | h <;> simp [h]) ⟨⟨Nat.ne_of_gt z7.1, Nat.ne_of_gt z7.2.1, Nat.ne_of_gt z7.2.2.1⟩, off7⟩
      (.inr ⟨_, .tail _ (hs7 _ (.tail _ (.tail _ hmr9))), rfl, _, rfl⟩) ⟨⟨_, rfl, t7, 0, .head _⟩, fun p hp => .tail _ hp⟩
  · intro ys9 news9 hl9 hV9 hs9
    unfold LCg.FinA
    intro D9 h9' tk9 F8 N8 off7
    have hlen9 : ys9.length = S.length := by rw [hl9, List.size_toArray, hIr9.length]; simp [natInts]
    obtain ⟨tl', N6, u6, v6, sub6⟩ := regroup N8 (.tail _ (hs9 _ (.head _))) (.tail _ (hs9 _ (.tail _ (.head _)))) d2 d1
    refine k D9 tl' _ _ (fr_cons F8) N6 u6 v6 (fun p hp hc => sub6 p (.tail _ (hs9 p (.tail _ (.tail _ hp)))) hc) ?_
    refine PairsIn.keep sub6 ⟨ys9, _, .head _, dat_pairs (by simp [opens, hlen9]) fun i y hy => ?_⟩
    obtain ⟨q, e, r⟩ := hV9 i y hy
    rw [opens_at]
    exact ⟨q, e, r.mono fun p hp => .tail _ hp⟩
end
end Mine
end
section
open PySem PySem.W PyProof.Rows PySem.Spec PySem.Calls PySem.Builtin PySem.Builtin.Str
set_option maxHeartbeats 1000000
namespace Mine
local macro_rules | `(tactic| walk_at "eval ListComp") => `(tactic| (k_here; k_dflt (refine LCg.ListComp_U (F₀ := by k_asm) (by with_unfolding_all rfl) (by decide) (by rfl) (by decide) (by rfl) ?_)))
local macro_rules | `(tactic| walk_at "binaryOp Mult str int") => `(tactic| (refine r_mulA (by omega) ?_; intro t' k'; (try dsimp only)))
local macro_rules | `(tactic| walk_at "exec Assign cons ListComp") => `(tactic| (k_here; k_dflt (refine LCg.Assign_ListComp_U (F₀ := by k_asm) (by rfl) (by with_unfolding_all rfl) (by with_unfolding_all rfl) (by decide) (by rfl) (by decide) (by rfl) (by rfl) (by rfl) ?_)))
local macro_rules | `(tactic| walk_at "CompSrc") => `(tactic| (refine hold ?_))
local macro_rules | `(tactic| k_all) => `(tactic| assumption)
local macro_rules | `(tactic| walk_at "call ref") => `(tactic| (refine hold ?_))
section
variable {w : World} {h₀ : Heap} {L fa : Addr} {cd : Value} {loose : List Str} {mean : ExcName → Option Value} {mg mb : Str → Option Value} {s : Shared} {Q : Flow → Shared → Prop} {E : Value → Shared → Prop}
theorem mem_dup {h₀ h : Heap} {L : Addr} {l : Led} {x y z p : Addr × Obj} (N : News h₀ L h (x :: y :: z :: l)) (hp : p ∈ l) : News h₀ L h (x :: y :: z :: p :: l) := fun q hq => N q (by
  simp only [List.mem_cons] at hq ⊢
  rcases hq with h | h | h | h | h
  · simp [h]
  · simp [h]
  · simp [h]
  · rw [h]; simp [hp]
  · simp [h])
theorem mem_comp {tl l : Led} {x y z w p : Addr × Obj} (hp : p ∈ x :: y :: z :: (tl ++ l)) : p ∈ tl ++ x :: y :: z :: w :: l := by
  simp only [List.mem_cons, List.mem_append] at hp ⊢
  rcases hp with h | h | h | h | h <;> simp [h]
theorem off_app {I C D : Addr} {oI oC oD w : Obj} {x : Addr} {tl l : Led} (off : LCg.Off3 I C D l) (h : ∀ p ∈ tl, ∀ q ∈ (I, oI) :: (C, oC) :: (D, oD) :: (x, w) :: l, q.1 < p.1) : LCg.Off3 I C D (tl ++ l) :=
  LCg.Off3.of fun p hp => by
    rcases List.mem_append.mp hp with hp | hp
    · exact ⟨Nat.ne_of_gt (h p hp _ (.head _)), Nat.ne_of_gt (h p hp _ (.tail _ (.head _))), Nat.ne_of_gt (h p hp _ (.tail _ (.tail _ (.head _))))⟩
    · exact LCg.Off3.mem off p hp
theorem strs_list {ys : List Value} {xs : List Str} (hl : ys.length = xs.length) (hV : ∀ i y, ys[i]? = some y → ∃ t, y = Value.str (xs.getD i Str.empty) t) : StrsAre ys xs := by
  induction ys generalizing xs with
  | nil => cases xs with
    | nil => exact .nil
    | cons a r => simp at hl
  | cons y ys ih => cases xs with
    | nil => simp at hl
    | cons a r =>
      obtain ⟨t, rfl⟩ := hV 0 y rfl
      exact .cons _ _ (ih (by simpa using hl) fun i z hz => by simpa using hV (i + 1) z hz)
def encs (S : List Nat) : List Str := [enc 4 nlS S, enc 5 nlS S, enc 6 nlS S, enc 7 nlS S]
theorem strs_four {S : List Nat} {ys : List Value} (hl : ys.length = 4) (hV : ∀ i y, ys[i]? = some y → ∃ t, y = Value.str (enc (4 + i) nlS S) t) : StrsAre ys (encs S) :=
  strs_list (by rw [hl]; rfl) fun i y hy => by
    have hi : i < 4 := by rw [← hl]; exact (List.getElem?_eq_some_iff.mp hy).1
    have := hV i y hy
    have hc : i = 0 ∨ i = 1 ∨ i = 2 ∨ i = 3 := by omega
    rcases hc with rfl | rfl | rfl | rfl <;> exact this
theorem stage6 {la ra wa pa rb : Addr} {tt th to : Tok} {o1 o2 : Obj} {v1 : Option Value} {R S : List Nat} {tl : Led} (B : Below callerA h₀ [] h₀) (X : (Mine.heap w.params).In h₀) (T : Top Mine.view loose mean mg mb h₀)
    (d2 : o2.data = .cell (some (.str (text S) to))) (d1 : o1.data = .cell v1) (bS : 1 ≤ S.length ∧ S.length ≤ 8 ∧ ∀ n ∈ S, n ≤ 100)
    (F : Fr h₀ L s.heap (fun y => List.lookup y [(Str.ofString "plain", Value.ref pa), (Str.ofString "whole", Value.ref wa), (Str.ofString "hard", Value.str (hardS R) th), (Str.ofString "text", Value.str (text R) tt), (Str.ofString "rows", Value.ref ra), (Str.ofString "script", Value.ref la)])) (N : News h₀ L s.heap ((L + 1 + 1, o2) :: (L + 1, o1) :: tl))
    (k : ∀ wr tl' h tk, Fr h₀ L h (fun y => List.lookup y [(Str.ofString "writings", Value.ref wr), (Str.ofString "plain", Value.ref pa), (Str.ofString "whole", Value.ref wa), (Str.ofString "hard", Value.str (hardS R) th), (Str.ofString "text", Value.str (text R) tt), (Str.ofString "rows", Value.ref ra), (Str.ofString "script", Value.ref la)]) → News h₀ L h ((L + 1 + 1, o2) :: (L + 1, o1) :: tl') → (∀ p ∈ tl', p.1 ≠ L + 1 + 1) → (∀ p ∈ tl', p.1 ≠ L + 1) → (∀ p ∈ tl, (∀ v, p.2.data ≠ .cell v) → p ∈ tl') → (∃ ws, (wr, LCg.lst ws) ∈ tl' ∧ StrsAre ws (encs S)) → Q .next { s with heap := h, toks := tk }) :
    wpAny (model PySem.Challenge.rw_re0098_01.row.prog w) (callerA.deeper (lenv L fa cd)) (exec law6 (lenv L fa cd)) Q E s := by
  revert X T
  k_fill
  intro X T
  unfold law6
  dsimp only
  k_steps
  unfold Hold
  (rename Fr _ _ _ _ => F5)
  (rename News _ _ _ _ => N5)
  (rename IsRange _ _ _ _ _ _ _ _ => R5)
  refine' LCg.CompSrc.range (n := 4) ?kh F5 N5 R5 ?k1 ?k2 ?k3 ?_
  case kh => rfl
  case k1 => decide
  case k2 => decide
  case k3 => (rw [sizeLine_eq]; omega)
  intro g5
  refine compRest_all (fun i _ y => ∃ t, y = Value.str (enc (4 + i) nlS S) t) _ _ (fun i a b y _ h => h) ?_ ?_
  · intro i9 v9' I9 oI9 C9 oC9 D9 m9 h9' tk9 E9 ys9 news9 hi9 hP9 hC9 hx9 F7 N7 off7 ne7 hs7
    obtain ⟨t7, rfl⟩ := hP9
    have e7 : (4 : Int) + (i9 : Int) = ((4 + i9 : Nat) : Int) := by omega
    rw [e7] at hx9
    (try k_fold)
    clear F5 N5 R5
    have N6 := mem_dup N7 (hs7 _ (.head _))
    clear N7
    k_steps
    unfold Hold
    (rename Fr _ _ _ _ => F6)
    refine' bodyenc2 w S (4 + i9) _ _ ⟨by omega, by omega⟩ (fun n hn => Nat.le_trans (bS.2.2 n hn) (by decide)) ⟨bS.1, by omega⟩ _ _ _ _ _ _ _ _ _ _ _ _ _ _ _ _ _ _ _ _ _ _ B F6 X N6 T rfl trivial ?kd ?ku ?_
    case kd => decide
    case ku => decide
    intro r4 tl4 h4 k4 F4 N4 hlt4 hp4
    obtain ⟨t4, rfl⟩ := hp4
    exact LCg.CompEnd.intro F4 N4 (tl4 ++ news9) (fun p hp => mem_comp hp) (off_app off7 hlt4) trivial ⟨⟨_, rfl⟩, fun p hp => List.mem_append_right _ hp⟩
  · intro ys9 news9 hl9 hV9 hs9
    unfold LCg.FinA
    intro D9 h9' tk9 F8 N8 off7
    obtain ⟨tl', N6, u6, v6, sub6⟩ := regroup N8 (.tail _ (hs9 _ (.head _))) (.tail _ (hs9 _ (.tail _ (.head _)))) d2 d1
    refine k D9 tl' _ _ (fr_cons F8) N6 u6 v6 (fun p hp hc => sub6 p (.tail _ (hs9 p (.tail _ (.tail _ hp)))) hc) ?_
    exact ⟨ys9, sub6 _ (.head _) (fun _ e => nomatch e), strs_four hl9 hV9⟩
end
end Mine
end
section
open PySem PySem.W PyProof.Rows PySem.Spec PySem.Calls PySem.Builtin PySem.Builtin.Str
set_option maxHeartbeats 1000000
namespace Mine
theorem dats_list {led : Led} {ys : List Value} {ds : List Dat} (hl : ys.length = ds.length) (hV : ∀ i y, ys[i]? = some y → DatIn led y (ds.getD i .none)) : DatAll led ys ds := by
  induction ys generalizing ds with
  | nil => cases ds with
    | nil => exact .nil
    | cons a r => simp at hl
  | cons y ys ih => cases ds with
    | nil => simp at hl
    | cons a r => exact .cons (hV 0 y rfl) (ih (by simpa using hl) fun i z hz => by simpa using hV (i + 1) z hz)
def pss (S : List Nat) : List Dat := [.list ((partsOf 4 S).map pd), .list ((partsOf 5 S).map pd), .list ((partsOf 6 S).map pd), .list ((partsOf 7 S).map pd)]
theorem dats_four {led : Led} {S : List Nat} {ys : List Value} (hl : ys.length = 4) (hV : ∀ i y, ys[i]? = some y → DatIn led y (.list ((partsOf (4 + i) S).map pd))) : DatAll led ys (pss S) :=
  dats_list (by rw [hl]; rfl) fun i y hy => by
    have hi : i < 4 := by rw [← hl]; exact (List.getElem?_eq_some_iff.mp hy).1
    have := hV i y hy
    have hc : i = 0 ∨ i = 1 ∨ i = 2 ∨ i = 3 := by omega
    rcases hc with rfl | rfl | rfl | rfl <;> exact this
local macro_rules | `(tactic| walk_at "eval ListComp") => `(tactic| (k_here; k_dflt (refine LCg.ListComp_U (F₀ := by k_asm) (by with_unfolding_all rfl) (by decide) (by rfl) (by decide) (by rfl) ?_)))
local macro_rules | `(tactic| walk_at "binaryOp Mult str int") => `(tactic| (refine r_mulA (by omega) ?_; intro t' k'; (try dsimp only)))
local macro_rules | `(tactic| walk_at "exec Assign cons ListComp") => `(tactic| (k_here; k_dflt (refine LCg.Assign_ListComp_U (F₀ := by k_asm) (by rfl) (by with_unfolding_all rfl) (by with_unfolding_all rfl) (by decide) (by rfl) (by decide) (by rfl) (by rfl) (by rfl) ?_)))
local macro_rules | `(tactic| walk_at "CompSrc") => `(tactic| (refine hold ?_))
local macro_rules | `(tactic| k_all) => `(tactic| assumption)
local macro_rules | `(tactic| walk_at "call ref") => `(tactic| (refine hold ?_))
section
variable {w : World} {h₀ : Heap} {L fa : Addr} {cd : Value} {loose : List Str} {mean : ExcName → Option Value} {mg mb : Str → Option Value} {s : Shared} {Q : Flow → Shared → Prop} {E : Value → Shared → Prop}
theorem stage7 {la ra wa pa rb wr : Addr} {tt th to : Tok} {o1 o2 : Obj} {v1 : Option Value} {R S : List Nat} {tl : Led} (B : Below callerA h₀ [] h₀) (X : (Mine.heap w.params).In h₀) (T : Top Mine.view loose mean mg mb h₀)
    (d2 : o2.data = .cell v1) (d1 : o1.data = .cell (some (.ref rb))) (hS : RowsIn tl rb S) (bS : 1 ≤ S.length ∧ S.length ≤ 8 ∧ ∀ n ∈ S, n ≤ 100)
    (F : Fr h₀ L s.heap (fun y => List.lookup y [(Str.ofString "writings", Value.ref wr), (Str.ofString "plain", Value.ref pa), (Str.ofString "whole", Value.ref wa), (Str.ofString "hard", Value.str (hardS R) th), (Str.ofString "text", Value.str (text R) tt), (Str.ofString "rows", Value.ref ra), (Str.ofString "script", Value.ref la)])) (N : News h₀ L s.heap ((L + 1 + 1, o2) :: (L + 1, o1) :: tl))
    (k : ∀ pl tl' h tk, Fr h₀ L h (fun y => List.lookup y [(Str.ofString "parts", Value.ref pl), (Str.ofString "writings", Value.ref wr), (Str.ofString "plain", Value.ref pa), (Str.ofString "whole", Value.ref wa), (Str.ofString "hard", Value.str (hardS R) th), (Str.ofString "text", Value.str (text R) tt), (Str.ofString "rows", Value.ref ra), (Str.ofString "script", Value.ref la)]) → News h₀ L h ((L + 1 + 1, o2) :: (L + 1, o1) :: tl') → (∀ p ∈ tl', p.1 ≠ L + 1 + 1) → (∀ p ∈ tl', p.1 ≠ L + 1) → (∀ p ∈ tl, (∀ v, p.2.data ≠ .cell v) → p ∈ tl') → DatIn tl' (.ref pl) (.list (pss S)) → Q .next { s with heap := h, toks := tk }) :
    wpAny (model PySem.Challenge.rw_re0098_01.row.prog w) (callerA.deeper (lenv L fa cd)) (exec law7 (lenv L fa cd)) Q E s := by
  revert X T
  k_fill
  intro X T
  unfold law7
  dsimp only
  k_steps
  unfold Hold
  (rename Fr _ _ _ _ => F5)
  (rename News _ _ _ _ => N5)
  (rename IsRange _ _ _ _ _ _ _ _ => R5)
  refine' LCg.CompSrc.range (n := 4) ?kh F5 N5 R5 ?k1 ?k2 ?k3 ?_
  case kh => rfl
  case k1 => decide
  case k2 => decide
  case k3 => (rw [sizeLine_eq]; omega)
  intro g5
  refine compRest_all (fun i led y => DatIn led y (.list ((partsOf (4 + i) S).map pd))) _ _ (fun i a b y hs h => DatIn.mono hs h) ?_ ?_
  · intro i9 v9' I9 oI9 C9 oC9 D9 m9 h9' tk9 E9 ys9 news9 hi9 hP9 hC9 hx9 F7 N7 off7 ne7 hs7
    obtain ⟨t7, rfl⟩ := hP9
    have e7 : (4 : Int) + (i9 : Int) = ((4 + i9 : Nat) : Int) := by omega
    rw [e7] at hx9
    (try k_fold)
    clear F5 N5 R5
    have N6 := mem_dup N7 (hs7 _ (.tail _ (.head _)))
    clear N7
    k_steps
    unfold Hold
    (rename Fr _ _ _ _ => F6)
    refine' parts w _ (4 + i9) _ S ⟨by omega, by omega⟩ (fun n hn => Nat.le_trans (bS.2.2 n hn) (by decide)) (by omega) _ _ _ _ _ _ _ _ _ _ _ _ _ _ _ _ _ _ _ _ _ _ B F6 X N6 T rfl (RowsIn.mono (fun p hp => .tail _ (.tail _ (.tail _ (.tail _ (hs7 _ (.tail _ (.tail _ hp))))))) hS) ?kd ?ku ?_
    case kd => decide
    case ku => decide
    intro r4 tl4 h4 k4 F4 N4 hlt4 hp4
    exact LCg.CompEnd.intro F4 N4 (tl4 ++ news9) (fun p hp => mem_comp hp) (off_app off7 hlt4) trivial ⟨DatIn.mono (fun p hp => List.mem_append_left _ hp) hp4, fun p hp => List.mem_append_right _ hp⟩
  · intro ys9 news9 hl9 hV9 hs9
    unfold LCg.FinA
    intro D9 h9' tk9 F8 N8 off7
    obtain ⟨tl', N6, u6, v6, sub6⟩ := regroup N8 (.tail _ (hs9 _ (.head _))) (.tail _ (hs9 _ (.tail _ (.head _)))) d2 d1
    refine k D9 tl' _ _ (fr_cons F8) N6 u6 v6 (fun p hp hc => sub6 p (.tail _ (hs9 p (.tail _ (.tail _ hp)))) hc) ?_
    exact DatIn.list (sub6 _ (.head _) (fun _ e => nomatch e)) (datAll_keep (fun p hp hc => sub6 p (.tail _ hp) hc) (dats_four hl9 hV9))
end
end Mine
end
section
open PySem PySem.W PyProof.Rows PySem.Spec PySem.Calls PySem.Builtin PySem.Builtin.Str
set_option maxHeartbeats 1000000
namespace Mine
theorem opens_map (R : List Nat) : (opens R).map wS = R.map aS := by
  unfold opens
  rw [List.map_map]
  exact List.map_congr_left fun n _ => wS_false n
theorem opens_good (R : List Nat) : Good (opens R) := by
  intro p hp h
  obtain ⟨n, _, rfl⟩ := List.mem_map.mp hp
  cases h
theorem opens_open (R : List Nat) : LastOpen (opens R) := by
  intro p hp
  obtain ⟨n, _, rfl⟩ := List.mem_map.mp (List.mem_of_getLast? hp)
  rfl
theorem opens_ne {R : List Nat} (h : R ≠ []) : opens R ≠ [] := by simpa [opens] using h
theorem opens_len (R : List Nat) : (opens R).length = R.length := by simp [opens]
theorem ne_of_len {R : List Nat} (h : 1 ≤ R.length) : R ≠ [] := by rintro rfl; simp at h
/-- the tests of the law -/
theorem t_hard_text {R S : List Nat} (hR : 1 ≤ R.length) (hS : 1 ≤ S.length) : ellS (hardS R) (text S) = dealtS (opens R) (opens S) := by
  have e1 : hardS R = Str.join dots ((opens R).map wS) := by rw [opens_map]; rfl
  have e2 : text S = Str.join nlS ((opens S).map wS) := by rw [opens_map]; rfl
  rw [e1, e2]
  exact ell_deal (opens_ne (ne_of_len hR)) (opens_ne (ne_of_len hS)) (opens_good R) (opens_open R) (opens_open S)
theorem t_soft_text {W : Nat} {R S : List Nat} (hW : 4 ≤ W) (hR : 1 ≤ R.length) (hS : 1 ≤ S.length) : ellS (enc W dots R) (text S) = dealtS (partsOf W R) (opens S) := by
  have e2 : text S = Str.join nlS ((opens S).map wS) := by rw [opens_map]; rfl
  rw [e2]
  exact ell_deal (parts_ne (ne_of_len hR)) (opens_ne (ne_of_len hS)) (parts_good W (by omega) R) (parts_open W R) (opens_open S)
theorem t_soft_enc {W V : Nat} {R S : List Nat} (hW : 4 ≤ W) (hR : 1 ≤ R.length) (hS : 1 ≤ S.length) : ellS (enc W dots R) (enc V nlS S) = dealtS (partsOf W R) (partsOf V S) :=
  ell_deal (parts_ne (ne_of_len hR)) (parts_ne (ne_of_len hS)) (parts_good W (by omega) R) (parts_open W R) (parts_open V S)
theorem t_hard_enc {V : Nat} {R S : List Nat} (hR : 1 ≤ R.length) (hS : 1 ≤ S.length) : ellS (hardS R) (enc V nlS S) = dealtS (opens R) (partsOf V S) := by
  have e1 : hardS R = Str.join dots ((opens R).map wS) := by rw [opens_map]; rfl
  rw [e1]
  exact ell_deal (opens_ne (ne_of_len hR)) (parts_ne (ne_of_len hS)) (opens_good R) (opens_open R) (parts_open V S)
theorem parts_cnt {W : Nat} {R : List Nat} (h : 1 ≤ R.length ∧ R.length ≤ 8 ∧ ∀ n ∈ R, n ≤ 100) : 1 ≤ (partsOf W R).length ∧ (partsOf W R).length ≤ 5000 := by
  have h1 := parts_len W R (fun n hn => Nat.le_trans (h.2.2 n hn) (by decide))
  have h2 := parts_many W R
  have h3 : R.length * 201 ≤ 8 * 201 := Nat.mul_le_mul_right _ h.2.1
  omega
theorem opens_cnt {R : List Nat} (h : 1 ≤ R.length ∧ R.length ≤ 8 ∧ ∀ n ∈ R, n ≤ 100) : 1 ≤ (opens R).length ∧ (opens R).length ≤ 5000 := by rw [opens_len]; omega
theorem hard_len {R : List Nat} (h : 1 ≤ R.length ∧ R.length ≤ 8 ∧ ∀ n ∈ R, n ≤ 100) : (hardS R).length ≤ 100000 := by
  have h1 := join_len_le dots 100 (R.map aS) (by
    intro y hy
    obtain ⟨n, hn, rfl⟩ := List.mem_map.mp hy
    rw [aS_len]; exact h.2.2 n hn)
  rw [dots_len, List.length_map] at h1
  unfold hardS
  have h3 : R.length * (100 + 3) ≤ 8 * (100 + 3) := Nat.mul_le_mul_right _ h.2.1
  omega
theorem text_len8 {R : List Nat} (h : 1 ≤ R.length ∧ R.length ≤ 8 ∧ ∀ n ∈ R, n ≤ 100) : (text R).length ≤ 100000 :=
  Nat.le_trans (text_len (fun n hn => Nat.le_trans (h.2.2 n hn) (by decide)) (by omega)) (by decide)
theorem enc_len8 {W : Nat} {eol : Str} {R : List Nat} (he : eol.length ≤ 3) (h : 1 ≤ R.length ∧ R.length ≤ 8 ∧ ∀ n ∈ R, n ≤ 100) : (enc W eol R).length ≤ 100000 :=
  Nat.le_trans (enc_len he (fun n hn => Nat.le_trans (h.2.2 n hn) (by decide)) (by omega)) (by decide)
end Mine
end
section
open PySem PySem.W PyProof.Rows PySem.Spec PySem.Calls PySem.Builtin PySem.Builtin.Str
set_option maxHeartbeats 1000000
namespace Mine
local macro_rules | `(tactic| k_all) => `(tactic| assumption)
local macro_rules | `(tactic| walk_at "call ref") => `(tactic| (refine hold ?_))
section
variable {w : World} {h₀ : Heap} {L fa : Addr} {cd : Value} {loose : List Str} {mean : ExcName → Option Value} {mg mb : Str → Option Value} {s : Shared} {Q : Flow → Shared → Prop} {E : Value → Shared → Prop}
theorem stage8 {la ra wa pa wr pl : Addr} {tt th to : Tok} {o2 : Obj} {R S : List Nat} {tl : Led} (B : Below callerA h₀ [] h₀) (X : (Mine.heap w.params).In h₀) (T : Top Mine.view loose mean mg mb h₀)
    (d2 : o2.data = .cell (some (.str (text S) to))) (bR : 1 ≤ R.length ∧ R.length ≤ 8 ∧ ∀ n ∈ R, n ≤ 100) (bS : 1 ≤ S.length ∧ S.length ≤ 8 ∧ ∀ n ∈ S, n ≤ 100) (hW : PairsIn tl wa (opens R)) (hP : PairsIn tl pa (opens S))
    (F : Fr h₀ L s.heap (fun y => List.lookup y [(Str.ofString "parts", Value.ref pl), (Str.ofString "writings", Value.ref wr), (Str.ofString "plain", Value.ref pa), (Str.ofString "whole", Value.ref wa), (Str.ofString "hard", Value.str (hardS R) th), (Str.ofString "text", Value.str (text R) tt), (Str.ofString "rows", Value.ref ra), (Str.ofString "script", Value.ref la)])) (N : News h₀ L s.heap ((L + 1 + 1, o2) :: tl))
    (k : ∀ h tk, Fr h₀ L h (fun y => List.lookup y [(Str.ofString "parts", Value.ref pl), (Str.ofString "writings", Value.ref wr), (Str.ofString "plain", Value.ref pa), (Str.ofString "whole", Value.ref wa), (Str.ofString "hard", Value.str (hardS R) th), (Str.ofString "text", Value.str (text R) tt), (Str.ofString "rows", Value.ref ra), (Str.ofString "script", Value.ref la)]) → News h₀ L h ((L + 1 + 1, o2) :: tl) → Q .next { s with heap := h, toks := tk }) :
    wpAny (model PySem.Challenge.rw_re0098_01.row.prog w) (callerA.deeper (lenv L fa cd)) (exec law8 (lenv L fa cd)) Q E s := by
  revert X T
  k_fill
  intro X T
  unfold law8
  dsimp only
  k_steps
  unfold Hold
  (rename Fr _ _ _ _ => F5)
  (rename News _ _ _ _ => N5)
  refine' ell w _ _ _ _ (hard_len bR) (text_len8 bS) _ _ _ _ _ _ _ _ _ _ _ _ _ _ _ _ _ _ _ _ _ _ B F5 X N5 T rfl trivial ?kd ?ku ?_
  case kd => decide
  case ku => decide
  intro r4 tl4 h4 k4 F4 N4 hlt4 hp4
  subst hp4
  rw [t_hard_text bR.1 bS.1]
  clear F5 N5
  k_steps
  unfold Hold
  (rename Fr _ _ _ _ => F5)
  (rename News _ _ _ _ => N5)
  refine' dealt w _ _ (opens R) (opens S) (opens_cnt bR) (opens_cnt bS) _ _ _ _ _ _ _ _ _ _ _ _ _ _ _ _ _ _ _ _ _ _ B F5 X N5 T rfl ⟨hW.mono (fun p hp => List.mem_append_right _ (.tail _ hp)), hP.mono (fun p hp => List.mem_append_right _ (.tail _ hp))⟩ ?kd ?ku ?_
  case kd => decide
  case ku => decide
  intro r6 tl6 h6 k6 F6 N6 hlt6 hp6
  subst hp6
  clear F5 N5
  generalize dealtS (opens R) (opens S) = b9
  k_steps
  · rename (b9 != b9) = true => hz
    rw [bne_self_eq_false] at hz
    cases hz
  · exact k _ _ F6 (fun p hp => N6 p (List.mem_append_right _ (List.mem_append_right _ hp)))
end
end Mine
end
section
open PySem PySem.W PyProof.Rows PySem.Spec PySem.Calls PySem.Builtin PySem.Builtin.Str
set_option maxHeartbeats 1000000
namespace Mine
noncomputable def forB : List Stmt := by
  refine (fun (x : List Stmt) (_ : (match law9 with | .For _ _ b _ _ => b | _ => []) = x) => x) ?x ?h
  case h => (dsimp only [law9]; exact rfl)
noncomputable def for0 : Stmt := by
  refine (fun (x : Stmt) (_ : (forB.drop 0).headD default = x) => x) ?x ?h
  case h => (dsimp only [forB, List.drop, List.headD]; exact rfl)
noncomputable def for1 : Stmt := by
  refine (fun (x : Stmt) (_ : (forB.drop 1).headD default = x) => x) ?x ?h
  case h => (dsimp only [forB, List.drop, List.headD]; exact rfl)
noncomputable def for2 : Stmt := by
  refine (fun (x : Stmt) (_ : (forB.drop 2).headD default = x) => x) ?x ?h
  case h => (dsimp only [forB, List.drop, List.headD]; exact rfl)
noncomputable def for3 : Stmt := by
  refine (fun (x : Stmt) (_ : (forB.drop 3).headD default = x) => x) ?x ?h
  case h => (dsimp only [forB, List.drop, List.headD]; exact rfl)
noncomputable def for4 : Stmt := by
  refine (fun (x : Stmt) (_ : (forB.drop 4).headD default = x) => x) ?x ?h
  case h => (dsimp only [forB, List.drop, List.headD]; exact rfl)
noncomputable def for5 : Stmt := by
  refine (fun (x : Stmt) (_ : (forB.drop 5).headD default = x) => x) ?x ?h
  case h => (dsimp only [forB, List.drop, List.headD]; exact rfl)
noncomputable def for6 : Stmt := by
  refine (fun (x : Stmt) (_ : (forB.drop 6).headD default = x) => x) ?x ?h
  case h => (dsimp only [forB, List.drop, List.headD]; exact rfl)
local macro_rules | `(tactic| k_all) => `(tactic| assumption)
local macro_rules | `(tactic| walk_at "call ref") => `(tactic| (refine hold ?_))
section
variable {w : World} {h₀ : Heap} {L fa : Addr} {cd : Value} {loose : List Str} {mean : ExcName → Option Value} {mg mb : Str → Option Value} {s : Shared} {Q : Flow → Shared → Prop} {E : Value → Shared → Prop}
theorem body0 {la ra wa pa wr pl aa : Addr} {tt th tw ts : Tok} {o2 : Obj} {R S : List Nat} {W : Nat} {tl : Led} {m₁ : Str → Option Value} (B : Below callerA h₀ [] h₀) (X : (Mine.heap w.params).In h₀) (T : Top Mine.view loose mean mg mb h₀) (bW : 4 ≤ W ∧ W ≤ 7) (bR : 1 ≤ R.length ∧ R.length ≤ 8 ∧ ∀ n ∈ R, n ≤ 100)
    (hR : RowsIn tl ra R)
    (F : Fr h₀ L s.heap (fun y => (List.lookup y [(Str.ofString "width", Value.int (W : Int) tw), (Str.ofString "parts", Value.ref pl), (Str.ofString "writings", Value.ref wr), (Str.ofString "plain", Value.ref pa), (Str.ofString "whole", Value.ref wa), (Str.ofString "hard", Value.str (hardS R) th), (Str.ofString "text", Value.str (text R) tt), (Str.ofString "rows", Value.ref ra), (Str.ofString "script", Value.ref la)]).or (m₁ y))) (N : News h₀ L s.heap ((L + 1 + 1, o2) :: tl))
    (k : ∀ aa tl' h tk, Fr h₀ L h (fun y => (List.lookup y [(Str.ofString "asked", Value.ref aa), (Str.ofString "width", Value.int (W : Int) tw), (Str.ofString "parts", Value.ref pl), (Str.ofString "writings", Value.ref wr), (Str.ofString "plain", Value.ref pa), (Str.ofString "whole", Value.ref wa), (Str.ofString "hard", Value.str (hardS R) th), (Str.ofString "text", Value.str (text R) tt), (Str.ofString "rows", Value.ref ra), (Str.ofString "script", Value.ref la)]).or (m₁ y)) → News h₀ L h ((L + 1 + 1, o2) :: tl') → (∀ p ∈ tl, p ∈ tl') → PairsIn tl' aa (partsOf W R) → Q .next { s with heap := h, toks := tk }) :
    wpAny (model PySem.Challenge.rw_re0098_01.row.prog w) (callerA.deeper (lenv L fa cd)) (exec for0 (lenv L fa cd)) Q E s := by
  revert X T
  k_fill
  intro X T
  unfold for0
  dsimp only
  k_steps
  unfold Hold
  (rename Fr _ _ _ _ => F5)
  (rename News _ _ _ _ => N5)
  refine' parts w _ W _ R bW (fun n hn => Nat.le_trans (bR.2.2 n hn) (by decide)) (by omega) _ _ _ _ _ _ _ _ _ _ _ _ _ _ _ _ _ _ _ _ _ _ B F5 X N5 T rfl (RowsIn.mono (fun p hp => .tail _ hp) hR) ?kd ?ku ?_
  case kd => decide
  case ku => decide
  intro r4 tl4 h4 k4 F4 N4 hlt4 hp4
  clear F5 N5
  obtain ⟨aa, rfl⟩ : ∃ a, r4 = Value.ref a := by cases hp4 with | list _ _ => exact ⟨_, rfl⟩
  k_steps
  (rename Fr _ _ _ _ => F8)
  (rename News _ _ _ _ => N8)
  exact k aa (tl4 ++ tl) _ _ (fr_or F8) (fun p hp => N8 p (by
    simp only [List.mem_cons, List.mem_append] at hp ⊢
    rcases hp with h | h | h <;> simp [h])) (fun p hp => List.mem_append_right _ hp) (pairsIn_dat (DatIn.mono (fun p hp => List.mem_append_left _ hp) hp4))
theorem body1 {la ra wa pa wr pl aa : Addr} {tt th tw ts : Tok} {o2 : Obj} {R S : List Nat} {W : Nat} {tl : Led} {m₁ : Str → Option Value} (B : Below callerA h₀ [] h₀) (X : (Mine.heap w.params).In h₀) (T : Top Mine.view loose mean mg mb h₀) (bW : 4 ≤ W ∧ W ≤ 7) (bR : 1 ≤ R.length ∧ R.length ≤ 8 ∧ ∀ n ∈ R, n ≤ 100)
    
    (F : Fr h₀ L s.heap (fun y => (List.lookup y [(Str.ofString "asked", Value.ref aa), (Str.ofString "width", Value.int (W : Int) tw), (Str.ofString "parts", Value.ref pl), (Str.ofString "writings", Value.ref wr), (Str.ofString "plain", Value.ref pa), (Str.ofString "whole", Value.ref wa), (Str.ofString "hard", Value.str (hardS R) th), (Str.ofString "text", Value.str (text R) tt), (Str.ofString "rows", Value.ref ra), (Str.ofString "script", Value.ref la)]).or (m₁ y))) (N : News h₀ L s.heap ((L + 1 + 1, o2) :: tl))
    (k : ∀ ts h tk, Fr h₀ L h (fun y => (List.lookup y [(Str.ofString "soft", Value.str (enc W dots R) ts), (Str.ofString "asked", Value.ref aa), (Str.ofString "width", Value.int (W : Int) tw), (Str.ofString "parts", Value.ref pl), (Str.ofString "writings", Value.ref wr), (Str.ofString "plain", Value.ref pa), (Str.ofString "whole", Value.ref wa), (Str.ofString "hard", Value.str (hardS R) th), (Str.ofString "text", Value.str (text R) tt), (Str.ofString "rows", Value.ref ra), (Str.ofString "script", Value.ref la)]).or (m₁ y)) → News h₀ L h ((L + 1 + 1, o2) :: tl) → Q .next { s with heap := h, toks := tk }) :
    wpAny (model PySem.Challenge.rw_re0098_01.row.prog w) (callerA.deeper (lenv L fa cd)) (exec for1 (lenv L fa cd)) Q E s := by
  revert X T
  k_fill
  intro X T
  unfold for1
  dsimp only
  k_steps
  unfold Hold
  (rename Fr _ _ _ _ => F5)
  (rename News _ _ _ _ => N5)
  refine' bodyenc3 w R W dots _ _ _ bW (fun n hn => Nat.le_trans (bR.2.2 n hn) (by decide)) ⟨bR.1, by omega⟩ (by rw [dots_len]; decide) _ _ _ _ _ _ _ _ _ _ _ _ _ _ _ _ _ _ _ _ _ _ B F5 X N5 T rfl trivial ?kd ?ku ?_
  case kd => decide
  case ku => decide
  intro r4 tl4 h4 k4 F4 N4 hlt4 hp4
  clear F5 N5
  obtain ⟨t4, rfl⟩ := hp4
  k_steps
  (rename Fr _ _ _ _ => F8)
  (rename News _ _ _ _ => N8)
  exact k t4 _ _ (fr_or F8) (fun p hp => N8 p (List.mem_append_right _ hp))
end
end Mine
end
section
open PySem PySem.W PyProof.Rows PySem.Spec PySem.Calls PySem.Builtin PySem.Builtin.Str
set_option maxHeartbeats 1000000
namespace Mine
/-- a comprehension over pairs, element by element -/
theorem compRestP_all {prog : Program} {w : World} {A : Around} {h₀ : Heap} {L : Addr} {m : Str → Option Value} {env : Env} {elt : PySem.Expr} {x x₂ : Str} {scope : Scope} {cl : List (Str × Addr)} {s : Shared} {S : Led → Prop} {P : Nat → Value → Prop} {Fin : List Value → Led → Prop} (V : Nat → Led → Value → Prop) (U : Nat → Value → Value → Prop) (base : Led) (n : Nat)
    (mono : ∀ i a b y, (∀ p ∈ a, p ∈ b) → V i a y → V i b y)
    (src : ∀ i v, i < n → P i v → ∃ (t : Addr) (ot : Obj) (v₁ v₂ : Value) (nt : Nat), v = .ref t ∧ (t, ot) ∈ base ∧ ot.cls = .type "tuple" ∧ ot.data = .seq #[v₁, v₂] nt ∧ U i v₁ v₂)
    (elem : ∀ i v₁ v₂ I oI C oC D m₂ h tk (E' : Value → Shared → Prop) ys news', i < n → U i v₁ v₂ → LCg.NsObj oC m₂ → m₂ x = some v₁ → m₂ x₂ = some v₂ → Fr h₀ L h m → News h₀ L h ((I, oI) :: (C, oC) :: (D, LCg.lst ys) :: news') → LCg.Off3 I C D news' → ((@Ne Nat I C) ∧ (@Ne Nat I D) ∧ (@Ne Nat C D)) → (∀ p ∈ base, p ∈ news') →
      wpAny (model prog w) A (eval elt (compEnvC scope cl C env)) (LCg.CompEnd h₀ L m { s with heap := h, toks := tk } I oI C oC D (LCg.lst ys) S (fun y news'' => V i news'' y ∧ ∀ p ∈ news', p ∈ news'')) E' { s with heap := h, toks := tk })
    (fin : ∀ ys news', ys.length = n → (∀ i y, ys[i]? = some y → V i news' y) → (∀ p ∈ base, p ∈ news') → Fin ys news') :
    LCp.CompRestP prog w A h₀ L m env elt x x₂ scope cl s S P Fin n 0 [] base := by
  suffices g : ∀ k i ys news', i + k = n → ys.length = i → (∀ j y, ys[j]? = some y → V j news' y) → (∀ p ∈ base, p ∈ news') → LCp.CompRestP prog w A h₀ L m env elt x x₂ scope cl s S P Fin k i ys news' from
    g n 0 [] base (Nat.zero_add n) rfl (fun j y h => by simp at h) fun _ h => h
  intro k
  induction k with
  | zero => exact fun i ys news' hi hy hV hs => LCp.CompRestP.zero (fin ys news' (by omega) hV hs)
  | succ k ih =>
    intro i ys news' hi hy hV hs
    refine LCp.CompRestP.succ fun v hP => ?_
    obtain ⟨t, ot, v₁, v₂, nt, rfl, hm, hc, hd, hU⟩ := src i v (by omega) hP
    refine ⟨t, ot, v₁, v₂, nt, rfl, hs _ hm, hc, hd, fun I oI C oC D m₂ h tk E' hC hx hx₂ F N off ne => ?_⟩
    refine wpAny_mono (elem i v₁ v₂ I oI C oC D m₂ h tk E' ys news' (by omega) hU hC hx hx₂ F N off ne hs) (fun y s₂ e => ?_) fun _ _ e => e
    obtain ⟨h', tk', news₂, rfl, F', N', off', hS', hV', hsub⟩ := e
    refine ⟨h', tk', news₂, rfl, F', N', off', hS', ih (i + 1) (ys ++ [y]) news₂ (by omega) (by simp [hy]) (fun j z hz => ?_) fun p hp => hsub p (hs p hp)⟩
    by_cases hj : j < ys.length
    · rw [List.getElem?_append_left hj] at hz
      exact mono j news' news₂ z hsub (hV j z hz)
    · have hj2 := (List.getElem?_eq_some_iff.mp hz).1
      rw [List.length_append, List.length_singleton] at hj2
      have e : j = ys.length := by omega
      subst e
      rw [List.getElem?_append_right (Nat.le_refl _), Nat.sub_self] at hz
      cases hz
      rw [hy]
      exact hV'
theorem aS_nil (n : Nat) : aS n ++ Str.ofString "" = wS (n, false) := by
  have e : Str.ofString "" = ⟨#[]⟩ := by decide +kernel
  rw [e, wS_false]
  apply Str.ext'
  apply Array.toList_inj.mp
  rw [Str.cps_append]
  simp
theorem r_addNil {prog : Program} {w : World} {A : Around} {E : Value → Shared → Prop} {s : Shared} {t u : Tok} {Q : Value → Shared → Prop} {n : Nat} (hn : n ≤ 1000) (h : ∀ t' k, Q (.str (wS (n, false)) t') { s with toks := k }) : wpAny (model prog w) A (binaryOp .Add (.str (aS n) t) (.str (Str.ofString "") u)) Q E s :=
  SBL.add (fun t' k _ => by rw [aS_nil]; exact h t' k) (by
    have e : (Str.ofString "").length = 0 := by decide +kernel
    rw [aS_len, sizeLine_eq, e]; omega)
local macro_rules | `(tactic| k_all) => `(tactic| assumption)
local macro_rules | `(tactic| walk_at "call ref") => `(tactic| (refine hold ?_))
local macro_rules | `(tactic| walk_at "SrcLP") => `(tactic| (refine hold ?_))
local macro_rules | `(tactic| walk_at "binaryOp Mult str int") => `(tactic| (refine r_mulA (by omega) ?_; intro t' k'; (try dsimp only)))
local macro_rules | `(tactic| walk_at "binaryOp Add str str") => `(tactic| ((first | refine r_addEq (by omega) ?_ | refine r_addNil (by omega) ?_); intro t' k'; (try dsimp only)))
section
variable {w : World} {h₀ : Heap} {L fa : Addr} {cd : Value} {loose : List Str} {mean : ExcName → Option Value} {mg mb : Str → Option Value} {s : Shared} {Q : Flow → Shared → Prop} {E : Value → Shared → Prop}
theorem body2 {la ra wa pa wr pl aa : Addr} {tt th tw ts to : Tok} {o2 : Obj} {R S : List Nat} {W : Nat} {tl : Led} {m₁ : Str → Option Value} (B : Below callerA h₀ [] h₀) (X : (Mine.heap w.params).In h₀) (T : Top Mine.view loose mean mg mb h₀) (bW : 4 ≤ W ∧ W ≤ 7) (bR : 1 ≤ R.length ∧ R.length ≤ 8 ∧ ∀ n ∈ R, n ≤ 100)
    (hA : PairsIn tl aa (partsOf W R))
    (F : Fr h₀ L s.heap (fun y => (List.lookup y [(Str.ofString "soft", Value.str (enc W dots R) ts), (Str.ofString "asked", Value.ref aa), (Str.ofString "width", Value.int (W : Int) tw), (Str.ofString "parts", Value.ref pl), (Str.ofString "writings", Value.ref wr), (Str.ofString "plain", Value.ref pa), (Str.ofString "whole", Value.ref wa), (Str.ofString "hard", Value.str (hardS R) th), (Str.ofString "text", Value.str (text R) tt), (Str.ofString "rows", Value.ref ra), (Str.ofString "script", Value.ref la)]).or (m₁ y))) (N : News h₀ L s.heap ((L + 1 + 1, o2) :: tl))
    (k : ∀  h tk, Fr h₀ L h (fun y => (List.lookup y [(Str.ofString "soft", Value.str (enc W dots R) ts), (Str.ofString "asked", Value.ref aa), (Str.ofString "width", Value.int (W : Int) tw), (Str.ofString "parts", Value.ref pl), (Str.ofString "writings", Value.ref wr), (Str.ofString "plain", Value.ref pa), (Str.ofString "whole", Value.ref wa), (Str.ofString "hard", Value.str (hardS R) th), (Str.ofString "text", Value.str (text R) tt), (Str.ofString "rows", Value.ref ra), (Str.ofString "script", Value.ref la)]).or (m₁ y)) → News h₀ L h ((L + 1 + 1, o2) :: tl) → Q .next { s with heap := h, toks := tk }) :
    wpAny (model PySem.Challenge.rw_re0098_01.row.prog w) (callerA.deeper (lenv L fa cd)) (exec for2 (lenv L fa cd)) Q E s := by
  revert X T
  k_fill
  intro X T
  unfold for2
  dsimp only
  k_steps
  unfold Hold
  obtain ⟨va9, na9, hma9, hDa9⟩ := hA
  have hcnt := parts_cnt (W := W) bR
  have hlen9 : va9.length = (partsOf W R).length := by have := hDa9.length; rw [List.length_map] at this; exact this
  (rename Fr _ _ _ _ => F5)
  (rename News _ _ _ _ => N5)
  refine' LCp.SrcLP.ledger (k := na9) (its := va9.toArray) ?kh F5 N5 ?km ?ks ?_
  case kh => rfl
  case km => exact .tail _ hma9
  case ks => (rw [sizeLine_eq, List.size_toArray, hlen9]; omega)
  intro g5
  refine compRestP_all (fun i led y => ∃ t, y = Value.str (wS (pt (partsOf W R) i)) t) (fun i v₁ v₂ => ∃ t, v₁ = .int ((pt (partsOf W R) i).1 : Int) t ∧ v₂ = .bool (pt (partsOf W R) i).2) _ _ (fun i a b y _ h => h) ?_ ?_ ?_
  · intro i9 v9 hi9 hP9
    rw [List.size_toArray, hlen9] at hi9
    obtain ⟨q, hq, t, k, hmq⟩ := pairs_get hDa9 hi9
    have e9 : v9 = Value.ref q := by
      have : va9[i9]? = some v9 := by simpa using hP9
      rw [hq] at this
      exact (Option.some.inj this).symm
    exact ⟨q, _, _, _, k, e9, .tail _ hmq, rfl, rfl, t, rfl, rfl⟩
  · intro i9 v1 v2 I9 oI9 C9 oC9 D9 m9 h9' tk9 E9 ys9 news9 hi9 hU9 hC9 hx9 hy9 F7 N7 off7 ne7 hs7
    obtain ⟨t7, rfl, rfl⟩ := hU9
    rw [List.size_toArray, hlen9] at hi9
    have hb7 : (pt (partsOf W R) i9).1 ≤ 1000 := by
      rw [pt_eq hi9]
      exact Nat.le_trans (parts_small bW.2 (fun n hn => Nat.le_trans (bR.2.2 n hn) (by decide)) _ (List.getElem_mem hi9)) (by decide)
    clear F5 N5
    generalize pt (partsOf W R) i9 = p9 at hx9 hy9 hb7 ⊢
    obtain ⟨n9, b9⟩ := p9
    dsimp only at hx9 hy9 hb7
    (try k_fold)
    cases b9 with
    | true =>
      k_steps
      exact LCg.CompEnd.intro F7 N7 news9 (fun _ h => h) off7 (.inr ⟨_, hs7 _ (.tail _ hma9), rfl, _, rfl⟩) ⟨⟨_, rfl⟩, fun _ h => h⟩
    | false =>
      k_steps
      exact LCg.CompEnd.intro F7 N7 news9 (fun _ h => h) off7 (.inr ⟨_, hs7 _ (.tail _ hma9), rfl, _, rfl⟩) ⟨⟨_, rfl⟩, fun _ h => h⟩
  · intro ys9 news9 hl9 hV9 hs9
    rw [List.size_toArray, hlen9] at hl9
    unfold LCg.FinE
    intro D9 h9' tk9 F7 N7 off7
    clear F5 N5
    (try k_fold)
    k_steps
    have hst9 : StrsAre ys9 ((partsOf W R).map wS) := strs_list (by rw [hl9, List.length_map]) fun i y hy => by
      have hi : i < (partsOf W R).length := by rw [← hl9]; exact (List.getElem?_eq_some_iff.mp hy).1
      obtain ⟨t, e⟩ := hV9 i y hy
      refine ⟨t, ?_⟩
      rw [e, pt_eq hi]
      simp [hi]
    refine r_joinL N7 (.head _) hst9 (by decide +kernel) ?_ (by rw [List.length_map]; omega) ?_
    · intro y hy
      obtain ⟨p, hp, rfl⟩ := List.mem_map.mp hy
      have h1 := parts_small bW.2 (fun n hn => Nat.le_trans (bR.2.2 n hn) (by decide)) p hp
      have h2 := wS_len p
      omega
    · intro t7 k7
      have e7 : Str.join (Str.ofString "...") ((partsOf W R).map wS) = enc W dots R := rfl
      rw [e7]
      generalize enc W dots R = x9 at F7 k ⊢
      k_steps
      · rename (x9 != x9) = true => hz
        rw [bne_self_eq_false] at hz
        cases hz
      · exact k _ _ F7 (fun p hp => N7 p (.tail _ (hs9 p hp)))
end
end Mine
end
section
open PySem PySem.W PyProof.Rows PySem.Spec PySem.Calls PySem.Builtin PySem.Builtin.Str
set_option maxHeartbeats 1000000
namespace Mine
theorem r_itemG {prog : Program} {w : World} {A : Around} {E : Value → Shared → Prop} {s : Shared} {h₀ : Heap} {L : Addr} {news : Led} {u : Tok} {Q : Value → Shared → Prop} {value slice : PySem.Expr} {B : Addr} {vs : List Value} {v : Value} {n i : Nat} {k : Int} (N : News h₀ L s.heap news) (hm : (B, lst vs n) ∈ news) (hk : k = (i : Int)) (hi : i < 1000) (hv : vs[i]? = some v) (h : Q v s)
    (hs : subscripted slice false (.ref B) (.int k u) = operate [.ref B, .int k u] (getItem (.ref B) (.int k u)) := by with_unfolding_all rfl) :
    wpAny (model prog w) A (subscriptTail value slice (.ref B) (.int k u)) Q E s := by
  subst hk
  have hl := News.isList N hm
  exact tail_any hl.typeIs slot_list_getitem.lookup (wpAny_getItem_list hl (by omega) (by omega) (by rw [Int.toNat_natCast]; simpa using hv) h) hs
theorem encs_at {S : List Nat} {ws : List Value} (h : StrsAre ws (encs S)) {i : Nat} (hi : i < 4) : ∃ t, ws[i]? = some (.str (enc (4 + i) nlS S) t) := by
  have hl := strsAre_len h
  have hl4 : (encs S).length = 4 := rfl
  have hw : i < ws.length := by omega
  obtain ⟨y, t, e, hy⟩ := strsAre_get2 h (List.getElem?_eq_getElem hw)
  refine ⟨t, ?_⟩
  rw [List.getElem?_eq_getElem hw, e]
  have hc : i = 0 ∨ i = 1 ∨ i = 2 ∨ i = 3 := by omega
  rcases hc with rfl | rfl | rfl | rfl <;> (cases hy; rfl)
theorem datAll_get {led : Led} : ∀ {vs : List Value} {ds : List Dat}, DatAll led vs ds → ∀ {i : Nat} {d : Dat}, ds[i]? = some d → ∃ v, vs[i]? = some v ∧ DatIn led v d
  | _, _, .nil, i, d, h => by simp at h
  | _, _, .cons (v := v) x r, 0, d, h => ⟨v, rfl, by cases h; exact x⟩
  | _, _, .cons _ r, i + 1, d, h => by simpa using datAll_get r (i := i) (d := d) (by simpa using h)
theorem pss_at {led : Led} {S : List Nat} {pl : Addr} (h : DatIn led (.ref pl) (.list (pss S))) : ∃ vs n, (pl, lst vs n) ∈ led ∧ ∀ i, i < 4 → ∃ q, vs[i]? = some (.ref q) ∧ PairsIn led q (partsOf (4 + i) S) := by
  cases h with
  | list hm r =>
    refine ⟨_, _, hm, fun i hi => ?_⟩
    have hd : (pss S)[i]? = some (.list ((partsOf (4 + i) S).map pd)) := by
      have hc : i = 0 ∨ i = 1 ∨ i = 2 ∨ i = 3 := by omega
      rcases hc with rfl | rfl | rfl | rfl <;> rfl
    obtain ⟨v, e, x⟩ := datAll_get r hd
    obtain ⟨q, rfl⟩ : ∃ a, v = Value.ref a := by cases x with | list _ _ => exact ⟨_, rfl⟩
    exact ⟨q, e, pairsIn_dat x⟩
local macro_rules | `(tactic| k_all) => `(tactic| assumption)
local macro_rules | `(tactic| walk_at "call ref") => `(tactic| (refine hold ?_))
local macro_rules | `(tactic| walk_at "subscriptTail") => `(tactic| (refine hold ?_))
section
variable {w : World} {h₀ : Heap} {L fa : Addr} {cd : Value} {loose : List Str} {mean : ExcName → Option Value} {mg mb : Str → Option Value} {s : Shared} {Q : Flow → Shared → Prop} {E : Value → Shared → Prop}
theorem body3 {la ra wa pa wr pl aa : Addr} {tt th tw ts to : Tok} {o2 : Obj} {R S : List Nat} {W : Nat} {tl : Led} {m₁ : Str → Option Value} (B : Below callerA h₀ [] h₀) (X : (Mine.heap w.params).In h₀) (T : Top Mine.view loose mean mg mb h₀) (bW : 4 ≤ W ∧ W ≤ 7) (bR : 1 ≤ R.length ∧ R.length ≤ 8 ∧ ∀ n ∈ R, n ≤ 100)
    
    (F : Fr h₀ L s.heap (fun y => (List.lookup y [(Str.ofString "soft", Value.str (enc W dots R) ts), (Str.ofString "asked", Value.ref aa), (Str.ofString "width", Value.int (W : Int) tw), (Str.ofString "parts", Value.ref pl), (Str.ofString "writings", Value.ref wr), (Str.ofString "plain", Value.ref pa), (Str.ofString "whole", Value.ref wa), (Str.ofString "hard", Value.str (hardS R) th), (Str.ofString "text", Value.str (text R) tt), (Str.ofString "rows", Value.ref ra), (Str.ofString "script", Value.ref la)]).or (m₁ y))) (N : News h₀ L s.heap ((L + 1 + 1, o2) :: tl))
    (k : ∀  h tk, Fr h₀ L h (fun y => (List.lookup y [(Str.ofString "soft", Value.str (enc W dots R) ts), (Str.ofString "asked", Value.ref aa), (Str.ofString "width", Value.int (W : Int) tw), (Str.ofString "parts", Value.ref pl), (Str.ofString "writings", Value.ref wr), (Str.ofString "plain", Value.ref pa), (Str.ofString "whole", Value.ref wa), (Str.ofString "hard", Value.str (hardS R) th), (Str.ofString "text", Value.str (text R) tt), (Str.ofString "rows", Value.ref ra), (Str.ofString "script", Value.ref la)]).or (m₁ y)) → News h₀ L h ((L + 1 + 1, o2) :: tl) → Q .next { s with heap := h, toks := tk }) :
    wpAny (model PySem.Challenge.rw_re0098_01.row.prog w) (callerA.deeper (lenv L fa cd)) (exec for3 (lenv L fa cd)) Q E s := by
  revert X T
  k_fill
  intro X T
  unfold for3
  dsimp only
  k_steps
  unfold Hold
  (rename Fr _ _ _ _ => F5)
  (rename News _ _ _ _ => N5)
  refine' bodyenc2 w R W _ _ bW (fun n hn => Nat.le_trans (bR.2.2 n hn) (by decide)) ⟨bR.1, by omega⟩ _ _ _ _ _ _ _ _ _ _ _ _ _ _ _ _ _ _ _ _ _ _ B F5 X N5 T rfl trivial ?kd ?ku ?_
  case kd => decide
  case ku => decide
  intro r4 tl4 h4 k4 F4 N4 hlt4 hp4
  clear F5 N5
  obtain ⟨t4, rfl⟩ := hp4
  k_steps
  unfold Hold
  (rename Fr _ _ _ _ => F5)
  (rename News _ _ _ _ => N5)
  refine' decoded w R W _ _ bW (fun n hn => Nat.le_trans (bR.2.2 n hn) (by decide)) ⟨bR.1, by omega⟩ _ _ _ _ _ _ _ _ _ _ _ _ _ _ _ _ _ _ _ _ _ _ B F5 X N5 T rfl trivial ?kd ?ku ?_
  case kd => decide
  case ku => decide
  intro r6 tl6 h6 k6 F6 N6 hlt6 hp6
  clear F5 N5
  obtain ⟨t6, rfl⟩ := hp6
  generalize hardS R = x9 at F6 k ⊢
  k_steps
  · rename (x9 != x9) = true => hz
    rw [bne_self_eq_false] at hz
    cases hz
  · exact k _ _ F6 (fun p hp => N6 p (List.mem_append_right _ (List.mem_append_right _ hp)))
theorem body4 {la ra wa pa wr pl aa : Addr} {tt th tw ts to : Tok} {o2 : Obj} {R S : List Nat} {W : Nat} {tl : Led} {m₁ : Str → Option Value} (B : Below callerA h₀ [] h₀) (X : (Mine.heap w.params).In h₀) (T : Top Mine.view loose mean mg mb h₀) (bW : 4 ≤ W ∧ W ≤ 7) (bR : 1 ≤ R.length ∧ R.length ≤ 8 ∧ ∀ n ∈ R, n ≤ 100)
    (d2 : o2.data = .cell (some (.str (text S) to))) (bS : 1 ≤ S.length ∧ S.length ≤ 8 ∧ ∀ n ∈ S, n ≤ 100) (hA : PairsIn tl aa (partsOf W R)) (hP : PairsIn tl pa (opens S))
    (F : Fr h₀ L s.heap (fun y => (List.lookup y [(Str.ofString "soft", Value.str (enc W dots R) ts), (Str.ofString "asked", Value.ref aa), (Str.ofString "width", Value.int (W : Int) tw), (Str.ofString "parts", Value.ref pl), (Str.ofString "writings", Value.ref wr), (Str.ofString "plain", Value.ref pa), (Str.ofString "whole", Value.ref wa), (Str.ofString "hard", Value.str (hardS R) th), (Str.ofString "text", Value.str (text R) tt), (Str.ofString "rows", Value.ref ra), (Str.ofString "script", Value.ref la)]).or (m₁ y))) (N : News h₀ L s.heap ((L + 1 + 1, o2) :: tl))
    (k : ∀  h tk, Fr h₀ L h (fun y => (List.lookup y [(Str.ofString "soft", Value.str (enc W dots R) ts), (Str.ofString "asked", Value.ref aa), (Str.ofString "width", Value.int (W : Int) tw), (Str.ofString "parts", Value.ref pl), (Str.ofString "writings", Value.ref wr), (Str.ofString "plain", Value.ref pa), (Str.ofString "whole", Value.ref wa), (Str.ofString "hard", Value.str (hardS R) th), (Str.ofString "text", Value.str (text R) tt), (Str.ofString "rows", Value.ref ra), (Str.ofString "script", Value.ref la)]).or (m₁ y)) → News h₀ L h ((L + 1 + 1, o2) :: tl) → Q .next { s with heap := h, toks := tk }) :
    wpAny (model PySem.Challenge.rw_re0098_01.row.prog w) (callerA.deeper (lenv L fa cd)) (exec for4 (lenv L fa cd)) Q E s := by
  revert X T
  k_fill
  intro X T
  unfold for4
  dsimp only
  k_steps
  unfold Hold
  (rename Fr _ _ _ _ => F5)
  (rename News _ _ _ _ => N5)
  refine' ell w _ _ _ _ (enc_len8 (by rw [dots_len]; decide) bR) (text_len8 bS) _ _ _ _ _ _ _ _ _ _ _ _ _ _ _ _ _ _ _ _ _ _ B F5 X N5 T rfl trivial ?kd ?ku ?_
  case kd => decide
  case ku => decide
  intro r4 tl4 h4 k4 F4 N4 hlt4 hp4
  clear F5 N5
  subst hp4
  rw [t_soft_text bW.1 bR.1 bS.1]
  k_steps
  unfold Hold
  (rename Fr _ _ _ _ => F5)
  (rename News _ _ _ _ => N5)
  refine' dealt w _ _ (partsOf W R) (opens S) (parts_cnt bR) (opens_cnt bS) _ _ _ _ _ _ _ _ _ _ _ _ _ _ _ _ _ _ _ _ _ _ B F5 X N5 T rfl ⟨hA.mono (fun p hp => List.mem_append_right _ (.tail _ hp)), hP.mono (fun p hp => List.mem_append_right _ (.tail _ hp))⟩ ?kd ?ku ?_
  case kd => decide
  case ku => decide
  intro r6 tl6 h6 k6 F6 N6 hlt6 hp6
  clear F5 N5
  subst hp6
  generalize dealtS (partsOf W R) (opens S) = b9
  k_steps
  · rename (b9 != b9) = true => hz
    rw [bne_self_eq_false] at hz
    cases hz
  · exact k _ _ F6 (fun p hp => N6 p (List.mem_append_right _ (List.mem_append_right _ hp)))
theorem body6 {la ra wa pa wr pl aa : Addr} {tt th tw ts to : Tok} {o2 : Obj} {R S : List Nat} {W : Nat} {tl : Led} {m₁ : Str → Option Value} (B : Below callerA h₀ [] h₀) (X : (Mine.heap w.params).In h₀) (T : Top Mine.view loose mean mg mb h₀) (bW : 4 ≤ W ∧ W ≤ 7) (bR : 1 ≤ R.length ∧ R.length ≤ 8 ∧ ∀ n ∈ R, n ≤ 100)
    (bS : 1 ≤ S.length ∧ S.length ≤ 8 ∧ ∀ n ∈ S, n ≤ 100) (hw : PairsIn tl wa (opens R)) (hWr : ∃ ws, (wr, LCg.lst ws) ∈ tl ∧ StrsAre ws (encs S)) (hPs : DatIn tl (.ref pl) (.list (pss S)))
    (F : Fr h₀ L s.heap (fun y => (List.lookup y [(Str.ofString "soft", Value.str (enc W dots R) ts), (Str.ofString "asked", Value.ref aa), (Str.ofString "width", Value.int (W : Int) tw), (Str.ofString "parts", Value.ref pl), (Str.ofString "writings", Value.ref wr), (Str.ofString "plain", Value.ref pa), (Str.ofString "whole", Value.ref wa), (Str.ofString "hard", Value.str (hardS R) th), (Str.ofString "text", Value.str (text R) tt), (Str.ofString "rows", Value.ref ra), (Str.ofString "script", Value.ref la)]).or (m₁ y))) (N : News h₀ L s.heap ((L + 1 + 1, o2) :: tl))
    (k : ∀  h tk, Fr h₀ L h (fun y => (List.lookup y [(Str.ofString "soft", Value.str (enc W dots R) ts), (Str.ofString "asked", Value.ref aa), (Str.ofString "width", Value.int (W : Int) tw), (Str.ofString "parts", Value.ref pl), (Str.ofString "writings", Value.ref wr), (Str.ofString "plain", Value.ref pa), (Str.ofString "whole", Value.ref wa), (Str.ofString "hard", Value.str (hardS R) th), (Str.ofString "text", Value.str (text R) tt), (Str.ofString "rows", Value.ref ra), (Str.ofString "script", Value.ref la)]).or (m₁ y)) → News h₀ L h ((L + 1 + 1, o2) :: tl) → Q .next { s with heap := h, toks := tk }) :
    wpAny (model PySem.Challenge.rw_re0098_01.row.prog w) (callerA.deeper (lenv L fa cd)) (exec for6 (lenv L fa cd)) Q E s := by
  obtain ⟨ws9, hm9, hst9⟩ := hWr
  obtain ⟨vs9, n9, hn9, hps9⟩ := pss_at hPs
  obtain ⟨t9, e9⟩ := encs_at hst9 (i := W - 4) (by omega)
  obtain ⟨q9, f9, hq9⟩ := hps9 (W - 4) (by omega)
  revert X T
  k_fill
  intro X T
  unfold for6
  dsimp only
  k_steps
  unfold Hold
  (rename News _ _ _ _ => N5)
  refine' r_itemG (i := W - 4) N5 ?km ?kk ?ki ?kv ?_ ?ks
  case km => exact .tail _ hm9
  case kk => omega
  case ki => omega
  case kv => exact e9
  case ks => with_unfolding_all rfl
  k_steps
  unfold Hold
  (rename Fr _ _ _ _ => F5)
  (rename News _ _ _ _ => N5)
  refine' ell w _ _ _ _ (hard_len bR) (enc_len8 (by rw [nl_len]; decide) bS) _ _ _ _ _ _ _ _ _ _ _ _ _ _ _ _ _ _ _ _ _ _ B F5 X N5 T rfl trivial ?kd ?ku ?_
  case kd => decide
  case ku => decide
  intro r4 tl4 h4 k4 F4 N4 hlt4 hp4
  clear F5 N5
  subst hp4
  rw [t_hard_enc bR.1 bS.1]
  k_steps
  unfold Hold
  (rename News _ _ _ _ => N5)
  refine' r_itemG (i := W - 4) N5 ?km ?kk ?ki ?kv ?_ ?ks
  case km => exact List.mem_append_right _ (.tail _ hn9)
  case kk => omega
  case ki => omega
  case kv => exact f9
  case ks => with_unfolding_all rfl
  k_steps
  unfold Hold
  (rename Fr _ _ _ _ => F5)
  (rename News _ _ _ _ => N5)
  refine' dealt w _ _ (opens R) (partsOf (4 + (W - 4)) S) (opens_cnt bR) (parts_cnt bS) _ _ _ _ _ _ _ _ _ _ _ _ _ _ _ _ _ _ _ _ _ _ B F5 X N5 T rfl ⟨hw.mono (fun p hp => List.mem_append_right _ (.tail _ hp)), hq9.mono (fun p hp => List.mem_append_right _ (.tail _ hp))⟩ ?kd ?ku ?_
  case kd => decide
  case ku => decide
  intro r6 tl6 h6 k6 F6 N6 hlt6 hp6
  clear F5 N5
  subst hp6
  generalize dealtS (opens R) (partsOf (4 + (W - 4)) S) = b9
  k_steps
  · rename (b9 != b9) = true => hz
    rw [bne_self_eq_false] at hz
    cases hz
  · exact k _ _ F6 (fun p hp => N6 p (List.mem_append_right _ (List.mem_append_right _ hp)))
end
end Mine
end
section
open PySem PySem.W PyProof.Rows PySem.Spec PySem.Calls PySem.Builtin PySem.Builtin.Str
set_option maxHeartbeats 1000000
namespace Mine
noncomputable def for5b : Stmt := by
  refine (fun (x : Stmt) (_ : (match for5 with | .For _ _ [b] _ _ => b | _ => default) = x) => x) ?x ?h
  case h => (dsimp only [for5]; exact rfl)
local macro_rules | `(tactic| walk_at "exec For Name Call cons nil") => `(tactic| (k_here; (rename Fr _ _ _ _ => lF'); (with_unfolding_all refine' For_invVF lF' ?k1 ?k2 ?_ ?k3 ?k4; (case k1 => exact rfl); (case k2 => exact rfl); (case k3 => (intro _; rfl)); (case k4 => assumption); k_whole)))
local macro_rules | `(tactic| k_all) => `(tactic| assumption)
local macro_rules | `(tactic| walk_at "call ref") => `(tactic| (refine hold ?_))
local macro_rules | `(tactic| walk_at "subscriptTail") => `(tactic| (refine hold ?_))
local macro_rules | `(tactic| walk_at "pyIter ref") => `(tactic| (refine hold ?_))
section
variable {w : World} {h₀ : Heap} {L fa : Addr} {cd : Value} {loose : List Str} {mean : ExcName → Option Value} {mg mb : Str → Option Value} {s : Shared} {Q : Flow → Shared → Prop} {E : Value → Shared → Prop}
theorem body5i {la ra wa pa wr pl aa : Addr} {tt th tw ts to : Tok} {j : Nat} {tj : Tok} {o2 : Obj} {R S : List Nat} {W : Nat} {tl : Led} {m₁ : Str → Option Value} (B : Below callerA h₀ [] h₀) (X : (Mine.heap w.params).In h₀) (T : Top Mine.view loose mean mg mb h₀) (bW : 4 ≤ W ∧ W ≤ 7) (bR : 1 ≤ R.length ∧ R.length ≤ 8 ∧ ∀ n ∈ R, n ≤ 100)
    (bS : 1 ≤ S.length ∧ S.length ≤ 8 ∧ ∀ n ∈ S, n ≤ 100) (hA : PairsIn tl aa (partsOf W R)) (hWr : ∃ ws, (wr, LCg.lst ws) ∈ tl ∧ StrsAre ws (encs S)) (hPs : DatIn tl (.ref pl) (.list (pss S))) (bj : j < 4)
    (F : Fr h₀ L s.heap (fun y => (List.lookup y [(Str.ofString "k", Value.int (j : Int) tj), (Str.ofString "soft", Value.str (enc W dots R) ts), (Str.ofString "asked", Value.ref aa), (Str.ofString "width", Value.int (W : Int) tw), (Str.ofString "parts", Value.ref pl), (Str.ofString "writings", Value.ref wr), (Str.ofString "plain", Value.ref pa), (Str.ofString "whole", Value.ref wa), (Str.ofString "hard", Value.str (hardS R) th), (Str.ofString "text", Value.str (text R) tt), (Str.ofString "rows", Value.ref ra), (Str.ofString "script", Value.ref la)]).or (m₁ y))) (N : News h₀ L s.heap ((L + 1 + 1, o2) :: tl))
    (k : ∀  h tk, Fr h₀ L h (fun y => (List.lookup y [(Str.ofString "k", Value.int (j : Int) tj), (Str.ofString "soft", Value.str (enc W dots R) ts), (Str.ofString "asked", Value.ref aa), (Str.ofString "width", Value.int (W : Int) tw), (Str.ofString "parts", Value.ref pl), (Str.ofString "writings", Value.ref wr), (Str.ofString "plain", Value.ref pa), (Str.ofString "whole", Value.ref wa), (Str.ofString "hard", Value.str (hardS R) th), (Str.ofString "text", Value.str (text R) tt), (Str.ofString "rows", Value.ref ra), (Str.ofString "script", Value.ref la)]).or (m₁ y)) → News h₀ L h ((L + 1 + 1, o2) :: tl) → Q .next { s with heap := h, toks := tk }) :
    wpAny (model PySem.Challenge.rw_re0098_01.row.prog w) (callerA.deeper (lenv L fa cd)) (exec for5b (lenv L fa cd)) Q E s := by
  obtain ⟨ws9, hm9, hst9⟩ := hWr
  obtain ⟨vs9, n9, hn9, hps9⟩ := pss_at hPs
  obtain ⟨t9, e9⟩ := encs_at hst9 bj
  obtain ⟨q9, f9, hq9⟩ := hps9 j bj
  revert X T
  k_fill
  intro X T
  unfold for5b
  dsimp only
  k_steps
  unfold Hold
  (rename News _ _ _ _ => N5)
  refine' r_itemG (i := j) N5 ?km ?kk ?ki ?kv ?_ ?ks
  case km => exact .tail _ hm9
  case kk => omega
  case ki => omega
  case kv => exact e9
  case ks => with_unfolding_all rfl
  k_steps
  unfold Hold
  (rename Fr _ _ _ _ => F5)
  (rename News _ _ _ _ => N5)
  refine' ell w _ _ _ _ (enc_len8 (by rw [dots_len]; decide) bR) (enc_len8 (by rw [nl_len]; decide) bS) _ _ _ _ _ _ _ _ _ _ _ _ _ _ _ _ _ _ _ _ _ _ B F5 X N5 T rfl trivial ?kd ?ku ?_
  case kd => decide
  case ku => decide
  intro r4 tl4 h4 k4 F4 N4 hlt4 hp4
  clear F5 N5
  subst hp4
  rw [t_soft_enc bW.1 bR.1 bS.1]
  k_steps
  unfold Hold
  (rename News _ _ _ _ => N5)
  refine' r_itemG (i := j) N5 ?km ?kk ?ki ?kv ?_ ?ks
  case km => exact List.mem_append_right _ (.tail _ hn9)
  case kk => omega
  case ki => omega
  case kv => exact f9
  case ks => with_unfolding_all rfl
  k_steps
  unfold Hold
  (rename Fr _ _ _ _ => F5)
  (rename News _ _ _ _ => N5)
  refine' dealt w _ _ (partsOf W R) (partsOf (4 + j) S) (parts_cnt bR) (parts_cnt bS) _ _ _ _ _ _ _ _ _ _ _ _ _ _ _ _ _ _ _ _ _ _ B F5 X N5 T rfl ⟨hA.mono (fun p hp => List.mem_append_right _ (.tail _ hp)), hq9.mono (fun p hp => List.mem_append_right _ (.tail _ hp))⟩ ?kd ?ku ?_
  case kd => decide
  case ku => decide
  intro r6 tl6 h6 k6 F6 N6 hlt6 hp6
  clear F5 N5
  subst hp6
  generalize dealtS (partsOf W R) (partsOf (4 + j) S) = b9
  k_steps
  · rename (b9 != b9) = true => hz
    rw [bne_self_eq_false] at hz
    cases hz
  · exact k _ _ F6 (fun p hp => N6 p (List.mem_append_right _ (List.mem_append_right _ hp)))
theorem body5 {la ra wa pa wr pl aa : Addr} {tt th tw ts to : Tok} {o2 : Obj} {R S : List Nat} {W : Nat} {tl : Led} {m₁ : Str → Option Value} (B : Below callerA h₀ [] h₀) (X : (Mine.heap w.params).In h₀) (T : Top Mine.view loose mean mg mb h₀) (hE : PassesOwn (model PySem.Challenge.rw_re0098_01.row.prog w) (callerA.deeper (lenv L fa cd)) (lenv L fa cd) E) (bW : 4 ≤ W ∧ W ≤ 7) (bR : 1 ≤ R.length ∧ R.length ≤ 8 ∧ ∀ n ∈ R, n ≤ 100)
    (bS : 1 ≤ S.length ∧ S.length ≤ 8 ∧ ∀ n ∈ S, n ≤ 100) (hA : PairsIn tl aa (partsOf W R)) (hWr : ∃ ws, (wr, LCg.lst ws) ∈ tl ∧ StrsAre ws (encs S)) (hPs : DatIn tl (.ref pl) (.list (pss S)))
    (F : Fr h₀ L s.heap (fun y => (List.lookup y [(Str.ofString "soft", Value.str (enc W dots R) ts), (Str.ofString "asked", Value.ref aa), (Str.ofString "width", Value.int (W : Int) tw), (Str.ofString "parts", Value.ref pl), (Str.ofString "writings", Value.ref wr), (Str.ofString "plain", Value.ref pa), (Str.ofString "whole", Value.ref wa), (Str.ofString "hard", Value.str (hardS R) th), (Str.ofString "text", Value.str (text R) tt), (Str.ofString "rows", Value.ref ra), (Str.ofString "script", Value.ref la)]).or (m₁ y))) (N : News h₀ L s.heap ((L + 1 + 1, o2) :: tl))
    (k : ∀ (m₁ : Str → Option Value) h tk, Fr h₀ L h (fun y => (List.lookup y [(Str.ofString "soft", Value.str (enc W dots R) ts), (Str.ofString "asked", Value.ref aa), (Str.ofString "width", Value.int (W : Int) tw), (Str.ofString "parts", Value.ref pl), (Str.ofString "writings", Value.ref wr), (Str.ofString "plain", Value.ref pa), (Str.ofString "whole", Value.ref wa), (Str.ofString "hard", Value.str (hardS R) th), (Str.ofString "text", Value.str (text R) tt), (Str.ofString "rows", Value.ref ra), (Str.ofString "script", Value.ref la)]).or (m₁ y)) → News h₀ L h ((L + 1 + 1, o2) :: tl) → Q .next { s with heap := h, toks := tk }) :
    wpAny (model PySem.Challenge.rw_re0098_01.row.prog w) (callerA.deeper (lenv L fa cd)) (exec for5 (lenv L fa cd)) Q E s := by
  revert X T
  k_fill
  intro X T
  unfold for5
  dsimp only
  k_steps
  unfold Hold
  (rename IsRange _ _ _ _ _ _ _ _ => R9)
  (rename Fr _ _ _ _ => F9)
  (rename News _ _ _ _ => N9)
  refine' for_rangeP (σ := Unit) (n := 4) (fun c => [(Str.ofString "soft", Value.str (enc W dots R) ts), (Str.ofString "asked", Value.ref aa), (Str.ofString "width", Value.int (W : Int) tw), (Str.ofString "parts", Value.ref pl), (Str.ofString "writings", Value.ref wr), (Str.ofString "plain", Value.ref pa), (Str.ofString "whole", Value.ref wa), (Str.ofString "hard", Value.str (hardS R) th), (Str.ofString "text", Value.str (text R) tt), (Str.ofString "rows", Value.ref ra), (Str.ofString "script", Value.ref la)]) (fun _ => []) (fun i c => True) () (by rfl) R9 ?k1 ?k2 F9 N9 trivial ?k3 ?_ ?_
  case k1 => decide
  case k2 => decide
  case k3 => (intro p hp; simp only [List.mem_cons, List.not_mem_nil, or_false] at hp; rcases hp with rfl | rfl | rfl | rfl | rfl | rfl | rfl | rfl | rfl | rfl | rfl <;> with_unfolding_all rfl)
  · rintro i' _ t' m' h' tk' own' hi' _ hoff' F' N'
    have e7 : (0 : Int) + (i' : Int) = ((i' : Nat) : Int) := by omega
    rw [e7] at F'
    clear F9 N9 R9
    refine wpAny_execs_cons ?_
    obtain ⟨ws9, hm9, hst9⟩ := hWr
    refine body5i (S := S) (to := 0) B X T bW bR bS (hA.mono fun p hp => List.mem_append_left _ hp) ⟨ws9, List.mem_append_left _ hm9, hst9⟩ (DatIn.mono (fun p hp => List.mem_append_left _ hp) hPs) hi' (fr_or F') N' ?_
    intro h9 tk9 F8 N8
    refine wpAny_execs_nil ?_
    refine g_end () F8 N8 (fun p hp => List.mem_append_left own' hp) (fun p hp => List.mem_append_right ((L + 1 + 1, o2) :: tl) hp) hoff' ?_ trivial
    intro p hp; simp only [List.mem_cons, List.not_mem_nil, or_false] at hp; rcases hp with rfl | rfl | rfl | rfl | rfl | rfl | rfl | rfl | rfl | rfl | rfl <;> with_unfolding_all rfl
  · rintro _ m' h' tk' _ F' N'
    clear F9 N9 R9
    k_steps
    exact k _ _ _ F' N'
end
end Mine
end
section
open PySem PySem.W PyProof.Rows PySem.Spec PySem.Calls PySem.Builtin PySem.Builtin.Str
set_option maxHeartbeats 1000000
namespace Mine
local macro_rules | `(tactic| walk_at "exec For Name Call cons nil") => `(tactic| (k_here; (rename Fr _ _ _ _ => lF'); (with_unfolding_all refine' For_invVF lF' ?k1 ?k2 ?_ ?k3 ?k4; (case k1 => exact rfl); (case k2 => exact rfl); (case k3 => (intro _; rfl)); (case k4 => assumption); k_whole)))
local macro_rules | `(tactic| k_all) => `(tactic| assumption)
local macro_rules | `(tactic| walk_at "call ref") => `(tactic| (refine hold ?_))
local macro_rules | `(tactic| walk_at "subscriptTail") => `(tactic| (refine hold ?_))
local macro_rules | `(tactic| walk_at "pyIter ref") => `(tactic| (refine hold ?_))
section
variable {w : World} {h₀ : Heap} {L fa : Addr} {cd : Value} {loose : List Str} {mean : ExcName → Option Value} {mg mb : Str → Option Value} {s : Shared} {Q : Flow → Shared → Prop} {E : Value → Shared → Prop}
theorem stage9 {la ra wa pa wr pl : Addr} {tt th to : Tok} {o2 : Obj} {R S : List Nat} {tl : Led} (B : Below callerA h₀ [] h₀) (X : (Mine.heap w.params).In h₀) (T : Top Mine.view loose mean mg mb h₀) (hE : PassesOwn (model PySem.Challenge.rw_re0098_01.row.prog w) (callerA.deeper (lenv L fa cd)) (lenv L fa cd) E) (d2 : o2.data = .cell (some (.str (text S) to))) (bR : 1 ≤ R.length ∧ R.length ≤ 8 ∧ ∀ n ∈ R, n ≤ 100) (bS : 1 ≤ S.length ∧ S.length ≤ 8 ∧ ∀ n ∈ S, n ≤ 100)
    (hR : RowsIn tl ra R) (hw : PairsIn tl wa (opens R)) (hP : PairsIn tl pa (opens S)) (hWr : ∃ ws, (wr, LCg.lst ws) ∈ tl ∧ StrsAre ws (encs S)) (hPs : DatIn tl (.ref pl) (.list (pss S)))
    (F : Fr h₀ L s.heap (fun y => List.lookup y [(Str.ofString "parts", Value.ref pl), (Str.ofString "writings", Value.ref wr), (Str.ofString "plain", Value.ref pa), (Str.ofString "whole", Value.ref wa), (Str.ofString "hard", Value.str (hardS R) th), (Str.ofString "text", Value.str (text R) tt), (Str.ofString "rows", Value.ref ra), (Str.ofString "script", Value.ref la)])) (N : News h₀ L s.heap ((L + 1 + 1, o2) :: tl))
    (k : ∀ (m₁ : Str → Option Value) h tk, Fr h₀ L h (fun y => (List.lookup y [(Str.ofString "parts", Value.ref pl), (Str.ofString "writings", Value.ref wr), (Str.ofString "plain", Value.ref pa), (Str.ofString "whole", Value.ref wa), (Str.ofString "hard", Value.str (hardS R) th), (Str.ofString "text", Value.str (text R) tt), (Str.ofString "rows", Value.ref ra), (Str.ofString "script", Value.ref la)]).or (m₁ y)) → News h₀ L h ((L + 1 + 1, o2) :: tl) → Q .next { s with heap := h, toks := tk }) :
    wpAny (model PySem.Challenge.rw_re0098_01.row.prog w) (callerA.deeper (lenv L fa cd)) (exec law9 (lenv L fa cd)) Q E s := by
  revert X T
  k_fill
  intro X T
  unfold law9
  dsimp only
  k_steps
  unfold Hold
  (rename IsRange _ _ _ _ _ _ _ _ => R9)
  (rename Fr _ _ _ _ => F9)
  (rename News _ _ _ _ => N9)
  refine' for_rangeP (σ := Unit) (n := 4) (fun c => [(Str.ofString "parts", Value.ref pl), (Str.ofString "writings", Value.ref wr), (Str.ofString "plain", Value.ref pa), (Str.ofString "whole", Value.ref wa), (Str.ofString "hard", Value.str (hardS R) th), (Str.ofString "text", Value.str (text R) tt), (Str.ofString "rows", Value.ref ra), (Str.ofString "script", Value.ref la)]) (fun _ => []) (fun i c => True) () (by rfl) R9 ?k1 ?k2 F9 N9 trivial ?k3 ?_ ?_
  case k1 => decide
  case k2 => decide
  case k3 => (intro p hp; simp only [List.mem_cons, List.not_mem_nil, or_false] at hp; rcases hp with rfl | rfl | rfl | rfl | rfl | rfl | rfl | rfl <;> with_unfolding_all rfl)
  · rintro i' _ t' m' h' tk' own' hi' _ hoff' F' N'
    have e7 : (4 : Int) + (i' : Int) = ((4 + i' : Nat) : Int) := by omega
    rw [e7] at F'
    have bW : 4 ≤ 4 + i' ∧ 4 + i' ≤ 7 := by omega
    generalize 4 + i' = W at F' bW
    clear F9 N9 R9
    have N'' : News h₀ L h' ((L + 1 + 1, o2) :: (tl ++ own')) := N'
    obtain ⟨ws9, hm9, hst9⟩ := hWr
    refine wpAny_execs_cons (body0 (aa := 0) (ts := 0) (S := S) B X T bW bR (hR.mono fun p hp => List.mem_append_left _ hp) (fr_or F') N'' ?_)
    clear F' N' N''
    intro aa tl1 h1 tk1 F1 N1 sub hA
    have hs : ∀ p ∈ tl, p ∈ tl1 := fun p hp => sub p (List.mem_append_left _ hp)
    refine wpAny_execs_cons (body1 (ts := 0) (S := S) B X T bW bR F1 N1 ?_)
    clear F1 N1
    intro ts h1 tk1 F1 N1
    refine wpAny_execs_cons (body2 (to := 0) (S := S) B X T bW bR hA F1 N1 ?_)
    clear F1 N1
    intro h1 tk1 F1 N1
    refine wpAny_execs_cons (body3 (to := 0) (S := S) B X T bW bR F1 N1 ?_)
    clear F1 N1
    intro h1 tk1 F1 N1
    refine wpAny_execs_cons (body4 B X T bW bR d2 bS hA (hP.mono hs) F1 N1 ?_)
    clear F1 N1
    intro h1 tk1 F1 N1
    refine wpAny_execs_cons (body5 (to := 0) B X T hE bW bR bS hA ⟨ws9, hs _ hm9, hst9⟩ (DatIn.mono hs hPs) F1 N1 ?_)
    clear F1 N1
    intro m₂ h1 tk1 F1 N1
    refine wpAny_execs_cons (body6 (to := 0) B X T bW bR bS (hw.mono hs) ⟨ws9, hs _ hm9, hst9⟩ (DatIn.mono hs hPs) F1 N1 ?_)
    clear F1 N1
    intro h1 tk1 F1 N1
    refine wpAny_execs_nil ?_
    refine g_end () F1 N1 (fun p hp => ?_) (fun p hp => .tail _ (sub p (List.mem_append_right _ hp))) hoff' ?_ trivial
    · rcases List.mem_cons.mp hp with rfl | hp
      · exact .head _
      · exact .tail _ (hs p hp)
    · intro p hp; simp only [List.mem_cons, List.not_mem_nil, or_false] at hp; rcases hp with rfl | rfl | rfl | rfl | rfl | rfl | rfl | rfl <;> with_unfolding_all rfl
  · rintro _ m' h' tk' _ F' N'
    clear F9 N9 R9
    k_steps
    exact k _ _ _ F' N'
end
end Mine
end
section
open PySem PySem.W PyProof.Rows PySem.Spec PySem.Calls PySem.Builtin PySem.Builtin.Str
set_option maxHeartbeats 1000000
namespace Mine
/-- a def that catches, called from any frame that stands on the caller's own -/
theorem callS {prog : Program} {w : World} {A A₀ : Around} {s : Shared} {base h₀ : Heap} {L : Addr} {m : Str → Option Value} {env : Env} {news : Led} {K : Frag} {p : Program} {loose : List Str} {mean : ExcName → Option Value} {mg mb : Str → Option Value}
    {R : Result → Shared → Prop} {name qual : Str} {params : Arguments} {body : List Stmt} {scope : Scope} {dV kV doc pm cdv ct oc : Value} {an od : Option Addr} {osl : Array (Option Value)} {f : Addr} {args : Args} {binds : List (Str × Value)}
    (B : Below A₀ base [] h₀) (F : Fr h₀ L s.heap m) (X₀ : K.In h₀) (N : News h₀ L s.heap news) (T : Top p loose mean mg mb h₀) (hA : A.frames = some [env]) (hf : env.frame = some L) (hke : env.scope.kind = .function)
    (ho : K.lookup f = some ⟨oc, od, .func (fnOf name qual params body scope dV kV doc pm an cdv ct), osl⟩) (hcd : codeIn K cdv qual = true) (hroom : A.depth < recursionLimit)
    (hbind : BindsTo s (fnOf name qual params body scope dV kV doc pm an cdv ct) args binds) (hloc : ∀ y ∈ binds, scope.names.lookup y.1 = some .local)
    (h : ∀ g L' h₁, Fr h₀ L g m → Fr g L' h₁ (fun y => binds.reverse.lookup y) → News g L' h₁ news → Below A base [env] g → K.In g → Top p loose mean mg mb g → KtsDicts ([env].filterMap (·.frame)) g →
      wpAny (model prog w) (A.deeper (envOf qual scope L' f cdv)) (execs body (envOf qual scope L' f cdv))
        (fun fl s' => LeaveS0 ([env].filterMap (·.frame)) h₀ L m g R (match fl with | .ret v => v | _ => .none) s')
        (fun e s' => wpAny (model prog w) (A.deeper (envOf qual scope L' f cdv)) (leaving (envOf qual scope L' f cdv) e) (fun _ s'' => R (.error e) s'') (fun e' s'' => R (.error e') s'') s')
        { s with heap := h₁, toks := s.toks + binds.length })
    (hco : scope.isCoroutine = false) (hgen : scope.isGenerator = false) (hk : scope.kind = .function)
    (hcell : ∀ x ∈ scope.names, x.2 ≠ .cell) : codeAny (model prog w) A (.call (.ref f) args) R s := by
  obtain ⟨FG, BG, st, _⟩ := groundX (R := R) B F N hA hf hke
  have hfs : ∀ b ∈ [env].filterMap (·.frame), b = L := fun b hb => by
    obtain ⟨e, he, hb⟩ := List.mem_filterMap.mp hb
    rw [List.mem_singleton.mp he, hf] at hb
    exact (Option.some.inj hb).symm
  have hns := FG.ns
  obtain ⟨oL, es, ep, hLg, hLd, hLk, hLf⟩ := hns
  have hL₀ : h₀.get? L = none := Heap.get?_none_of_le F.above
  have back : ∀ {g' : Heap}, KtsTurn ([env].filterMap (·.frame)) (hideAll s.heap (news.map (·.1))) g' → (∀ b o, h₀.get? b = some o → g'.get? b = some o) := fun T' b o e =>
    T'.other b o (st b o e) fun hb => by rw [hfs b hb, hL₀] at e; cases e
  refine codeAny_call_def (fd := fnOf name qual params body scope dV kV doc pm an cdv ct) (body := body) (binds := binds) hroom ((X₀.keeps F.keep) _ _ ho) rfl (T.nolimit.keeps F.keep) (codeRec_of (X₀.keeps F.keep) hcd) rfl hbind hcell hloc (fun h₁ hn hk₁ => ?_) hco hgen hk
  have F₁ : Fr (hideAll s.heap (news.map (·.1))) s.heap.objs.size h₁ (fun y => binds.reverse.lookup y) := ⟨hn, fun b o e => hk₁ b o (of_hideAll _ e), Nat.le_of_eq (hideAll_size _ _)⟩
  have N₁ : News (hideAll s.heap (news.map (·.1))) s.heap.objs.size h₁ news := fun q hq => ⟨hk₁ _ _ (N q hq).1, Nat.ne_of_lt (Heap.lt_size (N q hq).1), hideAll_none _ (List.mem_map_of_mem hq)⟩
  refine wpAny_mono (h _ _ h₁ FG F₁ N₁ BG (X₀.keeps st) (T.keeps st) fun b hb => ⟨oL, es, ep, (hfs b hb) ▸ hLg, hLd⟩) (fun fl s' hl => ?_) fun _ _ y => y
  obtain ⟨g', L', m', news', T', F', N', kont⟩ := hl
  obtain ⟨sl, hs⟩ := T'.up hLg
  have FL : Fr h₀ L s'.heap m := ⟨⟨_, es, ep, F'.keep _ _ hs, hLd, hLk, hLf⟩, fun b o e => F'.keep b o (back T' b o e), F.above⟩
  refine kont FL fun q hq => ⟨(N' q hq).1, ?_, ?_⟩
  · intro e
    have z := (N' q hq).2.2
    rw [e, hs] at z
    cases z
  · cases e : h₀.get? q.1 with
    | none => rfl
    | some o =>
      have z := (N' q hq).2.2
      rw [back T' _ _ e] at z
      cases z
local macro_rules | `(tactic| k_all) => `(tactic| assumption)
local macro_rules | `(tactic| walk_at "call builtin:sum") => `(tactic| ((with_reducible rename Fr _ _ _ _ => F'); (with_reducible rename News _ _ _ _ => N'); (with_reducible rename IntsAre _ _ => I'); refine' LSm.sum_ints F' N' ?k1 ?k2 I' ?_; (case k1 => rfl); (case k2 => exact il_keep F' (by with_reducible assumption)); clear F' N'; intro h' tk' t' F' N'; (try dsimp only)))
local macro_rules | `(tactic| walk_at "call ref") => `(tactic| ((with_reducible show wpAny _ _ (call (Value.ref 100) _) _ _ _); refine hold ?_))
section
variable {w : World} {h₀ : Heap} {L fa : Addr} {cd : Value} {loose : List Str} {mean : ExcName → Option Value} {mg mb : Str → Option Value} {s : Shared} {Q : Flow → Shared → Prop} {E : Value → Shared → Prop}
theorem stage10 {la ra wa pa wr pl : Addr} {tt th to : Tok} {o2 : Obj} {R S : List Nat} {tl : Led} {m₁ : Str → Option Value} {vs : List Value} {ns : List Int} (B : Below callerA h₀ [] h₀) (X : (Mine.heap w.params).In h₀) (T : Top Mine.view loose mean mg mb h₀) (hE : PassesOwn (model PySem.Challenge.rw_re0098_01.row.prog w) (callerA.deeper (lenv L fa cd)) (lenv L fa cd) E) (I : IntsAre vs ns) (H : h₀.IsList la vs.toArray) (hlen : ns.length ≤ 63) (d2 : o2.data = .cell (some (.str (text S) to)))
    (F : Fr h₀ L s.heap (fun y => (List.lookup y [(Str.ofString "parts", Value.ref pl), (Str.ofString "writings", Value.ref wr), (Str.ofString "plain", Value.ref pa), (Str.ofString "whole", Value.ref wa), (Str.ofString "hard", Value.str (hardS R) th), (Str.ofString "text", Value.str (text R) tt), (Str.ofString "rows", Value.ref ra), (Str.ofString "script", Value.ref la)]).or (m₁ y))) (N : News h₀ L s.heap ((L + 1 + 1, o2) :: tl))
    (k : ∀ (m₁ : Str → Option Value) led h tk, Fr h₀ L h m₁ → News h₀ L h led → Q (.ret (.bool true)) { s with heap := h, toks := tk }) :
    wpAny (model PySem.Challenge.rw_re0098_01.row.prog w) (callerA.deeper (lenv L fa cd)) (exec law10 (lenv L fa cd)) Q E s := by
  revert X T
  k_fill
  intro X T
  unfold law10
  dsimp only
  k_steps
  unfold Hold
  k_dflt (refine wpAny_call ?_; refine' callS ?k1 ?k2 ?k3 ?k4 ?k5 ?kA ?kf ?ke ?k6 ?k7 ?k8 ?k9 ?kB ?_ ?c2 ?c3 ?c4 ?c5; (case kA => exact rfl); (case kf => exact rfl); (case ke => exact rfl); (case k2 => k_asm); (case k1 => k_asm); (case k3 => k_asm); (case k4 => k_asm); (case k5 => k_asm); (case k6 => k_is); (case k7 => k_is); (case k8 => k_room); (case k9 => first | exact binds_K (by k_in) rfl (by k_is) rfl rfl rfl | exact BindsTo.of_eq rfl); (case kB => exact locs rfl); (case c2 => exact rfl); (case c3 => exact rfl); (case c4 => exact rfl); (case c5 => decide); k_whole; intro g' L' h' FG' F' N' B' X' T' D'; (try dsimp only); (try k_lift B'); (try k_fold))
  k_steps
  unfold Hold
  k_dflt (refine wpAny_call ?_; refine' callS ?k1 ?k2 ?k3 ?k4 ?k5 ?kA ?kf ?ke ?k6 ?k7 ?k8 ?k9 ?kB ?_ ?c2 ?c3 ?c4 ?c5; (case kA => exact rfl); (case kf => exact rfl); (case ke => exact rfl); (case k2 => k_asm); (case k1 => k_asm); (case k3 => k_asm); (case k4 => k_asm); (case k5 => k_asm); (case k6 => k_is); (case k7 => k_is); (case k8 => k_room); (case k9 => first | exact binds_K (by k_in) rfl (by k_is) rfl rfl rfl | exact BindsTo.of_eq rfl); (case kB => exact locs rfl); (case c2 => exact rfl); (case c3 => exact rfl); (case c4 => exact rfl); (case c5 => decide); k_whole; intro g' L' h' FG' F' N' B' X' T' D'; (try dsimp only); (try k_lift B'); (try k_fold))
  k_steps
  exact k _ _ _ _ (by assumption) (by assumption)
end
end Mine
end
section
open PySem PySem.W PyProof.Rows PySem.Spec PySem.Calls PySem.Builtin PySem.Builtin.Str
set_option maxHeartbeats 1000000
namespace Mine
theorem law_all {w : World} {h₀ : Heap} {L fa : Addr} {cd : Value} {loose : List Str} {mean : ExcName → Option Value} {mg mb : Str → Option Value} {s : Shared} {Q : Flow → Shared → Prop} {E : Value → Shared → Prop} {la : Addr} {vs : List Value} {ns : List Int} {o1 o2 : Obj}
    (B : Below callerA h₀ [] h₀) (X : (Mine.heap w.params).In h₀) (T : Top Mine.view loose mean mg mb h₀) (hE : PassesOwn (model PySem.Challenge.rw_re0098_01.row.prog w) (callerA.deeper (lenv L fa cd)) (lenv L fa cd) E) (I : IntsAre vs ns) (H : h₀.IsList la vs.toArray) (hlen : ns.length ≤ 63)
    (F : Fr h₀ L s.heap (fun y => List.lookup y [(Str.ofString "script", Value.ref la)])) (N : News h₀ L s.heap [(L + 1 + 1, o2), (L + 1, o1)]) (d2 : o2.data = .cell none) (d1 : o1.data = .cell none)
    (k : ∀ (m₁ : Str → Option Value) led h tk, Fr h₀ L h m₁ → News h₀ L h led → Q (.ret (.bool true)) { s with heap := h, toks := tk }) :
    wpAny (model PySem.Challenge.rw_re0098_01.row.prog w) (callerA.deeper (lenv L fa cd)) (execs lawB (lenv L fa cd)) Q E s := by
  unfold lawB
  refine wpAny_execs_cons (stage0 B X T I H hlen F N d2 d1 ?_)
  clear F N d1 d2
  intro R S ra rb tl o2 o1 h tk F N u v d2 d1 hR hS bR bS
  refine wpAny_execs_cons (stage1 B X T hR bR F N ?_)
  clear F N
  intro tt h tk F N
  refine wpAny_execs_cons (stage2 B X T u d2 d1 hS bS F N ?_)
  clear F N d2
  intro to o2' h tk F N d2
  refine wpAny_execs_cons (stage3 B X T hR bR F N ?_)
  clear F N
  intro th h tk F N
  refine wpAny_execs_cons (stage4 (S := S) (v1 := some (.ref rb)) (wa := 0) (pa := 0) (rb := rb) B X T d2 d1 hR bR F N ?_)
  clear F N u v
  intro wa tl4 h tk F N u v sub hw
  have hR := hR.keep sub
  have hS := hS.keep sub
  clear sub
  refine wpAny_execs_cons (stage5 (pa := 0) (v1 := none) B X T d2 d1 hS bS F N ?_)
  clear F N u v
  intro pa tl5 h tk F N u v sub hP
  have hR := hR.keep sub
  have hS := hS.keep sub
  have hw := hw.keep sub
  clear sub
  refine wpAny_execs_cons (stage6 (rb := rb) B X T d2 d1 bS F N ?_)
  clear F N u v
  intro wr tl6 h tk F N u v sub hWr
  have hR := hR.keep sub
  have hS := hS.keep sub
  have hw := hw.keep sub
  have hP := hP.keep sub
  clear sub
  refine wpAny_execs_cons (stage7 (to := 0) B X T d2 d1 hS bS F N ?_)
  clear F N u v
  intro pl tl7 h tk F N u v sub hPs
  have hR := hR.keep sub
  have hw := hw.keep sub
  have hP := hP.keep sub
  obtain ⟨ws, hm, hst⟩ := hWr
  have hWr : ∃ ws, (wr, LCg.lst ws) ∈ tl7 ∧ StrsAre ws (encs S) := ⟨ws, sub _ hm (fun _ e => nomatch e), hst⟩
  clear sub
  have N' : News h₀ L h ((L + 1 + 1, o2') :: tl7) := fun p hp => N p (by
    rcases List.mem_cons.mp hp with rfl | hp
    · exact .head _
    · exact .tail _ (.tail _ hp))
  clear N
  refine wpAny_execs_cons (stage8 B X T d2 bR bS hw hP F N' ?_)
  clear F N'
  intro h tk F N
  refine wpAny_execs_cons (stage9 B X T hE d2 bR bS hR hw hP hWr hPs F N ?_)
  clear F N
  intro m₁ h tk F N
  refine wpAny_execs_cons (stage10 B X T hE I H hlen d2 F N ?_)
  clear F N
  intro m₂ led h tk F N
  exact k _ _ _ _ F N
local macro_rules | `(tactic| k_all) => `(tactic| assumption)
end Mine
set_option maxHeartbeats 8000000 in
theorem PySem.Challenge.cw_re0098_01_holds : PySem.Challenge.rw_re0098_01.Holds := by
  w_on
  o_law
  refine holds_open (q := Mine.view) (loose := [Str.ofString "_QUOPRI_MAP", Str.ofString "_QUOPRI_HEADER_MAP", Str.ofString "_QUOPRI_BODY_MAP", Str.ofString "ascii_letters", Str.ofString "hexdigits", Str.ofString "_QUOPRI_BODY_ENCODE_MAP", Str.ofString "body_encode", Str.ofString "decode"]) (Xt := Mine.Xt) (XP := XL Mine.view Mine.reads) (Yf := Mine.Hk.obs) (Ya := Mine.Hk.val) (YP := (kHook Mine.heap Mine.addrs Mine.addrs_eq).says) (N := 60000) Mine.left (Hook.of Mine.Hk) (Hook.keeps Mine.Hk) (fun s e => xl_of s (Bool.and_eq_true_iff.mp e).1) XL.keeps (by rfl) (by rfl) (by rfl) (fun s e => recFacts_of (Bool.and_eq_true_iff.mp e).2) (by rfl) (by first | assumption | decide +kernel) (by decide +kernel) ⟨rfl, rfl, rfl, rfl, rfl, by decide +kernel⟩ ?hw ?hc
  case hw => w_witness2
  case hc =>
    k_go0
    (all_goals try k_fold)
    (rename Fr _ _ _ _ => F1)
    (rename News _ _ _ _ => N1)
    (rename Below _ _ _ _ => B1)
    (rename Top _ _ _ _ _ _ => T1)
    (rename Frag.In _ _ => X1)
    (rename IntsAre _ _ => I1)
    (rename Heap.IsList _ _ _ => H1)
    refine' Mine.law_all (ns := _) B1 X1 T1 ?zE ?zI ?zH ?zl (Mine.fr_cons (ps := []) (Mine.fr_map F1 ?ze)) N1 ?z2 ?z1 ?_
    case zI => exact I1
    case zH => exact H1
    case ze => with_unfolding_all rfl
    case z2 => assumption
    case z1 => assumption
    case zl => omega
    case zE => passes_own
    intro m₁ led h tk F N
    k_steps
    all_goals w_report
end
