import PyProof.Rows.All
import Wide.All
import OpenK.AllK
import Wide.FinOn
import Lean
import PySem.Challenge.RW_jb0039_01
set_option Elab.async false
set_option compiler.extract_closed false
set_option linter.all false
section
open PySem PySem.W PySem.Calls PyProof.Rows
set_option linter.unusedVariables false
set_option maxRecDepth 100000
set_option maxHeartbeats 8000000
namespace Mine.D
noncomputable def stAt (x : Program) (i : Nat) : Stmt := x.main.body.getD i (.Pass ⟨0, 0, 0, 0⟩)
noncomputable def inAt (s : Stmt) (k : Nat) : Stmt := match s with
  | .ClassDef _ _ _ b _ _ _ _ _ _ _ => b.getD k (.Pass ⟨0, 0, 0, 0⟩)
  | s => s
noncomputable def argsOf (s : Stmt) : Arguments := match s with
  | .FunctionDef _ a _ _ _ _ _ _ _ _ => a
  | _ => ⟨[], [], none, [], [], none, []⟩
noncomputable def bodyOf (s : Stmt) : List Stmt := match s with
  | .FunctionDef _ _ b _ _ _ _ _ _ _ => b
  | .ClassDef _ _ _ b _ _ _ _ _ _ _ => b
  | _ => []
noncomputable def scopeOf (s : Stmt) : Scope := match s with
  | .FunctionDef _ _ _ _ _ _ c _ _ _ => c
  | _ => ⟨.function, [], false, false, []⟩
noncomputable def firstStr (l : List Stmt) : Option Str := match l with
  | .Expr (.Constant (.str d) _ _) _ :: _ => some d
  | _ => none
noncomputable def docO (s : Stmt) : Option Str := firstStr (bodyOf s)
noncomputable def docOf (s : Stmt) : Str := (docO s).getD ⟨Array.mk []⟩
noncomputable def h0 (n0 n1 : Str) (P : Params) : PySem.Obj := ⟨.none, none, (.dict (List.toArray [⟨(@PySem.PyData.keyHash P n0), (.str n0 218), (.int 31 0)⟩, ⟨(@PySem.PyData.keyHash P n1), (.str n1 219), (.int 1 0)⟩]) 2), (List.toArray [])⟩
noncomputable def h1 (l0 : String) (n2 n3 n4 n5 n6 : Str) (l1 : String) (n7 n8 n9 n10 n11 n12 n13 n14 n15 n16 n17 n18 n19 n20 n21 n22 n23 n24 n25 n26 n27 n28 n29 n30 n31 n32 n33 n34 n35 n36 : Str) (P : Params) : PySem.Obj := ⟨(.type l0), none, (.dict (List.toArray [⟨(@PySem.PyData.keyHash P n2), (.str n2 165), (.str n3 951)⟩, ⟨(@PySem.PyData.keyHash P n4), (.str n4 166), .none⟩, ⟨(@PySem.PyData.keyHash P n5), (.str n5 167), .none⟩, ⟨(@PySem.PyData.keyHash P n6), (.str n6 168), (.builtin l1)⟩, ⟨(@PySem.PyData.keyHash P n7), (.str n7 169), .none⟩, ⟨(@PySem.PyData.keyHash P n8), (.str n8 170), (.ref 6)⟩, ⟨(@PySem.PyData.keyHash P n9), (.str n9 171), (.ref 4)⟩, ⟨(@PySem.PyData.keyHash P n10), (.str n10 173), (.str n11 172)⟩, ⟨(@PySem.PyData.keyHash P n12), (.str n12 174), .none⟩, ⟨(@PySem.PyData.keyHash P n13), (.str n13 193), (.ref 21)⟩, ⟨(@PySem.PyData.keyHash P n14), (.str n14 195), (.int 4 194)⟩, ⟨(@PySem.PyData.keyHash P n15), (.str n15 197), (.int 255 196)⟩, ⟨(@PySem.PyData.keyHash P n16), (.str n16 199), (.int 254 198)⟩, ⟨(@PySem.PyData.keyHash P n17), (.str n17 221), (.ref 31)⟩, ⟨(@PySem.PyData.keyHash P n18), (.str n18 280), (.ref 73)⟩, ⟨(@PySem.PyData.keyHash P n19), (.str n19 395), (.ref 145)⟩, ⟨(@PySem.PyData.keyHash P n20), (.str n20 524), (.ref 149)⟩, ⟨(@PySem.PyData.keyHash P n21), (.str n21 652), (.ref 150)⟩, ⟨(@PySem.PyData.keyHash P n22), (.str n22 653), (.ref 151)⟩, ⟨(@PySem.PyData.keyHash P n23), (.str n23 782), (.ref 152)⟩, ⟨(@PySem.PyData.keyHash P n24), (.str n24 911), (.ref 153)⟩, ⟨(@PySem.PyData.keyHash P n25), (.str n25 912), (.ref 154)⟩, ⟨(@PySem.PyData.keyHash P n26), (.str n26 928), (.ref 161)⟩, ⟨(@PySem.PyData.keyHash P n27), (.str n27 937), (.ref 168)⟩, ⟨(@PySem.PyData.keyHash P n28), (.str n28 950), (.ref 175)⟩, ⟨(@PySem.PyData.keyHash P n29), (.str n29 958), (.ref 182)⟩, ⟨(@PySem.PyData.keyHash P n30), (.str n30 960), (.int 16395309179817738009521987751666139093583423331470737840399399094199505546377 959)⟩, ⟨(@PySem.PyData.keyHash P n31), (.str n31 968), (.ref 189)⟩, ⟨(@PySem.PyData.keyHash P n32), (.str n32 976), (.ref 196)⟩, ⟨(@PySem.PyData.keyHash P n33), (.str n33 986), (.ref 203)⟩, ⟨(@PySem.PyData.keyHash P n34), (.str n34 995), (.ref 210)⟩, ⟨(@PySem.PyData.keyHash P n35), (.str n35 1005), (.ref 217)⟩, ⟨(@PySem.PyData.keyHash P n36), (.str n36 1011), (.ref 222)⟩]) 33), (List.toArray [])⟩
noncomputable def h2 (l2 : String) (n37 : Str) : PySem.Obj := ⟨(.type l2), none, (.seq (List.toArray [(.str n37 190)]) 0), (List.toArray [])⟩
noncomputable def h3 (l3 : String) (n13 n11 : Str) : PySem.Obj := ⟨(.type l3), none, (.fields (List.toArray [(.str n13 187), (.str n13 188), (.str n11 189), (.int 1 0), (.int 1 0), (.int 0 0), (.int 0 0), (.int 3 0), (.ref 15), (.bool true), (.int 181 0), (.ref 16), .none, (.ref 17), (.ref 18), (.ref 19), (.int 191 0), (.int 1 0), (.str n11 192)])), (List.toArray [])⟩
noncomputable def h4 (l4 : String) (n13 : Str) (a0 : Arguments) (b1 : List Stmt) (c2 : Scope) (n38 : Str) : PySem.Obj := ⟨(.type l4), none, (.func ⟨n13, n13, a0, (.stmts b1), c2, 3, [], .none, .none, .none, (.str n38 164), none, (.ref 20), .none, 0⟩), (List.toArray [])⟩
noncomputable def h5 (l0 : String) (n39 n40 n41 n42 n43 n4 : Str) (P : Params) : PySem.Obj := ⟨(.type l0), none, (.dict (List.toArray [⟨(@PySem.PyData.keyHash P n39), (.str n39 209), (.str n40 200)⟩, ⟨(@PySem.PyData.keyHash P n41), (.str n41 213), (.int 8 212)⟩, ⟨(@PySem.PyData.keyHash P n42), (.str n42 214), (.ref 29)⟩, ⟨(@PySem.PyData.keyHash P n43), (.str n43 216), (.ref 32)⟩, ⟨(@PySem.PyData.keyHash P n4), (.str n4 217), .none⟩]) 3), (List.toArray [])⟩
noncomputable def h6 (l5 : String) (n17 : Str) (l6 l7 l8 l9 : String) : PySem.Obj := ⟨(.type l5), none, (.cls ⟨n17, [(.type l6)], [(.ref 31), (.type l6), (.type l7), (.type l8)], 30, n17, true, [], [], false, none, false⟩), (List.toArray [(some (.ref 22)), none, (some (.str n17 202)), (some (.str n17 210)), (some (.builtin l9)), (some (.bool true))])⟩
noncomputable def h7 (l10 : String) (n43 : Str) (l11 : String) : PySem.Obj := ⟨(.type l10), none, (.fields (List.toArray [(.str n43 215), (.ref 31), (.builtin l11), .none])), (List.toArray [])⟩
noncomputable def h8 (l2 : String) (n44 n45 n46 : Str) : PySem.Obj := ⟨(.type l2), none, (.seq (List.toArray [(.str n44 239), (.str n45 240), (.str n46 241)]) 0), (List.toArray [])⟩
noncomputable def h9 (l3 : String) (n47 n48 n11 : Str) : PySem.Obj := ⟨(.type l3), none, (.fields (List.toArray [(.str n47 236), (.str n48 237), (.str n11 238), (.int 13 0), (.int 3 0), (.int 0 0), (.int 0 0), (.int 3 0), (.ref 42), (.bool true), (.int 181 0), (.ref 43), .none, (.ref 44), (.ref 45), (.ref 46), (.int 242 0), (.int 13 0), (.str n11 243)])), (List.toArray [])⟩
noncomputable def h10 (l4 : String) (n47 n48 : Str) (a3 : Arguments) (b4 : List Stmt) (c5 : Scope) (n49 : Str) : PySem.Obj := ⟨(.type l4), none, (.func ⟨n47, n48, a3, (.stmts b4), c5, 3, [], .none, .none, .none, (.str n49 222), none, (.ref 47), .none, 0⟩), (List.toArray [])⟩
noncomputable def h11 (l2 : String) (n44 n50 n51 : Str) : PySem.Obj := ⟨(.type l2), none, (.seq (List.toArray [(.str n44 248), (.str n50 249), (.str n51 250)]) 0), (List.toArray [])⟩
noncomputable def h12 (l3 : String) (n52 n53 n11 : Str) : PySem.Obj := ⟨(.type l3), none, (.fields (List.toArray [(.str n52 245), (.str n53 246), (.str n11 247), (.int 17 0), (.int 3 0), (.int 0 0), (.int 0 0), (.int 3 0), (.ref 50), (.bool true), (.int 181 0), (.ref 51), .none, (.ref 52), (.ref 53), (.ref 54), (.int 251 0), (.int 17 0), (.str n11 252)])), (List.toArray [])⟩
noncomputable def h13 (l4 : String) (n52 n53 : Str) (a6 : Arguments) (b7 : List Stmt) (c8 : Scope) (n49 : Str) : PySem.Obj := ⟨(.type l4), none, (.func ⟨n52, n53, a6, (.stmts b7), c8, 3, [], (.ref 49), .none, .none, (.str n49 222), none, (.ref 55), .none, 0⟩), (List.toArray [])⟩
noncomputable def h14 (l2 : String) (n44 n50 n54 : Str) : PySem.Obj := ⟨(.type l2), none, (.seq (List.toArray [(.str n44 257), (.str n50 258), (.str n54 259)]) 0), (List.toArray [])⟩
noncomputable def h15 (l3 : String) (n55 n56 n11 : Str) : PySem.Obj := ⟨(.type l3), none, (.fields (List.toArray [(.str n55 254), (.str n56 255), (.str n11 256), (.int 24 0), (.int 3 0), (.int 0 0), (.int 0 0), (.int 3 0), (.ref 57), (.bool true), (.int 181 0), (.ref 58), .none, (.ref 59), (.ref 60), (.ref 61), (.int 260 0), (.int 24 0), (.str n11 261)])), (List.toArray [])⟩
noncomputable def h16 (l4 : String) (n55 n56 : Str) (a9 : Arguments) (b10 : List Stmt) (c11 : Scope) (n49 : Str) : PySem.Obj := ⟨(.type l4), none, (.func ⟨n55, n56, a9, (.stmts b10), c11, 3, [], .none, .none, .none, (.str n49 222), none, (.ref 62), .none, 0⟩), (List.toArray [])⟩
noncomputable def h17 (l2 : String) (n44 n50 : Str) : PySem.Obj := ⟨(.type l2), none, (.seq (List.toArray [(.str n44 266), (.str n50 267)]) 0), (List.toArray [])⟩
noncomputable def h18 (l3 : String) (n57 n58 n11 : Str) : PySem.Obj := ⟨(.type l3), none, (.fields (List.toArray [(.str n57 263), (.str n58 264), (.str n11 265), (.int 27 0), (.int 2 0), (.int 0 0), (.int 0 0), (.int 3 0), (.ref 64), (.bool true), (.int 181 0), (.ref 65), .none, (.ref 66), (.ref 67), (.ref 68), (.int 268 0), (.int 27 0), (.str n11 269)])), (List.toArray [])⟩
noncomputable def h19 (l4 : String) (n57 n58 : Str) (a12 : Arguments) (b13 : List Stmt) (c14 : Scope) (n49 : Str) : PySem.Obj := ⟨(.type l4), none, (.func ⟨n57, n58, a12, (.stmts b13), c14, 3, [], .none, .none, .none, (.str n49 222), none, (.ref 69), .none, 0⟩), (List.toArray [])⟩
noncomputable def h20 (l2 : String) (n4 n45 : Str) : PySem.Obj := ⟨(.type l2), none, (.seq (List.toArray [(.str n4 271), (.str n45 272)]) 0), (List.toArray [])⟩
noncomputable def h21 (l0 : String) (n39 n49 n41 n47 n52 n55 n57 n42 n59 n43 n4 : Str) (P : Params) : PySem.Obj := ⟨(.type l0), none, (.dict (List.toArray [⟨(@PySem.PyData.keyHash P n39), (.str n39 231), (.str n49 222)⟩, ⟨(@PySem.PyData.keyHash P n41), (.str n41 235), (.int 11 234)⟩, ⟨(@PySem.PyData.keyHash P n47), (.str n47 244), (.ref 48)⟩, ⟨(@PySem.PyData.keyHash P n52), (.str n52 253), (.ref 56)⟩, ⟨(@PySem.PyData.keyHash P n55), (.str n55 262), (.ref 63)⟩, ⟨(@PySem.PyData.keyHash P n57), (.str n57 270), (.ref 70)⟩, ⟨(@PySem.PyData.keyHash P n42), (.str n42 273), (.ref 71)⟩, ⟨(@PySem.PyData.keyHash P n59), (.str n59 275), (.ref 74)⟩, ⟨(@PySem.PyData.keyHash P n43), (.str n43 277), (.ref 75)⟩, ⟨(@PySem.PyData.keyHash P n4), (.str n4 278), .none⟩]) 4), (List.toArray [])⟩
noncomputable def h22 (l5 : String) (n18 : Str) (l8 l12 : String) : PySem.Obj := ⟨(.type l5), none, (.cls ⟨n18, [(.type l8)], [(.ref 73), (.type l8)], 72, n18, true, [], [], false, none, false⟩), (List.toArray [none, none, (some (.str n18 224)), (some (.str n18 232)), (some (.builtin l12)), (some (.bool true))])⟩
noncomputable def h23 (l10 : String) (n59 : Str) (l13 l14 : String) : PySem.Obj := ⟨(.type l10), none, (.fields (List.toArray [(.str n59 274), (.ref 73), (.builtin l13), (.builtin l14)])), (List.toArray [])⟩
noncomputable def h24 (l10 : String) (n43 : Str) (l11 : String) : PySem.Obj := ⟨(.type l10), none, (.fields (List.toArray [(.str n43 276), (.ref 73), (.builtin l11), .none])), (List.toArray [])⟩
noncomputable def h25 (l2 : String) (n60 n61 : Str) : PySem.Obj := ⟨(.type l2), none, (.seq (List.toArray [(.str n60 297), (.str n61 298)]) 0), (List.toArray [])⟩
noncomputable def h26 (l2 : String) (n62 n60 n61 : Str) : PySem.Obj := ⟨(.type l2), none, (.seq (List.toArray [(.str n62 304), (.str n60 305), (.str n61 306)]) 0), (List.toArray [])⟩
noncomputable def h27 (l3 : String) (n63 n64 n11 : Str) : PySem.Obj := ⟨(.type l3), none, (.fields (List.toArray [(.str n63 301), (.str n64 302), (.str n11 303), (.int 35 0), (.int 3 0), (.int 0 0), (.int 0 0), (.int 3 0), (.ref 89), (.bool true), (.int 181 0), (.ref 90), .none, (.ref 91), (.ref 92), (.ref 93), (.int 307 0), (.int 35 0), (.str n11 308)])), (List.toArray [])⟩
noncomputable def h28 (l4 : String) (n63 n64 : Str) (a16 : Arguments) (b17 : List Stmt) (c18 : Scope) (d19 : Str) (n49 : Str) : PySem.Obj := ⟨(.type l4), none, (.func ⟨n63, n64, a16, (.stmts b17), c18, 3, [], .none, .none, (.str d19 309), (.str n49 222), none, (.ref 94), .none, 0⟩), (List.toArray [])⟩
noncomputable def h29 (l2 : String) (n65 n66 n67 : Str) : PySem.Obj := ⟨(.type l2), none, (.seq (List.toArray [(.str n65 314), (.str n66 315), (.str n67 316)]) 0), (List.toArray [])⟩
noncomputable def h30 (l3 : String) (n68 n69 n11 : Str) : PySem.Obj := ⟨(.type l3), none, (.fields (List.toArray [(.str n68 311), (.str n69 312), (.str n11 313), (.int 39 0), (.int 2 0), (.int 0 0), (.int 0 0), (.int 3 0), (.ref 96), (.bool true), (.int 181 0), (.ref 97), .none, (.ref 98), (.ref 99), (.ref 100), (.int 317 0), (.int 39 0), (.str n11 318)])), (List.toArray [])⟩
noncomputable def h31 (l4 : String) (n68 n69 : Str) (a20 : Arguments) (b21 : List Stmt) (c22 : Scope) (d23 : Str) (n49 : Str) : PySem.Obj := ⟨(.type l4), none, (.func ⟨n68, n69, a20, (.stmts b21), c22, 3, [], .none, .none, (.str d23 319), (.str n49 222), (some 105), (.ref 101), .none, 0⟩), (List.toArray [])⟩
noncomputable def h32 (l0 : String) (n39 n49 n2 n68 n70 n69 n4 : Str) (d23 : Str) (n8 : Str) (P : Params) : PySem.Obj := ⟨(.type l0), none, (.dict (List.toArray [⟨(@PySem.PyData.keyHash P n39), (.str n39 321), (.str n49 222)⟩, ⟨(@PySem.PyData.keyHash P n2), (.str n2 324), (.str n68 323)⟩, ⟨(@PySem.PyData.keyHash P n70), (.str n70 327), (.str n69 326)⟩, ⟨(@PySem.PyData.keyHash P n4), (.str n4 329), (.str d23 319)⟩, ⟨(@PySem.PyData.keyHash P n8), (.str n8 331), (.ref 105)⟩]) 5), (List.toArray [])⟩
noncomputable def h33 (l15 : String) : PySem.Obj := ⟨(.type l15), (some 103), (.fields (List.toArray [(.ref 102), (.bool false)])), (List.toArray [])⟩
noncomputable def h34 (l2 : String) (n71 : Str) : PySem.Obj := ⟨(.type l2), none, (.seq (List.toArray [(.str n71 336)]) 0), (List.toArray [])⟩
noncomputable def h35 (l2 : String) (n44 n72 n67 : Str) : PySem.Obj := ⟨(.type l2), none, (.seq (List.toArray [(.str n44 337), (.str n72 338), (.str n67 339)]) 0), (List.toArray [])⟩
noncomputable def h36 (l3 : String) (n73 n74 n11 : Str) : PySem.Obj := ⟨(.type l3), none, (.fields (List.toArray [(.str n73 333), (.str n74 334), (.str n11 335), (.int 47 0), (.int 1 0), (.int 1 0), (.int 0 0), (.int 11 0), (.ref 107), (.bool true), (.int 181 0), (.ref 108), .none, (.ref 109), (.ref 110), (.ref 111), (.int 340 0), (.int 47 0), (.str n11 341)])), (List.toArray [])⟩
noncomputable def h37 (l4 : String) (n73 n74 : Str) (a24 : Arguments) (b25 : List Stmt) (c26 : Scope) (n71 : Str) (d27 : Str) (n49 : Str) : PySem.Obj := ⟨(.type l4), none, (.func ⟨n73, n74, a24, (.stmts b25), c26, 3, [(n71, 81)], .none, .none, (.str d27 342), (.str n49 222), none, (.ref 112), (.ref 106), 0⟩), (List.toArray [])⟩
noncomputable def h38 (l2 : String) (n44 : Str) : PySem.Obj := ⟨(.type l2), none, (.seq (List.toArray [(.str n44 348)]) 0), (List.toArray [])⟩
noncomputable def h39 (l3 : String) (n75 n76 n11 : Str) : PySem.Obj := ⟨(.type l3), none, (.fields (List.toArray [(.str n75 345), (.str n76 346), (.str n11 347), (.int 58 0), (.int 1 0), (.int 0 0), (.int 0 0), (.int 3 0), (.ref 114), (.bool true), (.int 181 0), (.ref 115), .none, (.ref 116), (.ref 117), (.ref 118), (.int 349 0), (.int 58 0), (.str n11 350)])), (List.toArray [])⟩
noncomputable def h40 (l4 : String) (n75 n76 : Str) (a28 : Arguments) (b29 : List Stmt) (c30 : Scope) (d31 : Str) (n49 : Str) : PySem.Obj := ⟨(.type l4), none, (.func ⟨n75, n76, a28, (.stmts b29), c30, 3, [], .none, .none, (.str d31 351), (.str n49 222), none, (.ref 119), .none, 0⟩), (List.toArray [])⟩
noncomputable def h41 (l2 : String) (n44 : Str) : PySem.Obj := ⟨(.type l2), none, (.seq (List.toArray [(.str n44 356)]) 0), (List.toArray [])⟩
noncomputable def h42 (l3 : String) (n77 n78 n11 : Str) : PySem.Obj := ⟨(.type l3), none, (.fields (List.toArray [(.str n77 353), (.str n78 354), (.str n11 355), (.int 62 0), (.int 1 0), (.int 0 0), (.int 0 0), (.int 3 0), (.ref 121), (.bool true), (.int 181 0), (.ref 122), .none, (.ref 123), (.ref 124), (.ref 125), (.int 357 0), (.int 62 0), (.str n11 358)])), (List.toArray [])⟩
noncomputable def h43 (l4 : String) (n77 n78 : Str) (a32 : Arguments) (b33 : List Stmt) (c34 : Scope) (n49 : Str) : PySem.Obj := ⟨(.type l4), none, (.func ⟨n77, n78, a32, (.stmts b33), c34, 3, [], .none, .none, .none, (.str n49 222), none, (.ref 126), .none, 0⟩), (List.toArray [])⟩
noncomputable def h44 (l2 : String) (n44 : Str) : PySem.Obj := ⟨(.type l2), none, (.seq (List.toArray [(.str n44 363)]) 0), (List.toArray [])⟩
noncomputable def h45 (l3 : String) (n79 n80 n11 : Str) : PySem.Obj := ⟨(.type l3), none, (.fields (List.toArray [(.str n79 360), (.str n80 361), (.str n11 362), (.int 65 0), (.int 1 0), (.int 0 0), (.int 0 0), (.int 3 0), (.ref 128), (.bool true), (.int 181 0), (.ref 129), .none, (.ref 130), (.ref 131), (.ref 132), (.int 364 0), (.int 65 0), (.str n11 365)])), (List.toArray [])⟩
noncomputable def h46 (l4 : String) (n79 n80 : Str) (a35 : Arguments) (b36 : List Stmt) (c37 : Scope) (d38 : Str) (n49 : Str) : PySem.Obj := ⟨(.type l4), none, (.func ⟨n79, n80, a35, (.stmts b36), c37, 3, [], .none, .none, (.str d38 366), (.str n49 222), none, (.ref 133), .none, 0⟩), (List.toArray [])⟩
noncomputable def h47 (l2 : String) (n60 n61 : Str) : PySem.Obj := ⟨(.type l2), none, (.seq (List.toArray [(.str n60 368), (.str n61 369)]) 0), (List.toArray [])⟩
noncomputable def h48 (l0 : String) (n45 n4 n81 : Str) (P : Params) : PySem.Obj := ⟨(.type l0), none, (.dict (List.toArray [⟨(@PySem.PyData.keyHash P n45), (.str n45 377), (.int 0 371)⟩, ⟨(@PySem.PyData.keyHash P n4), (.str n4 379), (.str n81 372)⟩]) 2), (List.toArray [])⟩
noncomputable def h49 (l0 : String) (n45 n4 n82 : Str) (P : Params) : PySem.Obj := ⟨(.type l0), none, (.dict (List.toArray [⟨(@PySem.PyData.keyHash P n45), (.str n45 387), (.int 1 381)⟩, ⟨(@PySem.PyData.keyHash P n4), (.str n4 389), (.str n82 382)⟩]) 2), (List.toArray [])⟩
noncomputable def h50 (l0 : String) (n39 n49 n41 n4 : Str) (d15 : Str) (n83 n84 n85 n63 n68 n73 n86 n75 n77 n79 n87 n60 n61 n42 : Str) (P : Params) : PySem.Obj := ⟨(.type l0), none, (.dict (List.toArray [⟨(@PySem.PyData.keyHash P n39), (.str n39 288), (.str n49 222)⟩, ⟨(@PySem.PyData.keyHash P n41), (.str n41 292), (.int 29 291)⟩, ⟨(@PySem.PyData.keyHash P n4), (.str n4 294), (.str d15 293)⟩, ⟨(@PySem.PyData.keyHash P n83), (.str n83 296), (.ref 86)⟩, ⟨(@PySem.PyData.keyHash P n84), (.str n84 299), (.ref 87)⟩, ⟨(@PySem.PyData.keyHash P n85), (.str n85 300), (.ref 88)⟩, ⟨(@PySem.PyData.keyHash P n63), (.str n63 310), (.ref 146)⟩, ⟨(@PySem.PyData.keyHash P n68), (.str n68 332), (.ref 104)⟩, ⟨(@PySem.PyData.keyHash P n73), (.str n73 343), (.ref 113)⟩, ⟨(@PySem.PyData.keyHash P n86), (.str n86 344), (.ref 113)⟩, ⟨(@PySem.PyData.keyHash P n75), (.str n75 352), (.ref 120)⟩, ⟨(@PySem.PyData.keyHash P n77), (.str n77 359), (.ref 127)⟩, ⟨(@PySem.PyData.keyHash P n79), (.str n79 367), (.ref 134)⟩, ⟨(@PySem.PyData.keyHash P n87), (.str n87 370), (.ref 135)⟩, ⟨(@PySem.PyData.keyHash P n60), (.str n60 380), (.ref 137)⟩, ⟨(@PySem.PyData.keyHash P n61), (.str n61 390), (.ref 140)⟩, ⟨(@PySem.PyData.keyHash P n42), (.str n42 391), (.ref 142)⟩]) 2), (List.toArray [])⟩
noncomputable def h51 (l5 : String) (n19 : Str) (l2 l8 : String) : PySem.Obj := ⟨(.type l5), none, (.cls ⟨n19, [(.type l2)], [(.ref 145), (.type l2), (.type l8)], 144, n19, false, [], [], false, none, false⟩), (List.toArray [(some (.ref 78)), none, (some (.str n19 281)), (some (.str n19 289)), (some .none), (some (.bool false))])⟩
noncomputable def h52 : List PySem.Value := ((.int 251 525) :: (.int 22 526) :: (.int 58 527) :: (.int 78 528) :: (.int 210 529) :: (.int 109 530) :: (.int 183 531) :: (.int 194 532) :: (.int 93 533) :: (.int 231 534) :: (.int 50 535) :: (.int 86 536) :: (.int 250 537) :: (.int 21 538) :: (.int 63 539) :: (.int 65 540) :: (.int 195 541) :: (.int 94 542) :: (.int 226 543) :: (.int 61 544) :: (.int 71 545) :: (.int 201 546) :: (.int 64 547) :: (.int 192 548) :: (.int 91 549) :: (.int 237 550) :: (.int 44 551) :: (.int 116 552) :: (.int 156 553) :: (.int 191 554) :: (.int 218 555) :: (.int 117 556) :: (.int 159 557) :: (.int 186 558) :: (.int 213 559) :: (.int 100 560) :: (.int 172 561) :: (.int 239 562) :: (.int 42 563) :: (.int 126 564) :: (.int 130 565) :: (.int 157 566) :: (.int 188 567) :: (.int 223 568) :: (.int 122 569) :: (.int 142 570) :: (.int 137 571) :: (.int 128 572) :: (.int 155 573) :: (.int 182 574) :: (.int 193 575) :: (.int 88 576) :: (.int 232 577) :: (.int 35 578) :: (.int 101 579) :: (.int 175 580) :: (.int 234 581) :: (.int 37 582) :: (.int 111 583) :: (.int 177 584) :: (.int 200 585) :: (.int 67 586) :: (.int 197 587) :: (.int 84 588) :: (.int 252 589) :: (.int 31 590) :: (.int 33 591) :: (.int 99 592) :: (.int 165 593) :: (.int 244 594) :: (.int 7 595) :: (.int 9 596) :: (.int 27 597) :: (.int 45 598) :: (.int 119 599) :: (.int 153 600) :: (.int 176 601) :: (.int 203 602) :: (.int 70 603) :: (.int 202 604) :: (.int 69 605) :: (.int 207 606) :: (.int 74 607) :: (.int 222 608) :: (.int 121 609) :: (.int 139 610) :: (.int 134 611) :: (.int 145 612) :: (.int 168 613) :: (.int 227 614) :: (.int 62 615) :: (.int 66 616) :: (.int 198 617) :: (.int 81 618) :: (.int 243 619) :: (.int 14 620) :: (.int 18 621) :: (.int 54 622) :: (.int 90 623) :: (.int 238 624) :: (.int 41 625) :: (.int 123 626) :: (.int 141 627) :: (.int 140 628) :: (.int 143 629) :: (.int 138 630) :: (.int 133 631) :: (.int 148 632) :: (.int 167 633) :: (.int 242 634) :: (.int 13 635) :: (.int 23 636) :: (.int 57 637) :: (.int 75 638) :: (.int 221 639) :: (.int 124 640) :: (.int 132 641) :: (.int 151 642) :: (.int 162 643) :: (.int 253 644) :: (.int 28 645) :: (.int 36 646) :: (.int 108 647) :: (.int 180 648) :: (.int 199 649) :: (.int 82 650) :: (.int 246 651) :: [])
noncomputable def h53 (l16 : String) : PySem.Obj := ⟨(.type l16), none, (.seq (List.toArray ((.int 1 396) :: (.int 3 397) :: (.int 5 398) :: (.int 15 399) :: (.int 17 400) :: (.int 51 401) :: (.int 85 402) :: (.int 255 403) :: (.int 26 404) :: (.int 46 405) :: (.int 114 406) :: (.int 150 407) :: (.int 161 408) :: (.int 248 409) :: (.int 19 410) :: (.int 53 411) :: (.int 95 412) :: (.int 225 413) :: (.int 56 414) :: (.int 72 415) :: (.int 216 416) :: (.int 115 417) :: (.int 149 418) :: (.int 164 419) :: (.int 247 420) :: (.int 2 421) :: (.int 6 422) :: (.int 10 423) :: (.int 30 424) :: (.int 34 425) :: (.int 102 426) :: (.int 170 427) :: (.int 229 428) :: (.int 52 429) :: (.int 92 430) :: (.int 228 431) :: (.int 55 432) :: (.int 89 433) :: (.int 235 434) :: (.int 38 435) :: (.int 106 436) :: (.int 190 437) :: (.int 217 438) :: (.int 112 439) :: (.int 144 440) :: (.int 171 441) :: (.int 230 442) :: (.int 49 443) :: (.int 83 444) :: (.int 245 445) :: (.int 4 446) :: (.int 12 447) :: (.int 20 448) :: (.int 60 449) :: (.int 68 450) :: (.int 204 451) :: (.int 79 452) :: (.int 209 453) :: (.int 104 454) :: (.int 184 455) :: (.int 211 456) :: (.int 110 457) :: (.int 178 458) :: (.int 205 459) :: (.int 76 460) :: (.int 212 461) :: (.int 103 462) :: (.int 169 463) :: (.int 224 464) :: (.int 59 465) :: (.int 77 466) :: (.int 215 467) :: (.int 98 468) :: (.int 166 469) :: (.int 241 470) :: (.int 8 471) :: (.int 24 472) :: (.int 40 473) :: (.int 120 474) :: (.int 136 475) :: (.int 131 476) :: (.int 158 477) :: (.int 185 478) :: (.int 208 479) :: (.int 107 480) :: (.int 189 481) :: (.int 220 482) :: (.int 127 483) :: (.int 129 484) :: (.int 152 485) :: (.int 179 486) :: (.int 206 487) :: (.int 73 488) :: (.int 219 489) :: (.int 118 490) :: (.int 154 491) :: (.int 181 492) :: (.int 196 493) :: (.int 87 494) :: (.int 249 495) :: (.int 16 496) :: (.int 48 497) :: (.int 80 498) :: (.int 240 499) :: (.int 11 500) :: (.int 29 501) :: (.int 39 502) :: (.int 105 503) :: (.int 187 504) :: (.int 214 505) :: (.int 97 506) :: (.int 163 507) :: (.int 254 508) :: (.int 25 509) :: (.int 43 510) :: (.int 125 511) :: (.int 135 512) :: (.int 146 513) :: (.int 173 514) :: (.int 236 515) :: (.int 47 516) :: (.int 113 517) :: (.int 147 518) :: (.int 174 519) :: (.int 233 520) :: (.int 32 521) :: (.int 96 522) :: (.int 160 523) :: (.int 251 525) :: (.int 22 526) :: (.int 58 527) :: (.int 78 528) :: (.int 210 529) :: (.int 109 530) :: (.int 183 531) :: (.int 194 532) :: (.int 93 533) :: (.int 231 534) :: (.int 50 535) :: (.int 86 536) :: (.int 250 537) :: (.int 21 538) :: (.int 63 539) :: (.int 65 540) :: (.int 195 541) :: (.int 94 542) :: (.int 226 543) :: (.int 61 544) :: (.int 71 545) :: (.int 201 546) :: (.int 64 547) :: (.int 192 548) :: (.int 91 549) :: (.int 237 550) :: (.int 44 551) :: (.int 116 552) :: (.int 156 553) :: (.int 191 554) :: (.int 218 555) :: (.int 117 556) :: (.int 159 557) :: (.int 186 558) :: (.int 213 559) :: (.int 100 560) :: (.int 172 561) :: (.int 239 562) :: (.int 42 563) :: (.int 126 564) :: (.int 130 565) :: (.int 157 566) :: (.int 188 567) :: (.int 223 568) :: (.int 122 569) :: (.int 142 570) :: (.int 137 571) :: (.int 128 572) :: (.int 155 573) :: (.int 182 574) :: (.int 193 575) :: (.int 88 576) :: (.int 232 577) :: (.int 35 578) :: (.int 101 579) :: (.int 175 580) :: (.int 234 581) :: (.int 37 582) :: (.int 111 583) :: (.int 177 584) :: (.int 200 585) :: (.int 67 586) :: (.int 197 587) :: (.int 84 588) :: (.int 252 589) :: (.int 31 590) :: (.int 33 591) :: (.int 99 592) :: (.int 165 593) :: (.int 244 594) :: (.int 7 595) :: (.int 9 596) :: (.int 27 597) :: (.int 45 598) :: (.int 119 599) :: (.int 153 600) :: (.int 176 601) :: (.int 203 602) :: (.int 70 603) :: (.int 202 604) :: (.int 69 605) :: (.int 207 606) :: (.int 74 607) :: (.int 222 608) :: (.int 121 609) :: (.int 139 610) :: (.int 134 611) :: (.int 145 612) :: (.int 168 613) :: (.int 227 614) :: (.int 62 615) :: (.int 66 616) :: (.int 198 617) :: (.int 81 618) :: (.int 243 619) :: (.int 14 620) :: (.int 18 621) :: (.int 54 622) :: (.int 90 623) :: (.int 238 624) :: (.int 41 625) :: (.int 123 626) :: (.int 141 627) :: (.int 140 628) :: (.int 143 629) :: (.int 138 630) :: (.int 133 631) :: (.int 148 632) :: (.int 167 633) :: (.int 242 634) :: (.int 13 635) :: (.int 23 636) :: (.int 57 637) :: (.int 75 638) :: (.int 221 639) :: (.int 124 640) :: (.int 132 641) :: (.int 151 642) :: (.int 162 643) :: (.int 253 644) :: (.int 28 645) :: (.int 36 646) :: (.int 108 647) :: (.int 180 648) :: (.int 199 649) :: (.int 82 650) :: (.int 246 651) :: [])) 0), (List.toArray [])⟩
noncomputable def h54 : List PySem.Value := ((.int 175 783) :: (.int 88 784) :: (.int 168 785) :: (.int 80 786) :: (.int 244 787) :: (.int 234 788) :: (.int 214 789) :: (.int 116 790) :: (.int 79 791) :: (.int 174 792) :: (.int 233 793) :: (.int 213 794) :: (.int 231 795) :: (.int 230 796) :: (.int 173 797) :: (.int 232 798) :: (.int 44 799) :: (.int 215 800) :: (.int 117 801) :: (.int 122 802) :: (.int 235 803) :: (.int 22 804) :: (.int 11 805) :: (.int 245 806) :: (.int 89 807) :: (.int 203 808) :: (.int 95 809) :: (.int 176 810) :: (.int 156 811) :: (.int 169 812) :: (.int 81 813) :: (.int 160 814) :: (.int 127 815) :: (.int 12 816) :: (.int 246 817) :: (.int 111 818) :: (.int 23 819) :: (.int 196 820) :: (.int 73 821) :: (.int 236 822) :: (.int 216 823) :: (.int 67 824) :: (.int 31 825) :: (.int 45 826) :: (.int 164 827) :: (.int 118 828) :: (.int 123 829) :: (.int 183 830) :: (.int 204 831) :: (.int 187 832) :: (.int 62 833) :: (.int 90 834) :: (.int 251 835) :: (.int 96 836) :: (.int 177 837) :: (.int 134 838) :: (.int 59 839) :: (.int 82 840) :: (.int 161 841) :: (.int 108 842) :: (.int 170 843) :: (.int 85 844) :: (.int 41 845) :: (.int 157 846) :: (.int 151 847) :: (.int 178 848) :: (.int 135 849) :: (.int 144 850) :: (.int 97 851) :: (.int 190 852) :: (.int 220 853) :: (.int 252 854) :: (.int 188 855) :: (.int 149 856) :: (.int 207 857) :: (.int 205 858) :: (.int 55 859) :: (.int 63 860) :: (.int 91 861) :: (.int 209 862) :: (.int 83 863) :: (.int 57 864) :: (.int 132 865) :: (.int 60 866) :: (.int 65 867) :: (.int 162 868) :: (.int 109 869) :: (.int 71 870) :: (.int 20 871) :: (.int 42 872) :: (.int 158 873) :: (.int 93 874) :: (.int 86 875) :: (.int 242 876) :: (.int 211 877) :: (.int 171 878) :: (.int 68 879) :: (.int 17 880) :: (.int 146 881) :: (.int 217 882) :: (.int 35 883) :: (.int 32 884) :: (.int 46 885) :: (.int 137 886) :: (.int 180 887) :: (.int 124 888) :: (.int 184 889) :: (.int 38 890) :: (.int 119 891) :: (.int 153 892) :: (.int 227 893) :: (.int 165 894) :: (.int 103 895) :: (.int 74 896) :: (.int 237 897) :: (.int 222 898) :: (.int 197 899) :: (.int 49 900) :: (.int 254 901) :: (.int 24 902) :: (.int 13 903) :: (.int 99 904) :: (.int 140 905) :: (.int 128 906) :: (.int 192 907) :: (.int 247 908) :: (.int 112 909) :: (.int 7 910) :: [])
noncomputable def h55 (l16 : String) : PySem.Obj := ⟨(.type l16), none, (.seq (List.toArray ((.int 0 654) :: (.int 0 655) :: (.int 25 656) :: (.int 1 657) :: (.int 50 658) :: (.int 2 659) :: (.int 26 660) :: (.int 198 661) :: (.int 75 662) :: (.int 199 663) :: (.int 27 664) :: (.int 104 665) :: (.int 51 666) :: (.int 238 667) :: (.int 223 668) :: (.int 3 669) :: (.int 100 670) :: (.int 4 671) :: (.int 224 672) :: (.int 14 673) :: (.int 52 674) :: (.int 141 675) :: (.int 129 676) :: (.int 239 677) :: (.int 76 678) :: (.int 113 679) :: (.int 8 680) :: (.int 200 681) :: (.int 248 682) :: (.int 105 683) :: (.int 28 684) :: (.int 193 685) :: (.int 125 686) :: (.int 194 687) :: (.int 29 688) :: (.int 181 689) :: (.int 249 690) :: (.int 185 691) :: (.int 39 692) :: (.int 106 693) :: (.int 77 694) :: (.int 228 695) :: (.int 166 696) :: (.int 114 697) :: (.int 154 698) :: (.int 201 699) :: (.int 9 700) :: (.int 120 701) :: (.int 101 702) :: (.int 47 703) :: (.int 138 704) :: (.int 5 705) :: (.int 33 706) :: (.int 15 707) :: (.int 225 708) :: (.int 36 709) :: (.int 18 710) :: (.int 240 711) :: (.int 130 712) :: (.int 69 713) :: (.int 53 714) :: (.int 147 715) :: (.int 218 716) :: (.int 142 717) :: (.int 150 718) :: (.int 143 719) :: (.int 219 720) :: (.int 189 721) :: (.int 54 722) :: (.int 208 723) :: (.int 206 724) :: (.int 148 725) :: (.int 19 726) :: (.int 92 727) :: (.int 210 728) :: (.int 241 729) :: (.int 64 730) :: (.int 70 731) :: (.int 131 732) :: (.int 56 733) :: (.int 102 734) :: (.int 221 735) :: (.int 253 736) :: (.int 48 737) :: (.int 191 738) :: (.int 6 739) :: (.int 139 740) :: (.int 98 741) :: (.int 179 742) :: (.int 37 743) :: (.int 226 744) :: (.int 152 745) :: (.int 34 746) :: (.int 136 747) :: (.int 145 748) :: (.int 16 749) :: (.int 126 750) :: (.int 110 751) :: (.int 72 752) :: (.int 195 753) :: (.int 163 754) :: (.int 182 755) :: (.int 30 756) :: (.int 66 757) :: (.int 58 758) :: (.int 107 759) :: (.int 40 760) :: (.int 84 761) :: (.int 250 762) :: (.int 133 763) :: (.int 61 764) :: (.int 186 765) :: (.int 43 766) :: (.int 121 767) :: (.int 10 768) :: (.int 21 769) :: (.int 155 770) :: (.int 159 771) :: (.int 94 772) :: (.int 202 773) :: (.int 78 774) :: (.int 212 775) :: (.int 172 776) :: (.int 229 777) :: (.int 243 778) :: (.int 115 779) :: (.int 167 780) :: (.int 87 781) :: (.int 175 783) :: (.int 88 784) :: (.int 168 785) :: (.int 80 786) :: (.int 244 787) :: (.int 234 788) :: (.int 214 789) :: (.int 116 790) :: (.int 79 791) :: (.int 174 792) :: (.int 233 793) :: (.int 213 794) :: (.int 231 795) :: (.int 230 796) :: (.int 173 797) :: (.int 232 798) :: (.int 44 799) :: (.int 215 800) :: (.int 117 801) :: (.int 122 802) :: (.int 235 803) :: (.int 22 804) :: (.int 11 805) :: (.int 245 806) :: (.int 89 807) :: (.int 203 808) :: (.int 95 809) :: (.int 176 810) :: (.int 156 811) :: (.int 169 812) :: (.int 81 813) :: (.int 160 814) :: (.int 127 815) :: (.int 12 816) :: (.int 246 817) :: (.int 111 818) :: (.int 23 819) :: (.int 196 820) :: (.int 73 821) :: (.int 236 822) :: (.int 216 823) :: (.int 67 824) :: (.int 31 825) :: (.int 45 826) :: (.int 164 827) :: (.int 118 828) :: (.int 123 829) :: (.int 183 830) :: (.int 204 831) :: (.int 187 832) :: (.int 62 833) :: (.int 90 834) :: (.int 251 835) :: (.int 96 836) :: (.int 177 837) :: (.int 134 838) :: (.int 59 839) :: (.int 82 840) :: (.int 161 841) :: (.int 108 842) :: (.int 170 843) :: (.int 85 844) :: (.int 41 845) :: (.int 157 846) :: (.int 151 847) :: (.int 178 848) :: (.int 135 849) :: (.int 144 850) :: (.int 97 851) :: (.int 190 852) :: (.int 220 853) :: (.int 252 854) :: (.int 188 855) :: (.int 149 856) :: (.int 207 857) :: (.int 205 858) :: (.int 55 859) :: (.int 63 860) :: (.int 91 861) :: (.int 209 862) :: (.int 83 863) :: (.int 57 864) :: (.int 132 865) :: (.int 60 866) :: (.int 65 867) :: (.int 162 868) :: (.int 109 869) :: (.int 71 870) :: (.int 20 871) :: (.int 42 872) :: (.int 158 873) :: (.int 93 874) :: (.int 86 875) :: (.int 242 876) :: (.int 211 877) :: (.int 171 878) :: (.int 68 879) :: (.int 17 880) :: (.int 146 881) :: (.int 217 882) :: (.int 35 883) :: (.int 32 884) :: (.int 46 885) :: (.int 137 886) :: (.int 180 887) :: (.int 124 888) :: (.int 184 889) :: (.int 38 890) :: (.int 119 891) :: (.int 153 892) :: (.int 227 893) :: (.int 165 894) :: (.int 103 895) :: (.int 74 896) :: (.int 237 897) :: (.int 222 898) :: (.int 197 899) :: (.int 49 900) :: (.int 254 901) :: (.int 24 902) :: (.int 13 903) :: (.int 99 904) :: (.int 140 905) :: (.int 128 906) :: (.int 192 907) :: (.int 247 908) :: (.int 112 909) :: (.int 7 910) :: [])) 0), (List.toArray [])⟩
noncomputable def h56 (l2 : String) (n88 n60 n89 n90 n91 n67 : Str) : PySem.Obj := ⟨(.type l2), none, (.seq (List.toArray [(.str n88 916), (.str n60 917), (.str n89 918), (.str n90 919), (.str n91 920), (.str n67 921)]) 0), (List.toArray [])⟩
noncomputable def h57 (l2 : String) (n60 n92 n93 : Str) : PySem.Obj := ⟨(.type l2), none, (.seq (List.toArray [(.str n60 922), (.str n92 923), (.str n93 924)]) 0), (List.toArray [])⟩
noncomputable def h58 (l3 : String) (n26 n11 : Str) : PySem.Obj := ⟨(.type l3), none, (.fields (List.toArray [(.str n26 913), (.str n26 914), (.str n11 915), (.int 77 0), (.int 2 0), (.int 0 0), (.int 0 0), (.int 3 0), (.ref 155), (.bool true), (.int 181 0), (.ref 156), .none, (.ref 157), (.ref 158), (.ref 159), (.int 925 0), (.int 77 0), (.str n11 926)])), (List.toArray [])⟩
noncomputable def h59 (l4 : String) (n26 : Str) (a39 : Arguments) (b40 : List Stmt) (c41 : Scope) (d42 : Str) (n49 : Str) : PySem.Obj := ⟨(.type l4), none, (.func ⟨n26, n26, a39, (.stmts b40), c41, 3, [], .none, .none, (.str d42 927), (.str n49 222), none, (.ref 160), .none, 0⟩), (List.toArray [])⟩
noncomputable def h60 (l2 : String) (n94 n95 n96 : Str) : PySem.Obj := ⟨(.type l2), none, (.seq (List.toArray [(.str n94 932), (.str n95 933), (.str n96 934)]) 0), (List.toArray [])⟩
noncomputable def h61 (l3 : String) (n27 n11 : Str) : PySem.Obj := ⟨(.type l3), none, (.fields (List.toArray [(.str n27 929), (.str n27 930), (.str n11 931), (.int 103 0), (.int 3 0), (.int 0 0), (.int 0 0), (.int 3 0), (.ref 162), (.bool true), (.int 181 0), (.ref 163), .none, (.ref 164), (.ref 165), (.ref 166), (.int 935 0), (.int 103 0), (.str n11 936)])), (List.toArray [])⟩
noncomputable def h62 (l4 : String) (n27 : Str) (a43 : Arguments) (b44 : List Stmt) (c45 : Scope) (n49 : Str) : PySem.Obj := ⟨(.type l4), none, (.func ⟨n27, n27, a43, (.stmts b44), c45, 3, [], .none, .none, .none, (.str n49 222), none, (.ref 167), .none, 0⟩), (List.toArray [])⟩
noncomputable def h63 (l2 : String) (n97 n88 n96 n95 n98 n99 n100 : Str) : PySem.Obj := ⟨(.type l2), none, (.seq (List.toArray [(.str n97 941), (.str n88 942), (.str n96 943), (.str n95 944), (.str n98 945), (.str n99 946), (.str n100 947)]) 0), (List.toArray [])⟩
noncomputable def h64 (l3 : String) (n28 n11 : Str) : PySem.Obj := ⟨(.type l3), none, (.fields (List.toArray [(.str n28 938), (.str n28 939), (.str n11 940), (.int 105 0), (.int 3 0), (.int 0 0), (.int 0 0), (.int 3 0), (.ref 169), (.bool true), (.int 181 0), (.ref 170), .none, (.ref 171), (.ref 172), (.ref 173), (.int 948 0), (.int 105 0), (.str n11 949)])), (List.toArray [])⟩
noncomputable def h65 (l4 : String) (n28 : Str) (a46 : Arguments) (b47 : List Stmt) (c48 : Scope) (n49 : Str) : PySem.Obj := ⟨(.type l4), none, (.func ⟨n28, n28, a46, (.stmts b47), c48, 3, [], .none, .none, .none, (.str n49 222), none, (.ref 174), .none, 0⟩), (List.toArray [])⟩
noncomputable def h66 (l3 : String) (n29 n11 : Str) : PySem.Obj := ⟨(.type l3), none, (.fields (List.toArray [(.str n29 953), (.str n29 954), (.str n11 955), (.int 116 0), (.int 0 0), (.int 0 0), (.int 0 0), (.int 3 0), (.ref 176), (.bool true), (.int 181 0), (.ref 177), .none, (.ref 178), (.ref 179), (.ref 180), (.int 956 0), (.int 116 0), (.str n11 957)])), (List.toArray [])⟩
noncomputable def h67 (l4 : String) (n29 : Str) (a49 : Arguments) (b50 : List Stmt) (c51 : Scope) (n3 : Str) : PySem.Obj := ⟨(.type l4), none, (.func ⟨n29, n29, a49, (.stmts b50), c51, 3, [], .none, .none, .none, (.str n3 951), none, (.ref 181), .none, 0⟩), (List.toArray [])⟩
noncomputable def h68 (l2 : String) (n101 n102 : Str) : PySem.Obj := ⟨(.type l2), none, (.seq (List.toArray [(.str n101 964), (.str n102 965)]) 0), (List.toArray [])⟩
noncomputable def h69 (l3 : String) (n31 n11 : Str) : PySem.Obj := ⟨(.type l3), none, (.fields (List.toArray [(.str n31 961), (.str n31 962), (.str n11 963), (.int 119 0), (.int 2 0), (.int 0 0), (.int 0 0), (.int 3 0), (.ref 183), (.bool true), (.int 181 0), (.ref 184), .none, (.ref 185), (.ref 186), (.ref 187), (.int 966 0), (.int 119 0), (.str n11 967)])), (List.toArray [])⟩
noncomputable def h70 (l4 : String) (n31 : Str) (a52 : Arguments) (b53 : List Stmt) (c54 : Scope) (n3 : Str) : PySem.Obj := ⟨(.type l4), none, (.func ⟨n31, n31, a52, (.stmts b53), c54, 3, [], .none, .none, .none, (.str n3 951), none, (.ref 188), .none, 0⟩), (List.toArray [])⟩
noncomputable def h71 (l2 : String) (n103 n104 : Str) : PySem.Obj := ⟨(.type l2), none, (.seq (List.toArray [(.str n103 972), (.str n104 973)]) 0), (List.toArray [])⟩
noncomputable def h72 (l3 : String) (n32 n11 : Str) : PySem.Obj := ⟨(.type l3), none, (.fields (List.toArray [(.str n32 969), (.str n32 970), (.str n11 971), (.int 121 0), (.int 2 0), (.int 0 0), (.int 0 0), (.int 3 0), (.ref 190), (.bool true), (.int 181 0), (.ref 191), .none, (.ref 192), (.ref 193), (.ref 194), (.int 974 0), (.int 121 0), (.str n11 975)])), (List.toArray [])⟩
noncomputable def h73 (l4 : String) (n32 : Str) (a55 : Arguments) (b56 : List Stmt) (c57 : Scope) (n3 : Str) : PySem.Obj := ⟨(.type l4), none, (.func ⟨n32, n32, a55, (.stmts b56), c57, 3, [], .none, .none, .none, (.str n3 951), none, (.ref 195), .none, 0⟩), (List.toArray [])⟩
noncomputable def h74 (l2 : String) (n105 n106 n107 n108 : Str) : PySem.Obj := ⟨(.type l2), none, (.seq (List.toArray [(.str n105 980), (.str n106 981), (.str n107 982), (.str n108 983)]) 0), (List.toArray [])⟩
noncomputable def h75 (l3 : String) (n33 n11 : Str) : PySem.Obj := ⟨(.type l3), none, (.fields (List.toArray [(.str n33 977), (.str n33 978), (.str n11 979), (.int 123 0), (.int 2 0), (.int 0 0), (.int 0 0), (.int 3 0), (.ref 197), (.bool true), (.int 181 0), (.ref 198), .none, (.ref 199), (.ref 200), (.ref 201), (.int 984 0), (.int 123 0), (.str n11 985)])), (List.toArray [])⟩
noncomputable def h76 (l4 : String) (n33 : Str) (a58 : Arguments) (b59 : List Stmt) (c60 : Scope) (n3 : Str) : PySem.Obj := ⟨(.type l4), none, (.func ⟨n33, n33, a58, (.stmts b59), c60, 3, [], .none, .none, .none, (.str n3 951), none, (.ref 202), .none, 0⟩), (List.toArray [])⟩
noncomputable def h77 (l2 : String) (n109 n107 n110 : Str) : PySem.Obj := ⟨(.type l2), none, (.seq (List.toArray [(.str n109 990), (.str n107 991), (.str n110 992)]) 0), (List.toArray [])⟩
noncomputable def h78 (l3 : String) (n34 n11 : Str) : PySem.Obj := ⟨(.type l3), none, (.fields (List.toArray [(.str n34 987), (.str n34 988), (.str n11 989), (.int 132 0), (.int 1 0), (.int 0 0), (.int 0 0), (.int 3 0), (.ref 204), (.bool true), (.int 181 0), (.ref 205), .none, (.ref 206), (.ref 207), (.ref 208), (.int 993 0), (.int 132 0), (.str n11 994)])), (List.toArray [])⟩
noncomputable def h79 (l4 : String) (n34 : Str) (a61 : Arguments) (b62 : List Stmt) (c63 : Scope) (n3 : Str) : PySem.Obj := ⟨(.type l4), none, (.func ⟨n34, n34, a61, (.stmts b62), c63, 3, [], .none, .none, .none, (.str n3 951), none, (.ref 209), .none, 0⟩), (List.toArray [])⟩
noncomputable def h80 (l2 : String) (n60 n111 n107 n102 : Str) : PySem.Obj := ⟨(.type l2), none, (.seq (List.toArray [(.str n60 999), (.str n111 1000), (.str n107 1001), (.str n102 1002)]) 0), (List.toArray [])⟩
noncomputable def h81 (l3 : String) (n35 n11 : Str) : PySem.Obj := ⟨(.type l3), none, (.fields (List.toArray [(.str n35 996), (.str n35 997), (.str n11 998), (.int 138 0), (.int 2 0), (.int 0 0), (.int 0 0), (.int 3 0), (.ref 211), (.bool true), (.int 181 0), (.ref 212), .none, (.ref 213), (.ref 214), (.ref 215), (.int 1003 0), (.int 138 0), (.str n11 1004)])), (List.toArray [])⟩
noncomputable def h82 (l4 : String) (n35 : Str) (a64 : Arguments) (b65 : List Stmt) (c66 : Scope) (n3 : Str) : PySem.Obj := ⟨(.type l4), none, (.func ⟨n35, n35, a64, (.stmts b65), c66, 3, [], .none, .none, .none, (.str n3 951), none, (.ref 216), .none, 0⟩), (List.toArray [])⟩
noncomputable def h83 (l3 : String) (n36 n11 : Str) : PySem.Obj := ⟨(.type l3), none, (.fields (List.toArray [(.str n36 1006), (.str n36 1007), (.str n11 1008), (.int 143 0), (.int 1 0), (.int 0 0), (.int 0 0), (.int 3 0), (.ref 218), (.bool true), (.int 181 0), (.ref 219), .none, .none, .none, (.ref 220), (.int 1009 0), (.int 143 0), (.str n11 1010)])), (List.toArray [])⟩
noncomputable def h84 (l4 : String) (n36 : Str) (a67 : Arguments) (b68 : List Stmt) (c69 : Scope) (n3 : Str) : PySem.Obj := ⟨(.type l4), none, (.func ⟨n36, n36, a67, (.stmts b68), c69, 3, [], .none, .none, .none, (.str n3 951), none, (.ref 221), .none, 0⟩), (List.toArray [])⟩
noncomputable def h85 (l17 l18 l5 : String) : PySem.Obj := ⟨(.type l17), none, (.fields (List.toArray [(.builtin l18), (.type l5)])), (List.toArray [])⟩
noncomputable def h86 (n49 : Str) : List (Option PySem.Value) := [none, (some (.str n49 222)), none, (some (.ref 0))]
noncomputable def KG (n0 n1 : Str) (l0 : String) (n2 n3 n4 n5 n6 : Str) (l1 : String) (n7 n8 n9 n10 n11 n12 n13 n14 n15 n16 n17 n18 n19 n20 n21 n22 n23 n24 n25 n26 n27 n28 n29 n30 n31 n32 n33 n34 n35 n36 : Str) (l2 : String) (n37 : Str) (l3 l4 : String) (a0 : Arguments) (b1 : List Stmt) (c2 : Scope) (n38 : Str) (l6 : String) (n39 n40 n41 n42 n43 : Str) (l5 l7 l8 l9 l10 l11 : String) (n44 n45 n46 n47 n48 : Str) (a3 : Arguments) (b4 : List Stmt) (c5 : Scope) (n49 n50 n51 n52 n53 : Str) (a6 : Arguments) (b7 : List Stmt) (c8 : Scope) (n54 n55 n56 : Str) (a9 : Arguments) (b10 : List Stmt) (c11 : Scope) (n57 n58 : Str) (a12 : Arguments) (b13 : List Stmt) (c14 : Scope) (n59 : Str) (l12 l13 l14 l19 : String) (n60 n61 n62 n63 n64 : Str) (a16 : Arguments) (b17 : List Stmt) (c18 : Scope) (d19 : Str) (n65 n66 n67 n68 n69 : Str) (a20 : Arguments) (b21 : List Stmt) (c22 : Scope) (d23 : Str) (n70 : Str) (l15 : String) (n71 n72 n73 n74 : Str) (a24 : Arguments) (b25 : List Stmt) (c26 : Scope) (d27 : Str) (n75 n76 : Str) (a28 : Arguments) (b29 : List Stmt) (c30 : Scope) (d31 : Str) (n77 n78 : Str) (a32 : Arguments) (b33 : List Stmt) (c34 : Scope) (n79 n80 : Str) (a35 : Arguments) (b36 : List Stmt) (c37 : Scope) (d38 : Str) (n81 n82 : Str) (d15 : Str) (n83 n84 n85 n86 n87 : Str) (l20 l16 : String) (n88 n89 n90 n91 n92 n93 : Str) (a39 : Arguments) (b40 : List Stmt) (c41 : Scope) (d42 : Str) (n94 n95 n96 : Str) (a43 : Arguments) (b44 : List Stmt) (c45 : Scope) (n97 n98 n99 n100 : Str) (a46 : Arguments) (b47 : List Stmt) (c48 : Scope) (a49 : Arguments) (b50 : List Stmt) (c51 : Scope) (n101 n102 : Str) (a52 : Arguments) (b53 : List Stmt) (c54 : Scope) (n103 n104 : Str) (a55 : Arguments) (b56 : List Stmt) (c57 : Scope) (n105 n106 n107 n108 : Str) (a58 : Arguments) (b59 : List Stmt) (c60 : Scope) (n109 n110 : Str) (a61 : Arguments) (b62 : List Stmt) (c63 : Scope) (n111 : Str) (a64 : Arguments) (b65 : List Stmt) (c66 : Scope) (a67 : Arguments) (b68 : List Stmt) (c69 : Scope) : Params → Frag := fun P => (((nat_lit 2), (h0 n0 n1 P)) :: ((nat_lit 3), (h1 l0 n2 n3 n4 n5 n6 l1 n7 n8 n9 n10 n11 n12 n13 n14 n15 n16 n17 n18 n19 n20 n21 n22 n23 n24 n25 n26 n27 n28 n29 n30 n31 n32 n33 n34 n35 n36 P)) :: ((nat_lit 15), ⟨(.type l2), none, (.seq (List.toArray []) 0), (List.toArray [])⟩) :: ((nat_lit 17), (h2 l2 n37)) :: ((nat_lit 18), ⟨(.type l2), none, (.seq (List.toArray []) 0), (List.toArray [])⟩) :: ((nat_lit 20), (h3 l3 n13 n11)) :: ((nat_lit 21), (h4 l4 n13 a0 b1 c2 n38)) :: ((nat_lit 22), ⟨(.type l2), none, (.seq (List.toArray [(.type l6)]) 0), (List.toArray [])⟩) :: ((nat_lit 29), ⟨(.type l2), none, (.seq (List.toArray []) 0), (List.toArray [])⟩) :: ((nat_lit 30), (h5 l0 n39 n40 n41 n42 n43 n4 P)) :: ((nat_lit 31), (h6 l5 n17 l6 l7 l8 l9)) :: ((nat_lit 32), (h7 l10 n43 l11)) :: ((nat_lit 42), ⟨(.type l2), none, (.seq (List.toArray []) 0), (List.toArray [])⟩) :: ((nat_lit 44), (h8 l2 n44 n45 n46)) :: ((nat_lit 45), ⟨(.type l2), none, (.seq (List.toArray []) 0), (List.toArray [])⟩) :: ((nat_lit 47), (h9 l3 n47 n48 n11)) :: ((nat_lit 48), (h10 l4 n47 n48 a3 b4 c5 n49)) :: ((nat_lit 49), ⟨(.type l2), none, (.seq (List.toArray [.none]) 0), (List.toArray [])⟩) :: ((nat_lit 50), ⟨(.type l2), none, (.seq (List.toArray []) 0), (List.toArray [])⟩) :: ((nat_lit 52), (h11 l2 n44 n50 n51)) :: ((nat_lit 53), ⟨(.type l2), none, (.seq (List.toArray []) 0), (List.toArray [])⟩) :: ((nat_lit 55), (h12 l3 n52 n53 n11)) :: ((nat_lit 56), (h13 l4 n52 n53 a6 b7 c8 n49)) :: ((nat_lit 57), ⟨(.type l2), none, (.seq (List.toArray []) 0), (List.toArray [])⟩) :: ((nat_lit 59), (h14 l2 n44 n50 n54)) :: ((nat_lit 60), ⟨(.type l2), none, (.seq (List.toArray []) 0), (List.toArray [])⟩) :: ((nat_lit 62), (h15 l3 n55 n56 n11)) :: ((nat_lit 63), (h16 l4 n55 n56 a9 b10 c11 n49)) :: ((nat_lit 64), ⟨(.type l2), none, (.seq (List.toArray []) 0), (List.toArray [])⟩) :: ((nat_lit 66), (h17 l2 n44 n50)) :: ((nat_lit 67), ⟨(.type l2), none, (.seq (List.toArray []) 0), (List.toArray [])⟩) :: ((nat_lit 69), (h18 l3 n57 n58 n11)) :: ((nat_lit 70), (h19 l4 n57 n58 a12 b13 c14 n49)) :: ((nat_lit 71), (h20 l2 n4 n45)) :: ((nat_lit 72), (h21 l0 n39 n49 n41 n47 n52 n55 n57 n42 n59 n43 n4 P)) :: ((nat_lit 73), (h22 l5 n18 l8 l12)) :: ((nat_lit 74), (h23 l10 n59 l13 l14)) :: ((nat_lit 75), (h24 l10 n43 l11)) :: ((nat_lit 78), ⟨(.type l2), none, (.seq (List.toArray [(.type l2)]) 0), (List.toArray [])⟩) :: ((nat_lit 81), ⟨(.type l19), none, (.cell (some (.ref 145))), (List.toArray [])⟩) :: ((nat_lit 86), ⟨(.type l2), none, (.seq (List.toArray []) 0), (List.toArray [])⟩) :: ((nat_lit 87), (h25 l2 n60 n61)) :: ((nat_lit 88), ⟨(.type l0), none, (.dict (List.toArray []) 0), (List.toArray [])⟩) :: ((nat_lit 89), ⟨(.type l2), none, (.seq (List.toArray []) 0), (List.toArray [])⟩) :: ((nat_lit 91), (h26 l2 n62 n60 n61)) :: ((nat_lit 92), ⟨(.type l2), none, (.seq (List.toArray []) 0), (List.toArray [])⟩) :: ((nat_lit 94), (h27 l3 n63 n64 n11)) :: ((nat_lit 95), (h28 l4 n63 n64 a16 b17 c18 d19 n49)) :: ((nat_lit 96), ⟨(.type l2), none, (.seq (List.toArray []) 0), (List.toArray [])⟩) :: ((nat_lit 98), (h29 l2 n65 n66 n67)) :: ((nat_lit 99), ⟨(.type l2), none, (.seq (List.toArray []) 0), (List.toArray [])⟩) :: ((nat_lit 101), (h30 l3 n68 n69 n11)) :: ((nat_lit 102), (h31 l4 n68 n69 a20 b21 c22 d23 n49)) :: ((nat_lit 103), (h32 l0 n39 n49 n2 n68 n70 n69 n4 d23 n8 P)) :: ((nat_lit 104), (h33 l15)) :: ((nat_lit 105), ⟨(.type l0), none, (.dict (List.toArray []) 0), (List.toArray [])⟩) :: ((nat_lit 106), ⟨(.type l2), none, (.seq (List.toArray [(.ref 81)]) 0), (List.toArray [])⟩) :: ((nat_lit 107), (h34 l2 n71)) :: ((nat_lit 109), (h35 l2 n44 n72 n67)) :: ((nat_lit 110), ⟨(.type l2), none, (.seq (List.toArray []) 0), (List.toArray [])⟩) :: ((nat_lit 112), (h36 l3 n73 n74 n11)) :: ((nat_lit 113), (h37 l4 n73 n74 a24 b25 c26 n71 d27 n49)) :: ((nat_lit 114), ⟨(.type l2), none, (.seq (List.toArray []) 0), (List.toArray [])⟩) :: ((nat_lit 116), (h38 l2 n44)) :: ((nat_lit 117), ⟨(.type l2), none, (.seq (List.toArray []) 0), (List.toArray [])⟩) :: ((nat_lit 119), (h39 l3 n75 n76 n11)) :: ((nat_lit 120), (h40 l4 n75 n76 a28 b29 c30 d31 n49)) :: ((nat_lit 121), ⟨(.type l2), none, (.seq (List.toArray []) 0), (List.toArray [])⟩) :: ((nat_lit 123), (h41 l2 n44)) :: ((nat_lit 124), ⟨(.type l2), none, (.seq (List.toArray []) 0), (List.toArray [])⟩) :: ((nat_lit 126), (h42 l3 n77 n78 n11)) :: ((nat_lit 127), (h43 l4 n77 n78 a32 b33 c34 n49)) :: ((nat_lit 128), ⟨(.type l2), none, (.seq (List.toArray []) 0), (List.toArray [])⟩) :: ((nat_lit 130), (h44 l2 n44)) :: ((nat_lit 131), ⟨(.type l2), none, (.seq (List.toArray []) 0), (List.toArray [])⟩) :: ((nat_lit 133), (h45 l3 n79 n80 n11)) :: ((nat_lit 134), (h46 l4 n79 n80 a35 b36 c37 d38 n49)) :: ((nat_lit 135), (h47 l2 n60 n61)) :: ((nat_lit 136), (h48 l0 n45 n4 n81 P)) :: ((nat_lit 137), ⟨(.ref 73), (some 136), .plain, (List.toArray [])⟩) :: ((nat_lit 139), (h49 l0 n45 n4 n82 P)) :: ((nat_lit 140), ⟨(.ref 73), (some 139), .plain, (List.toArray [])⟩) :: ((nat_lit 142), ⟨(.type l2), none, (.seq (List.toArray []) 0), (List.toArray [])⟩) :: ((nat_lit 144), (h50 l0 n39 n49 n41 n4 d15 n83 n84 n85 n63 n68 n73 n86 n75 n77 n79 n87 n60 n61 n42 P)) :: ((nat_lit 145), (h51 l5 n19 l2 l8)) :: ((nat_lit 146), ⟨(.type l20), none, (.fields (List.toArray [(.ref 95)])), (List.toArray [])⟩) :: ((nat_lit 151), (h53 l16)) :: ((nat_lit 154), (h55 l16)) :: ((nat_lit 155), ⟨(.type l2), none, (.seq (List.toArray []) 0), (List.toArray [])⟩) :: ((nat_lit 157), (h56 l2 n88 n60 n89 n90 n91 n67)) :: ((nat_lit 158), (h57 l2 n60 n92 n93)) :: ((nat_lit 160), (h58 l3 n26 n11)) :: ((nat_lit 161), (h59 l4 n26 a39 b40 c41 d42 n49)) :: ((nat_lit 162), ⟨(.type l2), none, (.seq (List.toArray []) 0), (List.toArray [])⟩) :: ((nat_lit 164), (h60 l2 n94 n95 n96)) :: ((nat_lit 165), ⟨(.type l2), none, (.seq (List.toArray []) 0), (List.toArray [])⟩) :: ((nat_lit 167), (h61 l3 n27 n11)) :: ((nat_lit 168), (h62 l4 n27 a43 b44 c45 n49)) :: ((nat_lit 169), ⟨(.type l2), none, (.seq (List.toArray []) 0), (List.toArray [])⟩) :: ((nat_lit 171), (h63 l2 n97 n88 n96 n95 n98 n99 n100)) :: ((nat_lit 172), ⟨(.type l2), none, (.seq (List.toArray []) 0), (List.toArray [])⟩) :: ((nat_lit 174), (h64 l3 n28 n11)) :: ((nat_lit 175), (h65 l4 n28 a46 b47 c48 n49)) :: ((nat_lit 176), ⟨(.type l2), none, (.seq (List.toArray []) 0), (List.toArray [])⟩) :: ((nat_lit 178), ⟨(.type l2), none, (.seq (List.toArray []) 0), (List.toArray [])⟩) :: ((nat_lit 179), ⟨(.type l2), none, (.seq (List.toArray []) 0), (List.toArray [])⟩) :: ((nat_lit 181), (h66 l3 n29 n11)) :: ((nat_lit 182), (h67 l4 n29 a49 b50 c51 n3)) :: ((nat_lit 183), ⟨(.type l2), none, (.seq (List.toArray []) 0), (List.toArray [])⟩) :: ((nat_lit 185), (h68 l2 n101 n102)) :: ((nat_lit 186), ⟨(.type l2), none, (.seq (List.toArray []) 0), (List.toArray [])⟩) :: ((nat_lit 188), (h69 l3 n31 n11)) :: ((nat_lit 189), (h70 l4 n31 a52 b53 c54 n3)) :: ((nat_lit 190), ⟨(.type l2), none, (.seq (List.toArray []) 0), (List.toArray [])⟩) :: ((nat_lit 192), (h71 l2 n103 n104)) :: ((nat_lit 193), ⟨(.type l2), none, (.seq (List.toArray []) 0), (List.toArray [])⟩) :: ((nat_lit 195), (h72 l3 n32 n11)) :: ((nat_lit 196), (h73 l4 n32 a55 b56 c57 n3)) :: ((nat_lit 197), ⟨(.type l2), none, (.seq (List.toArray []) 0), (List.toArray [])⟩) :: ((nat_lit 199), (h74 l2 n105 n106 n107 n108)) :: ((nat_lit 200), ⟨(.type l2), none, (.seq (List.toArray []) 0), (List.toArray [])⟩) :: ((nat_lit 202), (h75 l3 n33 n11)) :: ((nat_lit 203), (h76 l4 n33 a58 b59 c60 n3)) :: ((nat_lit 204), ⟨(.type l2), none, (.seq (List.toArray []) 0), (List.toArray [])⟩) :: ((nat_lit 206), (h77 l2 n109 n107 n110)) :: ((nat_lit 207), ⟨(.type l2), none, (.seq (List.toArray []) 0), (List.toArray [])⟩) :: ((nat_lit 209), (h78 l3 n34 n11)) :: ((nat_lit 210), (h79 l4 n34 a61 b62 c63 n3)) :: ((nat_lit 211), ⟨(.type l2), none, (.seq (List.toArray []) 0), (List.toArray [])⟩) :: ((nat_lit 213), (h80 l2 n60 n111 n107 n102)) :: ((nat_lit 214), ⟨(.type l2), none, (.seq (List.toArray []) 0), (List.toArray [])⟩) :: ((nat_lit 216), (h81 l3 n35 n11)) :: ((nat_lit 217), (h82 l4 n35 a64 b65 c66 n3)) :: ((nat_lit 218), ⟨(.type l2), none, (.seq (List.toArray []) 0), (List.toArray [])⟩) :: ((nat_lit 221), (h83 l3 n36 n11)) :: ((nat_lit 222), (h84 l4 n36 a67 b68 c69 n3)) :: [])
noncomputable def s0 : Str := ⟨Array.mk [nat_lit 116, nat_lit 121, nat_lit 112, nat_lit 101, nat_lit 46, nat_lit 95, nat_lit 95, nat_lit 115, nat_lit 117, nat_lit 98, nat_lit 99, nat_lit 108, nat_lit 97, nat_lit 115, nat_lit 115, nat_lit 101, nat_lit 115, nat_lit 95, nat_lit 95, nat_lit 46, nat_lit 69, nat_lit 120, nat_lit 99, nat_lit 101, nat_lit 112, nat_lit 116, nat_lit 105, nat_lit 111, nat_lit 110, nat_lit 46, nat_lit 48]⟩
theorem e0 : Str.ofString "type.__subclasses__.Exception.0" = s0 := @id (Str.ofString "type.__subclasses__.Exception.0" = s0) (PySem.W.Fast.ofString_ofList [Char.ofNat (nat_lit 116), Char.ofNat (nat_lit 121), Char.ofNat (nat_lit 112), Char.ofNat (nat_lit 101), Char.ofNat (nat_lit 46), Char.ofNat (nat_lit 95), Char.ofNat (nat_lit 95), Char.ofNat (nat_lit 115), Char.ofNat (nat_lit 117), Char.ofNat (nat_lit 98), Char.ofNat (nat_lit 99), Char.ofNat (nat_lit 108), Char.ofNat (nat_lit 97), Char.ofNat (nat_lit 115), Char.ofNat (nat_lit 115), Char.ofNat (nat_lit 101), Char.ofNat (nat_lit 115), Char.ofNat (nat_lit 95), Char.ofNat (nat_lit 95), Char.ofNat (nat_lit 46), Char.ofNat (nat_lit 69), Char.ofNat (nat_lit 120), Char.ofNat (nat_lit 99), Char.ofNat (nat_lit 101), Char.ofNat (nat_lit 112), Char.ofNat (nat_lit 116), Char.ofNat (nat_lit 105), Char.ofNat (nat_lit 111), Char.ofNat (nat_lit 110), Char.ofNat (nat_lit 46), Char.ofNat (nat_lit 48)])
noncomputable def s1 : Str := ⟨Array.mk [nat_lit 116, nat_lit 121, nat_lit 112, nat_lit 101, nat_lit 46, nat_lit 95, nat_lit 95, nat_lit 115, nat_lit 117, nat_lit 98, nat_lit 99, nat_lit 108, nat_lit 97, nat_lit 115, nat_lit 115, nat_lit 101, nat_lit 115, nat_lit 95, nat_lit 95, nat_lit 46, nat_lit 69, nat_lit 120, nat_lit 99, nat_lit 101, nat_lit 112, nat_lit 116, nat_lit 105, nat_lit 111, nat_lit 110, nat_lit 46, nat_lit 110]⟩
theorem e1 : Str.ofString "type.__subclasses__.Exception.n" = s1 := @id (Str.ofString "type.__subclasses__.Exception.n" = s1) (PySem.W.Fast.ofString_ofList [Char.ofNat (nat_lit 116), Char.ofNat (nat_lit 121), Char.ofNat (nat_lit 112), Char.ofNat (nat_lit 101), Char.ofNat (nat_lit 46), Char.ofNat (nat_lit 95), Char.ofNat (nat_lit 95), Char.ofNat (nat_lit 115), Char.ofNat (nat_lit 117), Char.ofNat (nat_lit 98), Char.ofNat (nat_lit 99), Char.ofNat (nat_lit 108), Char.ofNat (nat_lit 97), Char.ofNat (nat_lit 115), Char.ofNat (nat_lit 115), Char.ofNat (nat_lit 101), Char.ofNat (nat_lit 115), Char.ofNat (nat_lit 95), Char.ofNat (nat_lit 95), Char.ofNat (nat_lit 46), Char.ofNat (nat_lit 69), Char.ofNat (nat_lit 120), Char.ofNat (nat_lit 99), Char.ofNat (nat_lit 101), Char.ofNat (nat_lit 112), Char.ofNat (nat_lit 116), Char.ofNat (nat_lit 105), Char.ofNat (nat_lit 111), Char.ofNat (nat_lit 110), Char.ofNat (nat_lit 46), Char.ofNat (nat_lit 110)])
noncomputable def s2 : Str := ⟨Array.mk [nat_lit 95, nat_lit 95, nat_lit 110, nat_lit 97, nat_lit 109, nat_lit 101, nat_lit 95, nat_lit 95]⟩
theorem e2 : Str.ofString "__name__" = s2 := @id (Str.ofString "__name__" = s2) (PySem.W.Fast.ofString_ofList [Char.ofNat (nat_lit 95), Char.ofNat (nat_lit 95), Char.ofNat (nat_lit 110), Char.ofNat (nat_lit 97), Char.ofNat (nat_lit 109), Char.ofNat (nat_lit 101), Char.ofNat (nat_lit 95), Char.ofNat (nat_lit 95)])
noncomputable def s3 : Str := ⟨Array.mk [nat_lit 108, nat_lit 97, nat_lit 119, nat_lit 95, nat_lit 106, nat_lit 98, nat_lit 48, nat_lit 48, nat_lit 51, nat_lit 57, nat_lit 95, nat_lit 48, nat_lit 49]⟩
theorem e3 : Str.ofString "law_jb0039_01" = s3 := @id (Str.ofString "law_jb0039_01" = s3) (PySem.W.Fast.ofString_ofList [Char.ofNat (nat_lit 108), Char.ofNat (nat_lit 97), Char.ofNat (nat_lit 119), Char.ofNat (nat_lit 95), Char.ofNat (nat_lit 106), Char.ofNat (nat_lit 98), Char.ofNat (nat_lit 48), Char.ofNat (nat_lit 48), Char.ofNat (nat_lit 51), Char.ofNat (nat_lit 57), Char.ofNat (nat_lit 95), Char.ofNat (nat_lit 48), Char.ofNat (nat_lit 49)])
noncomputable def s4 : Str := ⟨Array.mk [nat_lit 95, nat_lit 95, nat_lit 100, nat_lit 111, nat_lit 99, nat_lit 95, nat_lit 95]⟩
theorem e4 : Str.ofString "__doc__" = s4 := @id (Str.ofString "__doc__" = s4) (PySem.W.Fast.ofString_ofList [Char.ofNat (nat_lit 95), Char.ofNat (nat_lit 95), Char.ofNat (nat_lit 100), Char.ofNat (nat_lit 111), Char.ofNat (nat_lit 99), Char.ofNat (nat_lit 95), Char.ofNat (nat_lit 95)])
noncomputable def s5 : Str := ⟨Array.mk [nat_lit 95, nat_lit 95, nat_lit 112, nat_lit 97, nat_lit 99, nat_lit 107, nat_lit 97, nat_lit 103, nat_lit 101, nat_lit 95, nat_lit 95]⟩
theorem e5 : Str.ofString "__package__" = s5 := @id (Str.ofString "__package__" = s5) (PySem.W.Fast.ofString_ofList [Char.ofNat (nat_lit 95), Char.ofNat (nat_lit 95), Char.ofNat (nat_lit 112), Char.ofNat (nat_lit 97), Char.ofNat (nat_lit 99), Char.ofNat (nat_lit 107), Char.ofNat (nat_lit 97), Char.ofNat (nat_lit 103), Char.ofNat (nat_lit 101), Char.ofNat (nat_lit 95), Char.ofNat (nat_lit 95)])
noncomputable def s6 : Str := ⟨Array.mk [nat_lit 95, nat_lit 95, nat_lit 108, nat_lit 111, nat_lit 97, nat_lit 100, nat_lit 101, nat_lit 114, nat_lit 95, nat_lit 95]⟩
theorem e6 : Str.ofString "__loader__" = s6 := @id (Str.ofString "__loader__" = s6) (PySem.W.Fast.ofString_ofList [Char.ofNat (nat_lit 95), Char.ofNat (nat_lit 95), Char.ofNat (nat_lit 108), Char.ofNat (nat_lit 111), Char.ofNat (nat_lit 97), Char.ofNat (nat_lit 100), Char.ofNat (nat_lit 101), Char.ofNat (nat_lit 114), Char.ofNat (nat_lit 95), Char.ofNat (nat_lit 95)])
noncomputable def s7 : Str := ⟨Array.mk [nat_lit 95, nat_lit 95, nat_lit 115, nat_lit 112, nat_lit 101, nat_lit 99, nat_lit 95, nat_lit 95]⟩
theorem e7 : Str.ofString "__spec__" = s7 := @id (Str.ofString "__spec__" = s7) (PySem.W.Fast.ofString_ofList [Char.ofNat (nat_lit 95), Char.ofNat (nat_lit 95), Char.ofNat (nat_lit 115), Char.ofNat (nat_lit 112), Char.ofNat (nat_lit 101), Char.ofNat (nat_lit 99), Char.ofNat (nat_lit 95), Char.ofNat (nat_lit 95)])
noncomputable def s8 : Str := ⟨Array.mk [nat_lit 95, nat_lit 95, nat_lit 97, nat_lit 110, nat_lit 110, nat_lit 111, nat_lit 116, nat_lit 97, nat_lit 116, nat_lit 105, nat_lit 111, nat_lit 110, nat_lit 115, nat_lit 95, nat_lit 95]⟩
theorem e8 : Str.ofString "__annotations__" = s8 := @id (Str.ofString "__annotations__" = s8) (PySem.W.Fast.ofString_ofList [Char.ofNat (nat_lit 95), Char.ofNat (nat_lit 95), Char.ofNat (nat_lit 97), Char.ofNat (nat_lit 110), Char.ofNat (nat_lit 110), Char.ofNat (nat_lit 111), Char.ofNat (nat_lit 116), Char.ofNat (nat_lit 97), Char.ofNat (nat_lit 116), Char.ofNat (nat_lit 105), Char.ofNat (nat_lit 111), Char.ofNat (nat_lit 110), Char.ofNat (nat_lit 115), Char.ofNat (nat_lit 95), Char.ofNat (nat_lit 95)])
noncomputable def s9 : Str := ⟨Array.mk [nat_lit 95, nat_lit 95, nat_lit 98, nat_lit 117, nat_lit 105, nat_lit 108, nat_lit 116, nat_lit 105, nat_lit 110, nat_lit 115, nat_lit 95, nat_lit 95]⟩
theorem e9 : Str.ofString "__builtins__" = s9 := @id (Str.ofString "__builtins__" = s9) (PySem.W.Fast.ofString_ofList [Char.ofNat (nat_lit 95), Char.ofNat (nat_lit 95), Char.ofNat (nat_lit 98), Char.ofNat (nat_lit 117), Char.ofNat (nat_lit 105), Char.ofNat (nat_lit 108), Char.ofNat (nat_lit 116), Char.ofNat (nat_lit 105), Char.ofNat (nat_lit 110), Char.ofNat (nat_lit 115), Char.ofNat (nat_lit 95), Char.ofNat (nat_lit 95)])
noncomputable def s10 : Str := ⟨Array.mk [nat_lit 95, nat_lit 95, nat_lit 102, nat_lit 105, nat_lit 108, nat_lit 101, nat_lit 95, nat_lit 95]⟩
theorem e10 : Str.ofString "__file__" = s10 := @id (Str.ofString "__file__" = s10) (PySem.W.Fast.ofString_ofList [Char.ofNat (nat_lit 95), Char.ofNat (nat_lit 95), Char.ofNat (nat_lit 102), Char.ofNat (nat_lit 105), Char.ofNat (nat_lit 108), Char.ofNat (nat_lit 101), Char.ofNat (nat_lit 95), Char.ofNat (nat_lit 95)])
noncomputable def s11 : Str := ⟨Array.mk [nat_lit 47, nat_lit 99, nat_lit 108, nat_lit 97, nat_lit 105, nat_lit 109, nat_lit 47, nat_lit 99, nat_lit 117, nat_lit 116, nat_lit 46, nat_lit 112, nat_lit 121]⟩
theorem e11 : Str.ofString "/claim/cut.py" = s11 := @id (Str.ofString "/claim/cut.py" = s11) (PySem.W.Fast.ofString_ofList [Char.ofNat (nat_lit 47), Char.ofNat (nat_lit 99), Char.ofNat (nat_lit 108), Char.ofNat (nat_lit 97), Char.ofNat (nat_lit 105), Char.ofNat (nat_lit 109), Char.ofNat (nat_lit 47), Char.ofNat (nat_lit 99), Char.ofNat (nat_lit 117), Char.ofNat (nat_lit 116), Char.ofNat (nat_lit 46), Char.ofNat (nat_lit 112), Char.ofNat (nat_lit 121)])
noncomputable def s12 : Str := ⟨Array.mk [nat_lit 95, nat_lit 95, nat_lit 99, nat_lit 97, nat_lit 99, nat_lit 104, nat_lit 101, nat_lit 100, nat_lit 95, nat_lit 95]⟩
theorem e12 : Str.ofString "__cached__" = s12 := @id (Str.ofString "__cached__" = s12) (PySem.W.Fast.ofString_ofList [Char.ofNat (nat_lit 95), Char.ofNat (nat_lit 95), Char.ofNat (nat_lit 99), Char.ofNat (nat_lit 97), Char.ofNat (nat_lit 99), Char.ofNat (nat_lit 104), Char.ofNat (nat_lit 101), Char.ofNat (nat_lit 100), Char.ofNat (nat_lit 95), Char.ofNat (nat_lit 95)])
noncomputable def s13 : Str := ⟨Array.mk [nat_lit 95, nat_lit 119, nat_lit 97, nat_lit 108, nat_lit 108]⟩
theorem e13 : Str.ofString "_wall" = s13 := @id (Str.ofString "_wall" = s13) (PySem.W.Fast.ofString_ofList [Char.ofNat (nat_lit 95), Char.ofNat (nat_lit 119), Char.ofNat (nat_lit 97), Char.ofNat (nat_lit 108), Char.ofNat (nat_lit 108)])
noncomputable def s14 : Str := ⟨Array.mk [nat_lit 68, nat_lit 73, nat_lit 71, nat_lit 69, nat_lit 83, nat_lit 84, nat_lit 95, nat_lit 76, nat_lit 69, nat_lit 78, nat_lit 71, nat_lit 84, nat_lit 72, nat_lit 95, nat_lit 66, nat_lit 89, nat_lit 84, nat_lit 69, nat_lit 83]⟩
theorem e14 : Str.ofString "DIGEST_LENGTH_BYTES" = s14 := @id (Str.ofString "DIGEST_LENGTH_BYTES" = s14) (PySem.W.Fast.ofString_ofList [Char.ofNat (nat_lit 68), Char.ofNat (nat_lit 73), Char.ofNat (nat_lit 71), Char.ofNat (nat_lit 69), Char.ofNat (nat_lit 83), Char.ofNat (nat_lit 84), Char.ofNat (nat_lit 95), Char.ofNat (nat_lit 76), Char.ofNat (nat_lit 69), Char.ofNat (nat_lit 78), Char.ofNat (nat_lit 71), Char.ofNat (nat_lit 84), Char.ofNat (nat_lit 72), Char.ofNat (nat_lit 95), Char.ofNat (nat_lit 66), Char.ofNat (nat_lit 89), Char.ofNat (nat_lit 84), Char.ofNat (nat_lit 69), Char.ofNat (nat_lit 83)])
noncomputable def s15 : Str := ⟨Array.mk [nat_lit 83, nat_lit 69, nat_lit 67, nat_lit 82, nat_lit 69, nat_lit 84, nat_lit 95, nat_lit 73, nat_lit 78, nat_lit 68, nat_lit 69, nat_lit 88]⟩
theorem e15 : Str.ofString "SECRET_INDEX" = s15 := @id (Str.ofString "SECRET_INDEX" = s15) (PySem.W.Fast.ofString_ofList [Char.ofNat (nat_lit 83), Char.ofNat (nat_lit 69), Char.ofNat (nat_lit 67), Char.ofNat (nat_lit 82), Char.ofNat (nat_lit 69), Char.ofNat (nat_lit 84), Char.ofNat (nat_lit 95), Char.ofNat (nat_lit 73), Char.ofNat (nat_lit 78), Char.ofNat (nat_lit 68), Char.ofNat (nat_lit 69), Char.ofNat (nat_lit 88)])
noncomputable def s16 : Str := ⟨Array.mk [nat_lit 68, nat_lit 73, nat_lit 71, nat_lit 69, nat_lit 83, nat_lit 84, nat_lit 95, nat_lit 73, nat_lit 78, nat_lit 68, nat_lit 69, nat_lit 88]⟩
theorem e16 : Str.ofString "DIGEST_INDEX" = s16 := @id (Str.ofString "DIGEST_INDEX" = s16) (PySem.W.Fast.ofString_ofList [Char.ofNat (nat_lit 68), Char.ofNat (nat_lit 73), Char.ofNat (nat_lit 71), Char.ofNat (nat_lit 69), Char.ofNat (nat_lit 83), Char.ofNat (nat_lit 84), Char.ofNat (nat_lit 95), Char.ofNat (nat_lit 73), Char.ofNat (nat_lit 78), Char.ofNat (nat_lit 68), Char.ofNat (nat_lit 69), Char.ofNat (nat_lit 88)])
noncomputable def s17 : Str := ⟨Array.mk [nat_lit 77, nat_lit 110, nat_lit 101, nat_lit 109, nat_lit 111, nat_lit 110, nat_lit 105, nat_lit 99, nat_lit 69, nat_lit 114, nat_lit 114, nat_lit 111, nat_lit 114]⟩
theorem e17 : Str.ofString "MnemonicError" = s17 := @id (Str.ofString "MnemonicError" = s17) (PySem.W.Fast.ofString_ofList [Char.ofNat (nat_lit 77), Char.ofNat (nat_lit 110), Char.ofNat (nat_lit 101), Char.ofNat (nat_lit 109), Char.ofNat (nat_lit 111), Char.ofNat (nat_lit 110), Char.ofNat (nat_lit 105), Char.ofNat (nat_lit 99), Char.ofNat (nat_lit 69), Char.ofNat (nat_lit 114), Char.ofNat (nat_lit 114), Char.ofNat (nat_lit 111), Char.ofNat (nat_lit 114)])
noncomputable def s18 : Str := ⟨Array.mk [nat_lit 95, nat_lit 116, nat_lit 117, nat_lit 112, nat_lit 108, nat_lit 101, nat_lit 103, nat_lit 101, nat_lit 116, nat_lit 116, nat_lit 101, nat_lit 114]⟩
theorem e18 : Str.ofString "_tuplegetter" = s18 := @id (Str.ofString "_tuplegetter" = s18) (PySem.W.Fast.ofString_ofList [Char.ofNat (nat_lit 95), Char.ofNat (nat_lit 116), Char.ofNat (nat_lit 117), Char.ofNat (nat_lit 112), Char.ofNat (nat_lit 108), Char.ofNat (nat_lit 101), Char.ofNat (nat_lit 103), Char.ofNat (nat_lit 101), Char.ofNat (nat_lit 116), Char.ofNat (nat_lit 116), Char.ofNat (nat_lit 101), Char.ofNat (nat_lit 114)])
noncomputable def s19 : Str := ⟨Array.mk [nat_lit 82, nat_lit 97, nat_lit 119, nat_lit 83, nat_lit 104, nat_lit 97, nat_lit 114, nat_lit 101]⟩
theorem e19 : Str.ofString "RawShare" = s19 := @id (Str.ofString "RawShare" = s19) (PySem.W.Fast.ofString_ofList [Char.ofNat (nat_lit 82), Char.ofNat (nat_lit 97), Char.ofNat (nat_lit 119), Char.ofNat (nat_lit 83), Char.ofNat (nat_lit 104), Char.ofNat (nat_lit 97), Char.ofNat (nat_lit 114), Char.ofNat (nat_lit 101)])
noncomputable def s20 : Str := ⟨Array.mk [nat_lit 95, nat_lit 69, nat_lit 88, nat_lit 80, nat_lit 95, nat_lit 84, nat_lit 65, nat_lit 66, nat_lit 76, nat_lit 69, nat_lit 95, nat_lit 48, nat_lit 48]⟩
theorem e20 : Str.ofString "_EXP_TABLE_00" = s20 := @id (Str.ofString "_EXP_TABLE_00" = s20) (PySem.W.Fast.ofString_ofList [Char.ofNat (nat_lit 95), Char.ofNat (nat_lit 69), Char.ofNat (nat_lit 88), Char.ofNat (nat_lit 80), Char.ofNat (nat_lit 95), Char.ofNat (nat_lit 84), Char.ofNat (nat_lit 65), Char.ofNat (nat_lit 66), Char.ofNat (nat_lit 76), Char.ofNat (nat_lit 69), Char.ofNat (nat_lit 95), Char.ofNat (nat_lit 48), Char.ofNat (nat_lit 48)])
noncomputable def s21 : Str := ⟨Array.mk [nat_lit 95, nat_lit 69, nat_lit 88, nat_lit 80, nat_lit 95, nat_lit 84, nat_lit 65, nat_lit 66, nat_lit 76, nat_lit 69, nat_lit 95, nat_lit 48, nat_lit 49]⟩
theorem e21 : Str.ofString "_EXP_TABLE_01" = s21 := @id (Str.ofString "_EXP_TABLE_01" = s21) (PySem.W.Fast.ofString_ofList [Char.ofNat (nat_lit 95), Char.ofNat (nat_lit 69), Char.ofNat (nat_lit 88), Char.ofNat (nat_lit 80), Char.ofNat (nat_lit 95), Char.ofNat (nat_lit 84), Char.ofNat (nat_lit 65), Char.ofNat (nat_lit 66), Char.ofNat (nat_lit 76), Char.ofNat (nat_lit 69), Char.ofNat (nat_lit 95), Char.ofNat (nat_lit 48), Char.ofNat (nat_lit 49)])
noncomputable def s22 : Str := ⟨Array.mk [nat_lit 69, nat_lit 88, nat_lit 80, nat_lit 95, nat_lit 84, nat_lit 65, nat_lit 66, nat_lit 76, nat_lit 69]⟩
theorem e22 : Str.ofString "EXP_TABLE" = s22 := @id (Str.ofString "EXP_TABLE" = s22) (PySem.W.Fast.ofString_ofList [Char.ofNat (nat_lit 69), Char.ofNat (nat_lit 88), Char.ofNat (nat_lit 80), Char.ofNat (nat_lit 95), Char.ofNat (nat_lit 84), Char.ofNat (nat_lit 65), Char.ofNat (nat_lit 66), Char.ofNat (nat_lit 76), Char.ofNat (nat_lit 69)])
noncomputable def s23 : Str := ⟨Array.mk [nat_lit 95, nat_lit 76, nat_lit 79, nat_lit 71, nat_lit 95, nat_lit 84, nat_lit 65, nat_lit 66, nat_lit 76, nat_lit 69, nat_lit 95, nat_lit 48, nat_lit 48]⟩
theorem e23 : Str.ofString "_LOG_TABLE_00" = s23 := @id (Str.ofString "_LOG_TABLE_00" = s23) (PySem.W.Fast.ofString_ofList [Char.ofNat (nat_lit 95), Char.ofNat (nat_lit 76), Char.ofNat (nat_lit 79), Char.ofNat (nat_lit 71), Char.ofNat (nat_lit 95), Char.ofNat (nat_lit 84), Char.ofNat (nat_lit 65), Char.ofNat (nat_lit 66), Char.ofNat (nat_lit 76), Char.ofNat (nat_lit 69), Char.ofNat (nat_lit 95), Char.ofNat (nat_lit 48), Char.ofNat (nat_lit 48)])
noncomputable def s24 : Str := ⟨Array.mk [nat_lit 95, nat_lit 76, nat_lit 79, nat_lit 71, nat_lit 95, nat_lit 84, nat_lit 65, nat_lit 66, nat_lit 76, nat_lit 69, nat_lit 95, nat_lit 48, nat_lit 49]⟩
theorem e24 : Str.ofString "_LOG_TABLE_01" = s24 := @id (Str.ofString "_LOG_TABLE_01" = s24) (PySem.W.Fast.ofString_ofList [Char.ofNat (nat_lit 95), Char.ofNat (nat_lit 76), Char.ofNat (nat_lit 79), Char.ofNat (nat_lit 71), Char.ofNat (nat_lit 95), Char.ofNat (nat_lit 84), Char.ofNat (nat_lit 65), Char.ofNat (nat_lit 66), Char.ofNat (nat_lit 76), Char.ofNat (nat_lit 69), Char.ofNat (nat_lit 95), Char.ofNat (nat_lit 48), Char.ofNat (nat_lit 49)])
noncomputable def s25 : Str := ⟨Array.mk [nat_lit 76, nat_lit 79, nat_lit 71, nat_lit 95, nat_lit 84, nat_lit 65, nat_lit 66, nat_lit 76, nat_lit 69]⟩
theorem e25 : Str.ofString "LOG_TABLE" = s25 := @id (Str.ofString "LOG_TABLE" = s25) (PySem.W.Fast.ofString_ofList [Char.ofNat (nat_lit 76), Char.ofNat (nat_lit 79), Char.ofNat (nat_lit 71), Char.ofNat (nat_lit 95), Char.ofNat (nat_lit 84), Char.ofNat (nat_lit 65), Char.ofNat (nat_lit 66), Char.ofNat (nat_lit 76), Char.ofNat (nat_lit 69)])
noncomputable def s26 : Str := ⟨Array.mk [nat_lit 95, nat_lit 105, nat_lit 110, nat_lit 116, nat_lit 101, nat_lit 114, nat_lit 112, nat_lit 111, nat_lit 108, nat_lit 97, nat_lit 116, nat_lit 101]⟩
theorem e26 : Str.ofString "_interpolate" = s26 := @id (Str.ofString "_interpolate" = s26) (PySem.W.Fast.ofString_ofList [Char.ofNat (nat_lit 95), Char.ofNat (nat_lit 105), Char.ofNat (nat_lit 110), Char.ofNat (nat_lit 116), Char.ofNat (nat_lit 101), Char.ofNat (nat_lit 114), Char.ofNat (nat_lit 112), Char.ofNat (nat_lit 111), Char.ofNat (nat_lit 108), Char.ofNat (nat_lit 97), Char.ofNat (nat_lit 116), Char.ofNat (nat_lit 101)])
noncomputable def s27 : Str := ⟨Array.mk [nat_lit 95, nat_lit 99, nat_lit 114, nat_lit 101, nat_lit 97, nat_lit 116, nat_lit 101, nat_lit 95, nat_lit 100, nat_lit 105, nat_lit 103, nat_lit 101, nat_lit 115, nat_lit 116]⟩
theorem e27 : Str.ofString "_create_digest" = s27 := @id (Str.ofString "_create_digest" = s27) (PySem.W.Fast.ofString_ofList [Char.ofNat (nat_lit 95), Char.ofNat (nat_lit 99), Char.ofNat (nat_lit 114), Char.ofNat (nat_lit 101), Char.ofNat (nat_lit 97), Char.ofNat (nat_lit 116), Char.ofNat (nat_lit 101), Char.ofNat (nat_lit 95), Char.ofNat (nat_lit 100), Char.ofNat (nat_lit 105), Char.ofNat (nat_lit 103), Char.ofNat (nat_lit 101), Char.ofNat (nat_lit 115), Char.ofNat (nat_lit 116)])
noncomputable def s28 : Str := ⟨Array.mk [nat_lit 95, nat_lit 114, nat_lit 101, nat_lit 99, nat_lit 111, nat_lit 118, nat_lit 101, nat_lit 114, nat_lit 95, nat_lit 115, nat_lit 101, nat_lit 99, nat_lit 114, nat_lit 101, nat_lit 116]⟩
theorem e28 : Str.ofString "_recover_secret" = s28 := @id (Str.ofString "_recover_secret" = s28) (PySem.W.Fast.ofString_ofList [Char.ofNat (nat_lit 95), Char.ofNat (nat_lit 114), Char.ofNat (nat_lit 101), Char.ofNat (nat_lit 99), Char.ofNat (nat_lit 111), Char.ofNat (nat_lit 118), Char.ofNat (nat_lit 101), Char.ofNat (nat_lit 114), Char.ofNat (nat_lit 95), Char.ofNat (nat_lit 115), Char.ofNat (nat_lit 101), Char.ofNat (nat_lit 99), Char.ofNat (nat_lit 114), Char.ofNat (nat_lit 101), Char.ofNat (nat_lit 116)])
noncomputable def s29 : Str := ⟨Array.mk [nat_lit 95, nat_lit 108, nat_lit 97, nat_lit 119, nat_lit 95, nat_lit 111, nat_lit 110, nat_lit 101, nat_lit 115]⟩
theorem e29 : Str.ofString "_law_ones" = s29 := @id (Str.ofString "_law_ones" = s29) (PySem.W.Fast.ofString_ofList [Char.ofNat (nat_lit 95), Char.ofNat (nat_lit 108), Char.ofNat (nat_lit 97), Char.ofNat (nat_lit 119), Char.ofNat (nat_lit 95), Char.ofNat (nat_lit 111), Char.ofNat (nat_lit 110), Char.ofNat (nat_lit 101), Char.ofNat (nat_lit 115)])
noncomputable def s30 : Str := ⟨Array.mk [nat_lit 95, nat_lit 108, nat_lit 97, nat_lit 119, nat_lit 95, nat_lit 115, nat_lit 112, nat_lit 114, nat_lit 101, nat_lit 97, nat_lit 100]⟩
theorem e30 : Str.ofString "_law_spread" = s30 := @id (Str.ofString "_law_spread" = s30) (PySem.W.Fast.ofString_ofList [Char.ofNat (nat_lit 95), Char.ofNat (nat_lit 108), Char.ofNat (nat_lit 97), Char.ofNat (nat_lit 119), Char.ofNat (nat_lit 95), Char.ofNat (nat_lit 115), Char.ofNat (nat_lit 112), Char.ofNat (nat_lit 114), Char.ofNat (nat_lit 101), Char.ofNat (nat_lit 97), Char.ofNat (nat_lit 100)])
noncomputable def s31 : Str := ⟨Array.mk [nat_lit 95, nat_lit 108, nat_lit 97, nat_lit 119, nat_lit 95, nat_lit 110, nat_lit 117, nat_lit 109, nat_lit 98, nat_lit 101, nat_lit 114]⟩
theorem e31 : Str.ofString "_law_number" = s31 := @id (Str.ofString "_law_number" = s31) (PySem.W.Fast.ofString_ofList [Char.ofNat (nat_lit 95), Char.ofNat (nat_lit 108), Char.ofNat (nat_lit 97), Char.ofNat (nat_lit 119), Char.ofNat (nat_lit 95), Char.ofNat (nat_lit 110), Char.ofNat (nat_lit 117), Char.ofNat (nat_lit 109), Char.ofNat (nat_lit 98), Char.ofNat (nat_lit 101), Char.ofNat (nat_lit 114)])
noncomputable def s32 : Str := ⟨Array.mk [nat_lit 95, nat_lit 108, nat_lit 97, nat_lit 119, nat_lit 95, nat_lit 111, nat_lit 99, nat_lit 116, nat_lit 101, nat_lit 116, nat_lit 115]⟩
theorem e32 : Str.ofString "_law_octets" = s32 := @id (Str.ofString "_law_octets" = s32) (PySem.W.Fast.ofString_ofList [Char.ofNat (nat_lit 95), Char.ofNat (nat_lit 108), Char.ofNat (nat_lit 97), Char.ofNat (nat_lit 119), Char.ofNat (nat_lit 95), Char.ofNat (nat_lit 111), Char.ofNat (nat_lit 99), Char.ofNat (nat_lit 116), Char.ofNat (nat_lit 101), Char.ofNat (nat_lit 116), Char.ofNat (nat_lit 115)])
noncomputable def s33 : Str := ⟨Array.mk [nat_lit 95, nat_lit 108, nat_lit 97, nat_lit 119, nat_lit 95, nat_lit 116, nat_lit 105, nat_lit 109, nat_lit 101, nat_lit 115]⟩
theorem e33 : Str.ofString "_law_times" = s33 := @id (Str.ofString "_law_times" = s33) (PySem.W.Fast.ofString_ofList [Char.ofNat (nat_lit 95), Char.ofNat (nat_lit 108), Char.ofNat (nat_lit 97), Char.ofNat (nat_lit 119), Char.ofNat (nat_lit 95), Char.ofNat (nat_lit 116), Char.ofNat (nat_lit 105), Char.ofNat (nat_lit 109), Char.ofNat (nat_lit 101), Char.ofNat (nat_lit 115)])
noncomputable def s34 : Str := ⟨Array.mk [nat_lit 95, nat_lit 108, nat_lit 97, nat_lit 119, nat_lit 95, nat_lit 105, nat_lit 110, nat_lit 118, nat_lit 101, nat_lit 114, nat_lit 115, nat_lit 101]⟩
theorem e34 : Str.ofString "_law_inverse" = s34 := @id (Str.ofString "_law_inverse" = s34) (PySem.W.Fast.ofString_ofList [Char.ofNat (nat_lit 95), Char.ofNat (nat_lit 108), Char.ofNat (nat_lit 97), Char.ofNat (nat_lit 119), Char.ofNat (nat_lit 95), Char.ofNat (nat_lit 105), Char.ofNat (nat_lit 110), Char.ofNat (nat_lit 118), Char.ofNat (nat_lit 101), Char.ofNat (nat_lit 114), Char.ofNat (nat_lit 115), Char.ofNat (nat_lit 101)])
noncomputable def s35 : Str := ⟨Array.mk [nat_lit 95, nat_lit 108, nat_lit 97, nat_lit 119, nat_lit 95, nat_lit 112, nat_lit 114, nat_lit 111, nat_lit 100, nat_lit 117, nat_lit 99, nat_lit 116]⟩
theorem e35 : Str.ofString "_law_product" = s35 := @id (Str.ofString "_law_product" = s35) (PySem.W.Fast.ofString_ofList [Char.ofNat (nat_lit 95), Char.ofNat (nat_lit 108), Char.ofNat (nat_lit 97), Char.ofNat (nat_lit 119), Char.ofNat (nat_lit 95), Char.ofNat (nat_lit 112), Char.ofNat (nat_lit 114), Char.ofNat (nat_lit 111), Char.ofNat (nat_lit 100), Char.ofNat (nat_lit 117), Char.ofNat (nat_lit 99), Char.ofNat (nat_lit 116)])
noncomputable def s36 : Str := ⟨Array.mk [nat_lit 108, nat_lit 97, nat_lit 119]⟩
theorem e36 : Str.ofString "law" = s36 := @id (Str.ofString "law" = s36) (PySem.W.Fast.ofString_ofList [Char.ofNat (nat_lit 108), Char.ofNat (nat_lit 97), Char.ofNat (nat_lit 119)])
noncomputable def s37 : Str := ⟨Array.mk [nat_lit 107]⟩
theorem e37 : Str.ofString "k" = s37 := @id (Str.ofString "k" = s37) (PySem.W.Fast.ofString_ofList [Char.ofNat (nat_lit 107)])
noncomputable def s38 : Str := ⟨Array.mk [nat_lit 95, nat_lit 95, nat_lit 109, nat_lit 97, nat_lit 105, nat_lit 110, nat_lit 95, nat_lit 95]⟩
theorem e38 : Str.ofString "__main__" = s38 := @id (Str.ofString "__main__" = s38) (PySem.W.Fast.ofString_ofList [Char.ofNat (nat_lit 95), Char.ofNat (nat_lit 95), Char.ofNat (nat_lit 109), Char.ofNat (nat_lit 97), Char.ofNat (nat_lit 105), Char.ofNat (nat_lit 110), Char.ofNat (nat_lit 95), Char.ofNat (nat_lit 95)])
noncomputable def s39 : Str := ⟨Array.mk [nat_lit 95, nat_lit 95, nat_lit 109, nat_lit 111, nat_lit 100, nat_lit 117, nat_lit 108, nat_lit 101, nat_lit 95, nat_lit 95]⟩
theorem e39 : Str.ofString "__module__" = s39 := @id (Str.ofString "__module__" = s39) (PySem.W.Fast.ofString_ofList [Char.ofNat (nat_lit 95), Char.ofNat (nat_lit 95), Char.ofNat (nat_lit 109), Char.ofNat (nat_lit 111), Char.ofNat (nat_lit 100), Char.ofNat (nat_lit 117), Char.ofNat (nat_lit 108), Char.ofNat (nat_lit 101), Char.ofNat (nat_lit 95), Char.ofNat (nat_lit 95)])
noncomputable def s40 : Str := ⟨Array.mk [nat_lit 115, nat_lit 104, nat_lit 97, nat_lit 109, nat_lit 105, nat_lit 114, nat_lit 95, nat_lit 109, nat_lit 110, nat_lit 101, nat_lit 109, nat_lit 111, nat_lit 110, nat_lit 105, nat_lit 99, nat_lit 46, nat_lit 117, nat_lit 116, nat_lit 105, nat_lit 108, nat_lit 115]⟩
theorem e40 : Str.ofString "shamir_mnemonic.utils" = s40 := @id (Str.ofString "shamir_mnemonic.utils" = s40) (PySem.W.Fast.ofString_ofList [Char.ofNat (nat_lit 115), Char.ofNat (nat_lit 104), Char.ofNat (nat_lit 97), Char.ofNat (nat_lit 109), Char.ofNat (nat_lit 105), Char.ofNat (nat_lit 114), Char.ofNat (nat_lit 95), Char.ofNat (nat_lit 109), Char.ofNat (nat_lit 110), Char.ofNat (nat_lit 101), Char.ofNat (nat_lit 109), Char.ofNat (nat_lit 111), Char.ofNat (nat_lit 110), Char.ofNat (nat_lit 105), Char.ofNat (nat_lit 99), Char.ofNat (nat_lit 46), Char.ofNat (nat_lit 117), Char.ofNat (nat_lit 116), Char.ofNat (nat_lit 105), Char.ofNat (nat_lit 108), Char.ofNat (nat_lit 115)])
noncomputable def s41 : Str := ⟨Array.mk [nat_lit 95, nat_lit 95, nat_lit 102, nat_lit 105, nat_lit 114, nat_lit 115, nat_lit 116, nat_lit 108, nat_lit 105, nat_lit 110, nat_lit 101, nat_lit 110, nat_lit 111, nat_lit 95, nat_lit 95]⟩
theorem e41 : Str.ofString "__firstlineno__" = s41 := @id (Str.ofString "__firstlineno__" = s41) (PySem.W.Fast.ofString_ofList [Char.ofNat (nat_lit 95), Char.ofNat (nat_lit 95), Char.ofNat (nat_lit 102), Char.ofNat (nat_lit 105), Char.ofNat (nat_lit 114), Char.ofNat (nat_lit 115), Char.ofNat (nat_lit 116), Char.ofNat (nat_lit 108), Char.ofNat (nat_lit 105), Char.ofNat (nat_lit 110), Char.ofNat (nat_lit 101), Char.ofNat (nat_lit 110), Char.ofNat (nat_lit 111), Char.ofNat (nat_lit 95), Char.ofNat (nat_lit 95)])
noncomputable def s42 : Str := ⟨Array.mk [nat_lit 95, nat_lit 95, nat_lit 115, nat_lit 116, nat_lit 97, nat_lit 116, nat_lit 105, nat_lit 99, nat_lit 95, nat_lit 97, nat_lit 116, nat_lit 116, nat_lit 114, nat_lit 105, nat_lit 98, nat_lit 117, nat_lit 116, nat_lit 101, nat_lit 115, nat_lit 95, nat_lit 95]⟩
theorem e42 : Str.ofString "__static_attributes__" = s42 := @id (Str.ofString "__static_attributes__" = s42) (PySem.W.Fast.ofString_ofList [Char.ofNat (nat_lit 95), Char.ofNat (nat_lit 95), Char.ofNat (nat_lit 115), Char.ofNat (nat_lit 116), Char.ofNat (nat_lit 97), Char.ofNat (nat_lit 116), Char.ofNat (nat_lit 105), Char.ofNat (nat_lit 99), Char.ofNat (nat_lit 95), Char.ofNat (nat_lit 97), Char.ofNat (nat_lit 116), Char.ofNat (nat_lit 116), Char.ofNat (nat_lit 114), Char.ofNat (nat_lit 105), Char.ofNat (nat_lit 98), Char.ofNat (nat_lit 117), Char.ofNat (nat_lit 116), Char.ofNat (nat_lit 101), Char.ofNat (nat_lit 115), Char.ofNat (nat_lit 95), Char.ofNat (nat_lit 95)])
noncomputable def s43 : Str := ⟨Array.mk [nat_lit 95, nat_lit 95, nat_lit 119, nat_lit 101, nat_lit 97, nat_lit 107, nat_lit 114, nat_lit 101, nat_lit 102, nat_lit 95, nat_lit 95]⟩
theorem e43 : Str.ofString "__weakref__" = s43 := @id (Str.ofString "__weakref__" = s43) (PySem.W.Fast.ofString_ofList [Char.ofNat (nat_lit 95), Char.ofNat (nat_lit 95), Char.ofNat (nat_lit 119), Char.ofNat (nat_lit 101), Char.ofNat (nat_lit 97), Char.ofNat (nat_lit 107), Char.ofNat (nat_lit 114), Char.ofNat (nat_lit 101), Char.ofNat (nat_lit 102), Char.ofNat (nat_lit 95), Char.ofNat (nat_lit 95)])
noncomputable def s44 : Str := ⟨Array.mk [nat_lit 115, nat_lit 101, nat_lit 108, nat_lit 102]⟩
theorem e44 : Str.ofString "self" = s44 := @id (Str.ofString "self" = s44) (PySem.W.Fast.ofString_ofList [Char.ofNat (nat_lit 115), Char.ofNat (nat_lit 101), Char.ofNat (nat_lit 108), Char.ofNat (nat_lit 102)])
noncomputable def s45 : Str := ⟨Array.mk [nat_lit 105, nat_lit 110, nat_lit 100, nat_lit 101, nat_lit 120]⟩
theorem e45 : Str.ofString "index" = s45 := @id (Str.ofString "index" = s45) (PySem.W.Fast.ofString_ofList [Char.ofNat (nat_lit 105), Char.ofNat (nat_lit 110), Char.ofNat (nat_lit 100), Char.ofNat (nat_lit 101), Char.ofNat (nat_lit 120)])
noncomputable def s46 : Str := ⟨Array.mk [nat_lit 100, nat_lit 111, nat_lit 99]⟩
theorem e46 : Str.ofString "doc" = s46 := @id (Str.ofString "doc" = s46) (PySem.W.Fast.ofString_ofList [Char.ofNat (nat_lit 100), Char.ofNat (nat_lit 111), Char.ofNat (nat_lit 99)])
noncomputable def s47 : Str := ⟨Array.mk [nat_lit 95, nat_lit 95, nat_lit 105, nat_lit 110, nat_lit 105, nat_lit 116, nat_lit 95, nat_lit 95]⟩
theorem e47 : Str.ofString "__init__" = s47 := @id (Str.ofString "__init__" = s47) (PySem.W.Fast.ofString_ofList [Char.ofNat (nat_lit 95), Char.ofNat (nat_lit 95), Char.ofNat (nat_lit 105), Char.ofNat (nat_lit 110), Char.ofNat (nat_lit 105), Char.ofNat (nat_lit 116), Char.ofNat (nat_lit 95), Char.ofNat (nat_lit 95)])
noncomputable def s48 : Str := ⟨Array.mk [nat_lit 95, nat_lit 116, nat_lit 117, nat_lit 112, nat_lit 108, nat_lit 101, nat_lit 103, nat_lit 101, nat_lit 116, nat_lit 116, nat_lit 101, nat_lit 114, nat_lit 46, nat_lit 95, nat_lit 95, nat_lit 105, nat_lit 110, nat_lit 105, nat_lit 116, nat_lit 95, nat_lit 95]⟩
theorem e48 : Str.ofString "_tuplegetter.__init__" = s48 := @id (Str.ofString "_tuplegetter.__init__" = s48) (PySem.W.Fast.ofString_ofList [Char.ofNat (nat_lit 95), Char.ofNat (nat_lit 116), Char.ofNat (nat_lit 117), Char.ofNat (nat_lit 112), Char.ofNat (nat_lit 108), Char.ofNat (nat_lit 101), Char.ofNat (nat_lit 103), Char.ofNat (nat_lit 101), Char.ofNat (nat_lit 116), Char.ofNat (nat_lit 116), Char.ofNat (nat_lit 101), Char.ofNat (nat_lit 114), Char.ofNat (nat_lit 46), Char.ofNat (nat_lit 95), Char.ofNat (nat_lit 95), Char.ofNat (nat_lit 105), Char.ofNat (nat_lit 110), Char.ofNat (nat_lit 105), Char.ofNat (nat_lit 116), Char.ofNat (nat_lit 95), Char.ofNat (nat_lit 95)])
noncomputable def s49 : Str := ⟨Array.mk [nat_lit 115, nat_lit 104, nat_lit 97, nat_lit 109, nat_lit 105, nat_lit 114, nat_lit 95, nat_lit 109, nat_lit 110, nat_lit 101, nat_lit 109, nat_lit 111, nat_lit 110, nat_lit 105, nat_lit 99, nat_lit 46, nat_lit 115, nat_lit 104, nat_lit 97, nat_lit 109, nat_lit 105, nat_lit 114]⟩
theorem e49 : Str.ofString "shamir_mnemonic.shamir" = s49 := @id (Str.ofString "shamir_mnemonic.shamir" = s49) (PySem.W.Fast.ofString_ofList [Char.ofNat (nat_lit 115), Char.ofNat (nat_lit 104), Char.ofNat (nat_lit 97), Char.ofNat (nat_lit 109), Char.ofNat (nat_lit 105), Char.ofNat (nat_lit 114), Char.ofNat (nat_lit 95), Char.ofNat (nat_lit 109), Char.ofNat (nat_lit 110), Char.ofNat (nat_lit 101), Char.ofNat (nat_lit 109), Char.ofNat (nat_lit 111), Char.ofNat (nat_lit 110), Char.ofNat (nat_lit 105), Char.ofNat (nat_lit 99), Char.ofNat (nat_lit 46), Char.ofNat (nat_lit 115), Char.ofNat (nat_lit 104), Char.ofNat (nat_lit 97), Char.ofNat (nat_lit 109), Char.ofNat (nat_lit 105), Char.ofNat (nat_lit 114)])
noncomputable def s50 : Str := ⟨Array.mk [nat_lit 111, nat_lit 98, nat_lit 106]⟩
theorem e50 : Str.ofString "obj" = s50 := @id (Str.ofString "obj" = s50) (PySem.W.Fast.ofString_ofList [Char.ofNat (nat_lit 111), Char.ofNat (nat_lit 98), Char.ofNat (nat_lit 106)])
noncomputable def s51 : Str := ⟨Array.mk [nat_lit 111, nat_lit 98, nat_lit 106, nat_lit 116, nat_lit 121, nat_lit 112, nat_lit 101]⟩
theorem e51 : Str.ofString "objtype" = s51 := @id (Str.ofString "objtype" = s51) (PySem.W.Fast.ofString_ofList [Char.ofNat (nat_lit 111), Char.ofNat (nat_lit 98), Char.ofNat (nat_lit 106), Char.ofNat (nat_lit 116), Char.ofNat (nat_lit 121), Char.ofNat (nat_lit 112), Char.ofNat (nat_lit 101)])
noncomputable def s52 : Str := ⟨Array.mk [nat_lit 95, nat_lit 95, nat_lit 103, nat_lit 101, nat_lit 116, nat_lit 95, nat_lit 95]⟩
theorem e52 : Str.ofString "__get__" = s52 := @id (Str.ofString "__get__" = s52) (PySem.W.Fast.ofString_ofList [Char.ofNat (nat_lit 95), Char.ofNat (nat_lit 95), Char.ofNat (nat_lit 103), Char.ofNat (nat_lit 101), Char.ofNat (nat_lit 116), Char.ofNat (nat_lit 95), Char.ofNat (nat_lit 95)])
noncomputable def s53 : Str := ⟨Array.mk [nat_lit 95, nat_lit 116, nat_lit 117, nat_lit 112, nat_lit 108, nat_lit 101, nat_lit 103, nat_lit 101, nat_lit 116, nat_lit 116, nat_lit 101, nat_lit 114, nat_lit 46, nat_lit 95, nat_lit 95, nat_lit 103, nat_lit 101, nat_lit 116, nat_lit 95, nat_lit 95]⟩
theorem e53 : Str.ofString "_tuplegetter.__get__" = s53 := @id (Str.ofString "_tuplegetter.__get__" = s53) (PySem.W.Fast.ofString_ofList [Char.ofNat (nat_lit 95), Char.ofNat (nat_lit 116), Char.ofNat (nat_lit 117), Char.ofNat (nat_lit 112), Char.ofNat (nat_lit 108), Char.ofNat (nat_lit 101), Char.ofNat (nat_lit 103), Char.ofNat (nat_lit 101), Char.ofNat (nat_lit 116), Char.ofNat (nat_lit 116), Char.ofNat (nat_lit 101), Char.ofNat (nat_lit 114), Char.ofNat (nat_lit 46), Char.ofNat (nat_lit 95), Char.ofNat (nat_lit 95), Char.ofNat (nat_lit 103), Char.ofNat (nat_lit 101), Char.ofNat (nat_lit 116), Char.ofNat (nat_lit 95), Char.ofNat (nat_lit 95)])
noncomputable def s54 : Str := ⟨Array.mk [nat_lit 118, nat_lit 97, nat_lit 108, nat_lit 117, nat_lit 101]⟩
theorem e54 : Str.ofString "value" = s54 := @id (Str.ofString "value" = s54) (PySem.W.Fast.ofString_ofList [Char.ofNat (nat_lit 118), Char.ofNat (nat_lit 97), Char.ofNat (nat_lit 108), Char.ofNat (nat_lit 117), Char.ofNat (nat_lit 101)])
noncomputable def s55 : Str := ⟨Array.mk [nat_lit 95, nat_lit 95, nat_lit 115, nat_lit 101, nat_lit 116, nat_lit 95, nat_lit 95]⟩
theorem e55 : Str.ofString "__set__" = s55 := @id (Str.ofString "__set__" = s55) (PySem.W.Fast.ofString_ofList [Char.ofNat (nat_lit 95), Char.ofNat (nat_lit 95), Char.ofNat (nat_lit 115), Char.ofNat (nat_lit 101), Char.ofNat (nat_lit 116), Char.ofNat (nat_lit 95), Char.ofNat (nat_lit 95)])
noncomputable def s56 : Str := ⟨Array.mk [nat_lit 95, nat_lit 116, nat_lit 117, nat_lit 112, nat_lit 108, nat_lit 101, nat_lit 103, nat_lit 101, nat_lit 116, nat_lit 116, nat_lit 101, nat_lit 114, nat_lit 46, nat_lit 95, nat_lit 95, nat_lit 115, nat_lit 101, nat_lit 116, nat_lit 95, nat_lit 95]⟩
theorem e56 : Str.ofString "_tuplegetter.__set__" = s56 := @id (Str.ofString "_tuplegetter.__set__" = s56) (PySem.W.Fast.ofString_ofList [Char.ofNat (nat_lit 95), Char.ofNat (nat_lit 116), Char.ofNat (nat_lit 117), Char.ofNat (nat_lit 112), Char.ofNat (nat_lit 108), Char.ofNat (nat_lit 101), Char.ofNat (nat_lit 103), Char.ofNat (nat_lit 101), Char.ofNat (nat_lit 116), Char.ofNat (nat_lit 116), Char.ofNat (nat_lit 101), Char.ofNat (nat_lit 114), Char.ofNat (nat_lit 46), Char.ofNat (nat_lit 95), Char.ofNat (nat_lit 95), Char.ofNat (nat_lit 115), Char.ofNat (nat_lit 101), Char.ofNat (nat_lit 116), Char.ofNat (nat_lit 95), Char.ofNat (nat_lit 95)])
noncomputable def s57 : Str := ⟨Array.mk [nat_lit 95, nat_lit 95, nat_lit 100, nat_lit 101, nat_lit 108, nat_lit 101, nat_lit 116, nat_lit 101, nat_lit 95, nat_lit 95]⟩
theorem e57 : Str.ofString "__delete__" = s57 := @id (Str.ofString "__delete__" = s57) (PySem.W.Fast.ofString_ofList [Char.ofNat (nat_lit 95), Char.ofNat (nat_lit 95), Char.ofNat (nat_lit 100), Char.ofNat (nat_lit 101), Char.ofNat (nat_lit 108), Char.ofNat (nat_lit 101), Char.ofNat (nat_lit 116), Char.ofNat (nat_lit 101), Char.ofNat (nat_lit 95), Char.ofNat (nat_lit 95)])
noncomputable def s58 : Str := ⟨Array.mk [nat_lit 95, nat_lit 116, nat_lit 117, nat_lit 112, nat_lit 108, nat_lit 101, nat_lit 103, nat_lit 101, nat_lit 116, nat_lit 116, nat_lit 101, nat_lit 114, nat_lit 46, nat_lit 95, nat_lit 95, nat_lit 100, nat_lit 101, nat_lit 108, nat_lit 101, nat_lit 116, nat_lit 101, nat_lit 95, nat_lit 95]⟩
theorem e58 : Str.ofString "_tuplegetter.__delete__" = s58 := @id (Str.ofString "_tuplegetter.__delete__" = s58) (PySem.W.Fast.ofString_ofList [Char.ofNat (nat_lit 95), Char.ofNat (nat_lit 116), Char.ofNat (nat_lit 117), Char.ofNat (nat_lit 112), Char.ofNat (nat_lit 108), Char.ofNat (nat_lit 101), Char.ofNat (nat_lit 103), Char.ofNat (nat_lit 101), Char.ofNat (nat_lit 116), Char.ofNat (nat_lit 116), Char.ofNat (nat_lit 101), Char.ofNat (nat_lit 114), Char.ofNat (nat_lit 46), Char.ofNat (nat_lit 95), Char.ofNat (nat_lit 95), Char.ofNat (nat_lit 100), Char.ofNat (nat_lit 101), Char.ofNat (nat_lit 108), Char.ofNat (nat_lit 101), Char.ofNat (nat_lit 116), Char.ofNat (nat_lit 101), Char.ofNat (nat_lit 95), Char.ofNat (nat_lit 95)])
noncomputable def s59 : Str := ⟨Array.mk [nat_lit 95, nat_lit 95, nat_lit 100, nat_lit 105, nat_lit 99, nat_lit 116, nat_lit 95, nat_lit 95]⟩
theorem e59 : Str.ofString "__dict__" = s59 := @id (Str.ofString "__dict__" = s59) (PySem.W.Fast.ofString_ofList [Char.ofNat (nat_lit 95), Char.ofNat (nat_lit 95), Char.ofNat (nat_lit 100), Char.ofNat (nat_lit 105), Char.ofNat (nat_lit 99), Char.ofNat (nat_lit 116), Char.ofNat (nat_lit 95), Char.ofNat (nat_lit 95)])
noncomputable def s60 : Str := ⟨Array.mk [nat_lit 120]⟩
theorem e60 : Str.ofString "x" = s60 := @id (Str.ofString "x" = s60) (PySem.W.Fast.ofString_ofList [Char.ofNat (nat_lit 120)])
noncomputable def s61 : Str := ⟨Array.mk [nat_lit 100, nat_lit 97, nat_lit 116, nat_lit 97]⟩
theorem e61 : Str.ofString "data" = s61 := @id (Str.ofString "data" = s61) (PySem.W.Fast.ofString_ofList [Char.ofNat (nat_lit 100), Char.ofNat (nat_lit 97), Char.ofNat (nat_lit 116), Char.ofNat (nat_lit 97)])
noncomputable def s62 : Str := ⟨Array.mk [nat_lit 95, nat_lit 99, nat_lit 108, nat_lit 115]⟩
theorem e62 : Str.ofString "_cls" = s62 := @id (Str.ofString "_cls" = s62) (PySem.W.Fast.ofString_ofList [Char.ofNat (nat_lit 95), Char.ofNat (nat_lit 99), Char.ofNat (nat_lit 108), Char.ofNat (nat_lit 115)])
noncomputable def s63 : Str := ⟨Array.mk [nat_lit 95, nat_lit 95, nat_lit 110, nat_lit 101, nat_lit 119, nat_lit 95, nat_lit 95]⟩
theorem e63 : Str.ofString "__new__" = s63 := @id (Str.ofString "__new__" = s63) (PySem.W.Fast.ofString_ofList [Char.ofNat (nat_lit 95), Char.ofNat (nat_lit 95), Char.ofNat (nat_lit 110), Char.ofNat (nat_lit 101), Char.ofNat (nat_lit 119), Char.ofNat (nat_lit 95), Char.ofNat (nat_lit 95)])
noncomputable def s64 : Str := ⟨Array.mk [nat_lit 82, nat_lit 97, nat_lit 119, nat_lit 83, nat_lit 104, nat_lit 97, nat_lit 114, nat_lit 101, nat_lit 46, nat_lit 95, nat_lit 95, nat_lit 110, nat_lit 101, nat_lit 119, nat_lit 95, nat_lit 95]⟩
theorem e64 : Str.ofString "RawShare.__new__" = s64 := @id (Str.ofString "RawShare.__new__" = s64) (PySem.W.Fast.ofString_ofList [Char.ofNat (nat_lit 82), Char.ofNat (nat_lit 97), Char.ofNat (nat_lit 119), Char.ofNat (nat_lit 83), Char.ofNat (nat_lit 104), Char.ofNat (nat_lit 97), Char.ofNat (nat_lit 114), Char.ofNat (nat_lit 101), Char.ofNat (nat_lit 46), Char.ofNat (nat_lit 95), Char.ofNat (nat_lit 95), Char.ofNat (nat_lit 110), Char.ofNat (nat_lit 101), Char.ofNat (nat_lit 119), Char.ofNat (nat_lit 95), Char.ofNat (nat_lit 95)])
noncomputable def s65 : Str := ⟨Array.mk [nat_lit 99, nat_lit 108, nat_lit 115]⟩
theorem e65 : Str.ofString "cls" = s65 := @id (Str.ofString "cls" = s65) (PySem.W.Fast.ofString_ofList [Char.ofNat (nat_lit 99), Char.ofNat (nat_lit 108), Char.ofNat (nat_lit 115)])
noncomputable def s66 : Str := ⟨Array.mk [nat_lit 105, nat_lit 116, nat_lit 101, nat_lit 114, nat_lit 97, nat_lit 98, nat_lit 108, nat_lit 101]⟩
theorem e66 : Str.ofString "iterable" = s66 := @id (Str.ofString "iterable" = s66) (PySem.W.Fast.ofString_ofList [Char.ofNat (nat_lit 105), Char.ofNat (nat_lit 116), Char.ofNat (nat_lit 101), Char.ofNat (nat_lit 114), Char.ofNat (nat_lit 97), Char.ofNat (nat_lit 98), Char.ofNat (nat_lit 108), Char.ofNat (nat_lit 101)])
noncomputable def s67 : Str := ⟨Array.mk [nat_lit 114, nat_lit 101, nat_lit 115, nat_lit 117, nat_lit 108, nat_lit 116]⟩
theorem e67 : Str.ofString "result" = s67 := @id (Str.ofString "result" = s67) (PySem.W.Fast.ofString_ofList [Char.ofNat (nat_lit 114), Char.ofNat (nat_lit 101), Char.ofNat (nat_lit 115), Char.ofNat (nat_lit 117), Char.ofNat (nat_lit 108), Char.ofNat (nat_lit 116)])
noncomputable def s68 : Str := ⟨Array.mk [nat_lit 95, nat_lit 109, nat_lit 97, nat_lit 107, nat_lit 101]⟩
theorem e68 : Str.ofString "_make" = s68 := @id (Str.ofString "_make" = s68) (PySem.W.Fast.ofString_ofList [Char.ofNat (nat_lit 95), Char.ofNat (nat_lit 109), Char.ofNat (nat_lit 97), Char.ofNat (nat_lit 107), Char.ofNat (nat_lit 101)])
noncomputable def s69 : Str := ⟨Array.mk [nat_lit 82, nat_lit 97, nat_lit 119, nat_lit 83, nat_lit 104, nat_lit 97, nat_lit 114, nat_lit 101, nat_lit 46, nat_lit 95, nat_lit 109, nat_lit 97, nat_lit 107, nat_lit 101]⟩
theorem e69 : Str.ofString "RawShare._make" = s69 := @id (Str.ofString "RawShare._make" = s69) (PySem.W.Fast.ofString_ofList [Char.ofNat (nat_lit 82), Char.ofNat (nat_lit 97), Char.ofNat (nat_lit 119), Char.ofNat (nat_lit 83), Char.ofNat (nat_lit 104), Char.ofNat (nat_lit 97), Char.ofNat (nat_lit 114), Char.ofNat (nat_lit 101), Char.ofNat (nat_lit 46), Char.ofNat (nat_lit 95), Char.ofNat (nat_lit 109), Char.ofNat (nat_lit 97), Char.ofNat (nat_lit 107), Char.ofNat (nat_lit 101)])
noncomputable def s70 : Str := ⟨Array.mk [nat_lit 95, nat_lit 95, nat_lit 113, nat_lit 117, nat_lit 97, nat_lit 108, nat_lit 110, nat_lit 97, nat_lit 109, nat_lit 101, nat_lit 95, nat_lit 95]⟩
theorem e70 : Str.ofString "__qualname__" = s70 := @id (Str.ofString "__qualname__" = s70) (PySem.W.Fast.ofString_ofList [Char.ofNat (nat_lit 95), Char.ofNat (nat_lit 95), Char.ofNat (nat_lit 113), Char.ofNat (nat_lit 117), Char.ofNat (nat_lit 97), Char.ofNat (nat_lit 108), Char.ofNat (nat_lit 110), Char.ofNat (nat_lit 97), Char.ofNat (nat_lit 109), Char.ofNat (nat_lit 101), Char.ofNat (nat_lit 95), Char.ofNat (nat_lit 95)])
noncomputable def s71 : Str := ⟨Array.mk [nat_lit 95, nat_lit 95, nat_lit 99, nat_lit 108, nat_lit 97, nat_lit 115, nat_lit 115, nat_lit 95, nat_lit 95]⟩
theorem e71 : Str.ofString "__class__" = s71 := @id (Str.ofString "__class__" = s71) (PySem.W.Fast.ofString_ofList [Char.ofNat (nat_lit 95), Char.ofNat (nat_lit 95), Char.ofNat (nat_lit 99), Char.ofNat (nat_lit 108), Char.ofNat (nat_lit 97), Char.ofNat (nat_lit 115), Char.ofNat (nat_lit 115), Char.ofNat (nat_lit 95), Char.ofNat (nat_lit 95)])
noncomputable def s72 : Str := ⟨Array.mk [nat_lit 107, nat_lit 119, nat_lit 100, nat_lit 115]⟩
theorem e72 : Str.ofString "kwds" = s72 := @id (Str.ofString "kwds" = s72) (PySem.W.Fast.ofString_ofList [Char.ofNat (nat_lit 107), Char.ofNat (nat_lit 119), Char.ofNat (nat_lit 100), Char.ofNat (nat_lit 115)])
noncomputable def s73 : Str := ⟨Array.mk [nat_lit 95, nat_lit 114, nat_lit 101, nat_lit 112, nat_lit 108, nat_lit 97, nat_lit 99, nat_lit 101]⟩
theorem e73 : Str.ofString "_replace" = s73 := @id (Str.ofString "_replace" = s73) (PySem.W.Fast.ofString_ofList [Char.ofNat (nat_lit 95), Char.ofNat (nat_lit 114), Char.ofNat (nat_lit 101), Char.ofNat (nat_lit 112), Char.ofNat (nat_lit 108), Char.ofNat (nat_lit 97), Char.ofNat (nat_lit 99), Char.ofNat (nat_lit 101)])
noncomputable def s74 : Str := ⟨Array.mk [nat_lit 82, nat_lit 97, nat_lit 119, nat_lit 83, nat_lit 104, nat_lit 97, nat_lit 114, nat_lit 101, nat_lit 46, nat_lit 95, nat_lit 114, nat_lit 101, nat_lit 112, nat_lit 108, nat_lit 97, nat_lit 99, nat_lit 101]⟩
theorem e74 : Str.ofString "RawShare._replace" = s74 := @id (Str.ofString "RawShare._replace" = s74) (PySem.W.Fast.ofString_ofList [Char.ofNat (nat_lit 82), Char.ofNat (nat_lit 97), Char.ofNat (nat_lit 119), Char.ofNat (nat_lit 83), Char.ofNat (nat_lit 104), Char.ofNat (nat_lit 97), Char.ofNat (nat_lit 114), Char.ofNat (nat_lit 101), Char.ofNat (nat_lit 46), Char.ofNat (nat_lit 95), Char.ofNat (nat_lit 114), Char.ofNat (nat_lit 101), Char.ofNat (nat_lit 112), Char.ofNat (nat_lit 108), Char.ofNat (nat_lit 97), Char.ofNat (nat_lit 99), Char.ofNat (nat_lit 101)])
noncomputable def s75 : Str := ⟨Array.mk [nat_lit 95, nat_lit 95, nat_lit 114, nat_lit 101, nat_lit 112, nat_lit 114, nat_lit 95, nat_lit 95]⟩
theorem e75 : Str.ofString "__repr__" = s75 := @id (Str.ofString "__repr__" = s75) (PySem.W.Fast.ofString_ofList [Char.ofNat (nat_lit 95), Char.ofNat (nat_lit 95), Char.ofNat (nat_lit 114), Char.ofNat (nat_lit 101), Char.ofNat (nat_lit 112), Char.ofNat (nat_lit 114), Char.ofNat (nat_lit 95), Char.ofNat (nat_lit 95)])
noncomputable def s76 : Str := ⟨Array.mk [nat_lit 82, nat_lit 97, nat_lit 119, nat_lit 83, nat_lit 104, nat_lit 97, nat_lit 114, nat_lit 101, nat_lit 46, nat_lit 95, nat_lit 95, nat_lit 114, nat_lit 101, nat_lit 112, nat_lit 114, nat_lit 95, nat_lit 95]⟩
theorem e76 : Str.ofString "RawShare.__repr__" = s76 := @id (Str.ofString "RawShare.__repr__" = s76) (PySem.W.Fast.ofString_ofList [Char.ofNat (nat_lit 82), Char.ofNat (nat_lit 97), Char.ofNat (nat_lit 119), Char.ofNat (nat_lit 83), Char.ofNat (nat_lit 104), Char.ofNat (nat_lit 97), Char.ofNat (nat_lit 114), Char.ofNat (nat_lit 101), Char.ofNat (nat_lit 46), Char.ofNat (nat_lit 95), Char.ofNat (nat_lit 95), Char.ofNat (nat_lit 114), Char.ofNat (nat_lit 101), Char.ofNat (nat_lit 112), Char.ofNat (nat_lit 114), Char.ofNat (nat_lit 95), Char.ofNat (nat_lit 95)])
noncomputable def s77 : Str := ⟨Array.mk [nat_lit 95, nat_lit 97, nat_lit 115, nat_lit 100, nat_lit 105, nat_lit 99, nat_lit 116]⟩
theorem e77 : Str.ofString "_asdict" = s77 := @id (Str.ofString "_asdict" = s77) (PySem.W.Fast.ofString_ofList [Char.ofNat (nat_lit 95), Char.ofNat (nat_lit 97), Char.ofNat (nat_lit 115), Char.ofNat (nat_lit 100), Char.ofNat (nat_lit 105), Char.ofNat (nat_lit 99), Char.ofNat (nat_lit 116)])
noncomputable def s78 : Str := ⟨Array.mk [nat_lit 82, nat_lit 97, nat_lit 119, nat_lit 83, nat_lit 104, nat_lit 97, nat_lit 114, nat_lit 101, nat_lit 46, nat_lit 95, nat_lit 97, nat_lit 115, nat_lit 100, nat_lit 105, nat_lit 99, nat_lit 116]⟩
theorem e78 : Str.ofString "RawShare._asdict" = s78 := @id (Str.ofString "RawShare._asdict" = s78) (PySem.W.Fast.ofString_ofList [Char.ofNat (nat_lit 82), Char.ofNat (nat_lit 97), Char.ofNat (nat_lit 119), Char.ofNat (nat_lit 83), Char.ofNat (nat_lit 104), Char.ofNat (nat_lit 97), Char.ofNat (nat_lit 114), Char.ofNat (nat_lit 101), Char.ofNat (nat_lit 46), Char.ofNat (nat_lit 95), Char.ofNat (nat_lit 97), Char.ofNat (nat_lit 115), Char.ofNat (nat_lit 100), Char.ofNat (nat_lit 105), Char.ofNat (nat_lit 99), Char.ofNat (nat_lit 116)])
noncomputable def s79 : Str := ⟨Array.mk [nat_lit 95, nat_lit 95, nat_lit 103, nat_lit 101, nat_lit 116, nat_lit 110, nat_lit 101, nat_lit 119, nat_lit 97, nat_lit 114, nat_lit 103, nat_lit 115, nat_lit 95, nat_lit 95]⟩
theorem e79 : Str.ofString "__getnewargs__" = s79 := @id (Str.ofString "__getnewargs__" = s79) (PySem.W.Fast.ofString_ofList [Char.ofNat (nat_lit 95), Char.ofNat (nat_lit 95), Char.ofNat (nat_lit 103), Char.ofNat (nat_lit 101), Char.ofNat (nat_lit 116), Char.ofNat (nat_lit 110), Char.ofNat (nat_lit 101), Char.ofNat (nat_lit 119), Char.ofNat (nat_lit 97), Char.ofNat (nat_lit 114), Char.ofNat (nat_lit 103), Char.ofNat (nat_lit 115), Char.ofNat (nat_lit 95), Char.ofNat (nat_lit 95)])
noncomputable def s80 : Str := ⟨Array.mk [nat_lit 82, nat_lit 97, nat_lit 119, nat_lit 83, nat_lit 104, nat_lit 97, nat_lit 114, nat_lit 101, nat_lit 46, nat_lit 95, nat_lit 95, nat_lit 103, nat_lit 101, nat_lit 116, nat_lit 110, nat_lit 101, nat_lit 119, nat_lit 97, nat_lit 114, nat_lit 103, nat_lit 115, nat_lit 95, nat_lit 95]⟩
theorem e80 : Str.ofString "RawShare.__getnewargs__" = s80 := @id (Str.ofString "RawShare.__getnewargs__" = s80) (PySem.W.Fast.ofString_ofList [Char.ofNat (nat_lit 82), Char.ofNat (nat_lit 97), Char.ofNat (nat_lit 119), Char.ofNat (nat_lit 83), Char.ofNat (nat_lit 104), Char.ofNat (nat_lit 97), Char.ofNat (nat_lit 114), Char.ofNat (nat_lit 101), Char.ofNat (nat_lit 46), Char.ofNat (nat_lit 95), Char.ofNat (nat_lit 95), Char.ofNat (nat_lit 103), Char.ofNat (nat_lit 101), Char.ofNat (nat_lit 116), Char.ofNat (nat_lit 110), Char.ofNat (nat_lit 101), Char.ofNat (nat_lit 119), Char.ofNat (nat_lit 97), Char.ofNat (nat_lit 114), Char.ofNat (nat_lit 103), Char.ofNat (nat_lit 115), Char.ofNat (nat_lit 95), Char.ofNat (nat_lit 95)])
noncomputable def s81 : Str := ⟨Array.mk [nat_lit 65, nat_lit 108, nat_lit 105, nat_lit 97, nat_lit 115, nat_lit 32, nat_lit 102, nat_lit 111, nat_lit 114, nat_lit 32, nat_lit 102, nat_lit 105, nat_lit 101, nat_lit 108, nat_lit 100, nat_lit 32, nat_lit 110, nat_lit 117, nat_lit 109, nat_lit 98, nat_lit 101, nat_lit 114, nat_lit 32, nat_lit 48]⟩
theorem e81 : Str.ofString "Alias for field number 0" = s81 := @id (Str.ofString "Alias for field number 0" = s81) (PySem.W.Fast.ofString_ofList [Char.ofNat (nat_lit 65), Char.ofNat (nat_lit 108), Char.ofNat (nat_lit 105), Char.ofNat (nat_lit 97), Char.ofNat (nat_lit 115), Char.ofNat (nat_lit 32), Char.ofNat (nat_lit 102), Char.ofNat (nat_lit 111), Char.ofNat (nat_lit 114), Char.ofNat (nat_lit 32), Char.ofNat (nat_lit 102), Char.ofNat (nat_lit 105), Char.ofNat (nat_lit 101), Char.ofNat (nat_lit 108), Char.ofNat (nat_lit 100), Char.ofNat (nat_lit 32), Char.ofNat (nat_lit 110), Char.ofNat (nat_lit 117), Char.ofNat (nat_lit 109), Char.ofNat (nat_lit 98), Char.ofNat (nat_lit 101), Char.ofNat (nat_lit 114), Char.ofNat (nat_lit 32), Char.ofNat (nat_lit 48)])
noncomputable def s82 : Str := ⟨Array.mk [nat_lit 65, nat_lit 108, nat_lit 105, nat_lit 97, nat_lit 115, nat_lit 32, nat_lit 102, nat_lit 111, nat_lit 114, nat_lit 32, nat_lit 102, nat_lit 105, nat_lit 101, nat_lit 108, nat_lit 100, nat_lit 32, nat_lit 110, nat_lit 117, nat_lit 109, nat_lit 98, nat_lit 101, nat_lit 114, nat_lit 32, nat_lit 49]⟩
theorem e82 : Str.ofString "Alias for field number 1" = s82 := @id (Str.ofString "Alias for field number 1" = s82) (PySem.W.Fast.ofString_ofList [Char.ofNat (nat_lit 65), Char.ofNat (nat_lit 108), Char.ofNat (nat_lit 105), Char.ofNat (nat_lit 97), Char.ofNat (nat_lit 115), Char.ofNat (nat_lit 32), Char.ofNat (nat_lit 102), Char.ofNat (nat_lit 111), Char.ofNat (nat_lit 114), Char.ofNat (nat_lit 32), Char.ofNat (nat_lit 102), Char.ofNat (nat_lit 105), Char.ofNat (nat_lit 101), Char.ofNat (nat_lit 108), Char.ofNat (nat_lit 100), Char.ofNat (nat_lit 32), Char.ofNat (nat_lit 110), Char.ofNat (nat_lit 117), Char.ofNat (nat_lit 109), Char.ofNat (nat_lit 98), Char.ofNat (nat_lit 101), Char.ofNat (nat_lit 114), Char.ofNat (nat_lit 32), Char.ofNat (nat_lit 49)])
noncomputable def s83 : Str := ⟨Array.mk [nat_lit 95, nat_lit 95, nat_lit 115, nat_lit 108, nat_lit 111, nat_lit 116, nat_lit 115, nat_lit 95, nat_lit 95]⟩
theorem e83 : Str.ofString "__slots__" = s83 := @id (Str.ofString "__slots__" = s83) (PySem.W.Fast.ofString_ofList [Char.ofNat (nat_lit 95), Char.ofNat (nat_lit 95), Char.ofNat (nat_lit 115), Char.ofNat (nat_lit 108), Char.ofNat (nat_lit 111), Char.ofNat (nat_lit 116), Char.ofNat (nat_lit 115), Char.ofNat (nat_lit 95), Char.ofNat (nat_lit 95)])
noncomputable def s84 : Str := ⟨Array.mk [nat_lit 95, nat_lit 102, nat_lit 105, nat_lit 101, nat_lit 108, nat_lit 100, nat_lit 115]⟩
theorem e84 : Str.ofString "_fields" = s84 := @id (Str.ofString "_fields" = s84) (PySem.W.Fast.ofString_ofList [Char.ofNat (nat_lit 95), Char.ofNat (nat_lit 102), Char.ofNat (nat_lit 105), Char.ofNat (nat_lit 101), Char.ofNat (nat_lit 108), Char.ofNat (nat_lit 100), Char.ofNat (nat_lit 115)])
noncomputable def s85 : Str := ⟨Array.mk [nat_lit 95, nat_lit 102, nat_lit 105, nat_lit 101, nat_lit 108, nat_lit 100, nat_lit 95, nat_lit 100, nat_lit 101, nat_lit 102, nat_lit 97, nat_lit 117, nat_lit 108, nat_lit 116, nat_lit 115]⟩
theorem e85 : Str.ofString "_field_defaults" = s85 := @id (Str.ofString "_field_defaults" = s85) (PySem.W.Fast.ofString_ofList [Char.ofNat (nat_lit 95), Char.ofNat (nat_lit 102), Char.ofNat (nat_lit 105), Char.ofNat (nat_lit 101), Char.ofNat (nat_lit 108), Char.ofNat (nat_lit 100), Char.ofNat (nat_lit 95), Char.ofNat (nat_lit 100), Char.ofNat (nat_lit 101), Char.ofNat (nat_lit 102), Char.ofNat (nat_lit 97), Char.ofNat (nat_lit 117), Char.ofNat (nat_lit 108), Char.ofNat (nat_lit 116), Char.ofNat (nat_lit 115)])
noncomputable def s86 : Str := ⟨Array.mk [nat_lit 95, nat_lit 95, nat_lit 114, nat_lit 101, nat_lit 112, nat_lit 108, nat_lit 97, nat_lit 99, nat_lit 101, nat_lit 95, nat_lit 95]⟩
theorem e86 : Str.ofString "__replace__" = s86 := @id (Str.ofString "__replace__" = s86) (PySem.W.Fast.ofString_ofList [Char.ofNat (nat_lit 95), Char.ofNat (nat_lit 95), Char.ofNat (nat_lit 114), Char.ofNat (nat_lit 101), Char.ofNat (nat_lit 112), Char.ofNat (nat_lit 108), Char.ofNat (nat_lit 97), Char.ofNat (nat_lit 99), Char.ofNat (nat_lit 101), Char.ofNat (nat_lit 95), Char.ofNat (nat_lit 95)])
noncomputable def s87 : Str := ⟨Array.mk [nat_lit 95, nat_lit 95, nat_lit 109, nat_lit 97, nat_lit 116, nat_lit 99, nat_lit 104, nat_lit 95, nat_lit 97, nat_lit 114, nat_lit 103, nat_lit 115, nat_lit 95, nat_lit 95]⟩
theorem e87 : Str.ofString "__match_args__" = s87 := @id (Str.ofString "__match_args__" = s87) (PySem.W.Fast.ofString_ofList [Char.ofNat (nat_lit 95), Char.ofNat (nat_lit 95), Char.ofNat (nat_lit 109), Char.ofNat (nat_lit 97), Char.ofNat (nat_lit 116), Char.ofNat (nat_lit 99), Char.ofNat (nat_lit 104), Char.ofNat (nat_lit 95), Char.ofNat (nat_lit 97), Char.ofNat (nat_lit 114), Char.ofNat (nat_lit 103), Char.ofNat (nat_lit 115), Char.ofNat (nat_lit 95), Char.ofNat (nat_lit 95)])
noncomputable def s88 : Str := ⟨Array.mk [nat_lit 115, nat_lit 104, nat_lit 97, nat_lit 114, nat_lit 101, nat_lit 115]⟩
theorem e88 : Str.ofString "shares" = s88 := @id (Str.ofString "shares" = s88) (PySem.W.Fast.ofString_ofList [Char.ofNat (nat_lit 115), Char.ofNat (nat_lit 104), Char.ofNat (nat_lit 97), Char.ofNat (nat_lit 114), Char.ofNat (nat_lit 101), Char.ofNat (nat_lit 115)])
noncomputable def s89 : Str := ⟨Array.mk [nat_lit 120, nat_lit 95, nat_lit 99, nat_lit 111, nat_lit 111, nat_lit 114, nat_lit 100, nat_lit 105, nat_lit 110, nat_lit 97, nat_lit 116, nat_lit 101, nat_lit 115]⟩
theorem e89 : Str.ofString "x_coordinates" = s89 := @id (Str.ofString "x_coordinates" = s89) (PySem.W.Fast.ofString_ofList [Char.ofNat (nat_lit 120), Char.ofNat (nat_lit 95), Char.ofNat (nat_lit 99), Char.ofNat (nat_lit 111), Char.ofNat (nat_lit 111), Char.ofNat (nat_lit 114), Char.ofNat (nat_lit 100), Char.ofNat (nat_lit 105), Char.ofNat (nat_lit 110), Char.ofNat (nat_lit 97), Char.ofNat (nat_lit 116), Char.ofNat (nat_lit 101), Char.ofNat (nat_lit 115)])
noncomputable def s90 : Str := ⟨Array.mk [nat_lit 115, nat_lit 104, nat_lit 97, nat_lit 114, nat_lit 101, nat_lit 95, nat_lit 118, nat_lit 97, nat_lit 108, nat_lit 117, nat_lit 101, nat_lit 95, nat_lit 108, nat_lit 101, nat_lit 110, nat_lit 103, nat_lit 116, nat_lit 104, nat_lit 115]⟩
theorem e90 : Str.ofString "share_value_lengths" = s90 := @id (Str.ofString "share_value_lengths" = s90) (PySem.W.Fast.ofString_ofList [Char.ofNat (nat_lit 115), Char.ofNat (nat_lit 104), Char.ofNat (nat_lit 97), Char.ofNat (nat_lit 114), Char.ofNat (nat_lit 101), Char.ofNat (nat_lit 95), Char.ofNat (nat_lit 118), Char.ofNat (nat_lit 97), Char.ofNat (nat_lit 108), Char.ofNat (nat_lit 117), Char.ofNat (nat_lit 101), Char.ofNat (nat_lit 95), Char.ofNat (nat_lit 108), Char.ofNat (nat_lit 101), Char.ofNat (nat_lit 110), Char.ofNat (nat_lit 103), Char.ofNat (nat_lit 116), Char.ofNat (nat_lit 104), Char.ofNat (nat_lit 115)])
noncomputable def s91 : Str := ⟨Array.mk [nat_lit 108, nat_lit 111, nat_lit 103, nat_lit 95, nat_lit 112, nat_lit 114, nat_lit 111, nat_lit 100]⟩
theorem e91 : Str.ofString "log_prod" = s91 := @id (Str.ofString "log_prod" = s91) (PySem.W.Fast.ofString_ofList [Char.ofNat (nat_lit 108), Char.ofNat (nat_lit 111), Char.ofNat (nat_lit 103), Char.ofNat (nat_lit 95), Char.ofNat (nat_lit 112), Char.ofNat (nat_lit 114), Char.ofNat (nat_lit 111), Char.ofNat (nat_lit 100)])
noncomputable def s92 : Str := ⟨Array.mk [nat_lit 108, nat_lit 111, nat_lit 103, nat_lit 95, nat_lit 98, nat_lit 97, nat_lit 115, nat_lit 105, nat_lit 115, nat_lit 95, nat_lit 101, nat_lit 118, nat_lit 97, nat_lit 108]⟩
theorem e92 : Str.ofString "log_basis_eval" = s92 := @id (Str.ofString "log_basis_eval" = s92) (PySem.W.Fast.ofString_ofList [Char.ofNat (nat_lit 108), Char.ofNat (nat_lit 111), Char.ofNat (nat_lit 103), Char.ofNat (nat_lit 95), Char.ofNat (nat_lit 98), Char.ofNat (nat_lit 97), Char.ofNat (nat_lit 115), Char.ofNat (nat_lit 105), Char.ofNat (nat_lit 115), Char.ofNat (nat_lit 95), Char.ofNat (nat_lit 101), Char.ofNat (nat_lit 118), Char.ofNat (nat_lit 97), Char.ofNat (nat_lit 108)])
noncomputable def s93 : Str := ⟨Array.mk [nat_lit 115, nat_lit 104, nat_lit 97, nat_lit 114, nat_lit 101]⟩
theorem e93 : Str.ofString "share" = s93 := @id (Str.ofString "share" = s93) (PySem.W.Fast.ofString_ofList [Char.ofNat (nat_lit 115), Char.ofNat (nat_lit 104), Char.ofNat (nat_lit 97), Char.ofNat (nat_lit 114), Char.ofNat (nat_lit 101)])
noncomputable def s94 : Str := ⟨Array.mk [nat_lit 114, nat_lit 97, nat_lit 110, nat_lit 100, nat_lit 111, nat_lit 109, nat_lit 95, nat_lit 100, nat_lit 97, nat_lit 116, nat_lit 97]⟩
theorem e94 : Str.ofString "random_data" = s94 := @id (Str.ofString "random_data" = s94) (PySem.W.Fast.ofString_ofList [Char.ofNat (nat_lit 114), Char.ofNat (nat_lit 97), Char.ofNat (nat_lit 110), Char.ofNat (nat_lit 100), Char.ofNat (nat_lit 111), Char.ofNat (nat_lit 109), Char.ofNat (nat_lit 95), Char.ofNat (nat_lit 100), Char.ofNat (nat_lit 97), Char.ofNat (nat_lit 116), Char.ofNat (nat_lit 97)])
noncomputable def s95 : Str := ⟨Array.mk [nat_lit 115, nat_lit 104, nat_lit 97, nat_lit 114, nat_lit 101, nat_lit 100, nat_lit 95, nat_lit 115, nat_lit 101, nat_lit 99, nat_lit 114, nat_lit 101, nat_lit 116]⟩
theorem e95 : Str.ofString "shared_secret" = s95 := @id (Str.ofString "shared_secret" = s95) (PySem.W.Fast.ofString_ofList [Char.ofNat (nat_lit 115), Char.ofNat (nat_lit 104), Char.ofNat (nat_lit 97), Char.ofNat (nat_lit 114), Char.ofNat (nat_lit 101), Char.ofNat (nat_lit 100), Char.ofNat (nat_lit 95), Char.ofNat (nat_lit 115), Char.ofNat (nat_lit 101), Char.ofNat (nat_lit 99), Char.ofNat (nat_lit 114), Char.ofNat (nat_lit 101), Char.ofNat (nat_lit 116)])
noncomputable def s96 : Str := ⟨Array.mk [nat_lit 104, nat_lit 109, nat_lit 97, nat_lit 99, nat_lit 95, nat_lit 115, nat_lit 104, nat_lit 97, nat_lit 50, nat_lit 53, nat_lit 54]⟩
theorem e96 : Str.ofString "hmac_sha256" = s96 := @id (Str.ofString "hmac_sha256" = s96) (PySem.W.Fast.ofString_ofList [Char.ofNat (nat_lit 104), Char.ofNat (nat_lit 109), Char.ofNat (nat_lit 97), Char.ofNat (nat_lit 99), Char.ofNat (nat_lit 95), Char.ofNat (nat_lit 115), Char.ofNat (nat_lit 104), Char.ofNat (nat_lit 97), Char.ofNat (nat_lit 50), Char.ofNat (nat_lit 53), Char.ofNat (nat_lit 54)])
noncomputable def s97 : Str := ⟨Array.mk [nat_lit 116, nat_lit 104, nat_lit 114, nat_lit 101, nat_lit 115, nat_lit 104, nat_lit 111, nat_lit 108, nat_lit 100]⟩
theorem e97 : Str.ofString "threshold" = s97 := @id (Str.ofString "threshold" = s97) (PySem.W.Fast.ofString_ofList [Char.ofNat (nat_lit 116), Char.ofNat (nat_lit 104), Char.ofNat (nat_lit 114), Char.ofNat (nat_lit 101), Char.ofNat (nat_lit 115), Char.ofNat (nat_lit 104), Char.ofNat (nat_lit 111), Char.ofNat (nat_lit 108), Char.ofNat (nat_lit 100)])
noncomputable def s98 : Str := ⟨Array.mk [nat_lit 100, nat_lit 105, nat_lit 103, nat_lit 101, nat_lit 115, nat_lit 116, nat_lit 95, nat_lit 115, nat_lit 104, nat_lit 97, nat_lit 114, nat_lit 101]⟩
theorem e98 : Str.ofString "digest_share" = s98 := @id (Str.ofString "digest_share" = s98) (PySem.W.Fast.ofString_ofList [Char.ofNat (nat_lit 100), Char.ofNat (nat_lit 105), Char.ofNat (nat_lit 103), Char.ofNat (nat_lit 101), Char.ofNat (nat_lit 115), Char.ofNat (nat_lit 116), Char.ofNat (nat_lit 95), Char.ofNat (nat_lit 115), Char.ofNat (nat_lit 104), Char.ofNat (nat_lit 97), Char.ofNat (nat_lit 114), Char.ofNat (nat_lit 101)])
noncomputable def s99 : Str := ⟨Array.mk [nat_lit 100, nat_lit 105, nat_lit 103, nat_lit 101, nat_lit 115, nat_lit 116]⟩
theorem e99 : Str.ofString "digest" = s99 := @id (Str.ofString "digest" = s99) (PySem.W.Fast.ofString_ofList [Char.ofNat (nat_lit 100), Char.ofNat (nat_lit 105), Char.ofNat (nat_lit 103), Char.ofNat (nat_lit 101), Char.ofNat (nat_lit 115), Char.ofNat (nat_lit 116)])
noncomputable def s100 : Str := ⟨Array.mk [nat_lit 114, nat_lit 97, nat_lit 110, nat_lit 100, nat_lit 111, nat_lit 109, nat_lit 95, nat_lit 112, nat_lit 97, nat_lit 114, nat_lit 116]⟩
theorem e100 : Str.ofString "random_part" = s100 := @id (Str.ofString "random_part" = s100) (PySem.W.Fast.ofString_ofList [Char.ofNat (nat_lit 114), Char.ofNat (nat_lit 97), Char.ofNat (nat_lit 110), Char.ofNat (nat_lit 100), Char.ofNat (nat_lit 111), Char.ofNat (nat_lit 109), Char.ofNat (nat_lit 95), Char.ofNat (nat_lit 112), Char.ofNat (nat_lit 97), Char.ofNat (nat_lit 114), Char.ofNat (nat_lit 116)])
noncomputable def s101 : Str := ⟨Array.mk [nat_lit 115, nat_lit 99, nat_lit 114, nat_lit 105, nat_lit 112, nat_lit 116]⟩
theorem e101 : Str.ofString "script" = s101 := @id (Str.ofString "script" = s101) (PySem.W.Fast.ofString_ofList [Char.ofNat (nat_lit 115), Char.ofNat (nat_lit 99), Char.ofNat (nat_lit 114), Char.ofNat (nat_lit 105), Char.ofNat (nat_lit 112), Char.ofNat (nat_lit 116)])
noncomputable def s102 : Str := ⟨Array.mk [nat_lit 112, nat_lit 108, nat_lit 97, nat_lit 99, nat_lit 101]⟩
theorem e102 : Str.ofString "place" = s102 := @id (Str.ofString "place" = s102) (PySem.W.Fast.ofString_ofList [Char.ofNat (nat_lit 112), Char.ofNat (nat_lit 108), Char.ofNat (nat_lit 97), Char.ofNat (nat_lit 99), Char.ofNat (nat_lit 101)])
noncomputable def s103 : Str := ⟨Array.mk [nat_lit 110, nat_lit 117, nat_lit 109, nat_lit 98, nat_lit 101, nat_lit 114]⟩
theorem e103 : Str.ofString "number" = s103 := @id (Str.ofString "number" = s103) (PySem.W.Fast.ofString_ofList [Char.ofNat (nat_lit 110), Char.ofNat (nat_lit 117), Char.ofNat (nat_lit 109), Char.ofNat (nat_lit 98), Char.ofNat (nat_lit 101), Char.ofNat (nat_lit 114)])
noncomputable def s104 : Str := ⟨Array.mk [nat_lit 115, nat_lit 105, nat_lit 122, nat_lit 101]⟩
theorem e104 : Str.ofString "size" = s104 := @id (Str.ofString "size" = s104) (PySem.W.Fast.ofString_ofList [Char.ofNat (nat_lit 115), Char.ofNat (nat_lit 105), Char.ofNat (nat_lit 122), Char.ofNat (nat_lit 101)])
noncomputable def s105 : Str := ⟨Array.mk [nat_lit 108, nat_lit 97, nat_lit 110, nat_lit 101, nat_lit 115]⟩
theorem e105 : Str.ofString "lanes" = s105 := @id (Str.ofString "lanes" = s105) (PySem.W.Fast.ofString_ofList [Char.ofNat (nat_lit 108), Char.ofNat (nat_lit 97), Char.ofNat (nat_lit 110), Char.ofNat (nat_lit 101), Char.ofNat (nat_lit 115)])
noncomputable def s106 : Str := ⟨Array.mk [nat_lit 102, nat_lit 97, nat_lit 99, nat_lit 116, nat_lit 111, nat_lit 114]⟩
theorem e106 : Str.ofString "factor" = s106 := @id (Str.ofString "factor" = s106) (PySem.W.Fast.ofString_ofList [Char.ofNat (nat_lit 102), Char.ofNat (nat_lit 97), Char.ofNat (nat_lit 99), Char.ofNat (nat_lit 116), Char.ofNat (nat_lit 111), Char.ofNat (nat_lit 114)])
noncomputable def s107 : Str := ⟨Array.mk [nat_lit 116, nat_lit 111, nat_lit 116, nat_lit 97, nat_lit 108]⟩
theorem e107 : Str.ofString "total" = s107 := @id (Str.ofString "total" = s107) (PySem.W.Fast.ofString_ofList [Char.ofNat (nat_lit 116), Char.ofNat (nat_lit 111), Char.ofNat (nat_lit 116), Char.ofNat (nat_lit 97), Char.ofNat (nat_lit 108)])
noncomputable def s108 : Str := ⟨Array.mk [nat_lit 116, nat_lit 111, nat_lit 112, nat_lit 115]⟩
theorem e108 : Str.ofString "tops" = s108 := @id (Str.ofString "tops" = s108) (PySem.W.Fast.ofString_ofList [Char.ofNat (nat_lit 116), Char.ofNat (nat_lit 111), Char.ofNat (nat_lit 112), Char.ofNat (nat_lit 115)])
noncomputable def s109 : Str := ⟨Array.mk [nat_lit 111, nat_lit 99, nat_lit 116, nat_lit 101, nat_lit 116]⟩
theorem e109 : Str.ofString "octet" = s109 := @id (Str.ofString "octet" = s109) (PySem.W.Fast.ofString_ofList [Char.ofNat (nat_lit 111), Char.ofNat (nat_lit 99), Char.ofNat (nat_lit 116), Char.ofNat (nat_lit 101), Char.ofNat (nat_lit 116)])
noncomputable def s110 : Str := ⟨Array.mk [nat_lit 95]⟩
theorem e110 : Str.ofString "_" = s110 := @id (Str.ofString "_" = s110) (PySem.W.Fast.ofString_ofList [Char.ofNat (nat_lit 95)])
noncomputable def s111 : Str := ⟨Array.mk [nat_lit 112, nat_lit 108, nat_lit 97, nat_lit 99, nat_lit 101, nat_lit 115]⟩
theorem e111 : Str.ofString "places" = s111 := @id (Str.ofString "places" = s111) (PySem.W.Fast.ofString_ofList [Char.ofNat (nat_lit 112), Char.ofNat (nat_lit 108), Char.ofNat (nat_lit 97), Char.ofNat (nat_lit 99), Char.ofNat (nat_lit 101), Char.ofNat (nat_lit 115)])
noncomputable def s112 : Str := ⟨Array.mk [nat_lit 60, nat_lit 109, nat_lit 111, nat_lit 100, nat_lit 117, nat_lit 108, nat_lit 101, nat_lit 62]⟩
theorem e112 : Str.ofString "<module>" = s112 := @id (Str.ofString "<module>" = s112) (PySem.W.Fast.ofString_ofList [Char.ofNat (nat_lit 60), Char.ofNat (nat_lit 109), Char.ofNat (nat_lit 111), Char.ofNat (nat_lit 100), Char.ofNat (nat_lit 117), Char.ofNat (nat_lit 108), Char.ofNat (nat_lit 101), Char.ofNat (nat_lit 62)])
noncomputable def s113 : Str := ⟨Array.mk [nat_lit 95, nat_lit 95, nat_lit 99, nat_lit 108, nat_lit 97, nat_lit 115, nat_lit 115, nat_lit 99, nat_lit 101, nat_lit 108, nat_lit 108, nat_lit 95, nat_lit 95]⟩
theorem e113 : Str.ofString "__classcell__" = s113 := @id (Str.ofString "__classcell__" = s113) (PySem.W.Fast.ofString_ofList [Char.ofNat (nat_lit 95), Char.ofNat (nat_lit 95), Char.ofNat (nat_lit 99), Char.ofNat (nat_lit 108), Char.ofNat (nat_lit 97), Char.ofNat (nat_lit 115), Char.ofNat (nat_lit 115), Char.ofNat (nat_lit 99), Char.ofNat (nat_lit 101), Char.ofNat (nat_lit 108), Char.ofNat (nat_lit 108), Char.ofNat (nat_lit 95), Char.ofNat (nat_lit 95)])
noncomputable def s114 : Str := ⟨Array.mk [nat_lit 69, nat_lit 120, nat_lit 99, nat_lit 101, nat_lit 112, nat_lit 116, nat_lit 105, nat_lit 111, nat_lit 110]⟩
theorem e114 : Str.ofString "Exception" = s114 := @id (Str.ofString "Exception" = s114) (PySem.W.Fast.ofString_ofList [Char.ofNat (nat_lit 69), Char.ofNat (nat_lit 120), Char.ofNat (nat_lit 99), Char.ofNat (nat_lit 101), Char.ofNat (nat_lit 112), Char.ofNat (nat_lit 116), Char.ofNat (nat_lit 105), Char.ofNat (nat_lit 111), Char.ofNat (nat_lit 110)])
noncomputable def s115 : Str := ⟨Array.mk [nat_lit 105, nat_lit 115, nat_lit 115, nat_lit 117, nat_lit 98, nat_lit 99, nat_lit 108, nat_lit 97, nat_lit 115, nat_lit 115]⟩
theorem e115 : Str.ofString "issubclass" = s115 := @id (Str.ofString "issubclass" = s115) (PySem.W.Fast.ofString_ofList [Char.ofNat (nat_lit 105), Char.ofNat (nat_lit 115), Char.ofNat (nat_lit 115), Char.ofNat (nat_lit 117), Char.ofNat (nat_lit 98), Char.ofNat (nat_lit 99), Char.ofNat (nat_lit 108), Char.ofNat (nat_lit 97), Char.ofNat (nat_lit 115), Char.ofNat (nat_lit 115)])
noncomputable def s116 : Str := ⟨Array.mk [nat_lit 116, nat_lit 121, nat_lit 112, nat_lit 101]⟩
theorem e116 : Str.ofString "type" = s116 := @id (Str.ofString "type" = s116) (PySem.W.Fast.ofString_ofList [Char.ofNat (nat_lit 116), Char.ofNat (nat_lit 121), Char.ofNat (nat_lit 112), Char.ofNat (nat_lit 101)])
noncomputable def s117 : Str := ⟨Array.mk [nat_lit 116, nat_lit 117, nat_lit 112, nat_lit 108, nat_lit 101]⟩
theorem e117 : Str.ofString "tuple" = s117 := @id (Str.ofString "tuple" = s117) (PySem.W.Fast.ofString_ofList [Char.ofNat (nat_lit 116), Char.ofNat (nat_lit 117), Char.ofNat (nat_lit 112), Char.ofNat (nat_lit 108), Char.ofNat (nat_lit 101)])
noncomputable def s118 : Str := ⟨Array.mk [nat_lit 95, nat_lit 95, nat_lit 103, nat_lit 101, nat_lit 116, nat_lit 105, nat_lit 116, nat_lit 101, nat_lit 109, nat_lit 95, nat_lit 95]⟩
theorem e118 : Str.ofString "__getitem__" = s118 := @id (Str.ofString "__getitem__" = s118) (PySem.W.Fast.ofString_ofList [Char.ofNat (nat_lit 95), Char.ofNat (nat_lit 95), Char.ofNat (nat_lit 103), Char.ofNat (nat_lit 101), Char.ofNat (nat_lit 116), Char.ofNat (nat_lit 105), Char.ofNat (nat_lit 116), Char.ofNat (nat_lit 101), Char.ofNat (nat_lit 109), Char.ofNat (nat_lit 95), Char.ofNat (nat_lit 95)])
noncomputable def s119 : Str := ⟨Array.mk [nat_lit 65, nat_lit 116, nat_lit 116, nat_lit 114, nat_lit 105, nat_lit 98, nat_lit 117, nat_lit 116, nat_lit 101, nat_lit 69, nat_lit 114, nat_lit 114, nat_lit 111, nat_lit 114]⟩
theorem e119 : Str.ofString "AttributeError" = s119 := @id (Str.ofString "AttributeError" = s119) (PySem.W.Fast.ofString_ofList [Char.ofNat (nat_lit 65), Char.ofNat (nat_lit 116), Char.ofNat (nat_lit 116), Char.ofNat (nat_lit 114), Char.ofNat (nat_lit 105), Char.ofNat (nat_lit 98), Char.ofNat (nat_lit 117), Char.ofNat (nat_lit 116), Char.ofNat (nat_lit 101), Char.ofNat (nat_lit 69), Char.ofNat (nat_lit 114), Char.ofNat (nat_lit 114), Char.ofNat (nat_lit 111), Char.ofNat (nat_lit 114)])
noncomputable def s120 : Str := ⟨Array.mk [nat_lit 99, nat_lit 97, nat_lit 110, nat_lit 39, nat_lit 116, nat_lit 32, nat_lit 115, nat_lit 101, nat_lit 116, nat_lit 32, nat_lit 97, nat_lit 116, nat_lit 116, nat_lit 114, nat_lit 105, nat_lit 98, nat_lit 117, nat_lit 116, nat_lit 101]⟩
theorem e120 : Str.ofString "can't set attribute" = s120 := @id (Str.ofString "can't set attribute" = s120) (PySem.W.Fast.ofString_ofList [Char.ofNat (nat_lit 99), Char.ofNat (nat_lit 97), Char.ofNat (nat_lit 110), Char.ofNat (nat_lit 39), Char.ofNat (nat_lit 116), Char.ofNat (nat_lit 32), Char.ofNat (nat_lit 115), Char.ofNat (nat_lit 101), Char.ofNat (nat_lit 116), Char.ofNat (nat_lit 32), Char.ofNat (nat_lit 97), Char.ofNat (nat_lit 116), Char.ofNat (nat_lit 116), Char.ofNat (nat_lit 114), Char.ofNat (nat_lit 105), Char.ofNat (nat_lit 98), Char.ofNat (nat_lit 117), Char.ofNat (nat_lit 116), Char.ofNat (nat_lit 101)])
noncomputable def s121 : Str := ⟨Array.mk [nat_lit 99, nat_lit 97, nat_lit 110, nat_lit 39, nat_lit 116, nat_lit 32, nat_lit 100, nat_lit 101, nat_lit 108, nat_lit 101, nat_lit 116, nat_lit 101, nat_lit 32, nat_lit 97, nat_lit 116, nat_lit 116, nat_lit 114, nat_lit 105, nat_lit 98, nat_lit 117, nat_lit 116, nat_lit 101]⟩
theorem e121 : Str.ofString "can't delete attribute" = s121 := @id (Str.ofString "can't delete attribute" = s121) (PySem.W.Fast.ofString_ofList [Char.ofNat (nat_lit 99), Char.ofNat (nat_lit 97), Char.ofNat (nat_lit 110), Char.ofNat (nat_lit 39), Char.ofNat (nat_lit 116), Char.ofNat (nat_lit 32), Char.ofNat (nat_lit 100), Char.ofNat (nat_lit 101), Char.ofNat (nat_lit 108), Char.ofNat (nat_lit 101), Char.ofNat (nat_lit 116), Char.ofNat (nat_lit 101), Char.ofNat (nat_lit 32), Char.ofNat (nat_lit 97), Char.ofNat (nat_lit 116), Char.ofNat (nat_lit 116), Char.ofNat (nat_lit 114), Char.ofNat (nat_lit 105), Char.ofNat (nat_lit 98), Char.ofNat (nat_lit 117), Char.ofNat (nat_lit 116), Char.ofNat (nat_lit 101)])
noncomputable def s122 : Str := ⟨Array.mk [nat_lit 108, nat_lit 101, nat_lit 110]⟩
theorem e122 : Str.ofString "len" = s122 := @id (Str.ofString "len" = s122) (PySem.W.Fast.ofString_ofList [Char.ofNat (nat_lit 108), Char.ofNat (nat_lit 101), Char.ofNat (nat_lit 110)])
noncomputable def s123 : Str := ⟨Array.mk [nat_lit 84, nat_lit 121, nat_lit 112, nat_lit 101, nat_lit 69, nat_lit 114, nat_lit 114, nat_lit 111, nat_lit 114]⟩
theorem e123 : Str.ofString "TypeError" = s123 := @id (Str.ofString "TypeError" = s123) (PySem.W.Fast.ofString_ofList [Char.ofNat (nat_lit 84), Char.ofNat (nat_lit 121), Char.ofNat (nat_lit 112), Char.ofNat (nat_lit 101), Char.ofNat (nat_lit 69), Char.ofNat (nat_lit 114), Char.ofNat (nat_lit 114), Char.ofNat (nat_lit 111), Char.ofNat (nat_lit 114)])
noncomputable def s124 : Str := ⟨Array.mk [nat_lit 69, nat_lit 120, nat_lit 112, nat_lit 101, nat_lit 99, nat_lit 116, nat_lit 101, nat_lit 100, nat_lit 32, nat_lit 50, nat_lit 32, nat_lit 97, nat_lit 114, nat_lit 103, nat_lit 117, nat_lit 109, nat_lit 101, nat_lit 110, nat_lit 116, nat_lit 115, nat_lit 44, nat_lit 32, nat_lit 103, nat_lit 111, nat_lit 116, nat_lit 32]⟩
theorem e124 : Str.ofString "Expected 2 arguments, got " = s124 := @id (Str.ofString "Expected 2 arguments, got " = s124) (PySem.W.Fast.ofString_ofList [Char.ofNat (nat_lit 69), Char.ofNat (nat_lit 120), Char.ofNat (nat_lit 112), Char.ofNat (nat_lit 101), Char.ofNat (nat_lit 99), Char.ofNat (nat_lit 116), Char.ofNat (nat_lit 101), Char.ofNat (nat_lit 100), Char.ofNat (nat_lit 32), Char.ofNat (nat_lit 50), Char.ofNat (nat_lit 32), Char.ofNat (nat_lit 97), Char.ofNat (nat_lit 114), Char.ofNat (nat_lit 103), Char.ofNat (nat_lit 117), Char.ofNat (nat_lit 109), Char.ofNat (nat_lit 101), Char.ofNat (nat_lit 110), Char.ofNat (nat_lit 116), Char.ofNat (nat_lit 115), Char.ofNat (nat_lit 44), Char.ofNat (nat_lit 32), Char.ofNat (nat_lit 103), Char.ofNat (nat_lit 111), Char.ofNat (nat_lit 116), Char.ofNat (nat_lit 32)])
noncomputable def s125 : Str := ⟨Array.mk [nat_lit 99, nat_lit 108, nat_lit 97, nat_lit 115, nat_lit 115, nat_lit 109, nat_lit 101, nat_lit 116, nat_lit 104, nat_lit 111, nat_lit 100]⟩
theorem e125 : Str.ofString "classmethod" = s125 := @id (Str.ofString "classmethod" = s125) (PySem.W.Fast.ofString_ofList [Char.ofNat (nat_lit 99), Char.ofNat (nat_lit 108), Char.ofNat (nat_lit 97), Char.ofNat (nat_lit 115), Char.ofNat (nat_lit 115), Char.ofNat (nat_lit 109), Char.ofNat (nat_lit 101), Char.ofNat (nat_lit 116), Char.ofNat (nat_lit 104), Char.ofNat (nat_lit 111), Char.ofNat (nat_lit 100)])
noncomputable def s126 : Str := ⟨Array.mk [nat_lit 95, nat_lit 95, nat_lit 108, nat_lit 101, nat_lit 110, nat_lit 95, nat_lit 95]⟩
theorem e126 : Str.ofString "__len__" = s126 := @id (Str.ofString "__len__" = s126) (PySem.W.Fast.ofString_ofList [Char.ofNat (nat_lit 95), Char.ofNat (nat_lit 95), Char.ofNat (nat_lit 108), Char.ofNat (nat_lit 101), Char.ofNat (nat_lit 110), Char.ofNat (nat_lit 95), Char.ofNat (nat_lit 95)])
noncomputable def s127 : Str := ⟨Array.mk [nat_lit 112, nat_lit 111, nat_lit 112]⟩
theorem e127 : Str.ofString "pop" = s127 := @id (Str.ofString "pop" = s127) (PySem.W.Fast.ofString_ofList [Char.ofNat (nat_lit 112), Char.ofNat (nat_lit 111), Char.ofNat (nat_lit 112)])
noncomputable def s128 : Str := ⟨Array.mk [nat_lit 109, nat_lit 97, nat_lit 112]⟩
theorem e128 : Str.ofString "map" = s128 := @id (Str.ofString "map" = s128) (PySem.W.Fast.ofString_ofList [Char.ofNat (nat_lit 109), Char.ofNat (nat_lit 97), Char.ofNat (nat_lit 112)])
noncomputable def s129 : Str := ⟨Array.mk [nat_lit 71, nat_lit 111, nat_lit 116, nat_lit 32, nat_lit 117, nat_lit 110, nat_lit 101, nat_lit 120, nat_lit 112, nat_lit 101, nat_lit 99, nat_lit 116, nat_lit 101, nat_lit 100, nat_lit 32, nat_lit 102, nat_lit 105, nat_lit 101, nat_lit 108, nat_lit 100, nat_lit 32, nat_lit 110, nat_lit 97, nat_lit 109, nat_lit 101, nat_lit 115, nat_lit 58, nat_lit 32]⟩
theorem e129 : Str.ofString "Got unexpected field names: " = s129 := @id (Str.ofString "Got unexpected field names: " = s129) (PySem.W.Fast.ofString_ofList [Char.ofNat (nat_lit 71), Char.ofNat (nat_lit 111), Char.ofNat (nat_lit 116), Char.ofNat (nat_lit 32), Char.ofNat (nat_lit 117), Char.ofNat (nat_lit 110), Char.ofNat (nat_lit 101), Char.ofNat (nat_lit 120), Char.ofNat (nat_lit 112), Char.ofNat (nat_lit 101), Char.ofNat (nat_lit 99), Char.ofNat (nat_lit 116), Char.ofNat (nat_lit 101), Char.ofNat (nat_lit 100), Char.ofNat (nat_lit 32), Char.ofNat (nat_lit 102), Char.ofNat (nat_lit 105), Char.ofNat (nat_lit 101), Char.ofNat (nat_lit 108), Char.ofNat (nat_lit 100), Char.ofNat (nat_lit 32), Char.ofNat (nat_lit 110), Char.ofNat (nat_lit 97), Char.ofNat (nat_lit 109), Char.ofNat (nat_lit 101), Char.ofNat (nat_lit 115), Char.ofNat (nat_lit 58), Char.ofNat (nat_lit 32)])
noncomputable def s130 : Str := ⟨Array.mk [nat_lit 108, nat_lit 105, nat_lit 115, nat_lit 116]⟩
theorem e130 : Str.ofString "list" = s130 := @id (Str.ofString "list" = s130) (PySem.W.Fast.ofString_ofList [Char.ofNat (nat_lit 108), Char.ofNat (nat_lit 105), Char.ofNat (nat_lit 115), Char.ofNat (nat_lit 116)])
noncomputable def s131 : Str := ⟨Array.mk [nat_lit 40, nat_lit 120, nat_lit 61, nat_lit 37, nat_lit 114, nat_lit 44, nat_lit 32, nat_lit 100, nat_lit 97, nat_lit 116, nat_lit 97, nat_lit 61, nat_lit 37, nat_lit 114, nat_lit 41]⟩
theorem e131 : Str.ofString "(x=%r, data=%r)" = s131 := @id (Str.ofString "(x=%r, data=%r)" = s131) (PySem.W.Fast.ofString_ofList [Char.ofNat (nat_lit 40), Char.ofNat (nat_lit 120), Char.ofNat (nat_lit 61), Char.ofNat (nat_lit 37), Char.ofNat (nat_lit 114), Char.ofNat (nat_lit 44), Char.ofNat (nat_lit 32), Char.ofNat (nat_lit 100), Char.ofNat (nat_lit 97), Char.ofNat (nat_lit 116), Char.ofNat (nat_lit 97), Char.ofNat (nat_lit 61), Char.ofNat (nat_lit 37), Char.ofNat (nat_lit 114), Char.ofNat (nat_lit 41)])
noncomputable def s132 : Str := ⟨Array.mk [nat_lit 115, nat_lit 101, nat_lit 116]⟩
theorem e132 : Str.ofString "set" = s132 := @id (Str.ofString "set" = s132) (PySem.W.Fast.ofString_ofList [Char.ofNat (nat_lit 115), Char.ofNat (nat_lit 101), Char.ofNat (nat_lit 116)])
noncomputable def s133 : Str := ⟨Array.mk [nat_lit 46, nat_lit 48]⟩
theorem e133 : Str.ofString ".0" = s133 := @id (Str.ofString ".0" = s133) (PySem.W.Fast.ofString_ofList [Char.ofNat (nat_lit 46), Char.ofNat (nat_lit 48)])
noncomputable def s134 : Str := ⟨Array.mk [nat_lit 73, nat_lit 110, nat_lit 118, nat_lit 97, nat_lit 108, nat_lit 105, nat_lit 100, nat_lit 32, nat_lit 115, nat_lit 101, nat_lit 116, nat_lit 32, nat_lit 111, nat_lit 102, nat_lit 32, nat_lit 115, nat_lit 104, nat_lit 97, nat_lit 114, nat_lit 101, nat_lit 115, nat_lit 46, nat_lit 32, nat_lit 83, nat_lit 104, nat_lit 97, nat_lit 114, nat_lit 101, nat_lit 32, nat_lit 105, nat_lit 110, nat_lit 100, nat_lit 105, nat_lit 99, nat_lit 101, nat_lit 115, nat_lit 32, nat_lit 109, nat_lit 117, nat_lit 115, nat_lit 116, nat_lit 32, nat_lit 98, nat_lit 101, nat_lit 32, nat_lit 117, nat_lit 110, nat_lit 105, nat_lit 113, nat_lit 117, nat_lit 101, nat_lit 46]⟩
theorem e134 : Str.ofString "Invalid set of shares. Share indices must be unique." = s134 := @id (Str.ofString "Invalid set of shares. Share indices must be unique." = s134) (PySem.W.Fast.ofString_ofList [Char.ofNat (nat_lit 73), Char.ofNat (nat_lit 110), Char.ofNat (nat_lit 118), Char.ofNat (nat_lit 97), Char.ofNat (nat_lit 108), Char.ofNat (nat_lit 105), Char.ofNat (nat_lit 100), Char.ofNat (nat_lit 32), Char.ofNat (nat_lit 115), Char.ofNat (nat_lit 101), Char.ofNat (nat_lit 116), Char.ofNat (nat_lit 32), Char.ofNat (nat_lit 111), Char.ofNat (nat_lit 102), Char.ofNat (nat_lit 32), Char.ofNat (nat_lit 115), Char.ofNat (nat_lit 104), Char.ofNat (nat_lit 97), Char.ofNat (nat_lit 114), Char.ofNat (nat_lit 101), Char.ofNat (nat_lit 115), Char.ofNat (nat_lit 46), Char.ofNat (nat_lit 32), Char.ofNat (nat_lit 83), Char.ofNat (nat_lit 104), Char.ofNat (nat_lit 97), Char.ofNat (nat_lit 114), Char.ofNat (nat_lit 101), Char.ofNat (nat_lit 32), Char.ofNat (nat_lit 105), Char.ofNat (nat_lit 110), Char.ofNat (nat_lit 100), Char.ofNat (nat_lit 105), Char.ofNat (nat_lit 99), Char.ofNat (nat_lit 101), Char.ofNat (nat_lit 115), Char.ofNat (nat_lit 32), Char.ofNat (nat_lit 109), Char.ofNat (nat_lit 117), Char.ofNat (nat_lit 115), Char.ofNat (nat_lit 116), Char.ofNat (nat_lit 32), Char.ofNat (nat_lit 98), Char.ofNat (nat_lit 101), Char.ofNat (nat_lit 32), Char.ofNat (nat_lit 117), Char.ofNat (nat_lit 110), Char.ofNat (nat_lit 105), Char.ofNat (nat_lit 113), Char.ofNat (nat_lit 117), Char.ofNat (nat_lit 101), Char.ofNat (nat_lit 46)])
noncomputable def s135 : Str := ⟨Array.mk [nat_lit 73, nat_lit 110, nat_lit 118, nat_lit 97, nat_lit 108, nat_lit 105, nat_lit 100, nat_lit 32, nat_lit 115, nat_lit 101, nat_lit 116, nat_lit 32, nat_lit 111, nat_lit 102, nat_lit 32, nat_lit 115, nat_lit 104, nat_lit 97, nat_lit 114, nat_lit 101, nat_lit 115, nat_lit 46, nat_lit 32, nat_lit 65, nat_lit 108, nat_lit 108, nat_lit 32, nat_lit 115, nat_lit 104, nat_lit 97, nat_lit 114, nat_lit 101, nat_lit 32, nat_lit 118, nat_lit 97, nat_lit 108, nat_lit 117, nat_lit 101, nat_lit 115, nat_lit 32, nat_lit 109, nat_lit 117, nat_lit 115, nat_lit 116, nat_lit 32, nat_lit 104, nat_lit 97, nat_lit 118, nat_lit 101, nat_lit 32, nat_lit 116, nat_lit 104, nat_lit 101, nat_lit 32, nat_lit 115, nat_lit 97, nat_lit 109, nat_lit 101, nat_lit 32, nat_lit 108, nat_lit 101, nat_lit 110, nat_lit 103, nat_lit 116, nat_lit 104, nat_lit 46]⟩
theorem e135 : Str.ofString "Invalid set of shares. All share values must have the same length." = s135 := @id (Str.ofString "Invalid set of shares. All share values must have the same length." = s135) (PySem.W.Fast.ofString_ofList [Char.ofNat (nat_lit 73), Char.ofNat (nat_lit 110), Char.ofNat (nat_lit 118), Char.ofNat (nat_lit 97), Char.ofNat (nat_lit 108), Char.ofNat (nat_lit 105), Char.ofNat (nat_lit 100), Char.ofNat (nat_lit 32), Char.ofNat (nat_lit 115), Char.ofNat (nat_lit 101), Char.ofNat (nat_lit 116), Char.ofNat (nat_lit 32), Char.ofNat (nat_lit 111), Char.ofNat (nat_lit 102), Char.ofNat (nat_lit 32), Char.ofNat (nat_lit 115), Char.ofNat (nat_lit 104), Char.ofNat (nat_lit 97), Char.ofNat (nat_lit 114), Char.ofNat (nat_lit 101), Char.ofNat (nat_lit 115), Char.ofNat (nat_lit 46), Char.ofNat (nat_lit 32), Char.ofNat (nat_lit 65), Char.ofNat (nat_lit 108), Char.ofNat (nat_lit 108), Char.ofNat (nat_lit 32), Char.ofNat (nat_lit 115), Char.ofNat (nat_lit 104), Char.ofNat (nat_lit 97), Char.ofNat (nat_lit 114), Char.ofNat (nat_lit 101), Char.ofNat (nat_lit 32), Char.ofNat (nat_lit 118), Char.ofNat (nat_lit 97), Char.ofNat (nat_lit 108), Char.ofNat (nat_lit 117), Char.ofNat (nat_lit 101), Char.ofNat (nat_lit 115), Char.ofNat (nat_lit 32), Char.ofNat (nat_lit 109), Char.ofNat (nat_lit 117), Char.ofNat (nat_lit 115), Char.ofNat (nat_lit 116), Char.ofNat (nat_lit 32), Char.ofNat (nat_lit 104), Char.ofNat (nat_lit 97), Char.ofNat (nat_lit 118), Char.ofNat (nat_lit 101), Char.ofNat (nat_lit 32), Char.ofNat (nat_lit 116), Char.ofNat (nat_lit 104), Char.ofNat (nat_lit 101), Char.ofNat (nat_lit 32), Char.ofNat (nat_lit 115), Char.ofNat (nat_lit 97), Char.ofNat (nat_lit 109), Char.ofNat (nat_lit 101), Char.ofNat (nat_lit 32), Char.ofNat (nat_lit 108), Char.ofNat (nat_lit 101), Char.ofNat (nat_lit 110), Char.ofNat (nat_lit 103), Char.ofNat (nat_lit 116), Char.ofNat (nat_lit 104), Char.ofNat (nat_lit 46)])
noncomputable def s136 : Str := ⟨Array.mk [nat_lit 115, nat_lit 117, nat_lit 109]⟩
theorem e136 : Str.ofString "sum" = s136 := @id (Str.ofString "sum" = s136) (PySem.W.Fast.ofString_ofList [Char.ofNat (nat_lit 115), Char.ofNat (nat_lit 117), Char.ofNat (nat_lit 109)])
noncomputable def s137 : Str := ⟨Array.mk [nat_lit 98, nat_lit 121, nat_lit 116, nat_lit 101, nat_lit 115]⟩
theorem e137 : Str.ofString "bytes" = s137 := @id (Str.ofString "bytes" = s137) (PySem.W.Fast.ofString_ofList [Char.ofNat (nat_lit 98), Char.ofNat (nat_lit 121), Char.ofNat (nat_lit 116), Char.ofNat (nat_lit 101), Char.ofNat (nat_lit 115)])
noncomputable def s138 : Str := ⟨Array.mk [nat_lit 111, nat_lit 116, nat_lit 104, nat_lit 101, nat_lit 114]⟩
theorem e138 : Str.ofString "other" = s138 := @id (Str.ofString "other" = s138) (PySem.W.Fast.ofString_ofList [Char.ofNat (nat_lit 111), Char.ofNat (nat_lit 116), Char.ofNat (nat_lit 104), Char.ofNat (nat_lit 101), Char.ofNat (nat_lit 114)])
noncomputable def s139 : Str := ⟨Array.mk [nat_lit 105, nat_lit 110, nat_lit 116, nat_lit 101, nat_lit 114, nat_lit 109, nat_lit 101, nat_lit 100, nat_lit 105, nat_lit 97, nat_lit 116, nat_lit 101, nat_lit 95, nat_lit 115, nat_lit 117, nat_lit 109]⟩
theorem e139 : Str.ofString "intermediate_sum" = s139 := @id (Str.ofString "intermediate_sum" = s139) (PySem.W.Fast.ofString_ofList [Char.ofNat (nat_lit 105), Char.ofNat (nat_lit 110), Char.ofNat (nat_lit 116), Char.ofNat (nat_lit 101), Char.ofNat (nat_lit 114), Char.ofNat (nat_lit 109), Char.ofNat (nat_lit 101), Char.ofNat (nat_lit 100), Char.ofNat (nat_lit 105), Char.ofNat (nat_lit 97), Char.ofNat (nat_lit 116), Char.ofNat (nat_lit 101), Char.ofNat (nat_lit 95), Char.ofNat (nat_lit 115), Char.ofNat (nat_lit 117), Char.ofNat (nat_lit 109)])
noncomputable def s140 : Str := ⟨Array.mk [nat_lit 115, nat_lit 104, nat_lit 97, nat_lit 114, nat_lit 101, nat_lit 95, nat_lit 118, nat_lit 97, nat_lit 108]⟩
theorem e140 : Str.ofString "share_val" = s140 := @id (Str.ofString "share_val" = s140) (PySem.W.Fast.ofString_ofList [Char.ofNat (nat_lit 115), Char.ofNat (nat_lit 104), Char.ofNat (nat_lit 97), Char.ofNat (nat_lit 114), Char.ofNat (nat_lit 101), Char.ofNat (nat_lit 95), Char.ofNat (nat_lit 118), Char.ofNat (nat_lit 97), Char.ofNat (nat_lit 108)])
noncomputable def s141 : Str := ⟨Array.mk [nat_lit 122, nat_lit 105, nat_lit 112]⟩
theorem e141 : Str.ofString "zip" = s141 := @id (Str.ofString "zip" = s141) (PySem.W.Fast.ofString_ofList [Char.ofNat (nat_lit 122), Char.ofNat (nat_lit 105), Char.ofNat (nat_lit 112)])
noncomputable def s142 : Str := ⟨Array.mk [nat_lit 73, nat_lit 110, nat_lit 118, nat_lit 97, nat_lit 108, nat_lit 105, nat_lit 100, nat_lit 32, nat_lit 100, nat_lit 105, nat_lit 103, nat_lit 101, nat_lit 115, nat_lit 116, nat_lit 32, nat_lit 111, nat_lit 102, nat_lit 32, nat_lit 116, nat_lit 104, nat_lit 101, nat_lit 32, nat_lit 115, nat_lit 104, nat_lit 97, nat_lit 114, nat_lit 101, nat_lit 100, nat_lit 32, nat_lit 115, nat_lit 101, nat_lit 99, nat_lit 114, nat_lit 101, nat_lit 116, nat_lit 46]⟩
theorem e142 : Str.ofString "Invalid digest of the shared secret." = s142 := @id (Str.ofString "Invalid digest of the shared secret." = s142) (PySem.W.Fast.ofString_ofList [Char.ofNat (nat_lit 73), Char.ofNat (nat_lit 110), Char.ofNat (nat_lit 118), Char.ofNat (nat_lit 97), Char.ofNat (nat_lit 108), Char.ofNat (nat_lit 105), Char.ofNat (nat_lit 100), Char.ofNat (nat_lit 32), Char.ofNat (nat_lit 100), Char.ofNat (nat_lit 105), Char.ofNat (nat_lit 103), Char.ofNat (nat_lit 101), Char.ofNat (nat_lit 115), Char.ofNat (nat_lit 116), Char.ofNat (nat_lit 32), Char.ofNat (nat_lit 111), Char.ofNat (nat_lit 102), Char.ofNat (nat_lit 32), Char.ofNat (nat_lit 116), Char.ofNat (nat_lit 104), Char.ofNat (nat_lit 101), Char.ofNat (nat_lit 32), Char.ofNat (nat_lit 115), Char.ofNat (nat_lit 104), Char.ofNat (nat_lit 97), Char.ofNat (nat_lit 114), Char.ofNat (nat_lit 101), Char.ofNat (nat_lit 100), Char.ofNat (nat_lit 32), Char.ofNat (nat_lit 115), Char.ofNat (nat_lit 101), Char.ofNat (nat_lit 99), Char.ofNat (nat_lit 114), Char.ofNat (nat_lit 101), Char.ofNat (nat_lit 116), Char.ofNat (nat_lit 46)])
noncomputable def s143 : Str := ⟨Array.mk [nat_lit 116, nat_lit 111, nat_lit 95, nat_lit 98, nat_lit 121, nat_lit 116, nat_lit 101, nat_lit 115]⟩
theorem e143 : Str.ofString "to_bytes" = s143 := @id (Str.ofString "to_bytes" = s143) (PySem.W.Fast.ofString_ofList [Char.ofNat (nat_lit 116), Char.ofNat (nat_lit 111), Char.ofNat (nat_lit 95), Char.ofNat (nat_lit 98), Char.ofNat (nat_lit 121), Char.ofNat (nat_lit 116), Char.ofNat (nat_lit 101), Char.ofNat (nat_lit 115)])
noncomputable def s144 : Str := ⟨Array.mk [nat_lit 98, nat_lit 105, nat_lit 103]⟩
theorem e144 : Str.ofString "big" = s144 := @id (Str.ofString "big" = s144) (PySem.W.Fast.ofString_ofList [Char.ofNat (nat_lit 98), Char.ofNat (nat_lit 105), Char.ofNat (nat_lit 103)])
noncomputable def s145 : Str := ⟨Array.mk [nat_lit 114, nat_lit 97, nat_lit 110, nat_lit 103, nat_lit 101]⟩
theorem e145 : Str.ofString "range" = s145 := @id (Str.ofString "range" = s145) (PySem.W.Fast.ofString_ofList [Char.ofNat (nat_lit 114), Char.ofNat (nat_lit 97), Char.ofNat (nat_lit 110), Char.ofNat (nat_lit 103), Char.ofNat (nat_lit 101)])
noncomputable def s146 : Str := ⟨Array.mk [nat_lit 108, nat_lit 101, nat_lit 97, nat_lit 115, nat_lit 116]⟩
theorem e146 : Str.ofString "least" = s146 := @id (Str.ofString "least" = s146) (PySem.W.Fast.ofString_ofList [Char.ofNat (nat_lit 108), Char.ofNat (nat_lit 101), Char.ofNat (nat_lit 97), Char.ofNat (nat_lit 115), Char.ofNat (nat_lit 116)])
noncomputable def s147 : Str := ⟨Array.mk [nat_lit 99, nat_lit 111, nat_lit 117, nat_lit 110, nat_lit 116]⟩
theorem e147 : Str.ofString "count" = s147 := @id (Str.ofString "count" = s147) (PySem.W.Fast.ofString_ofList [Char.ofNat (nat_lit 99), Char.ofNat (nat_lit 111), Char.ofNat (nat_lit 117), Char.ofNat (nat_lit 110), Char.ofNat (nat_lit 116)])
noncomputable def s148 : Str := ⟨Array.mk [nat_lit 102, nat_lit 114, nat_lit 101, nat_lit 101]⟩
theorem e148 : Str.ofString "free" = s148 := @id (Str.ofString "free" = s148) (PySem.W.Fast.ofString_ofList [Char.ofNat (nat_lit 102), Char.ofNat (nat_lit 114), Char.ofNat (nat_lit 101), Char.ofNat (nat_lit 101)])
noncomputable def s149 : Str := ⟨Array.mk [nat_lit 118, nat_lit 97, nat_lit 108, nat_lit 117, nat_lit 101, nat_lit 115]⟩
theorem e149 : Str.ofString "values" = s149 := @id (Str.ofString "values" = s149) (PySem.W.Fast.ofString_ofList [Char.ofNat (nat_lit 118), Char.ofNat (nat_lit 97), Char.ofNat (nat_lit 108), Char.ofNat (nat_lit 117), Char.ofNat (nat_lit 101), Char.ofNat (nat_lit 115)])
noncomputable def s150 : Str := ⟨Array.mk [nat_lit 112, nat_lit 111, nat_lit 105, nat_lit 110, nat_lit 116, nat_lit 115]⟩
theorem e150 : Str.ofString "points" = s150 := @id (Str.ofString "points" = s150) (PySem.W.Fast.ofString_ofList [Char.ofNat (nat_lit 112), Char.ofNat (nat_lit 111), Char.ofNat (nat_lit 105), Char.ofNat (nat_lit 110), Char.ofNat (nat_lit 116), Char.ofNat (nat_lit 115)])
noncomputable def s151 : Str := ⟨Array.mk [nat_lit 115, nat_lit 101, nat_lit 99, nat_lit 114, nat_lit 101, nat_lit 116]⟩
theorem e151 : Str.ofString "secret" = s151 := @id (Str.ofString "secret" = s151) (PySem.W.Fast.ofString_ofList [Char.ofNat (nat_lit 115), Char.ofNat (nat_lit 101), Char.ofNat (nat_lit 99), Char.ofNat (nat_lit 114), Char.ofNat (nat_lit 101), Char.ofNat (nat_lit 116)])
noncomputable def s152 : Str := ⟨Array.mk [nat_lit 111, nat_lit 116, nat_lit 104, nat_lit 101, nat_lit 114, nat_lit 115]⟩
theorem e152 : Str.ofString "others" = s152 := @id (Str.ofString "others" = s152) (PySem.W.Fast.ofString_ofList [Char.ofNat (nat_lit 111), Char.ofNat (nat_lit 116), Char.ofNat (nat_lit 104), Char.ofNat (nat_lit 101), Char.ofNat (nat_lit 114), Char.ofNat (nat_lit 115)])
noncomputable def s153 : Str := ⟨Array.mk [nat_lit 115, nat_lit 112, nat_lit 111, nat_lit 105, nat_lit 108]⟩
theorem e153 : Str.ofString "spoil" = s153 := @id (Str.ofString "spoil" = s153) (PySem.W.Fast.ofString_ofList [Char.ofNat (nat_lit 115), Char.ofNat (nat_lit 112), Char.ofNat (nat_lit 111), Char.ofNat (nat_lit 105), Char.ofNat (nat_lit 108)])
noncomputable def s154 : Str := ⟨Array.mk [nat_lit 97, nat_lit 112, nat_lit 112, nat_lit 101, nat_lit 110, nat_lit 100]⟩
theorem e154 : Str.ofString "append" = s154 := @id (Str.ofString "append" = s154) (PySem.W.Fast.ofString_ofList [Char.ofNat (nat_lit 97), Char.ofNat (nat_lit 112), Char.ofNat (nat_lit 112), Char.ofNat (nat_lit 101), Char.ofNat (nat_lit 110), Char.ofNat (nat_lit 100)])
noncomputable def s155 : Str := ⟨Array.mk [nat_lit 108, nat_lit 101, nat_lit 97, nat_lit 100]⟩
theorem e155 : Str.ofString "lead" = s155 := @id (Str.ofString "lead" = s155) (PySem.W.Fast.ofString_ofList [Char.ofNat (nat_lit 108), Char.ofNat (nat_lit 101), Char.ofNat (nat_lit 97), Char.ofNat (nat_lit 100)])
noncomputable def s156 : Str := ⟨Array.mk [nat_lit 114, nat_lit 101, nat_lit 115, nat_lit 116]⟩
theorem e156 : Str.ofString "rest" = s156 := @id (Str.ofString "rest" = s156) (PySem.W.Fast.ofString_ofList [Char.ofNat (nat_lit 114), Char.ofNat (nat_lit 101), Char.ofNat (nat_lit 115), Char.ofNat (nat_lit 116)])
noncomputable def s157 : Str := ⟨Array.mk [nat_lit 116, nat_lit 117, nat_lit 114, nat_lit 110, nat_lit 101, nat_lit 100]⟩
theorem e157 : Str.ofString "turned" = s157 := @id (Str.ofString "turned" = s157) (PySem.W.Fast.ofString_ofList [Char.ofNat (nat_lit 116), Char.ofNat (nat_lit 117), Char.ofNat (nat_lit 114), Char.ofNat (nat_lit 110), Char.ofNat (nat_lit 101), Char.ofNat (nat_lit 100)])
noncomputable def s158 : Str := ⟨Array.mk [nat_lit 97, nat_lit 110, nat_lit 115, nat_lit 119, nat_lit 101, nat_lit 114]⟩
theorem e158 : Str.ofString "answer" = s158 := @id (Str.ofString "answer" = s158) (PySem.W.Fast.ofString_ofList [Char.ofNat (nat_lit 97), Char.ofNat (nat_lit 110), Char.ofNat (nat_lit 115), Char.ofNat (nat_lit 119), Char.ofNat (nat_lit 101), Char.ofNat (nat_lit 114)])
noncomputable def s159 : Str := ⟨Array.mk [nat_lit 99, nat_lit 97, nat_lit 108, nat_lit 108, nat_lit 115]⟩
theorem e159 : Str.ofString "calls" = s159 := @id (Str.ofString "calls" = s159) (PySem.W.Fast.ofString_ofList [Char.ofNat (nat_lit 99), Char.ofNat (nat_lit 97), Char.ofNat (nat_lit 108), Char.ofNat (nat_lit 108), Char.ofNat (nat_lit 115)])
noncomputable def s160 : Str := ⟨Array.mk [nat_lit 109, nat_lit 97, nat_lit 99]⟩
theorem e160 : Str.ofString "mac" = s160 := @id (Str.ofString "mac" = s160) (PySem.W.Fast.ofString_ofList [Char.ofNat (nat_lit 109), Char.ofNat (nat_lit 97), Char.ofNat (nat_lit 99)])
noncomputable def s161 : Str := ⟨Array.mk [nat_lit 107, nat_lit 101, nat_lit 121]⟩
theorem e161 : Str.ofString "key" = s161 := @id (Str.ofString "key" = s161) (PySem.W.Fast.ofString_ofList [Char.ofNat (nat_lit 107), Char.ofNat (nat_lit 101), Char.ofNat (nat_lit 121)])
noncomputable def s162 : Str := ⟨Array.mk [nat_lit 109, nat_lit 101, nat_lit 115, nat_lit 115, nat_lit 97, nat_lit 103, nat_lit 101]⟩
theorem e162 : Str.ofString "message" = s162 := @id (Str.ofString "message" = s162) (PySem.W.Fast.ofString_ofList [Char.ofNat (nat_lit 109), Char.ofNat (nat_lit 101), Char.ofNat (nat_lit 115), Char.ofNat (nat_lit 115), Char.ofNat (nat_lit 97), Char.ofNat (nat_lit 103), Char.ofNat (nat_lit 101)])
noncomputable def s163 : Str := ⟨Array.mk [nat_lit 116, nat_lit 111, nat_lit 108, nat_lit 100]⟩
theorem e163 : Str.ofString "told" = s163 := @id (Str.ofString "told" = s163) (PySem.W.Fast.ofString_ofList [Char.ofNat (nat_lit 116), Char.ofNat (nat_lit 111), Char.ofNat (nat_lit 108), Char.ofNat (nat_lit 100)])
noncomputable def s164 : Str := ⟨Array.mk [nat_lit 114, nat_lit 101, nat_lit 102, nat_lit 117, nat_lit 115, nat_lit 101, nat_lit 100]⟩
theorem e164 : Str.ofString "refused" = s164 := @id (Str.ofString "refused" = s164) (PySem.W.Fast.ofString_ofList [Char.ofNat (nat_lit 114), Char.ofNat (nat_lit 101), Char.ofNat (nat_lit 102), Char.ofNat (nat_lit 117), Char.ofNat (nat_lit 115), Char.ofNat (nat_lit 101), Char.ofNat (nat_lit 100)])
noncomputable def s165 : Str := ⟨Array.mk [nat_lit 102, nat_lit 97, nat_lit 115, nat_lit 116]⟩
theorem e165 : Str.ofString "fast" = s165 := @id (Str.ofString "fast" = s165) (PySem.W.Fast.ofString_ofList [Char.ofNat (nat_lit 102), Char.ofNat (nat_lit 97), Char.ofNat (nat_lit 115), Char.ofNat (nat_lit 116)])
noncomputable abbrev t0 : String := PySem.W.SL.s14018661285674007319x4
theorem f0 : "dict" = t0 := PySem.W.SL.e14018661285674007319x4
noncomputable abbrev t1 : String := PySem.W.SL.s7097527257260152453x26
theorem f1 : "__main__.__loader__#opaque" = t1 := PySem.W.SL.e7097527257260152453x26
noncomputable abbrev t2 : String := PySem.W.SL.s2766695959194262286x5
theorem f2 : "tuple" = t2 := PySem.W.SL.e2766695959194262286x5
noncomputable abbrev t3 : String := PySem.W.SL.s5856160107412720595x4
theorem f3 : "code" = t3 := PySem.W.SL.e5856160107412720595x4
noncomputable abbrev t4 : String := PySem.W.SL.s7174869446012820540x8
theorem f4 : "function" = t4 := PySem.W.SL.e7174869446012820540x8
noncomputable abbrev t5 : String := PySem.W.SL.s17162191345867700912x4
theorem f5 : "type" = t5 := PySem.W.SL.e17162191345867700912x4
noncomputable abbrev t6 : String := PySem.W.SL.s5946037652744460706x9
theorem f6 : "Exception" = t6 := PySem.W.SL.e5946037652744460706x9
noncomputable abbrev t7 : String := PySem.W.SL.s4278001404047624695x13
theorem f7 : "BaseException" = t7 := PySem.W.SL.e4278001404047624695x13
noncomputable abbrev t8 : String := PySem.W.SL.s2742458400755230247x6
theorem f8 : "object" = t8 := PySem.W.SL.e2742458400755230247x6
noncomputable abbrev t9 : String := PySem.W.SL.s5160863994218179198x17
theorem f9 : "Exception.__new__" = t9 := PySem.W.SL.e5160863994218179198x17
noncomputable abbrev t10 : String := PySem.W.SL.s14755015743595814543x17
theorem f10 : "getset_descriptor" = t10 := PySem.W.SL.e14755015743595814543x17
noncomputable abbrev t11 : String := PySem.W.SL.s10220274742760427390x26
theorem f11 : "ExceptionGroup.__weakref__" = t11 := PySem.W.SL.e10220274742760427390x26
noncomputable abbrev t12 : String := PySem.W.SL.s11443829558043349243x14
theorem f12 : "object.__new__" = t12 := PySem.W.SL.e11443829558043349243x14
noncomputable abbrev t13 : String := PySem.W.SL.s6511155373996960695x17
theorem f13 : "function.__dict__" = t13 := PySem.W.SL.e6511155373996960695x17
noncomputable abbrev t14 : String := PySem.W.SL.s12411053484034534018x21
theorem f14 : "function.__dict__#set" = t14 := PySem.W.SL.e12411053484034534018x21
noncomputable abbrev t15 : String := PySem.W.SL.s591115383303110208x11
theorem f15 : "classmethod" = t15 := PySem.W.SL.e591115383303110208x11
noncomputable abbrev t16 : String := PySem.W.SL.s9222952809800978799x4
theorem f16 : "list" = t16 := PySem.W.SL.e9222952809800978799x4
noncomputable abbrev t17 : String := PySem.W.SL.s11030030927630378310x26
theorem f17 : "builtin_function_or_method" = t17 := PySem.W.SL.e11030030927630378310x26
noncomputable abbrev t18 : String := PySem.W.SL.s10062305145149207511x16
theorem f18 : "type.__prepare__" = t18 := PySem.W.SL.e10062305145149207511x16
noncomputable abbrev t19 : String := PySem.W.SL.s15660640913423913556x4
theorem f19 : "cell" = t19 := PySem.W.SL.e15660640913423913556x4
noncomputable abbrev t20 : String := PySem.W.SL.s16656946322747308186x12
theorem f20 : "staticmethod" = t20 := PySem.W.SL.e16656946322747308186x12
noncomputable abbrev t21 : String := PySem.W.SL.s658472552662922059x5
theorem f21 : "frame" = t21 := PySem.W.SL.e658472552662922059x5
noncomputable abbrev t22 : String := PySem.W.SL.s4290257624100764138x5
theorem f22 : "super" = t22 := PySem.W.SL.e4290257624100764138x5
noncomputable abbrev t23 : String := PySem.W.SL.s4860613602091757760x24
theorem f23 : "object.__init_subclass__" = t23 := PySem.W.SL.e4860613602091757760x24
noncomputable def progG (n0 n1 n2 n3 n4 n5 n6 n7 n8 n9 n10 n11 n12 n13 n14 n15 n16 n17 n18 n19 n20 n21 n22 n23 n24 n25 n26 n27 n28 n29 n30 n31 n32 n33 n34 n35 n36 n37 n38 n39 n40 n41 n42 n43 n44 n45 n46 n47 n48 n49 n50 n51 n52 n53 n54 n55 n56 n57 n58 n59 n60 n61 n62 n63 n64 n65 n66 n67 n68 n69 n70 n71 n72 n73 n74 n75 n76 n77 n78 n79 n80 n81 n82 n83 n84 n85 n86 n87 n88 n89 n90 n91 n92 n93 n94 n95 n96 n97 n98 n99 n100 n101 n102 n103 n104 n105 n106 n107 n108 n109 n110 n111 n112 n113 n114 n115 n116 n117 n118 n119 n120 n121 n122 n123 n124 n125 n126 n127 n128 n129 n130 n131 n132 n133 n134 n135 n136 n137 n138 n139 n140 n141 n142 n143 n144 n145 n146 n147 n148 n149 n150 n151 n152 n153 n154 n155 n156 n157 n158 n159 n160 n161 n162 n163 n164 n165 : Str) : Program := by
  refine (?f : (x : Program) → (Str.ofString "type.__subclasses__.Exception.0" = n0 → Str.ofString "type.__subclasses__.Exception.n" = n1 → Str.ofString "__name__" = n2 → Str.ofString "law_jb0039_01" = n3 → Str.ofString "__doc__" = n4 → Str.ofString "__package__" = n5 → Str.ofString "__loader__" = n6 → Str.ofString "__spec__" = n7 → Str.ofString "__annotations__" = n8 → Str.ofString "__builtins__" = n9 → Str.ofString "__file__" = n10 → Str.ofString "/claim/cut.py" = n11 → Str.ofString "__cached__" = n12 → Str.ofString "_wall" = n13 → Str.ofString "DIGEST_LENGTH_BYTES" = n14 → Str.ofString "SECRET_INDEX" = n15 → Str.ofString "DIGEST_INDEX" = n16 → Str.ofString "MnemonicError" = n17 → Str.ofString "_tuplegetter" = n18 → Str.ofString "RawShare" = n19 → Str.ofString "_EXP_TABLE_00" = n20 → Str.ofString "_EXP_TABLE_01" = n21 → Str.ofString "EXP_TABLE" = n22 → Str.ofString "_LOG_TABLE_00" = n23 → Str.ofString "_LOG_TABLE_01" = n24 → Str.ofString "LOG_TABLE" = n25 → Str.ofString "_interpolate" = n26 → Str.ofString "_create_digest" = n27 → Str.ofString "_recover_secret" = n28 → Str.ofString "_law_ones" = n29 → Str.ofString "_law_spread" = n30 → Str.ofString "_law_number" = n31 → Str.ofString "_law_octets" = n32 → Str.ofString "_law_times" = n33 → Str.ofString "_law_inverse" = n34 → Str.ofString "_law_product" = n35 → Str.ofString "law" = n36 → Str.ofString "k" = n37 → Str.ofString "__main__" = n38 → Str.ofString "__module__" = n39 → Str.ofString "shamir_mnemonic.utils" = n40 → Str.ofString "__firstlineno__" = n41 → Str.ofString "__static_attributes__" = n42 → Str.ofString "__weakref__" = n43 → Str.ofString "self" = n44 → Str.ofString "index" = n45 → Str.ofString "doc" = n46 → Str.ofString "__init__" = n47 → Str.ofString "_tuplegetter.__init__" = n48 → Str.ofString "shamir_mnemonic.shamir" = n49 → Str.ofString "obj" = n50 → Str.ofString "objtype" = n51 → Str.ofString "__get__" = n52 → Str.ofString "_tuplegetter.__get__" = n53 → Str.ofString "value" = n54 → Str.ofString "__set__" = n55 → Str.ofString "_tuplegetter.__set__" = n56 → Str.ofString "__delete__" = n57 → Str.ofString "_tuplegetter.__delete__" = n58 → Str.ofString "__dict__" = n59 → Str.ofString "x" = n60 → Str.ofString "data" = n61 → Str.ofString "_cls" = n62 → Str.ofString "__new__" = n63 → Str.ofString "RawShare.__new__" = n64 → Str.ofString "cls" = n65 → Str.ofString "iterable" = n66 → Str.ofString "result" = n67 → Str.ofString "_make" = n68 → Str.ofString "RawShare._make" = n69 → Str.ofString "__qualname__" = n70 → Str.ofString "__class__" = n71 → Str.ofString "kwds" = n72 → Str.ofString "_replace" = n73 → Str.ofString "RawShare._replace" = n74 → Str.ofString "__repr__" = n75 → Str.ofString "RawShare.__repr__" = n76 → Str.ofString "_asdict" = n77 → Str.ofString "RawShare._asdict" = n78 → Str.ofString "__getnewargs__" = n79 → Str.ofString "RawShare.__getnewargs__" = n80 → Str.ofString "Alias for field number 0" = n81 → Str.ofString "Alias for field number 1" = n82 → Str.ofString "__slots__" = n83 → Str.ofString "_fields" = n84 → Str.ofString "_field_defaults" = n85 → Str.ofString "__replace__" = n86 → Str.ofString "__match_args__" = n87 → Str.ofString "shares" = n88 → Str.ofString "x_coordinates" = n89 → Str.ofString "share_value_lengths" = n90 → Str.ofString "log_prod" = n91 → Str.ofString "log_basis_eval" = n92 → Str.ofString "share" = n93 → Str.ofString "random_data" = n94 → Str.ofString "shared_secret" = n95 → Str.ofString "hmac_sha256" = n96 → Str.ofString "threshold" = n97 → Str.ofString "digest_share" = n98 → Str.ofString "digest" = n99 → Str.ofString "random_part" = n100 → Str.ofString "script" = n101 → Str.ofString "place" = n102 → Str.ofString "number" = n103 → Str.ofString "size" = n104 → Str.ofString "lanes" = n105 → Str.ofString "factor" = n106 → Str.ofString "total" = n107 → Str.ofString "tops" = n108 → Str.ofString "octet" = n109 → Str.ofString "_" = n110 → Str.ofString "places" = n111 → Str.ofString "<module>" = n112 → Str.ofString "__classcell__" = n113 → Str.ofString "Exception" = n114 → Str.ofString "issubclass" = n115 → Str.ofString "type" = n116 → Str.ofString "tuple" = n117 → Str.ofString "__getitem__" = n118 → Str.ofString "AttributeError" = n119 → Str.ofString "can't set attribute" = n120 → Str.ofString "can't delete attribute" = n121 → Str.ofString "len" = n122 → Str.ofString "TypeError" = n123 → Str.ofString "Expected 2 arguments, got " = n124 → Str.ofString "classmethod" = n125 → Str.ofString "__len__" = n126 → Str.ofString "pop" = n127 → Str.ofString "map" = n128 → Str.ofString "Got unexpected field names: " = n129 → Str.ofString "list" = n130 → Str.ofString "(x=%r, data=%r)" = n131 → Str.ofString "set" = n132 → Str.ofString ".0" = n133 → Str.ofString "Invalid set of shares. Share indices must be unique." = n134 → Str.ofString "Invalid set of shares. All share values must have the same length." = n135 → Str.ofString "sum" = n136 → Str.ofString "bytes" = n137 → Str.ofString "other" = n138 → Str.ofString "intermediate_sum" = n139 → Str.ofString "share_val" = n140 → Str.ofString "zip" = n141 → Str.ofString "Invalid digest of the shared secret." = n142 → Str.ofString "to_bytes" = n143 → Str.ofString "big" = n144 → Str.ofString "range" = n145 → Str.ofString "least" = n146 → Str.ofString "count" = n147 → Str.ofString "free" = n148 → Str.ofString "values" = n149 → Str.ofString "points" = n150 → Str.ofString "secret" = n151 → Str.ofString "others" = n152 → Str.ofString "spoil" = n153 → Str.ofString "append" = n154 → Str.ofString "lead" = n155 → Str.ofString "rest" = n156 → Str.ofString "turned" = n157 → Str.ofString "answer" = n158 → Str.ofString "calls" = n159 → Str.ofString "mac" = n160 → Str.ofString "key" = n161 → Str.ofString "message" = n162 → Str.ofString "told" = n163 → Str.ofString "refused" = n164 → Str.ofString "fast" = n165 → PySem.Challenge.pw_jb0039_01 = x) → Program) _ (by
    intro j0 j1 j2 j3 j4 j5 j6 j7 j8 j9 j10 j11 j12 j13 j14 j15 j16 j17 j18 j19 j20 j21 j22 j23 j24 j25 j26 j27 j28 j29 j30 j31 j32 j33 j34 j35 j36 j37 j38 j39 j40 j41 j42 j43 j44 j45 j46 j47 j48 j49 j50 j51 j52 j53 j54 j55 j56 j57 j58 j59 j60 j61 j62 j63 j64 j65 j66 j67 j68 j69 j70 j71 j72 j73 j74 j75 j76 j77 j78 j79 j80 j81 j82 j83 j84 j85 j86 j87 j88 j89 j90 j91 j92 j93 j94 j95 j96 j97 j98 j99 j100 j101 j102 j103 j104 j105 j106 j107 j108 j109 j110 j111 j112 j113 j114 j115 j116 j117 j118 j119 j120 j121 j122 j123 j124 j125 j126 j127 j128 j129 j130 j131 j132 j133 j134 j135 j136 j137 j138 j139 j140 j141 j142 j143 j144 j145 j146 j147 j148 j149 j150 j151 j152 j153 j154 j155 j156 j157 j158 j159 j160 j161 j162 j163 j164 j165
    delta PySem.Challenge.pw_jb0039_01
    simp only [j0, j1, j2, j3, j4, j5, j6, j7, j8, j9, j10, j11, j12, j13, j14, j15, j16, j17, j18, j19, j20, j21, j22, j23, j24, j25, j26, j27, j28, j29, j30, j31, j32, j33, j34, j35, j36, j37, j38, j39, j40, j41, j42, j43, j44, j45, j46, j47, j48, j49, j50, j51, j52, j53, j54, j55, j56, j57, j58, j59, j60, j61, j62, j63, j64, j65, j66, j67, j68, j69, j70, j71, j72, j73, j74, j75, j76, j77, j78, j79, j80, j81, j82, j83, j84, j85, j86, j87, j88, j89, j90, j91, j92, j93, j94, j95, j96, j97, j98, j99, j100, j101, j102, j103, j104, j105, j106, j107, j108, j109, j110, j111, j112, j113, j114, j115, j116, j117, j118, j119, j120, j121, j122, j123, j124, j125, j126, j127, j128, j129, j130, j131, j132, j133, j134, j135, j136, j137, j138, j139, j140, j141, j142, j143, j144, j145, j146, j147, j148, j149, j150, j151, j152, j153, j154, j155, j156, j157, j158, j159, j160, j161, j162, j163, j164, j165]
    exact rfl)
  exact fun x _ => x
noncomputable def progB : Program := progG s0 s1 s2 s3 s4 s5 s6 s7 s8 s9 s10 s11 s12 s13 s14 s15 s16 s17 s18 s19 s20 s21 s22 s23 s24 s25 s26 s27 s28 s29 s30 s31 s32 s33 s34 s35 s36 s37 s38 s39 s40 s41 s42 s43 s44 s45 s46 s47 s48 s49 s50 s51 s52 s53 s54 s55 s56 s57 s58 s59 s60 s61 s62 s63 s64 s65 s66 s67 s68 s69 s70 s71 s72 s73 s74 s75 s76 s77 s78 s79 s80 s81 s82 s83 s84 s85 s86 s87 s88 s89 s90 s91 s92 s93 s94 s95 s96 s97 s98 s99 s100 s101 s102 s103 s104 s105 s106 s107 s108 s109 s110 s111 s112 s113 s114 s115 s116 s117 s118 s119 s120 s121 s122 s123 s124 s125 s126 s127 s128 s129 s130 s131 s132 s133 s134 s135 s136 s137 s138 s139 s140 s141 s142 s143 s144 s145 s146 s147 s148 s149 s150 s151 s152 s153 s154 s155 s156 s157 s158 s159 s160 s161 s162 s163 s164 s165
theorem prog_eq : PySem.Challenge.pw_jb0039_01 = progB := Eq.trans (show PySem.Challenge.pw_jb0039_01 = progG (Str.ofString "type.__subclasses__.Exception.0") (Str.ofString "type.__subclasses__.Exception.n") (Str.ofString "__name__") (Str.ofString "law_jb0039_01") (Str.ofString "__doc__") (Str.ofString "__package__") (Str.ofString "__loader__") (Str.ofString "__spec__") (Str.ofString "__annotations__") (Str.ofString "__builtins__") (Str.ofString "__file__") (Str.ofString "/claim/cut.py") (Str.ofString "__cached__") (Str.ofString "_wall") (Str.ofString "DIGEST_LENGTH_BYTES") (Str.ofString "SECRET_INDEX") (Str.ofString "DIGEST_INDEX") (Str.ofString "MnemonicError") (Str.ofString "_tuplegetter") (Str.ofString "RawShare") (Str.ofString "_EXP_TABLE_00") (Str.ofString "_EXP_TABLE_01") (Str.ofString "EXP_TABLE") (Str.ofString "_LOG_TABLE_00") (Str.ofString "_LOG_TABLE_01") (Str.ofString "LOG_TABLE") (Str.ofString "_interpolate") (Str.ofString "_create_digest") (Str.ofString "_recover_secret") (Str.ofString "_law_ones") (Str.ofString "_law_spread") (Str.ofString "_law_number") (Str.ofString "_law_octets") (Str.ofString "_law_times") (Str.ofString "_law_inverse") (Str.ofString "_law_product") (Str.ofString "law") (Str.ofString "k") (Str.ofString "__main__") (Str.ofString "__module__") (Str.ofString "shamir_mnemonic.utils") (Str.ofString "__firstlineno__") (Str.ofString "__static_attributes__") (Str.ofString "__weakref__") (Str.ofString "self") (Str.ofString "index") (Str.ofString "doc") (Str.ofString "__init__") (Str.ofString "_tuplegetter.__init__") (Str.ofString "shamir_mnemonic.shamir") (Str.ofString "obj") (Str.ofString "objtype") (Str.ofString "__get__") (Str.ofString "_tuplegetter.__get__") (Str.ofString "value") (Str.ofString "__set__") (Str.ofString "_tuplegetter.__set__") (Str.ofString "__delete__") (Str.ofString "_tuplegetter.__delete__") (Str.ofString "__dict__") (Str.ofString "x") (Str.ofString "data") (Str.ofString "_cls") (Str.ofString "__new__") (Str.ofString "RawShare.__new__") (Str.ofString "cls") (Str.ofString "iterable") (Str.ofString "result") (Str.ofString "_make") (Str.ofString "RawShare._make") (Str.ofString "__qualname__") (Str.ofString "__class__") (Str.ofString "kwds") (Str.ofString "_replace") (Str.ofString "RawShare._replace") (Str.ofString "__repr__") (Str.ofString "RawShare.__repr__") (Str.ofString "_asdict") (Str.ofString "RawShare._asdict") (Str.ofString "__getnewargs__") (Str.ofString "RawShare.__getnewargs__") (Str.ofString "Alias for field number 0") (Str.ofString "Alias for field number 1") (Str.ofString "__slots__") (Str.ofString "_fields") (Str.ofString "_field_defaults") (Str.ofString "__replace__") (Str.ofString "__match_args__") (Str.ofString "shares") (Str.ofString "x_coordinates") (Str.ofString "share_value_lengths") (Str.ofString "log_prod") (Str.ofString "log_basis_eval") (Str.ofString "share") (Str.ofString "random_data") (Str.ofString "shared_secret") (Str.ofString "hmac_sha256") (Str.ofString "threshold") (Str.ofString "digest_share") (Str.ofString "digest") (Str.ofString "random_part") (Str.ofString "script") (Str.ofString "place") (Str.ofString "number") (Str.ofString "size") (Str.ofString "lanes") (Str.ofString "factor") (Str.ofString "total") (Str.ofString "tops") (Str.ofString "octet") (Str.ofString "_") (Str.ofString "places") (Str.ofString "<module>") (Str.ofString "__classcell__") (Str.ofString "Exception") (Str.ofString "issubclass") (Str.ofString "type") (Str.ofString "tuple") (Str.ofString "__getitem__") (Str.ofString "AttributeError") (Str.ofString "can't set attribute") (Str.ofString "can't delete attribute") (Str.ofString "len") (Str.ofString "TypeError") (Str.ofString "Expected 2 arguments, got ") (Str.ofString "classmethod") (Str.ofString "__len__") (Str.ofString "pop") (Str.ofString "map") (Str.ofString "Got unexpected field names: ") (Str.ofString "list") (Str.ofString "(x=%r, data=%r)") (Str.ofString "set") (Str.ofString ".0") (Str.ofString "Invalid set of shares. Share indices must be unique.") (Str.ofString "Invalid set of shares. All share values must have the same length.") (Str.ofString "sum") (Str.ofString "bytes") (Str.ofString "other") (Str.ofString "intermediate_sum") (Str.ofString "share_val") (Str.ofString "zip") (Str.ofString "Invalid digest of the shared secret.") (Str.ofString "to_bytes") (Str.ofString "big") (Str.ofString "range") (Str.ofString "least") (Str.ofString "count") (Str.ofString "free") (Str.ofString "values") (Str.ofString "points") (Str.ofString "secret") (Str.ofString "others") (Str.ofString "spoil") (Str.ofString "append") (Str.ofString "lead") (Str.ofString "rest") (Str.ofString "turned") (Str.ofString "answer") (Str.ofString "calls") (Str.ofString "mac") (Str.ofString "key") (Str.ofString "message") (Str.ofString "told") (Str.ofString "refused") (Str.ofString "fast") by kernel_rfl) (congr (congr (congr (congr (congr (congr (congr (congr (congr (congr (congr (congr (congr (congr (congr (congr (congr (congr (congr (congr (congr (congr (congr (congr (congr (congr (congr (congr (congr (congr (congr (congr (congr (congr (congr (congr (congr (congr (congr (congr (congr (congr (congr (congr (congr (congr (congr (congr (congr (congr (congr (congr (congr (congr (congr (congr (congr (congr (congr (congr (congr (congr (congr (congr (congr (congr (congr (congr (congr (congr (congr (congr (congr (congr (congr (congr (congr (congr (congr (congr (congr (congr (congr (congr (congr (congr (congr (congr (congr (congr (congr (congr (congr (congr (congr (congr (congr (congr (congr (congr (congr (congr (congr (congr (congr (congr (congr (congr (congr (congr (congr (congr (congr (congr (congr (congr (congr (congr (congr (congr (congr (congr (congr (congr (congr (congr (congr (congr (congr (congr (congr (congr (congr (congr (congr (congr (congr (congr (congr (congr (congr (congr (congr (congr (congr (congr (congr (congr (congr (congr (congr (congr (congr (congr (congr (congr (congr (congr (congr (congr (congr (congr (congr (congr (congr (congrArg progG e0) e1) e2) e3) e4) e5) e6) e7) e8) e9) e10) e11) e12) e13) e14) e15) e16) e17) e18) e19) e20) e21) e22) e23) e24) e25) e26) e27) e28) e29) e30) e31) e32) e33) e34) e35) e36) e37) e38) e39) e40) e41) e42) e43) e44) e45) e46) e47) e48) e49) e50) e51) e52) e53) e54) e55) e56) e57) e58) e59) e60) e61) e62) e63) e64) e65) e66) e67) e68) e69) e70) e71) e72) e73) e74) e75) e76) e77) e78) e79) e80) e81) e82) e83) e84) e85) e86) e87) e88) e89) e90) e91) e92) e93) e94) e95) e96) e97) e98) e99) e100) e101) e102) e103) e104) e105) e106) e107) e108) e109) e110) e111) e112) e113) e114) e115) e116) e117) e118) e119) e120) e121) e122) e123) e124) e125) e126) e127) e128) e129) e130) e131) e132) e133) e134) e135) e136) e137) e138) e139) e140) e141) e142) e143) e144) e145) e146) e147) e148) e149) e150) e151) e152) e153) e154) e155) e156) e157) e158) e159) e160) e161) e162) e163) e164) e165)
noncomputable def Wa0 (x : Program) : Arguments := argsOf (stAt x 0)
noncomputable def Za0 : Arguments := Wa0 progB
theorem ga0 : Wa0 PySem.Challenge.pw_jb0039_01 = Za0 := congrArg Wa0 prog_eq
noncomputable def Wb1 (x : Program) : List Stmt := bodyOf (stAt x 0)
noncomputable def Zb1 : List Stmt := Wb1 progB
theorem gb1 : Wb1 PySem.Challenge.pw_jb0039_01 = Zb1 := congrArg Wb1 prog_eq
noncomputable def Wc2 (x : Program) : Scope := scopeOf (stAt x 0)
noncomputable def Zc2 : Scope := Wc2 progB
theorem gc2 : Wc2 PySem.Challenge.pw_jb0039_01 = Zc2 := congrArg Wc2 prog_eq
noncomputable def Wa3 (x : Program) : Arguments := argsOf (inAt (stAt x 7) 0)
noncomputable def Za3 : Arguments := Wa3 progB
theorem ga3 : Wa3 PySem.Challenge.pw_jb0039_01 = Za3 := congrArg Wa3 prog_eq
noncomputable def Wb4 (x : Program) : List Stmt := bodyOf (inAt (stAt x 7) 0)
noncomputable def Zb4 : List Stmt := Wb4 progB
theorem gb4 : Wb4 PySem.Challenge.pw_jb0039_01 = Zb4 := congrArg Wb4 prog_eq
noncomputable def Wc5 (x : Program) : Scope := scopeOf (inAt (stAt x 7) 0)
noncomputable def Zc5 : Scope := Wc5 progB
theorem gc5 : Wc5 PySem.Challenge.pw_jb0039_01 = Zc5 := congrArg Wc5 prog_eq
noncomputable def Wa6 (x : Program) : Arguments := argsOf (inAt (stAt x 7) 1)
noncomputable def Za6 : Arguments := Wa6 progB
theorem ga6 : Wa6 PySem.Challenge.pw_jb0039_01 = Za6 := congrArg Wa6 prog_eq
noncomputable def Wb7 (x : Program) : List Stmt := bodyOf (inAt (stAt x 7) 1)
noncomputable def Zb7 : List Stmt := Wb7 progB
theorem gb7 : Wb7 PySem.Challenge.pw_jb0039_01 = Zb7 := congrArg Wb7 prog_eq
noncomputable def Wc8 (x : Program) : Scope := scopeOf (inAt (stAt x 7) 1)
noncomputable def Zc8 : Scope := Wc8 progB
theorem gc8 : Wc8 PySem.Challenge.pw_jb0039_01 = Zc8 := congrArg Wc8 prog_eq
noncomputable def Wa9 (x : Program) : Arguments := argsOf (inAt (stAt x 7) 2)
noncomputable def Za9 : Arguments := Wa9 progB
theorem ga9 : Wa9 PySem.Challenge.pw_jb0039_01 = Za9 := congrArg Wa9 prog_eq
noncomputable def Wb10 (x : Program) : List Stmt := bodyOf (inAt (stAt x 7) 2)
noncomputable def Zb10 : List Stmt := Wb10 progB
theorem gb10 : Wb10 PySem.Challenge.pw_jb0039_01 = Zb10 := congrArg Wb10 prog_eq
noncomputable def Wc11 (x : Program) : Scope := scopeOf (inAt (stAt x 7) 2)
noncomputable def Zc11 : Scope := Wc11 progB
theorem gc11 : Wc11 PySem.Challenge.pw_jb0039_01 = Zc11 := congrArg Wc11 prog_eq
noncomputable def Wa12 (x : Program) : Arguments := argsOf (inAt (stAt x 7) 3)
noncomputable def Za12 : Arguments := Wa12 progB
theorem ga12 : Wa12 PySem.Challenge.pw_jb0039_01 = Za12 := congrArg Wa12 prog_eq
noncomputable def Wb13 (x : Program) : List Stmt := bodyOf (inAt (stAt x 7) 3)
noncomputable def Zb13 : List Stmt := Wb13 progB
theorem gb13 : Wb13 PySem.Challenge.pw_jb0039_01 = Zb13 := congrArg Wb13 prog_eq
noncomputable def Wc14 (x : Program) : Scope := scopeOf (inAt (stAt x 7) 3)
noncomputable def Zc14 : Scope := Wc14 progB
theorem gc14 : Wc14 PySem.Challenge.pw_jb0039_01 = Zc14 := congrArg Wc14 prog_eq
noncomputable def Wd15 (x : Program) : Str := docOf (stAt x 8)
noncomputable def Zd15 : Str := Wd15 progB
theorem gd15 : Wd15 PySem.Challenge.pw_jb0039_01 = Zd15 := congrArg Wd15 prog_eq
noncomputable def Wa16 (x : Program) : Arguments := argsOf (inAt (stAt x 8) 4)
noncomputable def Za16 : Arguments := Wa16 progB
theorem ga16 : Wa16 PySem.Challenge.pw_jb0039_01 = Za16 := congrArg Wa16 prog_eq
noncomputable def Wb17 (x : Program) : List Stmt := bodyOf (inAt (stAt x 8) 4)
noncomputable def Zb17 : List Stmt := Wb17 progB
theorem gb17 : Wb17 PySem.Challenge.pw_jb0039_01 = Zb17 := congrArg Wb17 prog_eq
noncomputable def Wc18 (x : Program) : Scope := scopeOf (inAt (stAt x 8) 4)
noncomputable def Zc18 : Scope := Wc18 progB
theorem gc18 : Wc18 PySem.Challenge.pw_jb0039_01 = Zc18 := congrArg Wc18 prog_eq
noncomputable def Wd19 (x : Program) : Str := docOf (inAt (stAt x 8) 4)
noncomputable def Zd19 : Str := Wd19 progB
theorem gd19 : Wd19 PySem.Challenge.pw_jb0039_01 = Zd19 := congrArg Wd19 prog_eq
noncomputable def Wa20 (x : Program) : Arguments := argsOf (inAt (stAt x 8) 5)
noncomputable def Za20 : Arguments := Wa20 progB
theorem ga20 : Wa20 PySem.Challenge.pw_jb0039_01 = Za20 := congrArg Wa20 prog_eq
noncomputable def Wb21 (x : Program) : List Stmt := bodyOf (inAt (stAt x 8) 5)
noncomputable def Zb21 : List Stmt := Wb21 progB
theorem gb21 : Wb21 PySem.Challenge.pw_jb0039_01 = Zb21 := congrArg Wb21 prog_eq
noncomputable def Wc22 (x : Program) : Scope := scopeOf (inAt (stAt x 8) 5)
noncomputable def Zc22 : Scope := Wc22 progB
theorem gc22 : Wc22 PySem.Challenge.pw_jb0039_01 = Zc22 := congrArg Wc22 prog_eq
noncomputable def Wd23 (x : Program) : Str := docOf (inAt (stAt x 8) 5)
noncomputable def Zd23 : Str := Wd23 progB
theorem gd23 : Wd23 PySem.Challenge.pw_jb0039_01 = Zd23 := congrArg Wd23 prog_eq
noncomputable def Wa24 (x : Program) : Arguments := argsOf (inAt (stAt x 8) 6)
noncomputable def Za24 : Arguments := Wa24 progB
theorem ga24 : Wa24 PySem.Challenge.pw_jb0039_01 = Za24 := congrArg Wa24 prog_eq
noncomputable def Wb25 (x : Program) : List Stmt := bodyOf (inAt (stAt x 8) 6)
noncomputable def Zb25 : List Stmt := Wb25 progB
theorem gb25 : Wb25 PySem.Challenge.pw_jb0039_01 = Zb25 := congrArg Wb25 prog_eq
noncomputable def Wc26 (x : Program) : Scope := scopeOf (inAt (stAt x 8) 6)
noncomputable def Zc26 : Scope := Wc26 progB
theorem gc26 : Wc26 PySem.Challenge.pw_jb0039_01 = Zc26 := congrArg Wc26 prog_eq
noncomputable def Wd27 (x : Program) : Str := docOf (inAt (stAt x 8) 6)
noncomputable def Zd27 : Str := Wd27 progB
theorem gd27 : Wd27 PySem.Challenge.pw_jb0039_01 = Zd27 := congrArg Wd27 prog_eq
noncomputable def Wa28 (x : Program) : Arguments := argsOf (inAt (stAt x 8) 8)
noncomputable def Za28 : Arguments := Wa28 progB
theorem ga28 : Wa28 PySem.Challenge.pw_jb0039_01 = Za28 := congrArg Wa28 prog_eq
noncomputable def Wb29 (x : Program) : List Stmt := bodyOf (inAt (stAt x 8) 8)
noncomputable def Zb29 : List Stmt := Wb29 progB
theorem gb29 : Wb29 PySem.Challenge.pw_jb0039_01 = Zb29 := congrArg Wb29 prog_eq
noncomputable def Wc30 (x : Program) : Scope := scopeOf (inAt (stAt x 8) 8)
noncomputable def Zc30 : Scope := Wc30 progB
theorem gc30 : Wc30 PySem.Challenge.pw_jb0039_01 = Zc30 := congrArg Wc30 prog_eq
noncomputable def Wd31 (x : Program) : Str := docOf (inAt (stAt x 8) 8)
noncomputable def Zd31 : Str := Wd31 progB
theorem gd31 : Wd31 PySem.Challenge.pw_jb0039_01 = Zd31 := congrArg Wd31 prog_eq
noncomputable def Wa32 (x : Program) : Arguments := argsOf (inAt (stAt x 8) 9)
noncomputable def Za32 : Arguments := Wa32 progB
theorem ga32 : Wa32 PySem.Challenge.pw_jb0039_01 = Za32 := congrArg Wa32 prog_eq
noncomputable def Wb33 (x : Program) : List Stmt := bodyOf (inAt (stAt x 8) 9)
noncomputable def Zb33 : List Stmt := Wb33 progB
theorem gb33 : Wb33 PySem.Challenge.pw_jb0039_01 = Zb33 := congrArg Wb33 prog_eq
noncomputable def Wc34 (x : Program) : Scope := scopeOf (inAt (stAt x 8) 9)
noncomputable def Zc34 : Scope := Wc34 progB
theorem gc34 : Wc34 PySem.Challenge.pw_jb0039_01 = Zc34 := congrArg Wc34 prog_eq
noncomputable def Wa35 (x : Program) : Arguments := argsOf (inAt (stAt x 8) 10)
noncomputable def Za35 : Arguments := Wa35 progB
theorem ga35 : Wa35 PySem.Challenge.pw_jb0039_01 = Za35 := congrArg Wa35 prog_eq
noncomputable def Wb36 (x : Program) : List Stmt := bodyOf (inAt (stAt x 8) 10)
noncomputable def Zb36 : List Stmt := Wb36 progB
theorem gb36 : Wb36 PySem.Challenge.pw_jb0039_01 = Zb36 := congrArg Wb36 prog_eq
noncomputable def Wc37 (x : Program) : Scope := scopeOf (inAt (stAt x 8) 10)
noncomputable def Zc37 : Scope := Wc37 progB
theorem gc37 : Wc37 PySem.Challenge.pw_jb0039_01 = Zc37 := congrArg Wc37 prog_eq
noncomputable def Wd38 (x : Program) : Str := docOf (inAt (stAt x 8) 10)
noncomputable def Zd38 : Str := Wd38 progB
theorem gd38 : Wd38 PySem.Challenge.pw_jb0039_01 = Zd38 := congrArg Wd38 prog_eq
noncomputable def Wa39 (x : Program) : Arguments := argsOf (stAt x 15)
noncomputable def Za39 : Arguments := Wa39 progB
theorem ga39 : Wa39 PySem.Challenge.pw_jb0039_01 = Za39 := congrArg Wa39 prog_eq
noncomputable def Wb40 (x : Program) : List Stmt := bodyOf (stAt x 15)
noncomputable def Zb40 : List Stmt := Wb40 progB
theorem gb40 : Wb40 PySem.Challenge.pw_jb0039_01 = Zb40 := congrArg Wb40 prog_eq
noncomputable def Wc41 (x : Program) : Scope := scopeOf (stAt x 15)
noncomputable def Zc41 : Scope := Wc41 progB
theorem gc41 : Wc41 PySem.Challenge.pw_jb0039_01 = Zc41 := congrArg Wc41 prog_eq
noncomputable def Wd42 (x : Program) : Str := docOf (stAt x 15)
noncomputable def Zd42 : Str := Wd42 progB
theorem gd42 : Wd42 PySem.Challenge.pw_jb0039_01 = Zd42 := congrArg Wd42 prog_eq
noncomputable def Wa43 (x : Program) : Arguments := argsOf (stAt x 16)
noncomputable def Za43 : Arguments := Wa43 progB
theorem ga43 : Wa43 PySem.Challenge.pw_jb0039_01 = Za43 := congrArg Wa43 prog_eq
noncomputable def Wb44 (x : Program) : List Stmt := bodyOf (stAt x 16)
noncomputable def Zb44 : List Stmt := Wb44 progB
theorem gb44 : Wb44 PySem.Challenge.pw_jb0039_01 = Zb44 := congrArg Wb44 prog_eq
noncomputable def Wc45 (x : Program) : Scope := scopeOf (stAt x 16)
noncomputable def Zc45 : Scope := Wc45 progB
theorem gc45 : Wc45 PySem.Challenge.pw_jb0039_01 = Zc45 := congrArg Wc45 prog_eq
noncomputable def Wa46 (x : Program) : Arguments := argsOf (stAt x 17)
noncomputable def Za46 : Arguments := Wa46 progB
theorem ga46 : Wa46 PySem.Challenge.pw_jb0039_01 = Za46 := congrArg Wa46 prog_eq
noncomputable def Wb47 (x : Program) : List Stmt := bodyOf (stAt x 17)
noncomputable def Zb47 : List Stmt := Wb47 progB
theorem gb47 : Wb47 PySem.Challenge.pw_jb0039_01 = Zb47 := congrArg Wb47 prog_eq
noncomputable def Wc48 (x : Program) : Scope := scopeOf (stAt x 17)
noncomputable def Zc48 : Scope := Wc48 progB
theorem gc48 : Wc48 PySem.Challenge.pw_jb0039_01 = Zc48 := congrArg Wc48 prog_eq
noncomputable def Wa49 (x : Program) : Arguments := argsOf (stAt x 19)
noncomputable def Za49 : Arguments := Wa49 progB
theorem ga49 : Wa49 PySem.Challenge.pw_jb0039_01 = Za49 := congrArg Wa49 prog_eq
noncomputable def Wb50 (x : Program) : List Stmt := bodyOf (stAt x 19)
noncomputable def Zb50 : List Stmt := Wb50 progB
theorem gb50 : Wb50 PySem.Challenge.pw_jb0039_01 = Zb50 := congrArg Wb50 prog_eq
noncomputable def Wc51 (x : Program) : Scope := scopeOf (stAt x 19)
noncomputable def Zc51 : Scope := Wc51 progB
theorem gc51 : Wc51 PySem.Challenge.pw_jb0039_01 = Zc51 := congrArg Wc51 prog_eq
noncomputable def Wa52 (x : Program) : Arguments := argsOf (stAt x 21)
noncomputable def Za52 : Arguments := Wa52 progB
theorem ga52 : Wa52 PySem.Challenge.pw_jb0039_01 = Za52 := congrArg Wa52 prog_eq
noncomputable def Wb53 (x : Program) : List Stmt := bodyOf (stAt x 21)
noncomputable def Zb53 : List Stmt := Wb53 progB
theorem gb53 : Wb53 PySem.Challenge.pw_jb0039_01 = Zb53 := congrArg Wb53 prog_eq
noncomputable def Wc54 (x : Program) : Scope := scopeOf (stAt x 21)
noncomputable def Zc54 : Scope := Wc54 progB
theorem gc54 : Wc54 PySem.Challenge.pw_jb0039_01 = Zc54 := congrArg Wc54 prog_eq
noncomputable def Wa55 (x : Program) : Arguments := argsOf (stAt x 22)
noncomputable def Za55 : Arguments := Wa55 progB
theorem ga55 : Wa55 PySem.Challenge.pw_jb0039_01 = Za55 := congrArg Wa55 prog_eq
noncomputable def Wb56 (x : Program) : List Stmt := bodyOf (stAt x 22)
noncomputable def Zb56 : List Stmt := Wb56 progB
theorem gb56 : Wb56 PySem.Challenge.pw_jb0039_01 = Zb56 := congrArg Wb56 prog_eq
noncomputable def Wc57 (x : Program) : Scope := scopeOf (stAt x 22)
noncomputable def Zc57 : Scope := Wc57 progB
theorem gc57 : Wc57 PySem.Challenge.pw_jb0039_01 = Zc57 := congrArg Wc57 prog_eq
noncomputable def Wa58 (x : Program) : Arguments := argsOf (stAt x 23)
noncomputable def Za58 : Arguments := Wa58 progB
theorem ga58 : Wa58 PySem.Challenge.pw_jb0039_01 = Za58 := congrArg Wa58 prog_eq
noncomputable def Wb59 (x : Program) : List Stmt := bodyOf (stAt x 23)
noncomputable def Zb59 : List Stmt := Wb59 progB
theorem gb59 : Wb59 PySem.Challenge.pw_jb0039_01 = Zb59 := congrArg Wb59 prog_eq
noncomputable def Wc60 (x : Program) : Scope := scopeOf (stAt x 23)
noncomputable def Zc60 : Scope := Wc60 progB
theorem gc60 : Wc60 PySem.Challenge.pw_jb0039_01 = Zc60 := congrArg Wc60 prog_eq
noncomputable def Wa61 (x : Program) : Arguments := argsOf (stAt x 24)
noncomputable def Za61 : Arguments := Wa61 progB
theorem ga61 : Wa61 PySem.Challenge.pw_jb0039_01 = Za61 := congrArg Wa61 prog_eq
noncomputable def Wb62 (x : Program) : List Stmt := bodyOf (stAt x 24)
noncomputable def Zb62 : List Stmt := Wb62 progB
theorem gb62 : Wb62 PySem.Challenge.pw_jb0039_01 = Zb62 := congrArg Wb62 prog_eq
noncomputable def Wc63 (x : Program) : Scope := scopeOf (stAt x 24)
noncomputable def Zc63 : Scope := Wc63 progB
theorem gc63 : Wc63 PySem.Challenge.pw_jb0039_01 = Zc63 := congrArg Wc63 prog_eq
noncomputable def Wa64 (x : Program) : Arguments := argsOf (stAt x 25)
noncomputable def Za64 : Arguments := Wa64 progB
theorem ga64 : Wa64 PySem.Challenge.pw_jb0039_01 = Za64 := congrArg Wa64 prog_eq
noncomputable def Wb65 (x : Program) : List Stmt := bodyOf (stAt x 25)
noncomputable def Zb65 : List Stmt := Wb65 progB
theorem gb65 : Wb65 PySem.Challenge.pw_jb0039_01 = Zb65 := congrArg Wb65 prog_eq
noncomputable def Wc66 (x : Program) : Scope := scopeOf (stAt x 25)
noncomputable def Zc66 : Scope := Wc66 progB
theorem gc66 : Wc66 PySem.Challenge.pw_jb0039_01 = Zc66 := congrArg Wc66 prog_eq
noncomputable def Wa67 (x : Program) : Arguments := argsOf (stAt x 26)
noncomputable def Za67 : Arguments := Wa67 progB
theorem ga67 : Wa67 PySem.Challenge.pw_jb0039_01 = Za67 := congrArg Wa67 prog_eq
noncomputable def Wb68 (x : Program) : List Stmt := bodyOf (stAt x 26)
noncomputable def Zb68 : List Stmt := Wb68 progB
theorem gb68 : Wb68 PySem.Challenge.pw_jb0039_01 = Zb68 := congrArg Wb68 prog_eq
noncomputable def Wc69 (x : Program) : Scope := scopeOf (stAt x 26)
noncomputable def Zc69 : Scope := Wc69 progB
theorem gc69 : Wc69 PySem.Challenge.pw_jb0039_01 = Zc69 := congrArg Wc69 prog_eq
noncomputable def o0 (P : Params) : Obj := ⟨(.type t2), none, (.seq (List.toArray []) 0), (List.toArray [])⟩
noncomputable def o1 (P : Params) : Obj := ⟨.none, none, (.fields (List.toArray [])), (List.toArray [])⟩
noncomputable def o2 (P : Params) : Obj := ⟨(.type t3), none, (.fields (List.toArray [(.str s112 182), (.str s112 183), (.str s11 184), (.int 1 0), (.int 0 0), (.int 0 0), (.int 0 0), (.int 0 0), (.ref 11), (.bool false), (.int 181 0), (.ref 12), .none, .none, .none, .none, (.int 185 0), (.int 1 0), (.str s11 186)])), (List.toArray [])⟩
noncomputable def o3 (P : Params) : Obj := ⟨(.type t21), none, .plain, (List.toArray [(some (.ref 13)), (some (.ref 3)), (some (.ref 3)), none, (some (.str s38 164)), none, (some (.ref 0))])⟩
noncomputable def o4 (P : Params) : Obj := (h0 s0 s1 P)
noncomputable def o5 (P : Params) : Obj := ⟨(.type t0), none, (.dict (List.toArray [⟨(@PySem.PyData.keyHash P s2), (.str s2 165), (.str s49 222)⟩, ⟨(@PySem.PyData.keyHash P s4), (.str s4 166), .none⟩, ⟨(@PySem.PyData.keyHash P s5), (.str s5 167), .none⟩, ⟨(@PySem.PyData.keyHash P s6), (.str s6 168), (.builtin t1)⟩, ⟨(@PySem.PyData.keyHash P s7), (.str s7 169), .none⟩, ⟨(@PySem.PyData.keyHash P s8), (.str s8 170), (.ref 6)⟩, ⟨(@PySem.PyData.keyHash P s9), (.str s9 171), (.ref 4)⟩, ⟨(@PySem.PyData.keyHash P s10), (.str s10 173), (.str s11 172)⟩, ⟨(@PySem.PyData.keyHash P s12), (.str s12 174), .none⟩, ⟨(@PySem.PyData.keyHash P s13), (.str s13 193), (.ref 21)⟩, ⟨(@PySem.PyData.keyHash P s14), (.str s14 195), (.int 4 194)⟩, ⟨(@PySem.PyData.keyHash P s15), (.str s15 197), (.int 255 196)⟩, ⟨(@PySem.PyData.keyHash P s16), (.str s16 199), (.int 254 198)⟩, ⟨(@PySem.PyData.keyHash P s17), (.str s17 221), (.ref 31)⟩]) 14), (List.toArray [])⟩
noncomputable def o6 (P : Params) : Obj := ⟨.none, none, (.fields (List.toArray [(.int 1 0), (.int 0 0), (.ref 20), (.int 8 0), (.int 0 0), (.ref 27)])), (List.toArray [])⟩
noncomputable def o7 (P : Params) : Obj := ⟨(.type t2), none, (.seq (List.toArray []) 0), (List.toArray [])⟩
noncomputable def o8 (P : Params) : Obj := ⟨.none, none, (.fields (List.toArray [])), (List.toArray [])⟩
noncomputable def o9 (P : Params) : Obj := (h2 t2 s37)
noncomputable def o10 (P : Params) : Obj := ⟨(.type t2), none, (.seq (List.toArray []) 0), (List.toArray [])⟩
noncomputable def o11 (P : Params) : Obj := ⟨.none, none, (.func ⟨s13, s13, Za0, (.stmts Zb1), Zc2, 0, [], .none, .none, .none, .none, none, .none, .none, 0⟩), (List.toArray [])⟩
noncomputable def o12 (P : Params) : Obj := (h3 t3 s13 s11)
noncomputable def o13 (P : Params) : Obj := (h4 t4 s13 Za0 Zb1 Zc2 s38)
noncomputable def o14 (P : Params) : Obj := ⟨(.type t2), none, (.seq (List.toArray [(.type t6)]) 0), (List.toArray [])⟩
noncomputable def o15 (P : Params) : Obj := (h85 t17 t18 t5)
noncomputable def o16 (P : Params) : Obj := ⟨(.type t0), none, (.dict (List.toArray [⟨(@PySem.PyData.keyHash P s39), (.str s39 209), (.str s40 200)⟩, ⟨(@PySem.PyData.keyHash P s70), (.str s70 211), (.str s17 210)⟩, ⟨(@PySem.PyData.keyHash P s41), (.str s41 213), (.int 8 212)⟩, ⟨(@PySem.PyData.keyHash P s42), (.str s42 214), (.ref 29)⟩]) 4), (List.toArray [])⟩
noncomputable def o17 (P : Params) : Obj := ⟨(.type t2), none, (.seq (List.toArray []) 0), (List.toArray [])⟩
noncomputable def o18 (P : Params) : Obj := ⟨.none, none, (.fields (List.toArray [])), (List.toArray [])⟩
noncomputable def o19 (P : Params) : Obj := ⟨(.type t3), none, (.fields (List.toArray [(.str s17 204), (.str s17 205), (.str s11 206), (.int 8 0), (.int 0 0), (.int 0 0), (.int 0 0), (.int 0 0), (.ref 25), (.bool false), (.int 181 0), (.ref 26), .none, .none, .none, .none, (.int 207 0), (.int 8 0), (.str s11 208)])), (List.toArray [])⟩
noncomputable def o20 (P : Params) : Obj := ⟨(.type t21), none, .plain, (List.toArray [(some (.ref 27)), (some (.ref 3)), (some (.ref 24)), none, (some (.str s40 200)), none, (some (.ref 0))])⟩
noncomputable def o21 (P : Params) : Obj := ⟨(.type t2), none, (.seq (List.toArray []) 0), (List.toArray [])⟩
noncomputable def o22 (P : Params) : Obj := (h5 t0 s39 s40 s41 s42 s43 s4 P)
noncomputable def o23 (P : Params) : Obj := (h6 t5 s17 t6 t7 t8 t9)
noncomputable def o24 (P : Params) : Obj := (h7 t10 s43 t11)
noncomputable def o25 (P : Params) : Obj := ⟨(.type t22), none, (.fields (List.toArray [(.ref 31), (.ref 31), (.ref 31)])), (List.toArray [])⟩
noncomputable def o26 (P : Params) : Obj := ⟨(.type t17), none, (.fields (List.toArray [(.builtin t23), (.ref 31)])), (List.toArray [])⟩
noncomputable def o27 (P : Params) : Obj := ⟨(.type t0), none, (.dict (List.toArray [⟨(@PySem.PyData.keyHash P s2), (.str s2 165), (.str s49 222)⟩, ⟨(@PySem.PyData.keyHash P s4), (.str s4 166), .none⟩, ⟨(@PySem.PyData.keyHash P s5), (.str s5 167), .none⟩, ⟨(@PySem.PyData.keyHash P s6), (.str s6 168), (.builtin t1)⟩, ⟨(@PySem.PyData.keyHash P s7), (.str s7 169), .none⟩, ⟨(@PySem.PyData.keyHash P s8), (.str s8 170), (.ref 6)⟩, ⟨(@PySem.PyData.keyHash P s9), (.str s9 171), (.ref 4)⟩, ⟨(@PySem.PyData.keyHash P s10), (.str s10 173), (.str s11 172)⟩, ⟨(@PySem.PyData.keyHash P s12), (.str s12 174), .none⟩, ⟨(@PySem.PyData.keyHash P s13), (.str s13 193), (.ref 21)⟩, ⟨(@PySem.PyData.keyHash P s14), (.str s14 195), (.int 4 194)⟩, ⟨(@PySem.PyData.keyHash P s15), (.str s15 197), (.int 255 196)⟩, ⟨(@PySem.PyData.keyHash P s16), (.str s16 199), (.int 254 198)⟩, ⟨(@PySem.PyData.keyHash P s17), (.str s17 221), (.ref 31)⟩, ⟨(@PySem.PyData.keyHash P s18), (.str s18 280), (.ref 73)⟩]) 15), (List.toArray [])⟩
noncomputable def o28 (P : Params) : Obj := ⟨.none, none, (.fields (List.toArray [(.int 1 0), (.int 0 0), (.ref 20), (.int 8 0), (.int 0 0), (.ref 27), (.int 11 0), (.int 0 0), (.ref 40)])), (List.toArray [])⟩
noncomputable def o29 (P : Params) : Obj := ⟨(.type t2), none, (.seq (List.toArray []) 0), (List.toArray [])⟩
noncomputable def o30 (P : Params) : Obj := (h85 t17 t18 t5)
noncomputable def o31 (P : Params) : Obj := ⟨(.type t0), none, (.dict (List.toArray [⟨(@PySem.PyData.keyHash P s39), (.str s39 231), (.str s49 222)⟩, ⟨(@PySem.PyData.keyHash P s70), (.str s70 233), (.str s18 232)⟩, ⟨(@PySem.PyData.keyHash P s41), (.str s41 235), (.int 11 234)⟩, ⟨(@PySem.PyData.keyHash P s47), (.str s47 244), (.ref 48)⟩, ⟨(@PySem.PyData.keyHash P s52), (.str s52 253), (.ref 56)⟩, ⟨(@PySem.PyData.keyHash P s55), (.str s55 262), (.ref 63)⟩, ⟨(@PySem.PyData.keyHash P s57), (.str s57 270), (.ref 70)⟩, ⟨(@PySem.PyData.keyHash P s42), (.str s42 273), (.ref 71)⟩]) 8), (List.toArray [])⟩
noncomputable def o32 (P : Params) : Obj := ⟨(.type t2), none, (.seq (List.toArray []) 0), (List.toArray [])⟩
noncomputable def o33 (P : Params) : Obj := ⟨.none, none, (.fields (List.toArray [(.int 13 0), (.int 4 0), (.ref 47), (.int 17 0), (.int 4 0), (.ref 55), (.int 24 0), (.int 4 0), (.ref 62), (.int 27 0), (.int 4 0), (.ref 69)])), (List.toArray [])⟩
noncomputable def o34 (P : Params) : Obj := ⟨(.type t3), none, (.fields (List.toArray [(.str s18 226), (.str s18 227), (.str s11 228), (.int 11 0), (.int 0 0), (.int 0 0), (.int 0 0), (.int 0 0), (.ref 38), (.bool false), (.int 181 0), (.ref 39), .none, .none, .none, .none, (.int 229 0), (.int 11 0), (.str s11 230)])), (List.toArray [])⟩
noncomputable def o35 (P : Params) : Obj := ⟨(.type t21), none, .plain, (List.toArray [(some (.ref 40)), (some (.ref 3)), (some (.ref 37)), none, (some (.str s49 222)), none, (some (.ref 0))])⟩
noncomputable def o36 (P : Params) : Obj := ⟨(.type t2), none, (.seq (List.toArray []) 0), (List.toArray [])⟩
noncomputable def o37 (P : Params) : Obj := ⟨.none, none, (.fields (List.toArray [])), (List.toArray [])⟩
noncomputable def o38 (P : Params) : Obj := (h8 t2 s44 s45 s46)
noncomputable def o39 (P : Params) : Obj := ⟨(.type t2), none, (.seq (List.toArray []) 0), (List.toArray [])⟩
noncomputable def o40 (P : Params) : Obj := ⟨.none, none, (.func ⟨s47, s48, Za3, (.stmts Zb4), Zc5, 0, [], .none, .none, .none, .none, none, .none, .none, 0⟩), (List.toArray [])⟩
noncomputable def o41 (P : Params) : Obj := (h9 t3 s47 s48 s11)
noncomputable def o42 (P : Params) : Obj := (h10 t4 s47 s48 Za3 Zb4 Zc5 s49)
noncomputable def o43 (P : Params) : Obj := ⟨(.type t2), none, (.seq (List.toArray [.none]) 0), (List.toArray [])⟩
noncomputable def o44 (P : Params) : Obj := ⟨(.type t2), none, (.seq (List.toArray []) 0), (List.toArray [])⟩
noncomputable def o45 (P : Params) : Obj := ⟨.none, none, (.fields (List.toArray [])), (List.toArray [])⟩
noncomputable def o46 (P : Params) : Obj := (h11 t2 s44 s50 s51)
noncomputable def o47 (P : Params) : Obj := ⟨(.type t2), none, (.seq (List.toArray []) 0), (List.toArray [])⟩
noncomputable def o48 (P : Params) : Obj := ⟨.none, none, (.func ⟨s52, s53, Za6, (.stmts Zb7), Zc8, 0, [], .none, .none, .none, .none, none, .none, .none, 0⟩), (List.toArray [])⟩
noncomputable def o49 (P : Params) : Obj := (h12 t3 s52 s53 s11)
noncomputable def o50 (P : Params) : Obj := (h13 t4 s52 s53 Za6 Zb7 Zc8 s49)
noncomputable def o51 (P : Params) : Obj := ⟨(.type t2), none, (.seq (List.toArray []) 0), (List.toArray [])⟩
noncomputable def o52 (P : Params) : Obj := ⟨.none, none, (.fields (List.toArray [])), (List.toArray [])⟩
noncomputable def o53 (P : Params) : Obj := (h14 t2 s44 s50 s54)
noncomputable def o54 (P : Params) : Obj := ⟨(.type t2), none, (.seq (List.toArray []) 0), (List.toArray [])⟩
noncomputable def o55 (P : Params) : Obj := ⟨.none, none, (.func ⟨s55, s56, Za9, (.stmts Zb10), Zc11, 0, [], .none, .none, .none, .none, none, .none, .none, 0⟩), (List.toArray [])⟩
noncomputable def o56 (P : Params) : Obj := (h15 t3 s55 s56 s11)
noncomputable def o57 (P : Params) : Obj := (h16 t4 s55 s56 Za9 Zb10 Zc11 s49)
noncomputable def o58 (P : Params) : Obj := ⟨(.type t2), none, (.seq (List.toArray []) 0), (List.toArray [])⟩
noncomputable def o59 (P : Params) : Obj := ⟨.none, none, (.fields (List.toArray [])), (List.toArray [])⟩
noncomputable def o60 (P : Params) : Obj := (h17 t2 s44 s50)
noncomputable def o61 (P : Params) : Obj := ⟨(.type t2), none, (.seq (List.toArray []) 0), (List.toArray [])⟩
noncomputable def o62 (P : Params) : Obj := ⟨.none, none, (.func ⟨s57, s58, Za12, (.stmts Zb13), Zc14, 0, [], .none, .none, .none, .none, none, .none, .none, 0⟩), (List.toArray [])⟩
noncomputable def o63 (P : Params) : Obj := (h18 t3 s57 s58 s11)
noncomputable def o64 (P : Params) : Obj := (h19 t4 s57 s58 Za12 Zb13 Zc14 s49)
noncomputable def o65 (P : Params) : Obj := (h20 t2 s4 s45)
noncomputable def o66 (P : Params) : Obj := (h21 t0 s39 s49 s41 s47 s52 s55 s57 s42 s59 s43 s4 P)
noncomputable def o67 (P : Params) : Obj := (h22 t5 s18 t8 t12)
noncomputable def o68 (P : Params) : Obj := (h23 t10 s59 t13 t14)
noncomputable def o69 (P : Params) : Obj := (h24 t10 s43 t11)
noncomputable def o70 (P : Params) : Obj := ⟨(.type t22), none, (.fields (List.toArray [(.ref 73), (.ref 73), (.ref 73)])), (List.toArray [])⟩
noncomputable def o71 (P : Params) : Obj := ⟨(.type t17), none, (.fields (List.toArray [(.builtin t23), (.ref 73)])), (List.toArray [])⟩
noncomputable def o72 (P : Params) : Obj := ⟨(.type t0), none, (.dict (List.toArray [⟨(@PySem.PyData.keyHash P s2), (.str s2 165), (.str s49 222)⟩, ⟨(@PySem.PyData.keyHash P s4), (.str s4 166), .none⟩, ⟨(@PySem.PyData.keyHash P s5), (.str s5 167), .none⟩, ⟨(@PySem.PyData.keyHash P s6), (.str s6 168), (.builtin t1)⟩, ⟨(@PySem.PyData.keyHash P s7), (.str s7 169), .none⟩, ⟨(@PySem.PyData.keyHash P s8), (.str s8 170), (.ref 6)⟩, ⟨(@PySem.PyData.keyHash P s9), (.str s9 171), (.ref 4)⟩, ⟨(@PySem.PyData.keyHash P s10), (.str s10 173), (.str s11 172)⟩, ⟨(@PySem.PyData.keyHash P s12), (.str s12 174), .none⟩, ⟨(@PySem.PyData.keyHash P s13), (.str s13 193), (.ref 21)⟩, ⟨(@PySem.PyData.keyHash P s14), (.str s14 195), (.int 4 194)⟩, ⟨(@PySem.PyData.keyHash P s15), (.str s15 197), (.int 255 196)⟩, ⟨(@PySem.PyData.keyHash P s16), (.str s16 199), (.int 254 198)⟩, ⟨(@PySem.PyData.keyHash P s17), (.str s17 221), (.ref 31)⟩, ⟨(@PySem.PyData.keyHash P s18), (.str s18 280), (.ref 73)⟩, ⟨(@PySem.PyData.keyHash P s19), (.str s19 395), (.ref 145)⟩]) 16), (List.toArray [])⟩
noncomputable def o73 (P : Params) : Obj := ⟨.none, none, (.fields (List.toArray [(.int 1 0), (.int 0 0), (.ref 20), (.int 8 0), (.int 0 0), (.ref 27), (.int 11 0), (.int 0 0), (.ref 40), (.int 29 0), (.int 0 0), (.ref 84)])), (List.toArray [])⟩
noncomputable def o74 (P : Params) : Obj := ⟨(.type t2), none, (.seq (List.toArray [(.type t2)]) 0), (List.toArray [])⟩
noncomputable def o75 (P : Params) : Obj := (h85 t17 t18 t5)
noncomputable def o76 (P : Params) : Obj := ⟨(.type t0), none, (.dict (List.toArray [⟨(@PySem.PyData.keyHash P s39), (.str s39 288), (.str s49 222)⟩, ⟨(@PySem.PyData.keyHash P s70), (.str s70 290), (.str s19 289)⟩, ⟨(@PySem.PyData.keyHash P s41), (.str s41 292), (.int 29 291)⟩, ⟨(@PySem.PyData.keyHash P s4), (.str s4 294), (.str Zd15 293)⟩, ⟨(@PySem.PyData.keyHash P s83), (.str s83 296), (.ref 86)⟩, ⟨(@PySem.PyData.keyHash P s84), (.str s84 299), (.ref 87)⟩, ⟨(@PySem.PyData.keyHash P s85), (.str s85 300), (.ref 88)⟩, ⟨(@PySem.PyData.keyHash P s63), (.str s63 310), (.ref 95)⟩, ⟨(@PySem.PyData.keyHash P s68), (.str s68 332), (.ref 104)⟩, ⟨(@PySem.PyData.keyHash P s73), (.str s73 343), (.ref 113)⟩, ⟨(@PySem.PyData.keyHash P s86), (.str s86 344), (.ref 113)⟩, ⟨(@PySem.PyData.keyHash P s75), (.str s75 352), (.ref 120)⟩, ⟨(@PySem.PyData.keyHash P s77), (.str s77 359), (.ref 127)⟩, ⟨(@PySem.PyData.keyHash P s79), (.str s79 367), (.ref 134)⟩, ⟨(@PySem.PyData.keyHash P s87), (.str s87 370), (.ref 135)⟩, ⟨(@PySem.PyData.keyHash P s60), (.str s60 380), (.ref 137)⟩, ⟨(@PySem.PyData.keyHash P s61), (.str s61 390), (.ref 140)⟩, ⟨(@PySem.PyData.keyHash P s42), (.str s42 391), (.ref 142)⟩, ⟨(@PySem.PyData.keyHash P s113), (.str s113 392), (.ref 81)⟩]) 19), (List.toArray [])⟩
noncomputable def o77 (P : Params) : Obj := ⟨(.type t19), none, (.cell (some (.ref 145))), (List.toArray [])⟩
noncomputable def o78 (P : Params) : Obj := ⟨(.type t2), none, (.seq (List.toArray []) 0), (List.toArray [])⟩
noncomputable def o79 (P : Params) : Obj := ⟨.none, none, (.fields (List.toArray [(.int 35 0), (.int 4 0), (.ref 94), (.int 40 0), (.int 4 0), (.ref 101), (.int 47 0), (.int 4 0), (.ref 112), (.int 58 0), (.int 4 0), (.ref 119), (.int 62 0), (.int 4 0), (.ref 126), (.int 65 0), (.int 4 0), (.ref 133)])), (List.toArray [])⟩
noncomputable def o80 (P : Params) : Obj := ⟨(.type t3), none, (.fields (List.toArray [(.str s19 283), (.str s19 284), (.str s11 285), (.int 29 0), (.int 0 0), (.int 0 0), (.int 0 0), (.int 0 0), (.ref 82), (.bool false), (.int 181 0), (.ref 83), .none, .none, .none, .none, (.int 286 0), (.int 29 0), (.str s11 287)])), (List.toArray [])⟩
noncomputable def o81 (P : Params) : Obj := ⟨(.type t21), none, .plain, (List.toArray [(some (.ref 84)), (some (.ref 3)), (some (.ref 80)), none, (some (.str s49 222)), none, (some (.ref 0))])⟩
noncomputable def o82 (P : Params) : Obj := ⟨(.type t2), none, (.seq (List.toArray []) 0), (List.toArray [])⟩
noncomputable def o83 (P : Params) : Obj := (h25 t2 s60 s61)
noncomputable def o84 (P : Params) : Obj := ⟨(.type t0), none, (.dict (List.toArray []) 0), (List.toArray [])⟩
noncomputable def o85 (P : Params) : Obj := ⟨(.type t2), none, (.seq (List.toArray []) 0), (List.toArray [])⟩
noncomputable def o86 (P : Params) : Obj := ⟨.none, none, (.fields (List.toArray [])), (List.toArray [])⟩
noncomputable def o87 (P : Params) : Obj := (h26 t2 s62 s60 s61)
noncomputable def o88 (P : Params) : Obj := ⟨(.type t2), none, (.seq (List.toArray []) 0), (List.toArray [])⟩
noncomputable def o89 (P : Params) : Obj := ⟨.none, none, (.func ⟨s63, s64, Za16, (.stmts Zb17), Zc18, 0, [], .none, .none, .none, .none, none, .none, .none, 0⟩), (List.toArray [])⟩
noncomputable def o90 (P : Params) : Obj := (h27 t3 s63 s64 s11)
noncomputable def o91 (P : Params) : Obj := (h28 t4 s63 s64 Za16 Zb17 Zc18 Zd19 s49)
noncomputable def o92 (P : Params) : Obj := ⟨(.type t2), none, (.seq (List.toArray []) 0), (List.toArray [])⟩
noncomputable def o93 (P : Params) : Obj := ⟨.none, none, (.fields (List.toArray [])), (List.toArray [])⟩
noncomputable def o94 (P : Params) : Obj := (h29 t2 s65 s66 s67)
noncomputable def o95 (P : Params) : Obj := ⟨(.type t2), none, (.seq (List.toArray []) 0), (List.toArray [])⟩
noncomputable def o96 (P : Params) : Obj := ⟨.none, none, (.func ⟨s68, s69, Za20, (.stmts Zb21), Zc22, 0, [], .none, .none, .none, .none, none, .none, .none, 0⟩), (List.toArray [])⟩
noncomputable def o97 (P : Params) : Obj := (h30 t3 s68 s69 s11)
noncomputable def o98 (P : Params) : Obj := (h31 t4 s68 s69 Za20 Zb21 Zc22 Zd23 s49)
noncomputable def o99 (P : Params) : Obj := (h32 t0 s39 s49 s2 s68 s70 s69 s4 Zd23 s8 P)
noncomputable def o100 (P : Params) : Obj := (h33 t15)
noncomputable def o101 (P : Params) : Obj := ⟨(.type t0), none, (.dict (List.toArray []) 0), (List.toArray [])⟩
noncomputable def o102 (P : Params) : Obj := ⟨(.type t2), none, (.seq (List.toArray [(.ref 81)]) 0), (List.toArray [])⟩
noncomputable def o103 (P : Params) : Obj := (h34 t2 s71)
noncomputable def o104 (P : Params) : Obj := ⟨.none, none, (.fields (List.toArray [])), (List.toArray [])⟩
noncomputable def o105 (P : Params) : Obj := (h35 t2 s44 s72 s67)
noncomputable def o106 (P : Params) : Obj := ⟨(.type t2), none, (.seq (List.toArray []) 0), (List.toArray [])⟩
noncomputable def o107 (P : Params) : Obj := ⟨.none, none, (.func ⟨s73, s74, Za24, (.stmts Zb25), Zc26, 0, [], .none, .none, .none, .none, none, .none, .none, 0⟩), (List.toArray [])⟩
noncomputable def o108 (P : Params) : Obj := (h36 t3 s73 s74 s11)
noncomputable def o109 (P : Params) : Obj := (h37 t4 s73 s74 Za24 Zb25 Zc26 s71 Zd27 s49)
noncomputable def o110 (P : Params) : Obj := ⟨(.type t2), none, (.seq (List.toArray []) 0), (List.toArray [])⟩
noncomputable def o111 (P : Params) : Obj := ⟨.none, none, (.fields (List.toArray [])), (List.toArray [])⟩
noncomputable def o112 (P : Params) : Obj := (h38 t2 s44)
noncomputable def o113 (P : Params) : Obj := ⟨(.type t2), none, (.seq (List.toArray []) 0), (List.toArray [])⟩
noncomputable def o114 (P : Params) : Obj := ⟨.none, none, (.func ⟨s75, s76, Za28, (.stmts Zb29), Zc30, 0, [], .none, .none, .none, .none, none, .none, .none, 0⟩), (List.toArray [])⟩
noncomputable def o115 (P : Params) : Obj := (h39 t3 s75 s76 s11)
noncomputable def o116 (P : Params) : Obj := (h40 t4 s75 s76 Za28 Zb29 Zc30 Zd31 s49)
noncomputable def o117 (P : Params) : Obj := ⟨(.type t2), none, (.seq (List.toArray []) 0), (List.toArray [])⟩
noncomputable def o118 (P : Params) : Obj := ⟨.none, none, (.fields (List.toArray [])), (List.toArray [])⟩
noncomputable def o119 (P : Params) : Obj := (h41 t2 s44)
noncomputable def o120 (P : Params) : Obj := ⟨(.type t2), none, (.seq (List.toArray []) 0), (List.toArray [])⟩
noncomputable def o121 (P : Params) : Obj := ⟨.none, none, (.func ⟨s77, s78, Za32, (.stmts Zb33), Zc34, 0, [], .none, .none, .none, .none, none, .none, .none, 0⟩), (List.toArray [])⟩
noncomputable def o122 (P : Params) : Obj := (h42 t3 s77 s78 s11)
noncomputable def o123 (P : Params) : Obj := (h43 t4 s77 s78 Za32 Zb33 Zc34 s49)
noncomputable def o124 (P : Params) : Obj := ⟨(.type t2), none, (.seq (List.toArray []) 0), (List.toArray [])⟩
noncomputable def o125 (P : Params) : Obj := ⟨.none, none, (.fields (List.toArray [])), (List.toArray [])⟩
noncomputable def o126 (P : Params) : Obj := (h44 t2 s44)
noncomputable def o127 (P : Params) : Obj := ⟨(.type t2), none, (.seq (List.toArray []) 0), (List.toArray [])⟩
noncomputable def o128 (P : Params) : Obj := ⟨.none, none, (.func ⟨s79, s80, Za35, (.stmts Zb36), Zc37, 0, [], .none, .none, .none, .none, none, .none, .none, 0⟩), (List.toArray [])⟩
noncomputable def o129 (P : Params) : Obj := (h45 t3 s79 s80 s11)
noncomputable def o130 (P : Params) : Obj := (h46 t4 s79 s80 Za35 Zb36 Zc37 Zd38 s49)
noncomputable def o131 (P : Params) : Obj := (h47 t2 s60 s61)
noncomputable def o132 (P : Params) : Obj := (h48 t0 s45 s4 s81 P)
noncomputable def o133 (P : Params) : Obj := ⟨(.ref 73), (some 136), .plain, (List.toArray [])⟩
noncomputable def o134 (P : Params) : Obj := ⟨(.type t21), none, (.dict (List.toArray [⟨(@PySem.PyData.keyHash P s44), (.str s44 373), (.ref 137)⟩, ⟨(@PySem.PyData.keyHash P s45), (.str s45 374), (.int 0 371)⟩, ⟨(@PySem.PyData.keyHash P s46), (.str s46 375), (.str s81 372)⟩]) 3), (List.toArray [])⟩
noncomputable def o135 (P : Params) : Obj := (h49 t0 s45 s4 s82 P)
noncomputable def o136 (P : Params) : Obj := ⟨(.ref 73), (some 139), .plain, (List.toArray [])⟩
noncomputable def o137 (P : Params) : Obj := ⟨(.type t21), none, (.dict (List.toArray [⟨(@PySem.PyData.keyHash P s44), (.str s44 383), (.ref 140)⟩, ⟨(@PySem.PyData.keyHash P s45), (.str s45 384), (.int 1 381)⟩, ⟨(@PySem.PyData.keyHash P s46), (.str s46 385), (.str s82 382)⟩]) 3), (List.toArray [])⟩
noncomputable def o138 (P : Params) : Obj := ⟨(.type t2), none, (.seq (List.toArray []) 0), (List.toArray [])⟩
noncomputable def o139 (P : Params) : Obj := ⟨(.type t16), none, (.seq (List.toArray []) 0), (List.toArray [])⟩
noncomputable def o140 (P : Params) : Obj := (h50 t0 s39 s49 s41 s4 Zd15 s83 s84 s85 s63 s68 s73 s86 s75 s77 s79 s87 s60 s61 s42 P)
noncomputable def o141 (P : Params) : Obj := (h51 t5 s19 t2 t8)
noncomputable def o142 (P : Params) : Obj := ⟨(.type t20), none, (.fields (List.toArray [(.ref 95)])), (List.toArray [])⟩
noncomputable def o143 (P : Params) : Obj := ⟨(.type t22), none, (.fields (List.toArray [(.ref 145), (.ref 145), (.ref 145)])), (List.toArray [])⟩
noncomputable def o144 (P : Params) : Obj := ⟨(.type t17), none, (.fields (List.toArray [(.builtin t23), (.ref 145)])), (List.toArray [])⟩
noncomputable def o145 (P : Params) : Obj := ⟨(.type t0), none, (.dict (List.toArray [⟨(@PySem.PyData.keyHash P s2), (.str s2 165), (.str s49 222)⟩, ⟨(@PySem.PyData.keyHash P s4), (.str s4 166), .none⟩, ⟨(@PySem.PyData.keyHash P s5), (.str s5 167), .none⟩, ⟨(@PySem.PyData.keyHash P s6), (.str s6 168), (.builtin t1)⟩, ⟨(@PySem.PyData.keyHash P s7), (.str s7 169), .none⟩, ⟨(@PySem.PyData.keyHash P s8), (.str s8 170), (.ref 6)⟩, ⟨(@PySem.PyData.keyHash P s9), (.str s9 171), (.ref 4)⟩, ⟨(@PySem.PyData.keyHash P s10), (.str s10 173), (.str s11 172)⟩, ⟨(@PySem.PyData.keyHash P s12), (.str s12 174), .none⟩, ⟨(@PySem.PyData.keyHash P s13), (.str s13 193), (.ref 21)⟩, ⟨(@PySem.PyData.keyHash P s14), (.str s14 195), (.int 4 194)⟩, ⟨(@PySem.PyData.keyHash P s15), (.str s15 197), (.int 255 196)⟩, ⟨(@PySem.PyData.keyHash P s16), (.str s16 199), (.int 254 198)⟩, ⟨(@PySem.PyData.keyHash P s17), (.str s17 221), (.ref 31)⟩, ⟨(@PySem.PyData.keyHash P s18), (.str s18 280), (.ref 73)⟩, ⟨(@PySem.PyData.keyHash P s19), (.str s19 395), (.ref 145)⟩, ⟨(@PySem.PyData.keyHash P s20), (.str s20 524), (.ref 149)⟩, ⟨(@PySem.PyData.keyHash P s21), (.str s21 652), (.ref 150)⟩, ⟨(@PySem.PyData.keyHash P s22), (.str s22 653), (.ref 151)⟩]) 19), (List.toArray [])⟩
noncomputable def o146 (P : Params) : Obj := ⟨(.type t16), none, (.seq (List.toArray ((.int 1 396) :: (.int 3 397) :: (.int 5 398) :: (.int 15 399) :: (.int 17 400) :: (.int 51 401) :: (.int 85 402) :: (.int 255 403) :: (.int 26 404) :: (.int 46 405) :: (.int 114 406) :: (.int 150 407) :: (.int 161 408) :: (.int 248 409) :: (.int 19 410) :: (.int 53 411) :: (.int 95 412) :: (.int 225 413) :: (.int 56 414) :: (.int 72 415) :: (.int 216 416) :: (.int 115 417) :: (.int 149 418) :: (.int 164 419) :: (.int 247 420) :: (.int 2 421) :: (.int 6 422) :: (.int 10 423) :: (.int 30 424) :: (.int 34 425) :: (.int 102 426) :: (.int 170 427) :: (.int 229 428) :: (.int 52 429) :: (.int 92 430) :: (.int 228 431) :: (.int 55 432) :: (.int 89 433) :: (.int 235 434) :: (.int 38 435) :: (.int 106 436) :: (.int 190 437) :: (.int 217 438) :: (.int 112 439) :: (.int 144 440) :: (.int 171 441) :: (.int 230 442) :: (.int 49 443) :: (.int 83 444) :: (.int 245 445) :: (.int 4 446) :: (.int 12 447) :: (.int 20 448) :: (.int 60 449) :: (.int 68 450) :: (.int 204 451) :: (.int 79 452) :: (.int 209 453) :: (.int 104 454) :: (.int 184 455) :: (.int 211 456) :: (.int 110 457) :: (.int 178 458) :: (.int 205 459) :: (.int 76 460) :: (.int 212 461) :: (.int 103 462) :: (.int 169 463) :: (.int 224 464) :: (.int 59 465) :: (.int 77 466) :: (.int 215 467) :: (.int 98 468) :: (.int 166 469) :: (.int 241 470) :: (.int 8 471) :: (.int 24 472) :: (.int 40 473) :: (.int 120 474) :: (.int 136 475) :: (.int 131 476) :: (.int 158 477) :: (.int 185 478) :: (.int 208 479) :: (.int 107 480) :: (.int 189 481) :: (.int 220 482) :: (.int 127 483) :: (.int 129 484) :: (.int 152 485) :: (.int 179 486) :: (.int 206 487) :: (.int 73 488) :: (.int 219 489) :: (.int 118 490) :: (.int 154 491) :: (.int 181 492) :: (.int 196 493) :: (.int 87 494) :: (.int 249 495) :: (.int 16 496) :: (.int 48 497) :: (.int 80 498) :: (.int 240 499) :: (.int 11 500) :: (.int 29 501) :: (.int 39 502) :: (.int 105 503) :: (.int 187 504) :: (.int 214 505) :: (.int 97 506) :: (.int 163 507) :: (.int 254 508) :: (.int 25 509) :: (.int 43 510) :: (.int 125 511) :: (.int 135 512) :: (.int 146 513) :: (.int 173 514) :: (.int 236 515) :: (.int 47 516) :: (.int 113 517) :: (.int 147 518) :: (.int 174 519) :: (.int 233 520) :: (.int 32 521) :: (.int 96 522) :: (.int 160 523) :: [])) 0), (List.toArray [])⟩
noncomputable def o147 (P : Params) : Obj := ⟨(.type t16), none, (.seq (List.toArray h52) 0), (List.toArray [])⟩
noncomputable def o148 (P : Params) : Obj := (h53 t16)
noncomputable def o149 (P : Params) : Obj := ⟨(.type t0), none, (.dict (List.toArray [⟨(@PySem.PyData.keyHash P s2), (.str s2 165), (.str s49 222)⟩, ⟨(@PySem.PyData.keyHash P s4), (.str s4 166), .none⟩, ⟨(@PySem.PyData.keyHash P s5), (.str s5 167), .none⟩, ⟨(@PySem.PyData.keyHash P s6), (.str s6 168), (.builtin t1)⟩, ⟨(@PySem.PyData.keyHash P s7), (.str s7 169), .none⟩, ⟨(@PySem.PyData.keyHash P s8), (.str s8 170), (.ref 6)⟩, ⟨(@PySem.PyData.keyHash P s9), (.str s9 171), (.ref 4)⟩, ⟨(@PySem.PyData.keyHash P s10), (.str s10 173), (.str s11 172)⟩, ⟨(@PySem.PyData.keyHash P s12), (.str s12 174), .none⟩, ⟨(@PySem.PyData.keyHash P s13), (.str s13 193), (.ref 21)⟩, ⟨(@PySem.PyData.keyHash P s14), (.str s14 195), (.int 4 194)⟩, ⟨(@PySem.PyData.keyHash P s15), (.str s15 197), (.int 255 196)⟩, ⟨(@PySem.PyData.keyHash P s16), (.str s16 199), (.int 254 198)⟩, ⟨(@PySem.PyData.keyHash P s17), (.str s17 221), (.ref 31)⟩, ⟨(@PySem.PyData.keyHash P s18), (.str s18 280), (.ref 73)⟩, ⟨(@PySem.PyData.keyHash P s19), (.str s19 395), (.ref 145)⟩, ⟨(@PySem.PyData.keyHash P s20), (.str s20 524), (.ref 149)⟩, ⟨(@PySem.PyData.keyHash P s21), (.str s21 652), (.ref 150)⟩, ⟨(@PySem.PyData.keyHash P s22), (.str s22 653), (.ref 151)⟩, ⟨(@PySem.PyData.keyHash P s23), (.str s23 782), (.ref 152)⟩, ⟨(@PySem.PyData.keyHash P s24), (.str s24 911), (.ref 153)⟩, ⟨(@PySem.PyData.keyHash P s25), (.str s25 912), (.ref 154)⟩, ⟨(@PySem.PyData.keyHash P s26), (.str s26 928), (.ref 161)⟩, ⟨(@PySem.PyData.keyHash P s27), (.str s27 937), (.ref 168)⟩]) 24), (List.toArray [])⟩
noncomputable def o150 (P : Params) : Obj := ⟨.none, none, (.fields (List.toArray [(.int 1 0), (.int 0 0), (.ref 20), (.int 8 0), (.int 0 0), (.ref 27), (.int 11 0), (.int 0 0), (.ref 40), (.int 29 0), (.int 0 0), (.ref 84), (.int 77 0), (.int 0 0), (.ref 160), (.int 103 0), (.int 0 0), (.ref 167)])), (List.toArray [])⟩
noncomputable def o151 (P : Params) : Obj := ⟨(.type t16), none, (.seq (List.toArray ((.int 0 654) :: (.int 0 655) :: (.int 25 656) :: (.int 1 657) :: (.int 50 658) :: (.int 2 659) :: (.int 26 660) :: (.int 198 661) :: (.int 75 662) :: (.int 199 663) :: (.int 27 664) :: (.int 104 665) :: (.int 51 666) :: (.int 238 667) :: (.int 223 668) :: (.int 3 669) :: (.int 100 670) :: (.int 4 671) :: (.int 224 672) :: (.int 14 673) :: (.int 52 674) :: (.int 141 675) :: (.int 129 676) :: (.int 239 677) :: (.int 76 678) :: (.int 113 679) :: (.int 8 680) :: (.int 200 681) :: (.int 248 682) :: (.int 105 683) :: (.int 28 684) :: (.int 193 685) :: (.int 125 686) :: (.int 194 687) :: (.int 29 688) :: (.int 181 689) :: (.int 249 690) :: (.int 185 691) :: (.int 39 692) :: (.int 106 693) :: (.int 77 694) :: (.int 228 695) :: (.int 166 696) :: (.int 114 697) :: (.int 154 698) :: (.int 201 699) :: (.int 9 700) :: (.int 120 701) :: (.int 101 702) :: (.int 47 703) :: (.int 138 704) :: (.int 5 705) :: (.int 33 706) :: (.int 15 707) :: (.int 225 708) :: (.int 36 709) :: (.int 18 710) :: (.int 240 711) :: (.int 130 712) :: (.int 69 713) :: (.int 53 714) :: (.int 147 715) :: (.int 218 716) :: (.int 142 717) :: (.int 150 718) :: (.int 143 719) :: (.int 219 720) :: (.int 189 721) :: (.int 54 722) :: (.int 208 723) :: (.int 206 724) :: (.int 148 725) :: (.int 19 726) :: (.int 92 727) :: (.int 210 728) :: (.int 241 729) :: (.int 64 730) :: (.int 70 731) :: (.int 131 732) :: (.int 56 733) :: (.int 102 734) :: (.int 221 735) :: (.int 253 736) :: (.int 48 737) :: (.int 191 738) :: (.int 6 739) :: (.int 139 740) :: (.int 98 741) :: (.int 179 742) :: (.int 37 743) :: (.int 226 744) :: (.int 152 745) :: (.int 34 746) :: (.int 136 747) :: (.int 145 748) :: (.int 16 749) :: (.int 126 750) :: (.int 110 751) :: (.int 72 752) :: (.int 195 753) :: (.int 163 754) :: (.int 182 755) :: (.int 30 756) :: (.int 66 757) :: (.int 58 758) :: (.int 107 759) :: (.int 40 760) :: (.int 84 761) :: (.int 250 762) :: (.int 133 763) :: (.int 61 764) :: (.int 186 765) :: (.int 43 766) :: (.int 121 767) :: (.int 10 768) :: (.int 21 769) :: (.int 155 770) :: (.int 159 771) :: (.int 94 772) :: (.int 202 773) :: (.int 78 774) :: (.int 212 775) :: (.int 172 776) :: (.int 229 777) :: (.int 243 778) :: (.int 115 779) :: (.int 167 780) :: (.int 87 781) :: [])) 0), (List.toArray [])⟩
noncomputable def o152 (P : Params) : Obj := ⟨(.type t16), none, (.seq (List.toArray h54) 0), (List.toArray [])⟩
noncomputable def o153 (P : Params) : Obj := (h55 t16)
noncomputable def o154 (P : Params) : Obj := ⟨(.type t2), none, (.seq (List.toArray []) 0), (List.toArray [])⟩
noncomputable def o155 (P : Params) : Obj := ⟨.none, none, (.fields (List.toArray [])), (List.toArray [])⟩
noncomputable def o156 (P : Params) : Obj := (h56 t2 s88 s60 s89 s90 s91 s67)
noncomputable def o157 (P : Params) : Obj := (h57 t2 s60 s92 s93)
noncomputable def o158 (P : Params) : Obj := ⟨.none, none, (.func ⟨s26, s26, Za39, (.stmts Zb40), Zc41, 0, [], .none, .none, .none, .none, none, .none, .none, 0⟩), (List.toArray [])⟩
noncomputable def o159 (P : Params) : Obj := (h58 t3 s26 s11)
noncomputable def o160 (P : Params) : Obj := (h59 t4 s26 Za39 Zb40 Zc41 Zd42 s49)
noncomputable def o161 (P : Params) : Obj := ⟨(.type t2), none, (.seq (List.toArray []) 0), (List.toArray [])⟩
noncomputable def o162 (P : Params) : Obj := ⟨.none, none, (.fields (List.toArray [])), (List.toArray [])⟩
noncomputable def o163 (P : Params) : Obj := (h60 t2 s94 s95 s96)
noncomputable def o164 (P : Params) : Obj := ⟨(.type t2), none, (.seq (List.toArray []) 0), (List.toArray [])⟩
noncomputable def o165 (P : Params) : Obj := ⟨.none, none, (.func ⟨s27, s27, Za43, (.stmts Zb44), Zc45, 0, [], .none, .none, .none, .none, none, .none, .none, 0⟩), (List.toArray [])⟩
noncomputable def o166 (P : Params) : Obj := (h61 t3 s27 s11)
noncomputable def o167 (P : Params) : Obj := (h62 t4 s27 Za43 Zb44 Zc45 s49)
noncomputable def o168 (P : Params) : Obj := (h1 t0 s2 s3 s4 s5 s6 t1 s7 s8 s9 s10 s11 s12 s13 s14 s15 s16 s17 s18 s19 s20 s21 s22 s23 s24 s25 s26 s27 s28 s29 s30 s31 s32 s33 s34 s35 s36 P)
noncomputable def o169 (P : Params) : Obj := ⟨.none, none, (.fields (List.toArray [(.int 1 0), (.int 0 0), (.ref 20), (.int 8 0), (.int 0 0), (.ref 27), (.int 11 0), (.int 0 0), (.ref 40), (.int 29 0), (.int 0 0), (.ref 84), (.int 77 0), (.int 0 0), (.ref 160), (.int 103 0), (.int 0 0), (.ref 167), (.int 105 0), (.int 0 0), (.ref 174), (.int 116 0), (.int 0 0), (.ref 181), (.int 119 0), (.int 0 0), (.ref 188), (.int 121 0), (.int 0 0), (.ref 195), (.int 123 0), (.int 0 0), (.ref 202), (.int 132 0), (.int 0 0), (.ref 209), (.int 138 0), (.int 0 0), (.ref 216), (.int 143 0), (.int 0 0), (.ref 221)])), (List.toArray [])⟩
noncomputable def o170 (P : Params) : Obj := ⟨(.type t2), none, (.seq (List.toArray []) 0), (List.toArray [])⟩
noncomputable def o171 (P : Params) : Obj := ⟨.none, none, (.fields (List.toArray [])), (List.toArray [])⟩
noncomputable def o172 (P : Params) : Obj := (h63 t2 s97 s88 s96 s95 s98 s99 s100)
noncomputable def o173 (P : Params) : Obj := ⟨(.type t2), none, (.seq (List.toArray []) 0), (List.toArray [])⟩
noncomputable def o174 (P : Params) : Obj := ⟨.none, none, (.func ⟨s28, s28, Za46, (.stmts Zb47), Zc48, 0, [], .none, .none, .none, .none, none, .none, .none, 0⟩), (List.toArray [])⟩
noncomputable def o175 (P : Params) : Obj := (h64 t3 s28 s11)
noncomputable def o176 (P : Params) : Obj := (h65 t4 s28 Za46 Zb47 Zc48 s49)
noncomputable def o177 (P : Params) : Obj := ⟨(.type t2), none, (.seq (List.toArray []) 0), (List.toArray [])⟩
noncomputable def o178 (P : Params) : Obj := ⟨.none, none, (.fields (List.toArray [])), (List.toArray [])⟩
noncomputable def o179 (P : Params) : Obj := ⟨(.type t2), none, (.seq (List.toArray []) 0), (List.toArray [])⟩
noncomputable def o180 (P : Params) : Obj := ⟨(.type t2), none, (.seq (List.toArray []) 0), (List.toArray [])⟩
noncomputable def o181 (P : Params) : Obj := ⟨.none, none, (.func ⟨s29, s29, Za49, (.stmts Zb50), Zc51, 0, [], .none, .none, .none, .none, none, .none, .none, 0⟩), (List.toArray [])⟩
noncomputable def o182 (P : Params) : Obj := (h66 t3 s29 s11)
noncomputable def o183 (P : Params) : Obj := (h67 t4 s29 Za49 Zb50 Zc51 s3)
noncomputable def o184 (P : Params) : Obj := ⟨(.type t2), none, (.seq (List.toArray []) 0), (List.toArray [])⟩
noncomputable def o185 (P : Params) : Obj := ⟨.none, none, (.fields (List.toArray [])), (List.toArray [])⟩
noncomputable def o186 (P : Params) : Obj := (h68 t2 s101 s102)
noncomputable def o187 (P : Params) : Obj := ⟨(.type t2), none, (.seq (List.toArray []) 0), (List.toArray [])⟩
noncomputable def o188 (P : Params) : Obj := ⟨.none, none, (.func ⟨s31, s31, Za52, (.stmts Zb53), Zc54, 0, [], .none, .none, .none, .none, none, .none, .none, 0⟩), (List.toArray [])⟩
noncomputable def o189 (P : Params) : Obj := (h69 t3 s31 s11)
noncomputable def o190 (P : Params) : Obj := (h70 t4 s31 Za52 Zb53 Zc54 s3)
noncomputable def o191 (P : Params) : Obj := ⟨(.type t2), none, (.seq (List.toArray []) 0), (List.toArray [])⟩
noncomputable def o192 (P : Params) : Obj := ⟨.none, none, (.fields (List.toArray [])), (List.toArray [])⟩
noncomputable def o193 (P : Params) : Obj := (h71 t2 s103 s104)
noncomputable def o194 (P : Params) : Obj := ⟨(.type t2), none, (.seq (List.toArray []) 0), (List.toArray [])⟩
noncomputable def o195 (P : Params) : Obj := ⟨.none, none, (.func ⟨s32, s32, Za55, (.stmts Zb56), Zc57, 0, [], .none, .none, .none, .none, none, .none, .none, 0⟩), (List.toArray [])⟩
noncomputable def o196 (P : Params) : Obj := (h72 t3 s32 s11)
noncomputable def o197 (P : Params) : Obj := (h73 t4 s32 Za55 Zb56 Zc57 s3)
noncomputable def o198 (P : Params) : Obj := ⟨(.type t2), none, (.seq (List.toArray []) 0), (List.toArray [])⟩
noncomputable def o199 (P : Params) : Obj := ⟨.none, none, (.fields (List.toArray [])), (List.toArray [])⟩
noncomputable def o200 (P : Params) : Obj := (h74 t2 s105 s106 s107 s108)
noncomputable def o201 (P : Params) : Obj := ⟨(.type t2), none, (.seq (List.toArray []) 0), (List.toArray [])⟩
noncomputable def o202 (P : Params) : Obj := ⟨.none, none, (.func ⟨s33, s33, Za58, (.stmts Zb59), Zc60, 0, [], .none, .none, .none, .none, none, .none, .none, 0⟩), (List.toArray [])⟩
noncomputable def o203 (P : Params) : Obj := (h75 t3 s33 s11)
noncomputable def o204 (P : Params) : Obj := (h76 t4 s33 Za58 Zb59 Zc60 s3)
noncomputable def o205 (P : Params) : Obj := ⟨(.type t2), none, (.seq (List.toArray []) 0), (List.toArray [])⟩
noncomputable def o206 (P : Params) : Obj := ⟨.none, none, (.fields (List.toArray [])), (List.toArray [])⟩
noncomputable def o207 (P : Params) : Obj := (h77 t2 s109 s107 s110)
noncomputable def o208 (P : Params) : Obj := ⟨(.type t2), none, (.seq (List.toArray []) 0), (List.toArray [])⟩
noncomputable def o209 (P : Params) : Obj := ⟨.none, none, (.func ⟨s34, s34, Za61, (.stmts Zb62), Zc63, 0, [], .none, .none, .none, .none, none, .none, .none, 0⟩), (List.toArray [])⟩
noncomputable def o210 (P : Params) : Obj := (h78 t3 s34 s11)
noncomputable def o211 (P : Params) : Obj := (h79 t4 s34 Za61 Zb62 Zc63 s3)
noncomputable def o212 (P : Params) : Obj := ⟨(.type t2), none, (.seq (List.toArray []) 0), (List.toArray [])⟩
noncomputable def o213 (P : Params) : Obj := ⟨.none, none, (.fields (List.toArray [])), (List.toArray [])⟩
noncomputable def o214 (P : Params) : Obj := (h80 t2 s60 s111 s107 s102)
noncomputable def o215 (P : Params) : Obj := ⟨(.type t2), none, (.seq (List.toArray []) 0), (List.toArray [])⟩
noncomputable def o216 (P : Params) : Obj := ⟨.none, none, (.func ⟨s35, s35, Za64, (.stmts Zb65), Zc66, 0, [], .none, .none, .none, .none, none, .none, .none, 0⟩), (List.toArray [])⟩
noncomputable def o217 (P : Params) : Obj := (h81 t3 s35 s11)
noncomputable def o218 (P : Params) : Obj := (h82 t4 s35 Za64 Zb65 Zc66 s3)
noncomputable def o219 (P : Params) : Obj := ⟨(.type t2), none, (.seq (List.toArray []) 0), (List.toArray [])⟩
noncomputable def o220 (P : Params) : Obj := ⟨.none, none, (.fields (List.toArray [])), (List.toArray [])⟩
noncomputable def o221 (P : Params) : Obj := ⟨.none, none, (.func ⟨s36, s36, Za67, (.stmts Zb68), Zc69, 0, [], .none, .none, .none, .none, none, .none, .none, 0⟩), (List.toArray [])⟩
noncomputable def o222 (P : Params) : Obj := (h83 t3 s36 s11)
noncomputable def o223 (P : Params) : Obj := (h84 t4 s36 Za67 Zb68 Zc69 s3)
noncomputable def tree_47 (P : Params) : BT := (.node (PySem.W.boot_o_0 P) (.node (PySem.W.boot_o_1 P) (.node (PySem.W.boot_o_3 P) (.node (PySem.W.boot_o_7 P) .nil .nil) (.node (o0 P) .nil .nil)) (.node (PySem.W.boot_o_5 P) (.node (PySem.W.boot_o_9 P) .nil .nil) (.node (o2 P) .nil .nil))) (.node (PySem.W.boot_o_2 P) (.node (PySem.W.boot_o_4 P) (.node (PySem.W.boot_o_8 P) .nil .nil) (.node (o1 P) .nil .nil)) (.node (PySem.W.boot_o_6 P) (.node (PySem.W.boot_o_10 P) .nil .nil) (.node (o3 P) .nil .nil))))
noncomputable def tree_71 (P : Params) : BT := (.node (PySem.W.boot_o_0 P) (.node (PySem.W.boot_o_1 P) (.node (o5 P) (.node (PySem.W.boot_o_7 P) (.node (o7 P) (.node (o23 P) .nil .nil) .nil) (.node (o15 P) .nil .nil)) (.node (o0 P) (.node (o11 P) .nil .nil) (.node (o19 P) .nil .nil))) (.node (PySem.W.boot_o_5 P) (.node (PySem.W.boot_o_9 P) (.node (o9 P) (.node (o25 P) .nil .nil) .nil) (.node (o17 P) .nil .nil)) (.node (o2 P) (.node (o13 P) .nil .nil) (.node (o21 P) .nil .nil)))) (.node (o4 P) (.node (PySem.W.boot_o_4 P) (.node (PySem.W.boot_o_8 P) (.node (o8 P) (.node (o24 P) .nil .nil) .nil) (.node (o16 P) .nil .nil)) (.node (o6 P) (.node (o12 P) .nil .nil) (.node (o20 P) .nil .nil))) (.node (PySem.W.boot_o_6 P) (.node (PySem.W.boot_o_10 P) (.node (o10 P) (.node (o26 P) .nil .nil) .nil) (.node (o18 P) .nil .nil)) (.node (o3 P) (.node (o14 P) .nil .nil) (.node (o22 P) .nil .nil)))))
noncomputable def tree_116 (P : Params) : BT := (.node (PySem.W.boot_o_0 P) (.node (PySem.W.boot_o_1 P) (.node (o27 P) (.node (PySem.W.boot_o_7 P) (.node (o7 P) (.node (o23 P) (.node (o57 P) .nil .nil) .nil) (.node (o41 P) .nil .nil)) (.node (o15 P) (.node (o33 P) (.node (o65 P) .nil .nil) .nil) (.node (o49 P) .nil .nil))) (.node (o0 P) (.node (o11 P) (.node (o29 P) (.node (o61 P) .nil .nil) .nil) (.node (o45 P) .nil .nil)) (.node (o19 P) (.node (o37 P) (.node (o69 P) .nil .nil) .nil) (.node (o53 P) .nil .nil)))) (.node (PySem.W.boot_o_5 P) (.node (PySem.W.boot_o_9 P) (.node (o9 P) (.node (o25 P) (.node (o59 P) .nil .nil) .nil) (.node (o43 P) .nil .nil)) (.node (o17 P) (.node (o35 P) (.node (o67 P) .nil .nil) .nil) (.node (o51 P) .nil .nil))) (.node (o2 P) (.node (o13 P) (.node (o31 P) (.node (o63 P) .nil .nil) .nil) (.node (o47 P) .nil .nil)) (.node (o21 P) (.node (o39 P) (.node (o71 P) .nil .nil) .nil) (.node (o55 P) .nil .nil))))) (.node (o4 P) (.node (PySem.W.boot_o_4 P) (.node (PySem.W.boot_o_8 P) (.node (o8 P) (.node (o24 P) (.node (o58 P) .nil .nil) .nil) (.node (o42 P) .nil .nil)) (.node (o16 P) (.node (o34 P) (.node (o66 P) .nil .nil) .nil) (.node (o50 P) .nil .nil))) (.node (o28 P) (.node (o12 P) (.node (o30 P) (.node (o62 P) .nil .nil) .nil) (.node (o46 P) .nil .nil)) (.node (o20 P) (.node (o38 P) (.node (o70 P) .nil .nil) .nil) (.node (o54 P) .nil .nil)))) (.node (PySem.W.boot_o_6 P) (.node (PySem.W.boot_o_10 P) (.node (o10 P) (.node (o26 P) (.node (o60 P) .nil .nil) .nil) (.node (o44 P) .nil .nil)) (.node (o18 P) (.node (o36 P) (.node (o68 P) .nil .nil) .nil) (.node (o52 P) .nil .nil))) (.node (o3 P) (.node (o14 P) (.node (o32 P) (.node (o64 P) .nil .nil) .nil) (.node (o48 P) .nil .nil)) (.node (o22 P) (.node (o40 P) .nil .nil) (.node (o56 P) .nil .nil))))))
noncomputable def tree_189 (P : Params) : BT := (.node (PySem.W.boot_o_0 P) (.node (PySem.W.boot_o_1 P) (.node (o72 P) (.node (PySem.W.boot_o_7 P) (.node (o7 P) (.node (o23 P) (.node (o57 P) (.node (o123 P) .nil .nil) .nil) (.node (o91 P) .nil .nil)) (.node (o41 P) (.node (o75 P) (.node (o139 P) .nil .nil) .nil) (.node (o107 P) .nil .nil))) (.node (o15 P) (.node (o33 P) (.node (o65 P) (.node (o131 P) .nil .nil) .nil) (.node (o99 P) .nil .nil)) (.node (o49 P) (.node (o83 P) .nil .nil) (.node (o115 P) .nil .nil)))) (.node (o0 P) (.node (o11 P) (.node (o29 P) (.node (o61 P) (.node (o127 P) .nil .nil) .nil) (.node (o95 P) .nil .nil)) (.node (o45 P) (.node (o79 P) (.node (o143 P) .nil .nil) .nil) (.node (o111 P) .nil .nil))) (.node (o19 P) (.node (o37 P) (.node (o69 P) (.node (o135 P) .nil .nil) .nil) (.node (o103 P) .nil .nil)) (.node (o53 P) (.node (o87 P) .nil .nil) (.node (o119 P) .nil .nil))))) (.node (PySem.W.boot_o_5 P) (.node (PySem.W.boot_o_9 P) (.node (o9 P) (.node (o25 P) (.node (o59 P) (.node (o125 P) .nil .nil) .nil) (.node (o93 P) .nil .nil)) (.node (o43 P) (.node (o77 P) (.node (o141 P) .nil .nil) .nil) (.node (o109 P) .nil .nil))) (.node (o17 P) (.node (o35 P) (.node (o67 P) (.node (o133 P) .nil .nil) .nil) (.node (o101 P) .nil .nil)) (.node (o51 P) (.node (o85 P) .nil .nil) (.node (o117 P) .nil .nil)))) (.node (o2 P) (.node (o13 P) (.node (o31 P) (.node (o63 P) (.node (o129 P) .nil .nil) .nil) (.node (o97 P) .nil .nil)) (.node (o47 P) (.node (o81 P) .nil .nil) (.node (o113 P) .nil .nil))) (.node (o21 P) (.node (o39 P) (.node (o71 P) (.node (o137 P) .nil .nil) .nil) (.node (o105 P) .nil .nil)) (.node (o55 P) (.node (o89 P) .nil .nil) (.node (o121 P) .nil .nil)))))) (.node (o4 P) (.node (PySem.W.boot_o_4 P) (.node (PySem.W.boot_o_8 P) (.node (o8 P) (.node (o24 P) (.node (o58 P) (.node (o124 P) .nil .nil) .nil) (.node (o92 P) .nil .nil)) (.node (o42 P) (.node (o76 P) (.node (o140 P) .nil .nil) .nil) (.node (o108 P) .nil .nil))) (.node (o16 P) (.node (o34 P) (.node (o66 P) (.node (o132 P) .nil .nil) .nil) (.node (o100 P) .nil .nil)) (.node (o50 P) (.node (o84 P) .nil .nil) (.node (o116 P) .nil .nil)))) (.node (o73 P) (.node (o12 P) (.node (o30 P) (.node (o62 P) (.node (o128 P) .nil .nil) .nil) (.node (o96 P) .nil .nil)) (.node (o46 P) (.node (o80 P) (.node (o144 P) .nil .nil) .nil) (.node (o112 P) .nil .nil))) (.node (o20 P) (.node (o38 P) (.node (o70 P) (.node (o136 P) .nil .nil) .nil) (.node (o104 P) .nil .nil)) (.node (o54 P) (.node (o88 P) .nil .nil) (.node (o120 P) .nil .nil))))) (.node (PySem.W.boot_o_6 P) (.node (PySem.W.boot_o_10 P) (.node (o10 P) (.node (o26 P) (.node (o60 P) (.node (o126 P) .nil .nil) .nil) (.node (o94 P) .nil .nil)) (.node (o44 P) (.node (o78 P) (.node (o142 P) .nil .nil) .nil) (.node (o110 P) .nil .nil))) (.node (o18 P) (.node (o36 P) (.node (o68 P) (.node (o134 P) .nil .nil) .nil) (.node (o102 P) .nil .nil)) (.node (o52 P) (.node (o86 P) .nil .nil) (.node (o118 P) .nil .nil)))) (.node (o3 P) (.node (o14 P) (.node (o32 P) (.node (o64 P) (.node (o130 P) .nil .nil) .nil) (.node (o98 P) .nil .nil)) (.node (o48 P) (.node (o82 P) .nil .nil) (.node (o114 P) .nil .nil))) (.node (o22 P) (.node (o40 P) (.node (o74 P) (.node (o138 P) .nil .nil) .nil) (.node (o106 P) .nil .nil)) (.node (o56 P) (.node (o90 P) .nil .nil) (.node (o122 P) .nil .nil)))))))
noncomputable def tree_246 (P : Params) : BT := (.node (PySem.W.boot_o_0 P) (.node (PySem.W.boot_o_1 P) (.node (o145 P) (.node (PySem.W.boot_o_7 P) (.node (o7 P) (.node (o23 P) (.node (o57 P) (.node (o123 P) .nil .nil) .nil) (.node (o91 P) .nil .nil)) (.node (o41 P) (.node (o75 P) (.node (o139 P) .nil .nil) .nil) (.node (o107 P) .nil .nil))) (.node (o15 P) (.node (o33 P) (.node (o65 P) (.node (o131 P) .nil .nil) .nil) (.node (o99 P) .nil .nil)) (.node (o49 P) (.node (o83 P) (.node (o148 P) .nil .nil) .nil) (.node (o115 P) .nil .nil)))) (.node (o0 P) (.node (o11 P) (.node (o29 P) (.node (o61 P) (.node (o127 P) .nil .nil) .nil) (.node (o95 P) .nil .nil)) (.node (o45 P) (.node (o79 P) (.node (o143 P) .nil .nil) .nil) (.node (o111 P) .nil .nil))) (.node (o19 P) (.node (o37 P) (.node (o69 P) (.node (o135 P) .nil .nil) .nil) (.node (o103 P) .nil .nil)) (.node (o53 P) (.node (o87 P) .nil .nil) (.node (o119 P) .nil .nil))))) (.node (PySem.W.boot_o_5 P) (.node (PySem.W.boot_o_9 P) (.node (o9 P) (.node (o25 P) (.node (o59 P) (.node (o125 P) .nil .nil) .nil) (.node (o93 P) .nil .nil)) (.node (o43 P) (.node (o77 P) (.node (o141 P) .nil .nil) .nil) (.node (o109 P) .nil .nil))) (.node (o17 P) (.node (o35 P) (.node (o67 P) (.node (o133 P) .nil .nil) .nil) (.node (o101 P) .nil .nil)) (.node (o51 P) (.node (o85 P) .nil .nil) (.node (o117 P) .nil .nil)))) (.node (o2 P) (.node (o13 P) (.node (o31 P) (.node (o63 P) (.node (o129 P) .nil .nil) .nil) (.node (o97 P) .nil .nil)) (.node (o47 P) (.node (o81 P) (.node (o146 P) .nil .nil) .nil) (.node (o113 P) .nil .nil))) (.node (o21 P) (.node (o39 P) (.node (o71 P) (.node (o137 P) .nil .nil) .nil) (.node (o105 P) .nil .nil)) (.node (o55 P) (.node (o89 P) .nil .nil) (.node (o121 P) .nil .nil)))))) (.node (o4 P) (.node (PySem.W.boot_o_4 P) (.node (PySem.W.boot_o_8 P) (.node (o8 P) (.node (o24 P) (.node (o58 P) (.node (o124 P) .nil .nil) .nil) (.node (o92 P) .nil .nil)) (.node (o42 P) (.node (o76 P) (.node (o140 P) .nil .nil) .nil) (.node (o108 P) .nil .nil))) (.node (o16 P) (.node (o34 P) (.node (o66 P) (.node (o132 P) .nil .nil) .nil) (.node (o100 P) .nil .nil)) (.node (o50 P) (.node (o84 P) .nil .nil) (.node (o116 P) .nil .nil)))) (.node (o73 P) (.node (o12 P) (.node (o30 P) (.node (o62 P) (.node (o128 P) .nil .nil) .nil) (.node (o96 P) .nil .nil)) (.node (o46 P) (.node (o80 P) (.node (o144 P) .nil .nil) .nil) (.node (o112 P) .nil .nil))) (.node (o20 P) (.node (o38 P) (.node (o70 P) (.node (o136 P) .nil .nil) .nil) (.node (o104 P) .nil .nil)) (.node (o54 P) (.node (o88 P) .nil .nil) (.node (o120 P) .nil .nil))))) (.node (PySem.W.boot_o_6 P) (.node (PySem.W.boot_o_10 P) (.node (o10 P) (.node (o26 P) (.node (o60 P) (.node (o126 P) .nil .nil) .nil) (.node (o94 P) .nil .nil)) (.node (o44 P) (.node (o78 P) (.node (o142 P) .nil .nil) .nil) (.node (o110 P) .nil .nil))) (.node (o18 P) (.node (o36 P) (.node (o68 P) (.node (o134 P) .nil .nil) .nil) (.node (o102 P) .nil .nil)) (.node (o52 P) (.node (o86 P) .nil .nil) (.node (o118 P) .nil .nil)))) (.node (o3 P) (.node (o14 P) (.node (o32 P) (.node (o64 P) (.node (o130 P) .nil .nil) .nil) (.node (o98 P) .nil .nil)) (.node (o48 P) (.node (o82 P) (.node (o147 P) .nil .nil) .nil) (.node (o114 P) .nil .nil))) (.node (o22 P) (.node (o40 P) (.node (o74 P) (.node (o138 P) .nil .nil) .nil) (.node (o106 P) .nil .nil)) (.node (o56 P) (.node (o90 P) .nil .nil) (.node (o122 P) .nil .nil)))))))
noncomputable def tree_265 (P : Params) : BT := (.node (PySem.W.boot_o_0 P) (.node (PySem.W.boot_o_1 P) (.node (o149 P) (.node (PySem.W.boot_o_7 P) (.node (o7 P) (.node (o23 P) (.node (o57 P) (.node (o123 P) .nil .nil) .nil) (.node (o91 P) (.node (o158 P) .nil .nil) .nil)) (.node (o41 P) (.node (o75 P) (.node (o139 P) .nil .nil) .nil) (.node (o107 P) .nil .nil))) (.node (o15 P) (.node (o33 P) (.node (o65 P) (.node (o131 P) .nil .nil) .nil) (.node (o99 P) (.node (o166 P) .nil .nil) .nil)) (.node (o49 P) (.node (o83 P) (.node (o148 P) .nil .nil) .nil) (.node (o115 P) .nil .nil)))) (.node (o0 P) (.node (o11 P) (.node (o29 P) (.node (o61 P) (.node (o127 P) .nil .nil) .nil) (.node (o95 P) (.node (o162 P) .nil .nil) .nil)) (.node (o45 P) (.node (o79 P) (.node (o143 P) .nil .nil) .nil) (.node (o111 P) .nil .nil))) (.node (o19 P) (.node (o37 P) (.node (o69 P) (.node (o135 P) .nil .nil) .nil) (.node (o103 P) .nil .nil)) (.node (o53 P) (.node (o87 P) (.node (o154 P) .nil .nil) .nil) (.node (o119 P) .nil .nil))))) (.node (PySem.W.boot_o_5 P) (.node (PySem.W.boot_o_9 P) (.node (o9 P) (.node (o25 P) (.node (o59 P) (.node (o125 P) .nil .nil) .nil) (.node (o93 P) (.node (o160 P) .nil .nil) .nil)) (.node (o43 P) (.node (o77 P) (.node (o141 P) .nil .nil) .nil) (.node (o109 P) .nil .nil))) (.node (o17 P) (.node (o35 P) (.node (o67 P) (.node (o133 P) .nil .nil) .nil) (.node (o101 P) .nil .nil)) (.node (o51 P) (.node (o85 P) (.node (o152 P) .nil .nil) .nil) (.node (o117 P) .nil .nil)))) (.node (o2 P) (.node (o13 P) (.node (o31 P) (.node (o63 P) (.node (o129 P) .nil .nil) .nil) (.node (o97 P) (.node (o164 P) .nil .nil) .nil)) (.node (o47 P) (.node (o81 P) (.node (o146 P) .nil .nil) .nil) (.node (o113 P) .nil .nil))) (.node (o21 P) (.node (o39 P) (.node (o71 P) (.node (o137 P) .nil .nil) .nil) (.node (o105 P) .nil .nil)) (.node (o55 P) (.node (o89 P) (.node (o156 P) .nil .nil) .nil) (.node (o121 P) .nil .nil)))))) (.node (o4 P) (.node (PySem.W.boot_o_4 P) (.node (PySem.W.boot_o_8 P) (.node (o8 P) (.node (o24 P) (.node (o58 P) (.node (o124 P) .nil .nil) .nil) (.node (o92 P) (.node (o159 P) .nil .nil) .nil)) (.node (o42 P) (.node (o76 P) (.node (o140 P) .nil .nil) .nil) (.node (o108 P) .nil .nil))) (.node (o16 P) (.node (o34 P) (.node (o66 P) (.node (o132 P) .nil .nil) .nil) (.node (o100 P) (.node (o167 P) .nil .nil) .nil)) (.node (o50 P) (.node (o84 P) (.node (o151 P) .nil .nil) .nil) (.node (o116 P) .nil .nil)))) (.node (o150 P) (.node (o12 P) (.node (o30 P) (.node (o62 P) (.node (o128 P) .nil .nil) .nil) (.node (o96 P) (.node (o163 P) .nil .nil) .nil)) (.node (o46 P) (.node (o80 P) (.node (o144 P) .nil .nil) .nil) (.node (o112 P) .nil .nil))) (.node (o20 P) (.node (o38 P) (.node (o70 P) (.node (o136 P) .nil .nil) .nil) (.node (o104 P) .nil .nil)) (.node (o54 P) (.node (o88 P) (.node (o155 P) .nil .nil) .nil) (.node (o120 P) .nil .nil))))) (.node (PySem.W.boot_o_6 P) (.node (PySem.W.boot_o_10 P) (.node (o10 P) (.node (o26 P) (.node (o60 P) (.node (o126 P) .nil .nil) .nil) (.node (o94 P) (.node (o161 P) .nil .nil) .nil)) (.node (o44 P) (.node (o78 P) (.node (o142 P) .nil .nil) .nil) (.node (o110 P) .nil .nil))) (.node (o18 P) (.node (o36 P) (.node (o68 P) (.node (o134 P) .nil .nil) .nil) (.node (o102 P) .nil .nil)) (.node (o52 P) (.node (o86 P) (.node (o153 P) .nil .nil) .nil) (.node (o118 P) .nil .nil)))) (.node (o3 P) (.node (o14 P) (.node (o32 P) (.node (o64 P) (.node (o130 P) .nil .nil) .nil) (.node (o98 P) (.node (o165 P) .nil .nil) .nil)) (.node (o48 P) (.node (o82 P) (.node (o147 P) .nil .nil) .nil) (.node (o114 P) .nil .nil))) (.node (o22 P) (.node (o40 P) (.node (o74 P) (.node (o138 P) .nil .nil) .nil) (.node (o106 P) .nil .nil)) (.node (o56 P) (.node (o90 P) (.node (o157 P) .nil .nil) .nil) (.node (o122 P) .nil .nil)))))))
noncomputable def tree_321 (P : Params) : BT := (.node (PySem.W.boot_o_0 P) (.node (PySem.W.boot_o_1 P) (.node (o168 P) (.node (PySem.W.boot_o_7 P) (.node (o7 P) (.node (o23 P) (.node (o57 P) (.node (o123 P) .nil .nil) (.node (o192 P) .nil .nil)) (.node (o91 P) (.node (o158 P) .nil .nil) .nil)) (.node (o41 P) (.node (o75 P) (.node (o139 P) .nil .nil) (.node (o208 P) .nil .nil)) (.node (o107 P) (.node (o176 P) .nil .nil) .nil))) (.node (o15 P) (.node (o33 P) (.node (o65 P) (.node (o131 P) .nil .nil) (.node (o200 P) .nil .nil)) (.node (o99 P) (.node (o166 P) .nil .nil) .nil)) (.node (o49 P) (.node (o83 P) (.node (o148 P) .nil .nil) (.node (o216 P) .nil .nil)) (.node (o115 P) (.node (o184 P) .nil .nil) .nil)))) (.node (o0 P) (.node (o11 P) (.node (o29 P) (.node (o61 P) (.node (o127 P) .nil .nil) (.node (o196 P) .nil .nil)) (.node (o95 P) (.node (o162 P) .nil .nil) .nil)) (.node (o45 P) (.node (o79 P) (.node (o143 P) .nil .nil) (.node (o212 P) .nil .nil)) (.node (o111 P) (.node (o180 P) .nil .nil) .nil))) (.node (o19 P) (.node (o37 P) (.node (o69 P) (.node (o135 P) .nil .nil) (.node (o204 P) .nil .nil)) (.node (o103 P) (.node (o172 P) .nil .nil) .nil)) (.node (o53 P) (.node (o87 P) (.node (o154 P) .nil .nil) (.node (o220 P) .nil .nil)) (.node (o119 P) (.node (o188 P) .nil .nil) .nil))))) (.node (PySem.W.boot_o_5 P) (.node (PySem.W.boot_o_9 P) (.node (o9 P) (.node (o25 P) (.node (o59 P) (.node (o125 P) .nil .nil) (.node (o194 P) .nil .nil)) (.node (o93 P) (.node (o160 P) .nil .nil) .nil)) (.node (o43 P) (.node (o77 P) (.node (o141 P) .nil .nil) (.node (o210 P) .nil .nil)) (.node (o109 P) (.node (o178 P) .nil .nil) .nil))) (.node (o17 P) (.node (o35 P) (.node (o67 P) (.node (o133 P) .nil .nil) (.node (o202 P) .nil .nil)) (.node (o101 P) (.node (o170 P) .nil .nil) .nil)) (.node (o51 P) (.node (o85 P) (.node (o152 P) .nil .nil) (.node (o218 P) .nil .nil)) (.node (o117 P) (.node (o186 P) .nil .nil) .nil)))) (.node (o2 P) (.node (o13 P) (.node (o31 P) (.node (o63 P) (.node (o129 P) .nil .nil) (.node (o198 P) .nil .nil)) (.node (o97 P) (.node (o164 P) .nil .nil) .nil)) (.node (o47 P) (.node (o81 P) (.node (o146 P) .nil .nil) (.node (o214 P) .nil .nil)) (.node (o113 P) (.node (o182 P) .nil .nil) .nil))) (.node (o21 P) (.node (o39 P) (.node (o71 P) (.node (o137 P) .nil .nil) (.node (o206 P) .nil .nil)) (.node (o105 P) (.node (o174 P) .nil .nil) .nil)) (.node (o55 P) (.node (o89 P) (.node (o156 P) .nil .nil) (.node (o222 P) .nil .nil)) (.node (o121 P) (.node (o190 P) .nil .nil) .nil)))))) (.node (o4 P) (.node (PySem.W.boot_o_4 P) (.node (PySem.W.boot_o_8 P) (.node (o8 P) (.node (o24 P) (.node (o58 P) (.node (o124 P) .nil .nil) (.node (o193 P) .nil .nil)) (.node (o92 P) (.node (o159 P) .nil .nil) .nil)) (.node (o42 P) (.node (o76 P) (.node (o140 P) .nil .nil) (.node (o209 P) .nil .nil)) (.node (o108 P) (.node (o177 P) .nil .nil) .nil))) (.node (o16 P) (.node (o34 P) (.node (o66 P) (.node (o132 P) .nil .nil) (.node (o201 P) .nil .nil)) (.node (o100 P) (.node (o167 P) .nil .nil) .nil)) (.node (o50 P) (.node (o84 P) (.node (o151 P) .nil .nil) (.node (o217 P) .nil .nil)) (.node (o116 P) (.node (o185 P) .nil .nil) .nil)))) (.node (o169 P) (.node (o12 P) (.node (o30 P) (.node (o62 P) (.node (o128 P) .nil .nil) (.node (o197 P) .nil .nil)) (.node (o96 P) (.node (o163 P) .nil .nil) .nil)) (.node (o46 P) (.node (o80 P) (.node (o144 P) .nil .nil) (.node (o213 P) .nil .nil)) (.node (o112 P) (.node (o181 P) .nil .nil) .nil))) (.node (o20 P) (.node (o38 P) (.node (o70 P) (.node (o136 P) .nil .nil) (.node (o205 P) .nil .nil)) (.node (o104 P) (.node (o173 P) .nil .nil) .nil)) (.node (o54 P) (.node (o88 P) (.node (o155 P) .nil .nil) (.node (o221 P) .nil .nil)) (.node (o120 P) (.node (o189 P) .nil .nil) .nil))))) (.node (PySem.W.boot_o_6 P) (.node (PySem.W.boot_o_10 P) (.node (o10 P) (.node (o26 P) (.node (o60 P) (.node (o126 P) .nil .nil) (.node (o195 P) .nil .nil)) (.node (o94 P) (.node (o161 P) .nil .nil) .nil)) (.node (o44 P) (.node (o78 P) (.node (o142 P) .nil .nil) (.node (o211 P) .nil .nil)) (.node (o110 P) (.node (o179 P) .nil .nil) .nil))) (.node (o18 P) (.node (o36 P) (.node (o68 P) (.node (o134 P) .nil .nil) (.node (o203 P) .nil .nil)) (.node (o102 P) (.node (o171 P) .nil .nil) .nil)) (.node (o52 P) (.node (o86 P) (.node (o153 P) .nil .nil) (.node (o219 P) .nil .nil)) (.node (o118 P) (.node (o187 P) .nil .nil) .nil)))) (.node (o3 P) (.node (o14 P) (.node (o32 P) (.node (o64 P) (.node (o130 P) .nil .nil) (.node (o199 P) .nil .nil)) (.node (o98 P) (.node (o165 P) .nil .nil) .nil)) (.node (o48 P) (.node (o82 P) (.node (o147 P) .nil .nil) (.node (o215 P) .nil .nil)) (.node (o114 P) (.node (o183 P) .nil .nil) .nil))) (.node (o22 P) (.node (o40 P) (.node (o74 P) (.node (o138 P) .nil .nil) (.node (o207 P) .nil .nil)) (.node (o106 P) (.node (o175 P) .nil .nil) .nil)) (.node (o56 P) (.node (o90 P) (.node (o157 P) .nil .nil) (.node (o223 P) .nil .nil)) (.node (o122 P) (.node (o191 P) .nil .nil) .nil)))))))
noncomputable def heap_46 (P : Params) : Heap := ⟨⟨(PySem.W.boot_o_0 P) :: (PySem.W.boot_o_1 P) :: (PySem.W.boot_o_2 P) :: (PySem.W.boot_o_3 P) :: (PySem.W.boot_o_4 P) :: (PySem.W.boot_o_5 P) :: (PySem.W.boot_o_6 P) :: (PySem.W.boot_o_7 P) :: (PySem.W.boot_o_8 P) :: (PySem.W.boot_o_9 P) :: (PySem.W.boot_o_10 P) :: (o0 P) :: (o1 P) :: (o2 P) :: (o3 P) :: []⟩, ⟨[], [], [], 0, [], [], false, (List.toArray []), [], 0, false, false, false, 0, [2000, 10, 10], false, 0, true, [], [], 0, false⟩⟩
noncomputable def heap_322 (P : Params) : Heap := ⟨⟨(PySem.W.boot_o_0 P) :: (PySem.W.boot_o_1 P) :: (o4 P) :: (o168 P) :: (PySem.W.boot_o_4 P) :: (PySem.W.boot_o_5 P) :: (PySem.W.boot_o_6 P) :: (PySem.W.boot_o_7 P) :: (PySem.W.boot_o_8 P) :: (PySem.W.boot_o_9 P) :: (PySem.W.boot_o_10 P) :: (o0 P) :: (o169 P) :: (o2 P) :: (o3 P) :: (o7 P) :: (o8 P) :: (o9 P) :: (o10 P) :: (o11 P) :: (o12 P) :: (o13 P) :: (o14 P) :: (o15 P) :: (o16 P) :: (o17 P) :: (o18 P) :: (o19 P) :: (o20 P) :: (o21 P) :: (o22 P) :: (o23 P) :: (o24 P) :: (o25 P) :: (o26 P) :: (o29 P) :: (o30 P) :: (o31 P) :: (o32 P) :: (o33 P) :: (o34 P) :: (o35 P) :: (o36 P) :: (o37 P) :: (o38 P) :: (o39 P) :: (o40 P) :: (o41 P) :: (o42 P) :: (o43 P) :: (o44 P) :: (o45 P) :: (o46 P) :: (o47 P) :: (o48 P) :: (o49 P) :: (o50 P) :: (o51 P) :: (o52 P) :: (o53 P) :: (o54 P) :: (o55 P) :: (o56 P) :: (o57 P) :: (o58 P) :: (o59 P) :: (o60 P) :: (o61 P) :: (o62 P) :: (o63 P) :: (o64 P) :: (o65 P) :: (o66 P) :: (o67 P) :: (o68 P) :: (o69 P) :: (o70 P) :: (o71 P) :: (o74 P) :: (o75 P) :: (o76 P) :: (o77 P) :: (o78 P) :: (o79 P) :: (o80 P) :: (o81 P) :: (o82 P) :: (o83 P) :: (o84 P) :: (o85 P) :: (o86 P) :: (o87 P) :: (o88 P) :: (o89 P) :: (o90 P) :: (o91 P) :: (o92 P) :: (o93 P) :: (o94 P) :: (o95 P) :: (o96 P) :: (o97 P) :: (o98 P) :: (o99 P) :: (o100 P) :: (o101 P) :: (o102 P) :: (o103 P) :: (o104 P) :: (o105 P) :: (o106 P) :: (o107 P) :: (o108 P) :: (o109 P) :: (o110 P) :: (o111 P) :: (o112 P) :: (o113 P) :: (o114 P) :: (o115 P) :: (o116 P) :: (o117 P) :: (o118 P) :: (o119 P) :: (o120 P) :: (o121 P) :: (o122 P) :: (o123 P) :: (o124 P) :: (o125 P) :: (o126 P) :: (o127 P) :: (o128 P) :: (o129 P) :: (o130 P) :: (o131 P) :: (o132 P) :: (o133 P) :: (o134 P) :: (o135 P) :: (o136 P) :: (o137 P) :: (o138 P) :: (o139 P) :: (o140 P) :: (o141 P) :: (o142 P) :: (o143 P) :: (o144 P) :: (o146 P) :: (o147 P) :: (o148 P) :: (o151 P) :: (o152 P) :: (o153 P) :: (o154 P) :: (o155 P) :: (o156 P) :: (o157 P) :: (o158 P) :: (o159 P) :: (o160 P) :: (o161 P) :: (o162 P) :: (o163 P) :: (o164 P) :: (o165 P) :: (o166 P) :: (o167 P) :: (o170 P) :: (o171 P) :: (o172 P) :: (o173 P) :: (o174 P) :: (o175 P) :: (o176 P) :: (o177 P) :: (o178 P) :: (o179 P) :: (o180 P) :: (o181 P) :: (o182 P) :: (o183 P) :: (o184 P) :: (o185 P) :: (o186 P) :: (o187 P) :: (o188 P) :: (o189 P) :: (o190 P) :: (o191 P) :: (o192 P) :: (o193 P) :: (o194 P) :: (o195 P) :: (o196 P) :: (o197 P) :: (o198 P) :: (o199 P) :: (o200 P) :: (o201 P) :: (o202 P) :: (o203 P) :: (o204 P) :: (o205 P) :: (o206 P) :: (o207 P) :: (o208 P) :: (o209 P) :: (o210 P) :: (o211 P) :: (o212 P) :: (o213 P) :: (o214 P) :: (o215 P) :: (o216 P) :: (o217 P) :: (o218 P) :: (o219 P) :: (o220 P) :: (o221 P) :: (o222 P) :: (o223 P) :: []⟩, ⟨[], [], [], 0, [], [], false, (List.toArray []), [], 0, false, false, false, 0, [2000, 10, 10], false, 0, true, [], [], 0, false⟩⟩
noncomputable def sts_49 : List Stmt := [stAt progB 0, stAt progB 1, stAt progB 2, stAt progB 3, stAt progB 4, stAt progB 5, stAt progB 6]
noncomputable def sts_72 : List Stmt := [stAt progB 7]
noncomputable def sts_117 : List Stmt := [stAt progB 8]
noncomputable def sts_243 : List Stmt := [stAt progB 9, stAt progB 10, stAt progB 11]
noncomputable def sts_247 : List Stmt := [stAt progB 12, stAt progB 13, stAt progB 14, stAt progB 15, stAt progB 16]
noncomputable def sts_266 : List Stmt := [stAt progB 17, stAt progB 18, stAt progB 19, stAt progB 20, stAt progB 21, stAt progB 22, stAt progB 23, stAt progB 24, stAt progB 25, stAt progB 26]
noncomputable def KB : Params → Frag := KG s0 s1 t0 s2 s3 s4 s5 s6 t1 s7 s8 s9 s10 s11 s12 s13 s14 s15 s16 s17 s18 s19 s20 s21 s22 s23 s24 s25 s26 s27 s28 s29 s30 s31 s32 s33 s34 s35 s36 t2 s37 t3 t4 Za0 Zb1 Zc2 s38 t6 s39 s40 s41 s42 s43 t5 t7 t8 t9 t10 t11 s44 s45 s46 s47 s48 Za3 Zb4 Zc5 s49 s50 s51 s52 s53 Za6 Zb7 Zc8 s54 s55 s56 Za9 Zb10 Zc11 s57 s58 Za12 Zb13 Zc14 s59 t12 t13 t14 t19 s60 s61 s62 s63 s64 Za16 Zb17 Zc18 Zd19 s65 s66 s67 s68 s69 Za20 Zb21 Zc22 Zd23 s70 t15 s71 s72 s73 s74 Za24 Zb25 Zc26 Zd27 s75 s76 Za28 Zb29 Zc30 Zd31 s77 s78 Za32 Zb33 Zc34 s79 s80 Za35 Zb36 Zc37 Zd38 s81 s82 Zd15 s83 s84 s85 s86 s87 t20 t16 s88 s89 s90 s91 s92 s93 Za39 Zb40 Zc41 Zd42 s94 s95 s96 Za43 Zb44 Zc45 s97 s98 s99 s100 Za46 Zb47 Zc48 Za49 Zb50 Zc51 s101 s102 Za52 Zb53 Zc54 s103 s104 Za55 Zb56 Zc57 s105 s106 s107 s108 Za58 Zb59 Zc60 s109 s110 Za61 Zb62 Zc63 s111 Za64 Zb65 Zc66 Za67 Zb68 Zc69
noncomputable def VW (x : Program) : Program := { x with main := { x.main with body := [stAt x 0, stAt x 1, stAt x 2, stAt x 3, stAt x 5, stAt x 7, stAt x 8, stAt x 9, stAt x 10, stAt x 11, stAt x 12, stAt x 13, stAt x 14, stAt x 15, stAt x 16, stAt x 17, stAt x 19, stAt x 20, stAt x 21, stAt x 22, stAt x 23, stAt x 24, stAt x 25, stAt x 26] } }
noncomputable def viewB : Program := VW progB
noncomputable def Wd15o (x : Program) : Option Str := docO (stAt x 8)
noncomputable def Wd19o (x : Program) : Option Str := docO (inAt (stAt x 8) 4)
noncomputable def Wd23o (x : Program) : Option Str := docO (inAt (stAt x 8) 5)
noncomputable def Wd27o (x : Program) : Option Str := docO (inAt (stAt x 8) 6)
noncomputable def Wd31o (x : Program) : Option Str := docO (inAt (stAt x 8) 8)
noncomputable def Wd38o (x : Program) : Option Str := docO (inAt (stAt x 8) 10)
noncomputable def Wd42o (x : Program) : Option Str := docO (stAt x 15)
end Mine.D
namespace Mine
open Mine.D in
noncomputable def hd.heap_39 : Params → Frag := by
  refine (?f : (a0 : Arguments) → Wa0 PySem.Challenge.pw_jb0039_01 = a0 → (b1 : List Stmt) → Wb1 PySem.Challenge.pw_jb0039_01 = b1 → (c2 : Scope) → Wc2 PySem.Challenge.pw_jb0039_01 = c2 → (a3 : Arguments) → Wa3 PySem.Challenge.pw_jb0039_01 = a3 → (b4 : List Stmt) → Wb4 PySem.Challenge.pw_jb0039_01 = b4 → (c5 : Scope) → Wc5 PySem.Challenge.pw_jb0039_01 = c5 → (a6 : Arguments) → Wa6 PySem.Challenge.pw_jb0039_01 = a6 → (b7 : List Stmt) → Wb7 PySem.Challenge.pw_jb0039_01 = b7 → (c8 : Scope) → Wc8 PySem.Challenge.pw_jb0039_01 = c8 → (a9 : Arguments) → Wa9 PySem.Challenge.pw_jb0039_01 = a9 → (b10 : List Stmt) → Wb10 PySem.Challenge.pw_jb0039_01 = b10 → (c11 : Scope) → Wc11 PySem.Challenge.pw_jb0039_01 = c11 → (a12 : Arguments) → Wa12 PySem.Challenge.pw_jb0039_01 = a12 → (b13 : List Stmt) → Wb13 PySem.Challenge.pw_jb0039_01 = b13 → (c14 : Scope) → Wc14 PySem.Challenge.pw_jb0039_01 = c14 → (a16 : Arguments) → Wa16 PySem.Challenge.pw_jb0039_01 = a16 → (b17 : List Stmt) → Wb17 PySem.Challenge.pw_jb0039_01 = b17 → (c18 : Scope) → Wc18 PySem.Challenge.pw_jb0039_01 = c18 → (d19 : Str) → Wd19o PySem.Challenge.pw_jb0039_01 = some d19 → (a20 : Arguments) → Wa20 PySem.Challenge.pw_jb0039_01 = a20 → (b21 : List Stmt) → Wb21 PySem.Challenge.pw_jb0039_01 = b21 → (c22 : Scope) → Wc22 PySem.Challenge.pw_jb0039_01 = c22 → (d23 : Str) → Wd23o PySem.Challenge.pw_jb0039_01 = some d23 → (a24 : Arguments) → Wa24 PySem.Challenge.pw_jb0039_01 = a24 → (b25 : List Stmt) → Wb25 PySem.Challenge.pw_jb0039_01 = b25 → (c26 : Scope) → Wc26 PySem.Challenge.pw_jb0039_01 = c26 → (d27 : Str) → Wd27o PySem.Challenge.pw_jb0039_01 = some d27 → (a28 : Arguments) → Wa28 PySem.Challenge.pw_jb0039_01 = a28 → (b29 : List Stmt) → Wb29 PySem.Challenge.pw_jb0039_01 = b29 → (c30 : Scope) → Wc30 PySem.Challenge.pw_jb0039_01 = c30 → (d31 : Str) → Wd31o PySem.Challenge.pw_jb0039_01 = some d31 → (a32 : Arguments) → Wa32 PySem.Challenge.pw_jb0039_01 = a32 → (b33 : List Stmt) → Wb33 PySem.Challenge.pw_jb0039_01 = b33 → (c34 : Scope) → Wc34 PySem.Challenge.pw_jb0039_01 = c34 → (a35 : Arguments) → Wa35 PySem.Challenge.pw_jb0039_01 = a35 → (b36 : List Stmt) → Wb36 PySem.Challenge.pw_jb0039_01 = b36 → (c37 : Scope) → Wc37 PySem.Challenge.pw_jb0039_01 = c37 → (d38 : Str) → Wd38o PySem.Challenge.pw_jb0039_01 = some d38 → (d15 : Str) → Wd15o PySem.Challenge.pw_jb0039_01 = some d15 → (a39 : Arguments) → Wa39 PySem.Challenge.pw_jb0039_01 = a39 → (b40 : List Stmt) → Wb40 PySem.Challenge.pw_jb0039_01 = b40 → (c41 : Scope) → Wc41 PySem.Challenge.pw_jb0039_01 = c41 → (d42 : Str) → Wd42o PySem.Challenge.pw_jb0039_01 = some d42 → (a43 : Arguments) → Wa43 PySem.Challenge.pw_jb0039_01 = a43 → (b44 : List Stmt) → Wb44 PySem.Challenge.pw_jb0039_01 = b44 → (c45 : Scope) → Wc45 PySem.Challenge.pw_jb0039_01 = c45 → (a46 : Arguments) → Wa46 PySem.Challenge.pw_jb0039_01 = a46 → (b47 : List Stmt) → Wb47 PySem.Challenge.pw_jb0039_01 = b47 → (c48 : Scope) → Wc48 PySem.Challenge.pw_jb0039_01 = c48 → (a49 : Arguments) → Wa49 PySem.Challenge.pw_jb0039_01 = a49 → (b50 : List Stmt) → Wb50 PySem.Challenge.pw_jb0039_01 = b50 → (c51 : Scope) → Wc51 PySem.Challenge.pw_jb0039_01 = c51 → (a52 : Arguments) → Wa52 PySem.Challenge.pw_jb0039_01 = a52 → (b53 : List Stmt) → Wb53 PySem.Challenge.pw_jb0039_01 = b53 → (c54 : Scope) → Wc54 PySem.Challenge.pw_jb0039_01 = c54 → (a55 : Arguments) → Wa55 PySem.Challenge.pw_jb0039_01 = a55 → (b56 : List Stmt) → Wb56 PySem.Challenge.pw_jb0039_01 = b56 → (c57 : Scope) → Wc57 PySem.Challenge.pw_jb0039_01 = c57 → (a58 : Arguments) → Wa58 PySem.Challenge.pw_jb0039_01 = a58 → (b59 : List Stmt) → Wb59 PySem.Challenge.pw_jb0039_01 = b59 → (c60 : Scope) → Wc60 PySem.Challenge.pw_jb0039_01 = c60 → (a61 : Arguments) → Wa61 PySem.Challenge.pw_jb0039_01 = a61 → (b62 : List Stmt) → Wb62 PySem.Challenge.pw_jb0039_01 = b62 → (c63 : Scope) → Wc63 PySem.Challenge.pw_jb0039_01 = c63 → (a64 : Arguments) → Wa64 PySem.Challenge.pw_jb0039_01 = a64 → (b65 : List Stmt) → Wb65 PySem.Challenge.pw_jb0039_01 = b65 → (c66 : Scope) → Wc66 PySem.Challenge.pw_jb0039_01 = c66 → (a67 : Arguments) → Wa67 PySem.Challenge.pw_jb0039_01 = a67 → (b68 : List Stmt) → Wb68 PySem.Challenge.pw_jb0039_01 = b68 → (c69 : Scope) → Wc69 PySem.Challenge.pw_jb0039_01 = c69 → (x : Params → Frag) → x = KG (Str.ofString "type.__subclasses__.Exception.0") (Str.ofString "type.__subclasses__.Exception.n") "dict" (Str.ofString "__name__") (Str.ofString "law_jb0039_01") (Str.ofString "__doc__") (Str.ofString "__package__") (Str.ofString "__loader__") "__main__.__loader__#opaque" (Str.ofString "__spec__") (Str.ofString "__annotations__") (Str.ofString "__builtins__") (Str.ofString "__file__") (Str.ofString "/claim/cut.py") (Str.ofString "__cached__") (Str.ofString "_wall") (Str.ofString "DIGEST_LENGTH_BYTES") (Str.ofString "SECRET_INDEX") (Str.ofString "DIGEST_INDEX") (Str.ofString "MnemonicError") (Str.ofString "_tuplegetter") (Str.ofString "RawShare") (Str.ofString "_EXP_TABLE_00") (Str.ofString "_EXP_TABLE_01") (Str.ofString "EXP_TABLE") (Str.ofString "_LOG_TABLE_00") (Str.ofString "_LOG_TABLE_01") (Str.ofString "LOG_TABLE") (Str.ofString "_interpolate") (Str.ofString "_create_digest") (Str.ofString "_recover_secret") (Str.ofString "_law_ones") (Str.ofString "_law_spread") (Str.ofString "_law_number") (Str.ofString "_law_octets") (Str.ofString "_law_times") (Str.ofString "_law_inverse") (Str.ofString "_law_product") (Str.ofString "law") "tuple" (Str.ofString "k") "code" "function" a0 b1 c2 (Str.ofString "__main__") "Exception" (Str.ofString "__module__") (Str.ofString "shamir_mnemonic.utils") (Str.ofString "__firstlineno__") (Str.ofString "__static_attributes__") (Str.ofString "__weakref__") "type" "BaseException" "object" "Exception.__new__" "getset_descriptor" "ExceptionGroup.__weakref__" (Str.ofString "self") (Str.ofString "index") (Str.ofString "doc") (Str.ofString "__init__") (Str.ofString "_tuplegetter.__init__") a3 b4 c5 (Str.ofString "shamir_mnemonic.shamir") (Str.ofString "obj") (Str.ofString "objtype") (Str.ofString "__get__") (Str.ofString "_tuplegetter.__get__") a6 b7 c8 (Str.ofString "value") (Str.ofString "__set__") (Str.ofString "_tuplegetter.__set__") a9 b10 c11 (Str.ofString "__delete__") (Str.ofString "_tuplegetter.__delete__") a12 b13 c14 (Str.ofString "__dict__") "object.__new__" "function.__dict__" "function.__dict__#set" "cell" (Str.ofString "x") (Str.ofString "data") (Str.ofString "_cls") (Str.ofString "__new__") (Str.ofString "RawShare.__new__") a16 b17 c18 d19 (Str.ofString "cls") (Str.ofString "iterable") (Str.ofString "result") (Str.ofString "_make") (Str.ofString "RawShare._make") a20 b21 c22 d23 (Str.ofString "__qualname__") "classmethod" (Str.ofString "__class__") (Str.ofString "kwds") (Str.ofString "_replace") (Str.ofString "RawShare._replace") a24 b25 c26 d27 (Str.ofString "__repr__") (Str.ofString "RawShare.__repr__") a28 b29 c30 d31 (Str.ofString "_asdict") (Str.ofString "RawShare._asdict") a32 b33 c34 (Str.ofString "__getnewargs__") (Str.ofString "RawShare.__getnewargs__") a35 b36 c37 d38 (Str.ofString "Alias for field number 0") (Str.ofString "Alias for field number 1") d15 (Str.ofString "__slots__") (Str.ofString "_fields") (Str.ofString "_field_defaults") (Str.ofString "__replace__") (Str.ofString "__match_args__") "staticmethod" "list" (Str.ofString "shares") (Str.ofString "x_coordinates") (Str.ofString "share_value_lengths") (Str.ofString "log_prod") (Str.ofString "log_basis_eval") (Str.ofString "share") a39 b40 c41 d42 (Str.ofString "random_data") (Str.ofString "shared_secret") (Str.ofString "hmac_sha256") a43 b44 c45 (Str.ofString "threshold") (Str.ofString "digest_share") (Str.ofString "digest") (Str.ofString "random_part") a46 b47 c48 a49 b50 c51 (Str.ofString "script") (Str.ofString "place") a52 b53 c54 (Str.ofString "number") (Str.ofString "size") a55 b56 c57 (Str.ofString "lanes") (Str.ofString "factor") (Str.ofString "total") (Str.ofString "tops") a58 b59 c60 (Str.ofString "octet") (Str.ofString "_") a61 b62 c63 (Str.ofString "places") a64 b65 c66 a67 b68 c69 → Params → Frag) _ (by delta Wa0 PySem.Challenge.pw_jb0039_01; (conv => lhs; whnf) <;> exact rfl) _ (by delta Wb1 PySem.Challenge.pw_jb0039_01; (conv => lhs; whnf) <;> exact rfl) _ (by delta Wc2 PySem.Challenge.pw_jb0039_01; (conv => lhs; whnf) <;> exact rfl) _ (by delta Wa3 PySem.Challenge.pw_jb0039_01; (conv => lhs; whnf) <;> exact rfl) _ (by delta Wb4 PySem.Challenge.pw_jb0039_01; (conv => lhs; whnf) <;> exact rfl) _ (by delta Wc5 PySem.Challenge.pw_jb0039_01; (conv => lhs; whnf) <;> exact rfl) _ (by delta Wa6 PySem.Challenge.pw_jb0039_01; (conv => lhs; whnf) <;> exact rfl) _ (by delta Wb7 PySem.Challenge.pw_jb0039_01; (conv => lhs; whnf) <;> exact rfl) _ (by delta Wc8 PySem.Challenge.pw_jb0039_01; (conv => lhs; whnf) <;> exact rfl) _ (by delta Wa9 PySem.Challenge.pw_jb0039_01; (conv => lhs; whnf) <;> exact rfl) _ (by delta Wb10 PySem.Challenge.pw_jb0039_01; (conv => lhs; whnf) <;> exact rfl) _ (by delta Wc11 PySem.Challenge.pw_jb0039_01; (conv => lhs; whnf) <;> exact rfl) _ (by delta Wa12 PySem.Challenge.pw_jb0039_01; (conv => lhs; whnf) <;> exact rfl) _ (by delta Wb13 PySem.Challenge.pw_jb0039_01; (conv => lhs; whnf) <;> exact rfl) _ (by delta Wc14 PySem.Challenge.pw_jb0039_01; (conv => lhs; whnf) <;> exact rfl) _ (by delta Wa16 PySem.Challenge.pw_jb0039_01; (conv => lhs; whnf) <;> exact rfl) _ (by delta Wb17 PySem.Challenge.pw_jb0039_01; (conv => lhs; whnf) <;> exact rfl) _ (by delta Wc18 PySem.Challenge.pw_jb0039_01; (conv => lhs; whnf) <;> exact rfl) _ (by delta Wd19o PySem.Challenge.pw_jb0039_01; (conv => lhs; whnf) <;> exact rfl) _ (by delta Wa20 PySem.Challenge.pw_jb0039_01; (conv => lhs; whnf) <;> exact rfl) _ (by delta Wb21 PySem.Challenge.pw_jb0039_01; (conv => lhs; whnf) <;> exact rfl) _ (by delta Wc22 PySem.Challenge.pw_jb0039_01; (conv => lhs; whnf) <;> exact rfl) _ (by delta Wd23o PySem.Challenge.pw_jb0039_01; (conv => lhs; whnf) <;> exact rfl) _ (by delta Wa24 PySem.Challenge.pw_jb0039_01; (conv => lhs; whnf) <;> exact rfl) _ (by delta Wb25 PySem.Challenge.pw_jb0039_01; (conv => lhs; whnf) <;> exact rfl) _ (by delta Wc26 PySem.Challenge.pw_jb0039_01; (conv => lhs; whnf) <;> exact rfl) _ (by delta Wd27o PySem.Challenge.pw_jb0039_01; (conv => lhs; whnf) <;> exact rfl) _ (by delta Wa28 PySem.Challenge.pw_jb0039_01; (conv => lhs; whnf) <;> exact rfl) _ (by delta Wb29 PySem.Challenge.pw_jb0039_01; (conv => lhs; whnf) <;> exact rfl) _ (by delta Wc30 PySem.Challenge.pw_jb0039_01; (conv => lhs; whnf) <;> exact rfl) _ (by delta Wd31o PySem.Challenge.pw_jb0039_01; (conv => lhs; whnf) <;> exact rfl) _ (by delta Wa32 PySem.Challenge.pw_jb0039_01; (conv => lhs; whnf) <;> exact rfl) _ (by delta Wb33 PySem.Challenge.pw_jb0039_01; (conv => lhs; whnf) <;> exact rfl) _ (by delta Wc34 PySem.Challenge.pw_jb0039_01; (conv => lhs; whnf) <;> exact rfl) _ (by delta Wa35 PySem.Challenge.pw_jb0039_01; (conv => lhs; whnf) <;> exact rfl) _ (by delta Wb36 PySem.Challenge.pw_jb0039_01; (conv => lhs; whnf) <;> exact rfl) _ (by delta Wc37 PySem.Challenge.pw_jb0039_01; (conv => lhs; whnf) <;> exact rfl) _ (by delta Wd38o PySem.Challenge.pw_jb0039_01; (conv => lhs; whnf) <;> exact rfl) _ (by delta Wd15o PySem.Challenge.pw_jb0039_01; (conv => lhs; whnf) <;> exact rfl) _ (by delta Wa39 PySem.Challenge.pw_jb0039_01; (conv => lhs; whnf) <;> exact rfl) _ (by delta Wb40 PySem.Challenge.pw_jb0039_01; (conv => lhs; whnf) <;> exact rfl) _ (by delta Wc41 PySem.Challenge.pw_jb0039_01; (conv => lhs; whnf) <;> exact rfl) _ (by delta Wd42o PySem.Challenge.pw_jb0039_01; (conv => lhs; whnf) <;> exact rfl) _ (by delta Wa43 PySem.Challenge.pw_jb0039_01; (conv => lhs; whnf) <;> exact rfl) _ (by delta Wb44 PySem.Challenge.pw_jb0039_01; (conv => lhs; whnf) <;> exact rfl) _ (by delta Wc45 PySem.Challenge.pw_jb0039_01; (conv => lhs; whnf) <;> exact rfl) _ (by delta Wa46 PySem.Challenge.pw_jb0039_01; (conv => lhs; whnf) <;> exact rfl) _ (by delta Wb47 PySem.Challenge.pw_jb0039_01; (conv => lhs; whnf) <;> exact rfl) _ (by delta Wc48 PySem.Challenge.pw_jb0039_01; (conv => lhs; whnf) <;> exact rfl) _ (by delta Wa49 PySem.Challenge.pw_jb0039_01; (conv => lhs; whnf) <;> exact rfl) _ (by delta Wb50 PySem.Challenge.pw_jb0039_01; (conv => lhs; whnf) <;> exact rfl) _ (by delta Wc51 PySem.Challenge.pw_jb0039_01; (conv => lhs; whnf) <;> exact rfl) _ (by delta Wa52 PySem.Challenge.pw_jb0039_01; (conv => lhs; whnf) <;> exact rfl) _ (by delta Wb53 PySem.Challenge.pw_jb0039_01; (conv => lhs; whnf) <;> exact rfl) _ (by delta Wc54 PySem.Challenge.pw_jb0039_01; (conv => lhs; whnf) <;> exact rfl) _ (by delta Wa55 PySem.Challenge.pw_jb0039_01; (conv => lhs; whnf) <;> exact rfl) _ (by delta Wb56 PySem.Challenge.pw_jb0039_01; (conv => lhs; whnf) <;> exact rfl) _ (by delta Wc57 PySem.Challenge.pw_jb0039_01; (conv => lhs; whnf) <;> exact rfl) _ (by delta Wa58 PySem.Challenge.pw_jb0039_01; (conv => lhs; whnf) <;> exact rfl) _ (by delta Wb59 PySem.Challenge.pw_jb0039_01; (conv => lhs; whnf) <;> exact rfl) _ (by delta Wc60 PySem.Challenge.pw_jb0039_01; (conv => lhs; whnf) <;> exact rfl) _ (by delta Wa61 PySem.Challenge.pw_jb0039_01; (conv => lhs; whnf) <;> exact rfl) _ (by delta Wb62 PySem.Challenge.pw_jb0039_01; (conv => lhs; whnf) <;> exact rfl) _ (by delta Wc63 PySem.Challenge.pw_jb0039_01; (conv => lhs; whnf) <;> exact rfl) _ (by delta Wa64 PySem.Challenge.pw_jb0039_01; (conv => lhs; whnf) <;> exact rfl) _ (by delta Wb65 PySem.Challenge.pw_jb0039_01; (conv => lhs; whnf) <;> exact rfl) _ (by delta Wc66 PySem.Challenge.pw_jb0039_01; (conv => lhs; whnf) <;> exact rfl) _ (by delta Wa67 PySem.Challenge.pw_jb0039_01; (conv => lhs; whnf) <;> exact rfl) _ (by delta Wb68 PySem.Challenge.pw_jb0039_01; (conv => lhs; whnf) <;> exact rfl) _ (by delta Wc69 PySem.Challenge.pw_jb0039_01; (conv => lhs; whnf) <;> exact rfl) _ (by delta KG h45 h44 h50 h46 h39 h70 h72 h48 h53 h30 h36 h18 h49 h33 h20 h37 h82 h35 h69 h26 h71 h5 h2 h65 h63 h23 h12 h16 h60 h56 h40 h61 h66 h74 h4 h32 h6 h55 h17 h57 h42 h31 h15 h86 h34 h54 h8 h81 h83 h47 h28 h77 h51 h58 h27 h80 h0 h7 h62 h59 h41 h29 h10 h78 h85 h43 h21 h67 h64 h76 h38 h1 h24 h68 h9 h52 h73 h13 h25 h14 h11 h19 h22 h75 h3 h79 h84; exact rfl)
  exact fun _ _ _ _ _ _ _ _ _ _ _ _ _ _ _ _ _ _ _ _ _ _ _ _ _ _ _ _ _ _ _ _ _ _ _ _ _ _ _ _ _ _ _ _ _ _ _ _ _ _ _ _ _ _ _ _ _ _ _ _ _ _ _ _ _ _ _ _ _ _ _ _ _ _ _ _ _ _ _ _ _ _ _ _ _ _ _ _ _ _ _ _ _ _ _ _ _ _ _ _ _ _ _ _ _ _ _ _ _ _ _ _ _ _ _ _ _ _ _ _ _ _ _ _ _ _ _ _ _ _ _ _ _ _ _ _ _ _ _ _ x _ => x
noncomputable def hd.view_39 : Program := Mine.D.VW PySem.Challenge.pw_jb0039_01
end Mine
namespace Mine.D
theorem view_eq : hd.view_39 = viewB := congrArg VW prog_eq
theorem K_eq : hd.heap_39 = KB := Eq.trans (show hd.heap_39 = KG (Str.ofString "type.__subclasses__.Exception.0") (Str.ofString "type.__subclasses__.Exception.n") "dict" (Str.ofString "__name__") (Str.ofString "law_jb0039_01") (Str.ofString "__doc__") (Str.ofString "__package__") (Str.ofString "__loader__") "__main__.__loader__#opaque" (Str.ofString "__spec__") (Str.ofString "__annotations__") (Str.ofString "__builtins__") (Str.ofString "__file__") (Str.ofString "/claim/cut.py") (Str.ofString "__cached__") (Str.ofString "_wall") (Str.ofString "DIGEST_LENGTH_BYTES") (Str.ofString "SECRET_INDEX") (Str.ofString "DIGEST_INDEX") (Str.ofString "MnemonicError") (Str.ofString "_tuplegetter") (Str.ofString "RawShare") (Str.ofString "_EXP_TABLE_00") (Str.ofString "_EXP_TABLE_01") (Str.ofString "EXP_TABLE") (Str.ofString "_LOG_TABLE_00") (Str.ofString "_LOG_TABLE_01") (Str.ofString "LOG_TABLE") (Str.ofString "_interpolate") (Str.ofString "_create_digest") (Str.ofString "_recover_secret") (Str.ofString "_law_ones") (Str.ofString "_law_spread") (Str.ofString "_law_number") (Str.ofString "_law_octets") (Str.ofString "_law_times") (Str.ofString "_law_inverse") (Str.ofString "_law_product") (Str.ofString "law") "tuple" (Str.ofString "k") "code" "function" (Wa0 PySem.Challenge.pw_jb0039_01) (Wb1 PySem.Challenge.pw_jb0039_01) (Wc2 PySem.Challenge.pw_jb0039_01) (Str.ofString "__main__") "Exception" (Str.ofString "__module__") (Str.ofString "shamir_mnemonic.utils") (Str.ofString "__firstlineno__") (Str.ofString "__static_attributes__") (Str.ofString "__weakref__") "type" "BaseException" "object" "Exception.__new__" "getset_descriptor" "ExceptionGroup.__weakref__" (Str.ofString "self") (Str.ofString "index") (Str.ofString "doc") (Str.ofString "__init__") (Str.ofString "_tuplegetter.__init__") (Wa3 PySem.Challenge.pw_jb0039_01) (Wb4 PySem.Challenge.pw_jb0039_01) (Wc5 PySem.Challenge.pw_jb0039_01) (Str.ofString "shamir_mnemonic.shamir") (Str.ofString "obj") (Str.ofString "objtype") (Str.ofString "__get__") (Str.ofString "_tuplegetter.__get__") (Wa6 PySem.Challenge.pw_jb0039_01) (Wb7 PySem.Challenge.pw_jb0039_01) (Wc8 PySem.Challenge.pw_jb0039_01) (Str.ofString "value") (Str.ofString "__set__") (Str.ofString "_tuplegetter.__set__") (Wa9 PySem.Challenge.pw_jb0039_01) (Wb10 PySem.Challenge.pw_jb0039_01) (Wc11 PySem.Challenge.pw_jb0039_01) (Str.ofString "__delete__") (Str.ofString "_tuplegetter.__delete__") (Wa12 PySem.Challenge.pw_jb0039_01) (Wb13 PySem.Challenge.pw_jb0039_01) (Wc14 PySem.Challenge.pw_jb0039_01) (Str.ofString "__dict__") "object.__new__" "function.__dict__" "function.__dict__#set" "cell" (Str.ofString "x") (Str.ofString "data") (Str.ofString "_cls") (Str.ofString "__new__") (Str.ofString "RawShare.__new__") (Wa16 PySem.Challenge.pw_jb0039_01) (Wb17 PySem.Challenge.pw_jb0039_01) (Wc18 PySem.Challenge.pw_jb0039_01) (Wd19 PySem.Challenge.pw_jb0039_01) (Str.ofString "cls") (Str.ofString "iterable") (Str.ofString "result") (Str.ofString "_make") (Str.ofString "RawShare._make") (Wa20 PySem.Challenge.pw_jb0039_01) (Wb21 PySem.Challenge.pw_jb0039_01) (Wc22 PySem.Challenge.pw_jb0039_01) (Wd23 PySem.Challenge.pw_jb0039_01) (Str.ofString "__qualname__") "classmethod" (Str.ofString "__class__") (Str.ofString "kwds") (Str.ofString "_replace") (Str.ofString "RawShare._replace") (Wa24 PySem.Challenge.pw_jb0039_01) (Wb25 PySem.Challenge.pw_jb0039_01) (Wc26 PySem.Challenge.pw_jb0039_01) (Wd27 PySem.Challenge.pw_jb0039_01) (Str.ofString "__repr__") (Str.ofString "RawShare.__repr__") (Wa28 PySem.Challenge.pw_jb0039_01) (Wb29 PySem.Challenge.pw_jb0039_01) (Wc30 PySem.Challenge.pw_jb0039_01) (Wd31 PySem.Challenge.pw_jb0039_01) (Str.ofString "_asdict") (Str.ofString "RawShare._asdict") (Wa32 PySem.Challenge.pw_jb0039_01) (Wb33 PySem.Challenge.pw_jb0039_01) (Wc34 PySem.Challenge.pw_jb0039_01) (Str.ofString "__getnewargs__") (Str.ofString "RawShare.__getnewargs__") (Wa35 PySem.Challenge.pw_jb0039_01) (Wb36 PySem.Challenge.pw_jb0039_01) (Wc37 PySem.Challenge.pw_jb0039_01) (Wd38 PySem.Challenge.pw_jb0039_01) (Str.ofString "Alias for field number 0") (Str.ofString "Alias for field number 1") (Wd15 PySem.Challenge.pw_jb0039_01) (Str.ofString "__slots__") (Str.ofString "_fields") (Str.ofString "_field_defaults") (Str.ofString "__replace__") (Str.ofString "__match_args__") "staticmethod" "list" (Str.ofString "shares") (Str.ofString "x_coordinates") (Str.ofString "share_value_lengths") (Str.ofString "log_prod") (Str.ofString "log_basis_eval") (Str.ofString "share") (Wa39 PySem.Challenge.pw_jb0039_01) (Wb40 PySem.Challenge.pw_jb0039_01) (Wc41 PySem.Challenge.pw_jb0039_01) (Wd42 PySem.Challenge.pw_jb0039_01) (Str.ofString "random_data") (Str.ofString "shared_secret") (Str.ofString "hmac_sha256") (Wa43 PySem.Challenge.pw_jb0039_01) (Wb44 PySem.Challenge.pw_jb0039_01) (Wc45 PySem.Challenge.pw_jb0039_01) (Str.ofString "threshold") (Str.ofString "digest_share") (Str.ofString "digest") (Str.ofString "random_part") (Wa46 PySem.Challenge.pw_jb0039_01) (Wb47 PySem.Challenge.pw_jb0039_01) (Wc48 PySem.Challenge.pw_jb0039_01) (Wa49 PySem.Challenge.pw_jb0039_01) (Wb50 PySem.Challenge.pw_jb0039_01) (Wc51 PySem.Challenge.pw_jb0039_01) (Str.ofString "script") (Str.ofString "place") (Wa52 PySem.Challenge.pw_jb0039_01) (Wb53 PySem.Challenge.pw_jb0039_01) (Wc54 PySem.Challenge.pw_jb0039_01) (Str.ofString "number") (Str.ofString "size") (Wa55 PySem.Challenge.pw_jb0039_01) (Wb56 PySem.Challenge.pw_jb0039_01) (Wc57 PySem.Challenge.pw_jb0039_01) (Str.ofString "lanes") (Str.ofString "factor") (Str.ofString "total") (Str.ofString "tops") (Wa58 PySem.Challenge.pw_jb0039_01) (Wb59 PySem.Challenge.pw_jb0039_01) (Wc60 PySem.Challenge.pw_jb0039_01) (Str.ofString "octet") (Str.ofString "_") (Wa61 PySem.Challenge.pw_jb0039_01) (Wb62 PySem.Challenge.pw_jb0039_01) (Wc63 PySem.Challenge.pw_jb0039_01) (Str.ofString "places") (Wa64 PySem.Challenge.pw_jb0039_01) (Wb65 PySem.Challenge.pw_jb0039_01) (Wc66 PySem.Challenge.pw_jb0039_01) (Wa67 PySem.Challenge.pw_jb0039_01) (Wb68 PySem.Challenge.pw_jb0039_01) (Wc69 PySem.Challenge.pw_jb0039_01) by kernel_rfl) (congr (congr (congr (congr (congr (congr (congr (congr (congr (congr (congr (congr (congr (congr (congr (congr (congr (congr (congr (congr (congr (congr (congr (congr (congr (congr (congr (congr (congr (congr (congr (congr (congr (congr (congr (congr (congr (congr (congr (congr (congr (congr (congr (congr (congr (congr (congr (congr (congr (congr (congr (congr (congr (congr (congr (congr (congr (congr (congr (congr (congr (congr (congr (congr (congr (congr (congr (congr (congr (congr (congr (congr (congr (congr (congr (congr (congr (congr (congr (congr (congr (congr (congr (congr (congr (congr (congr (congr (congr (congr (congr (congr (congr (congr (congr (congr (congr (congr (congr (congr (congr (congr (congr (congr (congr (congr (congr (congr (congr (congr (congr (congr (congr (congr (congr (congr (congr (congr (congr (congr (congr (congr (congr (congr (congr (congr (congr (congr (congr (congr (congr (congr (congr (congr (congr (congr (congr (congr (congr (congr (congr (congr (congr (congr (congr (congr (congr (congr (congr (congr (congr (congr (congr (congr (congr (congr (congr (congr (congr (congr (congr (congr (congr (congr (congr (congr (congr (congr (congr (congr (congr (congr (congr (congr (congr (congr (congr (congr (congr (congr (congr (congr (congr (congr (congr (congr (congr (congr (congr (congr (congr (congr (congr (congr (congr (congr (congr (congr (congr (congr (congrArg KG e0) e1) f0) e2) e3) e4) e5) e6) f1) e7) e8) e9) e10) e11) e12) e13) e14) e15) e16) e17) e18) e19) e20) e21) e22) e23) e24) e25) e26) e27) e28) e29) e30) e31) e32) e33) e34) e35) e36) f2) e37) f3) f4) ga0) gb1) gc2) e38) f6) e39) e40) e41) e42) e43) f5) f7) f8) f9) f10) f11) e44) e45) e46) e47) e48) ga3) gb4) gc5) e49) e50) e51) e52) e53) ga6) gb7) gc8) e54) e55) e56) ga9) gb10) gc11) e57) e58) ga12) gb13) gc14) e59) f12) f13) f14) f19) e60) e61) e62) e63) e64) ga16) gb17) gc18) gd19) e65) e66) e67) e68) e69) ga20) gb21) gc22) gd23) e70) f15) e71) e72) e73) e74) ga24) gb25) gc26) gd27) e75) e76) ga28) gb29) gc30) gd31) e77) e78) ga32) gb33) gc34) e79) e80) ga35) gb36) gc37) gd38) e81) e82) gd15) e83) e84) e85) e86) e87) f20) f16) e88) e89) e90) e91) e92) e93) ga39) gb40) gc41) gd42) e94) e95) e96) ga43) gb44) gc45) e97) e98) e99) e100) ga46) gb47) gc48) ga49) gb50) gc51) e101) e102) ga52) gb53) gc54) e103) e104) ga55) gb56) gc57) e105) e106) e107) e108) ga58) gb59) gc60) e109) e110) ga61) gb62) gc63) e111) ga64) gb65) gc66) ga67) gb68) gc69)
noncomputable def envB : Env := { scope := progB.main.scope, locals := mainNs, globals := mainNs, cells := [], code := .ref 13, frame := some 14 }
noncomputable abbrev cB : Code := .body (behindTheImports progB) envB
abbrev StT (t : BT) (n k : Nat) (os : OsState) : SharedT := ⟨t, n, {}, Array.mk [], {}, k, os⟩
abbrev SH (h : Heap) (k : Nat) (os : OsState) : Shared := ⟨h, Array.mk [], {}, k, os⟩
noncomputable abbrev thr (l : List Stmt) (p : Pos) : Thread := piecesOf l envB cB p [topFrame ⟨0, 0, 0, 0⟩]
theorem q0 (w : World) : (fun os => topGo treeTable progB w 11 (some (.ref 6)) 12 ⟨boot_heap w.params, Array.mk [], boot_drawn, boot_toks, os⟩ (topStub progB)) = fun os => some (SH (heap_46 w.params) 187 os, (⟨denote treeTable cB, cB, ⟨0, 0, 0, 0⟩, [topFrame ⟨0, 0, 0, 0⟩]⟩ : Thread)) := by
  rw [PySem.W.Fast.te15667345088766844465, PySem.W.Fast.te11892475500146522536, PySem.W.Fast.te14364793385576792824]; kernel_rfl
theorem q1 (w : World) : (fun os => segRun treeTable progB w 11 (some (.ref 6)) 1 1 (SH (heap_46 w.params) 187 os) (blockOf (behindTheImports progB) envB cB ⟨0, 0, 0, 0⟩ [topFrame ⟨0, 0, 0, 0⟩])) = fun os => some (Flow.next, (StT (tree_47 w.params) 15 187 os).abs, cB, (⟨0, 0, 0, 0⟩ : Pos)) := by
  rw [PySem.W.Fast.te14374325043358763698, PySem.W.Fast.te14364793385576792824]; kernel_rfl
theorem q2 (w : World) : (fun os => segRunT treeTable progB w 11 (some (.ref 6)) 1 271 (StT (tree_47 w.params) 15 187 os) (thr sts_49 ⟨0, 0, 0, 0⟩)) = fun os => some (Flow.next, StT (tree_71 w.params) 35 224 os, cB, (⟨10, 0, 10, 8⟩ : Pos)) := by
  rw [PySem.W.Fast.te10110043849684766642, PySem.W.Fast.te14364793385576792824]; kernel_rfl
theorem q3 (w : World) : (fun os => segRunT treeTable progB w 11 (some (.ref 6)) 1 324 (StT (tree_71 w.params) 35 224 os) (thr sts_72 ⟨10, 0, 10, 8⟩)) = fun os => some (Flow.next, StT (tree_116 w.params) 78 281 os, cB, (⟨11, 0, 28, 54⟩ : Pos)) := by
  rw [PySem.W.Fast.te10110043849684766642, PySem.W.Fast.te14364793385576792824]; kernel_rfl
theorem q4 (w : World) : (fun os => segRunT treeTable progB w 11 (some (.ref 6)) 1 900 (StT (tree_116 w.params) 78 281 os) (thr sts_117 ⟨11, 0, 28, 54⟩)) = fun os => some (Flow.next, StT (tree_189 w.params) 149 396 os, cB, (⟨29, 0, 70, 54⟩ : Pos)) := by
  rw [PySem.W.Fast.te10110043849684766642, PySem.W.Fast.te14364793385576792824]; kernel_rfl
theorem q5 (w : World) : (fun os => segRunT treeTable progB w 11 (some (.ref 6)) 1 302 (StT (tree_189 w.params) 149 396 os) (thr sts_243 ⟨29, 0, 70, 54⟩)) = fun os => some (Flow.next, StT (tree_246 w.params) 152 654 os, cB, (⟨73, 0, 73, 9⟩ : Pos)) := by
  rw [PySem.W.Fast.te10110043849684766642, PySem.W.Fast.te14364793385576792824]; kernel_rfl
theorem q6 (w : World) : (fun os => segRunT treeTable progB w 11 (some (.ref 6)) 1 372 (StT (tree_246 w.params) 152 654 os) (thr sts_247 ⟨73, 0, 73, 9⟩)) = fun os => some (Flow.next, StT (tree_265 w.params) 169 938 os, cB, (⟨103, 0, 104, 72⟩ : Pos)) := by
  rw [PySem.W.Fast.te10110043849684766642, PySem.W.Fast.te14364793385576792824]; kernel_rfl
theorem q7 (w : World) : (fun os => segRunT treeTable progB w 11 (some (.ref 6)) 1 263 (StT (tree_265 w.params) 169 938 os) (thr sts_266 ⟨103, 0, 104, 72⟩)) = fun os => some (Flow.next, StT (tree_321 w.params) 223 1012 os, cB, (⟨143, 0, 183, 120⟩ : Pos)) := by
  rw [PySem.W.Fast.te10110043849684766642, PySem.W.Fast.te14364793385576792824]; kernel_rfl
theorem q8 (w : World) : (fun os => topRun treeTable progB w 11 (some (.ref 6)) 2 (StT (tree_321 w.params) 223 1012 os).abs (⟨doneF .next, cB, ⟨143, 0, 183, 120⟩, [topFrame ⟨0, 0, 0, 0⟩]⟩ : Thread)) = fun os => some (SH (heap_322 w.params) 1012 os) := by
  rw [PySem.W.Fast.te14082659384304107361, PySem.W.Fast.te14364793385576792824]; kernel_rfl
theorem bodyEq : behindTheImports progB = sts_49 ++ (sts_72 ++ (sts_117 ++ (sts_243 ++ (sts_247 ++ (sts_266 ++ []))))) := by kernel_rfl
theorem runB (w : World) (os : OsState) : topRun treeTable progB w 11 (some (.ref 6)) (12 + (1 + (271 + (324 + (900 + (302 + (372 + (263 + 2)))))))) ⟨boot_heap w.params, Array.mk [], boot_drawn, boot_toks, os⟩ (topStub progB) = some (SH (heap_322 w.params) 1012 os) := by
  have k8 : topRun treeTable progB w 11 (some (.ref 6)) 2 (StT (tree_321 w.params) 223 1012 os).abs (restOf [] envB cB ⟨143, 0, 183, 120⟩ [topFrame ⟨0, 0, 0, 0⟩]) = some (SH (heap_322 w.params) 1012 os) := piece_nil (congrFun (q8 w) os)
  have k7 : topRun treeTable progB w 11 (some (.ref 6)) (263 + 2) (StT (tree_265 w.params) 169 938 os).abs (restOf (sts_266 ++ []) envB cB ⟨103, 0, 104, 72⟩ [topFrame ⟨0, 0, 0, 0⟩]) = some (SH (heap_322 w.params) 1012 os) := piece_app (n := 263) (N := 2) (s := (StT (tree_265 w.params) 169 938 os).abs) (s' := (StT (tree_321 w.params) 223 1012 os).abs) (l := sts_266) (rest := []) (c := cB) (pos := ⟨103, 0, 104, 72⟩) (p' := ⟨143, 0, 183, 120⟩) (segRun_of (congrFun (q7 w) os)) k8
  have k6 : topRun treeTable progB w 11 (some (.ref 6)) (372 + (263 + 2)) (StT (tree_246 w.params) 152 654 os).abs (restOf (sts_247 ++ (sts_266 ++ [])) envB cB ⟨73, 0, 73, 9⟩ [topFrame ⟨0, 0, 0, 0⟩]) = some (SH (heap_322 w.params) 1012 os) := piece_app (n := 372) (N := (263 + 2)) (s := (StT (tree_246 w.params) 152 654 os).abs) (s' := (StT (tree_265 w.params) 169 938 os).abs) (l := sts_247) (rest := (sts_266 ++ [])) (c := cB) (pos := ⟨73, 0, 73, 9⟩) (p' := ⟨103, 0, 104, 72⟩) (segRun_of (congrFun (q6 w) os)) k7
  have k5 : topRun treeTable progB w 11 (some (.ref 6)) (302 + (372 + (263 + 2))) (StT (tree_189 w.params) 149 396 os).abs (restOf (sts_243 ++ (sts_247 ++ (sts_266 ++ []))) envB cB ⟨29, 0, 70, 54⟩ [topFrame ⟨0, 0, 0, 0⟩]) = some (SH (heap_322 w.params) 1012 os) := piece_app (n := 302) (N := (372 + (263 + 2))) (s := (StT (tree_189 w.params) 149 396 os).abs) (s' := (StT (tree_246 w.params) 152 654 os).abs) (l := sts_243) (rest := (sts_247 ++ (sts_266 ++ []))) (c := cB) (pos := ⟨29, 0, 70, 54⟩) (p' := ⟨73, 0, 73, 9⟩) (segRun_of (congrFun (q5 w) os)) k6
  have k4 : topRun treeTable progB w 11 (some (.ref 6)) (900 + (302 + (372 + (263 + 2)))) (StT (tree_116 w.params) 78 281 os).abs (restOf (sts_117 ++ (sts_243 ++ (sts_247 ++ (sts_266 ++ [])))) envB cB ⟨11, 0, 28, 54⟩ [topFrame ⟨0, 0, 0, 0⟩]) = some (SH (heap_322 w.params) 1012 os) := piece_app (n := 900) (N := (302 + (372 + (263 + 2)))) (s := (StT (tree_116 w.params) 78 281 os).abs) (s' := (StT (tree_189 w.params) 149 396 os).abs) (l := sts_117) (rest := (sts_243 ++ (sts_247 ++ (sts_266 ++ [])))) (c := cB) (pos := ⟨11, 0, 28, 54⟩) (p' := ⟨29, 0, 70, 54⟩) (segRun_of (congrFun (q4 w) os)) k5
  have k3 : topRun treeTable progB w 11 (some (.ref 6)) (324 + (900 + (302 + (372 + (263 + 2))))) (StT (tree_71 w.params) 35 224 os).abs (restOf (sts_72 ++ (sts_117 ++ (sts_243 ++ (sts_247 ++ (sts_266 ++ []))))) envB cB ⟨10, 0, 10, 8⟩ [topFrame ⟨0, 0, 0, 0⟩]) = some (SH (heap_322 w.params) 1012 os) := piece_app (n := 324) (N := (900 + (302 + (372 + (263 + 2))))) (s := (StT (tree_71 w.params) 35 224 os).abs) (s' := (StT (tree_116 w.params) 78 281 os).abs) (l := sts_72) (rest := (sts_117 ++ (sts_243 ++ (sts_247 ++ (sts_266 ++ []))))) (c := cB) (pos := ⟨10, 0, 10, 8⟩) (p' := ⟨11, 0, 28, 54⟩) (segRun_of (congrFun (q3 w) os)) k4
  have k2 : topRun treeTable progB w 11 (some (.ref 6)) (271 + (324 + (900 + (302 + (372 + (263 + 2)))))) (StT (tree_47 w.params) 15 187 os).abs (restOf (sts_49 ++ (sts_72 ++ (sts_117 ++ (sts_243 ++ (sts_247 ++ (sts_266 ++ [])))))) envB cB ⟨0, 0, 0, 0⟩ [topFrame ⟨0, 0, 0, 0⟩]) = some (SH (heap_322 w.params) 1012 os) := piece_app (n := 271) (N := (324 + (900 + (302 + (372 + (263 + 2)))))) (s := (StT (tree_47 w.params) 15 187 os).abs) (s' := (StT (tree_71 w.params) 35 224 os).abs) (l := sts_49) (rest := (sts_72 ++ (sts_117 ++ (sts_243 ++ (sts_247 ++ (sts_266 ++ [])))))) (c := cB) (pos := ⟨0, 0, 0, 0⟩) (p' := ⟨10, 0, 10, 8⟩) (segRun_of (congrFun (q2 w) os)) k3
  have k1 : topRun treeTable progB w 11 (some (.ref 6)) (271 + (324 + (900 + (302 + (372 + (263 + 2)))))) (StT (tree_47 w.params) 15 187 os).abs (restOf (behindTheImports progB) envB cB ⟨0, 0, 0, 0⟩ [topFrame ⟨0, 0, 0, 0⟩]) = some (SH (heap_322 w.params) 1012 os) := (congrArg (fun l => topRun treeTable progB w 11 (some (.ref 6)) (271 + (324 + (900 + (302 + (372 + (263 + 2)))))) (StT (tree_47 w.params) 15 187 os).abs (restOf l envB cB ⟨0, 0, 0, 0⟩ [topFrame ⟨0, 0, 0, 0⟩])) bodyEq).trans k2
  have k0 := piece_block (n := 1) (N := (271 + (324 + (900 + (302 + (372 + (263 + 2))))))) (s := SH (heap_46 w.params) 187 os) (b := behindTheImports progB) (c := cB) (pos := ⟨0, 0, 0, 0⟩) (p' := ⟨0, 0, 0, 0⟩) (congrFun (q1 w) os) k1
  exact go_top (n := 12) (N := 1 + (271 + (324 + (900 + (302 + (372 + (263 + 2))))))) (s' := SH (heap_46 w.params) 187 os) (t' := ⟨denote treeTable cB, cB, ⟨0, 0, 0, 0⟩, [topFrame ⟨0, 0, 0, 0⟩]⟩) (congrFun (q0 w) os) k0
abbrev LA : List Str := [Str.ofString "_tuplegetter", Str.ofString "RawShare", Str.ofString "_EXP_TABLE_00", Str.ofString "_EXP_TABLE_01", Str.ofString "EXP_TABLE", Str.ofString "_LOG_TABLE_00", Str.ofString "_LOG_TABLE_01", Str.ofString "LOG_TABLE"]
noncomputable abbrev LB : List Str := [s18, s19, s20, s21, s22, s23, s24, s25]
theorem LA_eq : LA = LB := by
  unfold LA
  rw [e18, e19, e20, e21, e22, e23, e24, e25]
theorem bsize (w : World) : ((boot_heap w.params).isNs mainGlobals && (Array.mk [] : Array GenState).size == 0, (boot_heap w.params).objs.size, (boot_heap w.params).nsMap mainGlobals (Str.ofString "__annotations__")) = (true, 11, some (.ref 6)) := by
  rw [e8, PySem.W.Fast.te8920871248978507458]; kernel_rfl
theorem u1 (w : World) : (fun os => staticsOk (importedModules progB.main.body) (boot_heap w.params) (heap_322 w.params) && namesBound progB (heap_322 w.params) && gensDone (SH (heap_322 w.params) 1012 os) && laidKept (boot_heap w.params) (heap_322 w.params)) = fun _ => true := by
  rw [PySem.W.Fast.te5923862056798008813]; kernel_rfl
theorem u2 (w : World) : (fun os => seen ((recsOf viewB).map (·.name)) (ownsOf viewB) [] { SH (heap_322 w.params) 1012 os with gens := #[] }) = fun _ => expectedOf viewB := by
  rw [PySem.W.Fast.te5160383126252970620, PySem.W.R.mapR_eq, PySem.W.Fast.te3399658132070893891, PySem.W.Fast.te5991557255702980513]; kernel_rfl
theorem u3 (w : World) : (fun os => (SH (heap_322 w.params) 1012 os).heap.bltView) = fun _ => bltViewBooted := by kernel_rfl
noncomputable abbrev XB : Shared → Bool := fun s => xlAt viewB [] s && recOk [] s
theorem u4 (w : World) : (fun os => (SH (heap_322 w.params) 1012 os).heap.keysOk (looseW viewB LB) ((recsOf viewB).map (·.name)) ((litsOf viewB).map (·.1)) ((clssOf viewB (looseW viewB LB)).map (·.name)) && (SH (heap_322 w.params) 1012 os).heap.accountedOkI (importedModules progB.main.body) && (SH (heap_322 w.params) 1012 os).heap.isNs mainGlobals && (SH (heap_322 w.params) 1012 os).heap.isNs builtinsNs && tablesOk viewB (SH (heap_322 w.params) 1012 os).heap && XB (SH (heap_322 w.params) 1012 os) && (if true then (SH (heap_322 w.params) 1012 os).gens.size == 0 else !leftWithCleanup (SH (heap_322 w.params) 1012 os).gens)) = fun _ => true := by
  simp only [PySem.W.Fast.te10880121769531294198, PySem.W.Fast.te821141287760084731, PySem.W.R.mapR_eq, PySem.W.Fast.te3399658132070893891, PySem.W.Fast.te7409074990110511671, PySem.W.Fast.te13664370479719496447, PySem.W.Fast.te14722251495701143533, PySem.W.Fast.te5923862056798008813, PySem.W.Fast.te10994771534591457954]; kernel_rfl
theorem u5 (w : World) : (fun os => tabsOk viewB (SH (heap_322 w.params) 1012 os)) = fun _ => true := by
  rw [PySem.W.Fast.te479339242167458305]; kernel_rfl
theorem u6 (w : World) : (fun os => pinSeenD viewB (drecsOf viewB) (SH (heap_322 w.params) 1012 os)) = fun _ => pinGoodD (drecsOf viewB) := by
  rw [PySem.W.Fast.te16090120013241838585, PySem.W.Fast.te3247288618530077131]; kernel_rfl
theorem u7 (w : World) : (fun os => plainSeenE viewB (looseW viewB LB) (SH (heap_322 w.params) 1012 os)) = fun _ => plainGoodE viewB (looseW viewB LB) := by
  rw [PySem.W.Fast.te2386780881361962483, PySem.W.Fast.te821141287760084731]; kernel_rfl
theorem u8 (w : World) : (fun os => plainSeenD viewB LB (SH (heap_322 w.params) 1012 os)) = fun _ => plainGoodD viewB LB := by
  rw [PySem.W.Fast.te11698064438423848299]; kernel_rfl
theorem u9 (w : World) : (fun os => wideSeen viewB (SH (heap_322 w.params) 1012 os)) = fun _ => wideGood viewB := by
  rw [PySem.W.Fast.te7317090234206586261]; kernel_rfl
theorem u10 (w : World) : (fun os => clsSeenW viewB LB (SH (heap_322 w.params) 1012 os)) = fun _ => clsGoodW viewB LB := by
  rw [PySem.W.Fast.te7369524293546568484]; kernel_rfl
abbrev asL : List Addr := [2, 3, 15, 17, 18, 20, 21, 22, 29, 30, 31, 32, 42, 44, 45, 47, 48, 49, 50, 52, 53, 55, 56, 57, 59, 60, 62, 63, 64, 66, 67, 69, 70, 71, 72, 73, 74, 75, 78, 81, 86, 87, 88, 89, 91, 92, 94, 95, 96, 98, 99, 101, 102, 103, 104, 105, 106, 107, 109, 110, 112, 113, 114, 116, 117, 119, 120, 121, 123, 124, 126, 127, 128, 130, 131, 133, 134, 135, 136, 137, 139, 140, 142, 144, 145, 146, 151, 154, 155, 157, 158, 160, 161, 162, 164, 165, 167, 168, 169, 171, 172, 174, 175, 176, 178, 179, 181, 182, 183, 185, 186, 188, 189, 190, 192, 193, 195, 196, 197, 199, 200, 202, 203, 204, 206, 207, 209, 210, 211, 213, 214, 216, 217, 218, 221, 222]
theorem asK : ∀ P, asL = (hd.heap_39 P).map (·.1) := fun P => by kernel_rfl
theorem u11 (w : World) : (fun os => (asL.map (SH (heap_322 w.params) 1012 os).heap.get?, [219].map (SH (heap_322 w.params) 1012 os).heap.get?)) = fun _ => ((KB w.params).map (fun p => some p.2), [219].map (fun _ => some (tabObj #[]))) := by kernel_rfl
theorem looksB (w : World) : (fun os => ((staticsOk (importedModules progB.main.body) (boot_heap w.params) (heap_322 w.params) && namesBound progB (heap_322 w.params) && gensDone ⟨heap_322 w.params, Array.mk [], {}, 1012, os⟩ && laidKept (boot_heap w.params) (heap_322 w.params)),
    openSeen viewB LB (importedModules progB.main.body) XB true ⟨heap_322 w.params, Array.mk [], {}, 1012, os⟩, Hook.obs (kmHook hd.heap_39 asL asK [219]) ⟨heap_322 w.params, Array.mk [], {}, 1012, os⟩)) = fun _ => (true, openGood viewB LB, Hook.val (kmHook hd.heap_39 asL asK [219]) w) :=
  funext fun os => looks_pair (congrFun (u1 w) os) (looks_pair
    (looks_pair (congrFun (u2 w) os) (looks_pair (congrFun (u3 w) os) (looks_pair (congrFun (u4 w) os) (looks_pair (congrFun (u5 w) os) (looks_pair (congrFun (u6 w) os) (looks_pair (congrFun (u7 w) os) (looks_pair (congrFun (u8 w) os) (looks_pair (congrFun (u9 w) os) (congrFun (u10 w) os)))))))))
    ((congrFun (u11 w) os).trans (congrArg (fun K : Params → Frag => ((K w.params).map (fun p => some p.2), [219].map (fun _ => some (tabObj #[])))) K_eq.symm)))
theorem leftB : LeftO progB viewB LB XB (Hook.obs (kmHook hd.heap_39 asL asK [219])) (Hook.val (kmHook hd.heap_39 asL asK [219])) 4978 :=
  LeftO.of_pieces (boot_open (by kernel_rfl) (by rfl) (fun s => by kernel_rfl)) bsize runB (by rfl) looksB
theorem leftA : LeftO PySem.Challenge.pw_jb0039_01 hd.view_39 LA (fun s => xlAt hd.view_39 [] s && recOk [] s) (Hook.obs (kmHook hd.heap_39 asL asK [219])) (Hook.val (kmHook hd.heap_39 asL asK [219])) 4978 := by
  rw [LA_eq, view_eq, prog_eq]
  exact leftB
noncomputable def lawB : OpenLaw := { prog := progB, name := s36, about := [s28], foot := 8, most := some 63, bound := none, writes := false }
theorem law_eq : PySem.Challenge.rw_jb0039_01 = lawB := by
  show OpenLaw.mk PySem.Challenge.pw_jb0039_01 (Str.ofString "law") [Str.ofString "_recover_secret"] 8 (some 63) none false = lawB
  rw [prog_eq, e36, e28]
  rfl
end Mine.D
end
theorem Mine.top_off_M1 : True := by
  w_top off
  trivial
section
open PySem
namespace Mine
/-! the lanes: plain arithmetic -/
noncomputable def ones : Nat := 282578800148737
noncomputable def dbl (l : Nat) : Nat := ((l ^^^ (((l >>> 7) &&& ones) <<< 7)) <<< 1) ^^^ (((l >>> 7) &&& ones) * 27)
noncomputable def tm (l f : Nat) : Nat := if _h : f = 0 then 0 else (if f % 2 = 1 then l else 0) ^^^ tm (dbl l) (f / 2)
termination_by f
decreasing_by omega
noncomputable def tmI (l f : Int) : Int := ((tm l.toNat f.toNat : Nat) : Int)
noncomputable abbrev nl (l : Int) : Int := Builtin.bitXor (Builtin.bitXor l (Builtin.bitAnd (l.fdiv (2 ^ Int.toNat 7)) 282578800148737 * 2 ^ Int.toNat 7) * 2 ^ Int.toNat 1) (Builtin.bitAnd (l.fdiv (2 ^ Int.toNat 7)) 282578800148737 * 27)
noncomputable def TInv (a b l f t : Int) : Prop := (0 ≤ l ∧ l < 2 ^ 56 ∧ 0 ≤ f ∧ f < 256 ∧ 0 ≤ t ∧ t < 2 ^ 56) ∧ Builtin.bitXor t (tmI l f) = tmI a b

theorem and_nat (a b : Nat) : Builtin.bitAnd (a : Int) (b : Int) = ((a &&& b : Nat) : Int) := by
  unfold Builtin.bitAnd
  simp

theorem xor_add (a b : Nat) : (a ^^^ b) + 2 * (a &&& b) = a + b := by
  induction a using Nat.strongRecOn generalizing b with
  | _ a ih =>
    by_cases ha : a = 0
    · subst ha; simp
    · have h1 := ih (a / 2) (by omega) (b / 2)
      have e1 := Nat.xor_div_two (a := a) (b := b)
      have e2 := Nat.and_div_two (a := a) (b := b)
      have e3 : (a ^^^ b) % 2 = (a % 2 + b % 2) % 2 := by
        have := Nat.xor_mod_two_pow (a := a) (b := b) (n := 1)
        simp only [Nat.pow_one] at this
        rw [this]
        rcases Nat.mod_two_eq_zero_or_one a with h | h <;> rcases Nat.mod_two_eq_zero_or_one b with h' | h' <;> rw [h, h'] <;> rfl
      have e4 : (a &&& b) % 2 = (a % 2) * (b % 2) := by
        have := Nat.and_mod_two_pow (a := a) (b := b) (n := 1)
        simp only [Nat.pow_one] at this
        rw [this]
        rcases Nat.mod_two_eq_zero_or_one a with h | h <;> rcases Nat.mod_two_eq_zero_or_one b with h' | h' <;> rw [h, h'] <;> rfl
      have m1 := Nat.mod_two_eq_zero_or_one a
      have m2 := Nat.mod_two_eq_zero_or_one b
      generalize hx : (a ^^^ b) = x at *
      generalize hy : (a &&& b) = y at *
      rw [← e1, ← e2] at h1
      rcases m1 with h | h <;> rcases m2 with h' | h' <;> rw [h, h'] at e4 <;> omega

theorem xor_nat (a b : Nat) : Builtin.bitXor (a : Int) (b : Int) = ((a ^^^ b : Nat) : Int) := by
  rw [PyProof.Rows.bitXor_and, and_nat]
  have := xor_add a b
  omega
theorem fdiv_nat (a k : Nat) : (a : Int).fdiv ((2 : Int) ^ k) = ((a >>> k : Nat) : Int) := by
  rw [Int.fdiv_eq_ediv_of_nonneg _ (Int.le_of_lt (Int.pow_pos (by decide)))]
  rw [Nat.shiftRight_eq_div_pow]
  simp
theorem shl_nat (a k : Nat) : (a : Int) * (2 : Int) ^ k = ((a <<< k : Nat) : Int) := by
  rw [Nat.shiftLeft_eq]
  simp

theorem nl_nat (l : Nat) : nl (l : Int) = ((dbl l : Nat) : Int) := by
  unfold nl dbl ones
  have h7 : Int.toNat 7 = 7 := rfl
  have h1 : Int.toNat 1 = 1 := rfl
  rw [h7, h1, fdiv_nat, show (282578800148737 : Int) = ((282578800148737 : Nat) : Int) from rfl, and_nat, shl_nat, xor_nat, shl_nat]
  exact xor_nat _ ((l >>> 7 &&& 282578800148737) * 27)
theorem ones_bit (j : Nat) (h : 49 ≤ j) : ones.testBit j = false := Nat.testBit_lt_two_pow (Nat.lt_of_lt_of_le (by decide : ones < 2 ^ 49) (Nat.pow_le_pow_right (by decide) h))
theorem mid_lt {l : Nat} (h : l < 2 ^ 56) : l ^^^ (((l >>> 7) &&& ones) <<< 7) < 2 ^ 55 := by
  refine Nat.lt_pow_two_of_testBit _ fun i hi => ?_
  rw [Nat.testBit_xor, Nat.testBit_shiftLeft, Nat.testBit_and, Nat.testBit_shiftRight]
  have e : 7 + (i - 7) = i := by omega
  have d : decide (i ≥ 7) = true := decide_eq_true (by omega)
  rw [e, d, Bool.true_and]
  by_cases h55 : i = 55
  · subst h55
    have : ones.testBit (55 - 7) = true := by decide
    rw [this]; simp
  · have : l.testBit i = false := Nat.testBit_lt_two_pow (Nat.lt_of_lt_of_le h (Nat.pow_le_pow_right (by decide) (by omega)))
    rw [this]; rfl
theorem tops_lt (l : Nat) : (l >>> 7) &&& ones < 2 ^ 49 := Nat.lt_of_le_of_lt Nat.and_le_right (by decide)
theorem dbl_lt {l : Nat} (h : l < 2 ^ 56) : dbl l < 2 ^ 56 := by
  have h1 := mid_lt h
  have h2 := tops_lt l
  unfold dbl
  refine Nat.xor_lt_two_pow ?_ ?_
  · rw [Nat.shiftLeft_eq]; omega
  · omega
theorem tops_abs {a b l f t : Int} (h : TInv a b l f t) : (Builtin.bitAnd (l.fdiv (2 ^ Int.toNat 7)) 282578800148737).natAbs < 2 ^ 64 := by
  obtain ⟨L, rfl⟩ := Int.eq_ofNat_of_zero_le h.1.1
  rw [show Int.toNat 7 = 7 from rfl, fdiv_nat, show (282578800148737 : Int) = ((ones : Nat) : Int) from rfl, and_nat, Int.natAbs_natCast]
  have := tops_lt L
  omega
theorem mid_abs {a b l f t : Int} (h : TInv a b l f t) : (Builtin.bitXor l (Builtin.bitAnd (l.fdiv (2 ^ Int.toNat 7)) 282578800148737 * 2 ^ Int.toNat 7)).natAbs < 2 ^ 64 := by
  obtain ⟨L, rfl⟩ := Int.eq_ofNat_of_zero_le h.1.1
  have hl : L < 2 ^ 56 := by have := h.1.2.1; omega
  rw [show Int.toNat 7 = 7 from rfl, fdiv_nat, show (282578800148737 : Int) = ((ones : Nat) : Int) from rfl, and_nat, shl_nat, xor_nat, Int.natAbs_natCast]
  have := mid_lt hl
  omega
theorem tm_zero (l : Nat) : tm l 0 = 0 := by rw [tm]; simp
theorem tm_step {l f : Nat} (h : f ≠ 0) : tm l f = (if f % 2 = 1 then l else 0) ^^^ tm (dbl l) (f / 2) := by rw [tm]; simp [h]
theorem tm_lt {l : Nat} (h : l < 2 ^ 56) : ∀ f, tm l f < 2 ^ 56 := by
  intro f
  induction f using Nat.strongRecOn generalizing l with
  | _ f ih =>
    by_cases hf : f = 0
    · subst hf; rw [tm_zero]; decide
    · rw [tm_step hf]
      refine Nat.xor_lt_two_pow ?_ (ih (f / 2) (by omega) (dbl_lt h))
      split
      · exact h
      · decide
theorem tmI_bounds {a b : Int} (h : a < 2 ^ 56) : 0 ≤ tmI a b ∧ tmI a b < 2 ^ 56 := by
  have := tm_lt (l := a.toNat) (by omega) b.toNat
  unfold tmI
  omega
theorem TInv.start {a b : Int} (h : 0 ≤ a ∧ a < 2 ^ 56 ∧ 0 ≤ b ∧ b < 256) : TInv a b a b 0 := by
  refine ⟨⟨h.1, h.2.1, h.2.2.1, h.2.2.2, by decide, by decide⟩, ?_⟩
  unfold tmI
  rw [show (0 : Int) = ((0 : Nat) : Int) from rfl, xor_nat, Nat.zero_xor]
theorem TInv.end {a b l t : Int} (h : TInv a b l 0 t) : t = tmI a b := by
  obtain ⟨⟨_, _, _, _, h0, _⟩, e⟩ := h
  obtain ⟨T, rfl⟩ := Int.eq_ofNat_of_zero_le h0
  rw [← e]
  unfold tmI
  rw [Int.toNat_zero, tm_zero, xor_nat, Nat.xor_zero]
theorem fdiv2 (f : Nat) : (f : Int).fdiv 2 = ((f / 2 : Nat) : Int) := by
  rw [Int.fdiv_eq_ediv_of_nonneg _ (by decide)]; simp
theorem TInv.odd {a b l f t : Int} (h : TInv a b l f t) (hf : f.fmod 2 ≠ 0) : TInv a b (nl l) (f.fdiv 2) (Builtin.bitXor t l) := by
  obtain ⟨⟨h1, h2, h3, h4, h5, h6⟩, e⟩ := h
  obtain ⟨T, rfl⟩ := Int.eq_ofNat_of_zero_le h5
  obtain ⟨L, rfl⟩ := Int.eq_ofNat_of_zero_le h1
  obtain ⟨F, rfl⟩ := Int.eq_ofNat_of_zero_le h3
  have hL : L < 2 ^ 56 := by omega
  have hT : T < 2 ^ 56 := by omega
  have hF : F % 2 = 1 := by rw [Int.fmod_eq_emod_of_nonneg _ (by decide)] at hf; omega
  have d := dbl_lt hL
  have x := Nat.xor_lt_two_pow hT hL
  rw [nl_nat, fdiv2, xor_nat]
  refine ⟨⟨by omega, by omega, by omega, by omega, by omega, by omega⟩, ?_⟩
  rw [← e]
  unfold tmI
  simp only [Int.toNat_natCast, xor_nat]
  rw [tm_step (f := F) (by omega), if_pos hF, Nat.xor_assoc]
theorem TInv.even {a b l f t : Int} (h : TInv a b l f t) (h0 : f ≠ 0) (hf : f.fmod 2 = 0) : TInv a b (nl l) (f.fdiv 2) t := by
  obtain ⟨⟨h1, h2, h3, h4, h5, h6⟩, e⟩ := h
  obtain ⟨T, rfl⟩ := Int.eq_ofNat_of_zero_le h5
  obtain ⟨L, rfl⟩ := Int.eq_ofNat_of_zero_le h1
  obtain ⟨F, rfl⟩ := Int.eq_ofNat_of_zero_le h3
  have hL : L < 2 ^ 56 := by omega
  have hF : F % 2 = 0 := by rw [Int.fmod_eq_emod_of_nonneg _ (by decide)] at hf; omega
  have d := dbl_lt hL
  rw [nl_nat, fdiv2]
  refine ⟨⟨by omega, by omega, by omega, by omega, h5, h6⟩, ?_⟩
  rw [← e]
  unfold tmI
  simp only [Int.toNat_natCast]
  rw [tm_step (l := L) (f := F) (by omega), if_neg (by omega), Nat.zero_xor]
theorem TInv.fall {a b l f t : Int} (h : TInv a b l f t) (h0 : f ≠ 0) : (f.fdiv 2).toNat < f.toNat := by
  obtain ⟨F, rfl⟩ := Int.eq_ofNat_of_zero_le h.1.2.2.1
  rw [fdiv2]
  omega
theorem TInv.end0 {a b l f t : Int} (h : TInv a b l f t) (h0 : f = 0) : t = tmI a b := by
  subst h0
  exact h.end
theorem dbl_small : ∀ l, l < 256 → dbl l < 256 := by decide +kernel
theorem tm_small {l : Nat} (h : l < 256) : ∀ f, tm l f < 256 := by
  intro f
  induction f using Nat.strongRecOn generalizing l with
  | _ f ih =>
    by_cases hf : f = 0
    · subst hf; rw [tm_zero]; decide
    · rw [tm_step hf]
      refine Nat.xor_lt_two_pow (n := 8) ?_ (ih (f / 2) (by omega) (dbl_small l h))
      split
      · exact h
      · decide
theorem tmI_small {a b : Int} (h : a < 256) : tmI a b < 256 := by
  have := tm_small (l := a.toNat) (by omega) b.toNat
  unfold tmI
  omega
noncomputable def TimesOut (a b x : Int) : Prop := x = tmI a b ∧ 0 ≤ x ∧ x < 2 ^ 56 ∧ (a < 256 → x < 256)
theorem TimesOut.mk' {a b x : Int} (h : a < 2 ^ 56) (e : x = tmI a b) : TimesOut a b x := by
  have := tmI_bounds (b := b) h
  subst e
  exact ⟨rfl, this.1, this.2, fun q => tmI_small q⟩
theorem xor_bounds {a b : Int} {n : Nat} (h0 : 0 ≤ a) (h1 : a < 2 ^ n) (g0 : 0 ≤ b) (g1 : b < 2 ^ n) : 0 ≤ Builtin.bitXor a b ∧ Builtin.bitXor a b < 2 ^ n := by
  obtain ⟨A, rfl⟩ := Int.eq_ofNat_of_zero_le h0
  obtain ⟨B, rfl⟩ := Int.eq_ofNat_of_zero_le g0
  have e : ((2 : Int) ^ n) = ((2 ^ n : Nat) : Int) := by simp
  rw [e] at h1 g1 ⊢
  rw [xor_nat]
  have := Nat.xor_lt_two_pow (Int.ofNat_lt.mp h1) (Int.ofNat_lt.mp g1)
  exact ⟨by omega, Int.ofNat_lt.mpr this⟩
theorem xor256 {a b : Int} (h : 0 ≤ a ∧ a < 256) (g : 0 ≤ b ∧ b < 256) : 0 ≤ Builtin.bitXor a b ∧ Builtin.bitXor a b < 256 := xor_bounds (n := 8) h.1 h.2 g.1 g.2
theorem xor56 {a b : Int} (h : 0 ≤ a ∧ a < 2 ^ 56) (g : 0 ≤ b ∧ b < 2 ^ 56) : 0 ≤ Builtin.bitXor a b ∧ Builtin.bitXor a b < 2 ^ 56 := xor_bounds (n := 56) h.1 h.2 g.1 g.2
/- one turn of the inverse's loop; the whole -/
noncomputable def invStep (q : Int × Int) : Int × Int := (tmI q.1 q.1, tmI q.2 (tmI q.1 q.1))
noncomputable def invI (o : Int) : Int := (invStep (invStep (invStep (invStep (invStep (invStep (invStep (o, 1)))))))).2
noncomputable def prodI (x : Int) (ps : List Int) : Int := ps.foldl (fun t p => tmI t (Builtin.bitXor x p)) 1
noncomputable def num (ns : List Int) (p : Int) : Int := (if ns = [] then 0 else ns.getD (p.fmod (ns.length : Int)).toNat 0) + 7 * p
theorem prodI_snoc (x : Int) (ps : List Int) (p : Int) : prodI x (ps ++ [p]) = tmI (prodI x ps) (Builtin.bitXor x p) := by
  unfold prodI
  rw [List.foldl_append]
  rfl
noncomputable def octL (x : Int) (n : Int) : List Int := (PySem.W.KTBy.little n.toNat (x.fmod (256 ^ n.toNat))).reverse
noncomputable def octA (x : Int) (n : Int) : Array UInt8 := ((octL x n).map fun i => UInt8.ofNat i.toNat).toArray
theorem bInts_inj {b : Array UInt8} {l : List Int} (h : PySem.W.KBw.bInts b = l) : b = (l.map fun i => UInt8.ofNat i.toNat).toArray := by
  subst h
  apply Array.ext'
  unfold PySem.W.KBw.bInts
  simp [Function.comp_def]
theorem pow256 (k : Nat) : (0 : Int) < 256 ^ k := Int.pow_pos (by decide)
theorem octA_of {b : Array UInt8} {x : Int} {k : Nat} (h : PySem.W.KBw.bInts b = (PySem.W.KTBy.little k (x.fmod (256 ^ k))).reverse) : b = octA x (k : Int) := bInts_inj h
theorem fmod_lo (x : Int) (k : Nat) : 0 ≤ x.fmod (256 ^ k) := Int.fmod_nonneg_of_pos x (pow256 k)
theorem fmod_hi (x : Int) (k : Nat) : x.fmod (256 ^ k) < 256 ^ k := Int.fmod_lt_of_pos x (pow256 k)
theorem prod_pre {t x p : Int} {ns : List Int} (h0 : 0 ≤ t) (h1 : t < 256) (x0 : 0 ≤ x) (x1 : x < 256) (hb : ∀ n ∈ ns, 0 ≤ n ∧ n < 256) (hm : p ∈ ns) : 0 ≤ t ∧ t < 2 ^ 56 ∧ 0 ≤ Builtin.bitXor x p ∧ Builtin.bitXor x p < 256 := by
  have := xor256 ⟨x0, x1⟩ (hb p hm)
  omega
theorem prod_turn {t x p y : Int} {pre : List Int} (h : TimesOut t (Builtin.bitXor x p) y) (h1 : t < 256) (e : t = prodI x pre) : 0 ≤ y ∧ y < 256 ∧ y = prodI x (pre ++ [p]) := by
  obtain ⟨e1, a, _, b⟩ := h
  exact ⟨a, b h1, by rw [prodI_snoc, ← e, e1]⟩
end Mine
end
theorem Mine.top_off_B0 : True := by
  w_top off
  trivial
section
open PySem PySem.W PySem.Calls PyProof.Rows
set_option maxRecDepth 100000
set_option maxHeartbeats 8000000
namespace Mine
noncomputable abbrev Kept (h h' : Heap) : Prop := ∀ b o, h.get? b = some o → h'.get? b = some o
theorem news_keeps {h₀ h h' : Heap} {L : Addr} {news : List (Addr × Obj)} (N : News h₀ L h news) (k : Kept h h') : News h₀ L h' news := fun p hp => ⟨k _ _ (N p hp).1, (N p hp).2⟩

/- what a def that changes nothing old is asked for, wherever it is called: it hands back a value of R -/
noncomputable abbrev Pure (prog : Program) (w : World) (K : Frag) (p : Program) (loose : List Str) (mean : ExcName → Option Value) (mg mb : Str → Option Value) (f : Addr) (room units : Nat) (pre : Heap → Prop) (vs : List Value) (R : Heap → Heap → Value → Prop) : Prop :=
  ∀ (dp un : Nat) (fr : Option (List Env)) (gd : Option (List Code)) (s : Shared) (Q E : Value → Shared → Prop),
    K.In s.heap → Top p loose mean mg mb s.heap → pre s.heap → dp + room < recursionLimit → un + units < cLine →
    (∀ (v : Value) (h' : Heap) (tk' : Nat), R s.heap h' v → Kept s.heap h' → Q v { s with heap := h', toks := tk' }) →
    wpAny (model prog w) { handled := none, depth := dp, frames := fr, guards := gd, units := un } (call (.ref f) vs) Q E s

theorem callP {prog : Program} {w : World} {A : Around} {s : Shared} {K : Frag} {mg mb : Str → Option Value} {p : Program} {loose : List Str} {mean : ExcName → Option Value}
    {R : Result → Shared → Prop} {name qual : Str} {params : Arguments} {body : List Stmt} {scope : Scope} {dV kV doc pm cdv ct oc : Value} {an od : Option Addr} {osl : Array (Option Value)} {f : Addr} {args : Args} {binds : List (Str × Value)}
    (X : K.In s.heap) (T : Top p loose mean mg mb s.heap)
    (ho : K.lookup f = some ⟨oc, od, .func (fnOf name qual params body scope dV kV doc pm an cdv ct), osl⟩) (hcd : codeIn K cdv qual = true) (hroom : A.depth < recursionLimit)
    (hbind : BindsTo s (fnOf name qual params body scope dV kV doc pm an cdv ct) args binds) (hloc : ∀ y ∈ binds, scope.names.lookup y.1 = some .local)
    (h : ∀ h₁, Fr s.heap s.heap.objs.size h₁ (fun y => binds.reverse.lookup y) → News s.heap s.heap.objs.size h₁ [] → K.In s.heap → Top p loose mean mg mb s.heap →
      wpAny (model prog w) (A.deeper (envOf qual scope s.heap.objs.size f cdv)) (execs body (envOf qual scope s.heap.objs.size f cdv))
        (fun fl s' => R (.ok (.ret (match fl with | .ret v => v | _ => .none))) s')
        (fun e s' => wpAny (model prog w) (A.deeper (envOf qual scope s.heap.objs.size f cdv)) (leaving (envOf qual scope s.heap.objs.size f cdv) e) (fun _ s'' => R (.error e) s'') (fun e' s'' => R (.error e') s'') s')
        { s with heap := h₁, toks := s.toks + binds.length })
    (hco : scope.isCoroutine = false) (hgen : scope.isGenerator = false) (hk : scope.kind = .function)
    (hcell : ∀ x ∈ scope.names, x.2 ≠ .cell) : codeAny (model prog w) A (.call (.ref f) args) R s :=
  codeAny_call_def (fd := fnOf name qual params body scope dV kV doc pm an cdv ct) (body := body) (binds := binds) hroom (X _ _ ho) rfl T.nolimit (codeRec_of X hcd) rfl hbind hcell hloc
    (fun h₁ hns hk₁ => h h₁ ⟨hns, hk₁, Nat.le_refl _⟩ News.nil X T) hco hgen hk
end Mine
end
section
open PySem PySem.W PySem.Calls PyProof.Rows Mine
set_option maxRecDepth 100000
local macro_rules | `(tactic| walk_at "mine top") => `(tactic| first | assumption | exact Top.keeps (by assumption) (Fr.keep (by assumption)))
local macro_rules | `(tactic| walk_at "mine enter") => `(tactic| (refine wpAny_call ?_; k_dflt (refine' callP ?k3 ?k4 ?k6 ?k7 ?k8 ?k9 ?kB ?_ ?c2 ?c3 ?c4 ?c5; (case k3 => k_asm); (case k4 => k_asm); (case k6 => k_is); (case k7 => k_is); (case k8 => ktr_room); (case k9 => exact BindsTo.of_eq rfl); (case c5 => decide); (case kB => exact locs rfl); (case c2 => exact rfl); (case c3 => exact rfl); (case c4 => exact rfl); k_whole; intro h' F' N' X' T'; (try dsimp only); (try k_fold))))
theorem Mine.top_off_B1 : True := by
  w_top off
  trivial
section
open PySem PySem.W PySem.Calls PyProof.Rows
set_option maxRecDepth 100000
set_option maxHeartbeats 8000000
namespace Mine

theorem ones_spec (w : World) (p : Program) (loose : List Str) (mean : ExcName → Option Value) (mg mb : Str → Option Value) : Pure PySem.Challenge.rw_jb0039_01.row.prog w (hd.heap_39 w.params) p loose mean mg mb 182 2 10 (fun _ => True) [] (fun _ _ v => ∃ t, v = .int 282578800148737 t) := by
  k_fill
  intro dp un fr gd s Q E X T hp hdp hu hret
  walk_at "mine enter"
  k_steps
  exact hret _ _ _ ⟨_, rfl⟩ (Fr.keep (by assumption))
local macro_rules | `(tactic| walk_at "call ref") => `(tactic| (k_here; (with_reducible show wpAny _ _ (call (Value.ref 182) _) _ _ _); k_dflt (refine' ones_spec _ _ _ _ _ _ _ _ _ _ _ _ _ ?k3 ?k4 ?kp ?kd ?ku ?_; (case k3 => k_in); (case k4 => walk_at "mine top"); (case kp => trivial); (case kd => ktr_room); (case ku => ktr_units); intro v9 h9 tk9 r9 k9; (obtain ⟨t9, e9⟩ := r9); subst e9; (have F9 := Fr.keeps (by assumption) k9); (have N9 := news_keeps (by assumption) k9); clear k9; (try dsimp only); (try k_sweep); (try k_fold))))

local macro_rules | `(tactic| walk_at "binaryOp LShift int int") => `(tactic| (k_here; k_dflt (refine' lshift_int_small ?n0 ?n1 ?ab ?_; (case n0 => decide); (case n1 => decide); (case ab => first | exact tops_abs (by assumption) | exact mid_abs (by assumption)))))
theorem times_spec (w : World) (p : Program) (loose : List Str) (mean : ExcName → Option Value) (mg mb : Str → Option Value) (a b : Int) (ta tb : Tok) : Pure PySem.Challenge.rw_jb0039_01.row.prog w (hd.heap_39 w.params) p loose mean mg mb 203 4 20 (fun _ => 0 ≤ a ∧ a < 2 ^ 56 ∧ 0 ≤ b ∧ b < 256) [.int a ta, .int b tb] (fun _ _ v => ∃ x t, v = .int x t ∧ TimesOut a b x) := by
  k_fill
  intro dp un fr gd s Q E X T hp hdp hu hret
  k_with "state" => first | exact TInv.start (by assumption) | exact TInv.odd (by assumption) (by assumption) | exact TInv.even (by assumption) (by assumption) (by assumption)
  k_with "measure" => exact TInv.fall (by assumption) (by assumption)
  k_with "exec While Name cons nil" => k_while (fun _ lanes factor total => TInv a b lanes factor total) (fun _ lanes factor total => factor.toNat) "lanes" "factor" "total"
  walk_at "mine enter"
  k_steps
  exact hret _ _ _ ⟨_, _, rfl, TimesOut.mk' hp.2.1 (TInv.end0 (by assumption) (by assumption))⟩ (Fr.keep (by assumption))
  k_with_none
end Mine
end
local macro_rules | `(tactic| walk_at "mine pad") => `(tactic| fail "mine pad")
theorem Mine.top_off_B2 : True := by
  w_top off
  trivial
section
open PySem PySem.W PySem.Calls PyProof.Rows
set_option maxRecDepth 100000
set_option maxHeartbeats 8000000
namespace Mine
theorem small_pre {x y : Int} (h : 0 ≤ x ∧ x < 256) (k : 0 ≤ y ∧ y < 256) : 0 ≤ x ∧ x < 2 ^ 56 ∧ 0 ≤ y ∧ y < 256 := ⟨h.1, by omega, k.1, k.2⟩
theorem small_out {f x : Int} (h : 0 ≤ x ∧ x < 2 ^ 56 ∧ (f < 256 → x < 256)) (k : 0 ≤ f ∧ f < 256) : 0 ≤ x ∧ x < 256 := ⟨h.1, h.2.2 k.2⟩
local macro_rules | `(tactic| walk_at "call ref") => `(tactic| (k_here; (with_reducible show wpAny _ _ (call (Value.ref 203) _) _ _ _); k_dflt (refine' times_spec _ _ _ _ _ _ _ _ _ _ _ _ _ _ _ _ _ ?k3 ?k4 ?kp ?kd ?ku ?_; (case k3 => k_in); (case k4 => walk_at "mine top"); (case kp => first | exact small_pre (by first | with_reducible assumption | exact ⟨by decide, by decide⟩) (by with_reducible assumption) | omega | walk_at "mine times"); (case kd => ktr_room); (case ku => ktr_units); intro v9 h9 tk9 r9 k9; (obtain ⟨x9, t9, e9, q9⟩ := r9); subst e9; (have b9 := q9.2); (try have c9 := small_out b9 (by first | with_reducible assumption | exact ⟨by decide, by decide⟩)); (have F9 := Fr.keeps (by assumption) k9); (have N9 := news_keeps (by assumption) k9); clear k9; (try dsimp only); (try k_sweep); (try k_fold))))

local macro_rules | `(tactic| walk_at "mine times") => `(tactic| first | exact prod_pre (by assumption) (by assumption) (by assumption) (by assumption) (by assumption) (by assumption) | (dsimp only [TimesOut] at *; omega))


theorem inverse_spec (w : World) (p : Program) (loose : List Str) (mean : ExcName → Option Value) (mg mb : Str → Option Value) (a : Int) (ta : Tok) : Pure PySem.Challenge.rw_jb0039_01.row.prog w (hd.heap_39 w.params) p loose mean mg mb 210 6 30 (fun _ => 0 ≤ a ∧ a < 256) [.int a ta] (fun _ _ v => ∃ x t, v = .int x t ∧ x = invI a ∧ 0 ≤ x ∧ x < 256) := by
  k_fill
  intro dp un fr gd s Q E X T hp hdp hu hret
  walk_at "mine enter"
  k_steps
  refine hret _ _ _ ⟨_, _, rfl, ?_, ?_⟩ (Fr.keep (by assumption))
  · clear hret X T
    simp only [TimesOut] at *
    simp only [invI, invStep]
    simp only [*]
  · first | with_reducible assumption | (simp only [TimesOut] at *; omega)


theorem product_spec (w : World) (p : Program) (loose : List Str) (mean : ExcName → Option Value) (mg mb : Str → Option Value) (x : Int) (tx : Tok) (l : Addr) (vs : List Value) (ns : List Int) : Pure PySem.Challenge.rw_jb0039_01.row.prog w (hd.heap_39 w.params) p loose mean mg mb 217 6 30 (fun h => 0 ≤ x ∧ x < 256 ∧ h.IsList l vs.toArray ∧ IntsAre vs ns ∧ ns.length < 1000 ∧ ∀ n ∈ ns, 0 ≤ n ∧ n < 256) [.int x tx, .ref l] (fun _ _ v => ∃ y t, v = .int y t ∧ y = prodI x ns ∧ 0 ≤ y ∧ y < 256) := by
  k_fill
  intro dp un fr gd s Q E X T hp hdp hu hret
  obtain ⟨hx0, hx1, hl, hi, hln, hb⟩ := hp
  k_with "state" => first | exact ⟨by decide, by decide, rfl⟩ | exact prod_turn (by assumption) (by assumption) (by assumption)
  k_with "pyIter ref" => k_state (fun pre total => 0 ≤ total ∧ total < 256 ∧ total = prodI x pre) "total"
  walk_at "mine enter"
  k_steps
  exact hret _ _ _ ⟨_, _, rfl, by assumption, by assumption, by assumption⟩ (Fr.keep (by assumption))


theorem number_spec (w : World) (p : Program) (loose : List Str) (mean : ExcName → Option Value) (mg mb : Str → Option Value) (l : Addr) (vs : List Value) (ns : List Int) (x : Int) (tx : Tok) : Pure PySem.Challenge.rw_jb0039_01.row.prog w (hd.heap_39 w.params) p loose mean mg mb 189 4 30 (fun h => h.IsList l vs.toArray ∧ IntsAre vs ns ∧ ns.length ≤ 63 ∧ 0 ≤ x ∧ x < 100) [.ref l, .int x tx] (fun _ _ v => ∃ t, v = .int (num ns x) t) := by
  k_fill
  intro dp un fr gd s Q E X T hp hdp hu hret
  obtain ⟨hl, hi, hlen, hx0, hx1⟩ := hp
  walk_at "mine enter"
  k_steps
  · refine hret _ _ _ ⟨_, congrArg (fun z => Value.int z _) ?_⟩ (Fr.keep (by assumption))
    unfold num
    rw [if_neg (by intro e; simp_all)]
  · refine hret _ _ _ ⟨_, congrArg (fun z => Value.int z _) ?_⟩ (Fr.keep (by assumption))
    unfold num
    rw [if_pos (by first | assumption | (cases ns <;> simp_all))]


local macro_rules | `(tactic| walk_at "call builtin:int.to_bytes") => `(tactic| (k_here; k_dflt (refine' KTBy.to_big (k := _) (B := _) (by assumption) rfl (fmod_lo _ _) (fmod_hi _ _) ?_; intro b9 t9 k9 e9 l9)))
theorem octets_spec (w : World) (p : Program) (loose : List Str) (mean : ExcName → Option Value) (mg mb : Str → Option Value) (x : Int) (tx : Tok) (n : Int) (tn : Tok) : Pure PySem.Challenge.rw_jb0039_01.row.prog w (hd.heap_39 w.params) p loose mean mg mb 196 4 30 (fun _ => 0 ≤ n ∧ n ≤ 8) [.int x tx, .int n tn] (fun _ _ v => ∃ t, v = .bytes (octA x n) t) := by
  k_fill
  intro dp un fr gd s Q E X T hp hdp hu hret
  obtain ⟨k, rfl⟩ := Int.eq_ofNat_of_zero_le hp.1
  have hk8 : k ≤ 8 := by omega
  walk_at "mine enter"
  k_steps
  exact hret _ _ _ ⟨_, congrArg (fun z => Value.bytes z _) (octA_of (by assumption))⟩ (Fr.keep (by assumption))

end Mine
end
theorem Mine.top_off_N1 : True := by
  w_top off
  trivial
section
open PySem PySem.W PySem.Calls PyProof.Rows
set_option maxRecDepth 100000
set_option maxHeartbeats 4000000
namespace Mine
theorem pk {α : Type} {w : World} {M : Model} {h : Heap} {t : Sem α} {r : α} (X : (hd.heap_39 w.params).In h) (e : ∀ S, peek (hd.heap_39 w.params) S t = some r) : Looks M h t r := Looks.of_peek X (e _)
noncomputable abbrev shareObj (dx : Addr) (items : Array Value) : Obj := { cls := .ref 145, dict := some dx, data := .seq items }
noncomputable def ShareAt (h : Heap) (a : Addr) (v0 v1 : Value) : Prop := ∃ dx, h.get? a = some (shareObj dx #[v0, v1]) ∧ h.get? dx = some emptyDict
theorem ShareAt.keeps {h h' : Heap} {a : Addr} {v0 v1 : Value} (x : ShareAt h a v0 v1) (k : ∀ b o, h.get? b = some o → h'.get? b = some o) : ShareAt h' a v0 v1 := let ⟨dx, p, q⟩ := x; ⟨dx, k _ _ p, k _ _ q⟩
theorem pk_check (w : World) (t : Addr) (S : Setting) : peek (hd.heap_39 w.params) S (checkBuiltinCall "tuple.__new__" ⟨[.ref 145, .ref t], []⟩) = some () := by kernel_rfl
theorem pk_isType (w : World) (S : Setting) : peek (hd.heap_39 w.params) S (isType (.ref 145)) = some true := by kernel_rfl
theorem pk_sub (w : World) (S : Setting) : peek (hd.heap_39 w.params) S (isSubtype (.ref 145) (.type "tuple")) = some true := by kernel_rfl
theorem pk_here (w : World) (S : Setting) : peek (hd.heap_39 w.params) S (Bind.madeHere "tuple.__new__" (.ref 145)) = some () := by kernel_rfl
theorem pk_init (w : World) (S : Setting) : peek (hd.heap_39 w.params) S (typeLookup (.ref 145) "__init__") = some (some (.builtin "object.__init__")) := by kernel_rfl
theorem pk_del (w : World) (S : Setting) : peek (hd.heap_39 w.params) S (classHasDel 145) = some false := by kernel_rfl
theorem tuple_new {prog : Program} {w : World} {A : Around} {E : Value → Shared → Prop} {s : Shared} {Q : Value → Shared → Prop} {t : Addr} {o : Obj} {items : Array Value} {n : Nat}
    (X : (hd.heap_39 w.params).In s.heap) (hh : A.handled = none) (ht : s.heap.get? t = some o) (hc : o.cls = .type "tuple") (hd' : o.data = .seq items n) (hz : items.size ≤ 10)
    (h : ∀ h' a dx tk, Kept s.heap h' → s.heap.get? a = none → s.heap.get? dx = none ∧ @Ne Nat a dx → h'.get? a = some (shareObj dx items) → h'.get? dx = some emptyDict → Q (.ref a) { s with heap := h', toks := tk }) :
    wpAny (model prog w) A (call (.builtin "tuple.__new__") [.ref 145, .ref t]) Q E s := by
  refine wpAny_call (codeAny_call_builtin F.plain_tuple_new F.entry_tuple_new ((pk X (pk_check w t)).here ?_))
  unfold Builtin.«tuple.__new__»
  refine wpAny_bind ((pk X (pk_isType w)).here ?_)
  refine wpAny_bind ((pk X (pk_sub w)).here ?_)
  refine wpAny_bind (m := Bind.madeHere "tuple.__new__" (.ref 145)) ((pk X (pk_here w)).here ?_)
  refine wpAny_bind (m := typeLookup (.ref 145) "__init__") ((pk X (pk_init w)).here ?_)
  refine wpAny_bind (m := noKeywords "tuple" _) (wpAny_of_eq (a := ()) rfl ?_)
  refine wpAny_bind (m := checkCount "tuple" 0 1 _) (wpAny_of_eq (a := ()) (by kernel_rfl) ?_)
  refine wpAny_bind (m := collect (.ref t)) (wpAny_collect_seq t (.inr rfl) ht hc hd' (fun h₁ k₁ => ?_) (by rw [sizeLine_eq]; omega))
  refine wpAny_bind (m := Pure.pure _) (wpAny_pure ?_)
  refine wpAny_bind (wpAny_alloc ?_)
  have X2 : (hd.heap_39 w.params).In (h₁.push { cls := .type "dict", data := .dict #[] }) := X.keeps fun b o e => Heap.get?_push_of_some _ (k₁ b o e)
  have e : newObj (.ref 145) (.seq items) (some h₁.objs.size) = newObjAsIs (.ref 145) (.seq items) (some h₁.objs.size) := by
    unfold newObj
    dsimp only
    rw [if_neg (by rw [sizeLine_eq]; omega)]
  rw [show items.toList.toArray = items from rfl]
  refine wpAny_bind (m := newObj (.ref 145) (.seq items) (some h₁.objs.size)) ?_
  rw [e]
  unfold newObjAsIs
  refine wpAny_bind (wpAny_alloc ?_)
  refine wpAny_bind (m := classHasDel 145) ((pk (X2.keeps fun b o e => Heap.get?_push_of_some _ e) (pk_del w)).here ?_)
  have old : ∀ b, @LE.le Nat _ h₁.objs.size b → s.heap.get? b = none := fun b hb => by
    cases q : s.heap.get? b with
    | none => rfl
    | some o' => exact absurd (Heap.lt_size (k₁ _ _ q)) (Nat.not_lt.mpr hb)
  have e2 : (h₁.push { cls := .type "dict", data := .dict #[] }).objs.size = h₁.objs.size + 1 := Heap.size_push ..
  exact wpAny_pure (wpAny_pure (h _ _ _ _ (fun b o e => Heap.get?_push_of_some _ (Heap.get?_push_of_some _ (k₁ b o e))) (old _ (by rw [e2]; exact Nat.le_succ _)) ⟨old _ (Nat.le_refl _), by rw [e2]; exact Nat.succ_ne_self _⟩ (Heap.get?_push_size _ rfl) (Heap.get?_push_of_some _ (Heap.get?_push_size _ rfl))))
end Mine
end
local macro_rules | `(tactic| walk_at "mine pad") => `(tactic| fail "mine pad")
theorem Mine.top_off_B3 : True := by
  w_top off
  trivial
section
open PySem PySem.W PySem.Calls PyProof.Rows
set_option maxRecDepth 100000
set_option maxHeartbeats 8000000
namespace Mine

theorem kept_none {h h' : Heap} {a : Addr} (n : h'.get? a = none) (k : Kept h h') : h.get? a = none := by
  cases q : h.get? a with
  | none => rfl
  | some o => rw [k _ _ q] at n; cases n
theorem meta_tuple : typeOf (.type "tuple") = pure (.type "type") := by kernel_rfl
local macro_rules | `(tactic| walk_at "getMethod type:tuple") => `(tactic| (k_here; refine' method_type ?F ?X ?m (by decide +kernel) ?e ?h ?_; (case F => k_asm); (case X => k_asm); (case m => exact meta_tuple); (case e => k_dflt k_is); (case h => k_handed)))
local macro_rules | `(tactic| walk_at "call builtin:tuple.__new__") => `(tactic| (k_here; k_dflt (refine' tuple_new ?X rfl ?t ?c ?d ?z ?_; (case X => k_in); (case t => exact (News.get (by assumption) (by k_mem))); (case c => exact rfl); (case d => exact rfl); (case z => exact Nat.le_of_ble_eq_true rfl); intro h9 a9 dx9 tk9 k9 n9 z9 g9 d9; (have F9 := Fr.keeps (by assumption) k9); (have N9 := news_keeps (by assumption) k9); (try dsimp only))))
theorem new_spec (w : World) (p : Program) (loose : List Str) (mean : ExcName → Option Value) (mg mb : Str → Option Value) (x : Int) (tx : Tok) (d : Array UInt8) (td : Tok) : Pure PySem.Challenge.rw_jb0039_01.row.prog w (hd.heap_39 w.params) p loose mean mg mb 95 4 30 (fun _ => True) [.ref 145, .int x tx, .bytes d td] (fun h h' v => ∃ a dx, v = .ref a ∧ h.get? a = none ∧ (h.get? dx = none ∧ @Ne Nat a dx) ∧ h'.get? a = some (shareObj dx #[.int x tx, .bytes d td]) ∧ h'.get? dx = some emptyDict) := by
  k_fill
  intro dp un fr gd s Q E X T hp hdp hu hret
  walk_at "mine enter"
  k_steps
  exact hret _ _ _ ⟨_, _, rfl, kept_none (by assumption) (Fr.keep (by assumption)), ⟨kept_none (And.left (by assumption)) (Fr.keep (by assumption)), And.right (by assumption)⟩, by assumption, by assumption⟩ (Fr.keep (by assumption))
end Mine
end
theorem Mine.top_off_N2 : True := by
  w_top off
  trivial
section
open PySem PySem.W PySem.Calls PyProof.Rows
set_option maxRecDepth 100000
set_option maxHeartbeats 4000000
namespace Mine
theorem pk_callAny (w : World) (x : Int) (tx : Tok) (d : Array UInt8) (td : Tok) (S : Setting) : peek (hd.heap_39 w.params) S (callAny (.ref 145) ⟨[.int x tx, .bytes d td], []⟩) = some (.again (.call (.builtin "type.__call__") ⟨[.ref 145, .int x tx, .bytes d td], []⟩)) := by kernel_rfl
theorem pk_tcheck (w : World) (x : Int) (tx : Tok) (d : Array UInt8) (td : Tok) (S : Setting) : peek (hd.heap_39 w.params) S (checkBuiltinCall "type.__call__" ⟨[.ref 145, .int x tx, .bytes d td], []⟩) = some () := by kernel_rfl
theorem pk_mro (w : World) (S : Setting) : peek (hd.heap_39 w.params) S (mroOf (.ref 145)) = some [.ref 145, .type "tuple", .type "object"] := by kernel_rfl
theorem pk_made (w : World) (S : Setting) : peek (hd.heap_39 w.params) S (Bind.madeBy (.ref 145)) = some none := by kernel_rfl
theorem pk_self (w : World) (S : Setting) : peek (hd.heap_39 w.params) S (isSubtype (.ref 145) (.ref 145)) = some true := by kernel_rfl
theorem pk_top (w : World) (S : Setting) : peek (hd.heap_39 w.params) S (isSubtype (.ref 145) (.type "object")) = some true := by kernel_rfl
theorem share_type {M : Model} {h : Heap} {a dx : Addr} {items : Array Value} (g : h.get? a = some (shareObj dx items)) : Looks M h (typeOf (.ref a)) (.ref 145) := (Looks.ld g).andThen .now
theorem share_is {M : Model} {w : World} {h : Heap} {a dx : Addr} {items : Array Value} (X : (hd.heap_39 w.params).In h) (g : h.get? a = some (shareObj dx items)) : Looks M h (isInstance (.ref a) (.ref 145)) true := (share_type g).andThen (pk X (pk_self w))
theorem share_obj {M : Model} {w : World} {h : Heap} {a dx : Addr} {items : Array Value} (X : (hd.heap_39 w.params).In h) (g : h.get? a = some (shareObj dx items)) : Looks M h (isInstance (.ref a) (.type "object")) true := (share_type g).andThen (pk X (pk_top w))
theorem oi_args2 (a b c : Value) : argsOk "object.__init__" ⟨[a, b, c], []⟩ := by unfold argsOk; kernel_rfl
theorem share_spec (w : World) (p : Program) (loose : List Str) (mean : ExcName → Option Value) (mg mb : Str → Option Value) (x : Int) (tx : Tok) (d : Array UInt8) (td : Tok) :
    Pure PySem.Challenge.rw_jb0039_01.row.prog w (hd.heap_39 w.params) p loose mean mg mb 145 8 60 (fun _ => True) [.int x tx, .bytes d td] (fun h h' v => ∃ a dx, v = .ref a ∧ h.get? a = none ∧ (h.get? dx = none ∧ @Ne Nat a dx) ∧ h'.get? a = some (shareObj dx #[.int x tx, .bytes d td]) ∧ h'.get? dx = some emptyDict) := by
  k_fill
  intro dp un fr gd s Q E X' T hp hdp hu hret
  refine wpAny_call (codeAny_of_tree ?_)
  show wpAny _ _ (callAny (.ref 145) ⟨[.int x tx, .bytes d td], []⟩) _ _ s
  refine (pk X' (pk_callAny w x tx d td)).here ?_
  refine ⟨rfl, codeAny_call_builtin_at (Code.quiet_builtin _ (by decide +kernel)) entry_typeCall ((pk X' (pk_tcheck w x tx d td)).here ?_)⟩
  unfold Builtin.«type.__call__»
  refine wpAny_bind (m := mroOf (.ref 145)) ((pk X' (pk_mro w)).here ?_)
  refine wpAny_bind (m := Bind.madeBy (.ref 145)) ((pk X' (pk_made w)).here ?_)
  refine wpAny_bind (m := getAttr (.ref 145) "__new__") ?_
  have e146 : findCls (hd.heap_39 w.params) (.ref 145) (.type "type") "__new__" = some (.get (.builtin "staticmethod.__get__") (.ref 146) .none (.ref 145)) := by k_is
  have r146 : recIn (hd.heap_39 w.params) 146 "staticmethod" = some [.ref 95] := by k_is
  refine cls_bind X' (by k_is) e146 (wpAny_call (sm_get (s := { s with toks := s.toks + 1 }) X' r146 (handed_on rfl ?_)))
  refine wpAny_bind (wpAny_holding (new_spec w p loose mean mg mb x tx d td _ _ fr gd { s with toks := s.toks + 1 } _ _ X' T trivial ?_ ?_ ?_))
  · show dp + _ + 4 < recursionLimit
    have : dp + (1 + 4) < recursionLimit := by omega
    exact Nat.add_assoc dp 1 4 ▸ this
  · show un + _ + 30 < cLine
    exact Nat.lt_of_le_of_lt (by show un + 1 + 30 ≤ un + 60; omega) hu
  rintro v h' tk' ⟨a, dx, rfl, hn, hn2, hg, hdx⟩ kp
  have X2 := X'.keeps kp
  refine wpAny_bind (m := isInstance (.ref a) (.ref 145)) ((share_is X2 hg).here ?_)
  refine wpAny_bind (m := holding _ _) (wpAny_holding ?_)
  unfold callSpecial?
  refine wpAny_bind (m := specialOf (.ref a) "__init__") (((share_type hg).andThen (pk X2 (pk_init w))).here ?_)
  dsimp only
  refine wpAny_holding ?_
  rw [oi_bind]
  refine wpAny_bind (wpAny_pure ?_)
  dsimp only [List.cons_append, List.nil_append]
  refine wpAny_bind (wpAny_call (codeAny_call_builtin oi_plain entry_oi (check_slot (i := "object.__init__") (owner := "object") (n := "__init__") (self := .ref a) (rest := [.int x tx, .bytes d td]) (kw := []) oi_kind oi_split (share_obj X2 hg) (oi_args2 (.ref a) (.int x tx) (.bytes d td)) ?_)))
  unfold Builtin.«object.__init__»
  dsimp only
  refine wpAny_bind (m := typeOf (.ref a)) ((share_type hg).here ?_)
  refine wpAny_bind (m := typeLookup (.ref 145) "__init__") ((pk X2 (pk_init w)).here ?_)
  refine wpAny_bind (m := Bind.madeBy (.ref 145)) ((pk X2 (pk_made w)).here ?_)
  show wpAny _ _ (ret Value.none) _ _ _
  refine wpAny_pure (wpAny_pure ?_)
  exact wpAny_pure (hret _ _ _ ⟨a, dx, rfl, hn, hn2, hg, hdx⟩ kp)
end Mine
end
local macro_rules | `(tactic| walk_at "mine pad") => `(tactic| fail "mine pad")
theorem Mine.top_off_N3 : True := by
  w_top off
  trivial
section
open PySem PySem.W PySem.Calls PyProof.Rows
set_option maxRecDepth 100000
set_option maxHeartbeats 4000000
namespace Mine
section
variable {prog : Program} {w : World} {A : Around} {E : Value → Shared → Prop} {s : Shared} {Q : Value → Shared → Prop} {a dx : Addr} {items : Array Value}
theorem share_typecall (g : s.heap.get? a = some (shareObj dx items)) (h : Q (.ref 145) s) : wpAny (model prog w) A (call (.type "type") [.ref a]) Q E s := by
  obtain ⟨hp, gg, d, t, os⟩ := s
  exact call_type_obj g rfl h
theorem pk_isc (w : World) (S : Setting) : peek (hd.heap_39 w.params) S (checkBuiltinCall "issubclass" ⟨[.ref 145, .type "tuple"], []⟩) = some () := by kernel_rfl
theorem pk_isb (w : World) (S : Setting) : peek (hd.heap_39 w.params) S (Builtin.«issubclass» ⟨[.ref 145, .type "tuple"], []⟩) = some (.again (.builtin "issubclass.nested" ⟨[.ref 145, .type "tuple", rawInt 0], []⟩)) := by kernel_rfl
theorem pk_isn (w : World) (S : Setting) : peek (hd.heap_39 w.params) S (Builtin.«issubclass.nested» ⟨[.ref 145, .type "tuple", rawInt 0], []⟩) = some (.done (.ret (.bool true))) := by kernel_rfl
theorem is_plain : plainId "issubclass" = true := by decide +kernel
theorem is_entry : entryFor table "issubclass" = some Builtin.«issubclass» := entryFor_of_tree (by kernel_rfl)
theorem isn_plain : plainId "issubclass.nested" = true := by decide +kernel
theorem isn_entry : entryFor table "issubclass.nested" = some Builtin.«issubclass.nested» := entryFor_of_tree (by kernel_rfl)
theorem share_issub (X : (hd.heap_39 w.params).In s.heap) (h : Q (.bool true) s) : wpAny (model prog w) A (call (.builtin "issubclass") [.ref 145, .type "tuple"]) Q E s := by
  refine wpAny_call (codeAny_call_builtin is_plain is_entry ((pk X (pk_isc w)).here ?_))
  refine (pk X (pk_isb w)).here ?_
  refine ⟨plainId_quiet isn_plain _, codeAny_builtin isn_entry ?_⟩
  exact (pk X (pk_isn w)).here h
theorem share_tup (X : (hd.heap_39 w.params).In s.heap) (g : s.heap.get? a = some (shareObj dx items)) {M : Model} : Looks M s.heap (isInstance (.ref a) (.type "tuple")) true := (share_type g).andThen (pk X (pk_sub w))
theorem tg_plain : plainId "tuple.__getitem__" = true := by decide +kernel
theorem tg_kind : builtinKind "tuple.__getitem__" = some .slot := by decide +kernel
theorem tg_split : splitId "tuple.__getitem__" = some ("tuple", "__getitem__") := by decide +kernel
theorem share_item {i : Nat} {u : Tok} {v : Value} (X : (hd.heap_39 w.params).In s.heap) (g : s.heap.get? a = some (shareObj dx items)) (hi : items[i]? = some v) (hlt : i < 2 ^ 62) (h : Q v s) :
    wpAny (model prog w) A (call (.builtin "tuple.__getitem__") [.ref a, .int (i : Int) u]) Q E s := by
  have hsz : i < items.size := (Array.getElem?_eq_some_iff.mp hi).1
  refine wpAny_call ?_
  refine codeAny_call_builtin tg_plain F.entry_tuple_getitem ?_
  refine check_slot (M := model prog w) (i := "tuple.__getitem__") (owner := "tuple") (n := "__getitem__") (self := .ref a) (rest := [.int (i : Int) u]) (kw := []) tg_kind tg_split (share_tup X g) (F.args_tuple_getitem_2 (.ref a) (.int (i : Int) u)) ?_
  have hf : ¬ (decide ((i : Int) < -2 ^ 63) || decide ((i : Int) ≥ 2 ^ 63)) = true := by simp; omega
  have hk : seqIndex? (i : Int) items.size = some i := by unfold seqIndex?; simp; omega
  unfold Builtin.«tuple.__getitem__»
  refine wpAny_bind (m := slotArgs "__getitem__" 1 _) (wpAny_of_eq (a := (.ref a, [.int (i : Int) u])) rfl ?_)
  refine wpAny_bind (m := Builtin.Tuple.tupleItemsOf (.ref a)) ?_
  unfold Builtin.Tuple.tupleItemsOf
  refine wpAny_bind (wpAny_seqItems g rfl ?_)
  refine wpAny_pure ?_
  refine wpAny_bind (m := typeOf (.int (i : Int) u)) (wpAny_of_eq (a := .type "int") rfl ?_)
  refine wpAny_bind (m := specialOf (.int (i : Int) u) "__index__") ?_
  unfold specialOf
  refine wpAny_bind (wpAny_of_eq (a := .type "int") rfl ?_)
  refine wpAny_of_eq AutoSeq1.idx_int ?_
  refine wpAny_bind (m := asIndex (.int (i : Int) u)) (wpAny_of_eq (a := (i : Int)) rfl ?_)
  dsimp only
  rw [if_neg hf, hk, Option.bind_some, hi]
  exact wpAny_pure h
end
end Mine
end
local macro_rules | `(tactic| walk_at "mine pad") => `(tactic| fail "mine pad")
theorem Mine.top_off_N4 : True := by
  w_top off
  trivial
section
open PySem PySem.W PySem.Calls PyProof.Rows Builtin Builtin.ObjectAttr
set_option maxRecDepth 100000
set_option maxHeartbeats 4000000
namespace Mine
theorem share_inst {h : Heap} {a dx : Addr} {items : Array Value} (g : h.get? a = some (shareObj dx items)) (d : h.get? dx = some emptyDict) : InstAt h a (shareObj dx items) 145 (some emptyDict) := ⟨g, rfl, rfl, d⟩
theorem pk_ga (w : World) (S : Setting) : peek (hd.heap_39 w.params) S (typeLookup (.ref 145) "__getattribute__") = some (some (.builtin "tuple.__getattribute__")) := by kernel_rfl
theorem pk_hook (w : World) (S : Setting) : peek (hd.heap_39 w.params) S (typeLookup (.ref 145) "__getattr__") = some none := by kernel_rfl
theorem ga_bind (self : Value) : bindSpecial (.builtin "tuple.__getattribute__") self = pure (.builtin "tuple.__getattribute__", [self]) := by
  have := (Slot.of (T := "tuple") (name := "__getattribute__") (owner := "tuple") (n := "__getattribute__") (id := "tuple.__getattribute__") (by rw [typeLookup_type, builtinLookup_eq_fast]; kernel_rfl) (by decide +kernel) (by decide +kernel) (by decide +kernel)
    (.inl (by decide +kernel)) (by rw [isSubtype_type]; kernel_rfl))
  exact this.bind self
theorem ga_entry : entryFor table "tuple.__getattribute__" = some Builtin.«object.__getattribute__» :=
  entryFor_alias (id' := "object.__getattribute__") (by kernel_rfl) (by first | rfl | decide +kernel) (by decide +kernel) (by kernel_rfl)
theorem ga_plain : plainId "tuple.__getattribute__" = true := by decide +kernel
theorem ga_kind : builtinKind "tuple.__getattribute__" = some .slot := by decide +kernel
theorem ga_split : splitId "tuple.__getattribute__" = some ("tuple", "__getattribute__") := by decide +kernel
theorem ga_args (a b : Value) : argsOk "tuple.__getattribute__" ⟨[a, b], []⟩ := by unfold argsOk; kernel_rfl
section
variable {prog : Program} {w : World} {A : Around} {E : Value → Shared → Prop} {s : Shared} {Q : Value → Shared → Prop} {a dx : Addr} {items : Array Value} {name : Str} {gt f : Addr} {expr : Bool}
theorem share_attr (X : (hd.heap_39 w.params).In s.heap) (g : s.heap.get? a = some (shareObj dx items)) (d : s.heap.get? dx = some emptyDict)
    (hf : findObj (hd.heap_39 w.params) 145 (some emptyDict) name = some (.bind (.ref f) (.ref gt)))
    (h : wpAny (model prog w) A.in1 (call (.ref f) [.ref gt, .ref a, .ref 145]) (fun v s' => handedIn v = true ∧ Q v s') (fun _ _ => False) { s with toks := s.toks + 1 }) :
    wpAny (model prog w) A (getAttr (.ref a) name expr) Q E s := by
  obtain ⟨hp, gg, dd, tk, os⟩ := s
  unfold getAttr getAttrBy
  refine wpAny_bind (wpAny_mkText ?_)
  refine wpAny_holding (wpAny_bind ((share_type g).at (wpAny_bind ((pk X (pk_ga w)).at ?_))))
  show wpAny _ _ (getAttrByItsOwn _ _ _ _ _ _) _ _ _
  unfold getAttrByItsOwn
  refine wpAny_bind (m := hookBefore (.ref 145)) ?_
  show wpAny _ _ (typeLookup (.ref 145) "__getattr__") _ _ _
  refine (pk X (pk_hook w)).at ?_
  refine wpAny_bind (wpAny_attempt (wpAny_holding ?_))
  show wpAny _ _ (callGetattribute _ _ (.builtin "tuple.__getattribute__") expr) _ _ _
  have e1 : callGetattribute (.ref a) (.str name tk) (.builtin "tuple.__getattribute__") expr = boundAndCalled (.builtin "tuple.__getattribute__") (.ref a) (.str name tk) := by
    unfold callGetattribute
    cases expr <;> rfl
  rw [e1]
  unfold boundAndCalled
  rw [ga_bind]
  refine wpAny_bind (wpAny_pure ?_)
  refine wpAny_call ?_
  refine codeAny_call_builtin ga_plain ga_entry ?_
  refine check_slot (M := model prog w) (i := "tuple.__getattribute__") (owner := "tuple") (n := "__getattribute__") (self := .ref a) (rest := [.str name tk]) (kw := []) ga_kind ga_split (share_tup X g) (ga_args (.ref a) (.str name tk)) ?_
  unfold Builtin.«object.__getattribute__»
  refine wpAny_bind (m := slotArgs "__getattribute__" 1 _) (wpAny_of_eq (a := (.ref a, [.str name tk])) rfl ?_)
  refine wpAny_bind (m := attrName (.str name tk)) (wpAny_of_eq (a := name) rfl ?_)
  refine wpAny_bind (m := typeOf (.ref a)) ((share_type g).at ?_)
  refine wpAny_bind (m := find (.ref a) (.ref 145) name) ((looks_find X (share_inst g d) hf).at ?_)
  show wpAny _ _ (holding [.ref gt] (call (.ref f) [.ref gt, .ref a, .ref 145]) >>= ret) _ _ _
  refine wpAny_bind (wpAny_holding (wpAny_mono h (fun v s' hv => ?_) fun _ _ e => e.elim))
  refine wpAny_pure ?_
  show wpAny _ _ (handedOut v) _ _ _
  rw [handedOut_of hv.1]
  exact wpAny_pure hv.2
end
end Mine
end
local macro_rules | `(tactic| walk_at "mine pad") => `(tactic| fail "mine pad")
theorem Mine.top_off_B4 : True := by
  w_top off
  trivial
section
open PySem PySem.W PySem.Calls PyProof.Rows
set_option maxRecDepth 100000
set_option maxHeartbeats 8000000
namespace Mine

theorem binds_peek {K : Frag} {s : Shared} {fd : FuncData} {args : Args} {binds : List (Str × Value)} (X : K.In s.heap) (e : ∀ S, peek K S (bindArgs fd args) = some binds) : BindsTo s fd args binds := fun _ _ _ _ q => (Looks.of_peek X (e _)).here q

local macro_rules | `(tactic| walk_at "mine share") => `(tactic| first | assumption | exact Fr.keep (by assumption) _ _ (by assumption))
local macro_rules | `(tactic| walk_at "call type:type") => `(tactic| (k_here; k_dflt (refine' share_typecall ?g ?_; (case g => walk_at "mine share"))))
local macro_rules | `(tactic| walk_at "call builtin:issubclass") => `(tactic| (k_here; k_dflt (refine' share_issub ?X ?_; (case X => k_in))))
local macro_rules | `(tactic| walk_at "getMethod type:tuple") => `(tactic| (k_here; refine' method_type ?F ?X ?m (by decide +kernel) ?e ?h ?_; (case F => k_asm); (case X => k_asm); (case m => exact meta_tuple); (case e => k_dflt k_is); (case h => k_handed)))
local macro_rules | `(tactic| walk_at "call builtin:tuple.__getitem__") => `(tactic| (k_here; k_dflt (refine' share_item ?X ?g ?e ?l ?_; (case X => k_in); (case g => walk_at "mine share"); (case l => decide); (case e => exact rfl))))
theorem get_spec (w : World) (p : Program) (loose : List Str) (mean : ExcName → Option Value) (mg mb : Str → Option Value) (a dx : Addr) (v0 v1 : Value) (g i : Nat) (hg : (g = 137 ∧ i = 0) ∨ (g = 140 ∧ i = 1)) : Pure PySem.Challenge.rw_jb0039_01.row.prog w (hd.heap_39 w.params) p loose mean mg mb 56 4 30 (fun h => h.get? a = some (shareObj dx #[v0, v1])) [.ref g, .ref a, .ref 145] (fun h h' v => v = #[v0, v1].getD i .none) := by
  k_fill
  intro dp un fr gd s Q E X T hp hdp hu hret
  rcases hg with ⟨rfl, rfl⟩ | ⟨rfl, rfl⟩
  · refine wpAny_call ?_
    refine' callP (f := 56) (binds := [(Str.ofString "self", .ref 137), (Str.ofString "obj", .ref a), (Str.ofString "objtype", .ref 145)]) X T ?k6 ?k7 ?k8 ?k9 ?kB ?_ ?c2 ?c3 ?c4 ?c5
    (case k6 => k_is); (case k7 => k_is); (case k8 => ktr_room); (case k9 => exact binds_peek X (fun _ => by kernel_rfl)); (case c5 => decide); (case kB => exact locs rfl); (case c2 => exact rfl); (case c3 => exact rfl); (case c4 => exact rfl)
    intro h' F' N' X' T'
    (try dsimp only)
    (try k_fold)
    k_steps
    exact hret _ _ _ rfl (Fr.keep (by assumption))
  · refine wpAny_call ?_
    refine' callP (f := 56) (binds := [(Str.ofString "self", .ref 140), (Str.ofString "obj", .ref a), (Str.ofString "objtype", .ref 145)]) X T ?k6 ?k7 ?k8 ?k9 ?kB ?_ ?c2 ?c3 ?c4 ?c5
    (case k6 => k_is); (case k7 => k_is); (case k8 => ktr_room); (case k9 => exact binds_peek X (fun _ => by kernel_rfl)); (case c5 => decide); (case kB => exact locs rfl); (case c2 => exact rfl); (case c3 => exact rfl); (case c4 => exact rfl)
    intro h' F' N' X' T'
    (try dsimp only)
    (try k_fold)
    k_steps
    exact hret _ _ _ rfl (Fr.keep (by assumption))

theorem attr_spec (w : World) (p : Program) (loose : List Str) (mean : ExcName → Option Value) (mg mb : Str → Option Value) (a : Addr) (v0 v1 : Value) (name : Str) (gt i : Nat) (hg : (name = "x" ∧ gt = 137 ∧ i = 0) ∨ (name = "data" ∧ gt = 140 ∧ i = 1)) (expr : Bool)
    (dp un : Nat) (fr : Option (List Env)) (gd : Option (List Code)) (s : Shared) (Q E : Value → Shared → Prop)
    (X : (hd.heap_39 w.params).In s.heap) (T : Top p loose mean mg mb s.heap) (hs : ShareAt s.heap a v0 v1) (hv : handedIn v0 = true ∧ handedIn v1 = true) (hdp : dp + 4 < recursionLimit) (hu : un + 50 < cLine)
    (hret : ∀ (h' : Heap) (tk' : Nat), Kept s.heap h' → Q (#[v0, v1].getD i .none) { s with heap := h', toks := tk' }) :
    wpAny (model PySem.Challenge.rw_jb0039_01.row.prog w) { handled := none, depth := dp, frames := fr, guards := gd, units := un } (getAttr (.ref a) name expr) Q E s := by
  k_fill
  obtain ⟨dx, hg1, hg2⟩ := hs
  rcases hg with ⟨rfl, rfl, rfl⟩ | ⟨rfl, rfl, rfl⟩
  · refine share_attr (gt := 137) (f := 56) X hg1 hg2 (findObj_data (by show isClsIn _ 145 = true; k_is) (by k_is) (by k_is) (by k_is)) ?_
    refine get_spec w p loose mean mg mb a dx v0 v1 137 0 (.inl ⟨rfl, rfl⟩) _ _ fr gd { s with toks := s.toks + 1 } _ _ X T hg1 (by omega) (Nat.lt_of_le_of_lt (by show un + 1 + 30 ≤ un + 50; omega) hu) ?_
    rintro v h' tk' rfl kp
    exact ⟨hv.1, hret _ _ kp⟩
  · refine share_attr (gt := 140) (f := 56) X hg1 hg2 (findObj_data (by show isClsIn _ 145 = true; k_is) (by k_is) (by k_is) (by k_is)) ?_
    refine get_spec w p loose mean mg mb a dx v0 v1 140 1 (.inr ⟨rfl, rfl⟩) _ _ fr gd { s with toks := s.toks + 1 } _ _ X T hg1 (by omega) (Nat.lt_of_le_of_lt (by show un + 1 + 30 ≤ un + 50; omega) hu) ?_
    rintro v h' tk' rfl kp
    exact ⟨hv.2, hret _ _ kp⟩
end Mine
end
end
theorem Mine.top_off_N5 : True := by
  w_top off
  trivial
section
open PySem PySem.W PySem.Calls PyProof.Rows
set_option maxRecDepth 100000
set_option maxHeartbeats 8000000
namespace Mine

theorem passing_true (n : Nat) : passing (fun _ => true) n 0 = List.range n := by
  unfold passing
  rw [List.drop_zero]
  exact List.filter_eq_self.mpr (fun _ _ => rfl)
theorem passing_true_len (n : Nat) : (passing (fun _ => true) n 0).length = n := by rw [passing_true, List.length_range]
theorem passing_true_get {n j i : Nat} (h : (passing (fun _ => true) n 0)[j]? = some i) : i = j := by
  rw [passing_true] at h
  obtain ⟨hj, e⟩ := List.getElem?_eq_some_iff.mp h
  rw [List.getElem_range] at e
  exact e.symm

section
variable {M : Model} {A : Around} {E : Value → Shared → Prop} {s : Shared}
theorem codeG {env : Env} {c P : Addr} {ps : Array Value} {pos : Pos} {qualname : Str} {scope : Scope} {Q : Value → Shared → Prop} (hc : env.code = .ref c) (C : CodeHd s.heap c P)
    (hP : s.heap.get? P = some (tabObj ps)) (ht : TriplesOk ps.toList)
    (hQ : ∀ code h' tk ps', Heap.ExtBut P s.heap h' → s.heap.objs.size ≤ h'.objs.size → h'.get? P = some (tabObj ps') → TriplesOk ps'.toList → Q code { s with heap := h', toks := tk }) :
    wpAny M A (genexprCode env pos qualname scope) Q E s := by
  cases hf : codeAmong pos ps.toList with
  | some cv => exact wpAny_genexprCode_hit hc (C.code hP ht) hf (hQ cv s.heap s.toks ps (Heap.ExtBut.refl _ _) (Nat.le_refl _) hP ht)
  | none =>
    refine wpAny_genexprCodeX hc (C.code hP ht) (C.tab hP) hf fun c' h' tk hx hge hlt _ _ htab _ => ?_
    refine hQ _ h' tk _ hx (Nat.le_trans hge (Nat.le_of_lt hlt)) htab.2 ?_
    rw [show (ps ++ #[rawInt pos.line, rawInt pos.col, Value.ref c']).toList = ps.toList ++ [rawInt pos.line, rawInt pos.col, .ref c'] by simp]
    exact TriplesOk_snoc _ _ _ _ ht
end

section
variable {prog : Program} {w : World} {A : Around} {E : Value → Shared → Prop} {s : Shared} {h₀ : Heap} {L a c P l : Addr} {m mg mb : Str → Option Value} {cn : Str} {cs : Scope} {cl cl' : List (Str × Addr)} {news : List (Addr × Obj)} {g : Obj → List (Addr × Obj)}
  {p : Program} {loose : List Str} {mean : ExcName → Option Value} {ps : Array Value} {items : Array Value}

/- every address that stands before the generator is made lies at or below Kb -/
structure Below0 (L : Addr) (news : List (Addr × Obj)) (Kb : Addr) : Prop where
  loc : L ≤ Kb
  all : ∀ q ∈ news, q.1 ≤ Kb

/- the frame and the ledger after the generator's code object -/
theorem tab_step {h h' : Heap} {o o' : Obj} (F : Fr h₀ L h m) (N : News h₀ L h news) (U : UpdF P o news g) (hx : Heap.ExtBut P h h') (hP : h'.get? P = some o') : Fr h₀ L h' m ∧ News h₀ L h' (g o') := by
  obtain ⟨own, rest, rfl, hgr, h1, h2⟩ := U.split
  have hm := N (P, o) (List.mem_append_right _ (.head _))
  refine ⟨⟨F.ns.extBut hx hm.2.1.symm, fun b x e => hx b x (fun q => by rw [q, hm.2.2] at e; cases e) (F.keep b x e), F.above⟩, fun q hq => ?_⟩
  rw [hgr] at hq
  rcases List.mem_append.mp hq with hq | hq
  · have n := N q (List.mem_append_left _ hq); exact ⟨hx _ _ (h1 q hq) n.1, n.2⟩
  · rcases List.mem_cons.mp hq with rfl | hq
    · exact ⟨hP, hm.2⟩
    · have n := N q (List.mem_append_right _ (.tail _ hq)); exact ⟨hx _ _ (h2 q hq) n.1, n.2⟩

theorem upd_addr {o o' : Obj} (U : UpdF P o news g) : ∀ q ∈ g o', ∃ q' ∈ news, q'.1 = q.1 := by
  obtain ⟨own, rest, rfl, hgr, _, _⟩ := U.split
  intro q hq
  rw [hgr] at hq
  rcases List.mem_append.mp hq with hq | hq
  · exact ⟨q, List.mem_append_left _ hq, rfl⟩
  · rcases List.mem_cons.mp hq with rfl | hq
    · exact ⟨(P, o), List.mem_append_right _ (.head _), rfl⟩
    · exact ⟨q, List.mem_append_right _ (.tail _ hq), rfl⟩

theorem gen_iter {elt iter : Expr} {x : Str} {px : Pos} {scope : Scope} {pos : Pos} {Q : Value → Shared → Prop} {Fv : Nat → Value → Prop}
    (T : Top p loose mean mg mb h₀) (C : CodeHd h₀ c P) (ht : TriplesOk ps.toList) (hroom : A.depth < recursionLimit)
    (hh : A.handled = none) (hcl : closureFor scope (envX cn cs L a (.ref c) cl) = pure cl')
    (hit : wpAny (model prog w) A (eval iter (envX cn cs L a (.ref c) cl)) (fun xv s₁ => wpAny (model prog w) A (pyIter xv) (fun it s₂ =>
      ∃ I fp wr n₀ Pi St₀ Kb, it = .ref I ∧ (∀ A' : Around, A'.handled = none → Walks prog w A' I fp wr n₀ Pi St₀) ∧ St₀ 0 s₂.heap ∧ (∀ b ∈ fp, b < s₂.heap.objs.size) ∧ P ∉ fp ∧ (∀ b ∈ wr, Kb < b) ∧
        Fr h₀ L s₂.heap m ∧ News h₀ L s₂.heap news ∧ UpdF P (tabObj ps) news g ∧ AllBare s₂.gens ∧ Below0 L news Kb ∧ Kb < s₂.heap.objs.size ∧
        (∀ (D : Addr) (code : Value) (ps' : Array Value) (A' : Around) E' i v (t : Shared) m₂, A'.handled = none → A'.depth ≤ A.depth + 1 → A'.units ≤ A.units + 8 → Pi i v →
          Fr h₀ D t.heap m₂ → News h₀ D t.heap (g (tabObj ps')) → m₂ x = some v →
          wpAny (model prog w) A' (eval elt (genEnv scope cl' D code builtinsNs (envX cn cs L a (.ref c) cl))) (fun y s₃ => Fv i y ∧ Keeps t s₃) E' t) ∧
        (∀ b h' tk gs ps', TriplesOk ps'.toList → Fr h₀ L h' m → News h₀ L h' (g (tabObj ps')) → AllBare gs → Below0 L (g (tabObj ps')) Kb →
          Gen prog w A Kb b n₀ Fv { s₂ with gens := gs, toks := tk, heap := h' } → Q (.ref b) { s₂ with gens := gs, toks := tk, heap := h' })) E s₁) E s)
    (hs : ∀ x, genFold iter (envX cn cs L a (.ref c) cl) x = pure x)
    (hco : scope.isCoroutine = false := by rfl) (hcell : ∀ z ∈ scope.names, z.2 ≠ .cell := by decide)
    (h0 : scope.names.lookup (".0" : Str) = some NameKind.local := by rfl) (hx : scope.names.lookup x = some .local := by rfl) (hkind : scope.kind = .function := by rfl) :
    wpAny (model prog w) A (eval (.GeneratorExp elt [⟨.Name x px, iter, [], 0⟩] scope pos) (envX cn cs L a (.ref c) cl)) Q E s := by
  refine wpAny_GeneratorExp_walksQD hh hco hcl hcell h0 hx hkind hroom (wpAny_mono hit (fun xv s₁ h₁ => wpAny_mono h₁ (fun it s₂ h₂ => ?_) fun _ _ e => e) fun _ _ e => e) hs
  obtain ⟨I, fp, wr, n₀, Pi, St₀, Kb, rfl, W, hst, hfp, hPf, hwr, F, N, U, G, B, hKb, hq, hQ⟩ := h₂
  have hmP : s₂.heap.get? P = some (tabObj ps) := by
    obtain ⟨own, rest, rfl, _, _, _⟩ := U.split
    exact (N (P, tabObj ps) (List.mem_append_right _ (.head _))).1
  have hlim : s₂.heap.NoLimit := T.nolimit.keeps F.keep
  refine ⟨hlim, codeG rfl (C.keeps F.keep) hmP ht fun code h₃ tk₃ ps' hx₃ hsz₃ hP₃ ht' => ?_⟩
  obtain ⟨F₃, N₃⟩ := tab_step F N U hx₃ hP₃
  have T₃ := T.keeps F₃.keep
  obtain ⟨bm, ob, M₃⟩ := bmod_of_top T₃
  have hl₃ : h₃.NoLimit := T.nolimit.keeps F₃.keep
  have hB' : Below0 L (g (tabObj ps')) Kb := ⟨B.loc, fun q hq => by obtain ⟨q', h1, h2⟩ := upd_addr U q hq; exact h2 ▸ B.all q' h1⟩
  have oldK : ∀ b o, h₀.get? b = some o → b ≤ Kb := fun b o e => Nat.le_trans (Nat.le_of_lt (Nat.lt_of_lt_of_le (Heap.lt_size e) F.above)) B.loc
  have hcw : cStatics ∉ wr := fun hm => by
    obtain ⟨_, hns, _⟩ := T.nolimit
    obtain ⟨o, es, ep, ho, _⟩ := hns
    exact absurd (hwr _ hm) (Nat.not_lt.mpr (oldK _ _ ho))
  refine wpAny_builtinsFor M₃.ns M₃.name M₃.ne M₃.obj M₃.cls M₃.dict M₃.data ?_
  refine ⟨I, fp, wr, n₀, Pi, St₀, fun _ => true, Fv, rfl, W, (W A hh).frame _ _ _ hst (fun b hb o e => hx₃ b o (fun q => hPf (q ▸ hb)) e), (fun b hb => Nat.lt_of_lt_of_le (hfp b hb) hsz₃), hl₃, hcw,
    (fun href hhref => ?_), fun b h₅ tk gs hgb hag hsz₅ hk₅ Ws hat => ?_⟩
  · have inB : ∀ (t : Shared) m₂, t.heap.Ns h₃.objs.size m₂ → (∀ b ∈ List.range h₃.objs.size, b ∉ wr → ∀ o, href.get? b = some o → t.heap.get? b = some o) →
        Fr h₀ h₃.objs.size t.heap m₂ ∧ News h₀ h₃.objs.size t.heap (g (tabObj ps')) := fun t m₂ hn hkp => by
      have up : ∀ b o, b ≤ Kb → h₃.get? b = some o → t.heap.get? b = some o := fun b o hbk e =>
        hkp b (List.mem_range.mpr (Heap.lt_size e)) (fun hm => Nat.not_lt.mpr hbk (hwr b hm)) o (hhref b o e)
      exact ⟨⟨hn, fun b o e => up b o (oldK b o e) (F₃.keep b o e), Nat.le_trans F₃.above (Nat.le_of_lt F₃.ns.lt)⟩,
        fun q hq => ⟨up _ _ (hB'.all q hq) (N₃ q hq).1, Nat.ne_of_lt (Heap.lt_size (N₃ q hq).1), (N₃ q hq).2.2⟩⟩
    exact ⟨fun A' E' i v t m₂ hA hD hU hP hn hm hkp => wpAny_pure ⟨rfl, t.heap, t.toks, rfl, fun _ _ e => e⟩,
      fun A' E' i v t m₂ hA hD hU hP hp hn hm hkp => hq _ _ ps' A' E' i v t m₂ hA hD hU hP (inB t m₂ hn hkp).1 (inB t m₂ hn hkp).2 hm⟩
  · refine hQ b h₅ tk _ ps' ht' (F₃.keeps hk₅) (fun q hq => ⟨hk₅ _ _ (N₃ q hq).1, (N₃ q hq).2⟩) (G.push hgb) hB' ?_
    rw [passing_true_len] at Ws
    have X : Gen prog w A Kb b n₀ (fun j y => ∃ i, (passing (fun _ => true) n₀ 0)[j]? = some i ∧ Fv i y) { s₂ with gens := s₂.gens.push gs, toks := tk, heap := h₅ } := by
      refine ⟨_, _, _, _, Ws, hat, (fun i s' st => st.1.typeIs), List.mem_cons_self, ?_, ?_⟩
      · intro q hq
        show q < h₅.objs.size
        rw [hsz₅]
        rcases List.mem_cons.mp hq with rfl | hq
        · exact Nat.lt_succ_self _
        · rcases List.mem_cons.mp hq with rfl | hq
          · exact Nat.lt_succ_of_lt hag
          · exact Nat.lt_succ_of_lt (Nat.lt_trans (List.mem_range.mp hq) hag)
      · intro q hq
        rcases List.mem_cons.mp hq with rfl | hq
        · exact Nat.lt_of_lt_of_le hKb hsz₃
        · exact hwr q hq
    obtain ⟨fp', wr', gg, St', X1, X2, X3, X4, X5, X6⟩ := X
    refine ⟨fp', wr', gg, St', ?_, X2, X3, X4, X5, X6⟩
    exact ⟨X1.sub, X1.grefl, X1.gtrans, X1.frame, fun i s Q E hi st hQ => X1.item i s Q E hi st fun v s' ⟨i', h1, h2⟩ => hQ v s' (by rw [passing_true_get h1] at h2; exact h2), X1.done, X1.self⟩

theorem gen_list {elt : Expr} {x y : Str} {px py : Pos} {scope : Scope} {pos : Pos} {Q : Value → Shared → Prop} {Fv : Nat → Value → Prop}
    (F : Fr h₀ L s.heap m) (N : News h₀ L s.heap news) (T : Top p loose mean mg mb h₀) (C : CodeHd h₀ c P) (U : UpdF P (tabObj ps) news g) (ht : TriplesOk ps.toList) (hb : AllBare s.gens)
    (hh : A.handled = none) (hcl : closureFor scope (envX cn cs L a (.ref c) cl) = pure cl') (hm : m y = some (.ref l)) (hl : h₀.IsList l items)
    (hroom : A.depth < recursionLimit)
    (hq : ∀ (D : Addr) (code : Value) (ps' : Array Value) (A' : Around) E' i v (t : Shared) m₂, A'.handled = none → A'.depth ≤ A.depth + 1 → A'.units ≤ A.units + 8 → items[i]? = some v →
      Fr h₀ D t.heap m₂ → News h₀ D t.heap (g (tabObj ps')) → m₂ x = some v →
      wpAny (model prog w) A' (eval elt (genEnv scope cl' D code builtinsNs (envX cn cs L a (.ref c) cl))) (fun y s₃ => Fv i y ∧ Keeps t s₃) E' t)
    (hQ : ∀ b h' tk gs ps' Kb, TriplesOk ps'.toList → Fr h₀ L h' m → News h₀ L h' (g (tabObj ps')) → AllBare gs → Below0 L (g (tabObj ps')) Kb →
      Gen prog w A Kb b items.size Fv { s with gens := gs, toks := tk, heap := h' } → Q (.ref b) { s with gens := gs, toks := tk, heap := h' })
    (hd : (y == ("__debug__" : Str)) = false := by decide)
    (hk : cs.kind = .function := by rfl) (hy : (envX cn cs L a (.ref c) cl).kindOf y = some .local := by rfl) (hco : scope.isCoroutine = false := by rfl) (hcell : ∀ z ∈ scope.names, z.2 ≠ .cell := by decide)
    (h0 : scope.names.lookup (".0" : Str) = some NameKind.local := by rfl) (hx : scope.names.lookup x = some .local := by rfl) (hkind : scope.kind = .function := by rfl) :
    wpAny (model prog w) A (eval (.GeneratorExp elt [⟨.Name x px, .Name y py, [], 0⟩] scope pos) (envX cn cs L a (.ref c) cl)) Q E s := by
  have hls : s.heap.IsList l items := F.lst hl
  have hlt : l < s.heap.objs.size := by obtain ⟨_, e, _⟩ := hls; exact Heap.lt_size e
  have hmP : h₀.get? P = none ∧ P < s.heap.objs.size := by
    obtain ⟨own, rest, rfl, _, _, _⟩ := U.split
    have := N (P, tabObj ps) (List.mem_append_right _ (.head _))
    exact ⟨this.2.2, Heap.lt_size this.1⟩
  have hlP : P ≠ l := fun q => by
    obtain ⟨_, e, _⟩ := hl
    rw [← q, hmP.1] at e; cases e
  have hL := F.ns.lt
  have hpos : 0 < s.heap.objs.size := Nat.lt_of_le_of_lt (Nat.zero_le _) hL
  refine gen_iter (g := g) (news := news) (m := m) (Fv := Fv) T C ht hroom hh hcl ?_ (fun _ => rfl) hco hcell h0 hx hkind
  refine nameX_L F hm ?_ hk hy hd
  refine wpAny_pyIter_list hls ⟨s.heap.objs.size, [s.heap.objs.size, l], [s.heap.objs.size], items.size, _, _, s.heap.objs.size - 1, rfl, (fun A' hA => Walks.list hA _ _ (Nat.ne_of_lt hlt) items),
    ⟨⟨_, Heap.get?_push_size _ rfl, rfl, rfl⟩, hls.push _⟩, ?_, ?_, ?_, F.push _, N.pushKeep _, U, hb, ⟨Nat.le_sub_one_of_lt hL, fun q hq => Nat.le_sub_one_of_lt (Heap.lt_size (N q hq).1)⟩, ?_, hq, fun b h' tk gs ps' z1 z2 z3 z4 z5 z6 => hQ b h' tk gs ps' _ z1 z2 z3 z4 z5 z6⟩
  · intro b hb
    show b < (s.heap.push _).objs.size
    rw [Heap.size_push]
    simp only [List.mem_cons, List.not_mem_nil, or_false] at hb
    rcases hb with rfl | rfl
    · exact Nat.lt_succ_self _
    · exact Nat.lt_succ_of_lt hlt
  · intro hb
    simp only [List.mem_cons, List.not_mem_nil, or_false] at hb
    rcases hb with q | q
    · exact absurd (q ▸ hmP.2) (Nat.lt_irrefl _)
    · exact hlP q
  · intro b hb
    rw [List.mem_singleton.mp hb]
    exact Nat.sub_lt hpos (by decide)
  · show _ < (s.heap.push _).objs.size
    rw [Heap.size_push]
    exact Nat.lt_succ_of_le (Nat.sub_le _ _)
end
end Mine
end
theorem Mine.top_off_N6 : True := by
  w_top off
  trivial
section
open PySem PySem.W PySem.Calls PyProof.Rows PySem.W.KBw
open Sem (wp)
set_option maxRecDepth 100000
set_option maxHeartbeats 8000000
namespace Mine
section
variable {prog : Program} {w : World} {A : Around} {E : Value → Shared → Prop} {s : Shared} {b : Array UInt8} {t : Tok}

theorem nextOf_item {it : Addr} {i : Nat} {c : UInt8} {Q : Value → Shared → Prop} (hit : IsBytesIter s.heap it b t i) (hx : b[i]? = some c)
    (hQ : ∀ h', IsBytesIter h' it b t (i + 1) → Heap.SameBut it s.heap h' → Q (.int (c.toNat : Int) s.toks) { s with heap := h', toks := s.toks + 1 }) : wpAny (model prog w) A (Builtin.SmallTypes.nextOf (.ref it)) Q E s := by
  obtain ⟨o, ho, hc, hd⟩ := id hit
  unfold Builtin.SmallTypes.nextOf
  refine wpAny_bind (wpAny_callSpecial?_slot (name := PySem.Str.ofString "__next__") (iter_typeIs hit) slot_next
    (wpAny_call_entry slot_next (iter_typeIs hit) entry_next ?_ (args_next _)))
  show wpAny _ _ (field (.ref it) 0 >>= _) _ _ s
  refine wpAny_bind (wpAny_field ho hd (x := .bytes b t) rfl ?_)
  show wpAny _ _ (if (Value.bytes b t == Value.none) = true then _ else _) _ _ s
  rw [if_neg (show ¬ ((Value.bytes b t == Value.none) = true) from Bool.false_ne_true)]
  show wpAny _ _ (field (.ref it) 1 >>= _) _ _ s
  refine wpAny_bind (wpAny_field ho hd (x := .int i 0) rfl ?_)
  refine wpAny_bind (wpAny_of_eq (a := b) rfl ?_)
  simp only [Int.toNat_natCast, hx]
  refine wpAny_bind (wpAny_setField ho hd (by simp) (wpAny_bind (wpAny_mkInt (wpAny_pure ⟨_, rfl, wpAny_pure (hQ _ ?_ (Heap.SameBut.update ..))⟩))))
  exact ⟨_, Heap.get?_update_self _ ho (Obj.isFreed_of_fields (Obj.data_mapFields hd _)), (Obj.cls_mapFields ..).trans hc, by
    rw [Obj.data_mapFields hd]; simp [rawInt]⟩

theorem nextOf_end {it : Addr} {i : Nat} {Q : Value → Shared → Prop} (hh : A.handled = none) (hit : IsBytesIter s.heap it b t i) (hx : b[i]? = none)
    (hE : ∀ h' e, Heap.ExtBut it s.heap h' → (∃ o, h'.get? e = some o ∧ o.cls = .type "StopIteration") → E (.ref e) { s with heap := h' }) : wpAny (model prog w) A (Builtin.SmallTypes.nextOf (.ref it)) Q E s := by
  obtain ⟨o, ho, hc, hd⟩ := id hit
  unfold Builtin.SmallTypes.nextOf
  refine wpAny_bind (wpAny_callSpecial?_slot (name := PySem.Str.ofString "__next__") (iter_typeIs hit) slot_next
    (wpAny_call_entry slot_next (iter_typeIs hit) entry_next ?_ (args_next _)))
  show wpAny _ _ (field (.ref it) 0 >>= _) _ _ s
  refine wpAny_bind (wpAny_field ho hd (x := .bytes b t) rfl ?_)
  show wpAny _ _ (if (Value.bytes b t == Value.none) = true then _ else _) _ _ s
  rw [if_neg (show ¬ ((Value.bytes b t == Value.none) = true) from Bool.false_ne_true)]
  show wpAny _ _ (field (.ref it) 1 >>= _) _ _ s
  refine wpAny_bind (wpAny_field ho hd (x := .int i 0) rfl ?_)
  refine wpAny_bind (wpAny_of_eq (a := b) rfl ?_)
  simp only [Int.toNat_natCast, hx]
  refine wpAny_bind (wpAny_rule (wpAny_bind (wpAny_setField ho hd (by simp) ?_)))
  show wpAny _ _ (newExc (.type "StopIteration") [] >>= _) _ _ _
  refine wpAny_bind ?_
  simp only [newExc, newTuple]
  refine wpAny_bind (wpAny_newObj_type ?_ (by size_fits))
  refine wpAny_bind (m := firstArgMember _ _) (wpAny_of_eq (a := Value.none) (by first | rfl | (simp only [firstArgMember]; rfl)) ?_)
  refine wpAny_newObj_type ?_ (by size_fits)
  simp only [raiseNew]
  refine wpAny_bind (wpAny_handled ?_)
  rw [show A.in1.handled = none from hh]
  refine wpAny_bind (wpAny_pure (wpAny_throw ?_))
  exact hE _ _ (((Heap.SameBut.update ..).extBut.push _).push _) ⟨_, Heap.get?_push_size _ rfl, rfl⟩

theorem bi_ext {h h' : Heap} {d it : Addr} {i : Nat} (x : IsBytesIter h it b t i) (e : Heap.ExtBut d h h') (n : it ≠ d) : IsBytesIter h' it b t i := let ⟨o, ho, r⟩ := x; ⟨o, e _ _ n ho, r⟩
theorem bi_at {h h' : Heap} {it : Addr} {i : Nat} (x : IsBytesIter h it b t i) (e : ∀ o, h.get? it = some o → h'.get? it = some o) : IsBytesIter h' it b t i := let ⟨o, ho, r⟩ := x; ⟨o, e _ ho, r⟩
theorem bi_lt {h : Heap} {it : Addr} {i : Nat} (x : IsBytesIter h it b t i) : it < h.objs.size := let ⟨_, ho, _⟩ := x; Heap.lt_size ho
end

structure ZA (z TI TO i1 i2 : Addr) : Prop where
  TIz : TI ≠ z
  TOz : TO ≠ z
  i1z : i1 ≠ z
  i2z : i2 ≠ z
  TITO : TI ≠ TO
  TIi1 : TI ≠ i1
  TIi2 : TI ≠ i2
  TOi1 : TO ≠ i1
  TOi2 : TO ≠ i2
  i12 : i1 ≠ i2

section
variable {prog : Program} {w : World} {A : Around} {E : Value → Shared → Prop} {s : Shared} {b1 b2 : Array UInt8} {t1 t2 : Tok}

theorem zb_item {z TI TO i1 i2 : Addr} {k1 k2 : Nat} {x y : UInt8} {a b : Value} {Q : Value → Shared → Prop} (D : ZA z TI TO i1 i2)
    (hz : IsZip s.heap z TI TO .none) (hTI : IsPair s.heap TI (.ref i1) (.ref i2)) (hTO : IsPair s.heap TO a b)
    (h1 : IsBytesIter s.heap i1 b1 t1 k1) (h2 : IsBytesIter s.heap i2 b2 t2 k2) (hx : b1[k1]? = some x) (hy : b2[k2]? = some y)
    (hQ : ∀ h' tk u v, IsZip h' z TI TO (rawInt s.heap.objs.size) → IsPair h' TO (.int (x.toNat : Int) u) (.int (y.toNat : Int) v) → IsBytesIter h' i1 b1 t1 (k1 + 1) → IsBytesIter h' i2 b2 t2 (k2 + 1) →
      IsPair h' s.heap.objs.size (.int (x.toNat : Int) u) (.int (y.toNat : Int) v) → h'.objs.size = s.heap.objs.size + 1 →
      (∀ c o, c ≠ z → c ≠ TO → c ≠ i1 → c ≠ i2 → s.heap.get? c = some o → h'.get? c = some o) → Q (.ref s.heap.objs.size) { s with heap := h', toks := tk }) :
    wpAny (model prog w) A (Builtin.«zip.__next__» ⟨[.ref z], []⟩) (fun fin s' => ∃ v, fin = .done (.ret v) ∧ Q v s') E s := by
  show wpAny _ _ (field (.ref z) 2 >>= _) _ _ _
  refine wpAny_bind (wpAny_field hz rfl (x := .bool false) rfl ?_)
  show wpAny _ _ (field (.ref z) 3 >>= _) _ _ _
  refine wpAny_bind (wpAny_field hz rfl (x := .ref TI) rfl ?_)
  refine wpAny_bind (wpAny_seqItems hTI rfl ?_)
  show wpAny _ _ (Builtin.SmallTypes.ownedTupleIsFree (.ref z) >>= _) _ _ _
  refine wpAny_bind ?_
  unfold Builtin.SmallTypes.ownedTupleIsFree
  refine wpAny_bind (wpAny_field hz rfl (x := .none) rfl (wpAny_pure ?_))
  simp only [if_true]
  refine wpAny_bind (wpAny_rule ?_)
  refine wpAny_bind (wpAny_field hz rfl (x := .ref TO) rfl ?_)
  refine wpAny_bind (wpAny_setField_rec hz (by simp) fun h₁ hz₁ hs₁ => ?_)
  replace hz₁ : IsZip h₁ z TI TO .ellipsis := hz₁
  refine wpAny_bind ?_
  simp only [List.zipIdx_cons, List.zipIdx_nil, List.forIn_cons, List.forIn_nil]
  refine wpAny_bind (wpAny_bind (wpAny_onRaise ?_))
  show wpAny _ _ (Builtin.SmallTypes.nextOf (.ref i1) >>= _) _ _ _
  refine wpAny_bind (nextOf_item (bi_ext h1 hs₁.extBut D.i1z) hx fun h₂ h1₂ hs₂ => wpAny_pure ?_)
  have hTO₂ : IsPair h₂ TO a b := hs₂.extBut _ _ D.TOi1 (hs₁.extBut _ _ D.TOz hTO)
  refine wpAny_bind (wpAny_seqItems hTO₂ rfl ?_)
  refine wpAny_bind (wpAny_updateSeq_pair hTO₂ fun h₃ hTO₃ hs₃ => ?_)
  replace hTO₃ : IsPair h₃ TO (.int (x.toNat : Int) s.toks) b := hTO₃
  refine wpAny_bind (wpAny_letGo (wpAny_pure ?_))
  refine wpAny_bind (wpAny_bind (wpAny_onRaise ?_))
  show wpAny _ _ (Builtin.SmallTypes.nextOf (.ref i2) >>= _) _ _ _
  refine wpAny_bind (nextOf_item (bi_ext (bi_ext (bi_ext h2 hs₁.extBut D.i2z) hs₂.extBut D.i12.symm) hs₃.extBut D.TOi2.symm) hy fun h₄ h2₄ hs₄ => wpAny_pure ?_)
  have hTO₄ : IsPair h₄ TO (.int (x.toNat : Int) s.toks) b := hs₄.extBut _ _ D.TOi2 hTO₃
  refine wpAny_bind (wpAny_seqItems hTO₄ rfl ?_)
  refine wpAny_bind (wpAny_updateSeq_pair hTO₄ fun h₅ hTO₅ hs₅ => ?_)
  replace hTO₅ : IsPair h₅ TO (.int (x.toNat : Int) s.toks) (.int (y.toNat : Int) (s.toks + 1)) := hTO₅
  refine wpAny_bind (wpAny_letGo (wpAny_pure (wpAny_pure ?_)))
  refine wpAny_bind (wpAny_seqItems hTO₅ rfl ?_)
  refine wpAny_bind (wpAny_newTuple ?_)
  have hsz : h₅.objs.size = s.heap.objs.size := by rw [hs₅.1, hs₄.1, hs₃.1, hs₂.1, hs₁.1]
  have hz₅ : IsZip h₅ z TI TO .ellipsis := hs₅.extBut _ _ D.TOz.symm (hs₄.extBut _ _ D.i2z.symm (hs₃.extBut _ _ D.TOz.symm (hs₂.extBut _ _ D.i1z.symm hz₁)))
  have hk₅ : ∀ c o, c ≠ z → c ≠ TO → c ≠ i1 → c ≠ i2 → s.heap.get? c = some o → h₅.get? c = some o := fun c o c1 c2 c3 c4 e =>
    hs₅.extBut _ _ c2 (hs₄.extBut _ _ c4 (hs₃.extBut _ _ c2 (hs₂.extBut _ _ c3 (hs₁.extBut _ _ c1 e))))
  have h1₅ : IsBytesIter h₅ i1 b1 t1 (k1 + 1) := bi_ext (bi_ext (bi_ext h1₂ hs₃.extBut D.TOi1.symm) hs₄.extBut D.i12) hs₅.extBut D.TOi1.symm
  have h2₅ : IsBytesIter h₅ i2 b2 t2 (k2 + 1) := bi_ext h2₄ hs₅.extBut D.TOi2.symm
  have hzlt : z < h₅.objs.size := Heap.lt_size hz₅
  have hTOlt : TO < h₅.objs.size := Heap.lt_size hTO₅
  show wpAny _ _ (Builtin.SmallTypes.ownedTupleHandOut (.ref z) (.ref h₅.objs.size) >>= _) _ _ _
  refine wpAny_bind ?_
  unfold Builtin.SmallTypes.ownedTupleHandOut
  have hz₆ : IsZip (h₅.push { cls := .type "tuple", data := .seq #[.int (x.toNat : Int) s.toks, .int (y.toNat : Int) (s.toks + 1)] }) z TI TO .ellipsis := Heap.get?_push_of_some _ hz₅
  refine wpAny_bind (wpAny_setField_rec hz₆ (by simp) fun h₇ hz₇ hs₇ => ?_)
  replace hz₇ : IsZip h₇ z TI TO (rawInt h₅.objs.size) := hz₇
  refine wpAny_setField_rec hz₇ (by simp) fun h₈ hz₈ hs₈ => ?_
  replace hz₈ : IsZip h₈ z TI TO (rawInt h₅.objs.size) := hz₈
  have up : ∀ c o, c ≠ z → h₅.get? c = some o → h₈.get? c = some o := fun c o c1 e => hs₈.extBut _ _ c1 (hs₇.extBut _ _ c1 (Heap.get?_push_of_some _ e))
  have hT₈ : IsPair h₈ h₅.objs.size (.int (x.toNat : Int) s.toks) (.int (y.toNat : Int) (s.toks + 1)) := hs₈.extBut _ _ (Nat.ne_of_gt hzlt) (hs₇.extBut _ _ (Nat.ne_of_gt hzlt) (Heap.get?_push_size _ rfl))
  have hz8 : h₈.objs.size = h₅.objs.size + 1 := by rw [hs₈.1, hs₇.1, Heap.size_push]
  rw [hsz] at hz₈ hT₈ hz8
  refine wpAny_pure ⟨_, rfl, ?_⟩
  show Q (.ref h₅.objs.size) _
  rw [hsz]
  exact hQ h₈ _ _ _ hz₈ (up _ _ D.TOz hTO₅) (bi_at h1₅ fun o e => up _ o D.i1z e) (bi_at h2₅ fun o e => up _ o D.i2z e) hT₈ hz8 fun c o c1 c2 c3 c4 e => up c o c1 (hk₅ c o c1 c2 c3 c4 e)

theorem zb_end {z TI TO i1 i2 : Addr} {k1 : Nat} {a b : Value} {Q : Fin → Shared → Prop} (hh : A.handled = none) (D : ZA z TI TO i1 i2)
    (hz : IsZip s.heap z TI TO .none) (hTI : IsPair s.heap TI (.ref i1) (.ref i2)) (hTO : IsPair s.heap TO a b)
    (h1 : IsBytesIter s.heap i1 b1 t1 k1) (hend : b1[k1]? = none)
    (hE : ∀ h' e, (∀ c o, c ≠ z → c ≠ TO → c ≠ i1 → c ≠ i2 → s.heap.get? c = some o → h'.get? c = some o) → (∃ o, h'.get? e = some o ∧ o.cls = .type "StopIteration") → E (.ref e) { s with heap := h' }) :
    wpAny (model prog w) A (Builtin.«zip.__next__» ⟨[.ref z], []⟩) Q E s := by
  show wpAny _ _ (field (.ref z) 2 >>= _) _ _ _
  refine wpAny_bind (wpAny_field hz rfl (x := .bool false) rfl ?_)
  show wpAny _ _ (field (.ref z) 3 >>= _) _ _ _
  refine wpAny_bind (wpAny_field hz rfl (x := .ref TI) rfl ?_)
  refine wpAny_bind (wpAny_seqItems hTI rfl ?_)
  show wpAny _ _ (Builtin.SmallTypes.ownedTupleIsFree (.ref z) >>= _) _ _ _
  refine wpAny_bind ?_
  unfold Builtin.SmallTypes.ownedTupleIsFree
  refine wpAny_bind (wpAny_field hz rfl (x := .none) rfl (wpAny_pure ?_))
  simp only [if_true]
  refine wpAny_bind (wpAny_rule ?_)
  refine wpAny_bind (wpAny_field hz rfl (x := .ref TO) rfl ?_)
  refine wpAny_bind (wpAny_setField_rec hz (by simp) fun h₁ hz₁ hs₁ => ?_)
  replace hz₁ : IsZip h₁ z TI TO .ellipsis := hz₁
  refine wpAny_bind ?_
  simp only [List.zipIdx_cons, List.zipIdx_nil, List.forIn_cons, List.forIn_nil]
  refine wpAny_bind (wpAny_bind (wpAny_onRaise ?_))
  show wpAny _ _ (Builtin.SmallTypes.nextOf (.ref i1) >>= _) _ _ _
  refine wpAny_bind (nextOf_end hh (bi_ext h1 hs₁.extBut D.i1z) hend fun h₂ e hs₂ he => ?_)
  obtain ⟨oe, hoe, hce⟩ := he
  have hz₂ : IsZip h₂ z TI TO .ellipsis := hs₂ _ _ D.i1z.symm hz₁
  have hez : e ≠ z := fun x => by subst x; rw [hz₂] at hoe; cases hoe; simp at hce
  refine wpAny_setField_rec hz₂ (by simp) fun h₃ _ hs₃ => hE h₃ e (fun c o c1 _ c3 _ x => hs₃.extBut _ _ c1 (hs₂ _ _ c3 (hs₁.extBut _ _ c1 x))) ⟨oe, hs₃.extBut _ _ hez hoe, hce⟩

theorem zb_walks (hh : A.handled = none) (z TI TO i1 i2 : Addr) (D : ZA z TI TO i1 i2) (b1 b2 : Array UInt8) (t1 t2 : Tok) (hn : b1.size = b2.size) :
    WalksU prog w A z [z, TI, TO, i1, i2] [z, TO, i1, i2] b1.size
      (fun i vals => ∃ x y u v, b1[i]? = some x ∧ b2[i]? = some y ∧ vals = #[.int (x.toNat : Int) u, .int (y.toNat : Int) v])
      (fun i h => IsZip h z TI TO .none ∧ IsPair h TI (.ref i1) (.ref i2) ∧ (∃ a b, IsPair h TO a b) ∧ IsBytesIter h i1 b1 t1 i ∧ IsBytesIter h i2 b2 t2 i)
      (fun i T h => IsZip h z TI TO (rawInt T) ∧ IsPair h TI (.ref i1) (.ref i2) ∧ (∃ a b, IsPair h TO a b) ∧ IsBytesIter h i1 b1 t1 (i + 1) ∧ IsBytesIter h i2 b2 t2 (i + 1) ∧
        T ≠ z ∧ T ≠ TO ∧ T ≠ i1 ∧ T ≠ i2) where
  sub := fun c hc => by simp at hc ⊢; rcases hc with rfl | rfl | rfl | rfl <;> simp
  frame := fun i h h' hst hk => by
    obtain ⟨hz, hTI, ⟨a, b, hTO⟩, h1, h2⟩ := hst
    exact ⟨hk z (by simp) _ hz, hk TI (by simp) _ hTI, ⟨a, b, hk TO (by simp) _ hTO⟩, bi_at h1 fun o e => hk i1 (by simp) o e, bi_at h2 fun o e => hk i2 (by simp) o e⟩
  item := fun i s Q E hi hst hQ => by
    obtain ⟨hz, hTI, ⟨a, b, hTO⟩, h1, h2⟩ := hst
    have hT : s.TypeIs (.ref z) "zip" := ⟨_, hz, rfl⟩
    have lt : ∀ {c o}, s.heap.get? c = some o → s.heap.objs.size ≠ c := fun e => Nat.ne_of_gt (Heap.lt_size e)
    unfold pyNext
    refine wpAny_bind (wpAny_attempt (wpAny_callSpecial?_slot (name := Str.ofString "__next__") hT F.slot_zip_next
      (wpAny_call_entry F.slot_zip_next hT F.entry_zip_next
        (zb_item D hz hTI hTO h1 h2 (Array.getElem?_eq_getElem hi) (Array.getElem?_eq_getElem (hn ▸ hi)) fun h' tk u v a1 a2 a3 a4 a5 a6 hk => wpAny_pure ?_) (F.args_zip_next_1 _))))
    exact hQ s.heap.objs.size _ h' tk ⟨_, _, u, v, Array.getElem?_eq_getElem hi, Array.getElem?_eq_getElem (hn ▸ hi), rfl⟩ ⟨_, a5, rfl, _, rfl⟩
      ⟨a1, hk _ _ D.TIz D.TITO D.TIi1 D.TIi2 hTI, ⟨_, _, a2⟩, a3, a4, lt hz, lt hTO, Nat.ne_of_gt (bi_lt h1), Nat.ne_of_gt (bi_lt h2)⟩
      fun c o hc e => hk c o (fun x => hc (by simp [x])) (fun x => hc (by simp [x])) (fun x => hc (by simp [x])) (fun x => hc (by simp [x])) e
  go := fun elts k pos i T s Q E hm hQ => by
    obtain ⟨hz, hTI, ⟨a, b, hTO⟩, h1, h2, _⟩ := hm
    refine wpAny_letOwnedTupleGo_zip hz fun h' hz' hs' => hQ h' ⟨hz', hs'.extBut _ _ D.TIz hTI, ⟨a, b, hs'.extBut _ _ D.TOz hTO⟩, bi_ext h1 hs'.extBut D.i1z, bi_ext h2 hs'.extBut D.i2z⟩
      fun c o hc e => hs'.extBut _ _ (fun x => hc (by simp [x])) e
  apart := fun i T h hm hT => by
    obtain ⟨_, _, _, _, _, q1, q2, q3, q4⟩ := hm
    simp at hT
    rcases hT with rfl | rfl | rfl | rfl
    · exact q1 rfl
    · exact q2 rfl
    · exact q3 rfl
    · exact q4 rfl
  done := fun s Q E hst hQ => by
    obtain ⟨hz, hTI, ⟨a, b, hTO⟩, h1, h2⟩ := hst
    have hT : s.TypeIs (.ref z) "zip" := ⟨_, hz, rfl⟩
    unfold pyNext
    refine wpAny_bind (wpAny_attempt (wpAny_callSpecial?_slot (name := Str.ofString "__next__") hT F.slot_zip_next
      (wpAny_call_entry F.slot_zip_next hT F.entry_zip_next (zb_end hh D hz hTI hTO h1 (Array.getElem?_eq_none (Nat.le_refl _)) fun h' e hk he => ?_) (F.args_zip_next_1 _))))
    obtain ⟨o, ho, hc⟩ := he
    refine wpAny_bind (wpAny_isInstance (T := "StopIteration") (b := true) ⟨o, ho, hc⟩ isSubtype_stop ?_)
    exact wpAny_pure (hQ _ s.toks fun c o hc e => hk c o (fun x => hc (by simp [x])) (fun x => hc (by simp [x])) (fun x => hc (by simp [x])) (fun x => hc (by simp [x])) e)
  self := fun i s Q E hst hQ => wpAny_pyIter_zip hst.1 hQ

noncomputable abbrev zbH1 (h : Heap) (b1 : Array UInt8) (t1 : Tok) : Heap := h.push { cls := .type "bytes_iterator", data := .fields #[.bytes b1 t1, .int 0 0] }
noncomputable abbrev zbH2 (h : Heap) (b1 : Array UInt8) (t1 : Tok) (b2 : Array UInt8) (t2 : Tok) : Heap := (zbH1 h b1 t1).push { cls := .type "bytes_iterator", data := .fields #[.bytes b2 t2, .int 0 0] }
noncomputable abbrev zbH3 (h : Heap) (b1 : Array UInt8) (t1 : Tok) (b2 : Array UInt8) (t2 : Tok) : Heap := (zbH2 h b1 t1 b2 t2).push { cls := .type "tuple", data := .seq #[.ref h.objs.size, .ref (zbH1 h b1 t1).objs.size] }
noncomputable abbrev zbH4 (h : Heap) (b1 : Array UInt8) (t1 : Tok) (b2 : Array UInt8) (t2 : Tok) : Heap := (zbH3 h b1 t1 b2 t2).push { cls := .type "tuple", data := .seq #[.none, .none] }
noncomputable abbrev zbH5 (h : Heap) (b1 : Array UInt8) (t1 : Tok) (b2 : Array UInt8) (t2 : Tok) : Heap := (zbH4 h b1 t1 b2 t2).push { cls := .type "zip", data := .fields #[.none, .bool false, .bool false, .ref (zbH2 h b1 t1 b2 t2).objs.size, .ref (zbH3 h b1 t1 b2 t2).objs.size] }

theorem meets_zb (b1 : Array UInt8) (t1 : Tok) (b2 : Array UInt8) (t2 : Tok) :
    Meets (Builtin.«zip.__new__» ⟨[.type "zip", .bytes b1 t1, .bytes b2 t2], []⟩) (fun _ R s => R (.ok (.ret (.ref (zbH4 s.heap b1 t1 b2 t2).objs.size))) { s with heap := zbH5 s.heap b1 t1 b2 t2 }) :=
  .of_wp fun prog w A R s h => by
    obtain ⟨hp, g, d, tk, os⟩ := s
    have hsub := sub_zip
    wp_walk using pyIter_bytes, pyIter_bytes
    exact ⟨_, rfl, h⟩
end
end Mine
end
theorem Mine.top_off_N7 : True := by
  w_top off
  trivial
section
open PySem PySem.W PySem.Calls PyProof.Rows PySem.W.KBw
open Sem (wp)
set_option maxRecDepth 100000
set_option maxHeartbeats 8000000
namespace Mine
section
variable {prog : Program} {w : World} {A : Around} {E : Value → Shared → Prop} {s : Shared} {b1 b2 : Array UInt8} {t1 t2 : Tok}

noncomputable abbrev ZSt (b1 b2 : Array UInt8) (t1 t2 : Tok) (n i : Nat) (h : Heap) : Prop :=
  IsZip h (n + 4) (n + 2) (n + 3) .none ∧ IsPair h (n + 2) (.ref n) (.ref (n + 1)) ∧ (∃ a b, IsPair h (n + 3) a b) ∧ IsBytesIter h n b1 t1 i ∧ IsBytesIter h (n + 1) b2 t2 i

theorem zb_apart (n : Addr) : ZA (n + 4) (n + 2) (n + 3) n (n + 1) := by
  constructor <;> first | exact Nat.ne_of_lt (Nat.add_lt_add_left (by decide) n) | exact Nat.ne_of_gt (Nat.add_lt_add_left (by decide) n) | exact Nat.ne_of_lt (Nat.lt_add_of_pos_right (by decide)) | exact Nat.ne_of_gt (Nat.lt_add_of_pos_right (by decide))

theorem zb_call {Q : Value → Shared → Prop}
    (h : ∀ h', ZSt b1 b2 t1 t2 s.heap.objs.size 0 h' → h'.objs.size = s.heap.objs.size + 5 → (∀ c o, s.heap.get? c = some o → h'.get? c = some o) → Q (.ref (s.heap.objs.size + 4)) { s with heap := h' }) :
    wpAny (model prog w) A (call (.type "zip") [.bytes b1 t1, .bytes b2 t2]) Q E s := by
  refine callType_new F.called_zip (by decide) (F.typeCall_zip_2 _ _) (F.newCall_zip_2 _ _) (fun obj => F.args_object_init_3 obj _ _) F.entry_zip_new
    (meets_zb b1 t1 b2 t2) ?_
  have z1 : (zbH1 s.heap b1 t1).objs.size = s.heap.objs.size + 1 := Heap.size_push ..
  have z2 : (zbH2 s.heap b1 t1 b2 t2).objs.size = s.heap.objs.size + 2 := by rw [Heap.size_push, z1]
  have z3 : (zbH3 s.heap b1 t1 b2 t2).objs.size = s.heap.objs.size + 3 := by rw [Heap.size_push, z2]
  have z4 : (zbH4 s.heap b1 t1 b2 t2).objs.size = s.heap.objs.size + 4 := by rw [Heap.size_push, z3]
  have z5 : (zbH5 s.heap b1 t1 b2 t2).objs.size = s.heap.objs.size + 5 := by rw [Heap.size_push, z4]
  have g5 : (zbH5 s.heap b1 t1 b2 t2).get? (zbH4 s.heap b1 t1 b2 t2).objs.size = some _ := Heap.get?_push_size _ rfl
  have g4 : (zbH5 s.heap b1 t1 b2 t2).get? (zbH3 s.heap b1 t1 b2 t2).objs.size = some _ := Heap.get?_push_of_some _ (Heap.get?_push_size _ rfl)
  have g3 : (zbH5 s.heap b1 t1 b2 t2).get? (zbH2 s.heap b1 t1 b2 t2).objs.size = some _ := Heap.get?_push_of_some _ (Heap.get?_push_of_some _ (Heap.get?_push_size _ rfl))
  have g2 : (zbH5 s.heap b1 t1 b2 t2).get? (zbH1 s.heap b1 t1).objs.size = some _ := Heap.get?_push_of_some _ (Heap.get?_push_of_some _ (Heap.get?_push_of_some _ (Heap.get?_push_size _ rfl)))
  have g1 : (zbH5 s.heap b1 t1 b2 t2).get? s.heap.objs.size = some _ := Heap.get?_push_of_some _ (Heap.get?_push_of_some _ (Heap.get?_push_of_some _ (Heap.get?_push_of_some _ (Heap.get?_push_size _ rfl))))
  show _ ∧ _
  rw [z2, z3, z4] at g5
  rw [z1, z2] at g3
  rw [z3] at g4
  rw [z1] at g2
  rw [z4]
  exact ⟨⟨_, g5, rfl⟩, h _ ⟨g5, g3, ⟨_, _, g4⟩, ⟨_, g1, rfl, rfl⟩, ⟨_, g2, rfl, rfl⟩⟩ z5 fun c o x =>
    Heap.get?_push_of_some _ (Heap.get?_push_of_some _ (Heap.get?_push_of_some _ (Heap.get?_push_of_some _ (Heap.get?_push_of_some _ x))))⟩
end

section
variable {prog : Program} {w : World} {A : Around} {E : Value → Shared → Prop} {s : Shared} {h₀ : Heap} {L a c P l : Addr} {m mg mb : Str → Option Value} {cn : Str} {cs : Scope} {cl cl' : List (Str × Addr)} {news : List (Addr × Obj)} {g : Obj → List (Addr × Obj)}
  {p : Program} {loose : List Str} {mean : ExcName → Option Value} {ps : Array Value} {b1 b2 : Array UInt8} {t1 t2 : Tok}

/- a generator expression over zip(bytes, bytes): iter must come to such a zip, with the ledger unchanged -/
theorem gen_zip {elt iter : Expr} {x y : Str} {px py pt : Pos} {kt : Nat} {scope : Scope} {pos : Pos} {Q : Value → Shared → Prop} {Fv : Nat → Value → Prop}
    (T : Top p loose mean mg mb h₀) (C : CodeHd h₀ c P) (ht : TriplesOk ps.toList) (hroom : A.depth < recursionLimit)
    (hh : A.handled = none) (hcl : closureFor scope (envX cn cs L a (.ref c) cl) = pure cl')
    (hs : ∀ x, genFold iter (envX cn cs L a (.ref c) cl) x = pure x)
    (hit : wpAny (model prog w) A (eval iter (envX cn cs L a (.ref c) cl)) (fun xv s₁ => ∃ n, xv = .ref (n + 4) ∧ ZSt b1 b2 t1 t2 n 0 s₁.heap ∧ L < n ∧ (∀ q ∈ news, q.1 < n) ∧ P < n ∧
        Fr h₀ L s₁.heap m ∧ News h₀ L s₁.heap news ∧ UpdF P (tabObj ps) news g ∧ AllBare s₁.gens ∧ b1.size = b2.size ∧
        (∀ (D : Addr) (code : Value) (ps' : Array Value) (A' : Around) E' i (v1 v2 : UInt8) u1 u2 (t : Shared) m₂, A'.handled = none → A'.depth ≤ A.depth + 1 → A'.units ≤ A.units + 8 → b1[i]? = some v1 → b2[i]? = some v2 →
          Fr h₀ D t.heap m₂ → News h₀ D t.heap (g (tabObj ps')) → m₂ x = some (.int (v1.toNat : Int) u1) → m₂ y = some (.int (v2.toNat : Int) u2) →
          wpAny (model prog w) A' (eval elt (genEnv scope cl' D code builtinsNs (envX cn cs L a (.ref c) cl))) (fun z s₃ => Fv i z ∧ Keeps t s₃) E' t) ∧
        (∀ b h' tk gs ps' Kb, TriplesOk ps'.toList → Fr h₀ L h' m → News h₀ L h' (g (tabObj ps')) → AllBare gs → Below0 L (g (tabObj ps')) Kb → (∃ o vs, h'.get? b = some o ∧ o.data = .fields vs) →
          Gen prog w A Kb b b1.size Fv { s₁ with gens := gs, toks := tk, heap := h' } → Q (.ref b) { s₁ with gens := gs, toks := tk, heap := h' })) E s)
    (hab : x ≠ y := by decide)
    (hco : scope.isCoroutine = false := by rfl) (hcell : ∀ z ∈ scope.names, z.2 ≠ .cell := by decide)
    (h0 : scope.names.lookup (".0" : Str) = some NameKind.local := by rfl) (hx : scope.names.lookup x = some .local := by rfl) (hy : scope.names.lookup y = some .local := by rfl) (hkind : scope.kind = .function := by rfl) :
    wpAny (model prog w) A (eval (.GeneratorExp elt [⟨.Tuple [.Name x px, .Name y py] kt pt, iter, [], 0⟩] scope pos) (envX cn cs L a (.ref c) cl)) Q E s := by
  refine wpAny_GeneratorExp_walksQTD hh hco hcl hcell h0 hx hy hab hkind hroom (wpAny_mono hit (fun xv s₁ h₁ => ?_) fun _ _ e => e) hs
  obtain ⟨n, rfl, hst, hLn, hnn, hPn, F, N, U, G, hsz, hq, hQ⟩ := h₁
  refine wpAny_pyIter_zip hst.1 ?_
  have hn0 : 0 < n := Nat.lt_of_le_of_lt (Nat.zero_le _) hLn
  have hn4 : n + 4 < s₁.heap.objs.size := Heap.lt_size hst.1
  have hmP : s₁.heap.get? P = some (tabObj ps) := by
    obtain ⟨own, rest, rfl, _, _, _⟩ := U.split
    exact (N (P, tabObj ps) (List.mem_append_right _ (.head _))).1
  have hlim : s₁.heap.NoLimit := T.nolimit.keeps F.keep
  refine ⟨hlim, codeG rfl (C.keeps F.keep) hmP ht fun code h₃ tk₃ ps' hx₃ hsz₃ hP₃ ht' => ?_⟩
  obtain ⟨F₃, N₃⟩ := tab_step F N U hx₃ hP₃
  have T₃ := T.keeps F₃.keep
  obtain ⟨bm, ob, M₃⟩ := bmod_of_top T₃
  have hl₃ : h₃.NoLimit := T.nolimit.keeps F₃.keep
  have hlt' : ∀ q ∈ g (tabObj ps'), q.1 < n := fun q hq => by obtain ⟨q', h1, h2⟩ := upd_addr U q hq; exact h2 ▸ hnn q' h1
  have hB' : Below0 L (g (tabObj ps')) (n - 1) := ⟨Nat.le_sub_one_of_lt hLn, fun q hq => Nat.le_sub_one_of_lt (hlt' q hq)⟩
  have oldn : ∀ b o, h₀.get? b = some o → b < n := fun b o e => Nat.lt_of_lt_of_le (Nat.lt_of_lt_of_le (Heap.lt_size e) F.above) (Nat.le_of_lt hLn)
  have hwr : ∀ b ∈ [n + 4, n + 3, n, n + 1], n ≤ b := fun b hb => by
    simp only [List.mem_cons, List.not_mem_nil, or_false] at hb
    rcases hb with q | q | q | q <;> rw [q] <;> first | exact Nat.le_refl n | exact Nat.le_add_right n _
  have hcw : cStatics ∉ [n + 4, n + 3, n, n + 1] := fun hm => by
    obtain ⟨_, hns, _⟩ := T.nolimit
    obtain ⟨o, es, ep, ho, _⟩ := hns
    exact absurd (hwr _ hm) (Nat.not_le.mpr (oldn _ _ ho))
  refine wpAny_builtinsFor M₃.ns M₃.name M₃.ne M₃.obj M₃.cls M₃.dict M₃.data ?_
  have W : ∀ A' : Around, A'.handled = none → WalksU prog w A' (n + 4) _ _ b1.size _ _ _ := fun A' hA => zb_walks hA (n + 4) (n + 2) (n + 3) n (n + 1) (zb_apart n) b1 b2 t1 t2 hsz
  refine ⟨n + 4, _, _, b1.size, _, _, _, fun _ => true, Fv, rfl, W, ?_, (W A hh).frame 0 _ _ hst (fun b hb o e => hx₃ b o (fun q => ?_) e), (fun b hb => ?_), hl₃, hcw,
    (fun href hhref => ?_), fun b h₅ tk gs hgb hag hsz₅ hk₅ Ws hat => ?_⟩
  · rintro i vals ⟨x, y, u, v, _, _, rfl⟩
    exact ⟨_, _, rfl⟩
  · subst q
    simp only [List.mem_cons, List.not_mem_nil, or_false] at hb
    rcases hb with q | q | q | q | q <;> rw [q] at hPn <;> first | exact Nat.lt_irrefl n hPn | exact Nat.lt_irrefl n (Nat.lt_of_le_of_lt (Nat.le_add_right n _) hPn)
  · simp only [List.mem_cons, List.not_mem_nil, or_false] at hb
    show b < h₃.objs.size
    have hb4 : b ≤ n + 4 := by rcases hb with q | q | q | q | q <;> rw [q] <;> first | exact Nat.le_refl _ | exact Nat.add_le_add_left (by decide) n | exact Nat.le_add_right n 4
    exact Nat.lt_of_le_of_lt hb4 (Nat.lt_of_lt_of_le hn4 hsz₃)
  · have inB : ∀ (t : Shared) m₂, t.heap.Ns h₃.objs.size m₂ → (∀ b ∈ List.range h₃.objs.size, b ∉ [n + 4, n + 3, n, n + 1] → ∀ o, href.get? b = some o → t.heap.get? b = some o) →
        Fr h₀ h₃.objs.size t.heap m₂ ∧ News h₀ h₃.objs.size t.heap (g (tabObj ps')) := fun t m₂ hn hkp => by
      have up : ∀ b o, b < n → h₃.get? b = some o → t.heap.get? b = some o := fun b o hbk e =>
        hkp b (List.mem_range.mpr (Heap.lt_size e)) (fun hm => Nat.not_lt.mpr (hwr b hm) hbk) o (hhref b o e)
      exact ⟨⟨hn, fun b o e => up b o (oldn b o e) (F₃.keep b o e), Nat.le_trans F₃.above (Nat.le_of_lt F₃.ns.lt)⟩,
        fun q hq => ⟨up _ _ (hlt' q hq) (N₃ q hq).1, Nat.ne_of_lt (Heap.lt_size (N₃ q hq).1), (N₃ q hq).2.2⟩⟩
    refine ⟨fun A' E' i va vb t m₂ hA hD hU hP hn hm1 hm2 hkp => wpAny_pure ⟨rfl, t.heap, t.toks, rfl, fun _ _ e => e⟩,
      fun A' E' i va vb t m₂ hA hD hU hP hp hn hm1 hm2 hkp => ?_⟩
    obtain ⟨v1, v2, u1, u2, e1, e2, e3⟩ := hP
    have e4 : va = .int (v1.toNat : Int) u1 ∧ vb = .int (v2.toNat : Int) u2 := by
      have := congrArg Array.toList e3
      simp only [List.cons.injEq, and_true] at this
      exact this
    obtain ⟨rfl, rfl⟩ := e4
    exact hq _ _ ps' A' E' i v1 v2 u1 u2 t m₂ hA hD hU e1 e2 (inB t m₂ hn hkp).1 (inB t m₂ hn hkp).2 hm1 hm2
  · refine hQ b h₅ tk _ ps' (n - 1) ht' (F₃.keeps hk₅) (fun q hq => ⟨hk₅ _ _ (N₃ q hq).1, (N₃ q hq).2⟩) (G.push hgb) hB' (by obtain ⟨_, _, _, e1, _, e3, _⟩ := hat.1; exact ⟨_, _, e1, e3⟩) ?_
    rw [passing_true_len] at Ws
    have X : Gen prog w A (n - 1) b b1.size (fun j y => ∃ i, (passing (fun _ => true) b1.size 0)[j]? = some i ∧ Fv i y) { s₁ with gens := s₁.gens.push gs, toks := tk, heap := h₅ } := by
      refine ⟨_, _, _, _, Ws, hat, (fun i s' st => st.1.typeIs), List.mem_cons_self, ?_, ?_⟩
      · intro q hq
        show q < h₅.objs.size
        rw [hsz₅]
        rcases List.mem_cons.mp hq with rfl | hq
        · exact Nat.lt_succ_self _
        · rcases List.mem_cons.mp hq with rfl | hq
          · exact Nat.lt_succ_of_lt hag
          · exact Nat.lt_succ_of_lt (Nat.lt_trans (List.mem_range.mp hq) hag)
      · intro q hq
        rcases List.mem_cons.mp hq with rfl | hq
        · show n - 1 < h₃.objs.size
          exact Nat.lt_of_le_of_lt (Nat.le_trans (Nat.sub_le n 1) (Nat.le_add_right n 4)) (Nat.lt_of_lt_of_le hn4 hsz₃)
        · exact Nat.lt_of_lt_of_le (Nat.sub_lt hn0 (by decide)) (hwr q hq)
    obtain ⟨fp', wr', gg, St', X1, X2, X3, X4, X5, X6⟩ := X
    refine ⟨fp', wr', gg, St', ?_, X2, X3, X4, X5, X6⟩
    exact ⟨X1.sub, X1.grefl, X1.gtrans, X1.frame, fun i s Q E hi st hQ => X1.item i s Q E hi st fun v s' ⟨i', h1, h2⟩ => hQ v s' (by rw [passing_true_get h1] at h2; exact h2), X1.done, X1.self⟩

theorem gen_zipK {elt iter : Expr} {x y : Str} {px py pt : Pos} {kt : Nat} {scope : Scope} {pos : Pos} {Q : Value → Shared → Prop} {Fv : Nat → Value → Prop}
    (F : Fr h₀ L s.heap m) (N : News h₀ L s.heap news) (T : Top p loose mean mg mb h₀) (C : CodeHd h₀ c P) (U : UpdF P (tabObj ps) news g) (ht : TriplesOk ps.toList) (hb : AllBare s.gens) (hroom : A.depth < recursionLimit)
    (hh : A.handled = none) (hcl : closureFor scope (envX cn cs L a (.ref c) cl) = pure cl')
    (hs : ∀ x, genFold iter (envX cn cs L a (.ref c) cl) x = pure x) (hsz : b1.size = b2.size)
    (hit : wpAny (model prog w) A (eval iter (envX cn cs L a (.ref c) cl)) (fun xv s₁ => ∃ h₁ tk n, s₁ = { s with heap := h₁, toks := tk } ∧ (∀ b o, s.heap.get? b = some o → h₁.get? b = some o) ∧ xv = .ref (n + 4) ∧ (∀ b o, s.heap.get? b = some o → b < n) ∧ ZSt b1 b2 t1 t2 n 0 h₁) E s)
    (hq : ∀ (D : Addr) (code : Value) (ps' : Array Value) (A' : Around) E' i (v1 v2 : UInt8) u1 u2 (t : Shared) m₂, A'.handled = none → A'.depth ≤ A.depth + 1 → A'.units ≤ A.units + 8 → b1[i]? = some v1 → b2[i]? = some v2 →
          Fr h₀ D t.heap m₂ → News h₀ D t.heap (g (tabObj ps')) → m₂ x = some (.int (v1.toNat : Int) u1) → m₂ y = some (.int (v2.toNat : Int) u2) →
          wpAny (model prog w) A' (eval elt (genEnv scope cl' D code builtinsNs (envX cn cs L a (.ref c) cl))) (fun z s₃ => Fv i z ∧ Keeps t s₃) E' t)
    (hQ : ∀ b h' tk gs ps' Kb, TriplesOk ps'.toList → Fr h₀ L h' m → News h₀ L h' (g (tabObj ps')) → AllBare gs → Below0 L (g (tabObj ps')) Kb → (∃ o vs, h'.get? b = some o ∧ o.data = .fields vs) →
          Gen prog w A Kb b b1.size Fv { s with gens := gs, toks := tk, heap := h' } → Q (.ref b) { s with gens := gs, toks := tk, heap := h' })
    (hab : x ≠ y := by decide)
    (hco : scope.isCoroutine = false := by rfl) (hcell : ∀ z ∈ scope.names, z.2 ≠ .cell := by decide)
    (h0 : scope.names.lookup (".0" : Str) = some NameKind.local := by rfl) (hx : scope.names.lookup x = some .local := by rfl) (hy : scope.names.lookup y = some .local := by rfl) (hkind : scope.kind = .function := by rfl) :
    wpAny (model prog w) A (eval (.GeneratorExp elt [⟨.Tuple [.Name x px, .Name y py] kt pt, iter, [], 0⟩] scope pos) (envX cn cs L a (.ref c) cl)) Q E s := by
  have hPm : (P, tabObj ps) ∈ news := by
    obtain ⟨own, rest, rfl, _, _, _⟩ := U.split
    exact List.mem_append_right _ (.head _)
  refine gen_zip (b1 := b1) (b2 := b2) (t1 := t1) (t2 := t2) (m := m) (news := news) (g := g) (Fv := Fv) T C ht hroom hh hcl hs (wpAny_mono hit (fun xv s₁ h₁ => ?_) fun _ _ e => e) hab hco hcell h0 hx hy hkind
  obtain ⟨h₁, tk, n, rfl, hk, rfl, hge, hz⟩ := h₁
  refine ⟨n, rfl, hz, (by obtain ⟨o, _, _, e, _⟩ := F.ns; exact hge L o e), fun q hq => hge _ _ (N q hq).1, hge _ _ (N _ hPm).1, F.keeps hk, fun q hq => ⟨hk _ _ (N q hq).1, (N q hq).2⟩, U, hb, hsz, hq, hQ⟩
end
end Mine
end
theorem Mine.top_off_N8 : True := by
  w_top off
  trivial
section
open PySem PySem.W PySem.Calls PyProof.Rows PySem.W.KBw
open Sem (wp)
set_option maxRecDepth 100000
set_option maxHeartbeats 8000000
namespace Mine
theorem sub_gen_set : isSubtype (.type "generator") (.type "set") = pure false := by rw [isSubtype_type]; kernel_rfl
theorem sub_gen_frozenset : isSubtype (.type "generator") (.type "frozenset") = pure false := by rw [isSubtype_type]; kernel_rfl
section
variable {prog : Program} {w : World} {A : Around} {E : Value → Shared → Prop} {s : Shared} {h₀ : Heap} {L : Addr} {m : Str → Option Value} {news : List (Addr × Obj)}

theorem call_set_gen {a : Addr} {fp wr : List Addr} {gg : Nat} {n : Nat} {Fv : Nat → Value → Prop} {St : Nat → Shared → Prop} {Q : Value → Shared → Prop} (W : WalksS prog w A.in4 a fp wr (GenOnlyQ gg) n Fv St)
    (hT : ∀ i s', St i s' → s'.TypeIs (.ref a) "generator") (hst : St 0 s) (hfp : ∀ b ∈ fp, b < s.heap.objs.size) (ha : a ∈ fp) (val : Nat → Int) (hval : ∀ i v, Fv i v → ∃ t, v = .int (val i) t) (hb : n + 1 < scanBound)
    (h : ∀ s', s'.heap.SetOf (intKind prog w) s.heap.objs.size (fun k' => (firstMet val n).any (· == k')) (firstMet val n).length →
      Moved (s.heap.objs.size :: wr) (GenOnlyQ gg) s s' → Q (.ref s.heap.objs.size) s') :
    wpAny (model prog w) A (call (.type "set") [.ref a]) Q E s := by
  obtain ⟨c, tl, hmro⟩ := F.called_set.mro
  have hmade := F.called_set.made
  have hsub := F.called_set.sub
  refine wpAny_call (codeAny_of_tree ?_)
  show wpAny _ _ (callAny (.type "set") _) _ _ _
  refine wpAny_pure ⟨Code.quiet_builtin _ (by decide +kernel), codeAny_builtin F.entry_type_call ?_⟩
  rw [Around.under_plain (weight_type_call_type "set" [.ref a] []) rfl]
  have h1 := F.called_set.notType
  have h2 := F.called_set.canCreate
  have hct := F.typeCall_set_1 (.ref a)
  repeat (any_goals (first | assumption | wp_step))
  refine codeAny_mono (code_set_new_1 (.ref a) (E := E) (Q₁ := fun obj s₁ => ∃ led : Bool, obj = .ref s.heap.objs.size ∧ s₁ = { s with heap := s.heap.push { cls := .type "set", dict := none, data := .set #[] 0 (.fresh 0 0 led) } }) fun led => ⟨led, rfl, rfl⟩) fun r s₁ hr => ?_
  cases r with
  | error e => exact hr
  | ok fl =>
    cases fl with
    | ret obj =>
      obtain ⟨led, rfl, rfl⟩ := hr
      have hS : (s.heap.push { cls := .type "set", dict := none, data := .set #[] 0 (.fresh 0 0 led) }).get? s.heap.objs.size = some { cls := .type "set", dict := none, data := .set #[] 0 (.fresh 0 0 led) } := Heap.get?_push_size _ rfl
      have hTs : Shared.TypeIs { s with heap := s.heap.push { cls := .type "set", dict := none, data := .set #[] 0 (.fresh 0 0 led) } } (.ref s.heap.objs.size) "set" := ⟨_, hS, rfl⟩
      have hli := F.called_set.init.lookup
      have hbi := F.called_set.init.bind (.ref s.heap.objs.size)
      repeat (any_goals (first | assumption | wp_step))
      refine codeAny_mono (codeAny_call_builtin (R := wants (fun r s₂ => r = .none ∧
          s₂.heap.SetOf (intKind prog w) s.heap.objs.size (fun k' => (firstMet val n).any (· == k')) (firstMet val n).length ∧
          Moved (s.heap.objs.size :: wr) (GenOnlyQ gg) s s₂) E) F.called_set.init.plain F.entry_set_init (check_set_init_1 hTs ?_)) fun r₂ s₂ hr₂ => ?_
      · have hSf : s.heap.objs.size ∉ fp := fun hm => Nat.lt_irrefl _ (hfp _ hm)
        have hst₁ : St 0 { s with heap := s.heap.push { cls := .type "set", dict := none, data := .set #[] 0 (.fresh 0 0 led) } } := W.frame 0 s _ s.toks hst (Nat.le_refl _) fun b _ o e => Heap.get?_push_of_some _ e
        have hTg := hT 0 _ hst₁
        have hsls := sub_gen_set
        have hslf := sub_gen_frozenset
        have hne : (Value.type "generator" == Value.type "dict") = false := by decide
        unfold Builtin.«set.__init__» noKeywords Builtin.Frozenset.updateFrom
        generalize hPI : pyIter = PI
        wp_walk
        subst hPI
        refine W.of_in1.of_in1.self 0 _ _ _ hst₁ ?_
        refine wpAny_bind (wpAny_runValue ?_)
        refine codeAny_set_update_loopS W.of_in1 s.heap.objs.size hSf val hval hb (n - 0) 0 _ (by omega) (Nat.zero_le _) hst₁ ?hS0 ?hR
        case hS0 => exact SetOf_congr ((setObjOf_fresh (knd := intKind prog w) led).setOf hS (by unfold scanBound; omega)) (fun _ => rfl) rfl
        case hR =>
          intro s' hm hS'
          show wpAny _ _ _ _ _ _
          refine wpAny_pure ?_
          show wpAny _ _ (ret Value.none) _ _ _
          refine wpAny_pure ⟨rfl, hS', ?_⟩
          exact ⟨fun b o hb e => hm.heap b o hb (Heap.get?_push_of_some _ e), hm.gens, hm.drawn, hm.os, hm.toks⟩
      · cases r₂ with
        | error e => exact hr₂
        | ok fl₂ =>
          cases fl₂ with
          | ret r =>
            obtain ⟨rfl, hS', hk'⟩ := hr₂
            repeat (any_goals (first | assumption | wp_step))
            exact h _ hS' hk'
          | _ => exact hr₂.elim
    | _ => exact hr.elim

theorem set_gen {a K : Addr} {n : Nat} {Fv : Nat → Value → Prop} {Q : Value → Shared → Prop} (Fh : Fr h₀ L s.heap m) (N : News h₀ L s.heap news) (G : AllBare s.gens) (B : Below0 L news K) (X : Gen prog w A K a n Fv s)
    (val : Nat → Int) (hval : ∀ i v, Fv i v → ∃ t, v = .int (val i) t) (hb : n + 1 < scanBound)
    (h : ∀ D o h' gs tk, Fr h₀ L h' m → News h₀ L h' ((D, o) :: news) → AllBare gs → (∀ q ∈ news, q.1 < D) →
      o.SetObjOf (intKind prog w) (fun k' => (firstMet val n).any (· == k')) (firstMet val n).length → Q (.ref D) { s with heap := h', gens := gs, toks := tk }) :
    wpAny (model prog w) A (call (.type "set") [.ref a]) Q E s := by
  obtain ⟨fp, wr, gg, St, W, hst, hT, ha, hfp, hwr⟩ := X
  refine call_set_gen W hT hst hfp ha val hval hb fun s' hS hm => ?_
  obtain ⟨h', g', d', tk', os'⟩ := s'
  have ed : d' = s.drawn := hm.drawn
  have eo : os' = s.os := hm.os
  subst ed; subst eo
  obtain ⟨o, ho, hso⟩ := hS.objOf
  have hLlt := Fh.ns.lt
  have off : ∀ b, b ≤ K → b < s.heap.objs.size → b ∉ s.heap.objs.size :: wr := fun b hbk hbs hmem => by
    rcases List.mem_cons.mp hmem with q | q
    · exact Nat.lt_irrefl _ (q ▸ hbs)
    · exact Nat.lt_irrefl _ (Nat.lt_of_lt_of_le (hwr b q) hbk)
  have up : ∀ b x, b ≤ K → s.heap.get? b = some x → h'.get? b = some x := fun b x hbk e => hm.heap b x (off b hbk (Heap.lt_size e)) e
  have up0 : ∀ b x, h₀.get? b = some x → h'.get? b = some x := fun b x e => up b x (Nat.le_trans (Nat.le_of_lt (Nat.lt_of_lt_of_le (Heap.lt_size e) Fh.above)) B.loc) (Fh.keep b x e)
  refine h s.heap.objs.size o h' g' tk' ⟨Fh.ns.at' fun x e => up L x B.loc e, up0, Fh.above⟩ (fun q hq => ?_) (G.moved hm.gens) (fun q hq => Heap.lt_size (N q hq).1) hso
  rcases List.mem_cons.mp hq with rfl | hq
  · refine ⟨ho, Nat.ne_of_gt hLlt, ?_⟩
    cases hq : h₀.get? s.heap.objs.size with
    | none => rfl
    | some o' => exact absurd (Heap.lt_size (Fh.keep _ _ hq)) (Nat.lt_irrefl _)
  · exact ⟨up _ _ (B.all q hq) (N q hq).1, (N q hq).2⟩

theorem sum_gen {a K : Addr} {n : Nat} {Fv : Nat → Value → Prop} {Q : Value → Shared → Prop} (Fh : Fr h₀ L s.heap m) (N : News h₀ L s.heap news) (G : AllBare s.gens) (B : Below0 L news K) (X : Gen prog w A K a n Fv s)
    (val : Nat → Int) (hval : ∀ i v, Fv i v → ∃ t, v = .int (val i) t) (hfit : ∀ j, j < n → InLong (val j) ∧ InLong (preSum val (j + 1)))
    (h : ∀ t h' gs tk, Fr h₀ L h' m → News h₀ L h' news → AllBare gs → Q (.int (preSum val n) t) { s with heap := h', gens := gs, toks := tk }) :
    wpAny (model prog w) A (call (.builtin "sum") [.ref a]) Q E s := by
  obtain ⟨fp, wr, g, St, W, hst, hT, ha, hfp, hwr⟩ := X
  have W := W.in4_1
  refine call_sum_walkS (W.self 0 _ _ _ hst ⟨a, _, _, _, _, _, _, val, rfl, W, hst, hfp, hval, hfit, fun s' t' hm => ?_⟩)
  obtain ⟨h', g', d', tk', os'⟩ := s'
  have ed : d' = s.drawn := hm.drawn
  have eo : os' = s.os := hm.os
  subst ed; subst eo
  have up : ∀ b x, b ≤ K → s.heap.get? b = some x → h'.get? b = some x := fun b x hbk e => hm.heap b x (fun hmem => Nat.lt_irrefl _ (Nat.lt_of_lt_of_le (hwr b hmem) hbk)) e
  exact h t' h' g' tk' ⟨Fh.ns.at' fun x e => up L x B.loc e, fun b x e => up b x (Nat.le_trans (Nat.le_of_lt (Nat.lt_of_lt_of_le (Heap.lt_size e) Fh.above)) B.loc) (Fh.keep b x e), Fh.above⟩
    (fun q hq => ⟨up _ _ (B.all q hq) (N q hq).1, (N q hq).2⟩) (G.moved hm.gens)
end
end Mine
end
theorem Mine.top_off_N9 : True := by
  w_top off
  trivial
section
open PySem PySem.W PySem.Calls PyProof.Rows PySem.W.KBw
open Sem (wp)
set_option maxRecDepth 100000
set_option maxHeartbeats 8000000
namespace Mine
theorem gen_no_bytes : typeLookup (.type "generator") "__bytes__" = pure none := by rw [typeLookup_type, builtinLookup_eq_fast]; kernel_rfl
theorem gen_no_index : typeLookup (.type "generator") "__index__" = pure none := by rw [typeLookup_type, builtinLookup_eq_fast]; kernel_rfl
theorem gen_no_buffer : typeLookup (.type "generator") "__buffer__" = pure none := by rw [typeLookup_type, builtinLookup_eq_fast]; kernel_rfl
theorem int_no_bytes : typeLookup (.type "int") "__bytes__" = pure none := by rw [typeLookup_type, builtinLookup_eq_fast]; kernel_rfl
noncomputable def firstN (val : Nat → Int) (n : Nat) : List Int := (List.range n).map val
theorem firstN_len (val : Nat → Int) (n : Nat) : (firstN val n).length = n := by simp [firstN]
theorem byteArr_snoc (val : Nat → Int) (i : Nat) : byteArr (firstN val (i + 1)) = (byteArr (firstN val i)).push (val i).toNat.toUInt8 := by
  unfold firstN byteArr
  rw [List.range_succ]
  simp
section
variable {prog : Program} {w : World} {A : Around} {E : Value → Shared → Prop} {s : Shared} {h₀ : Heap} {L : Addr} {m : Str → Option Value} {news : List (Addr × Obj)}

theorem bg_loop {R : Result → Shared → Prop} {I S : Addr} {fp wr : List Addr} {gg : Nat} {n : Nat} {Fv : Nat → Value → Prop} {St : Nat → Shared → Prop} (W : WalksS prog w A.in1 I fp wr (GenOnlyQ gg) n Fv St)
    (val : Nat → Int) (hval : ∀ i v, Fv i v → ∃ t, v = .int (val i) t ∧ 0 ≤ val i ∧ val i < 256) (hz : n ≤ sizeLine) (hSf : S ∉ fp) :
    ∀ (k i : Nat) (s : Shared), n - i = k → i ≤ n → St i s → s.heap.get? S = some { cls := .type "bytearray", data := .bytearray (byteArr (firstN val i)) } →
      (∀ s' t, Moved (S :: wr) (GenOnlyQ gg) s s' → R (.ok (.ret (.bytes (byteArr (firstN val n)) t))) s') →
      codeAny (model prog w) A (.builtin "bytes.__new__.loop" ⟨[.type "bytes", .ref I, .ref S], []⟩) R s := by
  have hSw : S ∉ wr := fun h => hSf (W.sub _ h)
  have hsub : ∀ b ∈ wr, b ∈ S :: wr := fun b hb => List.mem_cons_of_mem _ hb
  intro k
  induction k with
  | zero =>
    intro i s hk hle hst hS hR
    have hin : i = n := by omega
    subst hin
    refine codeAny_builtin F.bm_entry_loop ?_
    rw [Around.under_plainId F.bm_plain_loop _]
    show wpAny _ A.in1 (pyNext (.ref I) >>= _) _ _ s
    refine wpAny_bind (W.done s _ _ hst fun s' hm => ?_)
    have hS' := hm.heap S _ hSw hS
    refine wpAny_bind ?_
    unfold Builtin.Bytes.payload Builtin.Bytes.payload?
    refine wpAny_bind (wpAny_bind (wpAny_load hS' ?_))
    refine wpAny_pure (wpAny_pure ?_)
    refine wpAny_bind (wpAny_mkBytes ?_ (by rw [byteArr_size, firstN_len]; exact hz))
    show wpAny _ _ (if (Value.type "bytes" == Value.type "bytes") = true then _ else _) _ _ _
    refine bm_if_true (by decide) ?_
    have fin : Moved (S :: wr) (GenOnlyQ gg) s { s' with toks := s'.toks + 1 } := (hm.mono hsub).then_heap (Nat.le_succ _) fun _ _ _ e => e
    first
      | exact wpAny_pure (hR _ _ fin)
      | exact wpAny_bind (wpAny_pure (wpAny_pure (hR _ _ fin)))
  | succ k ih =>
    intro i s hk hle hst hS hR
    have hlt : i < n := by omega
    refine codeAny_builtin F.bm_entry_loop ?_
    rw [Around.under_plainId F.bm_plain_loop _]
    show wpAny _ A.in1 (pyNext (.ref I) >>= _) _ _ s
    refine wpAny_bind (W.item i s _ _ hlt hst fun v s' hP hst' hm => ?_)
    obtain ⟨t, rfl, h0, h1⟩ := hval i v hP
    have hS' := hm.heap S _ hSw hS
    refine wpAny_bind (wpAny_holding (wpAny_of_eq (rfl : asIndex (.int (val i) t) = pure (val i)) ?_))
    refine wpAny_bind (wpAny_letGo ?_)
    refine bm_if_false (by simp only [Bool.or_eq_false_iff, decide_eq_false_iff_not]; omega) ?_
    refine wpAny_bind ?_
    show wpAny _ _ (updateBytearray S (·.push (val i).toNat.toUInt8)) _ _ _
    unfold updateBytearray
    refine wpAny_bind (wpAny_load hS' ?_)
    show wpAny _ _ (update S (Obj.mapBytearray (·.push (val i).toNat.toUInt8)) >>= fun _ => lookBehind S) _ _ _
    refine wpAny_bind (wpAny_update hS' ?_)
    have hS₂ : (s'.heap.update S (Obj.mapBytearray (·.push (val i).toNat.toUInt8))).get? S = some { cls := .type "bytearray", data := .bytearray (byteArr (firstN val (i + 1))) } := by
      rw [byteArr_snoc]
      exact Heap.get?_update_self (Obj.mapBytearray (·.push (val i).toNat.toUInt8)) hS' rfl
    have oth : ∀ b o, b ≠ S → s'.heap.get? b = some o → (s'.heap.update S (Obj.mapBytearray (·.push (val i).toNat.toUInt8))).get? b = some o := fun b o hb e => (Heap.get?_update_other _ _ (Ne.symm hb)).trans e
    refine wpAny_lookBehind hS₂ ?_ ?_
    · show (if (byteArr (firstN val (i + 1))).size > sizeLine then some "bytearray:memory" else none) = none
      rw [if_neg]
      rw [byteArr_size, firstN_len]
      omega
    · refine wpAny_pure ⟨plainId_quiet F.bm_plain_loop _, ih (i + 1) { s' with heap := s'.heap.update S (Obj.mapBytearray (·.push (val i).toNat.toUInt8)) } (by omega) hlt ?_ hS₂ fun s'' t' hm'' => ?_⟩
      · exact W.frame _ s' _ s'.toks hst' (Nat.le_refl _) fun b hb o e => oth b o (fun h => hSf (h ▸ hb)) e
      · refine hR s'' t' (Moved.trans W.gtrans ((hm.mono hsub).then_heap (Nat.le_refl _) fun b o hb e => ?_) hm'')
        exact oth b o (fun h => hb (h ▸ List.mem_cons_self)) e

theorem bg_new {a : Addr} {fp wr : List Addr} {gg : Nat} {n : Nat} {Fv : Nat → Value → Prop} {St : Nat → Shared → Prop} {Q : Value → Shared → Prop} (W : WalksS prog w A.in1 a fp wr (GenOnlyQ gg) n Fv St)
    (hT : ∀ i s', St i s' → s'.TypeIs (.ref a) "generator") (hst : St 0 s) (hfp : ∀ b ∈ fp, b < s.heap.objs.size) (ha : a ∈ fp)
    (val : Nat → Int) (hval : ∀ i v, Fv i v → ∃ t, v = .int (val i) t ∧ 0 ≤ val i ∧ val i < 256) (hz : n ≤ sizeLine) (hdata : ∃ o vs, s.heap.get? a = some o ∧ o.data = .fields vs)
    (hQ : ∀ s' t, Moved (s.heap.objs.size :: wr) (GenOnlyQ gg) s s' → Q (.bytes (byteArr (firstN val n)) t) s') :
    codeAny (model prog w) A (.call (.builtin "bytes.__new__") ⟨[.type "bytes", .ref a], []⟩) (wants Q E) s := by
  refine codeAny_of_tree ?_
  show wpAny _ A.in1 (do checkBuiltinCall "bytes.__new__" ⟨[.type "bytes", .ref a], []⟩; again (.builtin "bytes.__new__" ⟨[.type "bytes", .ref a], []⟩)) _ _ s
  refine wpAny_bind (wpAny_of_eq (F.bm_newCall _) (wpAny_pure ⟨plainId_quiet F.bm_plain _, codeAny_builtin F.bm_entry ?_⟩))
  rw [Around.under_plainId F.bm_plain _]
  have hTg : s.TypeIs (.ref a) "generator" := hT 0 s hst
  obtain ⟨og, vs, hog, hod⟩ := hdata
  unfold Builtin.«bytes.__new__»
  refine wpAny_bind (wpAny_of_eq (a := true) rfl ?_)
  refine bm_if_false rfl ?_
  refine wpAny_bind (wpAny_of_eq F.bm_sub ?_)
  refine bm_if_false rfl ?_
  refine wpAny_bind (wpAny_of_eq (F.bm_bind _) ?_)
  refine wpAny_bind (wpAny_of_eq (a := ()) rfl ?_)
  refine wpAny_bind (wpAny_of_eq (a := ()) rfl ?_)
  refine bm_if_false rfl ?_
  refine wpAny_bind (wpAny_specialOf hTg gen_no_bytes ?_)
  refine wpAny_bind (wpAny_bind ?_)
  show wpAny _ _ (load a >>= _) _ _ _
  refine wpAny_bind (wpAny_load hog ?_)
  rw [hod]
  refine wpAny_pure (wpAny_pure ?_)
  refine bm_if_false rfl ?_
  refine wpAny_bind (wpAny_specialOf hTg gen_no_index ?_)
  refine bm_if_true rfl ?_
  first
    | show wpAny _ _ (Builtin.Bytes.buffer? "bytes.__new__" (.ref a) true >>= _) _ _ _
    | (refine wpAny_bind ?_; show wpAny _ _ (Builtin.Bytes.buffer? "bytes.__new__" (.ref a) true >>= _) _ _ _)
  refine wpAny_bind ?_
  unfold Builtin.Bytes.buffer?
  refine wpAny_bind (wpAny_specialOf hTg gen_no_buffer ?_)
  refine wpAny_bind (wpAny_specialOf hTg gen_no_buffer ?_)
  refine wpAny_pure ?_
  refine wpAny_bind (wpAny_tryCatch (W.self 0 _ _ _ hst ?_))
  refine wpAny_bind (wpAny_holding ?_)
  unfold Builtin.Bytes.lengthHint
  refine wpAny_bind (wpAny_specialOf hTg F.gen_no_len ?_)
  refine bm_if_false (by decide +kernel) ?_
  refine bm_if_false rfl ?_
  refine wpAny_bind (wpAny_specialOf hTg F.gen_no_hint ?_)
  refine wpAny_pure ?_
  refine wpAny_bind ?_
  unfold Builtin.Bytes.newBytearray
  refine wpAny_newObj_type ?_ (Nat.zero_le _)
  have hSf : s.heap.objs.size ∉ fp := fun hm => Nat.lt_irrefl _ (hfp _ hm)
  have main := bg_loop (prog := prog) (w := w) (A := A) (R := wants Q E) W val hval hz hSf n 0 { s with heap := s.heap.push { cls := .type "bytearray", data := .bytearray #[] } } rfl (Nat.zero_le _)
    (W.frame 0 s _ s.toks hst (Nat.le_refl _) fun b _ o e => Heap.get?_push_of_some _ e) (Heap.get?_push_size _ rfl)
    fun s' t hm => hQ s' t ⟨fun b o hb e => hm.heap b o hb (Heap.get?_push_of_some _ e), hm.gens, hm.drawn, hm.os, hm.toks⟩
  first
    | exact wpAny_pure ⟨plainId_quiet F.bm_plain_loop _, main⟩
    | exact wpAny_pure (wpAny_pure ⟨plainId_quiet F.bm_plain_loop _, main⟩)

theorem bytes_gen {a K : Addr} {n : Nat} {Fv : Nat → Value → Prop} {Q : Value → Shared → Prop} (Fh : Fr h₀ L s.heap m) (N : News h₀ L s.heap news) (G : AllBare s.gens) (B : Below0 L news K) (X : Gen prog w A K a n Fv s)
    (val : Nat → Int) (hval : ∀ i v, Fv i v → ∃ t, v = .int (val i) t ∧ 0 ≤ val i ∧ val i < 256) (hz : n ≤ sizeLine)
    (hdata : ∃ o vs, s.heap.get? a = some o ∧ o.data = .fields vs)
    (h : ∀ t h' gs tk, Fr h₀ L h' m → News h₀ L h' news → AllBare gs → Q (.bytes (byteArr (firstN val n)) t) { s with heap := h', gens := gs, toks := tk }) :
    wpAny (model prog w) A (call (.type "bytes") [.ref a]) Q E s := by
  obtain ⟨fp, wr, gg, St, W, hst, hT, ha, hfp, hwr⟩ := X
  refine callType_codes (Q₁ := fun obj s₁ => s₁.TypeIs obj "bytes" ∧ Q obj s₁) F.bm_called (F.bm_typeCall _) F.entry_object_init
    (bg_new W.in4_3.of_in1 hT hst hfp ha val hval hz hdata fun s' t hm => ⟨PySem.W.typeIs_bytes _ _ _, ?_⟩) fun obj s₁ h₁ => ?_
  · obtain ⟨h', g', d', tk', os'⟩ := s'
    have ed : d' = s.drawn := hm.drawn
    have eo : os' = s.os := hm.os
    subst ed; subst eo
    have off : ∀ b, b ≤ K → b < s.heap.objs.size → b ∉ s.heap.objs.size :: wr := fun b hbk hbs hmem => by
      rcases List.mem_cons.mp hmem with q | q
      · exact Nat.lt_irrefl _ (q ▸ hbs)
      · exact Nat.lt_irrefl _ (Nat.lt_of_lt_of_le (hwr b q) hbk)
    have up : ∀ b x, b ≤ K → s.heap.get? b = some x → h'.get? b = some x := fun b x hbk e => hm.heap b x (off b hbk (Heap.lt_size e)) e
    exact h t h' g' tk' ⟨Fh.ns.at' fun x e => up L x B.loc e, fun b x e => up b x (Nat.le_trans (Nat.le_of_lt (Nat.lt_of_lt_of_le (Heap.lt_size e) Fh.above)) B.loc) (Fh.keep b x e), Fh.above⟩
      (fun q hq => ⟨up _ _ (B.all q hq) (N q hq).1, (N q hq).2⟩) (G.moved hm.gens)
  · exact ⟨h₁.1, F.args_object_init_2 obj _, object_init_meets F.bm_called.init.lookup F.bm_called.made (by decide) prog w A.in1 _ s₁ ⟨h₁.1, rfl, h₁.2⟩⟩

theorem bc_new {k : Int} {t0 : Tok} {Q : Value → Shared → Prop} (h0 : 0 ≤ k) (h1 : k < 1000)
    (h : ∀ t tk, Q (.bytes (Array.replicate k.toNat 0) t) { s with toks := tk }) : codeAny (model prog w) A (.call (.builtin "bytes.__new__") ⟨[.type "bytes", .int k t0], []⟩) (wants Q E) s := by
  refine codeAny_of_tree ?_
  show wpAny _ A.in1 (do checkBuiltinCall "bytes.__new__" ⟨[.type "bytes", .int k t0], []⟩; again (.builtin "bytes.__new__" ⟨[.type "bytes", .int k t0], []⟩)) _ _ s
  refine wpAny_bind (wpAny_of_eq (F.bm_newCall _) (wpAny_pure ⟨plainId_quiet F.bm_plain _, codeAny_builtin F.bm_entry ?_⟩))
  rw [Around.under_plainId F.bm_plain _]
  unfold Builtin.«bytes.__new__»
  refine wpAny_bind (wpAny_of_eq (a := true) rfl ?_)
  refine bm_if_false rfl ?_
  refine wpAny_bind (wpAny_of_eq F.bm_sub ?_)
  refine bm_if_false rfl ?_
  refine wpAny_bind (wpAny_of_eq (F.bm_bind _) ?_)
  refine wpAny_bind (wpAny_of_eq (a := ()) rfl ?_)
  refine wpAny_bind (wpAny_of_eq (a := ()) rfl ?_)
  refine bm_if_false rfl ?_
  refine wpAny_bind (wpAny_specialOf (typeIs_int _ _ _) int_no_bytes ?_)
  refine wpAny_bind (wpAny_bind (wpAny_of_eq (a := none) rfl (wpAny_pure ?_)))
  refine bm_if_false rfl ?_
  refine wpAny_bind (wpAny_specialOf (name := Str.ofString "__index__") (typeIs_int _ _ _) F.slot_int_index.lookup ?_)
  refine bm_if_false rfl ?_
  refine wpAny_bind (wpAny_attempt (wpAny_of_eq (rfl : asIndex (.int k t0) = pure k) ?_))
  have e1 : Builtin.Bytes.fitsIndex k = true := by unfold Builtin.Bytes.fitsIndex; simp only [Bool.and_eq_true, decide_eq_true_eq]; omega
  refine bm_if_false (by rw [e1]; rfl) ?_
  rw [if_neg (show ¬ k < 0 by omega)]
  rw [if_neg (show ¬ k > 2 ^ 63 - 34 by omega)]
  have hs : (Array.replicate k.toNat (0 : UInt8)).size ≤ sizeLine := by rw [Array.size_replicate, sizeLine_eq]; omega
  refine bm_if_false (by unfold Builtin.Bytes.tooLong; simp only [decide_eq_false_iff_not]; rw [Array.size_replicate] at hs; omega) ?_
  refine wpAny_bind (wpAny_rule ?_)
  refine wpAny_bind (wpAny_mkBytes ?_ hs)
  show wpAny _ _ (if (Value.type "bytes" == Value.type "bytes") = true then _ else _) _ _ _
  refine bm_if_true (by decide) ?_
  first
    | exact wpAny_pure (h _ _)
    | exact wpAny_bind (wpAny_pure (wpAny_pure (h _ _)))

theorem bytes_count {k : Int} {t0 : Tok} {Q : Value → Shared → Prop} (h0 : 0 ≤ k) (h1 : k < 1000)
    (h : ∀ t tk, Q (.bytes (Array.replicate k.toNat 0) t) { s with toks := tk }) : wpAny (model prog w) A (call (.type "bytes") [.int k t0]) Q E s := by
  refine callType_codes (Q₁ := fun obj s₁ => s₁.TypeIs obj "bytes" ∧ Q obj s₁) F.bm_called (F.bm_typeCall _) F.entry_object_init
    (bc_new h0 h1 fun t tk => ⟨PySem.W.typeIs_bytes _ _ _, h t tk⟩) fun obj s₁ h₁ => ⟨h₁.1, F.args_object_init_2 obj _, object_init_meets F.bm_called.init.lookup F.bm_called.made (by decide) prog w A.in1 _ s₁ ⟨h₁.1, rfl, h₁.2⟩⟩
end
end Mine
end
theorem Mine.top_off_N10 : True := by
  w_top off
  trivial
section
open PySem PySem.W PySem.Calls PyProof.Rows PySem.W.KBw
open Sem (wp)
set_option maxRecDepth 100000
set_option maxHeartbeats 8000000
namespace Mine
section
variable {prog : Program} {w : World} {A : Around} {E : Value → Shared → Prop} {s : Shared} {h₀ : Heap} {L D : Addr} {m : Str → Option Value} {news : List (Addr × Obj)} {g : Obj → List (Addr × Obj)} {so : Obj}

theorem choose_one {M : Model} {src : Source} {Q : Nat → Shared → Prop} (h : ∀ d, Q 0 { s with drawn := d }) : wpAny M A (choose src 1) Q E s := fun Γ p hΓ => by
  refine ⟨by decide, ?_⟩
  show Q _ _
  rw [Nat.mod_one]
  exact h _

theorem pop_method {S : Int → Bool} {n : Nat} {pl : Sem Bool} {Q : Value × List Value → Shared → Prop} (N : News h₀ L s.heap news) (U : UpdF D so news g) (hso : so.SetObjOf (intKind prog w) S n) (hb : n < scanBound) (h : Q (.builtin "set.pop", [.ref D]) s) :
    wpAny (model prog w) A (getMethod (.ref D) "pop" pl) Q E s := by
  obtain ⟨pre, post, rfl, _, _, _⟩ := U.split
  have hS := hso.setOf (N _ (List.mem_append_right _ (.head _))).1 hb
  exact getMethod_builtin hS.typeIs F.plainAttrs_set F.slot_set_pop F.type_set_pop hS.noDict h

theorem pop_one {S : Int → Bool} {k : Int} {Q : Value → Shared → Prop} (Fh : Fr h₀ L s.heap m) (N : News h₀ L s.heap news) (U : UpdF D so news g) (hso : so.SetObjOf (intKind prog w) S 1) (hk : S k = true)
    (h : ∀ t h' d o', Fr h₀ L h' m → News h₀ L h' (g o') → Q (.int k t) { s with heap := h', drawn := d }) :
    wpAny (model prog w) A (call (.builtin "set.pop") [.ref D]) Q E s := by
  obtain ⟨pre, post, rfl, hg, h1, h2⟩ := U.split
  have hm := N (D, so) (List.mem_append_right _ (.head _))
  have hS := hso.setOf hm.1 (by unfold scanBound; omega)
  obtain ⟨hex, es, ep, t, hd, hel, hmem, hn, hf⟩ := hso
  refine wpAny_call_entry F.slot_set_pop hS.typeIs F.entry_set_pop ?_ (F.args_set_pop_1 _)
  obtain ⟨e, he, hek⟩ := (hmem k).mp hk
  have hes : es = #[e] := by
    obtain ⟨l⟩ := es
    match l, hn, he with
    | [x], _, he => rw [List.mem_singleton.mp he]
    | [], hn, _ => exact absurd hn (by simp)
    | _ :: _ :: _, hn, _ => exact absurd hn (by simp)
  obtain ⟨tk, hev⟩ := Value.isInt_shape (show Value.isInt k e.2 = true from hek)
  obtain ⟨eh, ev⟩ := e
  simp only at hev
  subst hev
  subst hes
  have hf' := hf
  simp only [SetTable.fits, Bool.and_eq_true, beq_iff_eq, decide_eq_true_eq] at hf'
  have hpl : t.place.size = 1 := hf'.1
  have hne : t.place.isEmpty = false := by rw [Array.isEmpty_eq_false_iff]; intro q; rw [q] at hpl; simp at hpl
  have hpp : t.popPlace = some 0 := by
    unfold SetTable.popPlace
    rw [hne]
    simp only [Bool.false_eq_true, if_false, hpl, Option.some.injEq]
    split
    · omega
    · rfl
  unfold Builtin.«set.pop» Builtin.Frozenset.noArgs
  simp only [List.isEmpty_nil]
  unfold Builtin.Frozenset.addrOf
  refine wpAny_bind (wpAny_pure ?_)
  try dsimp only
  refine wpAny_bind ?_
  unfold setPop
  refine wpAny_bind (wpAny_setState_of hm.1 hd hf ?_)
  dsimp only
  rw [hpp]
  dsimp only
  unfold setsByText
  refine wpAny_bind (wpAny_bind (wpAny_askSetting (wpAny_pure ?_)))
  dsimp only
  have hst : ∀ d, wpAny (model prog w) A.in1 (do
        storeSet D (SetTable.eraseAt #[(eh, Value.int k tk)] 0) (t.popped 0)
        pure (some (Value.int k tk))) (fun a s' =>
      wpAny (model prog w) A.in1
        (match a with
        | some x => ret x
        | _ => do
          rule "set.pop.empty"
          raiseErrorWords "KeyError" "pop from an empty set")
        (fun fin s' => ∃ v, fin = Fin.done (Flow.ret v) ∧ Q v s') E s') E { s with drawn := d } := fun d => by
    refine wpAny_bind (wpAny_storeSet_of (s := { s with drawn := d }) hm.1 hd ?_ (by rw [sizeLine_eq]; exact Nat.zero_le _))
    refine wpAny_pure ?_
    refine wpAny_pure ⟨_, rfl, ?_⟩
    have hsb : Heap.SameBut D s.heap (s.heap.update D (Obj.putSet (SetTable.eraseAt #[(eh, Value.int k tk)] 0) (t.popped 0))) := Heap.SameBut.update ..
    have hgo := Heap.get?_update_self (Obj.putSet (SetTable.eraseAt #[(eh, Value.int k tk)] 0) (t.popped 0)) hm.1 (by rw [putSet_of _ _ hd]; rfl)
    exact h tk _ d _ (Fh.change hsb hm.2.1 hm.2.2) (hg _ ▸ N.setIn h1 h2 hsb hgo)
  split
  · exact wpAny_bind (choose_one fun d => hst d)
  · refine wpAny_bind ?_
    show wpAny _ _ (if (!t.led && decide ((#[(eh, Value.int k tk)] : Array (Int × Value)).size > 1)) = true then unsupported _ else pure ()) _ _ _
    refine bm_if_false (by simp) ?_
    exact wpAny_pure (wpAny_bind (wpAny_pure (hst s.drawn)))
end
end Mine
end
theorem Mine.top_off_N11 : True := by
  w_top off
  trivial
section
open PySem PySem.W PySem.Calls PyProof.Rows PySem.W.KBw
open Sem (wp)
set_option maxRecDepth 100000
set_option maxHeartbeats 8000000
namespace Mine
section
variable {prog : Program} {w : World} {A : Around} {s : Shared} {h₀ : Heap} {L a l : Addr} {m : Str → Option Value} {cn : Str} {cs : Scope} {cd : Value} {cl : List (Str × Addr)} {news : List (Addr × Obj)} {items : Array Value}

/- what is asked behind a turn -/
noncomputable def PostG (h₀ : Heap) (env : Env) (J : Nat → (Str → Option Value) → List (Addr × Obj) → Array GenState → Prop) (os : OsState) (Q : Flow → Shared → Prop) (i : Nat) (I : Addr) (oI : Obj) (f : Flow) (s₃ : Shared) : Prop := match f with
  | .next | .cont => ∃ h' tk' gs' d' m' news', s₃ = ⟨h', gs', d', tk', os⟩ ∧ Fr h₀ env.locals h' m' ∧ News h₀ env.locals h' ((I, oI) :: news') ∧ (∀ q ∈ news', q.1 ≠ I) ∧ J (i + 1) m' news' gs'
  | .brk => False
  | .ret v => Q (.ret v) s₃

/- a turn of a loop over a list: v in the loop's hands, the iterator's own object is in the ledger -/
noncomputable def TurnG (prog : Program) (w : World) (A : Around) (h₀ : Heap) (env : Env) (x : Str) (px : Pos) (body : List Stmt) (J : Nat → (Str → Option Value) → List (Addr × Obj) → Array GenState → Prop) (os : OsState) (Q : Flow → Shared → Prop) (E : Value → Shared → Prop) (i : Nat) (v : Value) : Prop :=
  ∀ I oI h tk gs d m₁ news₁, J i m₁ news₁ gs → Fr h₀ env.locals h m₁ → News h₀ env.locals h ((I, oI) :: news₁) → (∀ q ∈ news₁, q.1 ≠ I) →
    wpAny (model prog w) A (assign (.Name x px) env v) (fun _ s₂ => wpAny (model prog w) A (execs body env) (PostG h₀ env J os Q i I oI) E s₂) E ⟨h, gs, d, tk, os⟩

theorem for_rule {x y : Str} {px py pos : Pos} {body : List Stmt} {Q : Flow → Shared → Prop} {E : Value → Shared → Prop} (J : Nat → (Str → Option Value) → List (Addr × Obj) → Array GenState → Prop)
    (hh : A.handled = none) (F : Fr h₀ L s.heap m) (N : News h₀ L s.heap news) (hm : m y = some (.ref l)) (hl : h₀.IsList l items) (hJ : J 0 m news s.gens)
    (step : ∀ i v, items[i]? = some v → TurnG prog w A h₀ (envX cn cs L a cd cl) x px body J s.os Q E i v)
    (done : ∀ h tk gs d m' news', J items.size m' news' gs → Fr h₀ L h m' → News h₀ L h news' → Q .next ⟨h, gs, d, tk, s.os⟩)
    (hE : PassesOwn (model prog w) A (envX cn cs L a cd cl) E := by passes_own)
    (hd : (y == ("__debug__" : Str)) = false := by decide)
    (hk : cs.kind = .function := by rfl) (hy : (envX cn cs L a cd cl).kindOf y = some .local := by rfl) :
    wpAny (model prog w) A (exec (.For (.Name x px) (.Name y py) body [] pos) (envX cn cs L a cd cl)) Q E s := by
  have hls : s.heap.IsList l items := F.lst hl
  have hlt : l < s.heap.objs.size := by obtain ⟨_, e, _⟩ := hls; exact Heap.lt_size e
  have hl0 : ∃ ol, h₀.get? l = some ol := by obtain ⟨o, e, _⟩ := hl; exact ⟨o, e⟩
  refine wpAny_For (nameX_L F hm (wpAny_pyIter_list hls ?_) hk hy hd) (by intro _; rfl)
  have W : ∀ A' : Around, A'.handled = none → _ := fun A' hA => Walks.list (prog := prog) (w := w) (A := A') hA s.heap.objs.size l (Nat.ne_of_lt hlt) items
  have hIn : h₀.get? s.heap.objs.size = none := by
    cases q : h₀.get? s.heap.objs.size with
    | none => rfl
    | some o => exact absurd (Heap.lt_size (F.keep _ _ q)) (Nat.lt_irrefl _)
  have hLI : s.heap.objs.size ≠ L := Nat.ne_of_gt F.ns.lt
  have hlI : l ≠ s.heap.objs.size := Nat.ne_of_lt hlt
  refine codeAny_forLoop (fun k s' => ∃ h' tk gs d m' news' i oI, s' = ⟨h', gs, d, tk, s.os⟩ ∧ h'.IsListIter s.heap.objs.size l i ∧ Fr h₀ L h' m' ∧ News h₀ L h' ((s.heap.objs.size, oI) :: news') ∧ (∀ q ∈ news', q.1 ≠ s.heap.objs.size) ∧ J i m' news' gs ∧ i ≤ items.size ∧ k = items.size + 1 - i) ?_ (items.size + 1)
    ⟨_, _, _, _, m, news, 0, { cls := .type "list_iterator", data := .fields #[.ref l, .int 0 0] }, rfl, ⟨_, Heap.get?_push_size _ rfl, rfl, rfl⟩, F.push _, (fun q hq => ?_), (fun q hq => Nat.ne_of_lt (Heap.lt_size (N q hq).1)), hJ, Nat.zero_le _, rfl⟩
  · rintro k s' ⟨h', tk, gs, d, m', news', i, oI, rfl, hit, F', N', hap, hJ', hi, rfl⟩
    have hl' : h'.IsList l items := F'.lst hl
    by_cases hlt : i < items.size
    · refine wpAny_pyNext_list_item hit hl' (Array.getElem?_eq_getElem hlt) fun h₁ hit₁ hs₁ => ?_
      obtain ⟨oI₁, hoI₁, _⟩ := id hit₁
      have F₁ : Fr h₀ L h₁ m' := F'.change hs₁ hLI hIn
      have N₁ : News h₀ L h₁ ((s.heap.objs.size, oI₁) :: news') := fun q hq => by
        rcases List.mem_cons.mp hq with rfl | hq
        · exact ⟨hoI₁, hLI, hIn⟩
        · have n := N' q (.tail _ hq)
          exact ⟨hs₁.extBut _ _ (hap q hq) n.1, n.2⟩
      have t := step i items[i] (Array.getElem?_eq_getElem hlt) s.heap.objs.size oI₁ h₁ tk gs d m' news' hJ' F₁ N₁ hap
      refine wpAny_passesOwn hE (wpAny_mono t (fun _ s₂ h₂ => ?_) fun _ _ e => e)
      refine wpAny_passesOwn hE (wpAny_mono h₂ (fun f s₃ h₃ => ?_) fun _ _ e => e)
      have fin : (∃ h' tk' gs' d' m' news', s₃ = ⟨h', gs', d', tk', s.os⟩ ∧ Fr h₀ L h' m' ∧ News h₀ L h' ((s.heap.objs.size, oI₁) :: news') ∧ (∀ q ∈ news', q.1 ≠ s.heap.objs.size) ∧ J (i + 1) m' news' gs') →
          ∃ m, m < items.size + 1 - i ∧ ∃ h' tk gs d m' news' j oI, s₃ = ⟨h', gs, d, tk, s.os⟩ ∧ h'.IsListIter s.heap.objs.size l j ∧ Fr h₀ L h' m' ∧ News h₀ L h' ((s.heap.objs.size, oI) :: news') ∧ (∀ q ∈ news', q.1 ≠ s.heap.objs.size) ∧ J j m' news' gs ∧ j ≤ items.size ∧ m = items.size + 1 - j := by
        rintro ⟨h₃', tk₃, gs₃, d₃, m₃, news₃, rfl, F₃, N₃, hap₃, hJ₃⟩
        refine ⟨items.size + 1 - (i + 1), by omega, h₃', tk₃, gs₃, d₃, m₃, news₃, i + 1, oI₁, rfl, ?_, F₃, N₃, hap₃, hJ₃, hlt, rfl⟩
        obtain ⟨o, ho, r⟩ := hit₁
        rw [hoI₁] at ho
        cases ho
        exact ⟨oI₁, (N₃ _ (.head _)).1, r⟩
      cases f with
      | next => exact fin h₃
      | cont => exact fin h₃
      | brk => exact h₃.elim
      | ret v => exact h₃
    · have hin : i = items.size := by omega
      subst hin
      refine wpAny_pyNext_list_end hh hit hl' (Array.getElem?_eq_none (Nat.le_refl _)) fun h₁ hs₁ => wpAny_execs_nil ?_
      refine done h₁ tk gs d m' news' hJ' ⟨F'.ns.extBut hs₁ hLI.symm, fun b o e => hs₁ b o (fun q => by rw [q, hIn] at e; cases e) (F'.keep b o e), F'.above⟩ fun q hq => ?_
      have n := N' q (.tail _ hq)
      exact ⟨hs₁ _ _ (hap q hq) n.1, n.2⟩
  · rcases List.mem_cons.mp hq with rfl | hq
    · exact ⟨Heap.get?_push_size _ rfl, hLI, hIn⟩
    · exact ⟨Heap.get?_push_of_some _ (N q hq).1, (N q hq).2⟩
end
end Mine
end
theorem Mine.top_off_N12 : True := by
  w_top off
  trivial
section
open PySem PySem.W PySem.Calls PyProof.Rows PySem.W.KBw
open Sem (wp)
set_option maxRecDepth 100000
set_option maxHeartbeats 8000000
namespace Mine
theorem hide_in {K : Frag} {h : Heap} {P : Addr} (X : K.In h) (hK : K.lookup P = none) : K.In (hideAll h [P]) := fun a o e => hideAll_get _ (X a o e) fun q => by
  rw [List.mem_singleton.mp q, hK] at e; cases e

theorem callPC {prog : Program} {w : World} {A : Around} {s : Shared} {K : Frag} {g : Heap} {P : Addr} {ps : Array Value} {mg mb : Str → Option Value} {p : Program} {loose : List Str} {mean : ExcName → Option Value}
    {R : Result → Shared → Prop} {name qual : Str} {params : Arguments} {body : List Stmt} {scope : Scope} {dV kV doc pm cdv ct oc : Value} {an od : Option Addr} {osl : Array (Option Value)} {f : Addr} {args : Args} {binds : List (Str × Value)}
    (X : K.In s.heap) (T : Top p loose mean mg mb g) (hgs : ∀ b o, g.get? b = some o → s.heap.get? b = some o) (hgP : g.get? P = none) (hP : s.heap.get? P = some (tabObj ps))
    (hKP : K.lookup P = none)
    (ho : K.lookup f = some ⟨oc, od, .func (fnOf name qual params body scope dV kV doc pm an cdv ct), osl⟩) (hcd : codeIn K cdv qual = true) (hroom : A.depth < recursionLimit)
    (hbind : BindsTo s (fnOf name qual params body scope dV kV doc pm an cdv ct) args binds)
    (hkind : ∀ n, ∀ x ∈ binds, scope.names.lookup x.1 = some .local ∨ (scope.names.lookup x.1 = some .cell ∧ ((cellsFrom n scope.names []).lookup x.1).isSome = true))
    (hnd : ((cellsFrom 0 scope.names []).map (·.1)).Nodup)
    (h : ∀ h₀ L' h₁ tk cells, (∀ b o, b ≠ P → s.heap.get? b = some o → h₀.get? b = some o) → h₀.get? P = none → Fr h₀ L' h₁ (bindL (envOfC qual scope L' f cdv).kindOf binds fun _ => none) → News h₀ L' h₁ (cells ++ [(P, tabObj ps)]) →
      CellsAre (bindC (envOfC qual scope L' f cdv).kindOf binds fun _ => none) (cellsFrom (L' + 1) scope.names []) cells → @LT.lt Nat _ P L' → K.In h₀ → Top p loose mean mg mb h₀ →
      wpAny (model prog w) (A.deeper (envOfC qual scope L' f cdv)) (execs body (envOfC qual scope L' f cdv))
        (fun fl s' => R (.ok (.ret (match fl with | .ret v => v | _ => .none))) s')
        (fun e s' => wpAny (model prog w) (A.deeper (envOfC qual scope L' f cdv)) (leaving (envOfC qual scope L' f cdv) e) (fun _ s'' => R (.error e) s'') (fun e' s'' => R (.error e') s'') s')
        { s with heap := h₁, toks := tk })
    (hco : scope.isCoroutine = false) (hgen : scope.isGenerator = false) (hk : scope.kind = .function) : codeAny (model prog w) A (.call (.ref f) args) R s := by
  have T' : Top p loose mean mg mb (hideAll s.heap [P]) := T.keeps fun b o e => hideAll_get _ (hgs b o e) fun q => by rw [List.mem_singleton.mp q, hgP] at e; cases e
  refine codeAny_call_function hroom (X _ _ ho) rfl hco hgen rfl (codeRec_of X hcd) (hbind _ _ _ _ ?_)
  refine wpAny_newFunctionEnv_cells hk (hkind _) fun env' he s' x => ?_
  subst he
  refine ⟨(T.nolimit.keeps hgs).keeps x.toInCall.keep, codeAny_func ?_⟩
  obtain ⟨h₁, tk, rfl, _⟩ := x.done
  have hk₁ := x.toInCall.keep
  obtain ⟨cells, NC, Y⟩ := Cl.news (h₀ := s.heap) (Nat.le_refl _) fun n c hm => ⟨x.cell n c (lookup_of_mem_nodup (cellsFrom_names scope.names 0 (s.heap.objs.size + 1) [] [] rfl ▸ hnd) hm), x.above n c hm⟩
  have hlP : P < s.heap.objs.size := Heap.lt_size hP
  refine h (hideAll s.heap [P]) s.heap.objs.size h₁ tk cells (fun b o hb e => hideAll_get _ e fun q => hb (List.mem_singleton.mp q)) (hideAll_none _ (List.mem_singleton.mpr rfl))
    ⟨x.toInCall.ns, fun b o e => hk₁ b o (of_hideAll _ e), Nat.le_of_eq (hideAll_size _ _)⟩ (fun p hp => ?_) Y hlP (hide_in X hKP) T'
  · rcases List.mem_append.mp hp with hp | hp
    · refine ⟨(NC p hp).1, (NC p hp).2.1, ?_⟩
      cases q : (hideAll s.heap [P]).get? p.1 with
      | none => rfl
      | some o => have := of_hideAll _ q; rw [(NC p hp).2.2] at this; cases this
    · rw [List.mem_singleton.mp hp]
      exact ⟨hk₁ _ _ hP, Nat.ne_of_lt hlP, hideAll_none _ (List.mem_singleton.mpr rfl)⟩
end Mine
end
theorem Mine.top_off_M2 : True := by
  w_top off
  trivial
section
set_option maxRecDepth 100000
namespace Mine
/- times 3 in the field of 256 -/
noncomputable def mul3 (a : Nat) : Nat := a ^^^ (if a < 128 then 2 * a else (2 * a) ^^^ 283)
noncomputable def pows : Nat → Nat → List Nat
  | 0, _ => []
  | n + 1, a => a :: pows n (mul3 a)
noncomputable def exL : List Nat := pows 255 1
noncomputable def placeOf (a : Nat) : List Nat → Nat
  | [] => 0
  | b :: r => if b == a then 0 else placeOf a r + 1
noncomputable def lgL : List Nat := (List.range 256).map fun a => if a == 0 then 0 else placeOf a exL
end Mine
end
theorem Mine.top_off_N13 : True := by
  w_top off
  trivial
section
open PySem PySem.W PySem.Calls PyProof.Rows PySem.W.KBw
open Sem (wp)
set_option maxRecDepth 100000
set_option maxHeartbeats 8000000
namespace Mine
noncomputable def tabOk (o : Option Obj) (l : List Nat) : Bool := match o with
  | some ⟨.type c, _, .seq items _, _⟩ => c == "list" && items.size == l.length && (items.toList.zip l).all fun q => match q.1 with | .int n _ => n == (q.2 : Int) | _ => false
  | _ => false
theorem exp_ok (P : Params) : tabOk ((hd.heap_39 P).lookup 151) exL = true := by kernel_rfl
theorem log_ok (P : Params) : tabOk ((hd.heap_39 P).lookup 154) lgL = true := by kernel_rfl

theorem tab_in {K : Frag} {a : Addr} {l : List Nat} {h : Heap} (X : K.In h) (ok : tabOk (K.lookup a) l = true) :
    ∃ items, h.IsList a items ∧ ∀ i, i < l.length → ∃ t, items[i]? = some (.int (l.getD i 0 : Nat) t) := by
  unfold tabOk at ok
  split at ok
  · rename_i c d items n sl hk
    simp only [Bool.and_eq_true, beq_iff_eq] at ok
    obtain ⟨⟨rfl, hs⟩, ha⟩ := ok
    refine ⟨items, ⟨_, X _ _ hk, rfl, n, rfl⟩, fun i hi => ?_⟩
    have hi' : i < items.toList.length := by simpa [hs] using hi
    have hm : (items.toList[i], l[i]) ∈ items.toList.zip l := by
      rw [List.mem_iff_getElem]
      exact ⟨i, by simp [hs]; exact hi, by simp⟩
    have := List.all_eq_true.mp ha _ hm
    dsimp only at this
    split at this
    · rename_i n t e
      refine ⟨t, ?_⟩
      rw [← Array.getElem?_toList, List.getElem?_eq_getElem hi', e, List.getD_eq_getElem?_getD, List.getElem?_eq_getElem hi]
      simp only [Option.getD_some]
      rw [eq_of_beq this]
    · cases this
  · cases ok

theorem tab_item {prog : Program} {w : World} {A : Around} {E : Value → Shared → Prop} {s : Shared} {K : Frag} {a : Addr} {l : List Nat} {value slice : PySem.Expr} {k : Int} {u : Tok} {Q : Value → Shared → Prop} (X : K.In s.heap) (ok : tabOk (K.lookup a) l = true)
    (h0 : 0 ≤ k) (h1 : k < (l.length : Nat)) (hfit : k < 2 ^ 63) (h : ∀ t, Q (.int (l.getD k.toNat 0 : Nat) t) s)
    (hs : subscripted slice false (.ref a) (.int k u) = operate [.ref a, .int k u] (getItem (.ref a) (.int k u)) := by with_unfolding_all rfl) :
    wpAny (model prog w) A (subscriptTail value slice (.ref a) (.int k u)) Q E s := by
  obtain ⟨items, hl, hi⟩ := tab_in X ok
  obtain ⟨t, ht⟩ := hi k.toNat (by omega)
  exact tail_any hl.typeIs slot_list_getitem.lookup (wpAny_getItem_list hl h0 hfit ht (h t)) hs

section
variable {M : Model} {A : Around} {E : Value → Shared → Prop} {s : Shared} {K : Frag} {h₀ : Heap} {D bi : Addr} {m mg mb : Str → Option Value} {cs : Scope} {code : Value} {env : Env} {cl : List (Str × Addr)} {p : Program} {loose : List Str}
  {x : Str} {pos : Pos} {v : Value} {Q : Value → Shared → Prop} {news : List (Addr × Obj)} {c : Addr} {o : Obj}
theorem ng_L (F : Fr h₀ D s.heap m) (hv : m x = some v) (h : Q v s)
    (hk : cs.kind = .function := by rfl) (hx : (genEnv cs cl D code bi env).kindOf x = some .local := by rfl) (hd : (x == ("__debug__" : Str)) = false := by decide) :
    wpAny M A (eval (.Name x pos) (genEnv cs cl D code bi env)) Q E s := wpAny_Name (wpAny_loadName_local hk hx F.ns hv h) hd
theorem ng_F (N : News h₀ D s.heap news) (hc : cl.lookup x = some c) (hm : (c, o) ∈ news) (hd : o.data = .cell (some v)) (h : Q v s)
    (hk : cs.kind = .function := by rfl) (hx : (genEnv cs cl D code bi env).kindOf x = some .free := by rfl) (hb : (x == ("__debug__" : Str)) = false := by decide) (hn : (x == ("__classdict__" : Str)) = false := by decide) :
    wpAny M A (eval (.Name x pos) (genEnv cs cl D code bi env)) Q E s := wpAny_Name (wpAny_loadName_free hk hx hc ⟨o, N.get hm, hd⟩ h hn) hb
theorem ng_K (F : Fr h₀ D s.heap m) (X : K.In h₀) (T : TopRead p loose mg mb h₀) (hg : env.globals = mainGlobals) (e : nsIn K mainGlobals x = some (some v)) (h : Q v s)
    (hk : cs.kind = .function := by rfl) (hx : (genEnv cs cl D code bi env).kindOf x = some .globalImplicit := by rfl) (hd : (x == ("__debug__" : Str)) = false := by decide) :
    wpAny M A (eval (.Name x pos) (genEnv cs cl D code bi env)) Q E s := Name_function_global hk hx (loadGlobal_global (env := genEnv cs cl D code bi env) (by show s.heap.Ns env.globals mg; rw [hg]; exact T.g.keeps F.keep) (mg_of X T.g e) h) hd
theorem ng_B (F : Fr h₀ D s.heap m) (X : K.In h₀) (T : TopRead p loose mg mb h₀) (hg : env.globals = mainGlobals) (e : nsIn K mainGlobals x = some none) (hv : bootBuiltins x = some v) (hn : x ≠ "__name__") (h : Q v s) (hbi : bi = builtinsNs)
    (hk : cs.kind = .function := by rfl) (hx : (genEnv cs cl D code bi env).kindOf x = some .globalImplicit := by rfl) (hd : (x == ("__debug__" : Str)) = false := by decide) :
    wpAny M A (eval (.Name x pos) (genEnv cs cl D code bi env)) Q E s := by
  subst hbi
  exact Name_function_global hk hx (loadGlobal_builtin (env := genEnv cs cl D code builtinsNs env) (by show s.heap.Ns env.globals mg; rw [hg]; exact T.g.keeps F.keep) (mg_none_of X T.g e) (T.b.keeps F.keep) ((T.builtins x hn).trans hv) h) hd
end

/- the i-th of a list of shares holds the i-th of a list of pairs -/
noncomputable def SharesAre (h : Heap) (vs : List Value) (ds : List (Int × Array UInt8)) : Prop :=
  vs.length = ds.length ∧ ∀ i v, vs[i]? = some v → ∃ a t u, v = .ref a ∧ ShareAt h a (.int (ds.getD i (0, #[])).1 t) (.bytes (ds.getD i (0, #[])).2 u)
theorem SharesAre.keeps {h h' : Heap} {vs : List Value} {ds : List (Int × Array UInt8)} (x : SharesAre h vs ds) (k : ∀ b o, h.get? b = some o → h'.get? b = some o) : SharesAre h' vs ds :=
  ⟨x.1, fun i v e => by
    obtain ⟨a, t, u, rfl, dx, h1, h2⟩ := x.2 i v e
    exact ⟨a, t, u, rfl, dx, k _ _ h1, k _ _ h2⟩⟩
theorem share_keeps {h h' : Heap} {a : Addr} {v0 v1 : Value} (x : ShareAt h a v0 v1) (k : ∀ b o, h.get? b = some o → h'.get? b = some o) : ShareAt h' a v0 v1 := let ⟨dx, h1, h2⟩ := x; ⟨dx, k _ _ h1, k _ _ h2⟩
end Mine
end
theorem Mine.top_off_N14 : True := by
  w_top off
  trivial
section
open PySem PySem.W PySem.Calls PyProof.Rows PySem.W.KBw
open Sem (wp)
set_option maxRecDepth 100000
set_option maxHeartbeats 8000000
namespace Mine
section
variable {prog : Program} {w : World} {A : Around} {E : Value → Shared → Prop} {s : Shared} {cn : Str} {cs : Scope} {L a C : Addr} {ccd : Value} {cl : List (Str × Addr)} {h₀ : Heap} {m mg : Str → Option Value}
  {x msg : Str} {B newId initId : String} {bm : List Value} {np cpos pos sp : Pos} {Q : Flow → Shared → Prop} {kk : Nat}
theorem raise_x (F : Fr h₀ L s.heap m) (hg : h₀.Ns mainGlobals mg) (O : OwnCls x C bm newId mg h₀) (FB : ExcBaseFacts B newId initId bm) (hh : A.handled = none)
    (h : ∀ h' e vs tk, Heap.MadeExcOf s.heap h' e (.ref C) vs → E (.ref e) { s with heap := h', toks := tk })
    (hk : cs.kind = .function := by rfl) (hx : (envX cn cs L a ccd cl).kindOf x = some .globalImplicit := by rfl) (hd : (x == ("__debug__" : Str)) = false := by decide) :
    wpAny (model prog w) A (exec (.Raise (some (.Call (.Name x np) [.Constant (.str msg) kk sp] [] cpos)) none pos) (envX cn cs L a ccd cl)) Q E s := by
  obtain ⟨tl, N, nm, q, bs, hdct, sn, sub, ab, col, dd, k0, k1, k2, k3, k5, mN, hC, hN, hni, T⟩ := O.obj
  refine wpAny_Raise_call_subU (C := C) (nm := nm) (q := q) (N := N) (bs := bs) (bm := tl) (hdct := hdct) (sn := sn) (sub := sub) (ab := ab) (col := col) (dd := dd) (k0 := k0) (k1 := k1) (k2 := k2) (k3 := k3) (k5 := k5)
    FB FB.hasB FB (mN := mN) (T.hasType FB.hasBase) hh rfl hni (Calls.Name_function_global hk hx (Calls.loadGlobal_global (env := envX cn cs L a ccd cl) (hg.keeps F.keep) O.bound ⟨rfl, ?_⟩) hd)
  refine Calls.evalArgs_plain (Calls.spliced_cons (Calls.Constant_str (k := kk) (pos := sp) ?_))
  refine Calls.spliced_nil ⟨rfl, ?_, F.keep _ _ hC, hN.keeps F.keep, T.keeps F.keep, fun h' e hx' => h h' e _ _ hx'⟩
  show 1 ≤ sizeLine
  rw [sizeLine_eq]; decide
end

/- an exception of the class 31 in flight, seen from the caller whose heap at the call was H: nothing old is lost but the table 156, and its slots -/
noncomputable def RaisedX (base H : Heap) (outer : List Env) (e t : Addr) (vs : List Value) (ps : Array Value) (h : Heap) : Prop :=
  ∃ B, base.StaysIn B ∧ (∀ b o, b ≠ 156 → H.get? b = some o → b ∉ outer.filterMap (·.frame) → B.get? b = some o) ∧ B.get? 156 = some (tabObj ps) ∧ Heap.FlyingW B outer e (.ref 31) (.ref t) h ∧ B.get? t = none ∧ h.TupAt t vs ∧ H.UpToSlots h

section
variable {M : Model} {A : Around} {E : Value → Shared → Prop} {s' : Shared} {base g h₀ h H H₁ : Heap} {outer : List Env} {L e t : Addr} {m : Str → Option Value} {env : Env} {Q : Unit → Shared → Prop} {news : List (Addr × Obj)} {vs : List Value} {ps ps0 : Array Value}

theorem mem_frames {b : Addr} (hf : env.frame = some L) (hm : b ∈ (env :: outer).filterMap (·.frame)) : b = L ∨ b ∈ outer.filterMap (·.frame) := by
  obtain ⟨env', he, hf'⟩ := List.mem_filterMap.mp hm
  rcases List.mem_cons.mp he with rfl | he
  · exact .inl (Option.some.inj (hf'.symm.trans hf))
  · exact .inr (List.mem_filterMap.mpr ⟨env', he, hf'⟩)

theorem leave_x (K : Below A base outer h₀) (hf : env.frame = some L) (hk : env.scope.kind = .function) (F : Fr h₀ L h m) (N : News h₀ L h news) (hm : (156, tabObj ps) ∈ news) (hx : Heap.MadeExcOf h s'.heap e (.ref 31) vs)
    (hk0 : ∀ b o, b ≠ 156 → H.get? b = some o → h₀.get? b = some o) (hP : H.get? 156 = some (tabObj ps0))
    (hQ : ∀ h' t, RaisedX base H outer e t vs ps h' → Q () { s' with heap := h' }) :
    wpAny M (A.deeper env) (leaving env (.ref e)) Q E s' := by
  have K' := pushX K F hf hk
  have hin : ∀ env' ∈ (env :: outer), ∀ b, env'.frame = some b → b ∈ (env :: outer).filterMap (·.frame) := fun env he b hb => List.mem_filterMap.mpr ⟨env, he, hb⟩
  have st : base.StaysIn (hideAll h ((env :: outer).filterMap (·.frame))) := fun b o q => hideAll_get _ (K'.stays b o q) fun hm => by
    rw [(K'.frames.mem hm).1] at q; cases q
  have h156 := N _ hm
  refine wpAny_leaves_madeW K'.stack hf (fun b o q => of_hideAll _ q) (funFrames_hide K'.frames hin) hx fun h' t x1 x2 x3 x4 => hQ h' t ⟨_, st, fun b o hb e hn => ?_, ?_, x1, x3, x2, fun b o e hd => ?_⟩
  · have e1 := hk0 b o hb e
    refine hideAll_get _ (F.keep b o e1) fun hm => ?_
    rcases mem_frames hf hm with z | z
    · rw [z, kts_self F] at e1; cases e1
    · exact hn z
  · refine hideAll_get _ h156.1 fun hm => ?_
    rcases mem_frames hf hm with z | z
    · exact h156.2.1 z
    · obtain ⟨o, ho, _⟩ := (K.frames.mem z).2
      rw [h156.2.2] at ho; cases ho
  · by_cases hb : b = 156
    · rw [hb, hP] at e
      cases e
      exact absurd rfl (hd ps0)
    · exact x4 b o (hx.keeps b o (F.keep b o (hk0 b o hb e))) hd

end
end Mine
end
theorem Mine.top_off_I0 : True := by
  w_top off
  trivial
section
open PySem PySem.W PySem.Calls PyProof.Rows PySem.W.KBw
set_option maxRecDepth 100000
set_option maxHeartbeats 8000000
namespace Mine
noncomputable abbrev Dat := List (Int × Array UInt8)
noncomputable abbrev xAt (ds : Dat) (i : Nat) : Int := (ds.getD i (0, #[])).1
noncomputable abbrev dAt (ds : Dat) (i : Nat) : Array UInt8 := (ds.getD i (0, #[])).2
noncomputable abbrev szAt (ds : Dat) (i : Nat) : Int := ((dAt ds i).size : Int)
noncomputable def lgI (a : Int) : Int := ((lgL.getD a.toNat 0 : Nat) : Int)
noncomputable def exI (a : Int) : Int := ((exL.getD a.toNat 0 : Nat) : Int)
noncomputable def logX (a b : Int) : Int := lgI (Builtin.bitXor a b)
noncomputable def sumX (ds : Dat) (x : Int) : Int := preSum (fun j => logX (xAt ds j) x) ds.length
noncomputable def sumO (ds : Dat) (i : Nat) : Int := preSum (fun j => logX (xAt ds i) (xAt ds j)) ds.length
noncomputable def lbe (ds : Dat) (x : Int) (i : Nat) : Int := (sumX ds x - logX (xAt ds i) x - sumO ds i).fmod 255
noncomputable def stepByte (v r : UInt8) (b : Int) : Int := Builtin.bitXor (r.toNat : Int) (if (v.toNat : Int) ≠ 0 then exI ((lgI (v.toNat : Int) + b).fmod 255) else 0)
noncomputable def stepRes (d r : Array UInt8) (b : Int) : Array UInt8 := byteArr (firstN (fun k => stepByte (d.getD k 0) (r.getD k 0) b) d.size)
noncomputable def resAt (ds : Dat) (x : Int) : Nat → Array UInt8
  | 0 => Array.replicate (szAt ds 0).toNat 0
  | i + 1 => stepRes (dAt ds i) (resAt ds x i) (lbe ds x i)
noncomputable def dupX (ds : Dat) : Bool := (firstMet (xAt ds) ds.length).length != ds.length
noncomputable def oddS (ds : Dat) : Bool := (firstMet (szAt ds) ds.length).length != 1
noncomputable def hasX (ds : Dat) (x : Int) : Bool := (firstMet (xAt ds) ds.length).any (· == x)
/- what _interpolate answers: the octets, or none where it raises -/
noncomputable def interpP (ds : Dat) (x : Int) : Option (Array UInt8) :=
  if dupX ds then none else if oddS ds then none else if hasX ds x then (ds.find? fun d => d.1 == x).map (·.2) else some (resAt ds x ds.length)

theorem byteArr_sz (val : Nat → Int) (n : Nat) : (byteArr (firstN val n)).size = n := by rw [byteArr_size, firstN_len]
theorem stepRes_size (d r : Array UInt8) (b : Int) : (stepRes d r b).size = d.size := byteArr_sz _ _
theorem lg_bound {i : Nat} (h : i < 256) : lgL.getD i 0 < 255 := by
  have hall : ((List.range 256).all fun i => decide (lgL.getD i 0 < 255)) = true := by decide +kernel
  exact of_decide_eq_true (List.all_eq_true.mp hall i (List.mem_range.mpr h))
theorem ex_bound {i : Nat} (h : i < 255) : exL.getD i 0 < 256 := by
  have hall : ((List.range 255).all fun i => decide (exL.getD i 0 < 256)) = true := by decide +kernel
  exact of_decide_eq_true (List.all_eq_true.mp hall i (List.mem_range.mpr h))
theorem lgI_bound {a : Int} (h0 : 0 ≤ a) (h1 : a < 256) : 0 ≤ lgI a ∧ lgI a < 255 := by
  have := lg_bound (i := a.toNat) (by omega)
  unfold lgI; omega
theorem exI_bound {a : Int} (h0 : 0 ≤ a) (h1 : a < 255) : 0 ≤ exI a ∧ exI a < 256 := by
  have := ex_bound (i := a.toNat) (by omega)
  unfold exI; omega
theorem logX_bound {a b : Int} (h : 0 ≤ a ∧ a < 256) (g : 0 ≤ b ∧ b < 256) : 0 ≤ logX a b ∧ logX a b < 255 := by
  have := xor256 h g
  exact lgI_bound this.1 this.2
theorem preSum_bound (f : Nat → Int) (n : Nat) (h : ∀ j, j < n → 0 ≤ f j ∧ f j < 255) : ∀ k, k ≤ n → 0 ≤ preSum f k ∧ preSum f k ≤ 255 * k
  | 0, _ => by simp [preSum]
  | k + 1, hk => by
    have a := preSum_bound f n h k (by omega)
    have b := h k (by omega)
    simp only [preSum]
    omega
theorem hasX_iff (ds : Dat) (x : Int) : hasX ds x = true ↔ ∃ j, j < ds.length ∧ xAt ds j = x := by
  unfold hasX
  rw [firstMet_any, List.any_map, List.any_eq_true]
  constructor
  · rintro ⟨j, hj, e⟩
    exact ⟨j, List.mem_range.mp hj, by simpa using e⟩
  · rintro ⟨j, hj, e⟩
    exact ⟨j, List.mem_range.mpr hj, by simpa using e⟩
theorem xAt_get {ds : Dat} {i : Nat} (h : i < ds.length) : ds.getD i (0, #[]) = ds[i] := by
  rw [List.getD_eq_getElem?_getD, List.getElem?_eq_getElem h]; rfl
theorem find_first : ∀ (ds : Dat) (x : Int) (i : Nat), i < ds.length → xAt ds i = x → (∀ j, j < i → xAt ds j ≠ x) → (ds.find? fun d => d.1 == x).map (·.2) = some (dAt ds i)
  | d :: r, x, 0, _, h, _ => by
    have : d.1 = x := h
    simp [List.find?, this, dAt]
  | d :: r, x, i + 1, hi, h, hp => by
    have h0 : d.1 ≠ x := hp 0 (Nat.succ_pos _)
    have hb : (d.1 == x) = false := by simpa using h0
    rw [List.find?_cons, hb]
    exact find_first r x i (by simpa using hi) h fun j hj => hp (j + 1) (by omega)
theorem interp_found {ds : Dat} {x : Int} {i : Nat} (h1 : dupX ds = false) (h2 : oddS ds = false) (h3 : hasX ds x = true) (hi : i < ds.length) (h : xAt ds i = x) (hp : ∀ j, j < i → xAt ds j ≠ x) : interpP ds x = some (dAt ds i) := by
  unfold interpP
  rw [h1, h2, h3]
  exact find_first ds x i hi h hp
theorem interp_sum {ds : Dat} {x : Int} (h1 : dupX ds = false) (h2 : oddS ds = false) (h3 : hasX ds x = false) : interpP ds x = some (resAt ds x ds.length) := by
  unfold interpP
  rw [h1, h2, h3]
  rfl
theorem lgL_len : lgL.length = 256 := by decide +kernel
theorem exL_len : exL.length = 255 := by decide +kernel
theorem at_mem {ds : Dat} {i : Nat} (h : i < ds.length) : ds.getD i (0, #[]) ∈ ds := by rw [xAt_get h]; exact List.getElem_mem h
theorem sumX_bound {ds : Dat} {x : Int} (hds : ∀ d ∈ ds, 0 ≤ d.1 ∧ d.1 < 256 ∧ d.2.size < 1000) (hx : 0 ≤ x ∧ x < 256) : ∀ k, k ≤ ds.length → 0 ≤ preSum (fun j => logX (xAt ds j) x) k ∧ preSum (fun j => logX (xAt ds j) x) k ≤ 255 * k :=
  preSum_bound _ _ fun j hj => logX_bound ⟨(hds _ (at_mem hj)).1, (hds _ (at_mem hj)).2.1⟩ hx
theorem sumO_bound {ds : Dat} {i : Nat} (hds : ∀ d ∈ ds, 0 ≤ d.1 ∧ d.1 < 256 ∧ d.2.size < 1000) (hi : i < ds.length) : ∀ k, k ≤ ds.length → 0 ≤ preSum (fun j => logX (xAt ds i) (xAt ds j)) k ∧ preSum (fun j => logX (xAt ds i) (xAt ds j)) k ≤ 255 * k :=
  preSum_bound _ _ fun j hj => logX_bound ⟨(hds _ (at_mem hi)).1, (hds _ (at_mem hi)).2.1⟩ ⟨(hds _ (at_mem hj)).1, (hds _ (at_mem hj)).2.1⟩
theorem inLong_of {k : Int} {n : Nat} (h : 0 ≤ k ∧ k ≤ 255 * n) (hn : n ≤ 100) : InLong k := by
  unfold InLong
  constructor <;> omega
theorem sumX_fits {ds : Dat} {x : Int} (hds : ∀ d ∈ ds, 0 ≤ d.1 ∧ d.1 < 256 ∧ d.2.size < 1000) (hx : 0 ≤ x ∧ x < 256) (hn : ds.length < 100) (j : Nat) (hj : j < ds.length) :
    InLong ((fun i => logX (xAt ds i) x) j) ∧ InLong (preSum (fun i => logX (xAt ds i) x) (j + 1)) := by
  refine ⟨inLong_of (n := 1) ?_ (by decide), inLong_of (sumX_bound hds hx (j + 1) hj) (by omega)⟩
  have := logX_bound ⟨(hds _ (at_mem hj)).1, (hds _ (at_mem hj)).2.1⟩ hx
  exact ⟨this.1, Int.le_of_lt (Int.lt_of_lt_of_le this.2 (by decide))⟩
theorem sumO_fits {ds : Dat} {i : Nat} (hds : ∀ d ∈ ds, 0 ≤ d.1 ∧ d.1 < 256 ∧ d.2.size < 1000) (hi : i < ds.length) (hn : ds.length < 100) (j : Nat) (hj : j < ds.length) :
    InLong ((fun j => logX (xAt ds i) (xAt ds j)) j) ∧ InLong (preSum (fun j => logX (xAt ds i) (xAt ds j)) (j + 1)) := by
  refine ⟨inLong_of (n := 1) ?_ (by decide), inLong_of (sumO_bound hds hi (j + 1) hj) (by omega)⟩
  have := logX_bound ⟨(hds _ (at_mem hi)).1, (hds _ (at_mem hi)).2.1⟩ ⟨(hds _ (at_mem hj)).1, (hds _ (at_mem hj)).2.1⟩
  exact ⟨this.1, Int.le_of_lt (Int.lt_of_lt_of_le this.2 (by decide))⟩
theorem len_pos {ds : Dat} (h : oddS ds = false) : 0 < ds.length := by
  rcases Nat.eq_zero_or_pos ds.length with e | e
  · unfold oddS at h; rw [e] at h; simp [firstMet_zero] at h
  · exact e
theorem one_size {ds : Dat} (h : oddS ds = false) : ((firstMet (szAt ds) ds.length).any fun k => k == szAt ds 0) = true := by
  rw [firstMet_any, List.any_map, List.any_eq_true]
  exact ⟨0, List.mem_range.mpr (len_pos h), by simp⟩
theorem same_size {ds : Dat} (h : oddS ds = false) {i : Nat} (hi : i < ds.length) : szAt ds i = szAt ds 0 := by
  have hl : (firstMet (szAt ds) ds.length).length = 1 := by unfold oddS at h; simpa using h
  have m : ∀ j, j < ds.length → szAt ds j ∈ firstMet (szAt ds) ds.length := fun j hj => by
    have : ((firstMet (szAt ds) ds.length).any fun k => k == szAt ds j) = true := by
      rw [firstMet_any, List.any_map, List.any_eq_true]
      exact ⟨j, List.mem_range.mpr hj, by simp⟩
    obtain ⟨k, hk, e⟩ := List.any_eq_true.mp this
    rw [← eq_of_beq e]; exact hk
  have h1 := m i hi
  have h2 := m 0 (len_pos h)
  match hf : firstMet (szAt ds) ds.length, hl with
  | [k], _ =>
    rw [hf] at h1 h2
    rw [List.mem_singleton.mp h1, List.mem_singleton.mp h2]
theorem resAt_size {ds : Dat} {x : Int} (h : oddS ds = false) : ∀ i, i ≤ ds.length → (resAt ds x i).size = (dAt ds 0).size
  | 0, _ => by simp [resAt]
  | i + 1, hi => by
    show (stepRes _ _ _).size = _
    rw [stepRes_size]
    have := same_size h (i := i) (by omega)
    simp only [szAt] at this
    omega
theorem res_sizes {ds : Dat} {x : Int} (h : oddS ds = false) {i : Nat} (hi : i < ds.length) : (dAt ds i).size = (resAt ds x i).size := by
  rw [resAt_size h i (by omega)]
  have := same_size h hi
  simp only [szAt] at this
  omega
theorem fmod255 (a : Int) : 0 ≤ a.fmod 255 ∧ a.fmod 255 < 255 := by
  rw [Int.fmod_eq_emod_of_nonneg _ (by decide)]
  omega
theorem stepByte_bound (v r : UInt8) (b : Int) : 0 ≤ stepByte v r b ∧ stepByte v r b < 256 := by
  have hr := r.toNat_lt
  have h1 : 0 ≤ (if (v.toNat : Int) ≠ 0 then exI ((lgI (v.toNat : Int) + b).fmod 255) else 0) ∧ (if (v.toNat : Int) ≠ 0 then exI ((lgI (v.toNat : Int) + b).fmod 255) else 0) < 256 := by
    split
    · exact exI_bound (fmod255 _).1 (fmod255 _).2
    · decide
  exact xor256 ⟨by omega, by omega⟩ h1
theorem stepByte_zero {v r : UInt8} {b : Int} (h : (v.toNat : Int) = 0) : stepByte v r b = Builtin.bitXor (r.toNat : Int) 0 := by
  unfold stepByte
  rw [if_neg (by simpa using h)]
theorem stepByte_pos {v r : UInt8} {b : Int} (h : (v.toNat : Int) ≠ 0) : stepByte v r b = Builtin.bitXor (r.toNat : Int) (exI ((lgI (v.toNat : Int) + b).fmod 255)) := by
  unfold stepByte
  rw [if_pos h]
theorem getD_of {a : Array UInt8} {k : Nat} {v : UInt8} (h : a[k]? = some v) : a.getD k 0 = v := by
  rw [Array.getD_eq_getD_getElem?, h]; rfl
end Mine
end
theorem Mine.top_off_N15 : True := by
  w_top off
  trivial
section
open PySem PySem.W PySem.Calls PyProof.Rows PySem.W.KBw
open Sem (wp)
set_option maxRecDepth 100000
set_option maxHeartbeats 8000000
namespace Mine
/- a def without cells is entered; the addresses of led are hidden from the base and kept in the ledger -/
theorem callPM {prog : Program} {w : World} {A : Around} {s : Shared} {K : Frag} {g : Heap} {led : List (Addr × Obj)} {mg mb : Str → Option Value} {p : Program} {loose : List Str} {mean : ExcName → Option Value}
    {R : Result → Shared → Prop} {name qual : Str} {params : Arguments} {body : List Stmt} {scope : Scope} {dV kV doc pm cdv ct oc : Value} {an od : Option Addr} {osl : Array (Option Value)} {f : Addr} {args : Args} {binds : List (Str × Value)}
    (X : K.In g) (T : Top p loose mean mg mb g) (hgs : ∀ b o, g.get? b = some o → s.heap.get? b = some o) (hled : ∀ q ∈ led, s.heap.get? q.1 = some q.2 ∧ g.get? q.1 = none)
    (ho : K.lookup f = some ⟨oc, od, .func (fnOf name qual params body scope dV kV doc pm an cdv ct), osl⟩) (hcd : codeIn K cdv qual = true) (hroom : A.depth < recursionLimit)
    (hbind : BindsTo s (fnOf name qual params body scope dV kV doc pm an cdv ct) args binds) (hloc : ∀ y ∈ binds, scope.names.lookup y.1 = some .local)
    (h : ∀ h₀ L' h₁, (∀ b o, b ∉ led.map (·.1) → s.heap.get? b = some o → h₀.get? b = some o) → (∀ b o, h₀.get? b = some o → s.heap.get? b = some o) → (∀ b o, g.get? b = some o → h₀.get? b = some o) →
      (∀ q ∈ led, @LT.lt Nat _ q.1 L') → Fr h₀ L' h₁ (fun y => binds.reverse.lookup y) → News h₀ L' h₁ led → K.In h₀ → Top p loose mean mg mb h₀ →
      wpAny (model prog w) (A.deeper (envOf qual scope L' f cdv)) (execs body (envOf qual scope L' f cdv))
        (fun fl s' => R (.ok (.ret (match fl with | .ret v => v | _ => .none))) s')
        (fun e s' => wpAny (model prog w) (A.deeper (envOf qual scope L' f cdv)) (leaving (envOf qual scope L' f cdv) e) (fun _ s'' => R (.error e) s'') (fun e' s'' => R (.error e') s'') s')
        { s with heap := h₁, toks := s.toks + binds.length })
    (hco : scope.isCoroutine = false) (hgen : scope.isGenerator = false) (hk : scope.kind = .function)
    (hcell : ∀ x ∈ scope.names, x.2 ≠ .cell) : codeAny (model prog w) A (.call (.ref f) args) R s := by
  have up : ∀ b o, g.get? b = some o → (hideAll s.heap (led.map (·.1))).get? b = some o := fun b o e => hideAll_get _ (hgs b o e) fun q => by
    obtain ⟨q', hq, rfl⟩ := List.mem_map.mp q
    rw [(hled q' hq).2] at e; cases e
  have Xs : K.In s.heap := X.keeps hgs
  refine codeAny_call_def (fd := fnOf name qual params body scope dV kV doc pm an cdv ct) (body := body) (binds := binds) hroom (Xs _ _ ho) rfl (T.nolimit.keeps hgs) (codeRec_of Xs hcd) rfl hbind hcell hloc
    (fun h₁ hns hk₁ => ?_) hco hgen hk
  refine h (hideAll s.heap (led.map (·.1))) s.heap.objs.size h₁ (fun b o hb e => hideAll_get _ e hb) (fun b o e => of_hideAll _ e) up (fun q hq => Heap.lt_size (hled q hq).1)
    ⟨hns, fun b o e => hk₁ b o (of_hideAll _ e), Nat.le_of_eq (hideAll_size _ _)⟩ (fun q hq => ⟨hk₁ _ _ (hled q hq).1, Nat.ne_of_lt (Heap.lt_size (hled q hq).1), hideAll_none _ (List.mem_map_of_mem hq)⟩) (X.keeps up) (T.keeps up)

/- an exception of the class 31 in flight; sp: what may have changed, with what stands there now -/
noncomputable def RaisedM (base H : Heap) (outer : List Env) (e t : Addr) (vs : List Value) (sp : List (Addr × Obj)) (h : Heap) : Prop :=
  ∃ B, base.StaysIn B ∧ (∀ b o, b ∉ sp.map (·.1) → H.get? b = some o → b ∉ outer.filterMap (·.frame) → B.get? b = some o) ∧ (∀ q ∈ sp, B.get? q.1 = some q.2) ∧ Heap.FlyingW B outer e (.ref 31) (.ref t) h ∧ B.get? t = none ∧ h.TupAt t vs ∧
    (∀ b o, b ∉ sp.map (·.1) → H.get? b = some o → (∀ fs, o.data ≠ .fields fs) → ∃ sl, h.get? b = some { o with slots := sl })

section
variable {M : Model} {A : Around} {E : Value → Shared → Prop} {s' : Shared} {base g h₀ h H H₁ : Heap} {outer : List Env} {L e t : Addr} {m : Str → Option Value} {env : Env} {Q : Unit → Shared → Prop} {news sp : List (Addr × Obj)} {vs : List Value} {ps ps0 : Array Value}

theorem leave_M (K : Below A base outer h₀) (hf : env.frame = some L) (hk : env.scope.kind = .function) (F : Fr h₀ L h m) (N : News h₀ L h news) (hm : ∀ q ∈ sp, q ∈ news) (hx : Heap.MadeExcOf h s'.heap e (.ref 31) vs)
    (hk0 : ∀ b o, b ∉ sp.map (·.1) → H.get? b = some o → h₀.get? b = some o)
    (hQ : ∀ h' t, RaisedM base H outer e t vs sp h' → Q () { s' with heap := h' }) :
    wpAny M (A.deeper env) (leaving env (.ref e)) Q E s' := by
  have K' := pushX K F hf hk
  have hin : ∀ env' ∈ (env :: outer), ∀ b, env'.frame = some b → b ∈ (env :: outer).filterMap (·.frame) := fun env he b hb => List.mem_filterMap.mpr ⟨env, he, hb⟩
  have st : base.StaysIn (hideAll h ((env :: outer).filterMap (·.frame))) := fun b o q => hideAll_get _ (K'.stays b o q) fun hm => by
    rw [(K'.frames.mem hm).1] at q; cases q
  refine wpAny_leaves_madeW K'.stack hf (fun b o q => of_hideAll _ q) (funFrames_hide K'.frames hin) hx fun h' t x1 x2 x3 x4 => hQ h' t ⟨_, st, fun b o hb e hn => ?_, fun q hq => ?_, x1, x3, x2, fun b o hb e hd => ?_⟩
  · have e1 := hk0 b o hb e
    refine hideAll_get _ (F.keep b o e1) fun hm => ?_
    rcases mem_frames hf hm with z | z
    · rw [z, kts_self F] at e1; cases e1
    · exact hn z
  · have hq' := N _ (hm q hq)
    refine hideAll_get _ hq'.1 fun hm => ?_
    rcases mem_frames hf hm with z | z
    · exact hq'.2.1 z
    · obtain ⟨o, ho, _⟩ := (K.frames.mem z).2
      rw [hq'.2.2] at ho; cases ho
  · exact x4 b o (hx.keeps b o (F.keep b o (hk0 b o hb e))) hd

/- an exception that came out of a callee goes on through the frame env: sp are the callee's, sp' the frame's own changed things -/
theorem relay_M {sp' : List (Addr × Obj)} (hA : A.frames = some outer) (hf : env.frame = some L) (F : Fr h₀ L H₁ m) (R : RaisedM base H₁ (env :: outer) e t vs sp s'.heap)
    (hk0 : ∀ b o, b ∉ sp'.map (·.1) → H.get? b = some o → h₀.get? b = some o) (hsub : ∀ b ∈ sp.map (·.1), b ∈ sp'.map (·.1))
    (hsp : ∀ q ∈ sp', q ∈ sp ∨ (q.1 ∉ sp.map (·.1) ∧ H₁.get? q.1 = some q.2 ∧ q.1 ∉ (env :: outer).filterMap (·.frame)))
    (hQ : ∀ h', RaisedM base H outer e t vs sp' h' → Q () { s' with heap := h' }) :
    wpAny M (A.deeper env) (leaving env (.ref e)) Q E s' := by
  obtain ⟨B, hB, hold, hsp0, hfl, hnew, htup, hup⟩ := R
  refine wpAny_leaves_onW (Around.frames_deeper hA) hf hfl fun h' x1 x2 => hQ h' ⟨B, hB, fun b o hb e hn => ?_, fun q hq => ?_, x1, hnew, htup.of_slots x2, fun b o hb e hd => ?_⟩
  · have e1 := hk0 b o hb e
    refine hold b o (fun q => hb (hsub b q)) (F.keep b o e1) fun hm => ?_
    rcases mem_frames hf hm with z | z
    · rw [z, kts_self F] at e1; cases e1
    · exact hn z
  · rcases hsp q hq with hq | ⟨h1, h2, h3⟩
    · exact hsp0 q hq
    · exact hold _ _ h1 h2 h3
  · obtain ⟨sl, e2⟩ := hup b o (fun q => hb (hsub b q)) (F.keep b o (hk0 b o hb e)) hd
    exact x2 b _ e2 hd |>.imp fun sl' e3 => e3

theorem RaisedX.toM (R : RaisedX base H outer e t vs ps h) : RaisedM base H outer e t vs [(156, tabObj ps)] h := by
  obtain ⟨B, hB, hold, hP', hfl, hnew, htup, hup⟩ := R
  exact ⟨B, hB, fun b o hb e hn => hold b o (fun q => hb (by rw [q]; exact List.mem_singleton.mpr rfl)) e hn, fun q hq => by rw [List.mem_singleton.mp hq]; exact hP', hfl, hnew, htup, fun b o _ e hd => hup b o e hd⟩
end
end Mine
end
section
open PySem PySem.W PySem.Calls PyProof.Rows Mine
set_option maxRecDepth 100000
namespace Mine
theorem at_x (w : World) (p : Program) (loose : List Str) (mean : ExcName → Option Value) (mg mb : Str → Option Value) (a : Addr) (v0 v1 : Value) (expr : Bool)
    (dp un : Nat) (fr : Option (List Env)) (gd : Option (List Code)) (s : Shared) (Q E : Value → Shared → Prop)
    (X : (hd.heap_39 w.params).In s.heap) (T : Top p loose mean mg mb s.heap) (hs : ShareAt s.heap a v0 v1) (hv : handedIn v0 = true ∧ handedIn v1 = true) (hdp : dp + 4 < recursionLimit) (hu : un + 50 < cLine)
    (hret : ∀ (h' : Heap) (tk' : Nat), Kept s.heap h' → Q v0 { s with heap := h', toks := tk' }) :
    wpAny (model PySem.Challenge.rw_jb0039_01.row.prog w) { handled := none, depth := dp, frames := fr, guards := gd, units := un } (getAttr (.ref a) "x" expr) Q E s :=
  attr_spec w p loose mean mg mb a v0 v1 "x" 137 0 (.inl ⟨rfl, rfl, rfl⟩) expr dp un fr gd s Q E X T hs hv hdp hu hret

theorem at_data (w : World) (p : Program) (loose : List Str) (mean : ExcName → Option Value) (mg mb : Str → Option Value) (a : Addr) (v0 v1 : Value) (expr : Bool)
    (dp un : Nat) (fr : Option (List Env)) (gd : Option (List Code)) (s : Shared) (Q E : Value → Shared → Prop)
    (X : (hd.heap_39 w.params).In s.heap) (T : Top p loose mean mg mb s.heap) (hs : ShareAt s.heap a v0 v1) (hv : handedIn v0 = true ∧ handedIn v1 = true) (hdp : dp + 4 < recursionLimit) (hu : un + 50 < cLine)
    (hret : ∀ (h' : Heap) (tk' : Nat), Kept s.heap h' → Q v1 { s with heap := h', toks := tk' }) :
    wpAny (model PySem.Challenge.rw_jb0039_01.row.prog w) { handled := none, depth := dp, frames := fr, guards := gd, units := un } (getAttr (.ref a) "data" expr) Q E s :=
  attr_spec w p loose mean mg mb a v0 v1 "data" 140 1 (.inr ⟨rfl, rfl, rfl⟩) expr dp un fr gd s Q E X T hs hv hdp hu hret
end Mine
local macro_rules | `(tactic| walk_at "mine top") => `(tactic| first | assumption | exact Top.keeps (by assumption) (Fr.keep (by assumption)))
local macro_rules | `(tactic| walk_at "mine share") => `(tactic| first | assumption | exact share_keeps (by assumption) (Fr.keep (by assumption)))
local macro_rules | `(tactic| walk_at "getAttr ref") => `(tactic| (k_here; (with_reducible show wpAny _ _ (getAttr (Value.ref _) (Str.ofString "x") _) _ _ _); (refine' at_x _ _ _ _ _ _ _ _ _ _ _ _ _ _ _ _ _ ?aX ?aT ?aS ?aV ?aD ?aU ?_; (case aX => k_in); (case aT => walk_at "mine top"); (case aS => walk_at "mine share"); (case aV => exact ⟨rfl, rfl⟩); (case aD => ktr_room); (case aU => ktr_units); intro h9 tk9 k9; (have F9 := Fr.keeps (by assumption) k9); (have N9 := news_keeps (by assumption) k9); (try dsimp only); (try k_sweep); (try k_fold))))
local macro_rules | `(tactic| walk_at "getAttr ref") => `(tactic| (k_here; (with_reducible show wpAny _ _ (getAttr (Value.ref _) (Str.ofString "data") _) _ _ _); (refine' at_data _ _ _ _ _ _ _ _ _ _ _ _ _ _ _ _ _ ?aX ?aT ?aS ?aV ?aD ?aU ?_; (case aX => k_in); (case aT => walk_at "mine top"); (case aS => walk_at "mine share"); (case aV => exact ⟨rfl, rfl⟩); (case aD => ktr_room); (case aU => ktr_units); intro h9 tk9 k9; (have F9 := Fr.keeps (by assumption) k9); (have N9 := news_keeps (by assumption) k9); (try dsimp only); (try k_sweep); (try k_fold))))
local macro_rules | `(tactic| walk_at "exec Raise some none") => `(tactic| (k_here; k_dflt (refine' raise_x ?F ?g ?O PySem.F.excBase_Exception ?h ?_ ?a ?b; (case F => k_asm); (case g => exact TopRead.g (by k_asm)); (case O => exact own_of_in (by k_asm) (by k_asm) (by k_is) (by k_exc)); (case h => rfl); (case a => rfl); (case b => rfl)); intro h9 e9 vs9 tk9 x9))
theorem Mine.top_off_I1 : True := by
  w_top off
  trivial
section
open PySem PySem.W PySem.Calls PyProof.Rows
set_option maxRecDepth 100000
set_option maxHeartbeats 3000000
namespace Mine



local macro_rules | `(tactic| walk_at "eval Name") => `(tactic| (k_here; (with_reducible show wpAny _ _ (eval (Expr.Name _ _) (envX _ _ _ _ _ _)) _ _ _); k_dflt (refine' nameX_L ?F ?v ?_ ?a ?b; (case F => k_asm); (case a => rfl); (case b => rfl); (case v => with_reducible assumption); k_whole)))
local macro_rules | `(tactic| walk_at "eval Name") => `(tactic| (k_here; (with_reducible show wpAny _ _ (eval (Expr.Name _ _) (genEnv _ _ _ _ _ _)) _ _ _); k_dflt (first
  | (refine' ng_L ?F ?v ?_ ?a ?b; (case F => k_asm); (case a => rfl); (case b => rfl); (case v => k_asm); k_whole)
  | (refine' ng_F ?N ?c ?m ?d ?_ ?a ?b; (case a => rfl); (case b => rfl); (case N => k_asm); (case c => rfl); (case m => k_mem); (case d => k_asm); k_whole)
  | (refine' ng_K ?F ?X ?T ?g ?e ?_ ?a ?b; (case a => rfl); (case b => rfl); (case F => k_asm); (case X => k_asm); (case T => k_asm); (case g => rfl); (case e => k_is); k_whole)
  | (refine' ng_B ?F ?X ?T ?g ?e ?bv ?nn ?_ ?bi ?a ?b; (case a => rfl); (case b => rfl); (case F => k_asm); (case X => k_asm); (case T => k_asm); (case g => rfl); (case e => k_is); (case bv => rfl); (case nn => decide); (case bi => rfl); k_whole))))

local macro_rules | `(tactic| walk_at "leaving ref") => `(tactic| (k_here; k_dflt (refine' leave_x ?K ?a ?b ?F ?N ?m ?x ?k ?P ?_; (case K => k_asm); (case a => rfl); (case b => rfl); (case F => k_asm); (case N => k_asm); (case m => k_mem); (case x => k_asm); (case k => k_asm); (case P => k_asm)); intro h9 t9 R9))
local macro_rules | `(tactic| walk_at "subscriptTail") => `(tactic| (k_here; (with_reducible show wpAny _ _ (subscriptTail _ _ (Value.ref 154) (Value.int _ _)) _ _ _); (refine' tab_item (l := lgL) ?X (log_ok _) ?a ?b ?c ?_ ?d; (case X => k_in); (case d => with_unfolding_all rfl); (case a => omega); (case b => (simp only [lgL_len]; omega)); (case c => omega)); intro t9))
local macro_rules | `(tactic| walk_at "subscriptTail") => `(tactic| (k_here; (with_reducible show wpAny _ _ (subscriptTail _ _ (Value.ref 151) (Value.int _ _)) _ _ _); (refine' tab_item (l := exL) ?X (exp_ok _) ?a ?b ?c ?_ ?d; (case X => k_in); (case d => with_unfolding_all rfl); (case a => omega); (case b => (simp only [exL_len]; omega)); (case c => omega)); intro t9))
theorem interp_spec (w : World) (p : Program) (loose : List Str) (mean : ExcName → Option Value) (mg mb : Str → Option Value) (l : Addr) (vs : List Value) (ds : Dat) (x : Int) (tx : Tok) (ps : Array Value)
    (dp un : Nat) (fr : Option (List Env)) (gd : Option (List Code)) (s : Shared) (Q E : Value → Shared → Prop) (base g : Heap) (outer : List Env)
    (K : Below { handled := none, depth := dp, frames := fr, guards := gd, units := un } base outer g)
    (T : Top p loose mean mg mb g) (hgs : ∀ b o, g.get? b = some o → s.heap.get? b = some o) (hgP : g.get? 156 = none) (hP : s.heap.get? 156 = some (tabObj ps)) (ht : TriplesOk ps.toList)
    (hb : AllBare s.gens) (hl : s.heap.IsList l vs.toArray) (hs : SharesAre s.heap vs ds) (hds : ∀ d ∈ ds, 0 ≤ d.1 ∧ d.1 < 256 ∧ d.2.size < 1000) (hn : ds.length < 100) (hx : 0 ≤ x ∧ x < 256)
    (hdp : dp + 20 < recursionLimit) (hu : un + 200 < cLine)
    (hQ : ∀ r t h' gs d tk ps', interpP ds x = some r → TriplesOk ps'.toList → AllBare gs → (∀ b o, b ≠ 156 → s.heap.get? b = some o → h'.get? b = some o) → h'.get? 156 = some (tabObj ps') → Q (.bytes r t) ⟨h', gs, d, tk, s.os⟩)
    (hE : ∀ e t vs h' gs d tk ps', interpP ds x = none → TriplesOk ps'.toList → AllBare gs → RaisedX base s.heap outer e t vs ps' h' → E (.ref e) ⟨h', gs, d, tk, s.os⟩) :
    (hd.heap_39 w.params).In s.heap → wpAny (model PySem.Challenge.rw_jb0039_01.row.prog w) { handled := none, depth := dp, frames := fr, guards := gd, units := un } (call (.ref 161) [.ref l, .int x tx]) Q E s := by
  k_fill
  intro X
  refine wpAny_call ?_
  refine' callPC (f := 161) (P := 156) (binds := [(Str.ofString "shares", .ref l), (Str.ofString "x", .int x tx)]) X T hgs hgP hP ?kP ?k6 ?k7 ?k8 ?k9 ?kB ?kC ?_ ?c2 ?c3 ?c4
  case kP => kernel_rfl
  case k6 => k_is
  case k7 => k_is
  case k8 => ktr_room
  case k9 => exact BindsTo.of_eq rfl
  case c2 => rfl
  case c3 => rfl
  case c4 => rfl
  case kB => 
    intro n y hy
    simp only [List.mem_cons, List.not_mem_nil, or_false] at hy
    rcases hy with rfl | rfl
    · exact .inl rfl
    · exact .inr ⟨rfl, rfl⟩
  case kC => decide
  k_whole
  intro h₀ L h₁ tk cells hk0 hP0 F N Y hL X₀ T₀
  have hl₀ : h₀.IsList l vs.toArray := hl.at fun o e => hk0 l o (fun q => by obtain ⟨o', e', hc, _⟩ := hl; rw [q, hP] at e'; cases e'; exact absurd hc (by simp)) e
  have hs₀ : SharesAre h₀ vs ds := ⟨hs.1, fun i v e => by
    obtain ⟨a, t, u, rfl, dx, g1, g2⟩ := hs.2 i v e
    exact ⟨a, t, u, rfl, dx, hk0 _ _ (fun q => by rw [q, hP] at g1; cases g1) g1, hk0 _ _ (fun q => by rw [q, hP] at g2; cases g2) g2⟩⟩
  have C₀ : CodeHd h₀ 160 156 := codeHd_of_K X₀ (by kernel_rfl)
  have K₀ : Below { handled := none, depth := dp, frames := fr, guards := gd, units := un } base outer h₀ := by
    have up : ∀ b o, g.get? b = some o → h₀.get? b = some o := fun b o e => hk0 b o (fun q => by rw [q, hgP] at e; cases e) (hgs b o e)
    exact ⟨K.stack, fun b o e => up b o (K.stays b o e), K.frames.of_keeps fun b o e _ => ⟨o, up b o e, rfl⟩⟩
  clear X T hgs hgP hl hs K
  obtain ⟨o1, o2, o3, hE', d1, d2, d3⟩ := CellsAre.three Y
  subst hE'
  clear Y
  replace d1 : o1.data = .cell none := d1
  replace d2 : o2.data = .cell none := d2
  replace d3 : o3.data = .cell (some (.int x tx)) := d3
  have hvn : vs.toArray.size = ds.length := by simp [hs₀.1]
  (try dsimp only)
  (try k_fold)
  k_steps
  refine gen_list (Fv := fun i y => ∃ t, y = .int (xAt ds i) t) (by assumption) (by assumption) T₀ C₀ (by k_updF) ht hb rfl rfl rfl hl₀ ?room ?hq ?_
  case room => ktr_room
  case hq =>
    intro D code ps' A' E' i v t m₂ hA hD hU hi Ft Nt hv
    obtain ⟨hd', dp', fr', gd', un'⟩ := A'
    cases hA
    obtain ⟨a, ta, ua, rfl, hS⟩ := hs₀.2 i v (by simpa using hi)
    replace hD : dp' ≤ dp + 1 + 1 := hD
    replace hU : un' ≤ un + 3 + 8 := hU
    clear F N hQ hE hk0 hP
    k_steps
    exact ⟨_, _, rfl, by assumption⟩
  rw [hvn]
  clear F N ht hb
  intro b1 h1 tk1 gs1 ps1 Kb1 ht1 F1 N1 G1 B1 X1
  k_steps
  refine set_gen F1 N1 G1 B1 X1 (xAt ds) (fun i v h => h) (by unfold scanBound; omega) ?_
  clear F1 N1 G1 B1 X1
  intro D1 so1 h2 gs2 tk2 F2 N2 G2 l2 S1
  k_lt l2
  generalize hc1 : (firstMet (xAt ds) ds.length).length = c1 at S1
  have hc1' : c1 ≤ ds.length := hc1 ▸ firstMet_length_le _ _
  k_steps
  · refine hE _ _ _ _ _ _ _ _ ?_ ht1 G2 (by assumption)
    have hne : c1 ≠ ds.length := fun q => by have := hvn; omega
    unfold interpP dupX
    rw [hc1]
    simp [hne]
  have hdup : dupX ds = false := by
    unfold dupX
    rw [hc1]
    simp only [bne_eq_false_iff_eq]
    omega
  refine gen_list (Fv := fun i y => ∃ t, y = .int (szAt ds i) t) (by assumption) (by assumption) T₀ C₀ (by k_updF) ht1 G2 rfl rfl rfl hl₀ ?room ?hq ?_
  case room => ktr_room
  case hq =>
    intro D code ps' A' E' i v t m₂ hA hD hU hi Ft Nt hv
    obtain ⟨hd', dp', fr', gd', un'⟩ := A'
    cases hA
    obtain ⟨a, ta, ua, rfl, hS⟩ := hs₀.2 i v (by simpa using hi)
    have hsz : (dAt ds i).size < 1000 := by
      have hi' : i < ds.length := by rw [← hvn]; exact (Array.getElem?_eq_some_iff.mp hi).1
      have : ds.getD i (0, #[]) ∈ ds := by rw [List.getD_eq_getElem?_getD, List.getElem?_eq_getElem hi']; exact List.getElem_mem hi'
      exact (hds _ this).2.2
    replace hD : dp' ≤ dp + 1 + 1 := hD
    replace hU : un' ≤ un + 3 + 8 := hU
    clear hQ hE hk0 hP S1
    k_steps
    refine len_bytes (Nat.le_trans (Nat.le_of_lt hsz) (by decide)) ?_
    exact ⟨⟨_, rfl⟩, _, _, rfl, by assumption⟩
  rw [hvn]
  clear ht1 G2
  intro b2 h3 tk3 gs3 ps3 Kb3 ht3 F3 N3 G3 B3 X3
  k_steps
  refine set_gen F3 N3 G3 B3 X3 (szAt ds) (fun i v h => h) (by unfold scanBound; omega) ?_
  clear F3 N3 G3 B3 X3
  intro D2 so2 h4 gs4 tk4 F4 N4 G4 l4 S2
  k_lt l4
  generalize hc2 : (firstMet (szAt ds) ds.length).length = c2 at S2
  have hc2' : c2 ≤ ds.length := hc2 ▸ firstMet_length_le _ _
  k_steps
  · refine hE _ _ _ _ _ _ _ _ ?_ ht3 G4 (by assumption)
    have hne : c2 ≠ 1 := fun q => by omega
    unfold interpP oddS
    rw [hc2]
    simp [hne]
  all_goals
    have hone : oddS ds = false := by
      unfold oddS
      rw [hc2]
      simp only [bne_eq_false_iff_eq]
      omega
    clear hE
  · have hmem : hasX ds x = true := by assumption
    refine' for_rule (J := fun i m news gs => AllBare gs ∧ (∀ j, j < i → xAt ds j ≠ x) ∧ ∃ osh v, news = [(D2, so2), (D1, so1), (L + 1 + 1 + 1, osh), (L + 1 + 1, o2), (L + 1, o3), (156, tabObj ps3)] ∧ osh.data = .cell v) ?fh ?fF ?fN ?fm ?fl ?fJ ?stp ?dne
    case fh => rfl
    case fF => assumption
    case fN => assumption
    case fm => rfl
    case fl => exact hl₀
    case fJ => exact ⟨G4, (fun _ h => absurd h (Nat.not_lt_zero _)), o1, none, rfl, d1⟩
    case stp =>
      intro i v hi I oI h tk gs d m₁ news₁ hJ F N hI
      obtain ⟨Gt, hpre, osh, vsh, rfl, dsh⟩ := hJ
      obtain ⟨a, ta, ua, rfl, hS⟩ := hs₀.2 i v (by simpa using hi)
      have hI' := gnNe_of hI
      simp only [GnNe, and_true] at hI'
      refine wpAny_assign_Name (storeX_C F N rfl (by k_updF) dsh ?_)
      clear F N dsh hI
      intro h5 osh' F5 N5 dsh'
      have hin : i < ds.length := by rw [← hvn]; exact (Array.getElem?_eq_some_iff.mp hi).1
      k_steps
      · refine hQ _ _ _ _ _ _ _ (interp_found hdup hone hmem hin (by assumption) hpre) ht3 Gt (fun b o hb e => Fr.keep (by assumption) _ _ (hk0 b o hb e)) ?_
        exact News.get (o := tabObj ps3) (by assumption) (by simp)
      · refine ⟨_, _, _, _, _, _, rfl, by assumption, by assumption, ?_, Gt, ?_, osh', _, rfl, dsh'⟩
        · exact fun q hq => by
            simp only [List.mem_cons, List.not_mem_nil, or_false] at hq
            obtain ⟨q1, q2, q3, q4, q5, q6⟩ := hI'
            rcases hq with rfl | rfl | rfl | rfl | rfl | rfl <;> assumption
        · intro j hj
          rcases Nat.lt_succ_iff_lt_or_eq.mp hj with hj | rfl
          · exact hpre j hj
          · assumption
    case dne =>
      rintro h tk gs d m' news' ⟨_, hpre, _⟩ _ _
      obtain ⟨j, hj, e⟩ := (hasX_iff ds x).mp hmem
      exact absurd e (hpre j (by rw [hvn]; exact hj))
  · have hmem : hasX ds x = false := by first | assumption | exact Bool.eq_false_iff.mpr (by assumption)
    refine' gen_list (items := vs.toArray) (Fv := fun i y => ∃ t, y = .int (logX (xAt ds i) x) t) ?gF ?gN T₀ C₀ ?gU ht3 G4 rfl rfl ?gm hl₀ ?room ?hq ?_
    case gF => assumption
    case gN => assumption
    case gU => k_updF
    case gm => rfl
    case room => ktr_room
    case hq =>
      intro D code ps' A' E' i v t m₂ hA hD hU hi Ft Nt hv
      obtain ⟨hd', dp', fr', gd', un'⟩ := A'
      cases hA
      obtain ⟨a, ta, ua, rfl, hS⟩ := hs₀.2 i v (by simpa using hi)
      have hin : i < ds.length := by rw [← hvn]; exact (Array.getElem?_eq_some_iff.mp hi).1
      have hxb := xor256 ⟨(hds _ (at_mem hin)).1, (hds _ (at_mem hin)).2.1⟩ hx
      replace hD : dp' ≤ dp + 1 + 1 := hD
      replace hU : un' ≤ un + 3 + 8 := hU
      clear hQ hk0 hP S1 S2
      k_steps
      exact ⟨_, _, rfl, by assumption⟩
    rw [hvn]
    clear ht3 G4
    intro b3 h6 tk6 gs6 ps6 Kb6 ht6 F6 N6 G6 B6 X6
    k_steps
    refine sum_gen F6 N6 G6 B6 X6 (fun i => logX (xAt ds i) x) (fun i v h => h) (sumX_fits hds hx hn) ?_
    clear F6 N6 G6 B6 X6
    intro t7 h7 gs7 tk7 F7 N7 G7
    k_steps
    have hc21 : c2 = 1 := by unfold oddS at hone; rw [hc2] at hone; simpa using hone
    subst hc21
    refine pop_method (by assumption) (by k_updF) S2 (by unfold scanBound; omega) ?_
    k_steps
    refine pop_one (k := szAt ds 0) (by assumption) (by assumption) (by k_updF) S2 (one_size hone) ?_
    clear S2
    intro t8 h8 d8 so3 F8 N8
    k_steps
    have hsz0 : (dAt ds 0).size < 1000 := (hds _ (at_mem (len_pos hone))).2.2
    refine bytes_count (Int.natCast_nonneg _) (by show ((dAt ds 0).size : Int) < 1000; omega) ?_
    intro t10 tk10
    k_steps
    refine' for_rule (J := fun i m news gs => AllBare gs ∧ m (Str.ofString "shares") = some (.ref l) ∧ (∃ t, m (Str.ofString "log_prod") = some (.int (sumX ds x) t)) ∧ (∃ t, m (Str.ofString "result") = some (.bytes (resAt ds x i) t)) ∧ ∃ osh v olg v2 ps', news = [(D2, so3), (D1, so1), (L + 1 + 1 + 1, osh), (L + 1 + 1, olg), (L + 1, o3), (156, tabObj ps')] ∧ osh.data = .cell v ∧ olg.data = .cell v2 ∧ TriplesOk ps'.toList) ?fh ?fF ?fN ?fm ?fl ?fJ ?stp ?dne
    case fh => rfl
    case fF => assumption
    case fN => assumption
    case fm => rfl
    case fl => exact hl₀
    case fJ => exact ⟨G7, rfl, ⟨_, rfl⟩, ⟨_, rfl⟩, o1, none, o2, none, ps6, rfl, d1, d2, ht6⟩
    case stp =>
      intro i v hi I oI h tk gs d m₁ news₁ hJ F N hI
      obtain ⟨Gt, hm1, ⟨tlp, hm2⟩, ⟨tre, hm3⟩, osh, vsh, olg, vlg, psi, rfl, dsh, dlg, hti⟩ := hJ
      obtain ⟨a, ta, ua, rfl, hS⟩ := hs₀.2 i v (by simpa using hi)
      have hI' := gnNe_of hI
      simp only [GnNe, and_true] at hI'
      refine wpAny_assign_Name (storeX_C F N rfl (by k_updF) dsh ?_)
      clear F N dsh hI
      intro h5 osh' F5 N5 dsh'
      have hin : i < ds.length := by rw [← hvn]; exact (Array.getElem?_eq_some_iff.mp hi).1
      have hxb := xor256 ⟨(hds _ (at_mem hin)).1, (hds _ (at_mem hin)).2.1⟩ hx
      clear hQ hk0 hP S1
      k_steps
      refine' gen_list (items := vs.toArray) (Fv := fun j y => ∃ t, y = .int (logX (xAt ds i) (xAt ds j)) t) ?gF ?gN T₀ C₀ ?gU hti Gt rfl rfl hm1 hl₀ ?room ?hq ?_
      case gF => assumption
      case gN => assumption
      case gU => k_updF
      case room => ktr_room
      case hq =>
        intro D code ps' A' E' j v t m₂ hA hD hU hj Ft Nt hv
        obtain ⟨hd', dp', fr', gd', un'⟩ := A'
        cases hA
        obtain ⟨a', ta', ua', rfl, hS'⟩ := hs₀.2 j v (by simpa using hj)
        have hjn : j < ds.length := by rw [← hvn]; exact (Array.getElem?_eq_some_iff.mp hj).1
        have hxb := xor256 ⟨(hds _ (at_mem hin)).1, (hds _ (at_mem hin)).2.1⟩ ⟨(hds _ (at_mem hjn)).1, (hds _ (at_mem hjn)).2.1⟩
        replace hD : dp' ≤ dp + 1 + 1 := hD
        replace hU : un' ≤ un + 3 + 8 := hU
        k_steps
        exact ⟨_, _, rfl, fun b o e => (by assumption : Kept _ _) b o ((by assumption : Kept t.heap _) b o e)⟩
      rw [hvn]
      clear hti Gt
      intro b9 h9 tk9 gs9 ps9 Kb9 ht9 F9 N9 G9 B9 X9
      k_steps
      refine sum_gen F9 N9 G9 B9 X9 (fun j => logX (xAt ds i) (xAt ds j)) (fun i v h => h) (sumO_fits hds hin hn) ?_
      clear F9 N9 G9 B9 X9
      intro t11 h11 gs11 tk11 F11 N11 G11
      k_steps
      refine' gen_zipK (b1 := dAt ds i) (b2 := resAt ds x i) (t1 := ua) (t2 := tre) (Fv := fun k z => ∃ t, z = .int (stepByte ((dAt ds i).getD k 0) ((resAt ds x i).getD k 0) (lbe ds x i)) t) ?gF ?gN T₀ C₀ ?gU ht9 G11 ?room rfl rfl (fun _ => rfl) (res_sizes hone hin) ?hit ?hq ?_
      case gF => assumption
      case gN => assumption
      case gU => k_updF
      case room => ktr_room
      case hit =>
        k_steps
        refine zb_call ?_
        intro h12 hz12 hsz12 hk12
        exact ⟨h12, _, _, rfl, fun b o e => hk12 b o ((by assumption : Kept _ _) b o e), rfl, fun b o e => Heap.lt_size ((by assumption : Kept _ _) b o e), hz12⟩
      case hq =>
        intro D code ps' A' E' k v1 v2 u1 u2 t m₂ hA hD hU hv1 hv2 Ft Nt hn1 hn2
        obtain ⟨hd', dp', fr', gd', un'⟩ := A'
        cases hA
        replace hD : dp' ≤ dp + 1 + 1 := hD
        replace hU : un' ≤ un + 3 + 8 := hU
        have hb1 := v1.toNat_lt
        have hg1 := getD_of hv1
        have hg2 := getD_of hv2
        k_steps
        · refine tab_item (l := exL) (by k_in) (exp_ok _) (fmod255 _).1 (by rw [exL_len]; exact (fmod255 _).2) (Int.lt_trans (fmod255 _).2 (by decide)) ?_
          intro t15
          k_steps
          · rw [hg1, hg2, stepByte_pos (by assumption)]
            rfl
          · exact ⟨_, _, rfl, fun _ _ e => e⟩
        · rw [hg1, hg2, stepByte_zero (by assumption)]
        · exact ⟨_, _, rfl, fun _ _ e => e⟩
      intro b12 h13 tk13 gs13 ps13 Kb13 ht13 F13 N13 G13 B13 hd13 X13
      k_steps
      refine bytes_gen F13 N13 G13 B13 X13 (fun k => stepByte ((dAt ds i).getD k 0) ((resAt ds x i).getD k 0) (lbe ds x i)) (fun k v h => by obtain ⟨t, e⟩ := h; exact ⟨t, e, stepByte_bound _ _ _⟩) (by have := (hds _ (at_mem hin)).2.2; rw [sizeLine_eq]; exact Nat.le_trans (Nat.le_of_lt this) (by decide)) hd13 ?_
      clear F13 N13 G13 B13 X13 hd13
      intro t14 h14 gs14 tk14 F14 N14 G14
      k_steps
      refine ⟨_, _, _, _, _, _, rfl, by assumption, by assumption, ?_, G14, ?_, ⟨tlp, ?_⟩, ⟨t14, ?_⟩, osh', _, _, _, ps13, rfl, dsh', by assumption, ht13⟩
      · exact fun q hq => by
          simp only [List.mem_cons, List.not_mem_nil, or_false] at hq
          obtain ⟨q1, q2, q3, q4, q5, q6⟩ := hI'
          rcases hq with rfl | rfl | rfl | rfl | rfl | rfl <;> assumption
      · exact (if_neg (by decide)).trans hm1
      · exact (if_neg (by decide)).trans hm2
      · exact if_pos rfl
    case dne =>
      rintro h tk gs d m' news' ⟨Gt, hm1, ⟨tlp, hm2⟩, ⟨tre, hm3⟩, osh, vsh, olg, vlg, psi, rfl, dsh, dlg, hti⟩ F N
      rw [hvn] at hm3
      k_steps
      refine nameX_L F hm3 ?_
      k_steps
      refine hQ _ _ _ _ _ _ _ (interp_sum hdup hone hmem) hti Gt (fun b o hb e => Fr.keep (by assumption) _ _ (hk0 b o hb e)) ?_
      exact News.get (o := tabObj psi) (by assumption) (by simp)
end Mine
end
section
open PySem PySem.W PySem.Calls PyProof.Rows Mine
set_option maxRecDepth 100000
local macro_rules | `(tactic| walk_at "subscriptTail") => `(tactic| (k_here; (with_reducible show wpAny _ _ (subscriptTail _ (Expr.Slice _ _ none _) (Value.bytes _ _) (Value.ref _)) _ _ _); (with_reducible rename Fr _ _ _ _ => F'); (with_reducible rename News _ _ _ _ => N'); (refine PySem.W.KBc.slice_K (s := ⟨_, _, _, _, _⟩) F' N' rfl (by constructor) (by constructor) (by rw [PySem.W.KBw.ints_length]; omega) ?_); intro _ _ _ F9 N9 _; (try clear F' N')))
theorem Mine.top_off_D1 : True := by
  w_top off
  trivial
section
open PySem PySem.W PySem.Calls PyProof.Rows
set_option maxRecDepth 100000
set_option maxHeartbeats 8000000
namespace Mine

/- the list object of the calls, behind one call with key k1 and message k2: to is the pair's object at ta -/
noncomputable def CallIs (co to : Obj) (ta : Addr) (k1 k2 : Array UInt8) : Prop :=
  (∃ n, co = { cls := .type "list", dict := none, data := .seq #[.ref ta] n, slots := #[] }) ∧ ∃ u1 u2, to = { cls := .type "tuple", dict := none, data := .seq #[.bytes k1 u1, .bytes k2 u2], slots := #[] }
/- what the digest's stand-in does at fm: it answers mr, and notes the call in the list at ca -/
noncomputable def MacDoes (prog : Program) (w : World) (fm ca : Addr) (mr : Array UInt8) (H : Heap) (D U : Nat) : Prop :=
  ∀ (dp un : Nat) (fr : Option (List Env)) (gd : Option (List Code)) (s : Shared) (k1 k2 : Array UInt8) (t1 t2 : Tok) (Q E : Value → Shared → Prop), dp ≤ D → un ≤ U → (∀ b o, b ≠ 156 → H.get? b = some o → s.heap.get? b = some o) →
    (∀ t h' tk co to ta, (∀ b o, b ≠ ca → s.heap.get? b = some o → h'.get? b = some o) → h'.get? ca = some co → h'.get? ta = some to → s.heap.get? ta = none → CallIs co to ta k1 k2 → Q (.bytes mr t) { s with heap := h', toks := tk }) →
    wpAny (model prog w) { handled := none, depth := dp, frames := fr, guards := gd, units := un } (call (.ref fm) [.bytes k1 t1, .bytes k2 t2]) Q E s

theorem digest_spec (w : World) (p : Program) (loose : List Str) (mean : ExcName → Option Value) (mg mb : Str → Option Value) (fm ca : Addr) (mr : Array UInt8) (H : Heap) (D U : Nat) (k1 k2 : Array UInt8) (t1 t2 : Tok) (co : Obj)
    (dp un : Nat) (fr : Option (List Env)) (gd : Option (List Code)) (s : Shared) (Q E : Value → Shared → Prop) (g : Heap)
    (T : Top p loose mean mg mb g) (hgs : ∀ b o, g.get? b = some o → s.heap.get? b = some o) (hca : s.heap.get? ca = some co ∧ g.get? ca = none)
    (hm : MacDoes PySem.Challenge.rw_jb0039_01.row.prog w fm ca mr H D U) (hH : ∀ b o, b ≠ 156 → H.get? b = some o → s.heap.get? b = some o) (hD : dp + 1 ≤ D) (hU : un + 3 ≤ U) (hmr : mr.size < 1000) (fo : Obj) (fd : FuncData) (hfm : s.heap.get? fm = some fo) (hfd : fo.data = .func fd) (hfc : fm ≠ ca)
    (hdp : dp + 5 < recursionLimit) (hu : un + 60 < cLine)
    (hQ : ∀ t h' tk co to ta, (∀ b o, b ≠ ca → s.heap.get? b = some o → h'.get? b = some o) → h'.get? ca = some co → h'.get? ta = some to → s.heap.get? ta = none → CallIs co to ta k1 k2 → Q (.bytes (KBy.picked mr none (some 4)) t) { s with heap := h', toks := tk }) :
    (hd.heap_39 w.params).In g → wpAny (model PySem.Challenge.rw_jb0039_01.row.prog w) { handled := none, depth := dp, frames := fr, guards := gd, units := un } (call (.ref 168) [.bytes k1 t1, .bytes k2 t2, .ref fm]) Q E s := by
  k_fill
  intro X
  refine wpAny_call ?_
  refine' callPM (f := 168) (led := [(ca, co)]) (binds := [(Str.ofString "random_data", .bytes k1 t1), (Str.ofString "shared_secret", .bytes k2 t2), (Str.ofString "hmac_sha256", .ref fm)]) X T hgs ?kl ?k6 ?k7 ?k8 ?k9 ?kB ?_ ?c2 ?c3 ?c4 ?c5
  case kl =>
    intro q hq
    rw [List.mem_singleton.mp hq]
    exact hca
  case k6 => k_is
  case k7 => k_is
  case k8 => ktr_room
  case k9 => exact BindsTo.of_eq rfl
  case c2 => rfl
  case c3 => rfl
  case c4 => rfl
  case c5 => decide
  case kB => exact locs rfl
  k_whole
  intro h₀ L h₁ hk0 hk1 hg0 hL F N X₀ T₀
  clear X T
  (try dsimp only)
  (try k_fold)
  have hfm₀ : h₀.get? fm = some fo := hk0 _ _ (fun q => hfc (List.mem_singleton.mp q)) hfm
  k_steps
  refine hm _ _ _ _ _ _ _ _ _ _ _ ?hd1 ?hu1 ?hh1 ?_
  case hd1 => exact hD
  case hu1 => exact hU
  case hh1 => 
    intro b o hb e
    have e1 := hH b o hb e
    by_cases hbc : b = ca
    · rw [hbc, hca.1] at e1
      cases e1
      rw [hbc]
      exact News.get (o := co) (by assumption) (by simp)
    · exact Fr.keep (by assumption) _ _ (hk0 b o (fun q => hbc (List.mem_singleton.mp q)) e1)
  intro t9 h9 tk9 co9 to9 ta9 k9 c9 a9 n9 i9
  have hcL : ca ≠ L := Nat.ne_of_lt (hL (ca, co) (.head _))
  have hc0 : h₀.get? ca = none := News.fresh N (.head _)
  have F9 := (⟨F.ns.at' fun o e => k9 L o hcL.symm e, fun b o e => k9 b o (fun q => by rw [q, hc0] at e; cases e) (F.keep b o e), F.above⟩ : Fr h₀ L h9 _)
  have hta0 : h₀.get? ta9 = none := by
    cases q : h₀.get? ta9 with
    | none => rfl
    | some o => have := F.keep _ _ q; rw [show h₁.get? ta9 = none from n9] at this; cases this
  have htaL : ta9 ≠ L := fun q => by
    obtain ⟨o, _, _, e, _⟩ := F.ns
    rw [q] at n9
    rw [show h₁.get? L = none from n9] at e
    cases e
  have N9 : News h₀ L h9 [(ta9, to9), (ca, co9)] := fun q hq => by
    simp only [List.mem_cons, List.not_mem_nil, or_false] at hq
    rcases hq with rfl | rfl
    · exact ⟨a9, htaL, hta0⟩
    · exact ⟨c9, hcL, hc0⟩
  have hfresh : s.heap.get? ta9 = none := by
    cases q : s.heap.get? ta9 with
    | none => rfl
    | some o =>
      by_cases hb : ta9 = ca
      · rw [hb] at n9
        have := (N (ca, co) (.head _)).1
        rw [show h₁.get? ca = none from n9] at this
        cases this
      · have := hk0 _ _ (fun z => hb (List.mem_singleton.mp z)) q
        rw [hta0] at this
        cases this
  clear F N k9 c9 a9 n9
  k_steps
  exact hQ _ _ _ co9 to9 ta9 (fun b o hb e => Fr.keep (by assumption) b o (hk0 b o (fun z => hb (List.mem_singleton.mp z)) e)) (News.get (o := co9) (by assumption) (by simp)) (News.get (o := to9) (by assumption) (by simp)) hfresh i9
end Mine
end
local macro_rules | `(tactic| walk_at "mine pad") => `(tactic| fail "mine pad")
theorem Mine.top_off_D2 : True := by
  w_top off
  trivial
section
open PySem PySem.W PySem.Calls PyProof.Rows
set_option maxRecDepth 100000
set_option maxHeartbeats 3000000
namespace Mine

theorem below_hide {A : Around} {base h : Heap} {outer : List Env} {ps : Array Value} (K : Below A base outer h) (hP : h.get? 156 = some (tabObj ps)) (hb : base.get? 156 = none) : Below A base outer (hideAll h [156]) := by
  refine ⟨K.stack, fun b o e => hideAll_get _ (K.stays b o e) fun q => ?_, K.frames.of_keeps fun b o e hd => ⟨o, hideAll_get _ e fun q => ?_, rfl⟩⟩
  · rw [List.mem_singleton.mp q, hb] at e; cases e
  · rw [List.mem_singleton.mp q, hP] at e
    cases e
    exact hd ps rfl
theorem interp_size {ds : Dat} {x : Int} {r : Array UInt8} (hds : ∀ d ∈ ds, 0 ≤ d.1 ∧ d.1 < 256 ∧ d.2.size < 1000) (h : interpP ds x = some r) : r.size < 1000 := by
  unfold interpP at h
  split at h
  · cases h
  · split at h
    · cases h
    · rename_i h2
      split at h
      · cases hf : ds.find? (fun d => d.1 == x) with
        | none => rw [hf] at h; cases h
        | some d =>
          rw [hf] at h
          cases h
          exact (hds d (List.mem_of_find?_eq_some hf)).2.2
      · cases h
        have h2' : oddS ds = false := by simpa using h2
        rw [resAt_size h2' _ (Nat.le_refl _)]
        exact (hds _ (at_mem (len_pos h2'))).2.2
/- frame and ledger behind a call that may change the table 156 -/
theorem tab_after {h₀ h h' : Heap} {L : Addr} {m : Str → Option Value} {news : List (Addr × Obj)} {g : Obj → List (Addr × Obj)} {ps ps' : Array Value} (F : Fr h₀ L h m) (N : News h₀ L h news) (U : UpdF 156 (tabObj ps) news g)
    (hk : ∀ b o, b ≠ 156 → h.get? b = some o → h'.get? b = some o) (hP : h'.get? 156 = some (tabObj ps')) : Fr h₀ L h' m ∧ News h₀ L h' (g (tabObj ps')) := tab_step F N U (fun b o hb e => hk b o hb e) hP


local macro_rules | `(tactic| walk_at "leaving ref") => `(tactic| (k_here; k_dflt (refine' leave_M ?K ?a ?b ?F ?N ?m ?x ?k ?_; (case K => k_asm); (case a => rfl); (case b => rfl); (case F => k_asm); (case N => k_asm); (case m => exact fun _ h => h); (case x => k_asm); (case k => k_asm)); intro h9 t9 R9))
theorem recover_spec (w : World) (p : Program) (loose : List Str) (mean : ExcName → Option Value) (mg mb : Str → Option Value) (l fm ca : Addr) (vs : List Value) (ds : Dat) (thr : Int) (tt : Tok) (ps : Array Value) (mr : Array UInt8) (H : Heap) (D U : Nat) (co fo : Obj) (fd : FuncData)
    (dp un : Nat) (fr : Option (List Env)) (gd : Option (List Code)) (s : Shared) (Q E : Value → Shared → Prop) (base g : Heap) (outer : List Env)
    (K : Below { handled := none, depth := dp, frames := fr, guards := gd, units := un } base outer g)
    (T : Top p loose mean mg mb g) (hgs : ∀ b o, g.get? b = some o → s.heap.get? b = some o) (hgP : g.get? 156 = none) (hP : s.heap.get? 156 = some (tabObj ps)) (hca : s.heap.get? ca = some co ∧ g.get? ca = none) (hc1 : ca ≠ 156) (ht : TriplesOk ps.toList)
    (hb : AllBare s.gens) (hl : g.IsList l vs.toArray) (hs : SharesAre g vs ds) (hds : ∀ d ∈ ds, 0 ≤ d.1 ∧ d.1 < 256 ∧ d.2.size < 1000) (hn : ds.length < 100) (hthr : thr = 1 → 0 < ds.length) (htb : 0 < thr ∧ thr < 100)
    (hm : MacDoes PySem.Challenge.rw_jb0039_01.row.prog w fm ca mr H D U) (hH : ∀ b o, b ≠ 156 → H.get? b = some o → s.heap.get? b = some o) (hD : dp + 2 ≤ D) (hU : un + 6 ≤ U) (hmr : mr.size < 1000) (hfm : g.get? fm = some fo) (hfd : fo.data = .func fd)
    (hdp : dp + 30 < recursionLimit) (hu : un + 300 < cLine)
    (hQ1 : thr = 1 → ∀ t h' tk, (∀ b o, s.heap.get? b = some o → h'.get? b = some o) → Q (.bytes (dAt ds 0) t) { s with heap := h', toks := tk })
    (hQ2 : ∀ sec dig, thr ≠ 1 → interpP ds 255 = some sec → interpP ds 254 = some dig → KBy.picked dig none (some 4) = KBy.picked mr none (some 4) → ∀ t h' gs d tk ps' co to ta, TriplesOk ps'.toList → AllBare gs →
      (∀ b o, b ≠ 156 → b ≠ ca → s.heap.get? b = some o → h'.get? b = some o) → h'.get? 156 = some (tabObj ps') → h'.get? ca = some co → h'.get? ta = some to → s.heap.get? ta = none → CallIs co to ta (KBy.picked dig (some 4) none) sec → Q (.bytes sec t) ⟨h', gs, d, tk, s.os⟩)
    (hE1 : thr ≠ 1 → interpP ds 255 = none ∨ interpP ds 254 = none → ∀ e t vs h' gs d tk ps', TriplesOk ps'.toList → AllBare gs → RaisedM base s.heap outer e t vs [(ca, co), (156, tabObj ps')] h' → E (.ref e) ⟨h', gs, d, tk, s.os⟩)
    (hE2 : ∀ sec dig, thr ≠ 1 → interpP ds 255 = some sec → interpP ds 254 = some dig → KBy.picked dig none (some 4) ≠ KBy.picked mr none (some 4) → ∀ e t vs h' gs d tk ps' co to ta, TriplesOk ps'.toList → AllBare gs → s.heap.get? ta = none →
      CallIs co to ta (KBy.picked dig (some 4) none) sec → RaisedM base s.heap outer e t vs [(ta, to), (ca, co), (156, tabObj ps')] h' → E (.ref e) ⟨h', gs, d, tk, s.os⟩) :
    (hd.heap_39 w.params).In g → wpAny (model PySem.Challenge.rw_jb0039_01.row.prog w) { handled := none, depth := dp, frames := fr, guards := gd, units := un } (call (.ref 175) [.int thr tt, .ref l, .ref fm]) Q E s := by
  k_fill
  intro X
  refine wpAny_call ?_
  refine' callPM (f := 175) (led := [(ca, co), (156, tabObj ps)]) (binds := [(Str.ofString "threshold", .int thr tt), (Str.ofString "shares", .ref l), (Str.ofString "hmac_sha256", .ref fm)]) X T hgs ?kl ?k6 ?k7 ?k8 ?k9 ?kB ?_ ?c2 ?c3 ?c4 ?c5
  case kl =>
    intro q hq
    simp only [List.mem_cons, List.not_mem_nil, or_false] at hq
    rcases hq with rfl | rfl
    · exact hca
    · exact ⟨hP, hgP⟩
  case k6 => k_is
  case k7 => k_is
  case k8 => ktr_room
  case k9 => exact BindsTo.of_eq rfl
  case c2 => rfl
  case c3 => rfl
  case c4 => rfl
  case c5 => decide
  case kB => exact locs rfl
  k_whole
  intro h₀ L h₁ hk0 hk1 hg0 hL F N X₀ T₀
  have hl₀ : h₀.IsList l vs.toArray := hl.at fun o e => hg0 l o e
  have hs₀ : SharesAre h₀ vs ds := hs.keeps hg0
  have hfm₀ : h₀.get? fm = some fo := hg0 _ _ hfm
  have K₀ : Below { handled := none, depth := dp, frames := fr, guards := gd, units := un } base outer h₀ := ⟨K.stack, fun b o e => hg0 b o (K.stays b o e), K.frames.of_keeps fun b o e _ => ⟨o, hg0 b o e, rfl⟩⟩
  have hb156 : base.get? 156 = none := by
    cases q : base.get? 156 with
    | none => rfl
    | some o => have := K.stays _ _ q; rw [hgP] at this; cases this
  have hL1 : @LT.lt Nat _ ca L := hL (ca, co) (.head _)
  have hL2 : @LT.lt Nat _ 156 L := hL (156, tabObj ps) (.tail _ (.head _))
  have hc1' : @Ne Nat ca 156 := hc1
  clear X T hl hs hfm hL
  (try dsimp only)
  (try k_fold)
  have h156 : h₀.get? 156 = none := News.fresh (o := tabObj ps) N (by simp)
  have hca0 : h₀.get? ca = none := News.fresh (o := co) N (by simp)
  k_steps
  · have hpos := hthr (by assumption)
    have hls := F.lst hl₀
    have hv : vs.toArray[0]? = some (vs[0]'(by rw [hs₀.1]; exact hpos)) := by simp
    obtain ⟨a, ta, ua, e0, hS⟩ := hs₀.2 0 _ (by rw [← List.getElem?_toArray]; exact hv)
    rw [e0] at hv
    refine tail_any hls.typeIs slot_list_getitem.lookup (wpAny_getItem_list (x := .ref a) hls (by decide) (by decide) hv ?_) (by with_unfolding_all rfl)
    k_steps
    refine hQ1 (by assumption) _ _ _ fun b o e => ?_
    by_cases h1 : b = ca
    · rw [h1, hca.1] at e
      cases e
      rw [h1]
      exact News.get (o := co) (by assumption) (by simp)
    · by_cases h2 : b = 156
      · rw [h2, hP] at e
        cases e
        rw [h2]
        exact News.get (o := tabObj ps) (by assumption) (by simp)
      · exact Fr.keep (by assumption) b o (hk0 b o (by simp [h1, h2]) e)
  · have hcaf : ∀ env : Env, env.frame = some L → ca ∉ (env :: outer).filterMap (·.frame) := fun env hfe hmm => by
      rcases mem_frames hfe hmm with z | z
      · exact absurd z (Nat.ne_of_lt hL1)
      · obtain ⟨o, ho, _⟩ := (K₀.frames.mem z).2
        rw [hca0] at ho; cases ho
    have KBA := fun (env : Env) (h1 : env.frame = some L) (h2 : env.scope.kind = .function) => pushX (env := env) K₀ F h1 h2
    refine interp_spec w p loose mean mg mb l vs ds 255 _ ps _ _ _ _ _ _ _ base (hideAll _ [156]) _ (below_hide (KBA _ rfl rfl) (News.get (o := tabObj ps) N (by simp)) hb156) (T₀.keeps (fun b o e => hideAll_get _ (Fr.keep F b o e) (fun q => by rw [List.mem_singleton.mp q, h156] at e; cases e)))
      (fun b o e => of_hideAll _ e) (hideAll_none _ (List.mem_singleton.mpr rfl)) (News.get (o := tabObj ps) N (by simp)) ht hb (Fr.lst F hl₀) (hs₀.keeps (Fr.keep F)) hds hn (by decide) ?roomA ?unitsA ?hQA ?hEA (X₀.keeps (Fr.keep F))
    case roomA => ktr_room
    case unitsA => ktr_units
    case hEA =>
      intro e9 t9 vs9 h9 gs9 d9 tk9 ps9 n9 ht9 G9 R9
      refine relay_M (sp' := [(ca, co), (156, tabObj ps9)]) K₀.stack rfl F R9.toM (fun b o hb e => hk0 b o (by simpa using hb) e) (fun b hb => by simp at hb ⊢; exact .inr hb) (fun q hq => ?_) fun h'' R'' => hE1 (by assumption) (.inl n9) _ _ _ _ _ _ _ _ ht9 G9 R''
      simp only [List.mem_cons, List.not_mem_nil, or_false] at hq
      rcases hq with rfl | rfl
      · exact .inr ⟨by simpa using hc1, News.get (o := co) N (by simp), hcaf _ rfl⟩
      · exact .inl (by simp)
    case hQA =>
      intro sec tsec h2 gs2 d2 tk2 ps2 hsec ht2 G2 k2 hP2
      obtain ⟨F2, N2⟩ := tab_after F N (by k_updF) k2 hP2
      clear F N k2 hP2
      k_steps
      rename_i F3 N3
      have KBB := fun (env : Env) (h1 : env.frame = some L) (h2 : env.scope.kind = .function) => pushX (env := env) K₀ F3 h1 h2
      refine interp_spec w p loose mean mg mb l vs ds 254 _ ps2 _ _ _ _ _ _ _ base (hideAll _ [156]) _ (below_hide (KBB _ rfl rfl) (News.get (o := tabObj ps2) N3 (by simp)) hb156) (T₀.keeps (fun b o e => hideAll_get _ (Fr.keep F3 b o e) (fun q => by rw [List.mem_singleton.mp q, h156] at e; cases e)))
        (fun b o e => of_hideAll _ e) (hideAll_none _ (List.mem_singleton.mpr rfl)) (News.get (o := tabObj ps2) N3 (by simp)) ht2 G2 (Fr.lst F3 hl₀) (hs₀.keeps (Fr.keep F3)) hds hn (by decide) ?roomB ?unitsB ?hQB ?hEB (X₀.keeps (Fr.keep F3))
      case roomB => ktr_room
      case unitsB => ktr_units
      case hEB =>
        intro e9 t9 vs9 h9 gs9 d9 tk9 ps9 n9 ht9 G9 R9
        refine relay_M (sp' := [(ca, co), (156, tabObj ps9)]) K₀.stack rfl F3 R9.toM (fun b o hb e => hk0 b o (by simpa using hb) e) (fun b hb => by simp at hb ⊢; exact .inr hb) (fun q hq => ?_) fun h'' R'' => hE1 (by assumption) (.inr n9) _ _ _ _ _ _ _ _ ht9 G9 R''
        simp only [List.mem_cons, List.not_mem_nil, or_false] at hq
        rcases hq with rfl | rfl
        · exact .inr ⟨by simpa using hc1, News.get (o := co) N3 (by simp), hcaf _ rfl⟩
        · exact .inl (by simp)
      case hQB =>
        intro dig tdig h4 gs4 d4 tk4 ps4 hdig ht4 G4 k4 hP4
        obtain ⟨F4, N4⟩ := tab_after F3 N3 (by k_updF) k4 hP4
        have hdsz := interp_size hds hdig
        clear F3 N3 k4 hP4
        k_steps
        rename_i F5 N5
        have hfc : fm ≠ ca := fun q => by rw [q, hca0] at hfm₀; cases hfm₀
        refine digest_spec w p loose mean mg mb fm ca mr H D U _ _ _ _ co _ _ _ _ _ _ _ h₀ T₀ (Fr.keep F5) ⟨News.get (o := co) N5 (by simp), hca0⟩ hm ?hH5 ?hD5 ?hU5 hmr fo fd (Fr.keep F5 _ _ hfm₀) hfd hfc ?room5 ?units5 ?_ X₀
        case hH5 =>
          intro b o hb e
          have e1 := hH b o hb e
          by_cases hbc : b = ca
          · rw [hbc, hca.1] at e1
            cases e1
            rw [hbc]
            exact News.get (o := co) N5 (by simp)
          · exact Fr.keep F5 _ _ (hk0 b o (by simp [hbc, hb]) e1)
        case hD5 => exact hD
        case hU5 => exact hU
        case room5 => ktr_room
        case units5 => ktr_units
        intro t6 h6 tk6 co6 to6 ta6 k6 c6 a6 n6 i6
        have hta0 : h₀.get? ta6 = none := by
          cases q : h₀.get? ta6 with
          | none => rfl
          | some o =>
            have e1 := Fr.keep F5 _ _ q
            rw [show Heap.get? _ ta6 = none from n6] at e1
            cases e1
        have htaL : ta6 ≠ L := fun q => by
          obtain ⟨o, _, _, e, _⟩ := F5.ns
          rw [q] at n6
          rw [show Heap.get? _ L = none from n6] at e
          cases e
        have hta156 : ta6 ≠ 156 := fun q => by
          have e := (N5 (156, tabObj ps4) (by simp)).1
          rw [q] at n6
          rw [show Heap.get? _ 156 = none from n6] at e
          cases e
        have htac : ta6 ≠ ca := fun q => by
          have e := (N5 (ca, co) (by simp)).1
          rw [q] at n6
          rw [show Heap.get? _ ca = none from n6] at e
          cases e
        have hts : s.heap.get? ta6 = none := by
          cases q : s.heap.get? ta6 with
          | none => rfl
          | some o =>
            have := hk0 _ _ (by simp [hta156, htac]) q
            rw [hta0] at this
            cases this
        have hcL : ca ≠ L := Nat.ne_of_lt hL1
        have F6 := (⟨F5.ns.at' fun o e => k6 L o hcL.symm e, fun b o e => k6 b o (fun q => by rw [q, hca0] at e; cases e) (F5.keep b o e), F5.above⟩ : Fr h₀ L h6 _)
        have N6 : News h₀ L h6 [(ta6, to6), (ca, co6), (156, tabObj ps4)] := fun q hq => by
          simp only [List.mem_cons, List.not_mem_nil, or_false] at hq
          rcases hq with rfl | rfl | rfl
          · exact ⟨a6, htaL, hta0⟩
          · exact ⟨c6, hcL, hca0⟩
          · have n := N5 (156, tabObj ps4) (by simp)
            exact ⟨k6 _ _ (fun q => hc1 q.symm) n.1, n.2⟩
        clear F5 N5 k6 c6 a6 n6
        have hk6 : ∀ b o, b ∉ [(ta6, to6), (ca, co6), (156, tabObj ps4)].map (·.1) → s.heap.get? b = some o → h₀.get? b = some o := fun b o hb e => hk0 b o (by simp at hb ⊢; exact hb.2) e
        k_steps
        · refine hE2 _ _ (by assumption) hsec hdig (fun q => ?_) _ _ _ _ _ _ _ _ _ _ _ ht4 G4 hts i6 (by assumption)
          have hne : ((KBy.picked dig none (some 4)).toList != (KBy.picked mr none (some 4)).toList) = true := by assumption
          rw [q] at hne
          simp at hne
        · have heq : ((KBy.picked dig none (some 4)).toList != (KBy.picked mr none (some 4)).toList) = false := by assumption
          refine hQ2 _ _ (by assumption) hsec hdig (Array.ext' (by simpa using heq)) _ _ _ _ _ _ _ _ _ ht4 G4 (fun b o h1 h2 e => ?_) (N6 (156, tabObj ps4) (by simp)).1 (N6 (ca, co6) (by simp)).1 (N6 (ta6, to6) (by simp)).1 hts i6
          exact Fr.keep F6 b o (hk0 b o (by simp [h1, h2]) e)
end Mine
end
end
end
theorem Mine.top_off_N16 : True := by
  w_top off
  trivial
section
open PySem PySem.W PySem.Calls PyProof.Rows PySem.W.KBw
open Sem (wp)
set_option maxRecDepth 100000
set_option maxHeartbeats 8000000
namespace Mine
/- the end that is asked of the law's walk: generators may have been made, the code tables may have grown -/
theorem end_G {M : Model} {A : Around} {cd : Code} {s s₁ : Shared} {cw : ClaimW} {cl : Str → Option Addr} {mean : ExcName → Option Value} {args : List WData} {tabs : List (Addr × Addr)} (hT : TabsAt tabs s₁.heap)
    (h : codeAny M A cd (fun r s' => (∃ v d as, r = .ok (.ret v) ∧ (∀ cls, cw.raises args cls = false) ∧ ReadsW cw.records cl s'.heap v d as ∧ cw.post args d args = true ∧ (cw.unshared = true → as.Nodup ∧ ∀ a ∈ as, (ghostOf s₁.heap tabs).get? a = none)) ∧
      (∀ b o, (ghostOf s₁.heap tabs).get? b = some o → s'.heap.get? b = some o) ∧ s'.os = s₁.os ∧ AllBare s'.gens ∧ GrownAll tabs s'.heap) s) : codeAny M A cd (GoodWG cw cl mean args s₁) s :=
  codeAny_mono h fun r s' ⟨hc, hk, hos, hg, hgr⟩ => by
    have keep : ∀ b o, b ∉ tabs.map (·.2) → s₁.heap.get? b = some o → s'.heap.get? b = some o := fun b o hb e => hk b o (ghost_ne e hb)
    have grown : ∀ b o, b ∈ tabs.map (·.2) → s₁.heap.get? b = some o → isCodeTable s₁.heap b ∧ o = tabObj #[] ∧ ∃ ps, s'.heap.get? b = some (tabObj ps) := fun b o hb e => by
      obtain ⟨q, hq, rfl⟩ := List.mem_map.mp hb
      have e2 := (hT q hq).2
      rw [e] at e2
      exact ⟨((hT q hq).1.tab (hT q hq).2).isCodeTable, Option.some.inj e2, hgr.get q hq⟩
    refine ⟨?_, ⟨fun b o e => ?_, fun b o e => ?_⟩, hos, hg⟩
    · obtain ⟨v, d, as, r1, r2, r3, r4, r5⟩ := hc
      refine .inl ⟨v, d, as, r1, r2, r3, r4, fun q => ⟨(r5 q).1, fun a ha => ?_⟩⟩
      cases q1 : s₁.heap.get? a with
      | none => rfl
      | some o =>
        by_cases hb : a ∈ tabs.map (·.2)
        · obtain ⟨_, _, ps, hP⟩ := grown a o hb q1
          exact absurd ha (readsW_apart hP rfl r3)
        · have e3 := (r5 q).2 a ha
          rw [show (ghostOf s₁.heap tabs).get? a = some o from ghost_ne q1 hb] at e3
          cases e3
    · by_cases hb : b ∈ tabs.map (·.2)
      · obtain ⟨ht, rfl, ps, hP⟩ := grown b o hb e
        exact .inr (.inl ⟨ht, rfl, #[], ps, rfl, by rw [Array.empty_append]; exact hP⟩)
      · exact .inl (keep b o hb e)
    · by_cases hb : b ∈ tabs.map (·.2)
      · obtain ⟨_, _, ps, hP⟩ := grown b o hb e
        exact ⟨_, hP⟩
      · exact ⟨o, keep b o hb e⟩
end Mine
end
theorem Mine.top_off_P1 : True := by
  w_top off
  trivial
section
set_option maxRecDepth 100000
set_option maxHeartbeats 4000000
namespace Mine
/-! the plain law: the lanes byte by byte -/
theorem ones_bitk (k : Nat) : ones.testBit k = decide (k % 8 = 0 ∧ k < 56) := by
  by_cases h : k < 56
  · have hall : ((List.range 56).all fun k => ones.testBit k == decide (k % 8 = 0 ∧ k < 56)) = true := by decide +kernel
    exact eq_of_beq (List.all_eq_true.mp hall k (List.mem_range.mpr h))
  · have : ones < 2 ^ k := Nat.lt_of_lt_of_le (show ones < 2 ^ 56 by decide) (Nat.pow_le_pow_right (by decide) (by omega))
    rw [Nat.testBit_lt_two_pow this]
    symm
    simp
    omega
noncomputable def tops (l : Nat) : Nat := (l >>> 7) &&& ones
theorem tops_bit (l k : Nat) : (tops l).testBit k = (l.testBit (k + 7) && decide (k % 8 = 0 ∧ k < 56)) := by
  unfold tops
  rw [Nat.testBit_and, Nat.testBit_shiftRight, ones_bitk, Nat.add_comm]
theorem add_xor {a b : Nat} (h : a &&& b = 0) : a + b = a ^^^ b := by
  have := xor_add a b
  rw [h] at this
  omega
theorem and_zero {a b : Nat} (h : ∀ k, a.testBit k = true → b.testBit k = true → False) : a &&& b = 0 := by
  apply Nat.eq_of_testBit_eq
  intro k
  rw [Nat.testBit_and, Nat.zero_testBit]
  cases ha : a.testBit k <;> cases hb : b.testBit k <;> simp
  exact h k ha hb
theorem same8 {k n c : Nat} (h1 : n ≤ k) (h2 : (k - n) % 8 = 0) (h3 : c ≤ k) (h4 : (k - c) % 8 = 0) : n % 8 = c % 8 := by omega
theorem tops27 (l : Nat) : tops l * 27 = tops l ^^^ (tops l <<< 1) ^^^ (tops l <<< 3) ^^^ (tops l <<< 4) := by
  have e : tops l * 27 = tops l + (tops l <<< 1) + (tops l <<< 3) + (tops l <<< 4) := by
    simp only [Nat.shiftLeft_eq]
    omega
  have m : ∀ k, (tops l).testBit k = true → k % 8 = 0 := fun k h => by
    rw [tops_bit] at h
    simp at h
    exact h.2.1
  have sh : ∀ n k, (tops l <<< n).testBit k = true → n ≤ k ∧ (k - n) % 8 = 0 := fun n k h => by
    rw [Nat.testBit_shiftLeft] at h
    simp at h
    exact ⟨h.1, m _ h.2⟩
  have a1 : tops l &&& (tops l <<< 1) = 0 := and_zero fun k h1 h2 => by
    exact absurd (same8 (Nat.zero_le k) (m k h1) (sh 1 k h2).1 (sh 1 k h2).2) (by decide)
  have a2 : (tops l ^^^ (tops l <<< 1)) &&& (tops l <<< 3) = 0 := and_zero fun k h1 h2 => by
    have g := sh 3 k h2
    rw [Nat.testBit_xor] at h1
    cases hx : (tops l).testBit k <;> cases hy : (tops l <<< 1).testBit k <;> rw [hx, hy] at h1 <;> simp at h1
    · exact absurd (same8 (sh 1 k hy).1 (sh 1 k hy).2 g.1 g.2) (by decide)
    · exact absurd (same8 (Nat.zero_le k) (m k hx) g.1 g.2) (by decide)
  have a3 : (tops l ^^^ (tops l <<< 1) ^^^ (tops l <<< 3)) &&& (tops l <<< 4) = 0 := and_zero fun k h1 h2 => by
    have g := sh 4 k h2
    rw [Nat.testBit_xor, Nat.testBit_xor] at h1
    cases hx : (tops l).testBit k
    · cases hy : (tops l <<< 1).testBit k
      · cases hz : (tops l <<< 3).testBit k
        · rw [hx, hy, hz] at h1; simp at h1
        · exact absurd (same8 (sh 3 k hz).1 (sh 3 k hz).2 g.1 g.2) (by decide)
      · exact absurd (same8 (sh 1 k hy).1 (sh 1 k hy).2 g.1 g.2) (by decide)
    · exact absurd (same8 (Nat.zero_le k) (m k hx) g.1 g.2) (by decide)
  rw [e, add_xor a1, add_xor a2, add_xor a3]
theorem dbl_tops (l : Nat) : dbl l = ((l ^^^ (tops l <<< 7)) <<< 1) ^^^ (tops l * 27) := rfl
theorem top_c (l i j c : Nat) (hi : i < 7) (hj : j < 8) (hc : c < 8) : (decide (8 * i + j ≥ c) && (l.testBit (8 * i + j - c + 7) && decide ((8 * i + j - c) % 8 = 0 ∧ 8 * i + j - c < 56))) = (decide (j = c) && l.testBit (8 * i + 7)) := by
  by_cases h : j = c
  · subst h
    have e : 8 * i + j - j = 8 * i := Nat.add_sub_cancel ..
    rw [e, decide_eq_true (show 8 * i + j ≥ j by omega), decide_eq_true (show 8 * i % 8 = 0 ∧ 8 * i < 56 by omega), decide_eq_true rfl, Bool.true_and, Bool.true_and, Bool.and_true]
  · rw [decide_eq_false h, Bool.false_and]
    by_cases g : 8 * i + j ≥ c
    · rw [decide_eq_false (show ¬ ((8 * i + j - c) % 8 = 0 ∧ 8 * i + j - c < 56) by omega), Bool.and_false, Bool.and_false]
    · rw [decide_eq_false g, Bool.false_and]
theorem top_8 (l i j : Nat) (hi : i < 7) (hj : j < 8) : (decide (8 * i + j ≥ 1) && (l.testBit (8 * i + j - 1) ^^ (decide (8 * i + j - 1 ≥ 7) && (l.testBit (8 * i + j - 1 - 7 + 7) && decide ((8 * i + j - 1 - 7) % 8 = 0 ∧ 8 * i + j - 1 - 7 < 56))))) = (decide (1 ≤ j) && l.testBit (8 * i + j - 1)) := by
  cases j with
  | zero =>
    rw [decide_eq_false (by decide : ¬ 1 ≤ 0), Bool.false_and]
    cases i with
    | zero => rfl
    | succ k =>
      show (decide (8 * k + 8 ≥ 1) && (l.testBit (8 * k + 7) ^^ (decide (8 * k + 7 ≥ 7) && (l.testBit (8 * k + 7 - 7 + 7) && decide ((8 * k + 7 - 7) % 8 = 0 ∧ 8 * k + 7 - 7 < 56))))) = false
      rw [top_c l k 7 7 (by omega) (by decide) (by decide), decide_eq_true rfl, Bool.true_and, Bool.xor_self, Bool.and_false]
  | succ m =>
    show (decide (8 * i + m + 1 ≥ 1) && (l.testBit (8 * i + m) ^^ (decide (8 * i + m ≥ 7) && (l.testBit (8 * i + m - 7 + 7) && decide ((8 * i + m - 7) % 8 = 0 ∧ 8 * i + m - 7 < 56))))) = (decide (1 ≤ m + 1) && l.testBit (8 * i + m))
    rw [top_c l i m 7 hi (by omega) (by decide), decide_eq_false (show ¬ m = 7 by omega), Bool.false_and, Bool.xor_false, decide_eq_true (Nat.le_add_left 1 _), decide_eq_true (Nat.le_add_left 1 m)]
theorem four_bits : ∀ j < 8, ∀ b : Bool, ((decide (j = 0) && b) ^^ (decide (j = 1) && b) ^^ (decide (j = 3) && b) ^^ (decide (j = 4) && b)) = ((j == 0 || j == 1 || j == 3 || j == 4) && b) := by decide
theorem dbl_bit (l i j : Nat) (hi : i < 7) (hj : j < 8) : (dbl l).testBit (8 * i + j) = ((decide (1 ≤ j) && l.testBit (8 * i + j - 1)) ^^ ((j == 0 || j == 1 || j == 3 || j == 4) && l.testBit (8 * i + 7))) := by
  have T : ∀ k, (tops l).testBit k = (l.testBit (k + 7) && decide (k % 8 = 0 ∧ k < 56)) := tops_bit l
  have Z : (l.testBit (8 * i + j + 7) && decide ((8 * i + j) % 8 = 0 ∧ 8 * i + j < 56)) = (decide (j = 0) && l.testBit (8 * i + 7)) := top_c l i j 0 hi hj (by decide)
  rw [dbl_tops, tops27]
  simp only [Nat.testBit_xor, Nat.testBit_shiftLeft, T]
  rw [top_8 l i j hi hj, top_c l i j 1 hi hj (by decide), top_c l i j 3 hi hj (by decide), top_c l i j 4 hi hj (by decide), Z, four_bits j hj]
end Mine
end
theorem Mine.top_off_P2 : True := by
  w_top off
  trivial
section
set_option maxRecDepth 100000
set_option maxHeartbeats 4000000
namespace Mine
noncomputable def byteAt (i l : Nat) : Nat := (l >>> (8 * i)) % 256
theorem byteAt_lt (i l : Nat) : byteAt i l < 256 := Nat.mod_lt _ (by decide)
theorem byteAt_bit (i l j : Nat) : (byteAt i l).testBit j = (decide (j < 8) && l.testBit (8 * i + j)) := by
  unfold byteAt
  rw [show (256 : Nat) = 2 ^ 8 from rfl, Nat.testBit_mod_two_pow, Nat.testBit_shiftRight]
theorem byteAt_xor (i a b : Nat) : byteAt i (a ^^^ b) = byteAt i a ^^^ byteAt i b := by
  apply Nat.eq_of_testBit_eq
  intro j
  rw [Nat.testBit_xor, byteAt_bit, byteAt_bit, byteAt_bit, Nat.testBit_xor]
  cases decide (j < 8) <;> simp
theorem byteAt_dbl {i : Nat} (l : Nat) (hi : i < 7) : byteAt i (dbl l) = dbl (byteAt i l) := by
  have hs := dbl_small (byteAt i l) (byteAt_lt i l)
  apply Nat.eq_of_testBit_eq
  intro j
  rw [byteAt_bit]
  by_cases hj : j < 8
  · rw [dbl_bit l i j hi hj]
    have h0 := dbl_bit (byteAt i l) 0 j (by decide) hj
    rw [show 8 * 0 + j = j by omega, show 8 * 0 + 7 = 7 by omega] at h0
    rw [h0, byteAt_bit, byteAt_bit]
    have e : decide (j - 1 < 8) = true := by simp; omega
    rw [e]
    simp only [decide_eq_true hj, Bool.true_and]
    by_cases h1 : 1 ≤ j
    · rw [show 8 * i + (j - 1) = 8 * i + j - 1 by omega]
      simp
    · simp [h1]
  · have : (dbl (byteAt i l)).testBit j = false := Nat.testBit_lt_two_pow (Nat.lt_of_lt_of_le hs (show 2 ^ 8 ≤ 2 ^ j from Nat.pow_le_pow_right (by decide) (by omega)))
    rw [this]
    simp [hj]
theorem byteAt_zero (i : Nat) : byteAt i 0 = 0 := by unfold byteAt; simp
theorem byteAt_tm {i : Nat} (hi : i < 7) : ∀ (f l : Nat), byteAt i (tm l f) = tm (byteAt i l) f := by
  intro f
  induction f using Nat.strongRecOn with
  | _ f ih =>
    intro l
    by_cases hf : f = 0
    · subst hf; rw [tm_zero, tm_zero, byteAt_zero]
    · rw [tm_step (l := l) hf, tm_step (l := byteAt i l) hf, byteAt_xor, ih (f / 2) (by omega) (dbl l), byteAt_dbl l hi]
      split
      · rfl
      · rw [byteAt_zero]
end Mine
end
theorem Mine.top_off_P3 : True := by
  w_top off
  trivial
section
set_option maxRecDepth 100000
set_option maxHeartbeats 4000000
namespace Mine
theorem xor_small {a b : Nat} (ha : a < 256) (hb : b < 256) : a ^^^ b < 256 := Nat.xor_lt_two_pow (n := 8) ha hb
theorem dbl_xor {a b : Nat} (ha : a < 256) (hb : b < 256) : dbl (a ^^^ b) = dbl a ^^^ dbl b := by
  have hab := xor_small ha hb
  apply Nat.eq_of_testBit_eq
  intro j
  rw [Nat.testBit_xor]
  by_cases hj : j < 8
  · have h1 := dbl_bit (a ^^^ b) 0 j (by decide) hj
    have h2 := dbl_bit a 0 j (by decide) hj
    have h3 := dbl_bit b 0 j (by decide) hj
    rw [show 8 * 0 + j = j by omega] at h1 h2 h3
    rw [h1, h2, h3, Nat.testBit_xor, Nat.testBit_xor]
    cases decide (1 ≤ j) <;> cases (j == 0 || j == 1 || j == 3 || j == 4) <;> cases a.testBit (j - 1) <;> cases b.testBit (j - 1) <;> cases a.testBit (8 * 0 + 7) <;> cases b.testBit (8 * 0 + 7) <;> rfl
  · have le : (2 : Nat) ^ 8 ≤ 2 ^ j := Nat.pow_le_pow_right (by decide) (by omega)
    rw [Nat.testBit_lt_two_pow (Nat.lt_of_lt_of_le (dbl_small _ hab) le), Nat.testBit_lt_two_pow (Nat.lt_of_lt_of_le (dbl_small _ ha) le), Nat.testBit_lt_two_pow (Nat.lt_of_lt_of_le (dbl_small _ hb) le)]
    rfl
theorem dbl_zero : dbl 0 = 0 := by decide
theorem tm_dbl : ∀ (f a : Nat), a < 256 → tm (dbl a) f = dbl (tm a f) := by
  intro f
  induction f using Nat.strongRecOn with
  | _ f ih =>
    intro a ha
    by_cases hf : f = 0
    · subst hf; rw [tm_zero, tm_zero, dbl_zero]
    · rw [tm_step (l := dbl a) hf, tm_step (l := a) hf, ih (f / 2) (by omega) (dbl a) (dbl_small _ ha)]
      rw [dbl_xor (by split; exact ha; decide) (tm_small (dbl_small _ ha) _)]
      split
      · rfl
      · rw [dbl_zero]
theorem tm_xor_l : ∀ (f a b : Nat), a < 256 → b < 256 → tm (a ^^^ b) f = tm a f ^^^ tm b f := by
  intro f
  induction f using Nat.strongRecOn with
  | _ f ih =>
    intro a b ha hb
    by_cases hf : f = 0
    · subst hf; rw [tm_zero, tm_zero, tm_zero]; rfl
    · rw [tm_step (l := a ^^^ b) hf, tm_step (l := a) hf, tm_step (l := b) hf, dbl_xor ha hb, ih (f / 2) (by omega) _ _ (dbl_small _ ha) (dbl_small _ hb)]
      split
      · rw [Nat.xor_assoc, Nat.xor_assoc, ← Nat.xor_assoc b, ← Nat.xor_assoc (tm (dbl a) (f / 2)), Nat.xor_comm b]
      · simp
theorem mul3_eq : ∀ a, a < 256 → mul3 a = a ^^^ dbl a := by decide +kernel
theorem tm_mul3 {a : Nat} (f : Nat) (ha : a < 256) : tm (mul3 a) f = mul3 (tm a f) := by
  rw [mul3_eq a ha, mul3_eq _ (tm_small ha f), tm_xor_l f a (dbl a) ha (dbl_small _ ha), tm_dbl f a ha]
theorem tm_one : ∀ f, f < 256 → tm 1 f = f := by
  have hall : ((List.range 256).all fun f => tm 1 f == f) = true := by decide +kernel
  exact fun f hf => eq_of_beq (List.all_eq_true.mp hall f (List.mem_range.mpr hf))
noncomputable def exN (n : Nat) : Nat := exL.getD (n % 255) 0
theorem exN_lt (n : Nat) : exN n < 256 := by
  have hall : ((List.range 255).all fun n => decide (exL.getD n 0 < 256)) = true := by decide +kernel
  exact of_decide_eq_true (List.all_eq_true.mp hall (n % 255) (List.mem_range.mpr (Nat.mod_lt _ (by decide))))
theorem exN_succ (n : Nat) : exN (n + 1) = mul3 (exN n) := by
  have hall : ((List.range 255).all fun n => exL.getD ((n + 1) % 255) 0 == mul3 (exL.getD n 0)) = true := by decide +kernel
  have := eq_of_beq (List.all_eq_true.mp hall (n % 255) (List.mem_range.mpr (Nat.mod_lt _ (by decide))))
  unfold exN
  rw [← this]
  congr 1
  omega
theorem exN_zero : exN 0 = 1 := by decide
theorem gm_ex : ∀ (i j : Nat), tm (exN i) (exN j) = exN (i + j)
  | 0, j => by rw [exN_zero, tm_one _ (exN_lt j), Nat.zero_add]
  | i + 1, j => by rw [exN_succ, tm_mul3 _ (exN_lt i), gm_ex i j, ← exN_succ, show i + j + 1 = i + 1 + j by omega]
theorem ex_lg {a : Nat} (h0 : a ≠ 0) (h : a < 256) : exN (lgL.getD a 0) = a := by
  have hall : ((List.range 256).all fun a => a == 0 || exN (lgL.getD a 0) == a) = true := by decide +kernel
  have := List.all_eq_true.mp hall a (List.mem_range.mpr h)
  simp [h0] at this
  exact this
end Mine
end
theorem Mine.top_off_P4 : True := by
  w_top off
  trivial
section
set_option maxRecDepth 100000
set_option maxHeartbeats 4000000
namespace Mine
theorem tm_zero_l : ∀ f, tm 0 f = 0 := by
  intro f
  induction f using Nat.strongRecOn with
  | _ f ih =>
    by_cases hf : f = 0
    · subst hf; rw [tm_zero]
    · rw [tm_step hf, dbl_zero, ih (f / 2) (by omega)]
      split <;> rfl
/- the step's table look-up is the field's product -/
theorem look_tm {v : Nat} (b : Nat) (h : v < 256) : (if v ≠ 0 then exN (lgL.getD v 0 + b) else 0) = tm v (exN b) := by
  by_cases h0 : v = 0
  · subst h0; rw [tm_zero_l]; rfl
  · rw [if_pos h0]
    conv => rhs; rw [← ex_lg h0 h]
    rw [gm_ex]
theorem exN_mod (n : Nat) : exN (n % 255) = exN n := by unfold exN; rw [Nat.mod_mod]
theorem inv_ex (i : Nat) (hi : i < 255) : invI ((exN i : Nat) : Int) = ((exN (255 - i) : Nat) : Int) := by
  have hall : ((List.range 255).all fun i => invI ((exN i : Nat) : Int) == ((exN (255 - i) : Nat) : Int)) = true := by decide +kernel
  exact eq_of_beq (List.all_eq_true.mp hall i (List.mem_range.mpr hi))
end Mine
end
theorem Mine.top_off_P5 : True := by
  w_top off
  trivial
section
set_option maxRecDepth 100000
set_option maxHeartbeats 4000000
namespace Mine
noncomputable def prodN (x : Nat) (ps : List Nat) : Nat := ps.foldl (fun t p => tm t (x ^^^ p)) 1
theorem prodI_nat (x : Nat) (ps : List Nat) : prodI (x : Int) (ps.map fun (p : Nat) => (p : Int)) = ((prodN x ps : Nat) : Int) := by
  unfold prodI prodN
  rw [List.foldl_map]
  have : ∀ (ps : List Nat) (t : Nat), ps.foldl (fun (t : Int) (p : Nat) => tmI t (PySem.Builtin.bitXor (x : Int) (p : Int))) (t : Int) = ((ps.foldl (fun t p => tm t (x ^^^ p)) t : Nat) : Int) := by
    intro ps
    induction ps with
    | nil => intro t; rfl
    | cons p r ih =>
      intro t
      rw [List.foldl_cons, List.foldl_cons, ← ih]
      congr 1
      rw [xor_nat]
      rfl
  exact this ps 1
theorem xor_ne {a b : Nat} (h : a ≠ b) : a ^^^ b ≠ 0 := fun q => h (by have := congrArg (· ^^^ b) q; simpa [Nat.xor_assoc] using this)
theorem prodN_ex {x : Nat} (hx : x < 256) : ∀ (ps : List Nat), (∀ p ∈ ps, p < 256 ∧ x ≠ p) → prodN x ps = exN ((ps.map fun p => lgL.getD (x ^^^ p) 0).sum) := by
  have gen : ∀ (ps : List Nat) (n : Nat), (∀ p ∈ ps, p < 256 ∧ x ≠ p) → ps.foldl (fun t p => tm t (x ^^^ p)) (exN n) = exN (n + (ps.map fun p => lgL.getD (x ^^^ p) 0).sum) := by
    intro ps
    induction ps with
    | nil => intro n _; simp
    | cons p r ih =>
      intro n h
      have hp := h p (.head _)
      rw [List.foldl_cons]
      have e := ex_lg (xor_ne hp.2) (xor_small hx hp.1)
      conv => lhs; rw [← e]
      rw [gm_ex]
      have := ih (n + lgL.getD (x ^^^ p) 0) (fun q hq => h q (.tail _ hq))
      rw [e] at *
      rw [this]
      simp [Nat.add_assoc]
  intro ps h
  have := gen ps 0 h
  rw [exN_zero, Nat.zero_add] at this
  exact this
end Mine
end
theorem Mine.top_off_P6 : True := by
  w_top off
  trivial
section
set_option maxRecDepth 100000
set_option maxHeartbeats 4000000
namespace Mine
theorem exI_fmod (k : Nat) : exI ((k : Int).fmod 255) = ((exN k : Nat) : Int) := by
  unfold exI exN
  rw [Int.fmod_eq_emod_of_nonneg _ (by decide)]
  congr 2
theorem stepByte_tm (v r : UInt8) (b : Nat) : stepByte v r (b : Int) = ((r.toNat ^^^ tm v.toNat (exN b) : Nat) : Int) := by
  unfold stepByte
  rw [← look_tm b v.toNat_lt]
  by_cases h : v.toNat = 0
  · rw [if_neg (by simp [h]), if_neg (by simp [h]), show (0 : Int) = ((0 : Nat) : Int) from rfl, xor_nat]
  · rw [if_pos (by omega), if_pos h]
    rw [show lgI (v.toNat : Int) + (b : Int) = ((lgL.getD v.toNat 0 + b : Nat) : Int) by unfold lgI; simp, exI_fmod, xor_nat]
end Mine
end
theorem Mine.top_off_P7 : True := by
  w_top off
  trivial
section
set_option maxRecDepth 100000
set_option maxHeartbeats 4000000
namespace Mine
theorem exN_congr {a b : Nat} (h : a % 255 = b % 255) : exN a = exN b := by unfold exN; rw [h]
/- the coefficient by logarithms: T the sum of the distances' logarithms at the share's own place, S of all at x, l its own at x -/
theorem coeff {T S l b : Nat} (v : Nat) (hl : l ≤ S) (hb : (b + T + l) % 255 = S % 255) : exN (v + b) = exN ((v + (255 - T % 255)) + (S - l)) :=
  exN_congr (by omega)
theorem lbe_nat {S l T : Nat} : ∃ b : Nat, ((S : Int) - (l : Int) - (T : Int)).fmod 255 = (b : Int) ∧ (b + T + l) % 255 = S % 255 := by
  rw [Int.fmod_eq_emod_of_nonneg _ (by decide)]
  refine ⟨(((S : Int) - (l : Int) - (T : Int)) % 255).toNat, by omega, by omega⟩
end Mine
end
theorem Mine.top_off_P8 : True := by
  w_top off
  trivial
section
open PySem.W.KTBy
set_option maxRecDepth 100000
set_option maxHeartbeats 2000000
namespace Mine
theorem little_get : ∀ (n : Nat) (x : Nat) (i : Nat), i < n → (little n (x : Int))[i]? = some ((byteAt i x : Nat) : Int)
  | n + 1, x, 0, _ => by
    simp only [little, byteAt]
    simp
  | n + 1, x, i + 1, h => by
    simp only [little, List.getElem?_cons_succ]
    have e : ((x : Int) / 256) = ((x / 256 : Nat) : Int) := by simp
    rw [e, little_get n (x / 256) i (by omega)]
    unfold byteAt
    rw [show 8 * (i + 1) = 8 + 8 * i by omega, Nat.shiftRight_add, Nat.shiftRight_eq_div_pow x 8]
end Mine
end
theorem Mine.top_off_P9 : True := by
  w_top off
  trivial
section
open PySem.W PySem.W.KTBy
set_option maxRecDepth 100000
set_option maxHeartbeats 2000000
namespace Mine
theorem sum_others (f : Nat → Nat) : ∀ (l : List Nat) (k : Nat), k < l.length → ((l.take k ++ l.drop (k + 1)).map f).sum + f (l.getD k 0) = (l.map f).sum
  | a :: r, 0, _ => by simp [Nat.add_comm]
  | a :: r, k + 1, h => by
    have := sum_others f r k (by simpa using h)
    simp only [List.take_succ_cons, List.drop_succ_cons, List.cons_append, List.map_cons, List.sum_cons, List.getD_cons_succ]
    omega
theorem preSum_nat (f : Nat → Nat) : ∀ n, PySem.preSum (fun j => ((f j : Nat) : Int)) n = ((((List.range n).map f).sum : Nat) : Int)
  | 0 => rfl
  | n + 1 => by
    rw [show PySem.preSum (fun j => ((f j : Nat) : Int)) (n + 1) = PySem.preSum (fun j => ((f j : Nat) : Int)) n + ((f n : Nat) : Int) from rfl, preSum_nat f n, List.range_succ]
    simp
theorem preSum_congr {f g : Nat → Int} : ∀ n, (∀ j, j < n → f j = g j) → PySem.preSum f n = PySem.preSum g n
  | 0, _ => rfl
  | n + 1, h => by
    show PySem.preSum f n + f n = PySem.preSum g n + g n
    rw [preSum_congr n fun j hj => h j (by omega), h n (by omega)]
theorem prod_zero_l (x : Nat) : ∀ ps : List Nat, ps.foldl (fun t p => tm t (x ^^^ p)) 0 = 0
  | [] => rfl
  | p :: r => by rw [List.foldl_cons, tm_zero_l, prod_zero_l x r]
theorem prodN_zero {x : Nat} : ∀ (ps : List Nat) (t : Nat), x ∈ ps → ps.foldl (fun t p => tm t (x ^^^ p)) t = 0
  | p :: r, t, h => by
    rw [List.foldl_cons]
    rcases List.mem_cons.mp h with rfl | h
    · rw [Nat.xor_self, tm_zero, prod_zero_l]
    · exact prodN_zero r _ h
/- the octets of a number, the greatest first -/
noncomputable def bytesA (X sz : Nat) : Array UInt8 := ((List.range sz).map fun i => UInt8.ofNat (byteAt (sz - 1 - i) X)).toArray
theorem bytesA_size (X sz : Nat) : (bytesA X sz).size = sz := by simp [bytesA]
theorem bytesA_get {X sz k : Nat} (h : k < sz) : (bytesA X sz).getD k 0 = UInt8.ofNat (byteAt (sz - 1 - k) X) := by
  rw [Array.getD_eq_getD_getElem?]
  simp [bytesA, h]
theorem bytesA_congr {X Y sz : Nat} (h : ∀ j, j < sz → byteAt j X = byteAt j Y) : bytesA X sz = bytesA Y sz := by
  unfold bytesA
  congr 1
  refine List.map_congr_left fun i hi => ?_
  rw [h _ (by have := List.mem_range.mp hi; omega)]
theorem byteAt_mod {i n : Nat} (X : Nat) (h : i < n) : byteAt i (X % 256 ^ n) = byteAt i X := by
  apply Nat.eq_of_testBit_eq
  intro j
  rw [byteAt_bit, byteAt_bit]
  by_cases hj : j < 8
  · rw [show (256 : Nat) ^ n = 2 ^ (8 * n) by rw [Nat.pow_mul], Nat.testBit_mod_two_pow, decide_eq_true (show 8 * i + j < 8 * n by omega), Bool.true_and]
  · simp [hj]
theorem octA_nat (X sz : Nat) : octA (X : Int) (sz : Int) = bytesA X sz := by
  unfold octA octL bytesA
  have e1 : ((sz : Int)).toNat = sz := Int.toNat_natCast sz
  rw [e1]
  have e2 : (X : Int).fmod (256 ^ sz) = ((X % 256 ^ sz : Nat) : Int) := by
    rw [Int.fmod_eq_emod_of_nonneg _ (Int.le_of_lt (Int.pow_pos (by decide)))]
    simp
  rw [e2]
  congr 1
  apply List.ext_getElem?
  intro i
  by_cases hi : i < sz
  · have hl : (little sz ((X % 256 ^ sz : Nat) : Int)).length = sz := little_length _ _
    rw [List.getElem?_map, List.getElem?_reverse (by rw [hl]; exact hi), hl, little_get sz (X % 256 ^ sz) (sz - 1 - i) (by omega), List.getElem?_map, List.getElem?_range hi, byteAt_mod X (by omega)]
    simp
  · rw [List.getElem?_eq_none (by simp [little_length]; omega), List.getElem?_eq_none (by simp; omega)]
theorem ofNat_toNat {b : Nat} (h : b < 256) : (UInt8.ofNat b).toNat = b := by simp; omega
theorem stepRes_bytes (V R b : Nat) {sz : Nat} (h : sz ≤ 7) : stepRes (bytesA V sz) (bytesA R sz) (b : Int) = bytesA (R ^^^ tm V (exN b)) sz := by
  unfold stepRes
  rw [bytesA_size]
  show ((firstN _ sz).map _).toArray = _
  unfold firstN bytesA
  rw [List.map_map]
  congr 1
  refine List.map_congr_left fun i hi => ?_
  have hi' := List.mem_range.mp hi
  show (stepByte ((bytesA V sz).getD i 0) ((bytesA R sz).getD i 0) (b : Int)).toNat.toUInt8 = _
  rw [bytesA_get hi', bytesA_get hi', stepByte_tm, ofNat_toNat (byteAt_lt _ _), ofNat_toNat (byteAt_lt _ _), byteAt_xor, byteAt_tm (by omega)]
  rfl
end Mine
end
theorem Mine.top_off_P10 : True := by
  w_top off
  trivial
section
open PySem.W PySem.W.KTBy
set_option maxRecDepth 100000
set_option maxHeartbeats 2000000
namespace Mine
noncomputable abbrev lgN (a : Nat) : Nat := lgL.getD a 0
theorem lgN_zero : lgN 0 = 0 := by decide +kernel
section
variable (n : Nat) (px pv : Nat → Nat)
/- the places; the others of the k-th -/
noncomputable def plN : List Nat := (List.range n).map px
noncomputable def othN (k : Nat) : List Nat := (plN n px).take k ++ (plN n px).drop (k + 1)
noncomputable def dstN (x : Nat) : Nat := ((plN n px).map fun p => lgN (p ^^^ x)).sum
/- the law's sum after k shares -/
noncomputable def accN (x : Nat) : Nat → Nat
  | 0 => 0
  | k + 1 => accN x k ^^^ tm (tm (pv k) (exN (255 - dstN n px (px k) % 255))) (prodN x (othN n px k))
variable {n px pv}
theorem plN_len : (plN n px).length = n := by simp [plN]
theorem plN_getD {k : Nat} (h : k < n) : (plN n px).getD k 0 = px k := by
  unfold plN
  rw [List.getD_eq_getElem?_getD, List.getElem?_map, List.getElem?_range h]
  rfl
theorem plN_mem {p : Nat} : p ∈ plN n px ↔ ∃ j, j < n ∧ px j = p := by
  unfold plN
  rw [List.mem_map]
  exact ⟨fun ⟨j, hj, e⟩ => ⟨j, List.mem_range.mp hj, e⟩, fun ⟨j, hj, e⟩ => ⟨j, List.mem_range.mpr hj, e⟩⟩
theorem othN_sub {k p : Nat} (h : p ∈ othN n px k) : ∃ j, j < n ∧ px j = p := plN_mem.mp (by
  rcases List.mem_append.mp h with h | h
  · exact List.mem_of_mem_take h
  · exact List.mem_of_mem_drop h)
theorem othN_mem {k j : Nat} (hj : j < n) (hne : j ≠ k) : px j ∈ othN n px k := by
  unfold othN
  have hj' : j < (plN n px).length := by rw [plN_len]; exact hj
  have e : (plN n px)[j] = px j := by
    have := plN_getD (n := n) (px := px) hj
    rw [List.getD_eq_getElem?_getD, List.getElem?_eq_getElem hj'] at this
    exact this
  rw [List.mem_append]
  by_cases h : j < k
  · left
    rw [List.mem_iff_getElem]
    exact ⟨j, by rw [List.length_take]; omega, by rw [List.getElem_take]; exact e⟩
  · right
    rw [List.mem_iff_getElem]
    refine ⟨j - (k + 1), by rw [List.length_drop]; omega, ?_⟩
    rw [List.getElem_drop]
    have : k + 1 + (j - (k + 1)) = j := by omega
    simp only [this]
    exact e
theorem othN_ne (hinj : ∀ i j, i < n → j < n → px i = px j → i = j) {k : Nat} (hk : k < n) : px k ∉ othN n px k := fun h => by
  unfold othN at h
  have key : ∀ i, i < n → (plN n px)[i]? = some (px i) := fun i hi => by
    have := plN_getD (n := n) (px := px) hi
    rw [List.getD_eq_getElem?_getD, List.getElem?_eq_getElem (by rw [plN_len]; exact hi)] at this
    rw [List.getElem?_eq_getElem (by rw [plN_len]; exact hi)]
    exact congrArg some this
  rcases List.mem_append.mp h with h | h
  · obtain ⟨i, hi, e⟩ := List.mem_iff_getElem.mp h
    rw [List.length_take, plN_len] at hi
    have := key i (by omega)
    rw [List.getElem_take] at e
    rw [List.getElem?_eq_getElem (by rw [plN_len]; omega), e] at this
    have := hinj k i hk (by omega) (Option.some.inj this)
    omega
  · obtain ⟨i, hi, e⟩ := List.mem_iff_getElem.mp h
    rw [List.length_drop, plN_len] at hi
    have := key (k + 1 + i) (by omega)
    rw [List.getElem_drop] at e
    rw [List.getElem?_eq_getElem (by rw [plN_len]; omega), e] at this
    have := hinj k (k + 1 + i) hk (by omega) (Option.some.inj this)
    omega
theorem dst_split {k : Nat} (x : Nat) (hk : k < n) : ((othN n px k).map fun p => lgN (x ^^^ p)).sum + lgN (px k ^^^ x) = dstN n px x := by
  have := sum_others (fun p => lgN (p ^^^ x)) (plN n px) k (by rw [plN_len]; exact hk)
  rw [plN_getD hk] at this
  unfold dstN
  rw [← this]
  unfold othN
  congr 2
  refine List.map_congr_left fun p _ => ?_
  rw [Nat.xor_comm]
theorem prod_own (hpx : ∀ k, k < n → px k < 256) (hinj : ∀ i j, i < n → j < n → px i = px j → i = j) {k : Nat} (hk : k < n) : prodN (px k) (othN n px k) = exN (dstN n px (px k)) := by
  rw [prodN_ex (hpx k hk) _ (fun p hp => ?_)]
  · have := dst_split (n := n) (px := px) (px k) hk
    rw [Nat.xor_self, lgN_zero, Nat.add_zero] at this
    rw [← this]
  · obtain ⟨j, hj, rfl⟩ := othN_sub hp
    exact ⟨hpx j hj, fun e => othN_ne hinj hk (e ▸ hp)⟩
theorem prod_at (hpx : ∀ k, k < n → px k < 256) {x k : Nat} (hx : x < 256) (hxp : x ∉ plN n px) (hk : k < n) : prodN x (othN n px k) = exN (dstN n px x - lgN (px k ^^^ x)) := by
  rw [prodN_ex hx _ (fun p hp => ?_)]
  · have e : ((othN n px k).map fun p => lgL.getD (x ^^^ p) 0).sum + lgN (px k ^^^ x) = dstN n px x := dst_split (n := n) (px := px) x hk
    congr 1
    omega
  · obtain ⟨j, hj, rfl⟩ := othN_sub hp
    exact ⟨hpx j hj, fun e => hxp (e ▸ plN_mem.mpr ⟨j, hj, rfl⟩)⟩
theorem dst_le {k : Nat} (x : Nat) (hk : k < n) : lgN (px k ^^^ x) ≤ dstN n px x := by
  have := dst_split (n := n) (px := px) x hk
  omega
/- the law's coefficient is the interpolation's, octet by octet -/
theorem term_eq (hpx : ∀ k, k < n → px k < 256) {x k b lb : Nat} (hx : x < 256) (hxp : x ∉ plN n px) (hk : k < n) (hb : b < 256) (hl : (lb + dstN n px (px k) + lgN (px k ^^^ x)) % 255 = dstN n px x % 255) :
    tm (tm b (exN (255 - dstN n px (px k) % 255))) (prodN x (othN n px k)) = tm b (exN lb) := by
  rw [prod_at hpx hx hxp hk]
  by_cases h0 : b = 0
  · subst h0
    rw [tm_zero_l, tm_zero_l, tm_zero_l]
  · rw [← ex_lg h0 hb, gm_ex, gm_ex, gm_ex]
    exact (coeff _ (dst_le x hk) hl).symm
end
end Mine
end
theorem Mine.top_off_P11 : True := by
  w_top off
  trivial
section
open PySem PySem.W PySem.W.KTBy PyProof.Rows
set_option maxRecDepth 100000
set_option maxHeartbeats 2000000
namespace Mine
theorem firstMet_len_succ (val : Nat → Int) (i : Nat) : (firstMet val (i + 1)).length = (firstMet val i).length + (if (∃ j, j < i ∧ val j = val i) then 0 else 1) := by
  rw [firstMet_succ]
  unfold step_dedup
  have e : (firstMet val i).any (· == val i) = true ↔ ∃ j, j < i ∧ val j = val i := by
    rw [firstMet_any, List.any_map, List.any_eq_true]
    constructor
    · rintro ⟨j, hj, e⟩
      exact ⟨j, List.mem_range.mp hj, by simpa using e⟩
    · rintro ⟨j, hj, e⟩
      exact ⟨j, List.mem_range.mpr hj, by simpa using e⟩
  by_cases h : ∃ j, j < i ∧ val j = val i
  · rw [if_pos h, if_pos (e.mpr h)]
    rfl
  · rw [if_neg h, if_neg (fun q => h (e.mp q)), List.length_append]
    rfl
theorem firstMet_inj {val : Nat → Int} : ∀ n, (∀ i j, i < n → j < n → val i = val j → i = j) → (firstMet val n).length = n
  | 0, _ => rfl
  | n + 1, h => by
    rw [firstMet_len_succ, firstMet_inj n fun i j hi hj => h i j (by omega) (by omega), if_neg]
    rintro ⟨j, hj, e⟩
    have := h j n (by omega) (by omega) e
    omega
theorem firstMet_same {val : Nat → Int} {c : Int} : ∀ n, (∀ i, i < n + 1 → val i = c) → (firstMet val (n + 1)).length = 1
  | 0, _ => by rw [firstMet_len_succ, firstMet_zero, if_neg (by rintro ⟨j, hj, _⟩; omega)]; rfl
  | n + 1, h => by
    rw [firstMet_len_succ, firstMet_same n fun i hi => h i (by omega), if_pos ⟨0, by omega, by rw [h 0 (by omega), h (n + 1) (by omega)]⟩]
theorem firstMet_lt {val : Nat → Int} {i j : Nat} (hij : i < j) (e : val i = val j) : ∀ n, j < n → (firstMet val n).length < n
  | n + 1, hj => by
    rw [firstMet_len_succ]
    by_cases h : j < n
    · have := firstMet_lt hij e n h
      split <;> omega
    · obtain rfl : j = n := by omega
      rw [if_pos ⟨i, hij, e⟩]
      have := firstMet_length_le val j
      omega
theorem dupX_of {ds : Dat} {i j : Nat} (hij : i < j) (hj : j < ds.length) (e : xAt ds i = xAt ds j) : dupX ds = true := by
  have := firstMet_lt hij e ds.length hj
  unfold dupX
  simp only [bne_iff_ne, ne_eq]
  omega
theorem interp_dup {ds : Dat} {i j : Nat} (x : Int) (hij : i < j) (hj : j < ds.length) (e : xAt ds i = xAt ds j) : interpP ds x = none := by
  unfold interpP
  rw [if_pos (dupX_of hij hj e)]
theorem interp_odd {ds : Dat} (x : Int) (h : oddS ds = true) : interpP ds x = none := by
  unfold interpP
  split
  · rfl
  · first | rfl | rw [if_pos h]
theorem odd_nil : oddS [] = true := rfl
theorem odd_two {ds : Dat} {i : Nat} (hi : i < ds.length) (h : szAt ds i ≠ szAt ds 0) : oddS ds = true := by
  cases q : oddS ds with
  | true => rfl
  | false => exact absurd (same_size q hi) h
section
variable {n sz : Nat} {px pv : Nat → Nat} {ds : Dat}
structure Fits (n sz : Nat) (px pv : Nat → Nat) (ds : Dat) : Prop where
  len : ds.length = n
  pos : 0 < n
  sz1 : sz ≤ 7
  x : ∀ k, k < n → xAt ds k = (px k : Int)
  d : ∀ k, k < n → dAt ds k = bytesA (pv k) sz
  lt : ∀ k, k < n → px k < 256
  inj : ∀ i j, i < n → j < n → px i = px j → i = j
theorem Fits.dup (h : Fits n sz px pv ds) : dupX ds = false := by
  unfold dupX
  rw [h.len, firstMet_inj n fun i j hi hj e => h.inj i j hi hj (by rw [h.x i hi, h.x j hj] at e; omega)]
  simp
theorem Fits.odd (h : Fits n sz px pv ds) : oddS ds = false := by
  obtain ⟨m, rfl⟩ : ∃ m, n = m + 1 := ⟨n - 1, by have := h.pos; omega⟩
  unfold oddS
  rw [h.len, firstMet_same (c := (sz : Int)) m fun i hi => by show ((dAt ds i).size : Int) = _; rw [h.d i hi, bytesA_size]]
  rfl
theorem log_nat (a b : Nat) : logX (a : Int) (b : Int) = ((lgN (a ^^^ b) : Nat) : Int) := by
  unfold logX lgI
  rw [xor_nat, Int.toNat_natCast]
theorem dst_pre (x : Nat) : PySem.preSum (fun j => ((lgN (px j ^^^ x) : Nat) : Int)) n = ((dstN n px x : Nat) : Int) := by
  rw [preSum_nat]
  unfold dstN plN
  rw [List.map_map]
  rfl
theorem Fits.sumX (h : Fits n sz px pv ds) (x : Nat) : sumX ds (x : Int) = ((dstN n px x : Nat) : Int) := by
  unfold Mine.sumX
  rw [h.len, preSum_congr n (fun j hj => show _ = ((lgN (px j ^^^ x) : Nat) : Int) by rw [h.x j hj, log_nat]), dst_pre]
theorem Fits.sumO (h : Fits n sz px pv ds) {i : Nat} (hi : i < n) : sumO ds i = ((dstN n px (px i) : Nat) : Int) := by
  unfold Mine.sumO
  rw [h.len, preSum_congr n (fun j hj => show _ = ((lgN (px j ^^^ px i) : Nat) : Int) by rw [h.x j hj, h.x i hi, log_nat, Nat.xor_comm]), dst_pre]
theorem Fits.res (h : Fits n sz px pv ds) {x : Nat} (hx : x < 256) (hxp : x ∉ plN n px) : ∀ k, k ≤ n → resAt ds (x : Int) k = bytesA (accN n px pv x k) sz
  | 0, _ => by
    have h0 := h.d 0 h.pos
    show Array.replicate (szAt ds 0).toNat 0 = _
    rw [show szAt ds 0 = (sz : Int) by show ((dAt ds 0).size : Int) = _; rw [h0, bytesA_size], Int.toNat_natCast]
    unfold bytesA accN
    apply Array.ext'
    simp [byteAt_zero, List.map_const']
  | k + 1, hk => by
    have ih := h.res hx hxp k (by omega)
    show stepRes (dAt ds k) (resAt ds (x : Int) k) (lbe ds (x : Int) k) = _
    obtain ⟨b, e, hb⟩ := lbe_nat (S := dstN n px x) (l := lgN (px k ^^^ x)) (T := dstN n px (px k))
    have el : lbe ds (x : Int) k = (b : Int) := by
      unfold lbe
      rw [h.sumX x, h.x k (by omega), log_nat, h.sumO (by omega)]
      exact e
    rw [ih, h.d k (by omega), el, stepRes_bytes _ _ _ h.sz1]
    refine bytesA_congr fun j hj => ?_
    have hj7 : j < 7 := by have := h.sz1; omega
    rw [accN, byteAt_xor, byteAt_xor, byteAt_tm hj7, byteAt_tm hj7, byteAt_tm hj7, term_eq h.lt hx hxp (by omega) (byteAt_lt _ _) hb]
theorem Fits.own (h : Fits n sz px pv ds) {i : Nat} (hi : i < n) {j : Nat} (hj : j < 7) : ∀ k, k ≤ n → byteAt j (accN n px pv (px i) k) = if i < k then byteAt j (pv i) else 0
  | 0, _ => by rw [accN, byteAt_zero, if_neg (by omega)]
  | k + 1, hk => by
    rw [accN, byteAt_xor, h.own hi hj k (by omega), byteAt_tm hj, byteAt_tm hj]
    by_cases e : i = k
    · subst e
      rw [prod_own h.lt h.inj hi, if_neg (Nat.lt_irrefl _), if_pos (Nat.lt_succ_self _), Nat.zero_xor]
      by_cases h0 : byteAt j (pv i) = 0
      · rw [h0, tm_zero_l, tm_zero_l]
      · have hb := byteAt_lt j (pv i)
        conv => lhs; rw [← ex_lg h0 hb]
        conv => rhs; rw [← ex_lg h0 hb]
        rw [gm_ex, gm_ex]
        exact exN_congr (by omega)
    · rw [show prodN (px i) (othN n px k) = 0 from prodN_zero _ _ (othN_mem hi e), tm_zero, Nat.xor_zero]
      by_cases h1 : i < k
      · rw [if_pos h1, if_pos (by omega)]
      · rw [if_neg h1, if_neg (by omega)]
/- the interpolation at x is the law's sum -/
theorem Fits.interp (h : Fits n sz px pv ds) {x : Nat} (hx : x < 256) : interpP ds (x : Int) = some (bytesA (accN n px pv x n) sz) := by
  by_cases hxp : x ∈ plN n px
  · obtain ⟨i, hi, rfl⟩ := plN_mem.mp hxp
    have hm : hasX ds (px i : Int) = true := (hasX_iff ds _).mpr ⟨i, by rw [h.len]; exact hi, h.x i hi⟩
    rw [interp_found h.dup h.odd hm (by rw [h.len]; exact hi) (h.x i hi) (fun j hj e => by
      rw [h.x j (by omega)] at e
      have := h.inj j i (by omega) hi (by omega)
      omega), h.d i hi]
    refine congrArg some (bytesA_congr fun j hj => ?_)
    rw [h.own hi (by have := h.sz1; omega) n (Nat.le_refl _), if_pos hi]
  · have hm : hasX ds (x : Int) = false := by
      cases q : hasX ds (x : Int) with
      | false => rfl
      | true =>
        obtain ⟨j, hj, e⟩ := (hasX_iff ds _).mp q
        rw [h.len] at hj
        rw [h.x j hj] at e
        exact absurd (plN_mem.mpr ⟨j, hj, by omega⟩) hxp
    rw [interp_sum h.dup h.odd hm, h.len, h.res hx hxp n (Nat.le_refl _)]
end
end Mine
end
theorem Mine.top_off_Q0 : True := by
  w_top off
  trivial
section
open PySem PyProof.Rows
set_option maxRecDepth 100000
namespace Mine
/-! what the law reckons, as plain functions of its script -/
noncomputable def leastP (ns : List Int) : Int := 1 + (num ns 0).fmod 3
noncomputable def countP (ns : List Int) : Int := if leastP ns = 1 ∧ (num ns 1).fmod 4 = 0 then 1 else (num ns 1).fmod 4
noncomputable def sizeP (ns : List Int) : Int := 5 + (num ns 2).fmod 3
theorem leastP_bounds (ns : List Int) : 1 ≤ leastP ns ∧ leastP ns ≤ 3 := by
  unfold leastP
  rw [Int.fmod_eq_emod_of_nonneg _ (by decide)]
  omega
theorem sizeP_bounds (ns : List Int) : 5 ≤ sizeP ns ∧ sizeP ns ≤ 7 := by
  unfold sizeP
  rw [Int.fmod_eq_emod_of_nonneg _ (by decide)]
  omega
theorem countP_bounds (ns : List Int) : 0 ≤ countP ns ∧ countP ns ≤ 3 := by
  unfold countP
  rw [Int.fmod_eq_emod_of_nonneg _ (by decide)]
  split <;> omega
theorem countP_one {ns : List Int} (h : leastP ns = 1) : 1 ≤ countP ns := by
  have := countP_bounds ns
  unfold countP at *
  rw [Int.fmod_eq_emod_of_nonneg _ (by decide)] at *
  split <;> omega
theorem countP_fix {ns : List Int} (h : leastP ns = 1) (g : (num ns 1).fmod 4 = 0) : countP ns = 1 := if_pos ⟨h, g⟩
theorem countP_else {ns : List Int} (h : ¬ (leastP ns = 1 ∧ (num ns 1).fmod 4 = 0)) : countP ns = (num ns 1).fmod 4 := if_neg h
noncomputable def idxP (ns : List Int) (k : Nat) : Nat := ((num ns (3 + (k : Int))).fmod (256 - (k : Int))).toNat
noncomputable def freeP (ns : List Int) : Nat → List Int
  | 0 => rangeInts 0 1 256
  | k + 1 => (freeP ns k).eraseIdx (idxP ns k)
noncomputable def placeP (ns : List Int) (k : Nat) : Int := (freeP ns k).getD (idxP ns k) 0
noncomputable def placesP (ns : List Int) (n : Nat) : List Int := (List.range n).map (placeP ns)
theorem idxP_lt (ns : List Int) {k : Nat} (h : k < 256) : idxP ns k < 256 - k := by
  have := Int.fmod_lt_of_pos (num ns (3 + (k : Int))) (show 0 < 256 - (k : Int) by omega)
  have := Int.fmod_nonneg_of_pos (num ns (3 + (k : Int))) (show 0 < 256 - (k : Int) by omega)
  unfold idxP
  omega
theorem freeP_len (ns : List Int) : ∀ k, k ≤ 256 → (freeP ns k).length = 256 - k
  | 0, _ => by simp [freeP, rangeInts_length]
  | k + 1, h => by
    have h1 := freeP_len ns k (by omega)
    have h2 := idxP_lt ns (k := k) (by omega)
    simp only [freeP]
    rw [List.length_eraseIdx_of_lt (by omega), h1]
    omega
theorem freeP_bounds (ns : List Int) : ∀ k, ∀ x ∈ freeP ns k, 0 ≤ x ∧ x < 256
  | 0, x, h => by
    have : (rangeInts 0 1 256).all (fun x => decide (0 ≤ x ∧ x < 256)) = true := by decide +kernel
    exact of_decide_eq_true (List.all_eq_true.mp this x h)
  | k + 1, x, h => freeP_bounds ns k x (List.mem_of_mem_eraseIdx h)
theorem placeP_mem (ns : List Int) {k : Nat} (h : k < 256) : placeP ns k ∈ freeP ns k := by
  have h1 := freeP_len ns k (by omega)
  have h2 := idxP_lt ns h
  unfold placeP
  rw [List.getD_eq_getElem?_getD, List.getElem?_eq_getElem (by omega)]
  exact List.getElem_mem _
theorem placeP_bounds (ns : List Int) {k : Nat} (h : k < 256) : 0 ≤ placeP ns k ∧ placeP ns k < 256 := freeP_bounds ns k _ (placeP_mem ns h)
theorem placesP_succ (ns : List Int) (n : Nat) : placesP ns (n + 1) = placesP ns n ++ [placeP ns n] := by
  unfold placesP
  rw [List.range_succ, List.map_append]
  rfl
theorem placesP_len (ns : List Int) (n : Nat) : (placesP ns n).length = n := by unfold placesP; simp
theorem placesP_bounds (ns : List Int) {n : Nat} (h : n ≤ 256) : ∀ x ∈ placesP ns n, 0 ≤ x ∧ x < 256 := fun x hx => by
  obtain ⟨k, hk, rfl⟩ := List.mem_map.mp hx
  exact placeP_bounds ns (Nat.lt_of_lt_of_le (List.mem_range.mp hk) h)
theorem placesP_get (ns : List Int) {n k : Nat} (h : k < n) : (placesP ns n)[k]? = some (placeP ns k) := by
  unfold placesP
  rw [List.getElem?_map, List.getElem?_range h]
  rfl
noncomputable def spreadP : Int := 16395309179817738009521987751666139093583423331470737840399399094199505546377
noncomputable def valueP (ns : List Int) (k : Nat) : Int := (num ns (6 + (k : Int)) * spreadP).fmod (256 ^ (sizeP ns).toNat)
noncomputable def valuesP (ns : List Int) (n : Nat) : List Int := (List.range n).map (valueP ns)
theorem valuesP_succ (ns : List Int) (n : Nat) : valuesP ns (n + 1) = valuesP ns n ++ [valueP ns n] := by
  unfold valuesP
  rw [List.range_succ, List.map_append]
  rfl
theorem valuesP_len (ns : List Int) (n : Nat) : (valuesP ns n).length = n := by unfold valuesP; simp
theorem valuesP_get (ns : List Int) {n k : Nat} (h : k < n) : (valuesP ns n)[k]? = some (valueP ns k) := by
  unfold valuesP
  rw [List.getElem?_map, List.getElem?_range h]
  rfl
theorem valueP_bounds (ns : List Int) (k : Nat) : 0 ≤ valueP ns k ∧ valueP ns k < 256 ^ (sizeP ns).toNat := ⟨fmod_lo _ _, fmod_hi _ _⟩
theorem valueP_56 (ns : List Int) (k : Nat) : 0 ≤ valueP ns k ∧ valueP ns k < 2 ^ 56 := by
  have h := valueP_bounds ns k
  have hs := sizeP_bounds ns
  refine ⟨h.1, Int.lt_of_lt_of_le h.2 ?_⟩
  have : sizeP ns = 5 ∨ sizeP ns = 6 ∨ sizeP ns = 7 := by omega
  rcases this with e | e | e <;> rw [e] <;> decide
theorem num_bits {ns : List Int} (h : PyData.layable0 (.list (ns.map .int)) = true) {p : Int} (h0 : 0 ≤ p) (h1 : p < 100) : Builtin.Int.intBits (num ns p) ≤ 1048577 := by
  unfold num
  refine PySem.intBits_add_le (m := 1048576) (n := 1048576) ?_ ?_
  · split
    · decide
    · by_cases hj : (p.fmod (ns.length : Int)).toNat < ns.length
      · rw [List.getD_eq_getElem?_getD, List.getElem?_eq_getElem hj]
        exact PySem.intBits_le_of_item (List.getElem_mem hj) h
      · rw [List.getD_eq_getElem?_getD, List.getElem?_eq_none (by omega)]
        decide
  · exact Nat.le_trans (PySem.intBits_le_iff (m := 64).mpr (by omega)) (by decide)
theorem num_mulOk {ns : List Int} (h : PyData.layable0 (.list (ns.map .int)) = true) {p : Int} (h0 : 0 ≤ p) (h1 : p < 100) : IntMulOk (num ns p) spreadP :=
  IntMulOk.of_le (num_bits h h0 h1) (n := 256) (by decide) (by decide)
noncomputable def pointP (ns : List Int) (k : Nat) : Int × Array UInt8 := (placeP ns k, octA (valueP ns k) (sizeP ns))
noncomputable def pointsP (ns : List Int) (n : Nat) : List (Int × Array UInt8) := (List.range n).map (pointP ns)
theorem pointsP_len (ns : List Int) (n : Nat) : (pointsP ns n).length = n := by unfold pointsP; simp
theorem pointsP_succ (ns : List Int) (n : Nat) : pointsP ns (n + 1) = pointsP ns n ++ [pointP ns n] := by
  unfold pointsP
  rw [List.range_succ, List.map_append]
  rfl
theorem placesP_getD (ns : List Int) {n k : Nat} (h : k < n) : (placesP ns n).getD k 0 = placeP ns k := by rw [List.getD_eq_getElem?_getD, placesP_get ns h]; rfl
theorem valuesP_getD (ns : List Int) {n k : Nat} (h : k < n) : (valuesP ns n).getD k 0 = valueP ns k := by rw [List.getD_eq_getElem?_getD, valuesP_get ns h]; rfl
noncomputable def othersP (ns : List Int) (n k : Nat) : List Int := (placesP ns n).take k ++ (placesP ns n).drop (k + 1)
noncomputable def lanesP (ns : List Int) (n k : Nat) : Int := tmI (valueP ns k) (invI (prodI (placeP ns k) (othersP ns n k)))
noncomputable def accP (x : Int) (ns : List Int) (n : Nat) : Nat → Int
  | 0 => 0
  | k + 1 => Builtin.bitXor (accP x ns n k) (tmI (lanesP ns n k) (prodI x (othersP ns n k)))
theorem lanesP_56 (ns : List Int) (n k : Nat) : 0 ≤ lanesP ns n k ∧ lanesP ns n k < 2 ^ 56 := tmI_bounds (valueP_56 ns k).2
theorem accP_56 (x : Int) (ns : List Int) (n : Nat) : ∀ k, 0 ≤ accP x ns n k ∧ accP x ns n k < 2 ^ 56
  | 0 => ⟨Int.le_refl 0, by show (0 : Int) < 2 ^ 56; decide⟩
  | k + 1 => xor56 (accP_56 x ns n k) (tmI_bounds (lanesP_56 ns n k).2)
theorem othersP_bounds (ns : List Int) {n k : Nat} (h : n ≤ 256) : ∀ x ∈ othersP ns n k, 0 ≤ x ∧ x < 256 := fun x hx => by
  rcases List.mem_append.mp hx with h' | h'
  · exact placesP_bounds ns h x (List.mem_of_mem_take h')
  · exact placesP_bounds ns h x (List.mem_of_mem_drop h')
theorem othersP_len (ns : List Int) (n k : Nat) : (othersP ns n k).length ≤ n := by
  unfold othersP
  rw [List.length_append, List.length_take, List.length_drop, placesP_len]
  omega
noncomputable def spoilP (ns : List Int) : Int := (num ns 9).fmod 5
/- the share that a spoilt list holds besides -/
noncomputable def extra1P (ns : List Int) (n : Nat) : List (Int × Array UInt8) := if 0 < n ∧ spoilP ns = 1 then [(placeP ns 0, if (num ns 14).fmod 2 ≠ 0 then octA (num ns 13) (sizeP ns) else octA (valueP ns 0) (sizeP ns))] else []
noncomputable def extra2P (ns : List Int) (n : Nat) : List (Int × Array UInt8) := if 0 < n ∧ spoilP ns = 2 then [((freeP ns n).getD 0 0, octA (num ns 13) (sizeP ns + 1))] else []
theorem pointsP_getD (ns : List Int) {n k : Nat} (h : k < n) : (pointsP ns n).getD k (0, #[]) = pointP ns k := by
  unfold pointsP
  rw [List.getD_eq_getElem?_getD, List.getElem?_map, List.getElem?_range h]
  rfl
theorem octA_size (x : Int) (n : Int) : (octA x n).size = n.toNat := by unfold octA octL; simp [PySem.W.KTBy.little_length]
noncomputable def turnedP (ns : List Int) : Bool := ((num ns 10).fdiv 4).fmod 3 == 0
noncomputable def answerP (ns al : List Int) : List Int := if turnedP ns = true then al.set ((num ns 11).fmod 4).toNat (Builtin.bitXor (al.getD ((num ns 11).fmod 4).toNat 0) (1 + (num ns 12).fmod 255)) else al
theorem answerP_len (ns al : List Int) : (answerP ns al).length = al.length := by
  unfold answerP
  split
  · rw [List.length_set]
  · rfl
theorem answerP_bounds (ns : List Int) {al : List Int} (h : ∀ x ∈ al, 0 ≤ x ∧ x < 256) : ∀ x ∈ answerP ns al, 0 ≤ x ∧ x < 256 := by
  unfold answerP
  split
  · intro x hx
    rcases List.mem_or_eq_of_mem_set hx with hx | rfl
    · exact h x hx
    · refine xor256 ?_ ?_
      · by_cases hj : ((num ns 11).fmod 4).toNat < al.length
        · rw [List.getD_eq_getElem?_getD, List.getElem?_eq_getElem hj]
          exact h _ (List.getElem_mem hj)
        · rw [List.getD_eq_getElem?_getD, List.getElem?_eq_none (by omega)]
          decide
      · rw [Int.fmod_eq_emod_of_nonneg _ (by decide)]
        omega
  · exact h
end Mine
end
theorem Mine.top_off_P12 : True := by
  w_top off
  trivial
section
open PySem PySem.W PySem.W.KTBy PyProof.Rows
set_option maxRecDepth 100000
set_option maxHeartbeats 2000000
namespace Mine
/-! the law's places are apart -/
theorem freeP_nodup (ns : List Int) : ∀ k, (freeP ns k).Nodup
  | 0 => by
    have : (rangeInts 0 1 256).Nodup := by decide +kernel
    exact this
  | k + 1 => List.Nodup.sublist (List.eraseIdx_sublist ..) (freeP_nodup ns k)
theorem freeP_sub (ns : List Int) (k : Nat) : ∀ j x, x ∈ freeP ns (k + j) → x ∈ freeP ns k
  | 0, _, h => h
  | j + 1, x, h => freeP_sub ns k j x (List.mem_of_mem_eraseIdx h)
theorem erase_not {α : Type} {l : List α} (h : l.Nodup) {k : Nat} (hk : k < l.length) : l[k] ∉ l.eraseIdx k := fun hm => by
  obtain ⟨i, hi, hne, e⟩ := List.mem_eraseIdx_iff_getElem.mp hm
  have hp := List.pairwise_iff_getElem.mp h
  rcases Nat.lt_trichotomy i k with q | q | q
  · exact hp i k hi hk q e
  · exact hne q
  · exact hp k i hk hi q e.symm
theorem placeP_ne (ns : List Int) {i j : Nat} (hij : i < j) (hj : j < 256) : placeP ns i ≠ placeP ns j := fun e => by
  have hi : idxP ns i < (freeP ns i).length := by
    have := freeP_len ns i (by omega)
    have := idxP_lt ns (k := i) (by omega)
    omega
  have h1 : placeP ns i ∉ freeP ns (i + 1) := by
    have : placeP ns i = (freeP ns i)[idxP ns i] := by
      unfold placeP
      rw [List.getD_eq_getElem?_getD, List.getElem?_eq_getElem hi]
      rfl
    rw [this]
    exact erase_not (freeP_nodup ns i) hi
  have h2 := placeP_mem ns (k := j) hj
  rw [show j = (i + 1) + (j - (i + 1)) by omega] at h2
  have h3 := freeP_sub ns (i + 1) _ _ h2
  rw [show (i + 1) + (j - (i + 1)) = j by omega] at h3
  exact h1 (e ▸ h3)
noncomputable abbrev pxP (ns : List Int) (k : Nat) : Nat := (placeP ns k).toNat
noncomputable abbrev pvP (ns : List Int) (k : Nat) : Nat := (valueP ns k).toNat
theorem pxP_cast (ns : List Int) {k : Nat} (h : k < 256) : placeP ns k = ((pxP ns k : Nat) : Int) := by
  have := (placeP_bounds ns h).1
  unfold pxP
  omega
theorem pvP_cast (ns : List Int) (k : Nat) : valueP ns k = ((pvP ns k : Nat) : Int) := by
  have := (valueP_bounds ns k).1
  unfold pvP
  omega
theorem size_cast (ns : List Int) : sizeP ns = (((sizeP ns).toNat : Nat) : Int) := by
  have := sizeP_bounds ns
  omega
theorem pointsP_at (ns : List Int) {n k : Nat} (h : k < n) : xAt (pointsP ns n) k = placeP ns k ∧ dAt (pointsP ns n) k = octA (valueP ns k) (sizeP ns) := by
  unfold xAt dAt
  rw [pointsP_getD ns h]
  exact ⟨rfl, rfl⟩
theorem fitsP (ns : List Int) {n : Nat} (h0 : 0 < n) (hn : n ≤ 3) : Fits n (sizeP ns).toNat (pxP ns) (pvP ns) (pointsP ns n) where
  len := pointsP_len ns n
  pos := h0
  sz1 := by have := sizeP_bounds ns; omega
  x := fun k hk => by rw [(pointsP_at ns hk).1, pxP_cast ns (by omega)]
  d := fun k hk => by rw [(pointsP_at ns hk).2, pvP_cast, size_cast, octA_nat]; rfl
  lt := fun k hk => by have := placeP_bounds ns (k := k) (by omega); unfold pxP; omega
  inj := fun i j hi hj e => by
    have e' : placeP ns i = placeP ns j := by rw [pxP_cast ns (by omega), pxP_cast ns (by omega), e]
    rcases Nat.lt_trichotomy i j with h | h | h
    · exact absurd e' (placeP_ne ns h (by omega))
    · exact h
    · exact absurd e'.symm (placeP_ne ns h (by omega))
theorem placesP_cast (ns : List Int) {n : Nat} (hn : n ≤ 3) : placesP ns n = (plN n (pxP ns)).map fun (p : Nat) => (p : Int) := by
  unfold placesP plN
  rw [List.map_map]
  exact List.map_congr_left fun k hk => pxP_cast ns (by have := List.mem_range.mp hk; omega)
theorem othersP_cast (ns : List Int) {n : Nat} (hn : n ≤ 3) (k : Nat) : othersP ns n k = (othN n (pxP ns) k).map fun (p : Nat) => (p : Int) := by
  unfold othersP othN
  rw [placesP_cast ns hn, List.map_append, List.map_take, List.map_drop]
theorem tmI_nat (a b : Nat) : tmI (a : Int) (b : Int) = ((tm a b : Nat) : Int) := rfl
theorem lanesP_nat (ns : List Int) {n k : Nat} (hn : n ≤ 3) (hk : k < n) : lanesP ns n k = ((tm (pvP ns k) (exN (255 - dstN n (pxP ns) (pxP ns k) % 255)) : Nat) : Int) := by
  have hF := fitsP ns (n := n) (by omega) hn
  unfold lanesP
  rw [othersP_cast ns hn, pxP_cast ns (by omega), prodI_nat, prod_own hF.lt hF.inj hk, pvP_cast, ← exN_mod, inv_ex _ (Nat.mod_lt _ (by decide)), tmI_nat]
theorem accP_nat (ns : List Int) {n : Nat} (hn : n ≤ 3) (x : Nat) : ∀ k, k ≤ n → accP (x : Int) ns n k = ((accN n (pxP ns) (pvP ns) x k : Nat) : Int)
  | 0, _ => rfl
  | k + 1, hk => by
    rw [accP, accP_nat ns hn x k (by omega), lanesP_nat ns hn (by omega), othersP_cast ns hn, prodI_nat, tmI_nat, xor_nat]
    rfl
/- the law's octets at x are the interpolation's -/
theorem interp_law (ns : List Int) {n : Nat} (h0 : 0 < n) (hn : n ≤ 3) {x : Nat} (hx : x < 256) : interpP (pointsP ns n) (x : Int) = some (octA (accP (x : Int) ns n n) (sizeP ns)) := by
  rw [(fitsP ns h0 hn).interp hx, accP_nat ns hn x n (Nat.le_refl _), size_cast, octA_nat]
  rfl
/- a spoilt list, and the empty one, are refused -/
theorem interp_spoilt (ns : List Int) {n : Nat} (x : Int) (h : n = 0 ∨ spoilP ns = 1 ∨ spoilP ns = 2) : interpP (pointsP ns n ++ extra1P ns n ++ extra2P ns n) x = none := by
  by_cases h0 : n = 0
  · subst h0
    refine interp_odd x ?_
    unfold extra1P extra2P
    rw [if_neg (by omega), if_neg (by omega)]
    rfl
  · have hn0 : 0 < n := by omega
    have hlen := pointsP_len ns n
    rcases h with h | h | h
    · exact absurd h h0
    · have e1 : extra1P ns n = [(placeP ns 0, if (num ns 14).fmod 2 ≠ 0 then octA (num ns 13) (sizeP ns) else octA (valueP ns 0) (sizeP ns))] := if_pos ⟨hn0, h⟩
      have e2 : extra2P ns n = [] := if_neg (by rw [h]; omega)
      rw [e1, e2, List.append_nil]
      refine interp_dup x (i := 0) (j := n) hn0 (by simp [hlen]) ?_
      unfold xAt
      rw [List.getD_eq_getElem?_getD, List.getD_eq_getElem?_getD, List.getElem?_append_left (by omega), List.getElem?_append_right (by omega), hlen, Nat.sub_self, ← List.getD_eq_getElem?_getD, pointsP_getD ns hn0]
      rfl
    · have e1 : extra1P ns n = [] := if_neg (by rw [h]; omega)
      have e2 : extra2P ns n = [((freeP ns n).getD 0 0, octA (num ns 13) (sizeP ns + 1))] := if_pos ⟨hn0, h⟩
      rw [e1, e2, List.append_nil]
      refine interp_odd x (odd_two (i := n) (by simp [hlen]) ?_)
      have a1 : dAt (pointsP ns n ++ [((freeP ns n).getD 0 0, octA (num ns 13) (sizeP ns + 1))]) n = octA (num ns 13) (sizeP ns + 1) := by
        unfold dAt
        rw [List.getD_eq_getElem?_getD, List.getElem?_append_right (by omega), hlen, Nat.sub_self]
        rfl
      have a2 : dAt (pointsP ns n ++ [((freeP ns n).getD 0 0, octA (num ns 13) (sizeP ns + 1))]) 0 = octA (valueP ns 0) (sizeP ns) := by
        unfold dAt
        rw [List.getD_eq_getElem?_getD, List.getElem?_append_left (by omega), ← List.getD_eq_getElem?_getD, pointsP_getD ns hn0]
        rfl
      unfold szAt
      rw [a1, a2, octA_size, octA_size]
      have := sizeP_bounds ns
      omega
theorem whole_law (ns : List Int) {n : Nat} (h : ¬ (spoilP ns = 1 ∨ spoilP ns = 2)) : pointsP ns n ++ extra1P ns n ++ extra2P ns n = pointsP ns n := by
  have e1 : extra1P ns n = [] := if_neg (fun q => h (.inl q.2))
  have e2 : extra2P ns n = [] := if_neg (fun q => h (.inr q.2))
  rw [e1, e2, List.append_nil, List.append_nil]
theorem final_bounds (ns : List Int) {n : Nat} (hn : n ≤ 3) : ∀ d ∈ pointsP ns n ++ extra1P ns n ++ extra2P ns n, 0 ≤ d.1 ∧ d.1 < 256 ∧ d.2.size < 1000 := by
  have hs := sizeP_bounds ns
  have sz : ∀ (x y : Int), y ≤ 8 → (octA x y).size < 1000 := fun x y hy => by rw [octA_size]; omega
  intro d hd
  rcases List.mem_append.mp hd with hd | hd
  · rcases List.mem_append.mp hd with hd | hd
    · obtain ⟨k, hk, rfl⟩ := List.mem_map.mp hd
      have := placeP_bounds ns (k := k) (by have := List.mem_range.mp hk; omega)
      exact ⟨this.1, this.2, sz _ _ (by omega)⟩
    · unfold extra1P at hd
      split at hd
      · rw [List.mem_singleton.mp hd]
        have := placeP_bounds ns (k := 0) (by omega)
        refine ⟨this.1, this.2, ?_⟩
        dsimp only
        split <;> exact sz _ _ (by omega)
      · cases hd
  · unfold extra2P at hd
    split at hd
    · rw [List.mem_singleton.mp hd]
      have hl := freeP_len ns n (by omega)
      have := freeP_bounds ns n ((freeP ns n).getD 0 0) (by
        rw [List.getD_eq_getElem?_getD, List.getElem?_eq_getElem (by omega)]
        exact List.getElem_mem _)
      exact ⟨this.1, this.2, sz _ _ (by omega)⟩
    · cases hd
theorem final_len (ns : List Int) {n : Nat} (hn : n ≤ 3) : n ≤ (pointsP ns n ++ extra1P ns n ++ extra2P ns n).length ∧ (pointsP ns n ++ extra1P ns n ++ extra2P ns n).length ≤ 6 := by
  rw [List.length_append, List.length_append, pointsP_len]
  have h1 : (extra1P ns n).length ≤ 1 := by unfold extra1P; split <;> simp
  have h2 : (extra2P ns n).length ≤ 1 := by unfold extra2P; split <;> simp
  omega
/-! the digest's answer -/
theorem bInts_eq {a b : Array UInt8} (h : KBw.bInts a = KBw.bInts b) : a = b := (bInts_inj h).trans (bInts_inj rfl).symm
theorem pick4 (b : Array UInt8) (h : 4 ≤ b.size) : KBw.bInts (KBy.picked b none (some 4)) = (KBw.bInts b).take 4 := by
  rw [KBc.ints_picked rfl]
  show (List.drop 0 (KBw.bInts b)).take (clipAt (KBw.bInts b).length 4 - 0) = _
  rw [KBc.clip_lit, List.drop_zero, KBw.ints_length]
  congr 1
  show min 4 b.size - 0 = 4
  omega
theorem lead_len (D : Int) {sz : Int} (h : 5 ≤ sz) : (KBw.bInts (KBy.picked (octA D sz) none (some 4))).length = 4 := by
  rw [pick4 _ (by rw [octA_size]; omega), List.length_take, KBw.ints_length, octA_size]
  omega
theorem lead_bounds (b : Array UInt8) : ∀ x ∈ KBw.bInts b, 0 ≤ x ∧ x < 256 := fun _ h => KBw.ints_in h
theorem xor_changes {a b : Int} (ha : 0 ≤ a) (hb : 0 < b) : Builtin.bitXor a b ≠ a := fun e => by
  obtain ⟨A, rfl⟩ := Int.eq_ofNat_of_zero_le ha
  obtain ⟨B, rfl⟩ := Int.eq_ofNat_of_zero_le (Int.le_of_lt hb)
  rw [xor_nat] at e
  have e' : A ^^^ B = A := by omega
  have : B = 0 := by
    have := congrArg (A ^^^ ·) e'
    simpa [← Nat.xor_assoc] using this
  omega
theorem digest_agrees (ns : List Int) (dig : Array UInt8) (h : 4 ≤ dig.size) (zs : Array UInt8) :
    KBy.picked dig none (some 4) = KBy.picked (byteArr (answerP ns (KBw.bInts (KBy.picked dig none (some 4)))) ++ zs) none (some 4) ↔ turnedP ns = false := by
  have hl : (KBw.bInts (KBy.picked dig none (some 4))).length = 4 := by rw [pick4 _ h, List.length_take, KBw.ints_length]; omega
  have hb := answerP_bounds ns (lead_bounds (KBy.picked dig none (some 4)))
  have hal := answerP_len ns (KBw.bInts (KBy.picked dig none (some 4)))
  have e : KBw.bInts (KBy.picked (byteArr (answerP ns (KBw.bInts (KBy.picked dig none (some 4)))) ++ zs) none (some 4)) = answerP ns (KBw.bInts (KBy.picked dig none (some 4))) := by
    rw [pick4 _ (by rw [Array.size_append, byteArr_size, hal, hl]; omega), KBw.ints_app (KBa.ints_make hb) rfl, List.take_append_of_le_length (by rw [hal, hl]; omega), List.take_of_length_le (by rw [hal, hl]; omega)]
  constructor
  · intro q
    have q' := congrArg KBw.bInts q
    rw [e] at q'
    cases ht : turnedP ns with
    | false => rfl
    | true =>
      unfold answerP at q'
      rw [if_pos ht] at q'
      generalize hL : KBw.bInts (KBy.picked dig none (some 4)) = l at *
      have hi : ((num ns 11).fmod 4).toNat < l.length := by
        rw [Int.fmod_eq_emod_of_nonneg _ (by decide)]
        omega
      have hx : l[((num ns 11).fmod 4).toNat]? = some (l.getD ((num ns 11).fmod 4).toNat 0) := by
        rw [List.getD_eq_getElem?_getD, List.getElem?_eq_getElem hi]
        rfl
      have h2 : l[((num ns 11).fmod 4).toNat]? = _ := congrArg (fun (z : List Int) => z[((num ns 11).fmod 4).toNat]?) q'
      rw [hx, List.getElem?_set_self hi] at h2
      have h0 : 0 ≤ l.getD ((num ns 11).fmod 4).toNat 0 := by
        refine (lead_bounds (KBy.picked dig none (some 4)) _ ?_).1
        rw [hL]
        exact List.mem_of_getElem? hx
      have hp : 0 < 1 + (num ns 12).fmod 255 := by
        rw [Int.fmod_eq_emod_of_nonneg _ (by decide)]
        omega
      exact absurd (Option.some.inj h2).symm (xor_changes h0 hp)
  · intro ht
    refine bInts_eq ?_
    rw [e]
    unfold answerP
    rw [if_neg (by rw [ht]; decide)]
end Mine
end
theorem Mine.top_off_N17 : True := by
  w_top off
  trivial
section
open PySem PySem.W PySem.Calls PyProof.Rows PySem.W.KBw
open Sem (wp)
set_option maxRecDepth 100000
set_option maxHeartbeats 8000000
namespace Mine
section
variable {prog : Program} {w : World} {A : Around} {s : Shared} {h₀ : Heap} {L a : Addr} {m : Str → Option Value} {cn : Str} {cs : Scope} {cd : Value} {cl : List (Str × Addr)} {news : List (Addr × Obj)}
/- a turn of a loop over a range -/
noncomputable def TurnR (prog : Program) (w : World) (A : Around) (h₀ : Heap) (env : Env) (x : Str) (px : Pos) (body : List Stmt) (J : Nat → (Str → Option Value) → List (Addr × Obj) → Array GenState → Prop) (os : OsState) (Q : Flow → Shared → Prop) (E : Value → Shared → Prop) (i : Nat) : Prop :=
  ∀ I oI h tk gs d m₁ news₁ t, J i m₁ news₁ gs → Fr h₀ env.locals h m₁ → News h₀ env.locals h ((I, oI) :: news₁) → (∀ q ∈ news₁, q.1 ≠ I) →
    wpAny (model prog w) A (assign (.Name x px) env (.int (i : Int) t)) (fun _ s₂ => wpAny (model prog w) A (execs body env) (PostG h₀ env J os Q i I oI) E s₂) E ⟨h, gs, d, tk, os⟩
/- a loop over range(n), the iterable walked to the range's object -/
theorem for_range {x : Str} {px pos : Pos} {iter : Expr} {body : List Stmt} {Q : Flow → Shared → Prop} {E : Value → Shared → Prop} {n : Nat} (J : Nat → (Str → Option Value) → List (Addr × Obj) → Array GenState → Prop)
    (hh : A.handled = none)
    (hit : wpAny (model prog w) A (eval iter (envX cn cs L a cd cl)) (fun v s₁ => ∃ r m₀ news₀ t u z, v = .ref r ∧ IsRange s₁.heap r 0 (n : Int) 1 t u z ∧ Builtin.Range.small 0 (n : Int) 1 = true ∧ Builtin.Range.rangeSize 0 (n : Int) 1 = (n : Int) ∧ s₁.os = s.os ∧
      Fr h₀ L s₁.heap m₀ ∧ News h₀ L s₁.heap news₀ ∧ J 0 m₀ news₀ s₁.gens) E s)
    (step : ∀ i, i < n → TurnR prog w A h₀ (envX cn cs L a cd cl) x px body J s.os Q E i)
    (done : ∀ h tk gs d m' news', J n m' news' gs → Fr h₀ L h m' → News h₀ L h news' → Q .next ⟨h, gs, d, tk, s.os⟩)
    (hE : PassesOwn (model prog w) A (envX cn cs L a cd cl) E)
    (hfs : ∀ x, foldedSetIterable iter (envX cn cs L a cd cl) x = pure x := by intro _; rfl) :
    wpAny (model prog w) A (exec (.For (.Name x px) iter body [] pos) (envX cn cs L a cd cl)) Q E s := by
  refine wpAny_For (wpAny_mono hit (fun v s₁ h₁ => ?_) fun _ _ e => e) hfs
  obtain ⟨r, m₀, news₀, t, u, z, rfl, hr, hsm, hn, hos, F, N, hJ⟩ := h₁
  refine wpAny_pyIter_range hr hsm ?_
  rw [hn]
  have hIn : h₀.get? s₁.heap.objs.size = none := by
    cases q : h₀.get? s₁.heap.objs.size with
    | none => rfl
    | some o => exact absurd (Heap.lt_size (F.keep _ _ q)) (Nat.lt_irrefl _)
  have hLI : s₁.heap.objs.size ≠ L := Nat.ne_of_gt F.ns.lt
  refine codeAny_forLoop (fun k s' => ∃ h' tk gs d m' news', ∃ i : Nat, ∃ oI, s' = ⟨h', gs, d, tk, s.os⟩ ∧ IsRangeIter h' s₁.heap.objs.size (i : Int) ((n : Int) - (i : Int)) 1 ∧ h'.get? s₁.heap.objs.size = some oI ∧ Fr h₀ L h' m' ∧ News h₀ L h' ((s₁.heap.objs.size, oI) :: news') ∧ (∀ q ∈ news', q.1 ≠ s₁.heap.objs.size) ∧ J i m' news' gs ∧ i ≤ n ∧ k = n + 1 - i) ?_ (n + 1)
    ⟨_, _, _, _, m₀, news₀, 0, { cls := .type "range_iterator", data := .fields #[rawInt 0, rawInt (n : Int), rawInt 1] }, by rw [← hos], ?_, Heap.get?_push_size _ rfl, F.push _, (fun q hq => ?_), (fun q hq => Nat.ne_of_lt (Heap.lt_size (N q hq).1)), hJ, Nat.zero_le _, rfl⟩
  · rintro k s' ⟨h', tk, gs, d, m', news', i, oI, rfl, hit, hoI, F', N', hap, hJ', hi, rfl⟩
    by_cases hlt : i < n
    · refine wpAny_pyNext_range_item hit (by omega) fun h₁ hit₁ hs₁ => ?_
      have F₁ : Fr h₀ L h₁ m' := F'.change hs₁ hLI hIn
      obtain ⟨oI₁, hoI₁⟩ : ∃ o, h₁.get? s₁.heap.objs.size = some o := ⟨_, hit₁⟩
      have N₁ : News h₀ L h₁ ((s₁.heap.objs.size, oI₁) :: news') := fun q hq => by
        rcases List.mem_cons.mp hq with rfl | hq
        · exact ⟨hoI₁, hLI, hIn⟩
        · have n := N' q (.tail _ hq)
          exact ⟨hs₁.extBut _ _ (hap q hq) n.1, n.2⟩
      have t := step i hlt s₁.heap.objs.size oI₁ h₁ (tk + 1) gs d m' news' tk hJ' F₁ N₁ hap
      refine wpAny_passesOwn hE (wpAny_mono t (fun _ s₂ h₂ => ?_) fun _ _ e => e)
      refine wpAny_passesOwn hE (wpAny_mono h₂ (fun f s₃ h₃ => ?_) fun _ _ e => e)
      have fin : (∃ h' tk' gs' d' m' news', s₃ = ⟨h', gs', d', tk', s.os⟩ ∧ Fr h₀ L h' m' ∧ News h₀ L h' ((s₁.heap.objs.size, oI₁) :: news') ∧ (∀ q ∈ news', q.1 ≠ s₁.heap.objs.size) ∧ J (i + 1) m' news' gs') →
          ∃ m, m < n + 1 - i ∧ ∃ h' tk gs d m' news', ∃ j : Nat, ∃ oI, s₃ = ⟨h', gs, d, tk, s.os⟩ ∧ IsRangeIter h' s₁.heap.objs.size (j : Int) ((n : Int) - (j : Int)) 1 ∧ h'.get? s₁.heap.objs.size = some oI ∧ Fr h₀ L h' m' ∧ News h₀ L h' ((s₁.heap.objs.size, oI) :: news') ∧ (∀ q ∈ news', q.1 ≠ s₁.heap.objs.size) ∧ J j m' news' gs ∧ j ≤ n ∧ m = n + 1 - j := by
        rintro ⟨h₃', tk₃, gs₃, d₃, m₃, news₃, rfl, F₃, N₃, hap₃, hJ₃⟩
        have g3 := (N₃ _ (.head _)).1
        refine ⟨n + 1 - (i + 1), by omega, h₃', tk₃, gs₃, d₃, m₃, news₃, i + 1, _, rfl, ?_, g3, F₃, N₃, hap₃, hJ₃, hlt, rfl⟩
        show h₃'.get? s₁.heap.objs.size = some _
        rw [g3, ← hoI₁, hit₁]
        refine congrArg some ?_
        rw [show ((i + 1 : Nat) : Int) = (i : Int) + 1 by omega, show (n : Int) - ((i : Int) + 1) = (n : Int) - (i : Int) - 1 by omega]
      cases f with
      | next => exact fin h₃
      | cont => exact fin h₃
      | brk => exact h₃.elim
      | ret v => exact h₃
    · have hin : i = n := by omega
      subst hin
      refine wpAny_pyNext_range_end hh hit (by omega) fun h₁ hs₁ => wpAny_execs_nil ?_
      refine done h₁ tk gs d m' news' hJ' ⟨F'.ns.extBut hs₁ hLI.symm, fun b o e => hs₁ b o (fun q => by rw [q, hIn] at e; cases e) (F'.keep b o e), F'.above⟩ fun q hq => ?_
      have n := N' q (.tail _ hq)
      exact ⟨hs₁ _ _ (hap q hq) n.1, n.2⟩
  · show Heap.get? _ _ = some _
    rw [Heap.get?_push_size _ rfl]
    refine congrArg some ?_
    simp
  · rcases List.mem_cons.mp hq with rfl | hq
    · exact ⟨Heap.get?_push_size _ rfl, hLI, hIn⟩
    · exact ⟨Heap.get?_push_of_some _ (N q hq).1, (N q hq).2⟩
end
end Mine
end
theorem Mine.top_off_N18 : True := by
  w_top off
  trivial
section
open PySem PySem.W PySem.Calls PyProof.Rows PySem.W.KBw
open Sem (wp)
set_option maxRecDepth 100000
set_option maxHeartbeats 8000000
namespace Mine
section
variable {prog : Program} {w : World} {A : Around} {E : Value → Shared → Prop} {s : Shared}
/- the made list takes the octets of a bytes value -/
theorem extend_octets {R : Result → Shared → Prop} (hh : A.handled = none) (b : Array UInt8) (t : Tok) (S : Addr) (res : Value) (c₀ : Nat) (hS : s.heap.get? S = some { cls := .type "list", data := .seq #[] c₀ }) (hn : b.size ≤ sizeLine)
    (hR : ∀ h' tk acc c, (∀ x o, x ≠ S → s.heap.get? x = some o → h'.get? x = some o) → h'.get? S = some { cls := .type "list", dict := none, data := .seq acc c, slots := #[] } →
      ItemsOf (fun i v => ∃ c u, b[i]? = some c ∧ v = .int (c.toNat : Int) u) acc b.size → R (.ok (.ret res)) { s with heap := h', toks := tk }) :
    wpAny (model prog w) A.in1 (Builtin.List.listExtendWith (.ref S) (.bytes b t) res)
      (fun fin s' => match fin with | .done f => R (.ok f) s' | .again c' => c'.quiet = true ∧ codeAny (model prog w) A c' R s') (fun e s' => R (.error e) s') s := by
  have hlt := Heap.lt_size hS
  have hne : S ≠ s.heap.objs.size := Nat.ne_of_lt hlt
  unfold Builtin.List.listExtendWith
  refine wpAny_bind (wpAny_typeOf (T := "bytes") (v := .bytes b t) rfl ?_)
  rw [if_neg (by simp [Builtin.List.listSameRef])]
  refine wpAny_bind (pyIter_bytes ?_)
  refine wpAny_bind (wpAny_holding ?_)
  unfold Builtin.List.listLengthHint
  refine wpAny_bind (wpAny_specialOf (T := "bytes") (v := .bytes b t) rfl FB.slot_bytes_len.lookup ?_)
  wp_delta
  refine wpAny_bind (wpAny_isInstance (T := "bytes") (v := .bytes b t) (b := true) rfl (by rw [isSubtype_type]; kernel_rfl) ?_)
  show wpAny _ _ (typeOf (Value.bytes b t) >>= _) _ _ _
  refine wpAny_bind (wpAny_typeOf (T := "bytes") (v := .bytes b t) rfl ?_)
  refine wpAny_pure ?_
  rw [if_neg (by decide)]
  refine wpAny_pure ⟨plainId_quiet F.plain_extend_loop _, codeAny_extend_loopS (walks (prog := prog) (w := w) (A := A.in1) hh s.heap.objs.size b t).toS hn _ (fun hm => hne (List.mem_singleton.mp hm)) _ b.size 0 _ _ _ rfl (Nat.zero_le _) ⟨_, Heap.get?_push_size _ rfl, rfl, rfl⟩ (Heap.get?_push_of_some _ hS) (ItemsOf.nil _) fun s' acc c hm hS' hacc => ?_⟩
  rw [Moved.eq_with hm]
  refine hR s'.heap s'.toks acc c (fun x ob hx e => hm.heap x ob (fun hmem => ?_) (Heap.get?_push_of_some _ e)) hS' hacc
  rcases List.mem_cons.mp hmem with e' | hmem
  · exact hx e'
  · exact absurd (Heap.lt_size e) (by rw [List.mem_singleton.mp hmem]; exact Nat.lt_irrefl _)
/- list(bytes) -/
theorem list_octets {Q : Value → Shared → Prop} (hh : A.handled = none) (b : Array UInt8) (t : Tok) (hn : b.size ≤ sizeLine)
    (hQ : ∀ h' tk acc c, (∀ x o, s.heap.get? x = some o → h'.get? x = some o) → h'.get? s.heap.objs.size = some { cls := .type "list", dict := none, data := .seq acc c, slots := #[] } →
      ItemsOf (fun i v => ∃ c u, b[i]? = some c ∧ v = .int (c.toNat : Int) u) acc b.size → Q (.ref s.heap.objs.size) { s with heap := h', toks := tk }) :
    wpAny (model prog w) A (call (.type "list") [.bytes b t]) Q E s := by
  refine callType_codes (Q₁ := fun obj s₁ => obj = .ref s.heap.objs.size ∧ s₁ = { s with heap := s.heap.push { cls := .type "list", data := .seq #[] } }) F.called_list (F.typeCall_list_1 _) F.entry_list_init
    (code_list_new _ ⟨rfl, rfl⟩) fun obj s₁ h₁ => ?_
  obtain ⟨rfl, rfl⟩ := h₁
  have hS : (s.heap.push { cls := .type "list", data := .seq #[] }).get? s.heap.objs.size = some { cls := .type "list", data := .seq #[] } := Heap.get?_push_size _ rfl
  refine ⟨⟨_, hS, rfl⟩, F.args_list_init_2 _ _, ?_⟩
  show wpAny _ A.in1.in1 (do let old ← Builtin.List.listItems (.ref s.heap.objs.size); Builtin.List.listUpdate (.ref s.heap.objs.size) (fun _ => #[]); letGo old.toList.reverse; Builtin.List.listExtendWith (.ref s.heap.objs.size) (.bytes b t) .none) _ _ _
  refine wpAny_bind ?_
  unfold Builtin.List.listItems
  refine wpAny_bind (wpAny_seqItems hS rfl (wpAny_pure ?_))
  show wpAny _ _ (updateSeq s.heap.objs.size (fun _ => #[]) >>= fun _ => letGo (#[] : Array Value).toList.reverse >>= fun _ => Builtin.List.listExtendWith (.ref s.heap.objs.size) (.bytes b t) .none) _ _ _
  refine wpAny_bind (wpAny_updateSeq hS rfl ?_)
  refine wpAny_bind (wpAny_letGo ?_)
  refine extend_octets (A := A.in1) hh b t _ .none _ (Heap.get?_update_self (Obj.mapSeq (fun _ => (#[] : Array Value))) hS rfl) hn fun h' tk acc c hk hS' hacc => ?_
  exact ⟨rfl, hQ h' tk acc c (fun x o e => hk x o (Nat.ne_of_lt (Heap.lt_size e)) ((Heap.get?_update_other _ _ (Nat.ne_of_gt (Heap.lt_size e))).trans (Heap.get?_push_of_some _ e))) hS' hacc⟩
theorem ints_of_get : ∀ (us : List Value) (ns : List Int), us.length = ns.length → (∀ (i : Nat) (v : Value), us[i]? = some v → ∃ t, v = Value.int (ns.getD i 0) t) → IntsAre us ns
  | [], [], _, _ => .nil
  | u :: us, k :: ns, hl, h => by
    obtain ⟨t, rfl⟩ := h 0 u rfl
    exact .cons k t (ints_of_get us ns (by simpa using hl) fun i v e => h (i + 1) v e)
theorem list_octetsK {h₀ : Heap} {L : Addr} {m : PySem.Str → Option Value} {led : List (Addr × Obj)} {b : Array UInt8} {t : Tok} {Q : Value → Shared → Prop} (hh : A.handled = none) (F : Fr h₀ L s.heap m) (N : News h₀ L s.heap led) (hn : b.size ≤ 1000)
    (hQ : ∀ D us n h' tk, Fr h₀ L h' m → News h₀ L h' ((D, PySem.W.listOf (List.toArray us) n) :: led) → (∀ p ∈ led, @LT.lt Nat _ p.1 D) → IntsAre us (bInts b) → Q (.ref D) { s with heap := h', toks := tk }) :
    wpAny (model prog w) A (call (.type "list") [.bytes b t]) Q E s := by
  refine list_octets hh b t (by rw [sizeLine_eq]; omega) fun h' tk acc c hk hS hi => ?_
  refine hQ _ acc.toList c h' tk (F.keeps hk) (fun p hp => ?_) (fun p hp => Heap.lt_size (N p hp).1) (ints_of_get _ _ ?_ fun i v e => ?_)
  · rcases List.mem_cons.mp hp with rfl | hp
    · exact ⟨hS, Nat.ne_of_gt F.ns.lt, next_is_new F⟩
    · exact ⟨hk _ _ (N p hp).1, (N p hp).2⟩
  · rw [ints_length, Array.length_toList]
    exact hi.1
  · obtain ⟨c, u, hc, rfl⟩ := hi.2 i v (by rw [← Array.getElem?_toList]; exact e)
    exact ⟨u, by rw [List.getD_eq_getElem?_getD, ints_get hc]; rfl⟩
end
end Mine
end
theorem Mine.top_off_W0 : True := by
  w_top off
  trivial
section
open PySem PySem.W PySem.Calls PyProof.Rows
set_option maxRecDepth 100000
set_option maxHeartbeats 8000000
namespace Mine
/-! the law's body, taken out of the row by its place -/
noncomputable def defBody : Stmt → List Stmt
  | .FunctionDef (body := b) .. => b
  | _ => []
noncomputable def defScope : Stmt → Scope
  | .FunctionDef (scope := c) .. => c
  | _ => { kind := .module, names := [], isGenerator := false, isCoroutine := false }
noncomputable def lawDef : Stmt := PySem.Challenge.pw_jb0039_01.main.body.getLastD (.Pass ⟨0, 0, 0, 0⟩)
noncomputable def lawBody : List Stmt := defBody lawDef
noncomputable def lawScope : Scope := defScope lawDef
noncomputable def st (i : Nat) : Stmt := lawBody.getD i (.Pass ⟨0, 0, 0, 0⟩)
theorem lawBody_eq : lawBody = [st 0, st 1, st 2, st 3, st 4, st 5, st 6, st 7, st 8, st 9, st 10, st 11, st 12, st 13, st 14, st 15, st 16, st 17, st 18, st 19, st 20, st 21, st 22, st 23] := rfl
noncomputable abbrev lawCells (L : Addr) : List (Str × Addr) := [(Str.ofString "calls", L + 1 + 1 + 1 + 1 + 1 + 1 + 1), (Str.ofString "answer", L + 1 + 1 + 1 + 1 + 1 + 1), (Str.ofString "values", L + 1 + 1 + 1 + 1 + 1), (Str.ofString "places", L + 1 + 1 + 1 + 1), (Str.ofString "free", L + 1 + 1 + 1), (Str.ofString "size", L + 1 + 1), (Str.ofString "script", L + 1)]
noncomputable abbrev lawEnv (L fa : Addr) : Env := envX (Str.ofString "law") lawScope L fa (.ref 221) (lawCells L)
theorem lawEnv_eq (L fa : Addr) : envOfC (Str.ofString "law") lawScope L fa (.ref 221) = lawEnv L fa := rfl
end Mine
end
section
open PySem PySem.W PySem.Calls PyProof.Rows Mine
set_option maxRecDepth 100000
local macro_rules | `(tactic| walk_at "mine top") => `(tactic| first | assumption | exact Top.keeps (by assumption) (Fr.keep (by assumption)))
local macro_rules | `(tactic| walk_at "call ref") => `(tactic| (k_here; (with_reducible show wpAny _ _ (call (Value.ref 189) _) _ _ _); k_dflt (refine' number_spec _ _ _ _ _ _ _ _ _ _ _ _ _ _ _ _ _ _ ?k3 ?k4 ?kp ?kd ?ku ?_; (case k3 => k_in); (case k4 => walk_at "mine top"); (case kp => exact ⟨Fr.lst (by assumption) (by assumption), by assumption, by assumption, by omega, by omega⟩); (case kd => ktr_room); (case ku => ktr_units); intro v9 h9 tk9 r9 k9; (obtain ⟨t9, e9⟩ := r9); subst e9; (have F9 := Fr.keeps (by assumption) k9); (have N9 := news_keeps (by assumption) k9); clear k9; (try dsimp only); (try k_sweep); (try k_fold))))
local macro_rules | `(tactic| walk_at "call ref") => `(tactic| (k_here; (with_reducible show wpAny _ _ (call (Value.ref 196) _) _ _ _); k_dflt (refine' octets_spec _ _ _ _ _ _ _ _ _ _ _ _ _ _ _ _ _ ?k3 ?k4 ?kp ?kd ?ku ?_; (case k3 => k_in); (case k4 => walk_at "mine top"); (case kp => omega); (case kd => ktr_room); (case ku => ktr_units); intro v9 h9 tk9 r9 k9; (obtain ⟨t9, e9⟩ := r9); subst e9; (have F9 := Fr.keeps (by assumption) k9); (have N9 := news_keeps (by assumption) k9); clear k9; (try dsimp only); (try k_sweep); (try k_fold))))
theorem Mine.top_off_W1 : True := by
  w_top off
  trivial
section
open PySem PySem.W PySem.Calls PyProof.Rows
set_option maxRecDepth 100000
set_option maxHeartbeats 2000000
namespace Mine

theorem seg1 (w : World) (p : Program) (loose : List Str) (mean : ExcName → Option Value) (mg mb : Str → Option Value) (g : Heap) (L fa l : Addr) (vs : List Value) (ns : List Int) (m : Str → Option Value) (o1 o2 o3 o4 o5 o6 o7 : Obj) (ps pt : Array Value)
    (dp un : Nat) (fr : Option (List Env)) (gd : Option (List Code)) (s : Shared) (Q : Flow → Shared → Prop) (E : Value → Shared → Prop) (rest : List Stmt)
    (T : Top p loose mean mg mb g) (F : Fr g L s.heap m) (N : News g L s.heap [(L + 1 + 1 + 1 + 1 + 1 + 1 + 1, o7), (L + 1 + 1 + 1 + 1 + 1 + 1, o6), (L + 1 + 1 + 1 + 1 + 1, o5), (L + 1 + 1 + 1 + 1, o4), (L + 1 + 1 + 1, o3), (L + 1 + 1, o2), (L + 1, o1), (219, tabObj pt), (156, tabObj ps)])
    (hL : @LT.lt Nat _ 219 L ∧ @LT.lt Nat _ 156 L)
    (d1 : o1.data = .cell (some (.ref l))) (d2 : o2.data = .cell none) (hl : g.IsList l vs.toArray) (hi : IntsAre vs ns) (hln : ns.length ≤ 63) (hdp : dp + 60 < recursionLimit) (hu : un + 600 < cLine)
    (hcont : ∀ h' m' tk' o2', Fr g L h' m' → News g L h' [(L + 1 + 1 + 1 + 1 + 1 + 1 + 1, o7), (L + 1 + 1 + 1 + 1 + 1 + 1, o6), (L + 1 + 1 + 1 + 1 + 1, o5), (L + 1 + 1 + 1 + 1, o4), (L + 1 + 1 + 1, o3), (L + 1 + 1, o2'), (L + 1, o1), (219, tabObj pt), (156, tabObj ps)] →
      (∃ t, o2'.data = .cell (some (.int (sizeP ns) t))) → (∃ t, m' (Str.ofString "least") = some (.int (leastP ns) t)) → (∃ c t, m' (Str.ofString "count") = some (.int c t) ∧ c = countP ns) →
      wpAny (model PySem.Challenge.rw_jb0039_01.row.prog w) { handled := none, depth := dp, frames := fr, guards := gd, units := un } (execs rest (lawEnv L fa)) Q E { s with heap := h', toks := tk' }) :
    (hd.heap_39 w.params).In g → wpAny (model PySem.Challenge.rw_jb0039_01.row.prog w) { handled := none, depth := dp, frames := fr, guards := gd, units := un } (execs (st 0 :: st 1 :: st 2 :: st 3 :: rest) (lawEnv L fa)) Q E s := by
  k_fill
  intro X
  obtain ⟨hL1, hL2⟩ := hL
  with_unfolding_all (show wpAny _ _ (execs (Stmt.Assign _ _ _ :: Stmt.Assign _ _ _ :: Stmt.If _ _ _ _ :: Stmt.Assign _ _ _ :: rest) _) _ _ _)
  k_steps
  · exact hcont _ _ _ _ (by assumption) (by assumption) ⟨_, by assumption⟩ ⟨_, rfl⟩ ⟨_, _, rfl, (countP_fix (by assumption) (by assumption)).symm⟩
  · exact hcont _ _ _ _ (by assumption) (by assumption) ⟨_, by assumption⟩ ⟨_, rfl⟩ ⟨_, _, rfl, (countP_else (fun q => absurd q.2 (by assumption))).symm⟩
  · exact hcont _ _ _ _ (by assumption) (by assumption) ⟨_, by assumption⟩ ⟨_, rfl⟩ ⟨_, _, rfl, (countP_else (fun q => absurd q.1 (by assumption))).symm⟩
end Mine
end
local macro_rules | `(tactic| walk_at "mine pad") => `(tactic| fail "mine pad")
theorem Mine.top_off_W2 : True := by
  w_top off
  trivial
section
open PySem PySem.W PySem.Calls PyProof.Rows
set_option maxRecDepth 100000
set_option maxHeartbeats 2000000
namespace Mine
theorem stopQ {M : Model} {A : Around} {α : Type} {t : Sem α} {P : α → Shared → Prop} {E : Value → Shared → Prop} {s : Shared} (h : ∀ Q', Q' = P → wpAny M A t Q' E s) : wpAny M A t P E s := h P rfl

theorem seg2 (w : World) (p : Program) (loose : List Str) (mean : ExcName → Option Value) (mg mb : Str → Option Value) (g : Heap) (L fa : Addr) (m : Str → Option Value) (o1 o2 o3 o4 o5 o6 o7 : Obj) (ps pt : Array Value)
    (dp un : Nat) (fr : Option (List Env)) (gd : Option (List Code)) (s : Shared) (Q : Flow → Shared → Prop) (E : Value → Shared → Prop) (rest : List Stmt)
    (T : Top p loose mean mg mb g) (F : Fr g L s.heap m) (N : News g L s.heap [(L + 1 + 1 + 1 + 1 + 1 + 1 + 1, o7), (L + 1 + 1 + 1 + 1 + 1 + 1, o6), (L + 1 + 1 + 1 + 1 + 1, o5), (L + 1 + 1 + 1 + 1, o4), (L + 1 + 1 + 1, o3), (L + 1 + 1, o2), (L + 1, o1), (219, tabObj pt), (156, tabObj ps)])
    (hL : @LT.lt Nat _ 219 L ∧ @LT.lt Nat _ 156 L)
    (d3 : o3.data = .cell none) (hdp : dp + 60 < recursionLimit) (hu : un + 600 < cLine)
    (hcont : ∀ h' m' tk' o3' D (ys : List Value) n, Fr g L h' m' → m' = m → News g L h' [(D, listOf ys.toArray n), (L + 1 + 1 + 1 + 1 + 1 + 1 + 1, o7), (L + 1 + 1 + 1 + 1 + 1 + 1, o6), (L + 1 + 1 + 1 + 1 + 1, o5), (L + 1 + 1 + 1 + 1, o4), (L + 1 + 1 + 1, o3'), (L + 1 + 1, o2), (L + 1, o1), (219, tabObj pt), (156, tabObj ps)] →
      @LT.lt Nat _ (L + 1 + 1 + 1 + 1 + 1 + 1 + 1) D → o3'.data = .cell (some (.ref D)) → CarriedAll ys ((rangeInts 0 1 256).map .int) →
      wpAny (model PySem.Challenge.rw_jb0039_01.row.prog w) { handled := none, depth := dp, frames := fr, guards := gd, units := un } (execs rest (lawEnv L fa)) Q E { s with heap := h', toks := tk' }) :
    (hd.heap_39 w.params).In g → wpAny (model PySem.Challenge.rw_jb0039_01.row.prog w) { handled := none, depth := dp, frames := fr, guards := gd, units := un } (execs (st 4 :: rest) (lawEnv L fa)) Q E s := by
  k_fill
  intro X
  obtain ⟨hL1, hL2⟩ := hL
  with_unfolding_all (show wpAny _ _ (execs (Stmt.Assign _ _ _ :: rest) _) _ _ _)
  refine wpAny_execs_cons (wpAny_Assign_Name (stopQ fun Q' hQ => ?_))
  k_steps
  rename_i h1 tk1 t1 u1 v1 R1 F1 N1 k1 h2 tk2 ys2 F2 N2 k2 n2 x2 P2 C2 mk2
  obtain ⟨n9, N9, _⟩ := gn_enter P2 F2 N2 n2
  have hlt : @LT.lt Nat _ (L + 1 + 1 + 1 + 1 + 1 + 1 + 1) h1.objs.size := Heap.lt_size (N1 _ (.head _)).1
  clear P2 x2 mk2 k2 n2 N2 N1 F1 k1 R1
  subst hQ
  dsimp only at hlt N9 ⊢
  generalize h1.objs.size = D at *
  refine storeX_C F2 N9 rfl (by k_updF) d3 ?_
  intro h3 o3' F3 N3 d3'
  exact hcont _ _ _ _ _ _ _ F3 rfl N3 hlt d3' C2
end Mine
end
section
open PySem PySem.W PySem.Calls PyProof.Rows Mine
set_option maxRecDepth 100000
local macro_rules | `(tactic| walk_at "eval Name") => `(tactic| (k_here; (with_reducible show wpAny _ _ (eval (Expr.Name _ _) (envX _ _ _ _ _ _)) _ _ _); k_dflt (refine' nameX_L ?F ?v ?_ ?a ?b; (case F => k_asm); (case a => rfl); (case b => rfl); (case v => with_reducible assumption); k_whole)))
local macro_rules | `(tactic| walk_at "eval Name") => `(tactic| (k_here; (with_reducible show wpAny _ _ (eval (Expr.Name _ _) (compEnvC _ _ _ _)) _ _ _); k_dflt (refine' LCgL.ld_built ?F ?X ?T ?e ?v ?n ?_ ?hg ?hb ?hk ?hx ?hd; (case hg => rfl); (case hb => rfl); (case hk => rfl); (case hx => rfl); (case hd => decide); (case F => k_asm); (case X => k_asm); (case T => k_asm); (case e => k_is); (case v => rfl); (case n => decide))))
theorem Mine.top_off_W3 : True := by
  w_top off
  trivial
section
open PySem PySem.W PySem.Calls PyProof.Rows
set_option maxRecDepth 100000
set_option maxHeartbeats 2000000
namespace Mine
section
variable {prog : Program} {w : World} {A : Around} {E : Value → Shared → Prop} {s : Shared} {h₀ h : Heap} {L D : Addr} {m : Str → Option Value} {news news' : List (Addr × Obj)} {n : Nat} {env : Env}
theorem cut_at {us : List Value} {k : Nat} {y : Value} : us[k]? = some y → kl_cut us k = some (us.take k, y, us.drop (k + 1)) := by
  intro h
  induction us generalizing k with
  | nil => cases h
  | cons u r ih =>
    cases k with
    | zero => cases h; rfl
    | succ k => unfold kl_cut; rw [ih (by simpa using h)]; rfl
theorem ints_erase {us : List Value} {l : List Int} (hi : IntsAre us l) : ∀ k, IntsAre (us.eraseIdx k) (l.eraseIdx k) := by
  induction hi with
  | nil => intro k; exact .nil
  | cons k t r ih =>
    intro j
    cases j with
    | zero => exact r
    | succ j => exact .cons k t (ih j)
theorem ints_get {us : List Value} {l : List Int} (hi : IntsAre us l) : ∀ k, k < l.length → ∃ t, us[k]? = some (.int (l.getD k 0) t) := by
  induction hi with
  | nil => intro k h; exact absurd h (Nat.not_lt_zero _)
  | cons k t r ih =>
    intro j h
    cases j with
    | zero => exact ⟨t, rfl⟩
    | succ j => exact ih j (by simpa using h)
theorem ints_snoc {us : List Value} {l : List Int} (hi : IntsAre us l) (k : Int) (t : Tok) : IntsAre (us ++ [.int k t]) (l ++ [k]) := by
  induction hi with
  | nil => exact .cons k t .nil
  | cons k t r ih => exact .cons _ _ ih
/- list.pop at a place in bounds -/
theorem pop_at {us : List Value} {l : List Int} {i : Int} {u : Tok} {Q : Value → Shared → Prop} (F : Fr h₀ L s.heap m) (N : News h₀ L s.heap news) (h0 : 0 ≤ i) (h1 : i < (l.length : Int)) (hi : IntsAre us l) (hz : l.length ≤ 1000)
    (U : Upd D (listOf us.toArray n) (listOf (us.eraseIdx i.toNat).toArray (n + 1)) news news')
    (h : ∀ h' t, Fr h₀ L h' m → News h₀ L h' news' → Q (.int (l.getD i.toNat 0) t) { s with heap := h' }) : wpAny (model prog w) A (call (.builtin "list.pop") [.ref D, .int i u]) Q E s := by
  obtain ⟨k, rfl⟩ := Int.eq_ofNat_of_zero_le h0
  have hk : k < l.length := by omega
  have hlen := hi.length
  obtain ⟨t, ht⟩ := ints_get hi k hk
  have hus : us.toArray.size = us.length := by simp
  refine kl_popAt (n := n) (k := k) (p := us.take k) (q := us.drop (k + 1)) F N ?_ ?_ (cut_at ht) ?_ ?_ fun h' F' N' => h h' t F' N'
  · unfold Builtin.List.listFitsIndex; simp; omega
  · unfold seqIndex?; rw [hus]; simp; omega
  · rw [show us.take k ++ us.drop (k + 1) = us.eraseIdx k by rw [List.eraseIdx_eq_take_drop_succ]]
    exact U
  · rw [sizeLine_eq]; simp; omega
theorem comp_ind {elt : Expr} {x : Str} {scope : Scope} {cl : List (Str × Addr)} {S : List (Addr × Obj) → Prop} {P : Nat → Value → Prop} {Fin : List Value → List (Addr × Obj) → Prop} {N0 : Nat} (J : Nat → List Value → List (Addr × Obj) → Prop)
    (hfin : ∀ ys news, J N0 ys news → Fin ys news)
    (step : ∀ i ys news v I oI C oC D m₂ h tk (E' : Value → Shared → Prop), i < N0 → J i ys news → P i v → LCg.NsObj oC m₂ → m₂ x = some v → Fr h₀ L h m → News h₀ L h ((I, oI) :: (C, oC) :: (D, LCg.lst ys) :: news) → LCg.Off3 I C D news → ((@Ne Nat I C) ∧ (@Ne Nat I D) ∧ (@Ne Nat C D)) →
      wpAny (model prog w) A (eval elt (compEnvC scope cl C env)) (LCg.CompEnd h₀ L m { s with heap := h, toks := tk } I oI C oC D (LCg.lst ys) S (fun y news' => J (i + 1) (ys ++ [y]) news')) E' { s with heap := h, toks := tk }) :
    ∀ k i ys news, i + k = N0 → J i ys news → LCg.CompRest prog w A h₀ L m env elt x scope cl s S P Fin k i ys news
  | 0, i, ys, news, hk, hJ => LCg.CompRest.zero (hfin ys news (by rw [← hk]; exact hJ))
  | k + 1, i, ys, news, hk, hJ => LCg.CompRest.succ fun v I oI C oC D m₂ h tk E' hP hC hx F N off ne =>
      wpAny_mono (step i ys news v I oI C oC D m₂ h tk E' (by omega) hJ hP hC hx F N off ne) (fun y s₂ => by
        rintro ⟨h', tk', news', e, F', N', o', hS, hJ'⟩
        exact ⟨h', tk', news', e, F', N', o', hS, comp_ind J hfin step k (i + 1) _ _ (by omega) hJ'⟩) fun _ _ e => e
theorem listN {items : Array Value} (N : News h₀ L h news) (hm : (D, listOf items n) ∈ news) : h.IsList D items := ⟨_, (N _ hm).1, rfl, n, rfl⟩
theorem range_to {c : Int} (h : 0 ≤ c ∧ c ≤ 3) : Builtin.Range.small 0 c 1 = true ∧ Builtin.Range.rangeSize 0 c 1 = ((c.toNat : Nat) : Int) := by
  have : c = 0 ∨ c = 1 ∨ c = 2 ∨ c = 3 := by omega
  rcases this with rfl | rfl | rfl | rfl <;> decide +kernel
end
local macro_rules | `(tactic| walk_at "call builtin:list.pop") => `(tactic| (k_here; k_dflt (refine' pop_at ?F ?N ?a ?b ?i ?z ?U ?_; (case F => k_asm); (case N => k_asm); (case U => exact Upd.tail (by with_reducible assumption) (Upd.tail (by with_reducible assumption) (Upd.tail (by with_reducible assumption) (Upd.head (by with_reducible assumption))))); (case i => with_reducible assumption); (case a => with_reducible assumption); (case b => with_reducible assumption); (case z => with_reducible assumption)); intro h9 t9 F9 N9; (try dsimp only at N9)))
theorem seg3 (w : World) (p : Program) (loose : List Str) (mean : ExcName → Option Value) (mg mb : Str → Option Value) (g : Heap) (L fa l Df : Addr) (vs : List Value) (ns : List Int) (m : Str → Option Value) (o1 o2 o3 o4 o5 o6 o7 : Obj) (us : List Value) (nf n : Nat) (tc : Tok) (ps pt : Array Value)
    (dp un : Nat) (fr : Option (List Env)) (gd : Option (List Code)) (s : Shared) (Q : Flow → Shared → Prop) (E : Value → Shared → Prop) (rest : List Stmt)
    (T : Top p loose mean mg mb g) (F : Fr g L s.heap m) (N : News g L s.heap [(Df, listOf us.toArray nf), (L + 1 + 1 + 1 + 1 + 1 + 1 + 1, o7), (L + 1 + 1 + 1 + 1 + 1 + 1, o6), (L + 1 + 1 + 1 + 1 + 1, o5), (L + 1 + 1 + 1 + 1, o4), (L + 1 + 1 + 1, o3), (L + 1 + 1, o2), (L + 1, o1), (219, tabObj pt), (156, tabObj ps)])
    (hL : @LT.lt Nat _ 219 L ∧ @LT.lt Nat _ 156 L ∧ @LT.lt Nat _ (L + 1 + 1 + 1 + 1 + 1 + 1 + 1) Df)
    (d1 : o1.data = .cell (some (.ref l))) (d3 : o3.data = .cell (some (.ref Df))) (d4 : o4.data = .cell none) (hl : g.IsList l vs.toArray) (hi : IntsAre vs ns) (hln : ns.length ≤ 63) (hus : IntsAre us (freeP ns 0)) (hn : n ≤ 3) (hc : m (Str.ofString "count") = some (.int (n : Int) tc)) (hdp : dp + 60 < recursionLimit) (hu : un + 600 < cLine)
    (hcont : ∀ h' tk' o4' us' nf' Dp ys, Fr g L h' m → News g L h' [(Dp, LCg.lst ys), (Df, listOf us'.toArray nf'), (L + 1 + 1 + 1 + 1 + 1 + 1 + 1, o7), (L + 1 + 1 + 1 + 1 + 1 + 1, o6), (L + 1 + 1 + 1 + 1 + 1, o5), (L + 1 + 1 + 1 + 1, o4'), (L + 1 + 1 + 1, o3), (L + 1 + 1, o2), (L + 1, o1), (219, tabObj pt), (156, tabObj ps)] →
      LCg.Off1 Dp [(Df, listOf us'.toArray nf'), (L + 1 + 1 + 1 + 1 + 1 + 1 + 1, o7), (L + 1 + 1 + 1 + 1 + 1 + 1, o6), (L + 1 + 1 + 1 + 1 + 1, o5), (L + 1 + 1 + 1 + 1, o4'), (L + 1 + 1 + 1, o3), (L + 1 + 1, o2), (L + 1, o1), (219, tabObj pt), (156, tabObj ps)] → o4'.data = .cell (some (.ref Dp)) → IntsAre us' (freeP ns n) → IntsAre ys (placesP ns n) →
      wpAny (model PySem.Challenge.rw_jb0039_01.row.prog w) { handled := none, depth := dp, frames := fr, guards := gd, units := un } (execs rest (lawEnv L fa)) Q E { s with heap := h', toks := tk' }) :
    (hd.heap_39 w.params).In g → wpAny (model PySem.Challenge.rw_jb0039_01.row.prog w) { handled := none, depth := dp, frames := fr, guards := gd, units := un } (execs (st 5 :: rest) (lawEnv L fa)) Q E s := by
  k_fill
  intro X
  obtain ⟨hL1, hL2, hL3⟩ := hL
  obtain ⟨hr1, hr2⟩ := range_to (c := (n : Int)) (by omega)
  with_unfolding_all (show wpAny _ _ (execs (Stmt.Assign _ _ _ :: rest) _) _ _ _)
  refine wpAny_execs_cons (wpAny_Assign_Name (stopQ fun Q' hQ => ?_))
  refine LCg.ListComp_U F (by with_unfolding_all rfl) (by decide) (by rfl) (by decide) (by rfl) ?_
  refine stopQ fun Q1 hQ1 => ?_
  k_steps
  subst hQ1
  (have F1 := by with_reducible assumption)
  refine LCg.CompSrc.range (by rfl) (by k_asm) (by k_asm) (by assumption) hr1 hr2 (by rw [sizeLine_eq]; omega) ?_
  intro g'
  refine comp_ind (J := fun i ys news => ∃ us' nf', news = [(Df, listOf us'.toArray nf'), (L + 1 + 1 + 1 + 1 + 1 + 1 + 1, o7), (L + 1 + 1 + 1 + 1 + 1 + 1, o6), (L + 1 + 1 + 1 + 1 + 1, o5), (L + 1 + 1 + 1 + 1, o4), (L + 1 + 1 + 1, o3), (L + 1 + 1, o2), (L + 1, o1), (219, tabObj pt), (156, tabObj ps)] ∧ IntsAre us' (freeP ns i) ∧ IntsAre ys (placesP ns i)) ?_ ?_ _ _ _ _ (Nat.zero_add _) ⟨us, nf, rfl, hus, .nil⟩
  · rintro ys news ⟨us', nf', rfl, hus', hys⟩
    intro D2 h2 tk2 F2 N2 off2
    subst hQ
    dsimp only at ⊢
    rw [show (n : Int).toNat = n by omega] at hus' hys
    have o2 := id off2
    simp only [LCg.Off1, and_true] at o2
    refine storeX_C F2 N2 rfl (by k_updF) d4 ?_
    intro h3 o4' F3 N3 d4'
    exact hcont _ _ _ _ _ _ _ F3 N3 off2 d4' hus' hys
  · rintro i ys news v I oI C oC D m₂ h tk E' hlt ⟨us', nf', rfl, hus', hys⟩ ⟨tv, rfl⟩ hC hx F N off ne
    clear ne
    have hoD : I ≠ Df ∧ C ≠ Df ∧ D ≠ Df := ⟨Ne.symm off.1.1, Ne.symm off.1.2.1, Ne.symm off.1.2.2⟩
    have hcD : ∀ q ∈ [(L + 1 + 1 + 1 + 1 + 1 + 1 + 1, o7), (L + 1 + 1 + 1 + 1 + 1 + 1, o6), (L + 1 + 1 + 1 + 1 + 1, o5), (L + 1 + 1 + 1 + 1, o4), (L + 1 + 1 + 1, o3), (L + 1 + 1, o2), (L + 1, o1), (219, tabObj pt), (156, tabObj ps)], q.1 ≠ Df := by k_all
    have hlen : us'.toArray.size = 256 - i := by rw [List.size_toArray, hus'.length, freeP_len ns i (by omega)]
    have hb0 : 0 ≤ (num ns (3 + (0 + (i : Int)))).fmod ((256 - i : Nat) : Int) := Int.fmod_nonneg_of_pos _ (by omega)
    have hb1 : (num ns (3 + (0 + (i : Int)))).fmod ((256 - i : Nat) : Int) < ((freeP ns i).length : Int) := by
      rw [freeP_len ns i (by omega)]
      exact Int.fmod_lt_of_pos _ (by omega)
    have hb2 : (freeP ns i).length ≤ 1000 := by rw [freeP_len ns i (by omega)]; omega
    obtain ⟨ho1, ho2, ho3⟩ := hoD
    refine stopQ fun Q1 hQ1 => ?_
    k_steps
    subst hQ1
    have hx : ((num ns (3 + (0 + (i : Int)))).fmod ((256 - i : Nat) : Int)).toNat = idxP ns i := by
      unfold idxP
      rw [Int.zero_add, show ((256 - i : Nat) : Int) = 256 - (i : Int) by omega]
    refine LCg.CompEnd.intro (by assumption) (by assumption) _ (fun _ h => h) ?o trivial ⟨_, _, rfl, ?_, ?_⟩
    case o => exact off
    · rw [hx]; exact ints_erase hus' _
    · rw [hx, placesP_succ]; exact ints_snoc hys _ _
end Mine
end
local macro_rules | `(tactic| walk_at "mine pad") => `(tactic| fail "mine pad")
local macro_rules | `(tactic| walk_at "mine pad") => `(tactic| fail "mine pad")
theorem Mine.top_off_W4 : True := by
  w_top off
  trivial
section
open PySem PySem.W PySem.Calls PyProof.Rows
set_option maxRecDepth 100000
set_option maxHeartbeats 2000000
namespace Mine
theorem upd_c5 {L : Addr} {o1 o2 o3 o4 o5 o6 o7 : Obj} {ps pt : Array Value} (hL : @LT.lt Nat _ 219 L ∧ @LT.lt Nat _ 156 L) : UpdF (L + 1 + 1 + 1 + 1 + 1) o5 [(L + 1 + 1 + 1 + 1 + 1 + 1 + 1, o7), (L + 1 + 1 + 1 + 1 + 1 + 1, o6), (L + 1 + 1 + 1 + 1 + 1, o5), (L + 1 + 1 + 1 + 1, o4), (L + 1 + 1 + 1, o3), (L + 1 + 1, o2), (L + 1, o1), (219, tabObj pt), (156, tabObj ps)] (fun o' => [(L + 1 + 1 + 1 + 1 + 1 + 1 + 1, o7), (L + 1 + 1 + 1 + 1 + 1 + 1, o6), (L + 1 + 1 + 1 + 1 + 1, o'), (L + 1 + 1 + 1 + 1, o4), (L + 1 + 1 + 1, o3), (L + 1 + 1, o2), (L + 1, o1), (219, tabObj pt), (156, tabObj ps)]) := by
  obtain ⟨hL1, hL2⟩ := hL
  k_updF

local macro_rules | `(tactic| walk_at "binaryOp Mult int int") => `(tactic| (k_here; k_dflt (refine' mul_int ?_ ?hm; (case hm => with_reducible assumption))))
theorem seg4 (w : World) (p : Program) (loose : List Str) (mean : ExcName → Option Value) (mg mb : Str → Option Value) (g : Heap) (L fa : Addr) (m : Str → Option Value) (o1 o2 o3 o4 o5 o6 o7 : Obj) (ps pt : Array Value) (l Df Dp : Addr) (vs us pl : List Value) (ns : List Int) (nf np n : Nat) (tc tz : Tok)
    (dp un : Nat) (fr : Option (List Env)) (gd : Option (List Code)) (s : Shared) (Q : Flow → Shared → Prop) (E : Value → Shared → Prop) (rest : List Stmt)
    (T : Top p loose mean mg mb g) (F : Fr g L s.heap m) (N : News g L s.heap [(Dp, listOf pl.toArray np), (Df, listOf us.toArray nf), (L + 1 + 1 + 1 + 1 + 1 + 1 + 1, o7), (L + 1 + 1 + 1 + 1 + 1 + 1, o6), (L + 1 + 1 + 1 + 1 + 1, o5), (L + 1 + 1 + 1 + 1, o4), (L + 1 + 1 + 1, o3), (L + 1 + 1, o2), (L + 1, o1), (219, tabObj pt), (156, tabObj ps)])
    (hL : @LT.lt Nat _ 219 L ∧ @LT.lt Nat _ 156 L) (hDf : @LT.lt Nat _ (L + 1 + 1 + 1 + 1 + 1 + 1 + 1) Df) (offp : LCg.Off1 Dp [(Df, listOf us.toArray nf), (L + 1 + 1 + 1 + 1 + 1 + 1 + 1, o7), (L + 1 + 1 + 1 + 1 + 1 + 1, o6), (L + 1 + 1 + 1 + 1 + 1, o5), (L + 1 + 1 + 1 + 1, o4), (L + 1 + 1 + 1, o3), (L + 1 + 1, o2), (L + 1, o1), (219, tabObj pt), (156, tabObj ps)])
    (d1 : o1.data = .cell (some (.ref l))) (d2 : o2.data = .cell (some (.int (sizeP ns) tz))) (d5 : o5.data = .cell none) (hl : g.IsList l vs.toArray) (hi : IntsAre vs ns) (hln : ns.length ≤ 63) (hlay : PyData.layable0 (.list (ns.map .int)) = true) (hn : n ≤ 3) (hc : m (Str.ofString "count") = some (.int (n : Int) tc)) (hdp : dp + 60 < recursionLimit) (hu : un + 600 < cLine)
    (hcont : ∀ h' tk' o5' Dv ys, Fr g L h' m → News g L h' [(Dv, LCg.lst ys), (Dp, listOf pl.toArray np), (Df, listOf us.toArray nf), (L + 1 + 1 + 1 + 1 + 1 + 1 + 1, o7), (L + 1 + 1 + 1 + 1 + 1 + 1, o6), (L + 1 + 1 + 1 + 1 + 1, o5'), (L + 1 + 1 + 1 + 1, o4), (L + 1 + 1 + 1, o3), (L + 1 + 1, o2), (L + 1, o1), (219, tabObj pt), (156, tabObj ps)] →
      LCg.Off1 Dv [(Dp, listOf pl.toArray np), (Df, listOf us.toArray nf), (L + 1 + 1 + 1 + 1 + 1 + 1 + 1, o7), (L + 1 + 1 + 1 + 1 + 1 + 1, o6), (L + 1 + 1 + 1 + 1 + 1, o5'), (L + 1 + 1 + 1 + 1, o4), (L + 1 + 1 + 1, o3), (L + 1 + 1, o2), (L + 1, o1), (219, tabObj pt), (156, tabObj ps)] → o5'.data = .cell (some (.ref Dv)) → IntsAre ys (valuesP ns n) →
      wpAny (model PySem.Challenge.rw_jb0039_01.row.prog w) { handled := none, depth := dp, frames := fr, guards := gd, units := un } (execs rest (lawEnv L fa)) Q E { s with heap := h', toks := tk' }) :
    (hd.heap_39 w.params).In g → wpAny (model PySem.Challenge.rw_jb0039_01.row.prog w) { handled := none, depth := dp, frames := fr, guards := gd, units := un } (execs (st 6 :: rest) (lawEnv L fa)) Q E s := by
  k_fill
  intro X
  have hL0 := hL
  obtain ⟨hL1, hL2⟩ := hL
  obtain ⟨hr1, hr2⟩ := range_to (c := (n : Int)) (by omega)
  have hsz := sizeP_bounds ns
  with_unfolding_all (show wpAny _ _ (execs (Stmt.Assign _ _ _ :: rest) _) _ _ _)
  refine wpAny_execs_cons (wpAny_Assign_Name (stopQ fun Q' hQ => ?_))
  refine LCg.ListComp_U F (by with_unfolding_all rfl) (by decide) (by rfl) (by decide) (by rfl) ?_
  refine stopQ fun Q1 hQ1 => ?_
  k_steps
  subst hQ1
  refine LCg.CompSrc.range (by rfl) (by k_asm) (by k_asm) (by assumption) hr1 hr2 (by rw [sizeLine_eq]; omega) ?_
  intro g'
  refine comp_ind (J := fun i ys news => news = [(Dp, listOf pl.toArray np), (Df, listOf us.toArray nf), (L + 1 + 1 + 1 + 1 + 1 + 1 + 1, o7), (L + 1 + 1 + 1 + 1 + 1 + 1, o6), (L + 1 + 1 + 1 + 1 + 1, o5), (L + 1 + 1 + 1 + 1, o4), (L + 1 + 1 + 1, o3), (L + 1 + 1, o2), (L + 1, o1), (219, tabObj pt), (156, tabObj ps)] ∧ IntsAre ys (valuesP ns i)) ?_ ?_ _ _ _ _ (Nat.zero_add _) ⟨rfl, .nil⟩
  · rintro ys news ⟨rfl, hys⟩
    intro D2 h2 tk2 F2 N2 off2
    subst hQ
    dsimp only at ⊢
    rw [show (n : Int).toNat = n by omega] at hys
    refine storeX_C F2 N2 rfl (UpdF.tail (Ne.symm off2.2.2.2.2.1) (UpdF.tail (Ne.symm offp.2.2.2.1) (UpdF.tail (by k_ne) (upd_c5 hL0)))) d5 ?_
    intro h3 o5' F3 N3 d5'
    exact hcont _ _ _ _ _ F3 N3 off2 d5' hys
  · rintro i ys news v I oI C oC D m₂ h tk E' hlt ⟨rfl, hys⟩ ⟨tv, rfl⟩ hC hx F N off ne
    clear ne
    have hmul : IntMulOk (num ns (6 + (0 + (i : Int)))) 16395309179817738009521987751666139093583423331470737840399399094199505546377 := num_mulOk hlay (by omega) (by omega)
    refine stopQ fun Q1 hQ1 => ?_
    k_steps
    subst hQ1
    have e : valueP ns i = (num ns (6 + (0 + (i : Int))) * 16395309179817738009521987751666139093583423331470737840399399094199505546377).fmod (256 ^ (sizeP ns).toNat) := by unfold valueP spreadP; rw [Int.zero_add]
    refine LCg.CompEnd.intro (by assumption) (by assumption) _ (fun _ h => h) ?o trivial ⟨rfl, ?_⟩
    case o => exact off
    rw [valuesP_succ, e]
    exact ints_snoc hys _ _
end Mine
end
theorem Mine.top_off_W5 : True := by
  w_top off
  trivial
section
open PySem PySem.W PySem.Calls PyProof.Rows
set_option maxRecDepth 100000
set_option maxHeartbeats 2000000
namespace Mine

section
variable {prog : Program} {w : World} {A : Around} {E : Value → Shared → Prop} {s : Shared} {h₀ h h' : Heap} {L a dx D : Addr} {m : Str → Option Value} {news : List (Addr × Obj)} {oa od : Obj}
/- two fresh objects enter the ledger -/
theorem news_two (F : Fr h₀ L h m) (N : News h₀ L h news) (k : Kept h h') (n : h.get? a = none) (z : h.get? dx = none ∧ @Ne Nat a dx) (ga : h'.get? a = some oa) (gd : h'.get? dx = some od) : News h₀ L h' ((a, oa) :: (dx, od) :: news) := by
  have fresh : ∀ b, h.get? b = none → b ≠ L ∧ h₀.get? b = none := fun b hb => by
    refine ⟨fun q => ?_, ?_⟩
    · obtain ⟨o, _, _, e, _⟩ := F.ns
      rw [q] at hb
      rw [hb] at e
      cases e
    · cases q : h₀.get? b with
      | none => rfl
      | some o => rw [F.keep _ _ q] at hb; cases hb
  intro p hp
  rcases List.mem_cons.mp hp with rfl | hp
  · exact ⟨ga, fresh _ n⟩
  · rcases List.mem_cons.mp hp with rfl | hp
    · exact ⟨gd, fresh _ z.1⟩
    · exact ⟨k _ _ (N p hp).1, (N p hp).2⟩
theorem ne_fresh (N : News h₀ L h news) (n : h.get? a = none) : ∀ p ∈ news, p.1 ≠ a := fun p hp q => by
  have := (N p hp).1
  rw [q, n] at this
  cases this
theorem item_ints {us : List Value} {l : List Int} {n : Nat} {value slice : PySem.Expr} {k : Int} {u : Tok} {Q : Value → Shared → Prop} (N : News h₀ L s.heap news) (hm : (D, listOf us.toArray n) ∈ news) (hi : IntsAre us l) (h0 : 0 ≤ k) (h1 : k < (l.length : Int)) (h2 : k < 2 ^ 63)
    (h : ∀ t, Q (.int (l.getD k.toNat 0) t) s) (hs : subscripted slice false (.ref D) (.int k u) = operate [.ref D, .int k u] (getItem (.ref D) (.int k u)) := by with_unfolding_all rfl) :
    wpAny (model prog w) A (subscriptTail value slice (.ref D) (.int k u)) Q E s := by
  obtain ⟨t, ht⟩ := ints_get hi k.toNat (by omega)
  have hl := listN N hm
  exact tail_any hl.typeIs slot_list_getitem.lookup (wpAny_getItem_list hl h0 h2 (by simpa using ht) (h t)) hs
end
theorem mem_shuffle {α : Type} (pre mid post : List α) : ∀ p ∈ pre ++ (mid ++ post), p ∈ mid ++ (pre ++ post) := fun p hp => by
  simp only [List.mem_append] at hp ⊢
  rcases hp with h | h | h
  · exact .inr (.inl h)
  · exact .inl h
  · exact .inr (.inr h)
/- the shares of a list, as the ledger bears them -/
noncomputable def SharesL (sh : List (Addr × Obj)) (ys : List Value) (ds : List (Int × Array UInt8)) : Prop :=
  ys.length = ds.length ∧ ∀ i v, ys[i]? = some v → ∃ a t u dx, v = .ref a ∧ (a, shareObj dx #[.int (ds.getD i (0, #[])).1 t, .bytes (ds.getD i (0, #[])).2 u]) ∈ sh ∧ (dx, emptyDict) ∈ sh
theorem SharesL.nil : SharesL [] [] [] := ⟨rfl, fun i v h => by cases h⟩
theorem SharesL.snoc {sh : List (Addr × Obj)} {ys : List Value} {ds : List (Int × Array UInt8)} (x : SharesL sh ys ds) (a dx : Addr) (k : Int) (d : Array UInt8) (t u : Tok) :
    SharesL ((a, shareObj dx #[.int k t, .bytes d u]) :: (dx, emptyDict) :: sh) (ys ++ [.ref a]) (ds ++ [(k, d)]) := by
  refine ⟨by simp [x.1], fun i v h => ?_⟩
  by_cases hi : i < ys.length
  · rw [List.getElem?_append_left hi] at h
    obtain ⟨a', t', u', dx', e, m1, m2⟩ := x.2 i v h
    have : (ds ++ [(k, d)]).getD i (0, #[]) = ds.getD i (0, #[]) := by rw [List.getD_eq_getElem?_getD, List.getElem?_append_left (by rw [← x.1]; exact hi), List.getD_eq_getElem?_getD]
    rw [this]
    exact ⟨a', t', u', dx', e, .tail _ (.tail _ m1), .tail _ (.tail _ m2)⟩
  · rw [List.getElem?_append_right (by omega)] at h
    have hi0 : i - ys.length = 0 := by
      cases q : i - ys.length with
      | zero => rfl
      | succ j => rw [q] at h; cases h
    rw [hi0] at h
    cases h
    have : (ds ++ [(k, d)]).getD i (0, #[]) = (k, d) := by rw [List.getD_eq_getElem?_getD, List.getElem?_append_right (by rw [← x.1]; omega), ← x.1, hi0]; rfl
    rw [this]
    exact ⟨a, t, u, dx, rfl, .head _, .tail _ (.head _)⟩
local macro_rules | `(tactic| walk_at "call ref") => `(tactic| (k_here; (with_reducible show wpAny _ _ (call (Value.ref 145) _) _ _ _); k_dflt (refine' share_spec _ _ _ _ _ _ _ _ _ _ _ _ _ _ _ _ _ ?k3 ?k4 ?kp ?kd ?ku ?_; (case k3 => k_in); (case k4 => walk_at "mine top"); (case kp => trivial); (case kd => ktr_room); (case ku => ktr_units); intro v9 h9 tk9 r9 k9; (obtain ⟨a9, dx9, e9, n9, z9, g9, d9⟩ := r9); subst e9; (have N9 := news_two (by assumption) (by assumption) k9 n9 z9 g9 d9); (have F9 := Fr.keeps (by assumption) k9); (try dsimp only))))
local macro_rules | `(tactic| walk_at "subscriptTail") => `(tactic| (k_here; (with_reducible show wpAny _ _ (subscriptTail _ _ (Value.ref _) (Value.int _ _)) _ _ _); k_dflt (refine' item_ints ?N ?mm ?i ?a ?b ?c ?_ ?d; (case d => with_unfolding_all rfl); (case N => k_asm); (case mm => k_mem); (case i => with_reducible assumption); (case a => omega); (case b => walk_at "mine len"); (case c => omega)); intro t9))

local macro_rules | `(tactic| walk_at "mine len") => `(tactic| with_reducible assumption)
theorem seg5 (w : World) (p : Program) (loose : List Str) (mean : ExcName → Option Value) (mg mb : Str → Option Value) (g : Heap) (L fa : Addr) (m : Str → Option Value) (o1 o2 o3 o4 o5 o6 o7 : Obj) (ps pt : Array Value) (Df Dp Dv : Addr) (us pl vl : List Value) (ns : List Int) (nf np nv n : Nat) (tc tz : Tok)
    (dp un : Nat) (fr : Option (List Env)) (gd : Option (List Code)) (s : Shared) (Q : Flow → Shared → Prop) (E : Value → Shared → Prop) (rest : List Stmt)
    (T : Top p loose mean mg mb g) (F : Fr g L s.heap m) (N : News g L s.heap [(Dv, listOf vl.toArray nv), (Dp, listOf pl.toArray np), (Df, listOf us.toArray nf), (L + 1 + 1 + 1 + 1 + 1 + 1 + 1, o7), (L + 1 + 1 + 1 + 1 + 1 + 1, o6), (L + 1 + 1 + 1 + 1 + 1, o5), (L + 1 + 1 + 1 + 1, o4), (L + 1 + 1 + 1, o3), (L + 1 + 1, o2), (L + 1, o1), (219, tabObj pt), (156, tabObj ps)])
    (d2 : o2.data = .cell (some (.int (sizeP ns) tz))) (d4 : o4.data = .cell (some (.ref Dp))) (d5 : o5.data = .cell (some (.ref Dv))) (hpl : IntsAre pl (placesP ns n)) (hvl : IntsAre vl (valuesP ns n)) (hn : n ≤ 3) (hc : m (Str.ofString "count") = some (.int (n : Int) tc)) (hdp : dp + 60 < recursionLimit) (hu : un + 600 < cLine)
    (hcont : ∀ h' m' tk' sh D ys, Fr g L h' m' → (∀ y, y ≠ Str.ofString "points" → m' y = m y) → m' (Str.ofString "points") = some (.ref D) → News g L h' ((D, LCg.lst ys) :: (Dv, listOf vl.toArray nv) :: (Dp, listOf pl.toArray np) :: (Df, listOf us.toArray nf) :: (L + 1 + 1 + 1 + 1 + 1 + 1 + 1, o7) :: (L + 1 + 1 + 1 + 1 + 1 + 1, o6) :: (L + 1 + 1 + 1 + 1 + 1, o5) :: (L + 1 + 1 + 1 + 1, o4) :: (L + 1 + 1 + 1, o3) :: (L + 1 + 1, o2) :: (L + 1, o1) :: (219, tabObj pt) :: (156, tabObj ps) :: sh) →
      LCg.Off1 D ((Dv, listOf vl.toArray nv) :: (Dp, listOf pl.toArray np) :: (Df, listOf us.toArray nf) :: (L + 1 + 1 + 1 + 1 + 1 + 1 + 1, o7) :: (L + 1 + 1 + 1 + 1 + 1 + 1, o6) :: (L + 1 + 1 + 1 + 1 + 1, o5) :: (L + 1 + 1 + 1 + 1, o4) :: (L + 1 + 1 + 1, o3) :: (L + 1 + 1, o2) :: (L + 1, o1) :: (219, tabObj pt) :: (156, tabObj ps) :: sh) → (∀ q ∈ sh, ∀ q' ∈ [(Dv, listOf vl.toArray nv), (Dp, listOf pl.toArray np), (Df, listOf us.toArray nf), (L + 1 + 1 + 1 + 1 + 1 + 1 + 1, o7), (L + 1 + 1 + 1 + 1 + 1 + 1, o6), (L + 1 + 1 + 1 + 1 + 1, o5), (L + 1 + 1 + 1 + 1, o4), (L + 1 + 1 + 1, o3), (L + 1 + 1, o2), (L + 1, o1), (219, tabObj pt), (156, tabObj ps)], q.1 ≠ q'.1) → SharesL sh ys (pointsP ns n) →
      wpAny (model PySem.Challenge.rw_jb0039_01.row.prog w) { handled := none, depth := dp, frames := fr, guards := gd, units := un } (execs rest (lawEnv L fa)) Q E { s with heap := h', toks := tk' }) :
    (hd.heap_39 w.params).In g → wpAny (model PySem.Challenge.rw_jb0039_01.row.prog w) { handled := none, depth := dp, frames := fr, guards := gd, units := un } (execs (st 7 :: rest) (lawEnv L fa)) Q E s := by
  k_fill
  intro X
  obtain ⟨hr1, hr2⟩ := range_to (c := (n : Int)) (by omega)
  have hsz := sizeP_bounds ns
  with_unfolding_all (show wpAny _ _ (execs (Stmt.Assign _ _ _ :: rest) _) _ _ _)
  refine wpAny_execs_cons ?_
  refine LCg.Assign_ListComp_U (F₀ := F) (by rfl) (by with_unfolding_all rfl) (by with_unfolding_all rfl) (by decide) (by rfl) (by decide) (by rfl) (by rfl) (by rfl) ?_
  refine stopQ fun Q1 hQ1 => ?_
  k_steps
  subst hQ1
  refine LCg.CompSrc.range (by rfl) (by k_asm) (by k_asm) (by assumption) hr1 hr2 (by rw [sizeLine_eq]; omega) ?_
  intro g'
  refine comp_ind (J := fun i ys news => ∃ sh, news = (Dv, listOf vl.toArray nv) :: (Dp, listOf pl.toArray np) :: (Df, listOf us.toArray nf) :: (L + 1 + 1 + 1 + 1 + 1 + 1 + 1, o7) :: (L + 1 + 1 + 1 + 1 + 1 + 1, o6) :: (L + 1 + 1 + 1 + 1 + 1, o5) :: (L + 1 + 1 + 1 + 1, o4) :: (L + 1 + 1 + 1, o3) :: (L + 1 + 1, o2) :: (L + 1, o1) :: (219, tabObj pt) :: (156, tabObj ps) :: sh ∧ (∀ q ∈ sh, ∀ q' ∈ ([(Dv, listOf vl.toArray nv), (Dp, listOf pl.toArray np), (Df, listOf us.toArray nf), (L + 1 + 1 + 1 + 1 + 1 + 1 + 1, o7), (L + 1 + 1 + 1 + 1 + 1 + 1, o6), (L + 1 + 1 + 1 + 1 + 1, o5), (L + 1 + 1 + 1 + 1, o4), (L + 1 + 1 + 1, o3), (L + 1 + 1, o2), (L + 1, o1), (219, tabObj pt), (156, tabObj ps)] : List (Addr × Obj)), q.1 ≠ q'.1) ∧ SharesL sh ys (pointsP ns i)) ?_ ?_ _ _ _ _ (Nat.zero_add _) ⟨[], rfl, (fun _ h => nomatch h), SharesL.nil⟩
  · rintro ys news ⟨sh, rfl, hap, hsh⟩
    intro D2 h2 tk2 F2 N2 off2
    rw [show (n : Int).toNat = n by omega] at hsh
    exact hcont _ _ _ _ _ _ F2 (fun y hy => if_neg hy) (if_pos rfl) N2 off2 hap hsh
  · rintro i ys news v I oI C oC D m₂ h tk E' hlt ⟨sh, rfl, hap, hsh⟩ ⟨tv, rfl⟩ hC hx F N off ne
    clear ne
    have hl1 : 0 + (i : Int) < ((placesP ns n).length : Int) := by rw [placesP_len]; omega
    have hl2 : 0 + (i : Int) < ((valuesP ns n).length : Int) := by rw [valuesP_len]; omega
    refine stopQ fun Q1 hQ1 => ?_
    k_steps
    subst hQ1
    rename_i t1 t2 h8 tk8 t3 F8 N8 h9 tk9 k9 a9 dx9 n9 z9 g9 d9 N9 F9
    have hna := ne_fresh N8 n9
    have hnz := ne_fresh N8 z9.1
    have e : (0 + (i : Int)).toNat = i := by omega
    rw [e, placesP_getD ns (by omega), valuesP_getD ns (by omega)] at N9
    clear g9 d9 k9
    have hm : ∀ q ∈ ([(Dv, listOf vl.toArray nv), (Dp, listOf pl.toArray np), (Df, listOf us.toArray nf), (L + 1 + 1 + 1 + 1 + 1 + 1 + 1, o7), (L + 1 + 1 + 1 + 1 + 1 + 1, o6), (L + 1 + 1 + 1 + 1 + 1, o5), (L + 1 + 1 + 1 + 1, o4), (L + 1 + 1 + 1, o3), (L + 1 + 1, o2), (L + 1, o1), (219, tabObj pt), (156, tabObj ps)] : List (Addr × Obj)), q ∈ (I, oI) :: (C, oC) :: (D, LCg.lst ys) :: (Dv, listOf vl.toArray nv) :: (Dp, listOf pl.toArray np) :: (Df, listOf us.toArray nf) :: (L + 1 + 1 + 1 + 1 + 1 + 1 + 1, o7) :: (L + 1 + 1 + 1 + 1 + 1 + 1, o6) :: (L + 1 + 1 + 1 + 1 + 1, o5) :: (L + 1 + 1 + 1 + 1, o4) :: (L + 1 + 1 + 1, o3) :: (L + 1 + 1, o2) :: (L + 1, o1) :: (219, tabObj pt) :: (156, tabObj ps) :: sh := fun q hq => .tail _ (.tail _ (.tail _ (List.mem_append_left sh hq)))
    have hms : ∀ q ∈ sh, q ∈ (I, oI) :: (C, oC) :: (D, LCg.lst ys) :: (Dv, listOf vl.toArray nv) :: (Dp, listOf pl.toArray np) :: (Df, listOf us.toArray nf) :: (L + 1 + 1 + 1 + 1 + 1 + 1 + 1, o7) :: (L + 1 + 1 + 1 + 1 + 1 + 1, o6) :: (L + 1 + 1 + 1 + 1 + 1, o5) :: (L + 1 + 1 + 1 + 1, o4) :: (L + 1 + 1 + 1, o3) :: (L + 1 + 1, o2) :: (L + 1, o1) :: (219, tabObj pt) :: (156, tabObj ps) :: sh := fun q hq => .tail _ (.tail _ (.tail _ (List.mem_append_right (as := [(Dv, listOf vl.toArray nv), (Dp, listOf pl.toArray np), (Df, listOf us.toArray nf), (L + 1 + 1 + 1 + 1 + 1 + 1 + 1, o7), (L + 1 + 1 + 1 + 1 + 1 + 1, o6), (L + 1 + 1 + 1 + 1 + 1, o5), (L + 1 + 1 + 1 + 1, o4), (L + 1 + 1 + 1, o3), (L + 1 + 1, o2), (L + 1, o1), (219, tabObj pt), (156, tabObj ps)]) hq)))
    refine LCg.CompEnd.intro F9 N9 ((Dv, listOf vl.toArray nv) :: (Dp, listOf pl.toArray np) :: (Df, listOf us.toArray nf) :: (L + 1 + 1 + 1 + 1 + 1 + 1 + 1, o7) :: (L + 1 + 1 + 1 + 1 + 1 + 1, o6) :: (L + 1 + 1 + 1 + 1 + 1, o5) :: (L + 1 + 1 + 1 + 1, o4) :: (L + 1 + 1 + 1, o3) :: (L + 1 + 1, o2) :: (L + 1, o1) :: (219, tabObj pt) :: (156, tabObj ps) :: (a9, shareObj dx9 #[.int (placeP ns i) t1, .bytes (octA (valueP ns i) (sizeP ns)) t3]) :: (dx9, emptyDict) :: sh) ?sub ?off trivial ⟨_, rfl, ?hap, ?hsh⟩
    case sub => exact mem_shuffle [(I, oI), (C, oC), (D, LCg.lst ys), (Dv, listOf vl.toArray nv), (Dp, listOf pl.toArray np), (Df, listOf us.toArray nf), (L + 1 + 1 + 1 + 1 + 1 + 1 + 1, o7), (L + 1 + 1 + 1 + 1 + 1 + 1, o6), (L + 1 + 1 + 1 + 1 + 1, o5), (L + 1 + 1 + 1 + 1, o4), (L + 1 + 1 + 1, o3), (L + 1 + 1, o2), (L + 1, o1), (219, tabObj pt), (156, tabObj ps)] [(a9, shareObj dx9 #[.int (placeP ns i) t1, .bytes (octA (valueP ns i) (sizeP ns)) t3]), (dx9, emptyDict)] sh
    case hsh =>
      rw [pointsP_succ]
      exact hsh.snoc a9 dx9 (placeP ns i) (octA (valueP ns i) (sizeP ns)) _ _
    case hap =>
      intro q hq q' hq'
      rcases List.mem_cons.mp hq with rfl | hq
      · exact Ne.symm (hna q' (hm q' hq'))
      · rcases List.mem_cons.mp hq with rfl | hq
        · exact Ne.symm (hnz q' (hm q' hq'))
        · exact hap q hq q' hq'
    case off =>
      refine LCg.Off3.of fun q hq => ?_
      rcases List.mem_append.mp (mem_shuffle [(Dv, listOf vl.toArray nv), (Dp, listOf pl.toArray np), (Df, listOf us.toArray nf), (L + 1 + 1 + 1 + 1 + 1 + 1 + 1, o7), (L + 1 + 1 + 1 + 1 + 1 + 1, o6), (L + 1 + 1 + 1 + 1 + 1, o5), (L + 1 + 1 + 1 + 1, o4), (L + 1 + 1 + 1, o3), (L + 1 + 1, o2), (L + 1, o1), (219, tabObj pt), (156, tabObj ps)] [(a9, shareObj dx9 #[.int (placeP ns i) t1, .bytes (octA (valueP ns i) (sizeP ns)) t3]), (dx9, emptyDict)] sh q hq) with hq | hq
      · rcases List.mem_cons.mp hq with rfl | hq
        · exact ⟨Ne.symm (hna _ (.head _)), Ne.symm (hna _ (.tail _ (.head _))), Ne.symm (hna _ (.tail _ (.tail _ (.head _))))⟩
        · rw [List.mem_singleton.mp hq]
          exact ⟨Ne.symm (hnz _ (.head _)), Ne.symm (hnz _ (.tail _ (.head _))), Ne.symm (hnz _ (.tail _ (.tail _ (.head _))))⟩
      · exact off.mem q hq
end Mine
end
end
section
open PySem PySem.W PySem.Calls PyProof.Rows Mine
set_option maxRecDepth 100000
namespace Mine
theorem loadX_L {M : Model} {A : Around} {E : Value → Shared → Prop} {s : Shared} {h₀ : Heap} {L a : Addr} {m : Str → Option Value} {cn : Str} {cs : Scope} {ccd : Value} {cl : List (Str × Addr)} {x : Str} {v : Value} {Q : Value → Shared → Prop} (F : Fr h₀ L s.heap m) (hv : m x = some v) (h : Q v s)
    (hk : cs.kind = .function := by rfl) (hx : (envX cn cs L a ccd cl).kindOf x = some .local := by rfl) : wpAny M A (loadName (envX cn cs L a ccd cl) x) Q E s := wpAny_loadName_local hk hx F.ns hv h
end Mine
local macro_rules | `(tactic| walk_at "mine look") => `(tactic| first | with_reducible assumption | (refine Eq.trans (if_neg (by decide)) ?_; with_reducible assumption) | (refine Eq.trans (if_neg (by decide)) ?_; refine Eq.trans (if_neg (by decide)) ?_; with_reducible assumption) | (refine Eq.trans (if_neg (by decide)) ?_; refine Eq.trans (if_neg (by decide)) ?_; refine Eq.trans (if_neg (by decide)) ?_; with_reducible assumption) | (refine Eq.trans (if_neg (by decide)) ?_; refine Eq.trans (if_neg (by decide)) ?_; refine Eq.trans (if_neg (by decide)) ?_; refine Eq.trans (if_neg (by decide)) ?_; with_reducible assumption))
local macro_rules | `(tactic| walk_at "eval Name") => `(tactic| (k_here; (with_reducible show wpAny _ _ (eval (Expr.Name _ _) (envX _ _ _ _ _ _)) _ _ _); k_dflt (refine' nameX_L ?F ?v ?_ ?a ?b; (case F => k_asm); (case a => rfl); (case b => rfl); (case v => walk_at "mine look"); k_whole)))
local macro_rules | `(tactic| walk_at "loadName") => `(tactic| (k_here; (with_reducible show wpAny _ _ (loadName (envX _ _ _ _ _ _) _) _ _ _); k_dflt (refine' loadX_L ?F ?v ?_ ?a ?b; (case F => k_asm); (case a => rfl); (case b => rfl); (case v => walk_at "mine look"); k_whole)))
section
open PySem PySem.W PySem.Calls PyProof.Rows Mine
set_option maxRecDepth 100000
local macro_rules | `(tactic| walk_at "call ref") => `(tactic| (k_here; (with_reducible show wpAny _ _ (call (Value.ref 145) _) _ _ _); k_dflt (refine' share_spec _ _ _ _ _ _ _ _ _ _ _ _ _ _ _ _ _ ?k3 ?k4 ?kp ?kd ?ku ?_; (case k3 => k_in); (case k4 => walk_at "mine top"); (case kp => trivial); (case kd => ktr_room); (case ku => ktr_units); intro v9 h9 tk9 r9 k9; (obtain ⟨a9, dx9, e9, n9, z9, g9, d9⟩ := r9); subst e9; (have N9 := news_two (by assumption) (by assumption) k9 n9 z9 g9 d9); (have F9 := Fr.keeps (by assumption) k9); (try dsimp only))))
local macro_rules | `(tactic| walk_at "subscriptTail") => `(tactic| (k_here; (with_reducible show wpAny _ _ (subscriptTail _ _ (Value.ref _) (Value.int _ _)) _ _ _); k_dflt (refine' item_ints ?N ?mm ?i ?a ?b ?c ?_ ?d; (case d => with_unfolding_all rfl); (case N => k_asm); (case mm => k_mem); (case i => with_reducible assumption); (case a => omega); (case b => walk_at "mine len"); (case c => omega)); intro t9))
local macro_rules | `(tactic| walk_at "mine len") => `(tactic| with_reducible assumption)
theorem Mine.top_off_W6 : True := by
  w_top off
  trivial
section
open PySem PySem.W PySem.Calls PyProof.Rows
set_option maxRecDepth 100000
set_option maxHeartbeats 2000000
namespace Mine
theorem upto_nat {vs : List Value} {ns : List Int} (hi : IntsAre vs ns) (i : Nat) : IntsAre (slicePick vs.toArray none (some (i : Int)) none).toList (ns.take i) := kmk_upto hi (by omega)
theorem from_nat {vs : List Value} {ns : List Int} (hi : IntsAre vs ns) (i : Nat) : IntsAre (slicePick vs.toArray (some ((i : Int) + 1)) none none).toList (ns.drop (i + 1)) := kmk_from hi (by omega)
local macro_rules | `(tactic| walk_at "subscriptTail Name Slice ref ref") => `(tactic| (k_here; (with_reducible show wpAny _ _ (subscriptTail _ (PySem.Expr.Slice _ _ none _) (Value.ref _) (Value.ref _)) _ _ _); k_dflt (refine' kmk_slice_ints ?F ?N ?l ?p ?q ?i ?m ?c ?_ ?s ?t ?z; (case F => k_asm); (case N => k_asm); (case l => kmk_list); (case p => kmk_part); (case q => kmk_part); (case i => with_reducible assumption); (case m => first | with_reducible exact upto_nat (by with_reducible assumption) _ | with_reducible exact from_nat (by with_reducible assumption) _); (case c => rfl); (case s => with_unfolding_all rfl); (case t => kmk_pure); (case z => walk_at "mine size")); intro D' ws' h' F' N' l1 hI' hC' hL'; clear l1 hC' hL'; (try k_sweep)))
local macro_rules | `(tactic| walk_at "binaryOp Add ref ref") => `(tactic| (k_here; (with_reducible show wpAny _ _ (binaryOp _ (Value.ref _) (Value.ref _)) _ _ _); k_dflt (refine' kmk_add_ints ?F ?N ?a ?b ?i ?j ?_ ?z; (case F => k_asm); (case N => k_asm); (case a => kmk_list); (case b => kmk_list); (case i => with_reducible assumption); (case j => with_reducible assumption); (case z => walk_at "mine size")); intro D' ws' h' F' N' l1 hI'; clear l1; (try k_sweep)))
local macro_rules | `(tactic| walk_at "call ref") => `(tactic| (k_here; (with_reducible show wpAny _ _ (call (Value.ref 217) _) _ _ _); k_dflt (refine' product_spec _ _ _ _ _ _ _ _ _ _ _ _ _ _ _ _ _ _ ?k3 ?k4 ?kp ?kd ?ku ?_; (case k3 => k_in); (case k4 => walk_at "mine top"); (case kp => exact ⟨by omega, by omega, listN (by assumption) (by k_mem), by with_reducible assumption, by assumption, by assumption⟩); (case kd => ktr_room); (case ku => ktr_units); intro v9 h9 tk9 r9 k9; (obtain ⟨x9, t9, e9, q9⟩ := r9); subst e9; (have b9 := q9.2); (have F9 := Fr.keeps (by assumption) k9); (have N9 := news_keeps (by assumption) k9); clear k9; (try dsimp only); (try k_sweep); (try k_fold))))
local macro_rules | `(tactic| walk_at "call ref") => `(tactic| (k_here; (with_reducible show wpAny _ _ (call (Value.ref 210) _) _ _ _); k_dflt (refine' inverse_spec _ _ _ _ _ _ _ _ _ _ _ _ _ _ _ ?k3 ?k4 ?kp ?kd ?ku ?_; (case k3 => k_in); (case k4 => walk_at "mine top"); (case kp => first | omega | (refine ⟨?_, ?_⟩ <;> omega)); (case kd => ktr_room); (case ku => ktr_units); intro v9 h9 tk9 r9 k9; (obtain ⟨x9, t9, e9, q9⟩ := r9); subst e9; (have b9 := q9.2); (have F9 := Fr.keeps (by assumption) k9); (have N9 := news_keeps (by assumption) k9); clear k9; (try dsimp only); (try k_sweep); (try k_fold))))
local macro_rules | `(tactic| walk_at "call ref") => `(tactic| (k_here; (with_reducible show wpAny _ _ (call (Value.ref 203) _) _ _ _); k_dflt (refine' times_spec _ _ _ _ _ _ _ _ _ _ _ _ _ _ _ _ _ ?k3 ?k4 ?kp ?kd ?ku ?_; (case k3 => k_in); (case k4 => walk_at "mine top"); (case kp => first | omega | (refine ⟨?_, ?_, ?_, ?_⟩ <;> omega)); (case kd => ktr_room); (case ku => ktr_units); intro v9 h9 tk9 r9 k9; (obtain ⟨x9, t9, e9, q9⟩ := r9); subst e9; (have b9 := q9.2); (have F9 := Fr.keeps (by assumption) k9); (have N9 := news_keeps (by assumption) k9); clear k9; (try dsimp only); (try k_sweep); (try k_fold))))

local macro_rules | `(tactic| walk_at "mine size") => `(tactic| assumption)
theorem seg6 (w : World) (p : Program) (loose : List Str) (mean : ExcName → Option Value) (mg mb : Str → Option Value) (g : Heap) (L fa : Addr) (m : Str → Option Value) (o1 o2 o3 o4 o5 o6 o7 : Obj) (ps pt : Array Value) (Df Dp Dv Dq : Addr) (us pl vl yl : List Value) (ns : List Int) (nf np nv nq n : Nat) (tc : Tok) (sh : List (Addr × Obj))
    (dp un : Nat) (fr : Option (List Env)) (gd : Option (List Code)) (s : Shared) (Q : Flow → Shared → Prop) (E : Value → Shared → Prop) (rest : List Stmt)
    (T : Top p loose mean mg mb g) (F : Fr g L s.heap m) (N : News g L s.heap ((Dq, listOf yl.toArray nq) :: (Dv, listOf vl.toArray nv) :: (Dp, listOf pl.toArray np) :: (Df, listOf us.toArray nf) :: (L + 1 + 1 + 1 + 1 + 1 + 1 + 1, o7) :: (L + 1 + 1 + 1 + 1 + 1 + 1, o6) :: (L + 1 + 1 + 1 + 1 + 1, o5) :: (L + 1 + 1 + 1 + 1, o4) :: (L + 1 + 1 + 1, o3) :: (L + 1 + 1, o2) :: (L + 1, o1) :: (219, tabObj pt) :: (156, tabObj ps) :: sh)) (hE : PassesOwn (model PySem.Challenge.rw_jb0039_01.row.prog w) { handled := none, depth := dp, frames := fr, guards := gd, units := un } (lawEnv L fa) E)
    (hb : AllBare s.gens) (d4 : o4.data = .cell (some (.ref Dp))) (d5 : o5.data = .cell (some (.ref Dv))) (hpl : IntsAre pl (placesP ns n)) (hvl : IntsAre vl (valuesP ns n)) (hn : n ≤ 3) (hc : m (Str.ofString "count") = some (.int (n : Int) tc)) (hdp : dp + 60 < recursionLimit) (hu : un + 600 < cLine)
    (hcont : ∀ (s' : Shared) m', s'.os = s.os → AllBare s'.gens → Fr g L s'.heap m' → News g L s'.heap ((Dq, listOf yl.toArray nq) :: (Dv, listOf vl.toArray nv) :: (Dp, listOf pl.toArray np) :: (Df, listOf us.toArray nf) :: (L + 1 + 1 + 1 + 1 + 1 + 1 + 1, o7) :: (L + 1 + 1 + 1 + 1 + 1 + 1, o6) :: (L + 1 + 1 + 1 + 1 + 1, o5) :: (L + 1 + 1 + 1 + 1, o4) :: (L + 1 + 1 + 1, o3) :: (L + 1 + 1, o2) :: (L + 1, o1) :: (219, tabObj pt) :: (156, tabObj ps) :: sh) → (∀ y, y ∉ ([Str.ofString "k", Str.ofString "others", Str.ofString "lanes", Str.ofString "digest", Str.ofString "secret"] : List Str) → m' y = m y) →
      (∃ t, m' (Str.ofString "digest") = some (.int (accP 254 ns n n) t)) → (∃ t, m' (Str.ofString "secret") = some (.int (accP 255 ns n n) t)) →
      wpAny (model PySem.Challenge.rw_jb0039_01.row.prog w) { handled := none, depth := dp, frames := fr, guards := gd, units := un } (execs rest (lawEnv L fa)) Q E s') :
    (hd.heap_39 w.params).In g → wpAny (model PySem.Challenge.rw_jb0039_01.row.prog w) { handled := none, depth := dp, frames := fr, guards := gd, units := un } (execs (st 8 :: st 9 :: rest) (lawEnv L fa)) Q E s := by
  k_fill
  intro X
  obtain ⟨hr1, hr2⟩ := range_to (c := (n : Int)) (by omega)
  rw [show (n : Int).toNat = n by omega] at hr2
  with_unfolding_all (show wpAny _ _ (execs (Stmt.Assign _ _ _ :: Stmt.For (Expr.Name _ _) _ _ _ _ :: rest) _) _ _ _)
  refine wpAny_execs_cons (stopQ fun Q' hQ => ?_)
  k_steps
  subst hQ
  dsimp only
  rename_i F1 N1
  refine wpAny_execs_cons ?_
  refine for_range (h₀ := g) (n := n) (J := fun i m' news gs => AllBare gs ∧ news = ((Dq, listOf yl.toArray nq) :: (Dv, listOf vl.toArray nv) :: (Dp, listOf pl.toArray np) :: (Df, listOf us.toArray nf) :: (L + 1 + 1 + 1 + 1 + 1 + 1 + 1, o7) :: (L + 1 + 1 + 1 + 1 + 1 + 1, o6) :: (L + 1 + 1 + 1 + 1 + 1, o5) :: (L + 1 + 1 + 1 + 1, o4) :: (L + 1 + 1 + 1, o3) :: (L + 1 + 1, o2) :: (L + 1, o1) :: (219, tabObj pt) :: (156, tabObj ps) :: sh) ∧ (∀ y, y ∉ ([Str.ofString "k", Str.ofString "others", Str.ofString "lanes", Str.ofString "digest", Str.ofString "secret"] : List Str) → m' y = m y) ∧ (∃ t, m' (Str.ofString "digest") = some (.int (accP 254 ns n i) t)) ∧ (∃ t, m' (Str.ofString "secret") = some (.int (accP 255 ns n i) t))) rfl ?hit ?step ?done hE
  case hit =>
    refine stopQ fun Q1 hQ1 => ?_
    k_steps
    (with_reducible rename Fr _ _ _ _ => F3)
    (with_reducible rename News _ _ _ _ => N3)
    subst hQ1
    refine ⟨_, _, _, _, _, _, rfl, by assumption, hr1, hr2, rfl, F3, fun q hq => N3 q (.tail _ hq), hb, rfl, ?_, ⟨_, rfl⟩, ⟨_, rfl⟩⟩
    intro y hy
    simp only [List.mem_cons, List.not_mem_nil, or_false, not_or] at hy
    exact (if_neg hy.2.2.2.2).trans (if_neg hy.2.2.2.1)
  case step =>
    rintro i hi I oI h tk gs d m₁ news₁ t ⟨hbg, rfl, hm1, ⟨td, hm2⟩, ⟨ts, hm3⟩⟩ F N hap
    refine wpAny_assign_Name (storeX_L F N ?_)
    clear F N
    intro h2 F2 N2
    have hl1 : (i : Int) < ((placesP ns n).length : Int) := by rw [placesP_len]; omega
    have hl2 : (i : Int) < ((valuesP ns n).length : Int) := by rw [valuesP_len]; omega
    have hz1 : pl.toArray.size ≤ sizeLine := by rw [List.size_toArray, hpl.length, placesP_len, sizeLine_eq]; omega
    have hz2 : ((placesP ns n).take i).length + ((placesP ns n).drop (i + 1)).length ≤ sizeLine := by rw [List.length_take, List.length_drop, placesP_len, sizeLine_eq]; omega
    have hol : (othersP ns n i).length < 1000 := Nat.lt_of_le_of_lt (othersP_len ns n i) (by omega)
    have hob := othersP_bounds ns (n := n) (k := i) (by omega)
    have hpb : 0 ≤ (placesP ns n).getD ((i : Int)).toNat 0 ∧ (placesP ns n).getD ((i : Int)).toNat 0 < 256 := by rw [Int.toNat_natCast, placesP_getD ns hi]; exact placeP_bounds ns (by omega)
    have hvb : 0 ≤ (valuesP ns n).getD ((i : Int)).toNat 0 ∧ (valuesP ns n).getD ((i : Int)).toNat 0 < 2 ^ 56 := by rw [Int.toNat_natCast, valuesP_getD ns hi]; exact valueP_56 ns i
    have hj := hap
    clear hap
    refine stopQ fun Q1 hQ1 => ?_
    k_steps
    rename_i x6 t6 q6 b6 h5 tk5 x5 t5 q5 b5 h4 tk4 x4 t4 q4 b4 hs2 tks1 h3 tk3 x3 t3 q3 b3 h29 tk2 x2 t2 q2 b2 hs1 tks h1 tk1 x1 t1 q1 b1 h0 tk0 x0 t0 q0 b0 h9 F9 N9
    subst hQ1
    have e4 : x4 = lanesP ns n i := by
      rw [q4.1, q5.1, q6.1]
      unfold lanesP
      rw [Int.toNat_natCast, valuesP_getD ns hi, placesP_getD ns hi]
      rfl
    have e2 : x2 = tmI (lanesP ns n i) (prodI 254 (othersP ns n i)) := by rw [q2.1, e4, q3.1]; rfl
    have e0 : x0 = tmI (lanesP ns n i) (prodI 255 (othersP ns n i)) := by rw [q0.1, e4, q1.1]; rfl
    clear q0 q1 q2 q3 q4 q5 q6 b0 b1 b2 b3 b4 b5 b6
    subst e2 e0
    refine ⟨h9, _, _, _, _, _, rfl, F9, fun q hq => N9 q (.tail _ (.tail _ (.tail _ hq))), hj, hbg, rfl, fun y hy => ?_, ⟨_, (if_neg (by decide)).trans (if_pos rfl)⟩, ⟨_, if_pos rfl⟩⟩
    have hy' := hm1 y hy
    simp only [List.mem_cons, List.not_mem_nil, or_false, not_or] at hy
    obtain ⟨y1, y2, y3, y4, y5⟩ := hy
    exact (if_neg y5).trans ((if_neg y4).trans ((if_neg y3).trans ((if_neg y2).trans ((if_neg y1).trans hy'))))
  case done =>
    rintro h tk gs d m' news' ⟨hbg, rfl, hm1, hm2, hm3⟩ F N
    exact hcont _ _ rfl hbg F N hm1 hm2 hm3
end Mine
end
theorem Mine.top_off_W7 : True := by
  w_top off
  trivial
section
open PySem PySem.W PySem.Calls PyProof.Rows
set_option maxRecDepth 100000
set_option maxHeartbeats 2000000
namespace Mine

section
variable {prog : Program} {w : World} {A : Around} {E : Value → Shared → Prop} {s : Shared} {h₀ h h' : Heap} {L a dx D : Addr} {m : Str → Option Value} {news : List (Addr × Obj)} {o o' : Obj} {v0 v1 : Value}
theorem shareN (N : News h₀ L h news) (m1 : (a, shareObj dx #[v0, v1]) ∈ news) (m2 : (dx, emptyDict) ∈ news) : ShareAt h a v0 v1 := ⟨dx, (N _ m1).1, (N _ m2).1⟩
theorem item_ref {us : List Value} {n : Nat} {v : Value} {value slice : PySem.Expr} {u : Tok} {Q : Value → Shared → Prop} (N : News h₀ L s.heap news) (hm : (D, listOf us.toArray n) ∈ news) (hx : us[0]? = some v)
    (h : Q v s) (hs : subscripted slice false (.ref D) (.int 0 u) = operate [.ref D, .int 0 u] (getItem (.ref D) (.int 0 u)) := by with_unfolding_all rfl) :
    wpAny (model prog w) A (subscriptTail value slice (.ref D) (.int 0 u)) Q E s := by
  have hl := listN N hm
  exact tail_any hl.typeIs slot_list_getitem.lookup (wpAny_getItem_list hl (by decide) (by decide) (by simpa using hx) h) hs
theorem append_L {us : List Value} {n : Nat} {v : Value} {Q : Value → Shared → Prop} (F : Fr h₀ L s.heap m) (N : News h₀ L s.heap news) (hm : (D, listOf us.toArray n) ∈ news) (hz : us.length ≤ 100)
    (h : ∀ h', Fr h₀ L h' m → Heap.SameBut D s.heap h' → h'.get? D = some (listOf (us ++ [v]).toArray (n + 1)) → Q .none { s with heap := h' }) :
    wpAny (model prog w) A (call (.builtin "list.append") [.ref D, v]) Q E s := by
  have z := N _ hm
  refine append_at (hsz := by rw [sizeLine_eq]; simp; omega) z.1 fun h' hs hg => h h' (F.change hs z.2.1 z.2.2) hs ?_
  rw [hg]
  simp [PySem.W.listOf]
theorem news_upd1 {led' : List (Addr × Obj)} (N : News h₀ L h news) (hD : (D, o) ∈ news) (hs : Heap.SameBut D h h') (hg : h'.get? D = some o') (hsub : ∀ p ∈ led', p ∈ news ∧ p.1 ≠ D) : News h₀ L h' ((D, o') :: led') := fun p hp => by
  rcases List.mem_cons.mp hp with rfl | hp
  · exact ⟨hg, (N _ hD).2⟩
  · have q := hsub p hp
    exact ⟨hs.extBut _ _ q.2 (N p q.1).1, (N p q.1).2⟩
theorem off1_mem {l : List (Addr × Obj)} : LCg.Off1 D l → ∀ p ∈ l, p.1 ≠ D := fun x p hp => by
  induction l with
  | nil => cases hp
  | cons q r ih =>
    rcases List.mem_cons.mp hp with rfl | hp
    · exact x.1
    · exact ih x.2 hp
end
theorem grow {h₀ h8 h9 h' : Heap} {L a dx Dq : Addr} {oa od oq oq' : Obj} {FX sh : List (Addr × Obj)} (N8 : News h₀ L h8 ((Dq, oq) :: (FX ++ sh))) (n9 : h8.get? a = none) (z9 : h8.get? dx = none ∧ @Ne Nat a dx) (N9 : News h₀ L h9 ((a, oa) :: (dx, od) :: (Dq, oq) :: (FX ++ sh)))
    (hs : Heap.SameBut Dq h9 h') (hg : h'.get? Dq = some oq') (hq : ∀ p ∈ FX ++ sh, p.1 ≠ Dq) : News h₀ L h' ((Dq, oq') :: (FX ++ ((a, oa) :: (dx, od) :: sh))) ∧ ∀ p ∈ FX ++ ((a, oa) :: (dx, od) :: sh), p.1 ≠ Dq := by
  have e1 := ne_fresh N8 n9 _ (.head _)
  have e2 := ne_fresh N8 z9.1 _ (.head _)
  have hm : ∀ p ∈ FX ++ ((a, oa) :: (dx, od) :: sh), p ∈ (a, oa) :: (dx, od) :: (FX ++ sh) := mem_shuffle FX [(a, oa), (dx, od)] sh
  have hne : ∀ p ∈ FX ++ ((a, oa) :: (dx, od) :: sh), p.1 ≠ Dq := fun p hp => by
    rcases List.mem_cons.mp (hm p hp) with rfl | h
    · exact Ne.symm e1
    · rcases List.mem_cons.mp h with rfl | h
      · exact Ne.symm e2
      · exact hq p h
  refine ⟨news_upd1 N9 (.tail _ (.tail _ (.head _))) hs hg fun p hp => ⟨?_, hne p hp⟩, hne⟩
  rcases List.mem_cons.mp (hm p hp) with rfl | h
  · exact .head _
  · rcases List.mem_cons.mp h with rfl | h
    · exact .tail _ (.head _)
    · exact .tail _ (.tail _ (.tail _ h))
theorem SharesL.first {sh : List (Addr × Obj)} {ys : List Value} {ds : List (Int × Array UInt8)} (x : SharesL sh ys ds) (h : 0 < ds.length) : ∃ a t u dx, ys[0]? = some (.ref a) ∧ (a, shareObj dx #[.int (ds.getD 0 (0, #[])).1 t, .bytes (ds.getD 0 (0, #[])).2 u]) ∈ sh ∧ (dx, emptyDict) ∈ sh := by
  have h0 : 0 < ys.length := by rw [x.1]; exact h
  obtain ⟨a, t, u, dx, e, m1, m2⟩ := x.2 0 _ (List.getElem?_eq_getElem h0)
  exact ⟨a, t, u, dx, by rw [List.getElem?_eq_getElem h0, e], m1, m2⟩
local macro_rules | `(tactic| walk_at "subscriptTail") => `(tactic| (k_here; (with_reducible show wpAny _ _ (subscriptTail _ _ (Value.ref _) (Value.int 0 _)) _ _ _); k_dflt (refine' item_ref ?N ?mm ?hx ?_ ?d; (case d => with_unfolding_all rfl); (case N => k_asm); (case mm => k_mem); (case hx => with_reducible assumption))))
local macro_rules | `(tactic| walk_at "mine share") => `(tactic| exact shareN (by assumption) (by assumption) (by assumption))
local macro_rules | `(tactic| walk_at "getAttr ref") => `(tactic| (k_here; (with_reducible show wpAny _ _ (getAttr (Value.ref _) (Str.ofString "data") _) _ _ _); (refine' at_data _ _ _ _ _ _ _ _ _ _ _ _ _ _ _ _ _ ?aX ?aT ?aS ?aV ?aD ?aU ?_; (case aX => k_in); (case aT => walk_at "mine top"); (case aS => walk_at "mine share"); (case aV => exact ⟨rfl, rfl⟩); (case aD => ktr_room); (case aU => ktr_units); intro h9 tk9 k9; (have F9 := Fr.keeps (by assumption) k9); (have N9 := news_keeps (by assumption) k9); (try dsimp only); (try k_sweep); (try k_fold))))
local macro_rules | `(tactic| walk_at "call builtin:list.append") => `(tactic| (k_here; (with_reducible show wpAny _ _ (call (Value.builtin _) [Value.ref _, Value.ref _]) _ _ _); k_dflt (refine' append_L ?F ?N ?mm ?z ?_; (case F => k_asm); (case N => k_asm); (case mm => k_mem); (case z => with_reducible assumption)); intro h9 F9 b9 g9; (try dsimp only)))

theorem seg7 (w : World) (p : Program) (loose : List Str) (mean : ExcName → Option Value) (mg mb : Str → Option Value) (g : Heap) (L fa : Addr) (m : Str → Option Value) (o1 o2 o3 o4 o5 o6 o7 : Obj) (ps pt : Array Value) (l Df Dp Dq : Addr) (vs us pl yl : List Value) (ns : List Int) (nf np nq n : Nat) (tc tz : Tok) (sh : List (Addr × Obj))
    (dp un : Nat) (fr : Option (List Env)) (gd : Option (List Code)) (s : Shared) (Q : Flow → Shared → Prop) (E : Value → Shared → Prop) (rest : List Stmt)
    (T : Top p loose mean mg mb g) (F : Fr g L s.heap m) (N : News g L s.heap ((Dq, listOf yl.toArray nq) :: (Dp, listOf pl.toArray np) :: (Df, listOf us.toArray nf) :: (L + 1 + 1 + 1 + 1 + 1 + 1 + 1, o7) :: (L + 1 + 1 + 1 + 1 + 1 + 1, o6) :: (L + 1 + 1 + 1 + 1 + 1, o5) :: (L + 1 + 1 + 1 + 1, o4) :: (L + 1 + 1 + 1, o3) :: (L + 1 + 1, o2) :: (L + 1, o1) :: (219, tabObj pt) :: (156, tabObj ps) :: sh))
    (hq : ∀ p ∈ (Dp, listOf pl.toArray np) :: (Df, listOf us.toArray nf) :: (L + 1 + 1 + 1 + 1 + 1 + 1 + 1, o7) :: (L + 1 + 1 + 1 + 1 + 1 + 1, o6) :: (L + 1 + 1 + 1 + 1 + 1, o5) :: (L + 1 + 1 + 1 + 1, o4) :: (L + 1 + 1 + 1, o3) :: (L + 1 + 1, o2) :: (L + 1, o1) :: (219, tabObj pt) :: (156, tabObj ps) :: sh, p.1 ≠ Dq)
    (d1 : o1.data = .cell (some (.ref l))) (d2 : o2.data = .cell (some (.int (sizeP ns) tz))) (d4 : o4.data = .cell (some (.ref Dp))) (hl : g.IsList l vs.toArray) (hi : IntsAre vs ns) (hln : ns.length ≤ 63) (hpl : IntsAre pl (placesP ns n)) (hsh : SharesL sh yl (pointsP ns n)) (hn : n ≤ 3) (hpt : m (Str.ofString "points") = some (.ref Dq) ∧ True) (hc : m (Str.ofString "count") = some (.int (n : Int) tc)) (hdp : dp + 60 < recursionLimit) (hu : un + 600 < cLine)
    (hcont : ∀ h' m' tk' sh' yl' nq', Fr g L h' m' → (∀ y, y ≠ Str.ofString "spoil" → m' y = m y) → (∃ t, m' (Str.ofString "spoil") = some (.int (spoilP ns) t)) →
      News g L h' ((Dq, listOf yl'.toArray nq') :: (Dp, listOf pl.toArray np) :: (Df, listOf us.toArray nf) :: (L + 1 + 1 + 1 + 1 + 1 + 1 + 1, o7) :: (L + 1 + 1 + 1 + 1 + 1 + 1, o6) :: (L + 1 + 1 + 1 + 1 + 1, o5) :: (L + 1 + 1 + 1 + 1, o4) :: (L + 1 + 1 + 1, o3) :: (L + 1 + 1, o2) :: (L + 1, o1) :: (219, tabObj pt) :: (156, tabObj ps) :: sh') → (∀ p ∈ (Dp, listOf pl.toArray np) :: (Df, listOf us.toArray nf) :: (L + 1 + 1 + 1 + 1 + 1 + 1 + 1, o7) :: (L + 1 + 1 + 1 + 1 + 1 + 1, o6) :: (L + 1 + 1 + 1 + 1 + 1, o5) :: (L + 1 + 1 + 1 + 1, o4) :: (L + 1 + 1 + 1, o3) :: (L + 1 + 1, o2) :: (L + 1, o1) :: (219, tabObj pt) :: (156, tabObj ps) :: sh', p.1 ≠ Dq) → SharesL sh' yl' (pointsP ns n ++ extra1P ns n) →
      wpAny (model PySem.Challenge.rw_jb0039_01.row.prog w) { handled := none, depth := dp, frames := fr, guards := gd, units := un } (execs rest (lawEnv L fa)) Q E { s with heap := h', toks := tk' }) :
    (hd.heap_39 w.params).In g → wpAny (model PySem.Challenge.rw_jb0039_01.row.prog w) { handled := none, depth := dp, frames := fr, guards := gd, units := un } (execs (st 10 :: st 11 :: rest) (lawEnv L fa)) Q E s := by
  k_fill
  intro X
  have hsz := sizeP_bounds ns
  with_unfolding_all (show wpAny _ _ (execs (Stmt.Assign _ _ _ :: Stmt.If _ _ _ _ :: rest) _) _ _ _)
  refine wpAny_execs_cons (stopQ fun Q' hQ => ?_)
  k_steps
  subst hQ
  dsimp only
  refine wpAny_execs_cons (stopQ fun Q' hQ => ?_)
  k_steps
  · have hpos : 0 < n := by omega
    have hp1 := hpt.1
    have hl1 : (0 : Int) < ((placesP ns n).length : Int) := by rw [placesP_len]; omega
    obtain ⟨a0, t0, u0, dx0, hx0, hm1, hm2⟩ := hsh.first (by rw [pointsP_len]; exact hpos)
    have hm1' := List.mem_append_right (as := (Dq, listOf yl.toArray nq) :: [(Dp, listOf pl.toArray np), (Df, listOf us.toArray nf), (L + 1 + 1 + 1 + 1 + 1 + 1 + 1, o7), (L + 1 + 1 + 1 + 1 + 1 + 1, o6), (L + 1 + 1 + 1 + 1 + 1, o5), (L + 1 + 1 + 1 + 1, o4), (L + 1 + 1 + 1, o3), (L + 1 + 1, o2), (L + 1, o1), (219, tabObj pt), (156, tabObj ps)]) hm1
    have hm2' := List.mem_append_right (as := (Dq, listOf yl.toArray nq) :: [(Dp, listOf pl.toArray np), (Df, listOf us.toArray nf), (L + 1 + 1 + 1 + 1 + 1 + 1 + 1, o7), (L + 1 + 1 + 1 + 1 + 1 + 1, o6), (L + 1 + 1 + 1 + 1 + 1, o5), (L + 1 + 1 + 1 + 1, o4), (L + 1 + 1 + 1, o3), (L + 1 + 1, o2), (L + 1, o1), (219, tabObj pt), (156, tabObj ps)]) hm2
    have hz : yl.length ≤ 100 := by rw [hsh.1, pointsP_len]; omega
    have hsh0 := hsh
    clear hsh hm1 hm2
    dsimp only [List.cons_append, List.nil_append] at hm1' hm2'
    have hsp : spoilP ns = 1 := by assumption
    k_steps
    · rename_i N8 h91 tk9 k9 a9 dx9 n9 z9 g91 d9 N9 F91 h9 F9 b9 g9
      have G := grow (FX := [(Dp, listOf pl.toArray np), (Df, listOf us.toArray nf), (L + 1 + 1 + 1 + 1 + 1 + 1 + 1, o7), (L + 1 + 1 + 1 + 1 + 1 + 1, o6), (L + 1 + 1 + 1 + 1 + 1, o5), (L + 1 + 1 + 1 + 1, o4), (L + 1 + 1 + 1, o3), (L + 1 + 1, o2), (L + 1, o1), (219, tabObj pt), (156, tabObj ps)]) N8 n9 z9 N9 b9 g9 hq
      have e0 : (placesP ns n).getD (Int.toNat 0) 0 = placeP ns 0 := placesP_getD ns hpos
      have e1 : ((pointsP ns n).getD 0 (0, #[])).2 = octA (valueP ns 0) (sizeP ns) := by rw [pointsP_getD ns hpos]; rfl
      have hS := hsh0.snoc a9 dx9
      subst hQ
      refine hcont _ _ _ _ _ _ F9 (fun y hy => if_neg hy) ⟨_, if_pos rfl⟩ G.1 G.2 ?_
      have hx : extra1P ns n = [((placesP ns n).getD (Int.toNat 0) 0, octA (num ns 13) (sizeP ns))] := by unfold extra1P; rw [if_pos ⟨hpos, hsp⟩, if_pos (by assumption), e0]
      rw [hx]
      exact hS _ _ _ _
    · rename_i N8 h91 tk9 k9 a9 dx9 n9 z9 g91 d9 N9 F91 h9 F9 b9 g9
      have G := grow (FX := [(Dp, listOf pl.toArray np), (Df, listOf us.toArray nf), (L + 1 + 1 + 1 + 1 + 1 + 1 + 1, o7), (L + 1 + 1 + 1 + 1 + 1 + 1, o6), (L + 1 + 1 + 1 + 1 + 1, o5), (L + 1 + 1 + 1 + 1, o4), (L + 1 + 1 + 1, o3), (L + 1 + 1, o2), (L + 1, o1), (219, tabObj pt), (156, tabObj ps)]) N8 n9 z9 N9 b9 g9 hq
      have e0 : (placesP ns n).getD (Int.toNat 0) 0 = placeP ns 0 := placesP_getD ns hpos
      have e1 : ((pointsP ns n).getD 0 (0, #[])).2 = octA (valueP ns 0) (sizeP ns) := by rw [pointsP_getD ns hpos]; rfl
      have hS := hsh0.snoc a9 dx9
      subst hQ
      refine hcont _ _ _ _ _ _ F9 (fun y hy => if_neg hy) ⟨_, if_pos rfl⟩ G.1 G.2 ?_
      have hx : extra1P ns n = [((placesP ns n).getD (Int.toNat 0) 0, ((pointsP ns n).getD 0 (0, #[])).2)] := by unfold extra1P; rw [if_pos ⟨hpos, hsp⟩, if_neg (fun q => q (by assumption)), e0, e1]
      rw [hx]
      exact hS _ _ _ _
  · have hx : extra1P ns n = [] := if_neg (fun q => absurd q.2 (by assumption))
    subst hQ
    exact hcont _ _ _ sh yl nq (by assumption) (fun y hy => if_neg hy) ⟨_, if_pos rfl⟩ (by assumption) hq (by rw [hx, List.append_nil]; exact hsh)
  · have hx : extra1P ns n = [] := if_neg (fun q => absurd q.1 (by omega))
    subst hQ
    exact hcont _ _ _ sh yl nq (by assumption) (fun y hy => if_neg hy) ⟨_, if_pos rfl⟩ (by assumption) hq (by rw [hx, List.append_nil]; exact hsh)
end Mine
end
theorem Mine.top_off_W8 : True := by
  w_top off
  trivial
section
open PySem PySem.W PySem.Calls PyProof.Rows
set_option maxRecDepth 100000
set_option maxHeartbeats 2000000
namespace Mine
local macro_rules | `(tactic| walk_at "call builtin:list.append") => `(tactic| (k_here; (with_reducible show wpAny _ _ (call (Value.builtin _) [Value.ref _, Value.ref _]) _ _ _); k_dflt (refine' append_L ?F ?N ?mm ?z ?_; (case F => k_asm); (case N => k_asm); (case mm => k_mem); (case z => with_reducible assumption)); intro h9 F9 b9 g9; (try dsimp only)))

theorem seg8 (w : World) (p : Program) (loose : List Str) (mean : ExcName → Option Value) (mg mb : Str → Option Value) (g : Heap) (L fa : Addr) (m : Str → Option Value) (o1 o2 o3 o4 o5 o6 o7 : Obj) (ps pt : Array Value) (l Df Dp Dq : Addr) (vs us pl yl : List Value) (ns : List Int) (nf np nq n : Nat) (tc tz ts : Tok) (sh : List (Addr × Obj)) (ds : List (Int × Array UInt8))
    (dp un : Nat) (fr : Option (List Env)) (gd : Option (List Code)) (s : Shared) (Q : Flow → Shared → Prop) (E : Value → Shared → Prop) (rest : List Stmt)
    (T : Top p loose mean mg mb g) (F : Fr g L s.heap m) (N : News g L s.heap ((Dq, listOf yl.toArray nq) :: (Dp, listOf pl.toArray np) :: (Df, listOf us.toArray nf) :: (L + 1 + 1 + 1 + 1 + 1 + 1 + 1, o7) :: (L + 1 + 1 + 1 + 1 + 1 + 1, o6) :: (L + 1 + 1 + 1 + 1 + 1, o5) :: (L + 1 + 1 + 1 + 1, o4) :: (L + 1 + 1 + 1, o3) :: (L + 1 + 1, o2) :: (L + 1, o1) :: (219, tabObj pt) :: (156, tabObj ps) :: sh))
    (hq : ∀ p ∈ (Dp, listOf pl.toArray np) :: (Df, listOf us.toArray nf) :: (L + 1 + 1 + 1 + 1 + 1 + 1 + 1, o7) :: (L + 1 + 1 + 1 + 1 + 1 + 1, o6) :: (L + 1 + 1 + 1 + 1 + 1, o5) :: (L + 1 + 1 + 1 + 1, o4) :: (L + 1 + 1 + 1, o3) :: (L + 1 + 1, o2) :: (L + 1, o1) :: (219, tabObj pt) :: (156, tabObj ps) :: sh, p.1 ≠ Dq)
    (d1 : o1.data = .cell (some (.ref l))) (d2 : o2.data = .cell (some (.int (sizeP ns) tz))) (d3 : o3.data = .cell (some (.ref Df))) (hl : g.IsList l vs.toArray) (hi : IntsAre vs ns) (hln : ns.length ≤ 63) (hus : IntsAre us (freeP ns n)) (hsh : SharesL sh yl ds) (hds : ds.length ≤ 10) (hn : n ≤ 3) (hpt : m (Str.ofString "points") = some (.ref Dq)) (hsp : m (Str.ofString "spoil") = some (.int (spoilP ns) ts)) (hc : m (Str.ofString "count") = some (.int (n : Int) tc)) (hdp : dp + 60 < recursionLimit) (hu : un + 600 < cLine)
    (hcont : ∀ h' tk' sh' yl' nq', Fr g L h' m →
      News g L h' ((Dq, listOf yl'.toArray nq') :: (Dp, listOf pl.toArray np) :: (Df, listOf us.toArray nf) :: (L + 1 + 1 + 1 + 1 + 1 + 1 + 1, o7) :: (L + 1 + 1 + 1 + 1 + 1 + 1, o6) :: (L + 1 + 1 + 1 + 1 + 1, o5) :: (L + 1 + 1 + 1 + 1, o4) :: (L + 1 + 1 + 1, o3) :: (L + 1 + 1, o2) :: (L + 1, o1) :: (219, tabObj pt) :: (156, tabObj ps) :: sh') → (∀ p ∈ (Dp, listOf pl.toArray np) :: (Df, listOf us.toArray nf) :: (L + 1 + 1 + 1 + 1 + 1 + 1 + 1, o7) :: (L + 1 + 1 + 1 + 1 + 1 + 1, o6) :: (L + 1 + 1 + 1 + 1 + 1, o5) :: (L + 1 + 1 + 1 + 1, o4) :: (L + 1 + 1 + 1, o3) :: (L + 1 + 1, o2) :: (L + 1, o1) :: (219, tabObj pt) :: (156, tabObj ps) :: sh', p.1 ≠ Dq) → SharesL sh' yl' (ds ++ extra2P ns n) →
      wpAny (model PySem.Challenge.rw_jb0039_01.row.prog w) { handled := none, depth := dp, frames := fr, guards := gd, units := un } (execs rest (lawEnv L fa)) Q E { s with heap := h', toks := tk' }) :
    (hd.heap_39 w.params).In g → wpAny (model PySem.Challenge.rw_jb0039_01.row.prog w) { handled := none, depth := dp, frames := fr, guards := gd, units := un } (execs (st 12 :: rest) (lawEnv L fa)) Q E s := by
  k_fill
  intro X
  have hsz := sizeP_bounds ns
  have hz : yl.length ≤ 100 := by rw [hsh.1]; omega
  have hl1 : (0 : Int) < ((freeP ns n).length : Int) := by rw [freeP_len ns n (by omega)]; omega
  with_unfolding_all (show wpAny _ _ (execs (Stmt.If _ _ _ _ :: rest) _) _ _ _)
  refine wpAny_execs_cons (stopQ fun Q' hQ => ?_)
  k_steps
  · have hpos : 0 < n := by omega
    rename_i N8 h91 tk9 k9 a9 dx9 n9 z9 g91 d9 N9 F91 h9 F9 b9 g9
    have G := grow (FX := [(Dp, listOf pl.toArray np), (Df, listOf us.toArray nf), (L + 1 + 1 + 1 + 1 + 1 + 1 + 1, o7), (L + 1 + 1 + 1 + 1 + 1 + 1, o6), (L + 1 + 1 + 1 + 1 + 1, o5), (L + 1 + 1 + 1 + 1, o4), (L + 1 + 1 + 1, o3), (L + 1 + 1, o2), (L + 1, o1), (219, tabObj pt), (156, tabObj ps)]) N8 n9 z9 N9 b9 g9 hq
    have hS := hsh.snoc a9 dx9
    subst hQ
    refine hcont _ _ _ _ _ F9 G.1 G.2 ?_
    have hx : extra2P ns n = [((freeP ns n).getD (Int.toNat 0) 0, octA (num ns 13) (sizeP ns + 1))] := by unfold extra2P; rw [if_pos ⟨hpos, by assumption⟩]; rfl
    rw [hx]
    exact hS _ _ _ _
  · have hx : extra2P ns n = [] := if_neg (fun q => absurd q.2 (by assumption))
    subst hQ
    exact hcont _ _ sh yl nq (by assumption) (by assumption) hq (by rw [hx, List.append_nil]; exact hsh)
  · have hx : extra2P ns n = [] := if_neg (fun q => absurd q.1 (by omega))
    subst hQ
    exact hcont _ _ sh yl nq (by assumption) (by assumption) hq (by rw [hx, List.append_nil]; exact hsh)
end Mine
end
end
theorem Mine.top_off_W9 : True := by
  w_top off
  trivial
section
open PySem PySem.W PySem.Calls PyProof.Rows
set_option maxRecDepth 100000
set_option maxHeartbeats 2000000
namespace Mine

/- an object that a share is made of -/
noncomputable def ShKind (o : Obj) : Prop := (∃ dx items, o = shareObj dx items) ∨ o = emptyDict
theorem ShKind.no_cell {o : Obj} {v : Option Value} (x : ShKind o) : o.data ≠ .cell v := by
  rcases x with ⟨dx, items, rfl⟩ | rfl <;> simp [emptyDict]
theorem ShKind.no_list {its : Array Value} {n : Nat} : ¬ ShKind (listOf its n) := by
  rintro (⟨dx, items, h⟩ | h)
  · have := congrArg Obj.cls h
    cases this
  · have := congrArg Obj.data h
    cases this
theorem SharesL.clean {sh : List (Addr × Obj)} {ys : List Value} {ds : List (Int × Array UInt8)} (x : SharesL sh ys ds) : ∃ sh2, (∀ q ∈ sh2, q ∈ sh) ∧ SharesL sh2 ys ds ∧ ∀ q ∈ sh2, ShKind q.2 := by
  classical
  refine ⟨sh.filter fun q => decide (ShKind q.2), fun q hq => (List.mem_filter.mp hq).1, ⟨x.1, fun i v e => ?_⟩, fun q hq => of_decide_eq_true (List.mem_filter.mp hq).2⟩
  obtain ⟨a, t, u, dx, e', m1, m2⟩ := x.2 i v e
  exact ⟨a, t, u, dx, e', List.mem_filter.mpr ⟨m1, decide_eq_true (.inl ⟨_, _, rfl⟩)⟩, List.mem_filter.mpr ⟨m2, decide_eq_true (.inr rfl)⟩⟩
theorem sh_apart {h₀ h : Heap} {L c : Addr} {led sh : List (Addr × Obj)} {o : Obj} (N : News h₀ L h led) (hs : ∀ q ∈ sh, q ∈ led) (hc : (c, o) ∈ led) (hk : ∀ q ∈ sh, ShKind q.2) (ho : ¬ ShKind o) : ∀ q ∈ sh, q.1 ≠ c := fun q hq e => by
  have h1 := (N _ (hs q hq)).1
  have h2 := (N _ hc).1
  rw [e] at h1
  have h3 : some q.2 = some o := h1.symm.trans h2
  exact ho (Option.some.inj h3 ▸ hk q hq)
local macro_rules | `(tactic| k_all) => `(tactic| with_reducible assumption)
theorem upd_s6 {L : Addr} {o1 o2 o3 o4 o5 o6 o7 : Obj} {ps pt : Array Value} {sh : List (Addr × Obj)} (hL : @LT.lt Nat _ 219 L ∧ @LT.lt Nat _ 156 L) (hs : ∀ p ∈ sh, p.1 ≠ L + 1 + 1 + 1 + 1 + 1 + 1) : UpdF (L + 1 + 1 + 1 + 1 + 1 + 1) o6 ((L + 1 + 1 + 1 + 1 + 1 + 1 + 1, o7) :: (L + 1 + 1 + 1 + 1 + 1 + 1, o6) :: (L + 1 + 1 + 1 + 1 + 1, o5) :: (L + 1 + 1 + 1 + 1, o4) :: (L + 1 + 1 + 1, o3) :: (L + 1 + 1, o2) :: (L + 1, o1) :: (219, tabObj pt) :: (156, tabObj ps) :: sh) (fun o' => (L + 1 + 1 + 1 + 1 + 1 + 1 + 1, o7) :: (L + 1 + 1 + 1 + 1 + 1 + 1, o') :: (L + 1 + 1 + 1 + 1 + 1, o5) :: (L + 1 + 1 + 1 + 1, o4) :: (L + 1 + 1 + 1, o3) :: (L + 1 + 1, o2) :: (L + 1, o1) :: (219, tabObj pt) :: (156, tabObj ps) :: sh) := by
  obtain ⟨hL1, hL2⟩ := hL
  k_updF
local macro_rules | `(tactic| walk_at "subscriptTail") => `(tactic| (k_here; (with_reducible show wpAny _ _ (subscriptTail _ (Expr.Slice _ _ none _) (Value.bytes _ _) (Value.ref _)) _ _ _); (with_reducible rename Fr _ _ _ _ => F'); (with_reducible rename News _ _ _ _ => N'); (refine PySem.W.KBc.slice_K (s := ⟨_, _, _, _, _⟩) F' N' rfl (by constructor) (by constructor) (by rw [PySem.W.KBw.ints_length]; omega) ?_); intro _ _ _ F9 N9 _; (try clear F' N')))
local macro_rules | `(tactic| walk_at "call type:list") => `(tactic| (k_here; (with_reducible show wpAny _ _ (call (Value.type "list") [Value.bytes _ _]) _ _ _); k_dflt (refine' list_octetsK rfl ?F ?N ?z ?_; (case F => k_asm); (case N => k_asm); (case z => with_reducible assumption)); intro D9 us9 n9 h9 tk9 F9 N9 l9 i9; (try dsimp only)))

theorem seg9 (w : World) (p : Program) (loose : List Str) (mean : ExcName → Option Value) (mg mb : Str → Option Value) (g : Heap) (L fa : Addr) (m : Str → Option Value) (o1 o2 o3 o4 o5 o6 o7 : Obj) (ps pt : Array Value) (l : Addr) (vs : List Value) (ns : List Int) (n : Nat) (tz td : Tok) (sh : List (Addr × Obj))
    (dp un : Nat) (fr : Option (List Env)) (gd : Option (List Code)) (s : Shared) (Q : Flow → Shared → Prop) (E : Value → Shared → Prop) (rest : List Stmt)
    (T : Top p loose mean mg mb g) (F : Fr g L s.heap m) (N : News g L s.heap ((L + 1 + 1 + 1 + 1 + 1 + 1 + 1, o7) :: (L + 1 + 1 + 1 + 1 + 1 + 1, o6) :: (L + 1 + 1 + 1 + 1 + 1, o5) :: (L + 1 + 1 + 1 + 1, o4) :: (L + 1 + 1 + 1, o3) :: (L + 1 + 1, o2) :: (L + 1, o1) :: (219, tabObj pt) :: (156, tabObj ps) :: sh)) (hL : @LT.lt Nat _ 219 L ∧ @LT.lt Nat _ 156 L) (hs6 : ∀ q ∈ sh, q.1 ≠ L + 1 + 1 + 1 + 1 + 1 + 1)
    (d1 : o1.data = .cell (some (.ref l))) (d2 : o2.data = .cell (some (.int (sizeP ns) tz))) (d6 : o6.data = .cell none) (hl : g.IsList l vs.toArray) (hi : IntsAre vs ns) (hln : ns.length ≤ 63) (hdg : m (Str.ofString "digest") = some (.int (accP 254 ns n n) td)) (hdp : dp + 60 < recursionLimit) (hu : un + 600 < cLine)
    (hcont : ∀ h' m' tk' Da ua na o6', Fr g L h' m' → (∀ y, y ∉ ([Str.ofString "lead", Str.ofString "rest", Str.ofString "turned"] : List Str) → m' y = m y) → (∃ t, m' (Str.ofString "rest") = some (.bytes (KBy.picked (octA (accP 254 ns n n) (sizeP ns)) (some 4) none) t)) → m' (Str.ofString "turned") = some (.bool (turnedP ns)) →
      News g L h' ((Da, listOf ua.toArray na) :: (L + 1 + 1 + 1 + 1 + 1 + 1 + 1, o7) :: (L + 1 + 1 + 1 + 1 + 1 + 1, o6') :: (L + 1 + 1 + 1 + 1 + 1, o5) :: (L + 1 + 1 + 1 + 1, o4) :: (L + 1 + 1 + 1, o3) :: (L + 1 + 1, o2) :: (L + 1, o1) :: (219, tabObj pt) :: (156, tabObj ps) :: sh) → @LT.lt Nat _ (L + 1 + 1 + 1 + 1 + 1 + 1 + 1) Da → (∀ q ∈ sh, q.1 ≠ Da) → o6'.data = .cell (some (.ref Da)) → IntsAre ua (KBw.bInts (KBy.picked (octA (accP 254 ns n n) (sizeP ns)) none (some 4))) →
      wpAny (model PySem.Challenge.rw_jb0039_01.row.prog w) { handled := none, depth := dp, frames := fr, guards := gd, units := un } (execs rest (lawEnv L fa)) Q E { s with heap := h', toks := tk' }) :
    (hd.heap_39 w.params).In g → wpAny (model PySem.Challenge.rw_jb0039_01.row.prog w) { handled := none, depth := dp, frames := fr, guards := gd, units := un } (execs (st 13 :: st 14 :: st 15 :: st 16 :: rest) (lawEnv L fa)) Q E s := by
  k_fill
  intro X
  have hsz := sizeP_bounds ns
  have hos : (octA (accP 254 ns n n) (sizeP ns)).size ≤ 1000 := by rw [octA_size]; omega
  have hpk : (KBy.picked (octA (accP 254 ns n n) (sizeP ns)) none (some 4)).size ≤ 1000 := Nat.le_trans (KBc.size_picked_le _ _ _) hos
  generalize he : (st 16 :: rest) = rest1
  with_unfolding_all (show wpAny _ _ (execs (Stmt.Assign _ _ _ :: Stmt.Assign _ _ _ :: Stmt.Assign _ _ _ :: rest1) _) _ _ _)
  k_steps
  subst he
  with_unfolding_all (show wpAny _ _ (execs (Stmt.Assign _ _ _ :: rest) _) _ _ _)
  refine wpAny_execs_cons (wpAny_Assign_Name (stopQ fun Q' hQ => ?_))
  k_steps
  subst hQ
  dsimp only
  rename_i D9 us9 n9 h9 tk9 F9 N9 l9 i9
  refine storeX_C F9 N9 rfl (UpdF.tail (Nat.ne_of_gt (l9 (L + 1 + 1 + 1 + 1 + 1 + 1, o6) (.tail _ (.head _)))) (upd_s6 hL hs6)) d6 ?_
  intro h3 o6' F3 N3 d6'
  refine hcont _ _ _ D9 us9 n9 o6' F3 (fun y hy => ?_) ⟨_, (if_neg (by decide)).trans (if_pos rfl)⟩ (if_pos rfl) N3 (l9 (_, o7) (.head _)) (fun q hq => Nat.ne_of_lt (l9 q (List.mem_append_right (as := [(L + 1 + 1 + 1 + 1 + 1 + 1 + 1, o7), (L + 1 + 1 + 1 + 1 + 1 + 1, o6), (L + 1 + 1 + 1 + 1 + 1, o5), (L + 1 + 1 + 1 + 1, o4), (L + 1 + 1 + 1, o3), (L + 1 + 1, o2), (L + 1, o1), (219, tabObj pt), (156, tabObj ps)]) hq))) d6' i9
  simp only [List.mem_cons, List.not_mem_nil, or_false, not_or] at hy
  exact (if_neg hy.2.2).trans ((if_neg hy.2.1).trans (if_neg hy.1))
end Mine
end
theorem Mine.top_off_W10 : True := by
  w_top off
  trivial
section
open PySem PySem.W PySem.Calls PyProof.Rows
set_option maxRecDepth 100000
set_option maxHeartbeats 2000000
namespace Mine
local macro_rules | `(tactic| k_all) => `(tactic| with_reducible assumption)

theorem seg10 (w : World) (p : Program) (loose : List Str) (mean : ExcName → Option Value) (mg mb : Str → Option Value) (g : Heap) (L fa : Addr) (m : Str → Option Value) (o1 o2 o3 o4 o5 o6 o7 : Obj) (ps pt : Array Value) (l Da : Addr) (vs ua : List Value) (ns al : List Int) (na : Nat) (sh : List (Addr × Obj))
    (dp un : Nat) (fr : Option (List Env)) (gd : Option (List Code)) (s : Shared) (Q : Flow → Shared → Prop) (E : Value → Shared → Prop) (rest : List Stmt)
    (T : Top p loose mean mg mb g) (F : Fr g L s.heap m) (N : News g L s.heap ((Da, listOf ua.toArray na) :: (L + 1 + 1 + 1 + 1 + 1 + 1 + 1, o7) :: (L + 1 + 1 + 1 + 1 + 1 + 1, o6) :: (L + 1 + 1 + 1 + 1 + 1, o5) :: (L + 1 + 1 + 1 + 1, o4) :: (L + 1 + 1 + 1, o3) :: (L + 1 + 1, o2) :: (L + 1, o1) :: (219, tabObj pt) :: (156, tabObj ps) :: sh)) (hL : @LT.lt Nat _ 219 L ∧ @LT.lt Nat _ 156 L) (hDa : @LT.lt Nat _ (L + 1 + 1 + 1 + 1 + 1 + 1 + 1) Da) (hsa : ∀ q ∈ sh, q.1 ≠ Da)
    (d1 : o1.data = .cell (some (.ref l))) (d6 : o6.data = .cell (some (.ref Da))) (hl : g.IsList l vs.toArray) (hi : IntsAre vs ns) (hln : ns.length ≤ 63) (hua : IntsAre ua al) (hal : al.length = 4) (hab : ∀ x ∈ al, 0 ≤ x ∧ x < 256) (htu : m (Str.ofString "turned") = some (.bool (turnedP ns))) (hdp : dp + 60 < recursionLimit) (hu : un + 600 < cLine)
    (hcont : ∀ h' tk' ua', Fr g L h' m → News g L h' ((Da, listOf (List.toArray ua') na) :: (L + 1 + 1 + 1 + 1 + 1 + 1 + 1, o7) :: (L + 1 + 1 + 1 + 1 + 1 + 1, o6) :: (L + 1 + 1 + 1 + 1 + 1, o5) :: (L + 1 + 1 + 1 + 1, o4) :: (L + 1 + 1 + 1, o3) :: (L + 1 + 1, o2) :: (L + 1, o1) :: (219, tabObj pt) :: (156, tabObj ps) :: sh) → IntsAre ua' (answerP ns al) →
      wpAny (model PySem.Challenge.rw_jb0039_01.row.prog w) { handled := none, depth := dp, frames := fr, guards := gd, units := un } (execs rest (lawEnv L fa)) Q E { s with heap := h', toks := tk' }) :
    (hd.heap_39 w.params).In g → wpAny (model PySem.Challenge.rw_jb0039_01.row.prog w) { handled := none, depth := dp, frames := fr, guards := gd, units := un } (execs (st 17 :: rest) (lawEnv L fa)) Q E s := by
  k_fill
  intro X
  have hL0 := hL
  obtain ⟨hL1, hL2⟩ := hL
  with_unfolding_all (show wpAny _ _ (execs (Stmt.If _ _ _ _ :: rest) _) _ _ _)
  refine wpAny_execs_cons (stopQ fun Q' hQ => ?_)
  k_steps
  · subst hQ
    refine hcont _ _ _ (by assumption) (by assumption) ?_
    unfold answerP
    rw [if_pos (by assumption)]
    assumption
  · subst hQ
    refine hcont _ _ _ (by assumption) (by assumption) ?_
    unfold answerP
    rw [if_neg (by simp_all)]
    exact hua
end Mine
end
local macro_rules | `(tactic| walk_at "mine pad") => `(tactic| fail "mine pad")
theorem Mine.top_off_W11 : True := by
  w_top off
  trivial
section
open PySem PySem.W PySem.Calls PyProof.Rows
set_option maxRecDepth 100000
set_option maxHeartbeats 2000000
namespace Mine
local macro_rules | `(tactic| k_all) => `(tactic| with_reducible assumption)

noncomputable def defArgs : Stmt → Arguments
  | .FunctionDef (args := b) .. => b
  | _ => { posonlyargs := [], args := [], vararg := none, kwonlyargs := [], kw_defaults := [], kwarg := none, defaults := [] }
noncomputable abbrev macQual (L fa : Addr) : Str := qualnameIn (lawEnv L fa) (Str.ofString "mac") (Str.ofString "mac")
noncomputable abbrev macCl (L : Addr) : List (Str × Addr) := [(Str.ofString "calls", L + 1 + 1 + 1 + 1 + 1 + 1 + 1), (Str.ofString "answer", L + 1 + 1 + 1 + 1 + 1 + 1)]
/- the function object of the law's own digest -/
noncomputable abbrev macObj (L fa : Addr) (mg : Str → Option Value) (c' : Addr) (dc ct : Value) : Obj := fnMade (Str.ofString "mac") (macQual L fa) (defArgs (st 19)) (defBody (st 19)) (defScope (st 19)) (macCl L) dc ((mg (Str.ofString "__name__")).getD Value.none) c' ct

theorem seg11 (w : World) (p : Program) (loose : List Str) (mean : ExcName → Option Value) (mg mb : Str → Option Value) (g : Heap) (L fa : Addr) (m : Str → Option Value) (o1 o2 o3 o4 o5 o6 o7 : Obj) (ps : Array Value) (Da Dq : Addr) (ua yl : List Value) (na nq : Nat) (sh : List (Addr × Obj))
    (dp un : Nat) (fr : Option (List Env)) (gd : Option (List Code)) (s : Shared) (Q : Flow → Shared → Prop) (E : Value → Shared → Prop) (rest : List Stmt)
    (T : Top p loose mean mg mb g) (F : Fr g L s.heap m) (N : News g L s.heap ((Da, listOf ua.toArray na) :: (Dq, listOf yl.toArray nq) :: (L + 1 + 1 + 1 + 1 + 1 + 1 + 1, o7) :: (L + 1 + 1 + 1 + 1 + 1 + 1, o6) :: (L + 1 + 1 + 1 + 1 + 1, o5) :: (L + 1 + 1 + 1 + 1, o4) :: (L + 1 + 1 + 1, o3) :: (L + 1 + 1, o2) :: (L + 1, o1) :: (219, tabObj #[]) :: (156, tabObj ps) :: sh)) (hL : @LT.lt Nat _ 219 L ∧ @LT.lt Nat _ 156 L) (hDa : @LT.lt Nat _ (L + 1 + 1 + 1 + 1 + 1 + 1 + 1) Da) (hDq : @Ne Nat Dq (L + 1 + 1 + 1 + 1 + 1 + 1 + 1) ∧ @Ne Nat Dq 219) (C : CodeHd g 221 219) (hs7 : ∀ q ∈ sh, q.1 ≠ L + 1 + 1 + 1 + 1 + 1 + 1 + 1) (hs219 : ∀ q ∈ sh, q.1 ≠ 219)
    (d7 : o7.data = .cell none) (hdp : dp + 60 < recursionLimit) (hu : un + 600 < cLine)
    (hcont : ∀ h' m' tk' fm c' ca oc' vs' t' dc ct o7', Fr g L h' m' → (∀ y, y ≠ Str.ofString "mac" → m' y = m y) → m' (Str.ofString "mac") = some (.ref fm) → News g L h' ((fm, macObj L fa mg c' dc ct) :: (c', oc') :: (ca, listOf #[] 0) :: (Da, listOf ua.toArray na) :: (Dq, listOf yl.toArray nq) :: (L + 1 + 1 + 1 + 1 + 1 + 1 + 1, o7') :: (L + 1 + 1 + 1 + 1 + 1 + 1, o6) :: (L + 1 + 1 + 1 + 1 + 1, o5) :: (L + 1 + 1 + 1 + 1, o4) :: (L + 1 + 1 + 1, o3) :: (L + 1 + 1, o2) :: (L + 1, o1) :: (219, tabObj (#[] ++ #[rawInt 172, rawInt 4, Value.ref c'])) :: (156, tabObj ps) :: sh) →
      o7'.data = .cell (some (.ref ca)) → oc'.data = .fields vs' → vs'[1]? = some (.str (macQual L fa) t') → AllLt ca ((Da, listOf ua.toArray na) :: (Dq, listOf yl.toArray nq) :: (L + 1 + 1 + 1 + 1 + 1 + 1 + 1, o7) :: (L + 1 + 1 + 1 + 1 + 1 + 1, o6) :: (L + 1 + 1 + 1 + 1 + 1, o5) :: (L + 1 + 1 + 1 + 1, o4) :: (L + 1 + 1 + 1, o3) :: (L + 1 + 1, o2) :: (L + 1, o1) :: (219, tabObj #[]) :: (156, tabObj ps) :: sh) → @LT.lt Nat _ ca c' ∧ @LT.lt Nat _ c' fm →
      wpAny (model PySem.Challenge.rw_jb0039_01.row.prog w) { handled := none, depth := dp, frames := fr, guards := gd, units := un } (execs rest (lawEnv L fa)) Q E { s with heap := h', toks := tk' }) :
    (hd.heap_39 w.params).In g → wpAny (model PySem.Challenge.rw_jb0039_01.row.prog w) { handled := none, depth := dp, frames := fr, guards := gd, units := un } (execs (st 18 :: st 19 :: rest) (lawEnv L fa)) Q E s := by
  k_fill
  intro X
  have hL0 := hL
  obtain ⟨hL1, hL2⟩ := hL
  obtain ⟨hq1, hq2⟩ := hDq
  with_unfolding_all (show wpAny _ _ (execs (Stmt.Assign _ _ _ :: Stmt.FunctionDef _ _ _ _ _ _ _ _ _ _ :: rest) _) _ _ _)
  k_steps
  rename_i l1 _ _ _ _ _ _ _ _ _ _ _ _ d1 d2 l2 l3 _ F9 N9
  dsimp only
  refine hcont _ _ _ _ _ _ _ _ _ _ _ _ F9 (fun y hy => if_neg hy) (if_pos rfl) N9 (by assumption) d1 d2 l1 ⟨l2.1, l3⟩
end Mine
end
end
theorem Mine.top_off_W12 : True := by
  w_top off
  trivial
section
open PySem PySem.W PySem.Calls PyProof.Rows
set_option maxRecDepth 100000
set_option maxHeartbeats 2000000
namespace Mine
/- a nested def without cells of its own is entered; the addresses of led are hidden from the base and kept in the ledger -/
theorem callPN {prog : Program} {w : World} {A : Around} {s : Shared} {K : Frag} {g : Heap} {led : List (Addr × Obj)} {mg mb : Str → Option Value} {p : Program} {loose : List Str} {mean : ExcName → Option Value}
    {R : Result → Shared → Prop} {name qual : Str} {params : Arguments} {body : List Stmt} {scope : Scope} {cl : List (Str × Addr)} {doc pm ctv : Value} {c' f : Addr} {args : Args} {binds : List (Str × Value)}
    (X : K.In g) (T : Top p loose mean mg mb g) (hgs : ∀ b o, g.get? b = some o → s.heap.get? b = some o) (hled : ∀ q ∈ led, s.heap.get? q.1 = some q.2 ∧ g.get? q.1 = none)
    (ho : s.heap.get? f = some (fnMade name qual params body scope cl doc pm c' ctv)) (hcd : s.heap.CodeRec (.ref c') qual) (hroom : A.depth < recursionLimit)
    (hbind : BindsTo s (fnX name qual params body scope cl .none .none doc pm none (.ref c') ctv) args binds) (hloc : ∀ y ∈ binds, scope.names.lookup y.1 = some .local)
    (h : ∀ h₀ L' h₁, (∀ b o, b ∉ led.map (·.1) → s.heap.get? b = some o → h₀.get? b = some o) → (∀ b o, h₀.get? b = some o → s.heap.get? b = some o) → (∀ b o, g.get? b = some o → h₀.get? b = some o) →
      (∀ q ∈ led, @LT.lt Nat _ q.1 L') → Fr h₀ L' h₁ (fun y => binds.reverse.lookup y) → News h₀ L' h₁ led → K.In h₀ → Top p loose mean mg mb h₀ →
      wpAny (model prog w) (A.deeper (envX qual scope L' f (.ref c') cl)) (execs body (envX qual scope L' f (.ref c') cl))
        (fun fl s' => R (.ok (.ret (match fl with | .ret v => v | _ => .none))) s')
        (fun e s' => wpAny (model prog w) (A.deeper (envX qual scope L' f (.ref c') cl)) (leaving (envX qual scope L' f (.ref c') cl) e) (fun _ s'' => R (.error e) s'') (fun e' s'' => R (.error e') s'') s')
        { s with heap := h₁, toks := s.toks + binds.length })
    (hco : scope.isCoroutine = false) (hgen : scope.isGenerator = false) (hk : scope.kind = .function)
    (hcell : ∀ x ∈ scope.names, x.2 ≠ .cell) : codeAny (model prog w) A (.call (.ref f) args) R s := by
  have up : ∀ b o, g.get? b = some o → (hideAll s.heap (led.map (·.1))).get? b = some o := fun b o e => hideAll_get _ (hgs b o e) fun q => by
    obtain ⟨q', hq, rfl⟩ := List.mem_map.mp q
    rw [(hled q' hq).2] at e; cases e
  refine codeAny_call_def (fd := fnX name qual params body scope cl .none .none doc pm none (.ref c') ctv) (body := body) (binds := binds) hroom ho rfl (T.nolimit.keeps hgs) hcd rfl hbind hcell hloc
    (fun h₁ hns hk₁ => ?_) hco hgen hk
  refine h (hideAll s.heap (led.map (·.1))) s.heap.objs.size h₁ (fun b o hb e => hideAll_get _ e hb) (fun b o e => of_hideAll _ e) up (fun q hq => Heap.lt_size (hled q hq).1)
    ⟨hns, fun b o e => hk₁ b o (of_hideAll _ e), Nat.le_of_eq (hideAll_size _ _)⟩ (fun q hq => ⟨hk₁ _ _ (hled q hq).1, Nat.ne_of_lt (Heap.lt_size (hled q hq).1), hideAll_none _ (List.mem_map_of_mem hq)⟩) (X.keeps up) (T.keeps up)
local macro_rules | `(tactic| walk_at "eval Name") => `(tactic| (k_here; (with_reducible show wpAny _ _ (eval (Expr.Name _ _) (envX _ _ _ _ _ _)) _ _ _); k_dflt (refine' nameX_F ?N ?c ?m ?d ?_ ?a ?b; (case a => rfl); (case b => rfl); (case N => k_asm); (case c => rfl); (case m => k_mem); (case d => k_asm); k_whole)))
local macro_rules | `(tactic| walk_at "call type:bytes") => `(tactic| (k_here; (with_reducible show wpAny _ _ (call (Value.type "bytes") [Value.int _ _]) _ _ _); k_dflt (refine bytes_count (by decide) (by decide) ?_); intro t9 tk9; (try dsimp only)))
local macro_rules | `(tactic| walk_at "binaryOp Add bytes bytes") => `(tactic| (k_here; (with_reducible show wpAny _ _ (binaryOp Operator.Add (Value.bytes _ _) (Value.bytes _ _)) _ _ _); (refine KBy.add_bytes (by with_reducible assumption) ?_); intro _ _))

noncomputable def macRes (al : List Int) : Array UInt8 := byteArr al ++ Array.replicate (Int.toNat 28) 0
theorem mac_does (w : World) (p : Program) (loose : List Str) (mean : ExcName → Option Value) (mg mb : Str → Option Value) (g H : Heap) (L fa fm c' ca Da : Addr) (o6 o7 oc' : Obj) (vs' : Array Value) (t' : Tok) (dc ct : Value) (ua : List Value) (al : List Int) (na D U : Nat)
    (T : Top p loose mean mg mb g) (hgH : ∀ b o, g.get? b = some o → H.get? b = some o) (hg156 : g.get? 156 = none)
    (hled : ∀ q ∈ ([(ca, listOf #[] 0), (Da, listOf ua.toArray na), (L + 1 + 1 + 1 + 1 + 1 + 1 + 1, o7), (L + 1 + 1 + 1 + 1 + 1 + 1, o6)] : List (Addr × Obj)), H.get? q.1 = some q.2 ∧ g.get? q.1 = none)
    (hfm : H.get? fm = some (macObj L fa mg c' dc ct)) (hoc : H.get? c' = some oc') (d1 : oc'.data = .fields vs') (d2 : vs'[1]? = some (.str (macQual L fa) t')) (d6 : o6.data = .cell (some (.ref Da))) (d7 : o7.data = .cell (some (.ref ca)))
    (hL : @LT.lt Nat _ 156 L) (hDa : @LT.lt Nat _ (L + 1 + 1 + 1 + 1 + 1 + 1 + 1) Da) (hca : @LT.lt Nat _ Da ca) (hc' : @LT.lt Nat _ ca c') (hf' : @LT.lt Nat _ c' fm)
    (hua : IntsAre ua al) (hal : al.length = 4) (hab : ∀ x ∈ al, 0 ≤ x ∧ x < 256) (hD : D + 10 < recursionLimit) (hU : U + 100 < cLine) :
    (hd.heap_39 w.params).In g → MacDoes PySem.Challenge.rw_jb0039_01.row.prog w fm ca (macRes al) H D U := by
  k_fill
  intro X
  intro dp un fr gd s k1 k2 t1 t2 Q E hdp hun hH hret
  have hled' : ∀ q ∈ ([(ca, listOf #[] 0), (Da, listOf ua.toArray na), (L + 1 + 1 + 1 + 1 + 1 + 1 + 1, o7), (L + 1 + 1 + 1 + 1 + 1 + 1, o6)] : List (Addr × Obj)), s.heap.get? q.1 = some q.2 ∧ g.get? q.1 = none := fun q hq => ⟨hH _ _ (by
    simp only [List.mem_cons, List.not_mem_nil, or_false] at hq
    rcases hq with rfl | rfl | rfl | rfl <;> refine neN ?_ <;> dsimp only <;> omega) (hled q hq).1, (hled q hq).2⟩
  refine wpAny_call ?_
  refine' callPN (f := fm) (led := [(ca, listOf #[] 0), (Da, listOf ua.toArray na), (L + 1 + 1 + 1 + 1 + 1 + 1 + 1, o7), (L + 1 + 1 + 1 + 1 + 1 + 1, o6)]) (binds := [(Str.ofString "key", .bytes k1 t1), (Str.ofString "message", .bytes k2 t2)]) X T (fun b o e => hH b o (fun q => by rw [q, hg156] at e; cases e) (hgH b o e)) hled' (hH _ _ ?kf hfm) ⟨c', oc', vs', t', rfl, hH _ _ ?kc hoc, d1, d2⟩ ?k8 ?k9 ?kB ?_ ?c2 ?c3 ?c4 ?c5
  case kf => refine neN ?_; omega
  case kc => refine neN ?_; omega
  case k8 => show dp < recursionLimit; omega
  case k9 => exact BindsTo.of_eq rfl
  case c2 => rfl
  case c3 => rfl
  case c4 => rfl
  case c5 => decide
  case kB => exact locs rfl
  k_whole
  intro h₀ L' h₁ hk0 hk1 hg0 hLL F N X₀ T₀
  clear X T
  (try dsimp only)
  (try k_fold)
  with_unfolding_all (show wpAny _ _ (execs (Stmt.Expr _ _ :: Stmt.Return _ _ :: []) _) _ _ _)
  have hsum : (byteArr al).size + (Array.replicate (Int.toNat 28) (0 : UInt8)).size ≤ 16777216 := by rw [byteArr_size, hal, Array.size_replicate]; decide
  k_steps
  (with_reducible rename Fr _ _ _ _ => F9)
  (with_reducible rename News _ _ _ _ => N9)
  (with_reducible rename (_ ∧ _ ∧ _ ∧ _) => l9)
  obtain ⟨l1, l2, l3, l4⟩ := l9
  show Q (.bytes (macRes al) _) _
  refine hret _ _ _ _ _ _ (fun b o hb e => ?_) (N9 _ (.tail _ (.head _))).1 (N9 _ (.head _)).1 ?_ ⟨⟨_, rfl⟩, _, _, rfl⟩
  · by_cases hm : b ∈ List.map (fun x => x.1) ([(ca, listOf #[] 0), (Da, listOf ua.toArray na), (L + 1 + 1 + 1 + 1 + 1 + 1 + 1, o7), (L + 1 + 1 + 1 + 1 + 1 + 1, o6)] : List (Addr × Obj))
    · obtain ⟨q, hq, rfl⟩ := List.mem_map.mp hm
      have e2 := (hled' q hq).1
      rw [e] at e2
      cases e2
      simp only [List.mem_cons, List.not_mem_nil, or_false] at hq
      rcases hq with rfl | rfl | rfl | rfl
      · exact absurd rfl hb
      · exact (N9 _ (.tail _ (.tail _ (.head _)))).1
      · exact (N9 _ (.tail _ (.tail _ (.tail _ (.head _))))).1
      · exact (N9 _ (.tail _ (.tail _ (.tail _ (.tail _ (.head _)))))).1
    · exact Fr.keep F9 _ _ (hk0 b o hm e)
  · cases q : s.heap.get? _ with
    | none => rfl
    | some o =>
      have := hk0 _ o (fun hm => by
        simp only [List.map_cons, List.map_nil, List.mem_cons, List.not_mem_nil, or_false] at hm
        rcases hm with h | h | h | h
        · exact absurd h (Nat.ne_of_gt l1)
        · exact absurd h (Nat.ne_of_gt l2)
        · exact absurd h (Nat.ne_of_gt l3)
        · exact absurd h (Nat.ne_of_gt l4)) q
      rw [(N9 _ (.head _)).2.2] at this
      cases this
end Mine
end
section
open PySem PySem.W PySem.Calls PyProof.Rows Mine
set_option maxRecDepth 100000
local macro_rules | `(tactic| walk_at "mine look") => `(tactic| first | with_reducible assumption | (refine Eq.trans (if_neg (by decide)) ?_; with_reducible assumption) | (refine Eq.trans (if_neg (by decide)) ?_; refine Eq.trans (if_neg (by decide)) ?_; with_reducible assumption) | (refine Eq.trans (if_neg (by decide)) ?_; refine Eq.trans (if_neg (by decide)) ?_; refine Eq.trans (if_neg (by decide)) ?_; with_reducible assumption) | (refine Eq.trans (if_neg (by decide)) ?_; refine Eq.trans (if_neg (by decide)) ?_; refine Eq.trans (if_neg (by decide)) ?_; refine Eq.trans (if_neg (by decide)) ?_; with_reducible assumption))
local macro_rules | `(tactic| walk_at "eval Name") => `(tactic| (k_here; (with_reducible show wpAny _ _ (eval (Expr.Name _ _) (envX _ _ _ _ _ _)) _ _ _); k_dflt (refine' nameX_L ?F ?v ?_ ?a ?b; (case F => k_asm); (case a => rfl); (case b => rfl); (case v => walk_at "mine look"); k_whole)))
local macro_rules | `(tactic| walk_at "loadName") => `(tactic| (k_here; (with_reducible show wpAny _ _ (loadName (envX _ _ _ _ _ _) _) _ _ _); k_dflt (refine' loadX_L ?F ?v ?_ ?a ?b; (case F => k_asm); (case a => rfl); (case b => rfl); (case v => walk_at "mine look"); k_whole)))
local macro_rules | `(tactic| walk_at "mine pad") => `(tactic| fail "mine pad")
theorem Mine.top_off_W13 : True := by
  w_top off
  trivial
section
open PySem PySem.W PySem.Calls PyProof.Rows
set_option maxRecDepth 100000
set_option maxHeartbeats 2000000
namespace Mine
section
variable {prog : Program} {w : World} {A : Around} {E : Value → Shared → Prop} {s' : Shared} {g H : Heap} {L a e t : Addr} {m : Str → Option Value} {cn : Str} {cs : Scope} {cd : Value} {cl : List (Str × Addr)}
  {vs : List Value} {b₀ : Stmt} {suite : List Stmt} {pos np : Pos} {rest : List ExceptHandler} {Q : Flow → Shared → Prop} {sp : List (Addr × Obj)} {KF : Frag} {bmB : List Value} {newId : String}
  {p : Program} {loose : List Str} {mg mb : Str → Option Value} {x : Str}
/- an exception of the class 31 that flew out of a callee is caught in a frame with cells -/
theorem caught_X (hA : A.frames = some [envX cn cs L a cd cl]) (F : Fr g L H m) (hsp : L ∉ sp.map (·.1)) (R : RaisedM g H [envX cn cs L a cd cl] e t vs sp s'.heap)
    (X : KF.In g) (T : TopRead p loose mg mb g) (ex : nsIn KF mainGlobals x = some (some (.ref 31))) (q : excIn KF 31 bmB newId = true) (hbase : bmB.contains (.type "BaseException") = true)
    (k : ∀ h', Fr g L h' m → (∀ b o, b ∉ sp.map (·.1) → b ≠ L → H.get? b = some o → h'.get? b = some o) → (∀ q ∈ sp, h'.get? q.1 = some q.2) →
      wpAny (model prog w) (A.mark (some (.ref e))) (execs (b₀ :: suite) (envX cn cs L a cd cl)) Q E { s' with heap := h' })
    (hE : PassesOwnAt (model prog w) (A.mark (some (.ref e))) A (envX cn cs L a cd cl) E)
    (hk : cs.kind = .function := by rfl) (hx : (envX cn cs L a cd cl).kindOf x = some .globalImplicit := by rfl) (hd : (x == ("__debug__" : Str)) = false := by decide) :
    wpAny (model prog w) A (noteFrame (.ref e) (envX cn cs L a cd cl))
      (fun _ s₂ => wpAny (model prog w) A (setFlight (.ref e) none) (fun _ s₃ =>
        wpAny (model prog w) A (handleBy (.ref e) (envX cn cs L a cd cl) (.ExceptHandler (some (.Name x np)) none (b₀ :: suite) pos :: rest)) Q E s₃) E s₂) E s' := by
  obtain ⟨B, hB, hold, hsp', hfl, hnew, htup, hup⟩ := R
  have ns0 : s'.heap.Ns L m := by
    obtain ⟨o, es, ep, h1, h2, h3⟩ := F.ns
    obtain ⟨sl, h4⟩ := hup L o hsp h1 (fun fs q => by rw [h2] at q; cases q)
    exact ⟨_, es, ep, h4, h2, h3⟩
  refine wpAny_looks_onW hA rfl hfl fun h₄ hheld₄ hsm₄ => ?_
  refine wpAny_landsW hheld₄ fun h₅ hheld hsm₅' => ?_
  have hsm₅ := hsm₄.trans hsm₅'
  have F₅ : Fr g L h₅ m := ⟨hsm₅.ns ns0, fun b o q => hheld.1 b o (hB b o q), F.above⟩
  obtain ⟨ob, hob, hobc⟩ := hheld.there
  refine wpAny_handleBy_cons (codeAny_handlers_test (nameX_K F₅ X T ex ?_ hk hx hd)) (by intro q; cases q)
  obtain ⟨bm, N, nm, qn, bs, hdct, sn, sub, ab, col, dd, k0, k1, k2, k3, k5, mN, hC, hN, hni, TL⟩ := ((own_of_in X T ex q).keeps F₅.keep).obj
  refine wpAny_excMatches_sub_self hC hob hobc (TL.hasType hbase) (codeAny_handlers_suite ?_)
  refine lands_againW hheld fun h₆ hfl₆ hsm₆ => ?_
  have F₆ : Fr g L h₆ m := ⟨(hsm₅.trans hsm₆).ns ns0, fun b o q => hfl₆.1 b o (hB b o q), F.above⟩
  refine wpAny_passesOwnAt hE (k h₆ F₆ (fun b o hb hL e => hfl₆.1 b o (hold b o hb e fun hm => ?_)) fun q hq => hfl₆.1 _ _ (hsp' q hq))
  obtain ⟨env', he, hf⟩ := List.mem_filterMap.mp hm
  rw [List.mem_singleton.mp he] at hf
  exact hL (Option.some.inj hf).symm
end

theorem stopE {M : Model} {A : Around} {α : Type} {t : Sem α} {P : α → Shared → Prop} {E : Value → Shared → Prop} {s : Shared} (h : ∀ E', E' = E → wpAny M A t P E' s) : wpAny M A t P E s := h E rfl
noncomputable def Stop (p : Prop) : Prop := p
theorem Stop.out {p : Prop} (h : Stop p) : p := h
theorem below_hideL {A : Around} {base h : Heap} {env : Env} {L : Addr} {as : List Addr} (K : Below A base [env] h) (hf : env.frame = some L) (hL : L ∉ as) (hb : ∀ a ∈ as, base.get? a = none) : Below A base [env] (hideAll h as) := by
  refine ⟨K.stack, fun b o e => hideAll_get _ (K.stays b o e) fun q => ?_, ?_⟩
  · rw [hb b q] at e; cases e
  · obtain ⟨hk, ⟨L', o, hf', hn, ho, hd⟩, _⟩ := K.frames
    have : L' = L := Option.some.inj (hf'.symm.trans hf)
    subst this
    exact ⟨hk, ⟨L', o, hf', hn, hideAll_get _ ho hL, hd⟩, trivial⟩

theorem ShKind.no_tab {ps : Array Value} : ¬ ShKind (tabObj ps) := by
  rintro (⟨dx, items, h⟩ | h)
  · have := congrArg Obj.data h
    cases this
  · have := congrArg Obj.data h
    cases this
local macro_rules | `(tactic| walk_at "call ref") => `(tactic| (k_here; (with_reducible show wpAny _ _ (call (Value.ref 175) _) _ _ _); refine Stop.out ?_))

theorem seg13 (w : World) (p : Program) (loose : List Str) (mean : ExcName → Option Value) (mg mb : Str → Option Value) (g : Heap) (L fa : Addr) (m : Str → Option Value) (o2 o6 o7 : Obj) (ps pt : Array Value)
    (Da Dq ca c' fm : Addr) (ua yl : List Value) (al : List Int) (na nq : Nat) (oc' : Obj) (vs' : Array Value) (t' tt : Tok) (dc ct : Value) (sh : List (Addr × Obj)) (ds : List (Int × Array UInt8)) (thr : Int)
    (dp un : Nat) (gd : Option (List Code)) (s : Shared) (Q : Flow → Shared → Prop) (E : Value → Shared → Prop) (rest : List Stmt)
    (T : Top p loose mean mg mb g) (F : Fr g L s.heap m) (N : News g L s.heap ((fm, macObj L fa mg c' dc ct) :: (c', oc') :: (ca, listOf #[] 0) :: (Da, listOf ua.toArray na) :: (L + 1 + 1 + 1 + 1 + 1 + 1, o6) :: (Dq, listOf yl.toArray nq) :: (L + 1 + 1 + 1 + 1 + 1 + 1 + 1, o7) :: (L + 1 + 1, o2) :: (219, tabObj pt) :: (156, tabObj ps) :: sh)) (hL : @LT.lt Nat _ 219 L ∧ @LT.lt Nat _ 156 L) (hDa : @LT.lt Nat _ (L + 1 + 1 + 1 + 1 + 1 + 1 + 1) Da) (hca : @LT.lt Nat _ Da ca) (hcc : @LT.lt Nat _ ca c' ∧ @LT.lt Nat _ c' fm) (hqc : @LT.lt Nat _ Dq ca ∧ @Ne Nat Dq 156)
    (K : ∀ h m, Fr g L h m → Below { handled := none, depth := dp, frames := some [lawEnv L fa], guards := gd, units := un } g [lawEnv L fa] h)
    (hE : ∀ e, PassesOwnAt (model PySem.Challenge.rw_jb0039_01.row.prog w) (Around.mark { handled := none, depth := dp, frames := some [lawEnv L fa], guards := gd, units := un } (some (.ref e))) { handled := none, depth := dp, frames := some [lawEnv L fa], guards := gd, units := un } (lawEnv L fa) E)
    (d1 : oc'.data = .fields vs') (d2 : vs'[1]? = some (.str (macQual L fa) t')) (d6 : o6.data = .cell (some (.ref Da))) (d7 : o7.data = .cell (some (.ref ca)))
    (hb : AllBare s.gens) (ht : TriplesOk ps.toList) (hua : IntsAre ua al) (hal : al.length = 4) (hab : ∀ x ∈ al, 0 ≤ x ∧ x < 256)
    (hsh : SharesL sh yl ds) (hk : ∀ q ∈ sh, ShKind q.2) (hds : ∀ d ∈ ds, 0 ≤ d.1 ∧ d.1 < 256 ∧ d.2.size < 1000) (hn : ds.length < 100) (hthr : thr = 1 → 0 < ds.length) (htb : 0 < thr ∧ thr < 100)
    (hm1 : m (Str.ofString "least") = some (.int thr tt)) (hm2 : m (Str.ofString "points") = some (.ref Dq)) (hm3 : m (Str.ofString "mac") = some (.ref fm)) (hdp : dp + 200 < recursionLimit) (hu : un + 1000 < cLine)
    (hc0 : ∀ (s2 : Shared) m' tv ps', s2.os = s.os → AllBare s2.gens → TriplesOk ps'.toList → Fr g L s2.heap m' → (∀ y, y ≠ Str.ofString "told" → m' y = m y) → m' (Str.ofString "told") = some tv →  News g L s2.heap ((ca, listOf #[] 0) :: (Dq, listOf yl.toArray nq) :: (L + 1 + 1 + 1 + 1 + 1 + 1 + 1, o7) :: (L + 1 + 1, o2) :: (219, tabObj pt) :: (156, tabObj ps') :: sh) → (thr = 1 ∧ (∃ t, tv = .bytes (dAt ds 0) t)) ∨ (thr ≠ 1 ∧ (∃ t, tv = .str (Str.ofString "refused") t) ∧ (interpP ds 255 = none ∨ interpP ds 254 = none)) →
      wpAny (model PySem.Challenge.rw_jb0039_01.row.prog w) { handled := none, depth := dp, frames := some [lawEnv L fa], guards := gd, units := un } (execs rest (lawEnv L fa)) Q E s2)
    (hc1 : ∀ (s2 : Shared) m' tv ps' co to ta sec dig, s2.os = s.os → AllBare s2.gens → TriplesOk ps'.toList → Fr g L s2.heap m' → (∀ y, y ≠ Str.ofString "told" → m' y = m y) → m' (Str.ofString "told") = some tv →  News g L s2.heap ((ta, to) :: (ca, co) :: (Dq, listOf yl.toArray nq) :: (L + 1 + 1 + 1 + 1 + 1 + 1 + 1, o7) :: (L + 1 + 1, o2) :: (219, tabObj pt) :: (156, tabObj ps') :: sh) → CallIs co to ta (KBy.picked dig (some 4) none) sec → thr ≠ 1 → interpP ds 255 = some sec → interpP ds 254 = some dig →
      (KBy.picked dig none (some 4) = KBy.picked (macRes al) none (some 4) ∧ (∃ t, tv = .bytes sec t)) ∨ (KBy.picked dig none (some 4) ≠ KBy.picked (macRes al) none (some 4) ∧ (∃ t, tv = .str (Str.ofString "refused") t)) →
      wpAny (model PySem.Challenge.rw_jb0039_01.row.prog w) { handled := none, depth := dp, frames := some [lawEnv L fa], guards := gd, units := un } (execs rest (lawEnv L fa)) Q E s2) :
    (hd.heap_39 w.params).In g → wpAny (model PySem.Challenge.rw_jb0039_01.row.prog w) { handled := none, depth := dp, frames := some [lawEnv L fa], guards := gd, units := un } (execs (st 20 :: rest) (lawEnv L fa)) Q E s := by
  k_fill
  intro X
  have hL0 := hL
  obtain ⟨hL1, hL2⟩ := hL
  with_unfolding_all (show wpAny _ _ (execs (Stmt.Try (Stmt.Assign _ _ _ :: []) (ExceptHandler.ExceptHandler (some (Expr.Name _ _)) none (_ :: _) _ :: []) [] [] _ :: rest) _) _ _ _)
  refine wpAny_execs_cons (wpAny_Try_except (wpAny_execs_cons (wpAny_Assign_Name (stopQ fun Q' hQ => ?_))))
  refine stopE ?_
  intro E' hE'
  k_steps
  subst hQ hE'
  have g156 : g.get? 156 = none := (N (156, tabObj ps) (.tail _ (.tail _ (.tail _ (.tail _ (.tail _ (.tail _ (.tail _ (.tail _ (.tail _ (.head _))))))))))).2.2
  have gca : g.get? ca = none := (N (ca, listOf #[] 0) (.tail _ (.tail _ (.head _)))).2.2
  have hca0 : s.heap.get? ca = some (listOf #[] 0) := (N (ca, listOf #[] 0) (.tail _ (.tail _ (.head _)))).1
  have h156 : s.heap.get? 156 = some (tabObj ps) := (N (156, tabObj ps) (.tail _ (.tail _ (.tail _ (.tail _ (.tail _ (.tail _ (.tail _ (.tail _ (.tail _ (.head _))))))))))).1
  have hne : ca ≠ 156 := by refine neN ?_; omega
  have hLn : L ∉ [156, ca] := fun q => by
    simp only [List.mem_cons, List.not_mem_nil, or_false] at q
    rcases q with q | q
    · exact absurd q (Nat.ne_of_gt hL2)
    · exact (N (ca, listOf #[] 0) (.tail _ (.tail _ (.head _)))).2.1 q.symm
  have hbn : ∀ a ∈ [156, ca], g.get? a = none := fun a q => by
    simp only [List.mem_cons, List.not_mem_nil, or_false] at q
    rcases q with rfl | rfl
    · exact g156
    · exact gca
  have KB := below_hideL (as := [156, ca]) (K s.heap m F) rfl hLn hbn
  have up : ∀ b o, g.get? b = some o → (hideAll s.heap [156, ca]).get? b = some o := fun b o e => hideAll_get _ (F.keep b o e) fun q => by rw [hbn b q] at e; cases e
  have keepH : ∀ b o, b ≠ 156 → b ≠ ca → s.heap.get? b = some o → (hideAll s.heap [156, ca]).get? b = some o := fun b o h1 h2 e => hideAll_get _ e fun q => by
    simp only [List.mem_cons, List.not_mem_nil, or_false] at q
    rcases q with q | q
    · exact h1 q
    · exact h2 q
  have hfm0 := (N (fm, _) (.head _)).1
  have hpre : ∀ q ∈ sh, q ∈ ((fm, macObj L fa mg c' dc ct) :: (c', oc') :: (ca, listOf #[] 0) :: (Da, listOf ua.toArray na) :: (L + 1 + 1 + 1 + 1 + 1 + 1, o6) :: (Dq, listOf yl.toArray nq) :: (L + 1 + 1 + 1 + 1 + 1 + 1 + 1, o7) :: (L + 1 + 1, o2) :: (219, tabObj pt) :: (156, tabObj ps) :: sh) := fun q hq => List.mem_append_right (as := [(fm, macObj L fa mg c' dc ct), (c', oc'), (ca, listOf #[] 0), (Da, listOf ua.toArray na), (L + 1 + 1 + 1 + 1 + 1 + 1, o6), (Dq, listOf yl.toArray nq), (L + 1 + 1 + 1 + 1 + 1 + 1 + 1, o7), (L + 1 + 1, o2), (219, tabObj pt), (156, tabObj ps)]) hq
  have hsc : ∀ q ∈ sh, q.1 ≠ ca := sh_apart N hpre (.tail _ (.tail _ (.head _))) hk ShKind.no_list
  have hs156 : ∀ q ∈ sh, q.1 ≠ 156 := sh_apart N hpre (.tail _ (.tail _ (.tail _ (.tail _ (.tail _ (.tail _ (.tail _ (.tail _ (.tail _ (.head _)))))))))) hk ShKind.no_tab
  have hM := mac_does w p loose mean mg mb g s.heap L fa fm c' ca Da o6 o7 oc' vs' t' dc ct ua al na (dp + 20) (un + 50) T F.keep g156 (fun q hq => by
    simp only [List.mem_cons, List.not_mem_nil, or_false] at hq
    rcases hq with rfl | rfl | rfl | rfl
    · exact ⟨(N _ (.tail _ (.tail _ (.head _)))).1, (N _ (.tail _ (.tail _ (.head _)))).2.2⟩
    · exact ⟨(N _ (.tail _ (.tail _ (.tail _ (.head _))))).1, (N _ (.tail _ (.tail _ (.tail _ (.head _))))).2.2⟩
    · exact ⟨(N _ (.tail _ (.tail _ (.tail _ (.tail _ (.tail _ (.tail _ (.head _)))))))).1, (N _ (.tail _ (.tail _ (.tail _ (.tail _ (.tail _ (.tail _ (.head _)))))))).2.2⟩
    · exact ⟨(N _ (.tail _ (.tail _ (.tail _ (.tail _ (.head _)))))).1, (N _ (.tail _ (.tail _ (.tail _ (.tail _ (.head _)))))).2.2⟩) hfm0 (N (c', oc') (.tail _ (.head _))).1 d1 d2 d6 d7 hL2 hDa hca hcc.1 hcc.2 hua hal hab (by omega) (by omega) X
  have hL156 : L ≠ 156 := fun q => hLn (by rw [q]; exact .head _)
  have hLca : L ≠ ca := fun q => hLn (by rw [q]; exact .tail _ (.head _))
  have hsp1 : ∀ ps : Array Value, L ∉ ([(ca, listOf #[] 0), (156, tabObj ps)] : List (Addr × Obj)).map (·.1) := fun ps q => by
    simp only [List.map_cons, List.map_nil, List.mem_cons, List.not_mem_nil, or_false] at q
    rcases q with q | q
    · exact hLca q
    · exact hL156 q
  have hsub : ∀ q ∈ ((ca, listOf #[] 0) :: (Dq, listOf yl.toArray nq) :: (L + 1 + 1 + 1 + 1 + 1 + 1 + 1, o7) :: (L + 1 + 1, o2) :: (219, tabObj pt) :: (156, tabObj ps) :: sh : List (Addr × Obj)), q ∈ ((fm, macObj L fa mg c' dc ct) :: (c', oc') :: (ca, listOf #[] 0) :: (Da, listOf ua.toArray na) :: (L + 1 + 1 + 1 + 1 + 1 + 1, o6) :: (Dq, listOf yl.toArray nq) :: (L + 1 + 1 + 1 + 1 + 1 + 1 + 1, o7) :: (L + 1 + 1, o2) :: (219, tabObj pt) :: (156, tabObj ps) :: sh) := fun q hq => by
    simp only [List.mem_cons] at hq ⊢
    rcases hq with h | h | h | h | h | h | h <;> simp [h]
  have mkN : ∀ (h' : Heap) (ps' : Array Value) (co : Obj), (∀ b o, b ≠ 156 → b ≠ ca → b ≠ L → s.heap.get? b = some o → h'.get? b = some o) → h'.get? 156 = some (tabObj ps') → h'.get? ca = some co → News g L h' ((ca, co) :: (Dq, listOf yl.toArray nq) :: (L + 1 + 1 + 1 + 1 + 1 + 1 + 1, o7) :: (L + 1 + 1, o2) :: (219, tabObj pt) :: (156, tabObj ps') :: sh) := fun h' ps' co k hP hco q hq => by
    have old : ∀ q ∈ ((ca, listOf #[] 0) :: (Dq, listOf yl.toArray nq) :: (L + 1 + 1 + 1 + 1 + 1 + 1 + 1, o7) :: (L + 1 + 1, o2) :: (219, tabObj pt) :: (156, tabObj ps) :: sh : List (Addr × Obj)), q.1 ≠ 156 → q.1 ≠ ca → h'.get? q.1 = some q.2 ∧ q.1 ≠ L ∧ g.get? q.1 = none := fun q hq e1 e2 => ⟨k _ _ e1 e2 (N q (hsub q hq)).2.1 (N q (hsub q hq)).1, (N q (hsub q hq)).2⟩
    simp only [List.mem_cons] at hq
    rcases hq with rfl | rfl | rfl | rfl | rfl | rfl | hq
    · exact ⟨hco, (N (ca, listOf #[] 0) (.tail _ (.tail _ (.head _)))).2⟩
    · exact old _ (.tail _ (.head _)) hqc.2 (Nat.ne_of_lt hqc.1)
    · exact old (_, o7) (.tail _ (.tail _ (.head _))) (by refine neN ?_; dsimp only; omega) (by refine neN ?_; dsimp only; omega)
    · exact old (_, o2) (.tail _ (.tail _ (.tail _ (.head _)))) (by refine neN ?_; dsimp only; omega) (by refine neN ?_; dsimp only; omega)
    · exact old (219, tabObj pt) (.tail _ (.tail _ (.tail _ (.tail _ (.head _))))) (by refine neN ?_; dsimp only; omega) (by refine neN ?_; dsimp only; omega)
    · exact ⟨hP, (N (156, tabObj ps) (.tail _ (.tail _ (.tail _ (.tail _ (.tail _ (.tail _ (.tail _ (.tail _ (.tail _ (.head _))))))))))).2⟩
    · exact old q (List.mem_append_right (as := [(ca, listOf #[] 0), (Dq, listOf yl.toArray nq), (L + 1 + 1 + 1 + 1 + 1 + 1 + 1, o7), (L + 1 + 1, o2), (219, tabObj pt), (156, tabObj ps)]) hq) (hs156 q hq) (hsc q hq)
  have news_ta : ∀ {h' : Heap} {ta : Addr} {to : Obj} {l : List (Addr × Obj)}, h'.get? ta = some to → s.heap.get? ta = none → News g L h' l → News g L h' ((ta, to) :: l) := fun hto hta N' q hq => by
    rcases List.mem_cons.mp hq with rfl | hq
    · refine ⟨hto, fun q => ?_, ?_⟩
      · obtain ⟨o, _, _, e, _⟩ := F.ns
        rw [← q, hta] at e
        cases e
      · cases q : g.get? _ with
        | none => rfl
        | some o => rw [F.keep _ _ q] at hta; cases hta
    · exact N' q hq
  refine Stop.out (p := wpAny _ _ _ _ _ _) ?_
  show wpAny _ _ (call (Value.ref 175) [Value.int thr tt, Value.ref Dq, Value.ref fm]) _ _ s
  refine recover_spec w p loose mean mg mb Dq fm ca yl ds thr tt ps (macRes al) s.heap (dp + 20) (un + 50) (listOf #[] 0) (macObj L fa mg c' dc ct) _ dp un _ gd s _ _ g (hideAll s.heap [156, ca]) [lawEnv L fa] KB (T.keeps up) (fun b o e => of_hideAll _ e) (hideAll_none _ (.head _)) h156 ⟨hca0, hideAll_none _ (.tail _ (.head _))⟩ hne ht hb ?hl ?hs hds hn hthr htb hM (fun _ _ _ e => e) (by omega) (by omega) ?hmr ?hfm rfl (by omega) (by omega) ?hQ1 ?hQ2 ?hE1 ?hE2 (X.keeps up)
  case hl => exact ⟨_, keepH _ _ hqc.2 (Nat.ne_of_lt hqc.1) (N (Dq, listOf yl.toArray nq) (.tail _ (.tail _ (.tail _ (.tail _ (.tail _ (.head _))))))).1, rfl, nq, rfl⟩
  case hs =>
    refine ⟨hsh.1, fun i v e => ?_⟩
    obtain ⟨a, t, u, dx, e', m1, m2⟩ := hsh.2 i v e
    exact ⟨a, t, u, e', dx, keepH _ _ (hs156 _ m1) (hsc _ m1) (N _ (hpre _ m1)).1, keepH _ _ (hs156 _ m2) (hsc _ m2) (N _ (hpre _ m2)).1⟩
  case hmr =>
    unfold macRes
    rw [Array.size_append, byteArr_size, hal, Array.size_replicate]
    decide
  case hfm => exact keepH _ _ (by refine neN ?_; omega) (by refine neN ?_; omega) hfm0
  case hQ1 =>
    intro h1 t h' tk k9
    refine storeX_L (Fr.keeps F k9) (news_keeps N k9) fun h3 F3 N3 => ?_
    dsimp only
    refine wpAny_execs_nil ?_
    dsimp only
    refine wpAny_execs_nil ?_
    exact hc0 _ _ _ ps rfl hb ht F3 (fun y hy => if_neg hy) (if_pos rfl) (fun q hq => N3 q (hsub q hq)) (.inl ⟨h1, _, rfl⟩)
  case hQ2 =>
    intro sec dig h1 hs1 hs2 hpk t h' gs d tk ps' co to ta ht' hb' k9 hP' hco hto hta hcall
    have F9 : Fr g L h' m := ⟨F.ns.at' fun o e => k9 L o hL156 hLca e, fun b o e => k9 b o (fun q => by rw [q, g156] at e; cases e) (fun q => by rw [q, gca] at e; cases e) (F.keep b o e), F.above⟩
    have N9 : News g L h' ((ta, to) :: (ca, co) :: (Dq, listOf yl.toArray nq) :: (L + 1 + 1 + 1 + 1 + 1 + 1 + 1, o7) :: (L + 1 + 1, o2) :: (219, tabObj pt) :: (156, tabObj ps') :: sh) := news_ta hto hta (mkN h' ps' co (fun b o e1 e2 _ e => k9 b o e1 e2 e) hP' hco)
    refine storeX_L F9 N9 fun h3 F3 N3 => ?_
    dsimp only
    refine wpAny_execs_nil ?_
    dsimp only
    refine wpAny_execs_nil ?_
    exact hc1 _ _ _ ps' co to ta sec dig rfl hb' ht' F3 (fun y hy => if_neg hy) (if_pos rfl) N3 hcall h1 hs1 hs2 (.inl ⟨hpk, _, rfl⟩)
  case hE1 =>
    intro h1 hnone e t vs h' gs d tk ps' ht' hb' R
    refine caught_X rfl F (hsp1 ps') R X (by k_asm) (by k_is) (bmB := [.type "Exception", .type "BaseException", .type "object"]) (newId := "Exception.__new__") (by k_exc) (by decide) (fun h6 F6 k6 sp6 => ?_) (hE e)
    have N6 : News g L h6 ((ca, listOf #[] 0) :: (Dq, listOf yl.toArray nq) :: (L + 1 + 1 + 1 + 1 + 1 + 1 + 1, o7) :: (L + 1 + 1, o2) :: (219, tabObj pt) :: (156, tabObj ps') :: sh) := mkN h6 ps' _ (fun b o e1 e2 e3 e => k6 b o (fun q => by
      simp only [List.map_cons, List.map_nil, List.mem_cons, List.not_mem_nil, or_false] at q
      rcases q with q | q
      · exact e2 q
      · exact e1 q) e3 e) (sp6 (156, _) (.tail _ (.head _))) (sp6 (ca, _) (.head _))
    refine wpAny_execs_cons (wpAny_Assign_Name (Calls.Constant_str (storeX_L F6 N6 fun h7 F7 N7 => ?_)))
    dsimp only
    refine wpAny_execs_nil ?_
    exact hc0 _ _ _ ps' rfl hb' ht' F7 (fun y hy => if_neg hy) (if_pos rfl) N7 (.inr ⟨h1, ⟨_, rfl⟩, hnone⟩)
  case hE2 =>
    intro sec dig h1 hs1 hs2 hpk e t vs h' gs d tk ps' co to ta ht' hb' hta hcall R
    have hLta : L ≠ ta := fun q => by
      obtain ⟨o, _, _, e, _⟩ := F.ns
      rw [q, hta] at e
      cases e
    refine caught_X rfl F (fun q => by
      simp only [List.map_cons, List.map_nil, List.mem_cons, List.not_mem_nil, or_false] at q
      rcases q with q | q | q
      · exact hLta q
      · exact hLca q
      · exact hL156 q) R X (by k_asm) (by k_is) (bmB := [.type "Exception", .type "BaseException", .type "object"]) (newId := "Exception.__new__") (by k_exc) (by decide) (fun h6 F6 k6 sp6 => ?_) (hE e)
    have N6 : News g L h6 ((ta, to) :: (ca, co) :: (Dq, listOf yl.toArray nq) :: (L + 1 + 1 + 1 + 1 + 1 + 1 + 1, o7) :: (L + 1 + 1, o2) :: (219, tabObj pt) :: (156, tabObj ps') :: sh) := news_ta (sp6 (ta, _) (.head _)) hta (mkN h6 ps' co (fun b o e1 e2 e3 e => k6 b o (fun q => by
      simp only [List.map_cons, List.map_nil, List.mem_cons, List.not_mem_nil, or_false] at q
      rcases q with q | q | q
      · rw [q, hta] at e; cases e
      · exact e2 q
      · exact e1 q) e3 e) (sp6 (156, _) (.tail _ (.tail _ (.head _)))) (sp6 (ca, _) (.tail _ (.head _))))
    refine wpAny_execs_cons (wpAny_Assign_Name (Calls.Constant_str (storeX_L F6 N6 fun h7 F7 N7 => ?_)))
    dsimp only
    refine wpAny_execs_nil ?_
    exact hc1 _ _ _ ps' co to ta sec dig rfl hb' ht' F7 (fun y hy => if_neg hy) (if_pos rfl) N7 hcall h1 hs1 hs2 (.inr ⟨hpk, _, rfl⟩)
end Mine
end
theorem Mine.top_off_W14 : True := by
  w_top off
  trivial
section
open PySem PySem.W PySem.Calls PyProof.Rows
set_option maxRecDepth 100000
set_option maxHeartbeats 2000000
namespace Mine

theorem end_ret {g h : Heap} {L : Addr} {m : Str → Option Value} {led : List (Addr × Obj)} {pt ps : Array Value} {P : Prop} (F : Fr g L h m) (N : News g L h led) (m1 : (219, tabObj pt) ∈ led) (m2 : (156, tabObj ps) ∈ led)
    (k : (∀ b o, g.get? b = some o → h.get? b = some o) → h.get? 219 = some (tabObj pt) → h.get? 156 = some (tabObj ps) → P) : P := k F.keep (N _ m1).1 (N _ m2).1
local macro_rules | `(tactic| walk_at "subscriptTail") => `(tactic| (k_here; (with_reducible show wpAny _ _ (subscriptTail _ _ (Value.ref _) (Value.int 0 _)) _ _ _); k_dflt (refine' item_ref ?N ?mm ?hx ?_ ?d; (case d => with_unfolding_all rfl); (case N => k_asm); (case mm => k_mem); (case hx => with_reducible assumption))))
local macro_rules | `(tactic| walk_at "mine share") => `(tactic| exact shareN (by assumption) (by assumption) (by assumption))
local macro_rules | `(tactic| walk_at "getAttr ref") => `(tactic| (k_here; (with_reducible show wpAny _ _ (getAttr (Value.ref _) (Str.ofString "data") _) _ _ _); (refine' at_data _ _ _ _ _ _ _ _ _ _ _ _ _ _ _ _ _ ?aX ?aT ?aS ?aV ?aD ?aU ?_; (case aX => k_in); (case aT => walk_at "mine top"); (case aS => walk_at "mine share"); (case aV => exact ⟨rfl, rfl⟩); (case aD => ktr_room); (case aU => ktr_units); intro h9 tk9 k9; (have F9 := Fr.keeps (by assumption) k9); (have N9 := news_keeps (by assumption) k9); (try dsimp only); (try k_sweep); (try k_fold))))

theorem endA (w : World) (p : Program) (loose : List Str) (mean : ExcName → Option Value) (mg mb : Str → Option Value) (g : Heap) (L fa : Addr) (m : Str → Option Value) (o2 o7 : Obj) (ps pt : Array Value) (Dq ca : Addr) (yl : List Value) (nq : Nat) (tt tu : Tok) (sh : List (Addr × Obj)) (ds : List (Int × Array UInt8))
    (dp un : Nat) (fr : Option (List Env)) (gd : Option (List Code)) (s : Shared) (Q : Flow → Shared → Prop) (E : Value → Shared → Prop)
    (T : Top p loose mean mg mb g) (F : Fr g L s.heap m) (N : News g L s.heap ((ca, listOf #[] 0) :: (Dq, listOf yl.toArray nq) :: (L + 1 + 1 + 1 + 1 + 1 + 1 + 1, o7) :: (L + 1 + 1, o2) :: (219, tabObj pt) :: (156, tabObj ps) :: sh)) (hL : @LT.lt Nat _ 219 L ∧ @LT.lt Nat _ 156 L) (hqc : @LT.lt Nat _ Dq ca)
    (d7 : o7.data = .cell (some (.ref ca))) (hsh : SharesL sh yl ds) (hpos : 0 < ds.length)
    (hm1 : m (Str.ofString "least") = some (.int 1 tt)) (hm2 : m (Str.ofString "points") = some (.ref Dq)) (hm3 : m (Str.ofString "told") = some (.bytes (dAt ds 0) tu)) (hdp : dp + 60 < recursionLimit) (hu : un + 600 < cLine)
    (hret : ∀ s2 : Shared, s2.os = s.os → s2.gens = s.gens → (∀ b o, g.get? b = some o → s2.heap.get? b = some o) → s2.heap.get? 219 = some (tabObj pt) → s2.heap.get? 156 = some (tabObj ps) → Q (.ret (.bool true)) s2) : (hd.heap_39 w.params).In g → wpAny (model PySem.Challenge.rw_jb0039_01.row.prog w) { handled := none, depth := dp, frames := fr, guards := gd, units := un } (execs [st 21, st 22, st 23] (lawEnv L fa)) Q E s := by
  k_fill
  intro X
  obtain ⟨hL1, hL2⟩ := hL
  obtain ⟨a0, t0, u0, dx0, hx0, hm1', hm2'⟩ := hsh.first hpos
  have hp1 := List.mem_append_right (as := [(ca, listOf #[] 0), (Dq, listOf yl.toArray nq), (L + 1 + 1 + 1 + 1 + 1 + 1 + 1, o7), (L + 1 + 1, o2), (219, tabObj pt), (156, tabObj ps)]) hm1'
  have hp2 := List.mem_append_right (as := [(ca, listOf #[] 0), (Dq, listOf yl.toArray nq), (L + 1 + 1 + 1 + 1 + 1 + 1 + 1, o7), (L + 1 + 1, o2), (219, tabObj pt), (156, tabObj ps)]) hm2'
  clear hsh hm1' hm2'
  dsimp only [List.cons_append, List.nil_append] at hp1 hp2
  generalize he : ([st 22, st 23] : List Stmt) = rest1
  with_unfolding_all (show wpAny _ _ (execs (Stmt.If _ _ _ _ :: rest1) _) _ _ _)
  k_steps
  · exact hret _ rfl rfl (Fr.keep (by assumption)) (News.get (o := tabObj pt) (by assumption) (by simp)) (News.get (o := tabObj ps) (by assumption) (by simp))
  · rename_i hf
    exact absurd (hf.symm.trans (beq_self_eq_true _)) (by decide)
theorem endB (w : World) (p : Program) (loose : List Str) (mean : ExcName → Option Value) (mg mb : Str → Option Value) (g : Heap) (L fa : Addr) (m : Str → Option Value) (o2 o7 : Obj) (ps pt : Array Value) (Dq ca : Addr) (yl : List Value) (nq : Nat) (n sp thr : Int) (tt tu tc ts : Tok) (sh : List (Addr × Obj))
    (dp un : Nat) (fr : Option (List Env)) (gd : Option (List Code)) (s : Shared) (Q : Flow → Shared → Prop) (E : Value → Shared → Prop)
    (T : Top p loose mean mg mb g) (F : Fr g L s.heap m) (N : News g L s.heap ((ca, listOf #[] 0) :: (Dq, listOf yl.toArray nq) :: (L + 1 + 1 + 1 + 1 + 1 + 1 + 1, o7) :: (L + 1 + 1, o2) :: (219, tabObj pt) :: (156, tabObj ps) :: sh)) (hL : @LT.lt Nat _ 219 L ∧ @LT.lt Nat _ 156 L) (hqc : @LT.lt Nat _ Dq ca)
    (d7 : o7.data = .cell (some (.ref ca))) (hthr : thr ≠ 1) (hcase : n = 0 ∨ sp = 1 ∨ sp = 2)
    (hm1 : m (Str.ofString "least") = some (.int thr tt)) (hm2 : m (Str.ofString "count") = some (.int n tc)) (hm4 : m (Str.ofString "spoil") = some (.int sp ts)) (hm3 : m (Str.ofString "told") = some (.str (Str.ofString "refused") tu)) (hdp : dp + 60 < recursionLimit) (hu : un + 600 < cLine)
    (hret : ∀ s2 : Shared, s2.os = s.os → s2.gens = s.gens → (∀ b o, g.get? b = some o → s2.heap.get? b = some o) → s2.heap.get? 219 = some (tabObj pt) → s2.heap.get? 156 = some (tabObj ps) → Q (.ret (.bool true)) s2) : (hd.heap_39 w.params).In g → wpAny (model PySem.Challenge.rw_jb0039_01.row.prog w) { handled := none, depth := dp, frames := fr, guards := gd, units := un } (execs [st 21, st 22, st 23] (lawEnv L fa)) Q E s := by
  k_fill
  intro X
  obtain ⟨hL1, hL2⟩ := hL
  generalize he : ([st 23] : List Stmt) = rest1
  with_unfolding_all (show wpAny _ _ (execs (Stmt.If _ _ _ _ :: Stmt.If _ _ _ _ :: rest1) _) _ _ _)
  k_steps
  · exact absurd (by assumption) hthr
  · exact hret _ rfl rfl (Fr.keep (by assumption)) (News.get (o := tabObj pt) (by assumption) (by simp)) (News.get (o := tabObj ps) (by assumption) (by simp))
  · exact hret _ rfl rfl (Fr.keep (by assumption)) (News.get (o := tabObj pt) (by assumption) (by simp)) (News.get (o := tabObj ps) (by assumption) (by simp))
  · rename_i hf
    exfalso
    rcases hcase with h | h | h
    · exact absurd h (by assumption)
    · rw [h] at hf; exact absurd hf (by decide)
    · rw [h] at hf; exact absurd hf (by decide)
end Mine
end
theorem Mine.top_off_W15 : True := by
  w_top off
  trivial
section
open PySem PySem.W PySem.Calls PyProof.Rows
set_option maxRecDepth 100000
set_option maxHeartbeats 2000000
namespace Mine

section
open PySem.SeqAt
variable {prog : Program} {w : World} {A : Around} {E : Value → Shared → Prop} {s : Shared} {h₀ : Heap} {L a b ta tb : Addr} {led : List (Addr × Obj)}
theorem eqAt_bytes {A : Around} {s : Shared} (k : Array UInt8) (t u : Tok) : EqAt A s (.bytes k t) (.bytes k u) true := fun prog w E Q hq => by
  unfold eqBool
  refine wpAny_holding ?_
  refine wpAny_ite_split (fun _ => wpAny_bind (wpAny_rule (wpAny_pure hq))) (fun _ => ?_)
  refine wpAny_bind (eq_bytes ?_)
  rw [beq_self_eq_true]
  exact wpAny_truthy_bool hq
/- a list of one pair of octets equals a list of such a pair -/
theorem calls_eq {k1 k2 : Array UInt8} {u1 u2 v1 v2 : Tok} {n n' n1 n2 : Nat} {Q : Value → Shared → Prop} (N : News h₀ L s.heap led)
    (m1 : (a, ({ cls := .type "list", dict := none, data := .seq #[.ref ta] n, slots := #[] } : Obj)) ∈ led) (m2 : (b, ({ cls := .type "list", dict := none, data := .seq #[.ref tb] n', slots := #[] } : Obj)) ∈ led)
    (m3 : (ta, ({ cls := .type "tuple", dict := none, data := .seq #[.bytes k1 u1, .bytes k2 u2] n1, slots := #[] } : Obj)) ∈ led) (m4 : (tb, ({ cls := .type "tuple", dict := none, data := .seq #[.bytes k1 v1, .bytes k2 v2] n2, slots := #[] } : Obj)) ∈ led)
    (hne : ta ≠ tb) (hu : A.units + 64 < cLine) (h : Q (.bool true) s) : wpAny (model prog w) A (compareOp .Eq (.ref a) (.ref b)) Q E s := by
  refine eq_listAt (items := #[.ref ta]) (items2 := #[.ref tb]) (e := fun _ => true) ⟨_, (N _ m1).1, rfl, n, rfl⟩ ⟨_, (N _ m2).1, rfl, n', rfl⟩ rfl (by omega) (fun j h1 h2 => ?_) ?_
  · have hj : j = 0 := by simp at h1; omega
    subst hj
    refine EqAt.of_refs hne ?_
    have R := RcAt.tuples (A := A.in1) (s := s) (l := ta) (b := tb) (items := #[.bytes k1 u1, .bytes k2 u2]) (items2 := #[.bytes k1 v1, .bytes k2 v2]) (e := fun _ => true) ⟨_, (N _ m3).1, rfl, n1, rfl⟩ ⟨_, (N _ m4).1, rfl, n2, rfl⟩
      (by show A.units + 1 < cLine; omega) (fun j h1 h2 => by
        have hj : j = 0 ∨ j = 1 := by simp at h1; omega
        rcases hj with rfl | rfl
        · exact eqAt_bytes k1 u1 v1
        · exact eqAt_bytes k2 u2 v2)
    exact R
  · exact h
end
local macro_rules | `(tactic| walk_at "compareOp Eq ref ref") => `(tactic| (k_here; (with_reducible show wpAny _ _ (compareOp CmpOp.Eq (Value.ref _) (Value.ref _)) _ _ _); k_dflt (refine' calls_eq ?N ?m1 ?m2 ?m3 ?m4 ?ne ?u ?_; (case N => k_asm); (case m1 => k_mem); (case m2 => k_mem); (case m3 => k_mem); (case m4 => k_mem); (case ne => (refine neN ?_; omega)); (case u => ktr_units))))

theorem endC (w : World) (p : Program) (loose : List Str) (mean : ExcName → Option Value) (mg mb : Str → Option Value) (g : Heap) (L fa : Addr) (m : Str → Option Value) (o2 o7 : Obj) (ps pt : Array Value) (Dq ca ta : Addr) (yl : List Value) (nq : Nat) (co to : Obj) (n sp thr sec dig : Int) (tv : Value) (tt tc ts tz tse tre : Tok) (sh : List (Addr × Obj)) (size : Int) (k1 : Array UInt8) (tn : Bool)
    (dp un : Nat) (fr : Option (List Env)) (gd : Option (List Code)) (s : Shared) (Q : Flow → Shared → Prop) (E : Value → Shared → Prop)
    (T : Top p loose mean mg mb g) (F : Fr g L s.heap m) (N : News g L s.heap ((ta, to) :: (ca, co) :: (Dq, listOf yl.toArray nq) :: (L + 1 + 1 + 1 + 1 + 1 + 1 + 1, o7) :: (L + 1 + 1, o2) :: (219, tabObj pt) :: (156, tabObj ps) :: sh)) (hL : @LT.lt Nat _ 219 L ∧ @LT.lt Nat _ 156 L) (hqc : @LT.lt Nat _ Dq ca)
    (d7 : o7.data = .cell (some (.ref ca))) (d2 : o2.data = .cell (some (.int size tz))) (hsz : 0 ≤ size ∧ size ≤ 8) (hcall : CallIs co to ta k1 (octA sec size)) (hthr : thr ≠ 1) (hn : n ≠ 0) (hsp : sp ≠ 1 ∧ sp ≠ 2)
    (hm1 : m (Str.ofString "least") = some (.int thr tt)) (hm2 : m (Str.ofString "count") = some (.int n tc)) (hm4 : m (Str.ofString "spoil") = some (.int sp ts)) (hm5 : m (Str.ofString "turned") = some (.bool tn)) (hm6 : m (Str.ofString "secret") = some (.int sec tse)) (hm7 : m (Str.ofString "rest") = some (.bytes k1 tre))
    (hm3 : m (Str.ofString "told") = some tv) (htv : (tn = true ∧ ∃ t, tv = .str (Str.ofString "refused") t) ∨ (tn = false ∧ ∃ t, tv = .bytes (octA sec size) t)) (hdp : dp + 60 < recursionLimit) (hu : un + 600 < cLine)
    (hret : ∀ s2 : Shared, s2.os = s.os → s2.gens = s.gens → (∀ b o, g.get? b = some o → s2.heap.get? b = some o) → s2.heap.get? 219 = some (tabObj pt) → s2.heap.get? 156 = some (tabObj ps) → Q (.ret (.bool true)) s2) : (hd.heap_39 w.params).In g → wpAny (model PySem.Challenge.rw_jb0039_01.row.prog w) { handled := none, depth := dp, frames := fr, guards := gd, units := un } (execs [st 21, st 22, st 23] (lawEnv L fa)) Q E s := by
  k_fill
  intro X
  obtain ⟨hL1, hL2⟩ := hL
  obtain ⟨⟨nc, rfl⟩, u1, u2, rfl⟩ := hcall
  have hno : ([1, 2].any fun x => x == sp) = false := by simp [Ne.symm hsp.1, Ne.symm hsp.2]
  with_unfolding_all (show wpAny _ _ (execs (Stmt.If _ _ _ _ :: Stmt.If _ _ _ _ :: Stmt.Return _ _ :: []) _) _ _ _)
  rcases htv with ⟨rfl, t1, rfl⟩ | ⟨rfl, t1, rfl⟩
  · k_steps
    · exact absurd (by assumption) hthr
    · exact absurd (by assumption) hn
    · exact hret _ rfl rfl (Fr.keep (by assumption)) (News.get (o := tabObj pt) (by assumption) (by simp)) (News.get (o := tabObj ps) (by assumption) (by simp))
  · k_steps
    · exact absurd (by assumption) hthr
    · exact absurd (by assumption) hn
    · exact hret _ rfl rfl (Fr.keep (by assumption)) (News.get (o := tabObj pt) (by assumption) (by simp)) (News.get (o := tabObj ps) (by assumption) (by simp))
    · rename_i hf
      exact absurd (hf.symm.trans (beq_self_eq_true _)) (by decide)
end Mine
end
end
end
theorem Mine.top_off_W16 : True := by
  w_top off
  trivial
section
open PySem PySem.W PySem.Calls PyProof.Rows
set_option maxRecDepth 100000
set_option maxHeartbeats 2000000
namespace Mine

theorem allLt_mem {d : Addr} {l : List (Addr × Obj)} : AllLt d l → ∀ p ∈ l, @LT.lt Nat _ p.1 d := fun x p hp => by
  induction l with
  | nil => cases hp
  | cons q r ih =>
    cases hp with
    | head => exact x.1
    | tail _ hp => exact ih x.2 hp
/- the law's body, from its entry to its return of True -/
theorem law_walk (w : World) (p : Program) (loose : List Str) (mean : ExcName → Option Value) (mg mb : Str → Option Value) (g : Heap) (L fa l : Addr) (vs : List Value) (ns : List Int) (m : Str → Option Value) (o1 o2 o3 o4 o5 o6 o7 : Obj) (ps : Array Value)
    (dp un : Nat) (gd : Option (List Code)) (s : Shared) (Q : Flow → Shared → Prop) (E : Value → Shared → Prop)
    (T : Top p loose mean mg mb g) (F : Fr g L s.heap m) (N : News g L s.heap [(L + 1 + 1 + 1 + 1 + 1 + 1 + 1, o7), (L + 1 + 1 + 1 + 1 + 1 + 1, o6), (L + 1 + 1 + 1 + 1 + 1, o5), (L + 1 + 1 + 1 + 1, o4), (L + 1 + 1 + 1, o3), (L + 1 + 1, o2), (L + 1, o1), (219, tabObj #[]), (156, tabObj ps)]) (hL : @LT.lt Nat _ 219 L ∧ @LT.lt Nat _ 156 L) (C : CodeHd g 221 219)
    (K : ∀ h m, Fr g L h m → Below { handled := none, depth := dp, frames := some [lawEnv L fa], guards := gd, units := un } g [lawEnv L fa] h)
    (hE1 : PassesOwn (model PySem.Challenge.rw_jb0039_01.row.prog w) { handled := none, depth := dp, frames := some [lawEnv L fa], guards := gd, units := un } (lawEnv L fa) E)
    (hE2 : ∀ e, PassesOwnAt (model PySem.Challenge.rw_jb0039_01.row.prog w) (Around.mark { handled := none, depth := dp, frames := some [lawEnv L fa], guards := gd, units := un } (some (.ref e))) { handled := none, depth := dp, frames := some [lawEnv L fa], guards := gd, units := un } (lawEnv L fa) E)
    (d1 : o1.data = .cell (some (.ref l))) (d2 : o2.data = .cell none) (d3 : o3.data = .cell none) (d4 : o4.data = .cell none) (d5 : o5.data = .cell none) (d6 : o6.data = .cell none) (d7 : o7.data = .cell none)
    (hb : AllBare s.gens) (ht : TriplesOk ps.toList) (hl : g.IsList l vs.toArray) (hi : IntsAre vs ns) (hln : ns.length ≤ 63) (hlay : PyData.layable0 (.list (ns.map .int)) = true) (hdp : dp + 200 < recursionLimit) (hu : un + 1000 < cLine)
    (hret : ∀ (s2 : Shared) pt ps, s2.os = s.os → AllBare s2.gens → (∀ b o, g.get? b = some o → s2.heap.get? b = some o) → s2.heap.get? 219 = some (tabObj pt) → s2.heap.get? 156 = some (tabObj ps) → Q (.ret (.bool true)) s2) :
    (hd.heap_39 w.params).In g → wpAny (model PySem.Challenge.rw_jb0039_01.row.prog w) { handled := none, depth := dp, frames := some [lawEnv L fa], guards := gd, units := un } (execs lawBody (lawEnv L fa)) Q E s := by
  intro X
  rw [lawBody_eq]
  refine seg1 _ _ _ _ _ _ _ _ _ _ _ _ _ _ _ _ _ _ _ _ _ _ _ _ _ _ _ _ _ _ T F N hL d1 d2 hl hi hln (by omega) (by omega) ?_ X
  clear F N d2
  rintro h1 m1 tk1 o2' F1 N1 ⟨tz, d2⟩ ⟨tl, e1⟩ ⟨c, tc, e2, hcn⟩
  obtain ⟨n, hn⟩ := Int.eq_ofNat_of_zero_le (countP_bounds ns).1
  rw [hn] at hcn
  subst hcn
  have hn3 : n ≤ 3 := by have := (countP_bounds ns).2; omega
  refine seg2 _ _ _ _ _ _ _ _ _ _ _ _ _ _ _ _ _ _ _ _ _ _ _ _ _ _ _ T F1 N1 hL d3 (by omega) (by omega) ?_ X
  clear F1 N1 d3
  rintro h2 m2 tk2 o3' Df us nf F2 rfl N2 hDf d3 hus
  have hus0 : IntsAre us (freeP ns 0) := by
    have : IntsAre us ((rangeInts 0 1 256).map fun x => x) := CarriedAll.intsOf (f := fun x => x) hus
    rw [List.map_id'] at this
    exact this
  refine seg3 _ _ _ _ _ _ _ _ _ _ _ _ _ _ _ _ _ _ _ _ _ _ _ _ _ _ _ _ _ _ _ _ _ _ _ T F2 N2 ⟨hL.1, hL.2, hDf⟩ d1 d3 d4 hl hi hln hus0 hn3 e2 (by omega) (by omega) ?_ X
  clear F2 N2 d4 hus hus0
  rintro h3 tk3 o4' us nf' Dp pl F3 N3 offp d4 hus hpl
  refine seg4 _ _ _ _ _ _ _ _ _ _ _ _ _ _ _ _ _ _ _ _ _ _ _ _ _ _ _ _ _ _ _ _ _ _ _ _ _ _ _ T F3 (N3 : News _ _ _ ((Dp, listOf pl.toArray pl.length) :: _)) hL hDf offp d1 d2 d5 hl hi hln hlay hn3 e2 (by omega) (by omega) ?_ X
  clear F3 N3 d5
  rintro h4 tk4 o5' Dv vl F4 N4 offv d5 hvl
  refine seg5 _ _ _ _ _ _ _ _ _ _ _ _ _ _ _ _ _ _ _ _ _ _ _ _ _ _ _ _ _ _ _ _ _ _ _ _ _ _ _ _ T F4 (N4 : News _ _ _ ((Dv, listOf vl.toArray vl.length) :: _)) d2 d4 d5 hpl hvl hn3 e2 (by omega) (by omega) ?_ X
  clear F4 N4
  rintro h5 m5 tk5 sh Dq yl F5 em5 ep5 N5 offq hap hsh
  have ec5 := (em5 _ (by decide)).trans e2
  have el5 := (em5 _ (by decide)).trans e1
  refine seg6 _ _ _ _ _ _ _ _ _ _ _ _ _ _ _ _ _ _ _ _ _ _ _ _ _ _ _ _ _ _ _ _ _ _ _ _ _ _ _ _ _ _ _ T F5 (N5 : News _ _ _ ((Dq, listOf yl.toArray yl.length) :: _)) hE1 hb d4 d5 hpl hvl hn3 ec5 (by omega) (by omega) ?_ X
  clear F5 N5
  rintro s6 m6 hos6 hb6 F6 N6 em6 ⟨td, ed6⟩ ⟨ts, es6⟩
  have ec6 := (em6 _ (by decide)).trans ec5
  have el6 := (em6 _ (by decide)).trans el5
  have ep6 := (em6 _ (by decide)).trans ep5
  have hq6 := off1_mem offq
  have N6' : News g L s6.heap ((Dq, listOf yl.toArray yl.length) :: (Dp, listOf pl.toArray pl.length) :: (Df, listOf us.toArray nf') :: (L + 1 + 1 + 1 + 1 + 1 + 1 + 1, o7) :: (L + 1 + 1 + 1 + 1 + 1 + 1, o6) :: (L + 1 + 1 + 1 + 1 + 1, o5') :: (L + 1 + 1 + 1 + 1, o4') :: (L + 1 + 1 + 1, o3') :: (L + 1 + 1, o2') :: (L + 1, o1) :: (219, tabObj #[]) :: (156, tabObj ps) :: sh) := fun q hq => N6 q (by
    rcases List.mem_cons.mp hq with rfl | hq
    · exact .head _
    · exact .tail _ (.tail _ hq))
  refine seg7 _ _ _ _ _ _ _ _ _ _ _ _ _ _ _ _ _ _ _ _ _ _ _ _ _ _ _ _ _ _ _ _ _ _ _ _ _ _ _ _ _ _ _ T F6 N6' (fun q hq => hq6 q (.tail _ hq)) d1 d2 d4 hl hi hln hpl hsh hn3 ⟨ep6, trivial⟩ ec6 (by omega) (by omega) ?_ X
  clear F6 N6 N6' hq6 hsh hap offq
  rintro h7 m7 tk7 sh7 yl7 nq7 F7 em7 ⟨tsp, esp7⟩ N7 hq7 hsh7
  have ec7 := (em7 _ (by decide)).trans ec6
  have el7 := (em7 _ (by decide)).trans el6
  have ep7 := (em7 _ (by decide)).trans ep6
  have ed7 := (em7 _ (by decide)).trans ed6
  have es7 := (em7 _ (by decide)).trans es6
  have hx1 : (extra1P ns n).length ≤ 1 := by
    unfold extra1P
    split <;> simp
  refine seg8 _ _ _ _ _ _ _ _ _ _ _ _ _ _ _ _ _ _ _ _ _ _ _ _ _ _ _ _ _ _ _ _ _ _ _ _ _ _ _ _ _ _ _ _ _ T F7 N7 hq7 d1 d2 d3 hl hi hln hus hsh7 (by rw [List.length_append, pointsP_len]; omega) hn3 ep7 esp7 ec7 (by omega) (by omega) ?_ X
  clear F7 N7 hq7 hsh7
  rintro h8 tk8 sh8 yl8 nq8 F8 N8 hq8 hsh8
  obtain ⟨sh, hs2, hsh, hk⟩ := hsh8.clean
  clear hsh8
  have N8' : News g L h8 ((Dq, listOf yl8.toArray nq8) :: (Dp, listOf pl.toArray pl.length) :: (Df, listOf us.toArray nf') :: (L + 1 + 1 + 1 + 1 + 1 + 1 + 1, o7) :: (L + 1 + 1 + 1 + 1 + 1 + 1, o6) :: (L + 1 + 1 + 1 + 1 + 1, o5') :: (L + 1 + 1 + 1 + 1, o4') :: (L + 1 + 1 + 1, o3') :: (L + 1 + 1, o2') :: (L + 1, o1) :: (219, tabObj #[]) :: (156, tabObj ps) :: sh) := fun q hq => N8 q (by
    rcases List.mem_append.mp (show q ∈ [(Dq, listOf yl8.toArray nq8), (Dp, listOf pl.toArray pl.length), (Df, listOf us.toArray nf'), (L + 1 + 1 + 1 + 1 + 1 + 1 + 1, o7), (L + 1 + 1 + 1 + 1 + 1 + 1, o6), (L + 1 + 1 + 1 + 1 + 1, o5'), (L + 1 + 1 + 1 + 1, o4'), (L + 1 + 1 + 1, o3'), (L + 1 + 1, o2'), (L + 1, o1), (219, tabObj #[]), (156, tabObj ps)] ++ sh from hq) with hq | hq
    · exact List.mem_append_left (bs := sh8) hq
    · exact List.mem_append_right (as := [(Dq, listOf yl8.toArray nq8), (Dp, listOf pl.toArray pl.length), (Df, listOf us.toArray nf'), (L + 1 + 1 + 1 + 1 + 1 + 1 + 1, o7), (L + 1 + 1 + 1 + 1 + 1 + 1, o6), (L + 1 + 1 + 1 + 1 + 1, o5'), (L + 1 + 1 + 1 + 1, o4'), (L + 1 + 1 + 1, o3'), (L + 1 + 1, o2'), (L + 1, o1), (219, tabObj #[]), (156, tabObj ps)]) (hs2 q hq))
  have hqs : ∀ q ∈ sh, q.1 ≠ Dq := fun q hq => hq8 q (List.mem_append_right (as := [(Dp, listOf pl.toArray pl.length), (Df, listOf us.toArray nf'), (L + 1 + 1 + 1 + 1 + 1 + 1 + 1, o7), (L + 1 + 1 + 1 + 1 + 1 + 1, o6), (L + 1 + 1 + 1 + 1 + 1, o5'), (L + 1 + 1 + 1 + 1, o4'), (L + 1 + 1 + 1, o3'), (L + 1 + 1, o2'), (L + 1, o1), (219, tabObj #[]), (156, tabObj ps)]) (hs2 q hq))
  have hqc : ∀ q ∈ ([(Dp, listOf pl.toArray pl.length), (Df, listOf us.toArray nf'), (L + 1 + 1 + 1 + 1 + 1 + 1 + 1, o7), (L + 1 + 1 + 1 + 1 + 1 + 1, o6), (L + 1 + 1 + 1 + 1 + 1, o5'), (L + 1 + 1 + 1 + 1, o4'), (L + 1 + 1 + 1, o3'), (L + 1 + 1, o2'), (L + 1, o1), (219, tabObj #[]), (156, tabObj ps)] : List (Addr × Obj)), q.1 ≠ Dq := fun q hq => hq8 q (List.mem_append_left (bs := sh8) hq)
  clear N8 hq8 hs2
  have hpre : ∀ q ∈ sh, q ∈ ((Dq, listOf yl8.toArray nq8) :: (Dp, listOf pl.toArray pl.length) :: (Df, listOf us.toArray nf') :: (L + 1 + 1 + 1 + 1 + 1 + 1 + 1, o7) :: (L + 1 + 1 + 1 + 1 + 1 + 1, o6) :: (L + 1 + 1 + 1 + 1 + 1, o5') :: (L + 1 + 1 + 1 + 1, o4') :: (L + 1 + 1 + 1, o3') :: (L + 1 + 1, o2') :: (L + 1, o1) :: (219, tabObj #[]) :: (156, tabObj ps) :: sh) := fun q hq => List.mem_append_right (as := [(Dq, listOf yl8.toArray nq8), (Dp, listOf pl.toArray pl.length), (Df, listOf us.toArray nf'), (L + 1 + 1 + 1 + 1 + 1 + 1 + 1, o7), (L + 1 + 1 + 1 + 1 + 1 + 1, o6), (L + 1 + 1 + 1 + 1 + 1, o5'), (L + 1 + 1 + 1 + 1, o4'), (L + 1 + 1 + 1, o3'), (L + 1 + 1, o2'), (L + 1, o1), (219, tabObj #[]), (156, tabObj ps)]) hq
  have hs6 : ∀ q ∈ sh, q.1 ≠ L + 1 + 1 + 1 + 1 + 1 + 1 := sh_apart N8' hpre (.tail _ (.tail _ (.tail _ (.tail _ (.head _))))) hk (fun q => q.no_cell d6)
  have hs7 : ∀ q ∈ sh, q.1 ≠ L + 1 + 1 + 1 + 1 + 1 + 1 + 1 := sh_apart N8' hpre (.tail _ (.tail _ (.tail _ (.head _)))) hk (fun q => q.no_cell d7)
  have hs219 : ∀ q ∈ sh, q.1 ≠ 219 := sh_apart N8' hpre (.tail _ (.tail _ (.tail _ (.tail _ (.tail _ (.tail _ (.tail _ (.tail _ (.tail _ (.tail _ (.head _))))))))))) hk ShKind.no_tab
  have N8c : News g L h8 ((L + 1 + 1 + 1 + 1 + 1 + 1 + 1, o7) :: (L + 1 + 1 + 1 + 1 + 1 + 1, o6) :: (L + 1 + 1 + 1 + 1 + 1, o5') :: (L + 1 + 1 + 1 + 1, o4') :: (L + 1 + 1 + 1, o3') :: (L + 1 + 1, o2') :: (L + 1, o1) :: (219, tabObj #[]) :: (156, tabObj ps) :: (Dq, listOf yl8.toArray nq8) :: sh) := fun q hq => N8' q (by
    rcases List.mem_append.mp (show q ∈ [(L + 1 + 1 + 1 + 1 + 1 + 1 + 1, o7), (L + 1 + 1 + 1 + 1 + 1 + 1, o6), (L + 1 + 1 + 1 + 1 + 1, o5'), (L + 1 + 1 + 1 + 1, o4'), (L + 1 + 1 + 1, o3'), (L + 1 + 1, o2'), (L + 1, o1), (219, tabObj #[]), (156, tabObj ps)] ++ ((Dq, listOf yl8.toArray nq8) :: sh) from hq) with hq | hq
    · exact List.mem_append_left (bs := sh) (List.mem_append_right (as := [(Dq, listOf yl8.toArray nq8), (Dp, listOf pl.toArray pl.length), (Df, listOf us.toArray nf')]) hq)
    · rcases List.mem_cons.mp hq with rfl | hq
      · exact .head _
      · exact hpre q hq)
  refine seg9 _ _ _ _ _ _ _ _ _ _ _ _ _ _ _ _ _ _ _ _ _ _ _ _ _ _ _ _ _ _ _ _ _ _ T F8 N8c hL (fun q hq => ?hs6) d1 d2 d6 hl hi hln ed7 (by omega) (by omega) ?_ X
  case hs6 =>
    rcases List.mem_cons.mp hq with rfl | hq
    · exact Ne.symm (hqc _ (.tail _ (.tail _ (.tail _ (.head _)))))
    · exact hs6 q hq
  clear F8 N8c d6
  rintro h9 m9 tk9 Da ua na o6' F9 em9 ⟨tre, ere9⟩ etu9 N9 hDa hda d6 hua
  have ec9 := (em9 _ (by decide)).trans ec7
  have el9 := (em9 _ (by decide)).trans el7
  have ep9 := (em9 _ (by decide)).trans ep7
  have es9 := (em9 _ (by decide)).trans es7
  have esp9 := (em9 _ (by decide)).trans esp7
  have hll := lead_len (accP 254 ns n n) (sz := sizeP ns) (sizeP_bounds ns).1
  refine seg10 _ _ _ _ _ _ _ _ _ _ _ _ _ _ _ _ _ _ _ _ _ _ _ _ _ _ _ _ _ _ _ _ _ _ _ T F9 N9 hL hDa hda d1 d6 hl hi hln hua hll (lead_bounds _) etu9 (by omega) (by omega) ?_ X
  clear F9 N9 hua
  rintro h10 tk10 ua F10 N10 hua
  have N10' : News g L h10 ((Da, listOf ua.toArray na) :: (Dq, listOf yl8.toArray nq8) :: (L + 1 + 1 + 1 + 1 + 1 + 1 + 1, o7) :: (L + 1 + 1 + 1 + 1 + 1 + 1, o6') :: (L + 1 + 1 + 1 + 1 + 1, o5') :: (L + 1 + 1 + 1 + 1, o4') :: (L + 1 + 1 + 1, o3') :: (L + 1 + 1, o2') :: (L + 1, o1) :: (219, tabObj #[]) :: (156, tabObj ps) :: sh) := fun q hq => N10 q (by
    rcases List.mem_cons.mp hq with rfl | hq
    · exact .head _
    · rcases List.mem_cons.mp hq with rfl | hq
      · exact List.mem_append_right (as := [(Da, listOf ua.toArray na), (L + 1 + 1 + 1 + 1 + 1 + 1 + 1, o7), (L + 1 + 1 + 1 + 1 + 1 + 1, o6'), (L + 1 + 1 + 1 + 1 + 1, o5'), (L + 1 + 1 + 1 + 1, o4'), (L + 1 + 1 + 1, o3'), (L + 1 + 1, o2'), (L + 1, o1), (219, tabObj #[]), (156, tabObj ps)]) (.head _)
      · rcases List.mem_append.mp (show q ∈ [(L + 1 + 1 + 1 + 1 + 1 + 1 + 1, o7), (L + 1 + 1 + 1 + 1 + 1 + 1, o6'), (L + 1 + 1 + 1 + 1 + 1, o5'), (L + 1 + 1 + 1 + 1, o4'), (L + 1 + 1 + 1, o3'), (L + 1 + 1, o2'), (L + 1, o1), (219, tabObj #[]), (156, tabObj ps)] ++ sh from hq) with hq | hq
        · exact .tail _ (List.mem_append_left (bs := (Dq, listOf yl8.toArray nq8) :: sh) hq)
        · exact List.mem_append_right (as := [(Da, listOf ua.toArray na), (L + 1 + 1 + 1 + 1 + 1 + 1 + 1, o7), (L + 1 + 1 + 1 + 1 + 1 + 1, o6'), (L + 1 + 1 + 1 + 1 + 1, o5'), (L + 1 + 1 + 1 + 1, o4'), (L + 1 + 1 + 1, o3'), (L + 1 + 1, o2'), (L + 1, o1), (219, tabObj #[]), (156, tabObj ps)]) (.tail _ hq))
  refine seg11 _ _ _ _ _ _ _ _ _ _ _ _ _ _ _ _ _ _ _ _ _ _ _ _ _ _ _ _ _ _ _ _ _ T F10 N10' hL hDa ⟨Ne.symm (hqc _ (.tail _ (.tail _ (.head _)))), Ne.symm (hqc _ (.tail _ (.tail _ (.tail _ (.tail _ (.tail _ (.tail _ (.tail _ (.tail _ (.tail _ (.head _)))))))))))⟩ C hs7 hs219 d7 (by omega) (by omega) ?_ X
  clear F10 N10 N10' d7
  rintro h11 m11 tk11 fm c' ca oc' vs' t' dc ct o7' F11 em11 emac11 N11 d7 dd1 dd2 hlt ⟨hcc1, hcc2⟩
  have ec11 := (em11 _ (by decide)).trans ec9
  have el11 := (em11 _ (by decide)).trans el9
  have ep11 := (em11 _ (by decide)).trans ep9
  have es11 := (em11 _ (by decide)).trans es9
  have esp11 := (em11 _ (by decide)).trans esp9
  have etu11 := (em11 _ (by decide)).trans etu9
  have ere11 := (em11 _ (by decide)).trans ere9
  have hDac : @LT.lt Nat _ Da ca := allLt_mem hlt (Da, _) (.head _)
  have hDqc : @LT.lt Nat _ Dq ca := allLt_mem hlt (Dq, _) (.tail _ (.head _))
  have N11' : News g L h11 ((fm, macObj L fa mg c' dc ct) :: (c', oc') :: (ca, listOf #[] 0) :: (Da, listOf ua.toArray na) :: (L + 1 + 1 + 1 + 1 + 1 + 1, o6') :: (Dq, listOf yl8.toArray nq8) :: (L + 1 + 1 + 1 + 1 + 1 + 1 + 1, o7') :: (L + 1 + 1, o2') :: (219, tabObj (#[] ++ #[rawInt 172, rawInt 4, Value.ref c'])) :: (156, tabObj ps) :: sh) := fun q hq => N11 q (by
    simp only [List.mem_cons] at hq ⊢
    rcases hq with h | h | h | h | h | h | h | h | h | h | h <;> simp [h])
  have hal := (answerP_len ns _).trans hll
  have hlen := final_len ns (n := n) hn3
  have h156 : @Ne Nat Dq 156 := Ne.symm (hqc _ (.tail _ (.tail _ (.tail _ (.tail _ (.tail _ (.tail _ (.tail _ (.tail _ (.tail _ (.tail _ (.head _))))))))))))
  refine seg13 _ _ _ _ _ _ _ _ _ _ _ _ _ _ _ _ _ _ _ _ _ _ _ _ _ _ _ _ _ _ _ _ _ _ _ _ _ _ _ _ _ T F11 N11' hL hDa hDac ⟨hcc1, hcc2⟩ ⟨hDqc, h156⟩ K hE2 dd1 dd2 d6 d7 (show AllBare s6.gens from hb6) ht hua hal (answerP_bounds ns (lead_bounds _)) hsh hk (final_bounds ns hn3) (by omega) (fun h => ?hthr) (by have := leastP_bounds ns; omega) el11 ep11 emac11 (by omega) (by omega) ?hc0 ?hc1 X
  case hthr =>
    have := countP_one h
    omega
  case hc0 =>
    rintro s2 m2 tv ps' hos hb2 ht2 F2 em2 etv N2 hcase
    have hret' : ∀ s3 : Shared, s3.os = s2.os → s3.gens = s2.gens → (∀ b o, g.get? b = some o → s3.heap.get? b = some o) → s3.heap.get? 219 = some (tabObj (#[] ++ #[rawInt 172, rawInt 4, Value.ref c'])) → s3.heap.get? 156 = some (tabObj ps') → Q (.ret (.bool true)) s3 :=
      fun s3 h1 h2 h3 h4 h5 => hret s3 _ _ (h1.trans (hos.trans hos6)) (by rw [h2]; exact hb2) h3 h4 h5
    rcases hcase with ⟨h1, tt, rfl⟩ | ⟨h1, ⟨tt, rfl⟩, hnone⟩
    · have hpos := countP_one h1
      have el := (em2 _ (by decide)).trans el11
      rw [h1] at el
      exact endA _ _ _ _ _ _ _ _ _ _ _ _ _ _ _ _ _ _ _ _ _ _ _ _ _ _ _ _ _ T F2 N2 hL hDqc d7 hsh (by omega) el ((em2 _ (by decide)).trans ep11) etv (by omega) (by omega) hret' X
    · by_cases hc : n = 0 ∨ spoilP ns = 1 ∨ spoilP ns = 2
      · exact endB _ _ _ _ _ _ _ _ _ _ _ _ _ _ _ _ _ _ _ _ _ _ _ _ _ _ _ _ _ _ _ _ _ T F2 N2 hL hDqc d7 h1 (hc.imp (fun q => by rw [q]; rfl) id) ((em2 _ (by decide)).trans el11) ((em2 _ (by decide)).trans ec11) ((em2 _ (by decide)).trans esp11) etv (by omega) (by omega) hret' X
      · have hn0 : 0 < n := by omega
        rw [whole_law ns (fun q => hc (.inr q))] at hnone
        have i255 : interpP (pointsP ns n) 255 = some (octA (accP 255 ns n n) (sizeP ns)) := interp_law ns hn0 hn3 (x := 255) (by decide)
        have i254 : interpP (pointsP ns n) 254 = some (octA (accP 254 ns n n) (sizeP ns)) := interp_law ns hn0 hn3 (x := 254) (by decide)
        rcases hnone with q | q
        · rw [i255] at q; cases q
        · rw [i254] at q; cases q
  case hc1 =>
    rintro s2 m2 tv ps' co to ta sec dig hos hb2 ht2 F2 em2 etv N2 hcall h1 hs1 hs2 hcase
    have hret' : ∀ s3 : Shared, s3.os = s2.os → s3.gens = s2.gens → (∀ b o, g.get? b = some o → s3.heap.get? b = some o) → s3.heap.get? 219 = some (tabObj (#[] ++ #[rawInt 172, rawInt 4, Value.ref c'])) → s3.heap.get? 156 = some (tabObj ps') → Q (.ret (.bool true)) s3 :=
      fun s3 h1 h2 h3 h4 h5 => hret s3 _ _ (h1.trans (hos.trans hos6)) (by rw [h2]; exact hb2) h3 h4 h5
    by_cases hc : n = 0 ∨ spoilP ns = 1 ∨ spoilP ns = 2
    · rw [interp_spoilt ns 255 hc] at hs1
      cases hs1
    · have hn0 : 0 < n := by omega
      rw [whole_law ns (fun q => hc (.inr q))] at hs1 hs2
      have i255 : interpP (pointsP ns n) 255 = some (octA (accP 255 ns n n) (sizeP ns)) := interp_law ns hn0 hn3 (x := 255) (by decide)
      have i254 : interpP (pointsP ns n) 254 = some (octA (accP 254 ns n n) (sizeP ns)) := interp_law ns hn0 hn3 (x := 254) (by decide)
      have e255 : sec = octA (accP 255 ns n n) (sizeP ns) := (Option.some.inj (i255.symm.trans hs1)).symm
      have e254 : dig = octA (accP 254 ns n n) (sizeP ns) := (Option.some.inj (i254.symm.trans hs2)).symm
      subst e255 e254
      have hsz := sizeP_bounds ns
      have hag := digest_agrees ns (octA (accP 254 ns n n) (sizeP ns)) (by rw [octA_size]; omega) (Array.replicate (Int.toNat 28) 0)
      have htv : (turnedP ns = true ∧ ∃ t, tv = .str (Str.ofString "refused") t) ∨ (turnedP ns = false ∧ ∃ t, tv = .bytes (octA (accP 255 ns n n) (sizeP ns)) t) := by
        rcases hcase with ⟨hp, ht⟩ | ⟨hp, ht⟩
        · exact .inr ⟨hag.mp hp, ht⟩
        · refine .inl ⟨?_, ht⟩
          cases q : turnedP ns with
          | true => rfl
          | false => exact absurd (hag.mpr q) hp
      exact endC _ _ _ _ _ _ _ _ _ _ _ _ _ _ _ _ _ _ _ _ _ _ _ _ _ 0 _ _ _ _ _ _ _ _ _ _ _ _ _ _ _ _ _ _ T F2 N2 hL hDqc d7 d2 (by omega) hcall h1 (by omega) ⟨fun q => hc (.inr (.inl q)), fun q => hc (.inr (.inr q))⟩ ((em2 _ (by decide)).trans el11) ((em2 _ (by decide)).trans ec11) ((em2 _ (by decide)).trans esp11) ((em2 _ (by decide)).trans etu11) ((em2 _ (by decide)).trans es11) ((em2 _ (by decide)).trans ere11) etv htv (by omega) (by omega) hret' X
end Mine
end
theorem Mine.top_off_W17 : True := by
  w_top off
  trivial
section
open PySem PySem.W PySem.Calls PyProof.Rows
set_option maxRecDepth 100000
set_option maxHeartbeats 4000000
theorem Mine.lk1 : sreFenced PySem.Challenge.pw_jb0039_01.main = true := by kernel_rfl
theorem Mine.lk2 : ((moduleNames PySem.Challenge.pw_jb0039_01.main.body).isEmpty || lookedIntoSs (moduleNames PySem.Challenge.pw_jb0039_01.main.body) PySem.Challenge.pw_jb0039_01.main.body) = true := by kernel_rfl
theorem Mine.lk3 : namesResolve PySem.Challenge.pw_jb0039_01 = true := by kernel_rfl
theorem Mine.lk4 : PySem.Challenge.pw_jb0039_01.boundNames.all (fun n => !worldNames.contains n) = true := by kernel_rfl
theorem Mine.lk5 : noRoadLSs { strict := !(importedModules PySem.Challenge.pw_jb0039_01.main.body).all cThrough.contains, foot := none, bare := (["vars", "dir", "locals"] : List Str).filter (readsOut PySem.Challenge.pw_jb0039_01 PySem.Challenge.pw_jb0039_01.main.body) } PySem.Challenge.pw_jb0039_01.main.body = true := by kernel_rfl
theorem Mine.lk6 : namesMeet PySem.Challenge.pw_jb0039_01 PySem.Challenge.pw_jb0039_01.main.body (fun _ n => attrL n) = true := by kernel_rfl
theorem Mine.looks_said : looksOpen PySem.Challenge.pw_jb0039_01 = true := look_both (look_both (look_both (look_both (look_both Mine.lk1 Mine.lk2) Mine.lk3) Mine.lk4) Mine.lk5) Mine.lk6
theorem Mine.row_said : PySem.Challenge.rw_jb0039_01.row.wellSaid = true := by
  show (looksOpen PySem.Challenge.pw_jb0039_01 && _ && _ && _ && _ && _ && _ && _ && _ && _ && _ && _ && _ && _ && _ && _) = true
  rw [Mine.looks_said]
  kernel_rfl
theorem Mine.law_said : PySem.Challenge.rw_jb0039_01.wellSaid = true := by
  delta OpenLaw.wellSaid
  rw [Mine.row_said]
  kernel_rfl
theorem PySem.Challenge.cw_jb0039_01_holds : PySem.Challenge.rw_jb0039_01.Holds := by
  refine holds_law Mine.law_said fun said => ?_
  refine holds_open (q := Mine.hd.view_39) (loose := [Str.ofString "_tuplegetter", Str.ofString "RawShare", Str.ofString "_EXP_TABLE_00", Str.ofString "_EXP_TABLE_01", Str.ofString "EXP_TABLE", Str.ofString "_LOG_TABLE_00", Str.ofString "_LOG_TABLE_01", Str.ofString "LOG_TABLE"]) (Xt := fun s => xlAt Mine.hd.view_39 [] s && recOk [] s) (XP := XL Mine.hd.view_39 []) (Yf := Hook.obs (kmHook Mine.hd.heap_39 Mine.D.asL Mine.D.asK [219])) (Ya := Hook.val (kmHook Mine.hd.heap_39 Mine.D.asL Mine.D.asK [219])) (YP := Hook.says (kmHook Mine.hd.heap_39 Mine.D.asL Mine.D.asK [219])) (N := 4978) Mine.D.leftA (Hook.of (kmHook Mine.hd.heap_39 Mine.D.asL Mine.D.asK [219])) (Hook.keeps (kmHook Mine.hd.heap_39 Mine.D.asL Mine.D.asK [219])) (fun s e => xl_of s (Bool.and_eq_true_iff.mp e).1) XL.keeps (by rfl) (by rfl) (by rfl) (fun s e => recFacts_of (Bool.and_eq_true_iff.mp e).2) (by rfl) said (by decide +kernel) ⟨rfl, rfl, rfl, rfl, rfl, by decide +kernel⟩ ⟨[.list []], by decide +kernel, by decide +kernel⟩ ?_
  k_fill
  intro w s₀ s₁ mg mb G Y fa o pm cd doc dV kV ho hd' hcd hD hmg hg args vals as hpre hlay hrd hwl hlo
  have KX := km_in_of Y
  km_tabs Y
  have X := (Ground.X G).1
  have V := (Ground.X G).2
  refine Ground.open G ?_
  intro T B D TE TW
  try (refine guard_noD D (by decide +kernel) ?_; clear D)
  km_lay T hmg ho hd' cd
  clear hmg
  replace hT9 : TabsAt [(221, 219), (160, 156)] s₁.heap := List.forall_mem_cons.mpr ⟨hT9 _ (.head _), List.forall_mem_cons.mpr ⟨tab_of T KX (x := PySem.Str.ofString "_interpolate") rfl (by kernel_rfl), fun _ h => nomatch h⟩⟩
  wrow_args hpre hlay hrd hwl hlo
  all_goals (
    first | refine callC_kw (enter_call ?_) | refine enter_call ?_
    w_top on
    refine Mine.end_G hT9 ?_
    w_call any ho hd' hcd hD T F
    clear hd'
    kn_ghosts F T
    k_drop
    skip)
  (with_reducible rename (_ ∧ _) => hL9)
  (with_reducible rename News _ _ _ _ => N9)
  (with_reducible rename Fr _ _ _ _ => F9)
  (with_reducible rename Below _ _ _ _ => K9)
  (with_reducible rename Top _ _ _ _ _ _ => T9)
  (with_reducible rename Frag.In _ _ => X9)
  (with_reducible rename IntsAre _ _ => I9)
  (with_reducible rename Heap.IsList _ _ _ => L9)
  refine Mine.law_walk w _ _ _ _ _ _ _ _ _ _ _ _ _ _ _ _ _ _ _ _ _ _ _ _ _ _ T9 F9 N9 hL9 ?C ?K ?hE1 ?hE2 ?d1 ?d2 ?d3 ?d4 ?d5 ?d6 ?d7 ?hb ?ht L9 I9 ?hln ?hlay ?hdp ?hu ?hret X9
  case C => exact codeHd_of_K X9 (by kernel_rfl)
  case K => exact fun h m F => pushX K9 F rfl rfl
  case hE1 => passes_own
  case hE2 => intro e; passes_own
  case d1 => assumption
  case d2 => assumption
  case d3 => assumption
  case d4 => assumption
  case d5 => assumption
  case d6 => assumption
  case d7 => assumption
  case ht => exact True.intro
  case hln => omega
  case hlay => assumption
  case hdp => decide +kernel
  case hu => decide +kernel
  case hb => exact AllBare.of_eq hg
  case hret =>
    intro s2 pt ps ho hb hk h219 h156
    exact ⟨⟨.bool true, .bool true, [], rfl, fun _ => rfl, .bool true, postW_of rfl (w_eq_bool (w_res rfl) w_lit) rfl, fun _ => ⟨List.nodup_nil, fun _ h => nomatch h⟩⟩, hk, ho, hb, ⟨pt, h219⟩, ⟨ps, h156⟩, trivial⟩
end
