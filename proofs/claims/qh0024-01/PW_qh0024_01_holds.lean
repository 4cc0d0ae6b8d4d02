import PyProof.Rows.All
import Wide.All
import OpenK.AllK
import Wide.FinOn
import Lean
import PySem.Challenge.RW_qh0024_01
open PySem PySem.W PyProof.Rows PySem.Spec PySem.Calls PySem.W.X PySem.W.XRun
set_option Elab.async false
set_option maxRecDepth 100000
set_option maxHeartbeats 8000000
set_option linter.unusedVariables false
set_option linter.constructorNameAsVariable false
namespace Mine
local macro_rules | `(tactic| walk_at $s:str) => `(tactic| k_extra $s)
section Sa
theorem rules_Sa_1 : True := by
  k_with_none
  k_with "exec If" => (refine wpAny_If ?_)
  trivial
noncomputable abbrev sl : OpenLaw := PySem.Challenge.rw_qh0024_01
noncomputable abbrev sq : Program := sl.row.prog
theorem said_1 : sreFenced sq.main = true := by kernel_rfl
theorem said_2 : ((moduleNames sq.main.body).isEmpty || lookedIntoSs (moduleNames sq.main.body) sq.main.body) = true := by kernel_rfl
theorem said_3 : namesResolve sq = true := by rw [PySem.W.Fast.te8377067652309620493]; kernel_rfl
theorem said_4 : (sq.boundNames.all (fun n => !worldNames.contains n)) = true := by kernel_rfl
theorem said_b : (["vars", "dir", "locals"] : List Str).filter (readsOut sq sq.main.body) = [] := by unfold readsOut; rw [PySem.W.Fast.te17119622794617984870]; kernel_rfl
theorem said_c : (importedModules sq.main.body).all cThrough.contains = true := by kernel_rfl
theorem said_5 : noRoadLSs { strict := false, foot := none, bare := [] } sq.main.body = true := by rw [PySem.W.Fast.te8326940854005059898]; kernel_rfl
theorem said_6 : namesMeet sq sq.main.body (fun _ n => attrL n) = true := by kernel_rfl
theorem said_looks : looksOpen sq = true := by
  unfold looksOpen
  rw [said_1, said_2, said_3, said_4, said_b, said_c, show noRoadLSs { strict := !true, foot := none, bare := [] } sq.main.body = true from said_5, said_6]
  rfl
theorem said_part : sl.row.partSaid = true := by
  unfold OpenRow.partSaid
  rw [show looksOpen sl.row.prog = true from said_looks]
  kernel_rfl
theorem said_row : sl.row.wellSaid = true := by
  unfold OpenRow.wellSaid
  rw [said_part]
  kernel_rfl
theorem said_7 : noRoadLSs { strict := true, foot := some sl.bound', writes := sl.writes, may := sl.may } sl.footing = true := by kernel_rfl
theorem said0 : OpenLaw.wellSaid sl = true := by
  unfold OpenLaw.wellSaid
  rw [said_row, said_7]
  kernel_rfl
end Sa
section Hd
theorem rules_Hd_1 : True := by
  k_with_none
  k_with "exec If" => (refine wpAny_If ?_)
  trivial
noncomputable def sA (l : List Stmt) (i : Nat) : Stmt := l.getD i (.Pass ⟨0, 0, 0, 0⟩)
noncomputable def e0 : Expr := .Constant .none 0 ⟨0, 0, 0, 0⟩
noncomputable def a0 : Arguments := ⟨[], [], none, [], [], none, []⟩
/-- the parts of a statement: its texts' expressions, its body, its scope, its parameters -/
noncomputable def sK : Stmt → List Expr × List Stmt × Scope × Arguments
  | .FunctionDef _ a b _ _ _ s .. => ([], b, s, a)
  | .ClassDef _ _ _ b _ _ s .. => ([], b, s, a0)
  | .For t _ b _ _ => ([t], b, default, a0)
  | .If t _ _ _ => ([t], [], default, a0)
  | .Assign _ v _ => ([v], [], default, a0)
  | .Return (some e) _ => ([e], [], default, a0)
  | _ => ([], [], default, a0)
/-- the parts of an expression -/
noncomputable def eK : Expr → List Expr × Scope × Arguments
  | .Compare l _ rs _ => (l :: rs, default, a0)
  | .Call f as ks _ => (f :: (as ++ ks.map (·.value)), default, a0)
  | .ListComp e cs c _ => (e :: cs.flatMap (·.ifs), c, a0)
  | .BinOp l _ r _ => ([l, r], default, a0)
  | .Subscript v _ _ => ([v], default, a0)
  | .IfExp t _ _ _ => ([t], default, a0)
  | .Lambda a b s _ => ([b], s, a)
  | e => ([e], default, a0)
noncomputable def sB (s : Stmt) : List Stmt := (sK s).2.1
noncomputable def sP (s : Stmt) : Arguments := (sK s).2.2.2
noncomputable def sS (s : Stmt) : Scope := (sK s).2.2.1
noncomputable abbrev rowW : RowW := PySem.Challenge.rw_qh0024_01.row.toRowW
noncomputable def pB : List Stmt := PySem.Challenge.pw_qh0024_01.main.body
/-- what stands in the heap behind the top: the objects that the law can come to -/
noncomputable def KF : Params → Frag := by
  refine' (?g : ∀ (b0 : List Stmt) (a0 : Arguments) (c0 : Scope) (b1 : List Stmt) (a1 : Arguments) (c1 : Scope) (b2 : List Stmt) (a2 : Arguments) (c2 : Scope) (b3 : List Stmt) (a3 : Arguments) (c3 : Scope) (b4 : List Stmt) (a4 : Arguments) (c4 : Scope) (b5 : List Stmt) (a5 : Arguments) (c5 : Scope) (b6 : List Stmt) (a6 : Arguments) (c6 : Scope) (b7 : List Stmt) (a7 : Arguments) (c7 : Scope) (b8 : List Stmt) (a8 : Arguments) (c8 : Scope) (b9 : List Stmt) (a9 : Arguments) (c9 : Scope) (b10 : List Stmt) (a10 : Arguments) (c10 : Scope) (b11 : List Stmt) (a11 : Arguments) (c11 : Scope) (b12 : List Stmt) (a12 : Arguments) (c12 : Scope) (b13 : List Stmt) (a13 : Arguments) (c13 : Scope) (b14 : List Stmt) (a14 : Arguments) (c14 : Scope) (b15 : List Stmt) (a15 : Arguments) (c15 : Scope) (b16 : List Stmt) (a16 : Arguments) (c16 : Scope) (b17 : List Stmt) (a17 : Arguments) (c17 : Scope) (b18 : List Stmt) (a18 : Arguments) (c18 : Scope) (b19 : List Stmt) (a19 : Arguments) (c19 : Scope) (b20 : List Stmt) (a20 : Arguments) (c20 : Scope) (b21 : List Stmt) (a21 : Arguments) (c21 : Scope) (b22 : List Stmt) (a22 : Arguments) (c22 : Scope) (b23 : List Stmt) (a23 : Arguments) (c23 : Scope) (b24 : List Stmt) (a24 : Arguments) (c24 : Scope) (b25 : List Stmt) (a25 : Arguments) (c25 : Scope) (b26 : List Stmt) (a26 : Arguments) (c26 : Scope) (b27 : List Stmt) (a27 : Arguments) (c27 : Scope) (b28 : List Stmt) (a28 : Arguments) (c28 : Scope) (b29 : List Stmt) (a29 : Arguments) (c29 : Scope) (b30 : List Stmt) (a30 : Arguments) (c30 : Scope) (b31 : List Stmt) (a31 : Arguments) (c31 : Scope) (b32 : List Stmt) (a32 : Arguments) (c32 : Scope) (b33 : List Stmt) (a33 : Arguments) (c33 : Scope) (b34 : List Stmt) (a34 : Arguments) (c34 : Scope) (b35 : List Stmt) (a35 : Arguments) (c35 : Scope), sB (sA pB 1) = b0 → sP (sA pB 1) = a0 → sS (sA pB 1) = c0 → sB (sA pB 4) = b1 → sP (sA pB 4) = a1 → sS (sA pB 4) = c1 → sB (sA pB 5) = b2 → sP (sA pB 5) = a2 → sS (sA pB 5) = c2 → sB (sA pB 6) = b3 → sP (sA pB 6) = a3 → sS (sA pB 6) = c3 → sB (sA pB 7) = b4 → sP (sA pB 7) = a4 → sS (sA pB 7) = c4 → sB (sA pB 8) = b5 → sP (sA pB 8) = a5 → sS (sA pB 8) = c5 → sB (sA pB 9) = b6 → sP (sA pB 9) = a6 → sS (sA pB 9) = c6 → sB (sA pB 10) = b7 → sP (sA pB 10) = a7 → sS (sA pB 10) = c7 → sB (sA pB 11) = b8 → sP (sA pB 11) = a8 → sS (sA pB 11) = c8 → sB (sA (sB (sA pB 13)) 0) = b9 → sP (sA (sB (sA pB 13)) 0) = a9 → sS (sA (sB (sA pB 13)) 0) = c9 → sB (sA (sB (sA pB 13)) 1) = b10 → sP (sA (sB (sA pB 13)) 1) = a10 → sS (sA (sB (sA pB 13)) 1) = c10 → sB (sA pB 14) = b11 → sP (sA pB 14) = a11 → sS (sA pB 14) = c11 → sB (sA pB 18) = b12 → sP (sA pB 18) = a12 → sS (sA pB 18) = c12 → sB (sA pB 21) = b13 → sP (sA pB 21) = a13 → sS (sA pB 21) = c13 → sB (sA pB 22) = b14 → sP (sA pB 22) = a14 → sS (sA pB 22) = c14 → sB (sA pB 23) = b15 → sP (sA pB 23) = a15 → sS (sA pB 23) = c15 → sB (sA pB 25) = b16 → sP (sA pB 25) = a16 → sS (sA pB 25) = c16 → sB (sA pB 26) = b17 → sP (sA pB 26) = a17 → sS (sA pB 26) = c17 → sB (sA pB 27) = b18 → sP (sA pB 27) = a18 → sS (sA pB 27) = c18 → sB (sA pB 29) = b19 → sP (sA pB 29) = a19 → sS (sA pB 29) = c19 → sB (sA pB 31) = b20 → sP (sA pB 31) = a20 → sS (sA pB 31) = c20 → sB (sA pB 32) = b21 → sP (sA pB 32) = a21 → sS (sA pB 32) = c21 → sB (sA pB 35) = b22 → sP (sA pB 35) = a22 → sS (sA pB 35) = c22 → sB (sA pB 36) = b23 → sP (sA pB 36) = a23 → sS (sA pB 36) = c23 → sB (sA pB 39) = b24 → sP (sA pB 39) = a24 → sS (sA pB 39) = c24 → sB (sA pB 40) = b25 → sP (sA pB 40) = a25 → sS (sA pB 40) = c25 → sB (sA pB 41) = b26 → sP (sA pB 41) = a26 → sS (sA pB 41) = c26 → sB (sA pB 42) = b27 → sP (sA pB 42) = a27 → sS (sA pB 42) = c27 → sB (sA pB 44) = b28 → sP (sA pB 44) = a28 → sS (sA pB 44) = c28 → sB (sA pB 46) = b29 → sP (sA pB 46) = a29 → sS (sA pB 46) = c29 → sB (sA pB 48) = b30 → sP (sA pB 48) = a30 → sS (sA pB 48) = c30 → sB (sA pB 49) = b31 → sP (sA pB 49) = a31 → sS (sA pB 49) = c31 → sB (sA pB 50) = b32 → sP (sA pB 50) = a32 → sS (sA pB 50) = c32 → sB (sA pB 51) = b33 → sP (sA pB 51) = a33 → sS (sA pB 51) = c33 → sB (sA pB 52) = b34 → sP (sA pB 52) = a34 → sS (sA pB 52) = c34 → sB (sA pB 53) = b35 → sP (sA pB 53) = a35 → sS (sA pB 53) = c35 → Params → Frag) _ _ _ _ _ _ _ _ _ _ _ _ _ _ _ _ _ _ _ _ _ _ _ _ _ _ _ _ _ _ _ _ _ _ _ _ _ _ _ _ _ _ _ _ _ _ _ _ _ _ _ _ _ _ _ _ _ _ _ _ _ _ _ _ _ _ _ _ _ _ _ _ _ _ _ _ _ _ _ _ _ _ _ _ _ _ _ _ _ _ _ _ _ _ _ _ _ _ _ _ _ _ _ _ _ _ _ _ ?h0 ?h1 ?h2 ?h3 ?h4 ?h5 ?h6 ?h7 ?h8 ?h9 ?h10 ?h11 ?h12 ?h13 ?h14 ?h15 ?h16 ?h17 ?h18 ?h19 ?h20 ?h21 ?h22 ?h23 ?h24 ?h25 ?h26 ?h27 ?h28 ?h29 ?h30 ?h31 ?h32 ?h33 ?h34 ?h35 ?h36 ?h37 ?h38 ?h39 ?h40 ?h41 ?h42 ?h43 ?h44 ?h45 ?h46 ?h47 ?h48 ?h49 ?h50 ?h51 ?h52 ?h53 ?h54 ?h55 ?h56 ?h57 ?h58 ?h59 ?h60 ?h61 ?h62 ?h63 ?h64 ?h65 ?h66 ?h67 ?h68 ?h69 ?h70 ?h71 ?h72 ?h73 ?h74 ?h75 ?h76 ?h77 ?h78 ?h79 ?h80 ?h81 ?h82 ?h83 ?h84 ?h85 ?h86 ?h87 ?h88 ?h89 ?h90 ?h91 ?h92 ?h93 ?h94 ?h95 ?h96 ?h97 ?h98 ?h99 ?h100 ?h101 ?h102 ?h103 ?h104 ?h105 ?h106 ?h107
  case g => exact fun b0 a0 c0 b1 a1 c1 b2 a2 c2 b3 a3 c3 b4 a4 c4 b5 a5 c5 b6 a6 c6 b7 a7 c7 b8 a8 c8 b9 a9 c9 b10 a10 c10 b11 a11 c11 b12 a12 c12 b13 a13 c13 b14 a14 c14 b15 a15 c15 b16 a16 c16 b17 a17 c17 b18 a18 c18 b19 a19 c19 b20 a20 c20 b21 a21 c21 b22 a22 c22 b23 a23 c23 b24 a24 c24 b25 a25 c25 b26 a26 c26 b27 a27 c27 b28 a28 c28 b29 a29 c29 b30 a30 c30 b31 a31 c31 b32 a32 c32 b33 a33 c33 b34 a34 c34 b35 a35 c35 _ _ _ _ _ _ _ _ _ _ _ _ _ _ _ _ _ _ _ _ _ _ _ _ _ _ _ _ _ _ _ _ _ _ _ _ _ _ _ _ _ _ _ _ _ _ _ _ _ _ _ _ _ _ _ _ _ _ _ _ _ _ _ _ _ _ _ _ _ _ _ _ _ _ _ _ _ _ _ _ _ _ _ _ _ _ _ _ _ _ _ _ _ _ _ _ _ _ _ _ _ _ _ _ _ _ _ _ P =>
    (nat_lit 2, (Obj.mk Value.none (@Option.none Nat) (Data.dict (@List.toArray DictEntry [(DictEntry.mk (PyData.keyHash P (Str.ofString "\x69mport.loaded._sre")) (Value.str (Str.ofString "\x69mport.loaded._sre") 183) (Value.bool Bool.true)), (DictEntry.mk (PyData.keyHash P (Str.ofString "class._frozen_\x69mportlib.BuiltinImporter")) (Value.str (Str.ofString "class._frozen_\x69mportlib.BuiltinImporter") 185) (Value.ref 14)), (DictEntry.mk (PyData.keyHash P (Str.ofString "watched.\x69mport")) (Value.str (Str.ofString "watched.\x69mport") 206) (Value.ref 18)), (DictEntry.mk (PyData.keyHash P (Str.ofString "class._frozen_\x69mportlib.ModuleSpec")) (Value.str (Str.ofString "class._frozen_\x69mportlib.ModuleSpec") 216) (Value.ref 22)), (DictEntry.mk (PyData.keyHash P (Str.ofString "sys.modules.booked-epoch")) (Value.str (Str.ofString "sys.modules.booked-epoch") 245) (Value.int (3 : Int) 0)), (DictEntry.mk (PyData.keyHash P (Str.ofString "\x69mport.later-laid._sre")) (Value.str (Str.ofString "\x69mport.later-laid._sre") 270) (Value.bool Bool.true)), (DictEntry.mk (PyData.keyHash P (Str.ofString "watched.library")) (Value.str (Str.ofString "watched.library") 272) (Value.ref 27)), (DictEntry.mk (PyData.keyHash P (Str.ofString "watched.library-objects")) (Value.str (Str.ofString "watched.library-objects") 0) (Value.str (Str.ofString "\x0c") 0)), (DictEntry.mk (PyData.keyHash P (Str.ofString "watched.library-deep._sre")) (Value.str (Str.ofString "watched.library-deep._sre") 273) (Value.str (Str.ofString "\x04\x00\x00\x0b\x04\x00\x00\x0b\x04\x00\x00\x03\x04\x00\x00\x0b\x08\x04dict\x02") 0))]) 9) (@List.toArray (Option Value) []))) ::
    (nat_lit 3, (Obj.mk (Value.type "dict") (@Option.none Nat) (Data.dict (@List.toArray DictEntry [(DictEntry.mk (PyData.keyHash P (Str.ofString "__name__")) (Value.str (Str.ofString "__name__") 165) (Value.str (Str.ofString "law_qh0024_01") 668)), (DictEntry.mk (PyData.keyHash P (Str.ofString "__doc__")) (Value.str (Str.ofString "__doc__") 166) Value.none), (DictEntry.mk (PyData.keyHash P (Str.ofString "__package__")) (Value.str (Str.ofString "__package__") 167) Value.none), (DictEntry.mk (PyData.keyHash P (Str.ofString "__loader__")) (Value.str (Str.ofString "__loader__") 168) (Value.builtin "__main__.__loader__#\x6fpaque")), (DictEntry.mk (PyData.keyHash P (Str.ofString "__spec__")) (Value.str (Str.ofString "__spec__") 169) Value.none), (DictEntry.mk (PyData.keyHash P (Str.ofString "__annotations__")) (Value.str (Str.ofString "__annotations__") 170) (Value.ref 6)), (DictEntry.mk (PyData.keyHash P (Str.ofString "__builtins__")) (Value.str (Str.ofString "__builtins__") 171) (Value.ref 4)), (DictEntry.mk (PyData.keyHash P (Str.ofString "__file__")) (Value.str (Str.ofString "__file__") 173) (Value.str (Str.ofString "/claim/cut.py") 172)), (DictEntry.mk (PyData.keyHash P (Str.ofString "__cached__")) (Value.str (Str.ofString "__cached__") 174) Value.none), (DictEntry.mk (PyData.keyHash P (Str.ofString "_sre")) (Value.str (Str.ofString "_sre") 275) (Value.ref 12)), (DictEntry.mk (PyData.keyHash P (Str.ofString "_wall")) (Value.str (Str.ofString "_wall") 288) (Value.ref 38)), (DictEntry.mk (PyData.keyHash P (Str.ofString "sep")) (Value.str (Str.ofString "sep") 290) (Value.str (Str.ofString "/") 289)), (DictEntry.mk (PyData.keyHash P (Str.ofString "_kind")) (Value.str (Str.ofString "_kind") 301) (Value.ref 45)), (DictEntry.mk (PyData.keyHash P (Str.ofString "_fspath")) (Value.str (Str.ofString "_fspath") 310) (Value.ref 52)), (DictEntry.mk (PyData.keyHash P (Str.ofString "splitext")) (Value.str (Str.ofString "splitext") 322) (Value.ref 59)), (DictEntry.mk (PyData.keyHash P (Str.ofString "_c_path")) (Value.str (Str.ofString "_c_path") 335) (Value.ref 66)), (DictEntry.mk (PyData.keyHash P (Str.ofString "_splitroot")) (Value.str (Str.ofString "_splitroot") 344) (Value.ref 73)), (DictEntry.mk (PyData.keyHash P (Str.ofString "basename")) (Value.str (Str.ofString "basename") 352) (Value.ref 80)), (DictEntry.mk (PyData.keyHash P (Str.ofString "_normpath")) (Value.str (Str.ofString "_normpath") 367) (Value.ref 87)), (DictEntry.mk (PyData.keyHash P (Str.ofString "normpath")) (Value.str (Str.ofString "normpath") 375) (Value.ref 94)), (DictEntry.mk (PyData.keyHash P (Str.ofString "_Ignore")) (Value.str (Str.ofString "_Ignore") 417) (Value.ref 117)), (DictEntry.mk (PyData.keyHash P (Str.ofString "_modname")) (Value.str (Str.ofString "_modname") 427) (Value.ref 128)), (DictEntry.mk (PyData.keyHash P (Str.ofString "_twin_re_1")) (Value.str (Str.ofString "_twin_re_1") 459) (Value.ref 133)), (DictEntry.mk (PyData.keyHash P (Str.ofString "bytes_types")) (Value.str (Str.ofString "bytes_types") 460) (Value.ref 134)), (DictEntry.mk (PyData.keyHash P (Str.ofString "_bytes_from_decode_data")) (Value.str (Str.ofString "_bytes_from_decode_data") 467) (Value.ref 141)), (DictEntry.mk (PyData.keyHash P (Str.ofString "Error")) (Value.str (Str.ofString "Error") 487) (Value.ref 151)), (DictEntry.mk (PyData.keyHash P (Str.ofString "_ascii_buffer")) (Value.str (Str.ofString "_ascii_buffer") 495) (Value.ref 161)), (DictEntry.mk (PyData.keyHash P (Str.ofString "_buffer")) (Value.str (Str.ofString "_buffer") 503) (Value.ref 168)), (DictEntry.mk (PyData.keyHash P (Str.ofString "_truth")) (Value.str (Str.ofString "_truth") 511) (Value.ref 175)), (DictEntry.mk (PyData.keyHash P (Str.ofString "_B64")) (Value.str (Str.ofString "_B64") 513) (Value.bytes (@List.toArray UInt8 ((@OfNat.ofNat UInt8 (nat_lit 65) (@UInt8.instOfNat (nat_lit 65))) :: (@OfNat.ofNat UInt8 (nat_lit 66) (@UInt8.instOfNat (nat_lit 66))) :: (@OfNat.ofNat UInt8 (nat_lit 67) (@UInt8.instOfNat (nat_lit 67))) :: (@OfNat.ofNat UInt8 (nat_lit 68) (@UInt8.instOfNat (nat_lit 68))) :: (@OfNat.ofNat UInt8 (nat_lit 69) (@UInt8.instOfNat (nat_lit 69))) :: (@OfNat.ofNat UInt8 (nat_lit 70) (@UInt8.instOfNat (nat_lit 70))) :: (@OfNat.ofNat UInt8 (nat_lit 71) (@UInt8.instOfNat (nat_lit 71))) :: (@OfNat.ofNat UInt8 (nat_lit 72) (@UInt8.instOfNat (nat_lit 72))) :: (@OfNat.ofNat UInt8 (nat_lit 73) (@UInt8.instOfNat (nat_lit 73))) :: (@OfNat.ofNat UInt8 (nat_lit 74) (@UInt8.instOfNat (nat_lit 74))) :: (@OfNat.ofNat UInt8 (nat_lit 75) (@UInt8.instOfNat (nat_lit 75))) :: (@OfNat.ofNat UInt8 (nat_lit 76) (@UInt8.instOfNat (nat_lit 76))) :: (@OfNat.ofNat UInt8 (nat_lit 77) (@UInt8.instOfNat (nat_lit 77))) :: (@OfNat.ofNat UInt8 (nat_lit 78) (@UInt8.instOfNat (nat_lit 78))) :: (@OfNat.ofNat UInt8 (nat_lit 79) (@UInt8.instOfNat (nat_lit 79))) :: (@OfNat.ofNat UInt8 (nat_lit 80) (@UInt8.instOfNat (nat_lit 80))) :: (@OfNat.ofNat UInt8 (nat_lit 81) (@UInt8.instOfNat (nat_lit 81))) :: (@OfNat.ofNat UInt8 (nat_lit 82) (@UInt8.instOfNat (nat_lit 82))) :: (@OfNat.ofNat UInt8 (nat_lit 83) (@UInt8.instOfNat (nat_lit 83))) :: (@OfNat.ofNat UInt8 (nat_lit 84) (@UInt8.instOfNat (nat_lit 84))) :: (@OfNat.ofNat UInt8 (nat_lit 85) (@UInt8.instOfNat (nat_lit 85))) :: (@OfNat.ofNat UInt8 (nat_lit 86) (@UInt8.instOfNat (nat_lit 86))) :: (@OfNat.ofNat UInt8 (nat_lit 87) (@UInt8.instOfNat (nat_lit 87))) :: (@OfNat.ofNat UInt8 (nat_lit 88) (@UInt8.instOfNat (nat_lit 88))) :: (@OfNat.ofNat UInt8 (nat_lit 89) (@UInt8.instOfNat (nat_lit 89))) :: (@OfNat.ofNat UInt8 (nat_lit 90) (@UInt8.instOfNat (nat_lit 90))) :: (@OfNat.ofNat UInt8 (nat_lit 97) (@UInt8.instOfNat (nat_lit 97))) :: (@OfNat.ofNat UInt8 (nat_lit 98) (@UInt8.instOfNat (nat_lit 98))) :: (@OfNat.ofNat UInt8 (nat_lit 99) (@UInt8.instOfNat (nat_lit 99))) :: (@OfNat.ofNat UInt8 (nat_lit 100) (@UInt8.instOfNat (nat_lit 100))) :: (@OfNat.ofNat UInt8 (nat_lit 101) (@UInt8.instOfNat (nat_lit 101))) :: (@OfNat.ofNat UInt8 (nat_lit 102) (@UInt8.instOfNat (nat_lit 102))) :: (@OfNat.ofNat UInt8 (nat_lit 103) (@UInt8.instOfNat (nat_lit 103))) :: (@OfNat.ofNat UInt8 (nat_lit 104) (@UInt8.instOfNat (nat_lit 104))) :: (@OfNat.ofNat UInt8 (nat_lit 105) (@UInt8.instOfNat (nat_lit 105))) :: (@OfNat.ofNat UInt8 (nat_lit 106) (@UInt8.instOfNat (nat_lit 106))) :: (@OfNat.ofNat UInt8 (nat_lit 107) (@UInt8.instOfNat (nat_lit 107))) :: (@OfNat.ofNat UInt8 (nat_lit 108) (@UInt8.instOfNat (nat_lit 108))) :: (@OfNat.ofNat UInt8 (nat_lit 109) (@UInt8.instOfNat (nat_lit 109))) :: (@OfNat.ofNat UInt8 (nat_lit 110) (@UInt8.instOfNat (nat_lit 110))) :: (@OfNat.ofNat UInt8 (nat_lit 111) (@UInt8.instOfNat (nat_lit 111))) :: (@OfNat.ofNat UInt8 (nat_lit 112) (@UInt8.instOfNat (nat_lit 112))) :: (@OfNat.ofNat UInt8 (nat_lit 113) (@UInt8.instOfNat (nat_lit 113))) :: (@OfNat.ofNat UInt8 (nat_lit 114) (@UInt8.instOfNat (nat_lit 114))) :: (@OfNat.ofNat UInt8 (nat_lit 115) (@UInt8.instOfNat (nat_lit 115))) :: (@OfNat.ofNat UInt8 (nat_lit 116) (@UInt8.instOfNat (nat_lit 116))) :: (@OfNat.ofNat UInt8 (nat_lit 117) (@UInt8.instOfNat (nat_lit 117))) :: (@OfNat.ofNat UInt8 (nat_lit 118) (@UInt8.instOfNat (nat_lit 118))) :: (@OfNat.ofNat UInt8 (nat_lit 119) (@UInt8.instOfNat (nat_lit 119))) :: (@OfNat.ofNat UInt8 (nat_lit 120) (@UInt8.instOfNat (nat_lit 120))) :: (@OfNat.ofNat UInt8 (nat_lit 121) (@UInt8.instOfNat (nat_lit 121))) :: (@OfNat.ofNat UInt8 (nat_lit 122) (@UInt8.instOfNat (nat_lit 122))) :: (@OfNat.ofNat UInt8 (nat_lit 48) (@UInt8.instOfNat (nat_lit 48))) :: (@OfNat.ofNat UInt8 (nat_lit 49) (@UInt8.instOfNat (nat_lit 49))) :: (@OfNat.ofNat UInt8 (nat_lit 50) (@UInt8.instOfNat (nat_lit 50))) :: (@OfNat.ofNat UInt8 (nat_lit 51) (@UInt8.instOfNat (nat_lit 51))) :: (@OfNat.ofNat UInt8 (nat_lit 52) (@UInt8.instOfNat (nat_lit 52))) :: (@OfNat.ofNat UInt8 (nat_lit 53) (@UInt8.instOfNat (nat_lit 53))) :: (@OfNat.ofNat UInt8 (nat_lit 54) (@UInt8.instOfNat (nat_lit 54))) :: (@OfNat.ofNat UInt8 (nat_lit 55) (@UInt8.instOfNat (nat_lit 55))) :: (@OfNat.ofNat UInt8 (nat_lit 56) (@UInt8.instOfNat (nat_lit 56))) :: (@OfNat.ofNat UInt8 (nat_lit 57) (@UInt8.instOfNat (nat_lit 57))) :: (@OfNat.ofNat UInt8 (nat_lit 43) (@UInt8.instOfNat (nat_lit 43))) :: (@OfNat.ofNat UInt8 (nat_lit 47) (@UInt8.instOfNat (nat_lit 47))) :: [])) 512)), (DictEntry.mk (PyData.keyHash P (Str.ofString "_b64_value")) (Value.str (Str.ofString "_b64_value") 520) (Value.ref 182)), (DictEntry.mk (PyData.keyHash P (Str.ofString "a2b_base64")) (Value.str (Str.ofString "a2b_base64") 536) (Value.ref 190)), (DictEntry.mk (PyData.keyHash P (Str.ofString "b2a_base64")) (Value.str (Str.ofString "b2a_base64") 550) (Value.ref 198)), (DictEntry.mk (PyData.keyHash P (Str.ofString "_NO_SEP")) (Value.str (Str.ofString "_NO_SEP") 551) (Value.ref 199)), (DictEntry.mk (PyData.keyHash P (Str.ofString "b2a_hex")) (Value.str (Str.ofString "b2a_hex") 562) (Value.ref 207)), (DictEntry.mk (PyData.keyHash P (Str.ofString "hexlify")) (Value.str (Str.ofString "hexlify") 563) (Value.ref 207)), (DictEntry.mk (PyData.keyHash P (Str.ofString "_hex_value")) (Value.str (Str.ofString "_hex_value") 570) (Value.ref 214)), (DictEntry.mk (PyData.keyHash P (Str.ofString "a2b_hex")) (Value.str (Str.ofString "a2b_hex") 583) (Value.ref 221)), (DictEntry.mk (PyData.keyHash P (Str.ofString "unhexlify")) (Value.str (Str.ofString "unhexlify") 584) (Value.ref 221)), (DictEntry.mk (PyData.keyHash P (Str.ofString "b64encode")) (Value.str (Str.ofString "b64encode") 595) (Value.ref 229)), (DictEntry.mk (PyData.keyHash P (Str.ofString "b64decode")) (Value.str (Str.ofString "b64decode") 604) (Value.ref 237)), (DictEntry.mk (PyData.keyHash P (Str.ofString "_urlsafe_encode_translation")) (Value.str (Str.ofString "_urlsafe_encode_translation") 609) (Value.bytes (@List.toArray UInt8 ((@OfNat.ofNat UInt8 (nat_lit 0) (@UInt8.instOfNat (nat_lit 0))) :: (@OfNat.ofNat UInt8 (nat_lit 1) (@UInt8.instOfNat (nat_lit 1))) :: (@OfNat.ofNat UInt8 (nat_lit 2) (@UInt8.instOfNat (nat_lit 2))) :: (@OfNat.ofNat UInt8 (nat_lit 3) (@UInt8.instOfNat (nat_lit 3))) :: (@OfNat.ofNat UInt8 (nat_lit 4) (@UInt8.instOfNat (nat_lit 4))) :: (@OfNat.ofNat UInt8 (nat_lit 5) (@UInt8.instOfNat (nat_lit 5))) :: (@OfNat.ofNat UInt8 (nat_lit 6) (@UInt8.instOfNat (nat_lit 6))) :: (@OfNat.ofNat UInt8 (nat_lit 7) (@UInt8.instOfNat (nat_lit 7))) :: (@OfNat.ofNat UInt8 (nat_lit 8) (@UInt8.instOfNat (nat_lit 8))) :: (@OfNat.ofNat UInt8 (nat_lit 9) (@UInt8.instOfNat (nat_lit 9))) :: (@OfNat.ofNat UInt8 (nat_lit 10) (@UInt8.instOfNat (nat_lit 10))) :: (@OfNat.ofNat UInt8 (nat_lit 11) (@UInt8.instOfNat (nat_lit 11))) :: (@OfNat.ofNat UInt8 (nat_lit 12) (@UInt8.instOfNat (nat_lit 12))) :: (@OfNat.ofNat UInt8 (nat_lit 13) (@UInt8.instOfNat (nat_lit 13))) :: (@OfNat.ofNat UInt8 (nat_lit 14) (@UInt8.instOfNat (nat_lit 14))) :: (@OfNat.ofNat UInt8 (nat_lit 15) (@UInt8.instOfNat (nat_lit 15))) :: (@OfNat.ofNat UInt8 (nat_lit 16) (@UInt8.instOfNat (nat_lit 16))) :: (@OfNat.ofNat UInt8 (nat_lit 17) (@UInt8.instOfNat (nat_lit 17))) :: (@OfNat.ofNat UInt8 (nat_lit 18) (@UInt8.instOfNat (nat_lit 18))) :: (@OfNat.ofNat UInt8 (nat_lit 19) (@UInt8.instOfNat (nat_lit 19))) :: (@OfNat.ofNat UInt8 (nat_lit 20) (@UInt8.instOfNat (nat_lit 20))) :: (@OfNat.ofNat UInt8 (nat_lit 21) (@UInt8.instOfNat (nat_lit 21))) :: (@OfNat.ofNat UInt8 (nat_lit 22) (@UInt8.instOfNat (nat_lit 22))) :: (@OfNat.ofNat UInt8 (nat_lit 23) (@UInt8.instOfNat (nat_lit 23))) :: (@OfNat.ofNat UInt8 (nat_lit 24) (@UInt8.instOfNat (nat_lit 24))) :: (@OfNat.ofNat UInt8 (nat_lit 25) (@UInt8.instOfNat (nat_lit 25))) :: (@OfNat.ofNat UInt8 (nat_lit 26) (@UInt8.instOfNat (nat_lit 26))) :: (@OfNat.ofNat UInt8 (nat_lit 27) (@UInt8.instOfNat (nat_lit 27))) :: (@OfNat.ofNat UInt8 (nat_lit 28) (@UInt8.instOfNat (nat_lit 28))) :: (@OfNat.ofNat UInt8 (nat_lit 29) (@UInt8.instOfNat (nat_lit 29))) :: (@OfNat.ofNat UInt8 (nat_lit 30) (@UInt8.instOfNat (nat_lit 30))) :: (@OfNat.ofNat UInt8 (nat_lit 31) (@UInt8.instOfNat (nat_lit 31))) :: (@OfNat.ofNat UInt8 (nat_lit 32) (@UInt8.instOfNat (nat_lit 32))) :: (@OfNat.ofNat UInt8 (nat_lit 33) (@UInt8.instOfNat (nat_lit 33))) :: (@OfNat.ofNat UInt8 (nat_lit 34) (@UInt8.instOfNat (nat_lit 34))) :: (@OfNat.ofNat UInt8 (nat_lit 35) (@UInt8.instOfNat (nat_lit 35))) :: (@OfNat.ofNat UInt8 (nat_lit 36) (@UInt8.instOfNat (nat_lit 36))) :: (@OfNat.ofNat UInt8 (nat_lit 37) (@UInt8.instOfNat (nat_lit 37))) :: (@OfNat.ofNat UInt8 (nat_lit 38) (@UInt8.instOfNat (nat_lit 38))) :: (@OfNat.ofNat UInt8 (nat_lit 39) (@UInt8.instOfNat (nat_lit 39))) :: (@OfNat.ofNat UInt8 (nat_lit 40) (@UInt8.instOfNat (nat_lit 40))) :: (@OfNat.ofNat UInt8 (nat_lit 41) (@UInt8.instOfNat (nat_lit 41))) :: (@OfNat.ofNat UInt8 (nat_lit 42) (@UInt8.instOfNat (nat_lit 42))) :: (@OfNat.ofNat UInt8 (nat_lit 45) (@UInt8.instOfNat (nat_lit 45))) :: (@OfNat.ofNat UInt8 (nat_lit 44) (@UInt8.instOfNat (nat_lit 44))) :: (@OfNat.ofNat UInt8 (nat_lit 45) (@UInt8.instOfNat (nat_lit 45))) :: (@OfNat.ofNat UInt8 (nat_lit 46) (@UInt8.instOfNat (nat_lit 46))) :: (@OfNat.ofNat UInt8 (nat_lit 95) (@UInt8.instOfNat (nat_lit 95))) :: (@OfNat.ofNat UInt8 (nat_lit 48) (@UInt8.instOfNat (nat_lit 48))) :: (@OfNat.ofNat UInt8 (nat_lit 49) (@UInt8.instOfNat (nat_lit 49))) :: (@OfNat.ofNat UInt8 (nat_lit 50) (@UInt8.instOfNat (nat_lit 50))) :: (@OfNat.ofNat UInt8 (nat_lit 51) (@UInt8.instOfNat (nat_lit 51))) :: (@OfNat.ofNat UInt8 (nat_lit 52) (@UInt8.instOfNat (nat_lit 52))) :: (@OfNat.ofNat UInt8 (nat_lit 53) (@UInt8.instOfNat (nat_lit 53))) :: (@OfNat.ofNat UInt8 (nat_lit 54) (@UInt8.instOfNat (nat_lit 54))) :: (@OfNat.ofNat UInt8 (nat_lit 55) (@UInt8.instOfNat (nat_lit 55))) :: (@OfNat.ofNat UInt8 (nat_lit 56) (@UInt8.instOfNat (nat_lit 56))) :: (@OfNat.ofNat UInt8 (nat_lit 57) (@UInt8.instOfNat (nat_lit 57))) :: (@OfNat.ofNat UInt8 (nat_lit 58) (@UInt8.instOfNat (nat_lit 58))) :: (@OfNat.ofNat UInt8 (nat_lit 59) (@UInt8.instOfNat (nat_lit 59))) :: (@OfNat.ofNat UInt8 (nat_lit 60) (@UInt8.instOfNat (nat_lit 60))) :: (@OfNat.ofNat UInt8 (nat_lit 61) (@UInt8.instOfNat (nat_lit 61))) :: (@OfNat.ofNat UInt8 (nat_lit 62) (@UInt8.instOfNat (nat_lit 62))) :: (@OfNat.ofNat UInt8 (nat_lit 63) (@UInt8.instOfNat (nat_lit 63))) :: (@OfNat.ofNat UInt8 (nat_lit 64) (@UInt8.instOfNat (nat_lit 64))) :: (@OfNat.ofNat UInt8 (nat_lit 65) (@UInt8.instOfNat (nat_lit 65))) :: (@OfNat.ofNat UInt8 (nat_lit 66) (@UInt8.instOfNat (nat_lit 66))) :: (@OfNat.ofNat UInt8 (nat_lit 67) (@UInt8.instOfNat (nat_lit 67))) :: (@OfNat.ofNat UInt8 (nat_lit 68) (@UInt8.instOfNat (nat_lit 68))) :: (@OfNat.ofNat UInt8 (nat_lit 69) (@UInt8.instOfNat (nat_lit 69))) :: (@OfNat.ofNat UInt8 (nat_lit 70) (@UInt8.instOfNat (nat_lit 70))) :: (@OfNat.ofNat UInt8 (nat_lit 71) (@UInt8.instOfNat (nat_lit 71))) :: (@OfNat.ofNat UInt8 (nat_lit 72) (@UInt8.instOfNat (nat_lit 72))) :: (@OfNat.ofNat UInt8 (nat_lit 73) (@UInt8.instOfNat (nat_lit 73))) :: (@OfNat.ofNat UInt8 (nat_lit 74) (@UInt8.instOfNat (nat_lit 74))) :: (@OfNat.ofNat UInt8 (nat_lit 75) (@UInt8.instOfNat (nat_lit 75))) :: (@OfNat.ofNat UInt8 (nat_lit 76) (@UInt8.instOfNat (nat_lit 76))) :: (@OfNat.ofNat UInt8 (nat_lit 77) (@UInt8.instOfNat (nat_lit 77))) :: (@OfNat.ofNat UInt8 (nat_lit 78) (@UInt8.instOfNat (nat_lit 78))) :: (@OfNat.ofNat UInt8 (nat_lit 79) (@UInt8.instOfNat (nat_lit 79))) :: (@OfNat.ofNat UInt8 (nat_lit 80) (@UInt8.instOfNat (nat_lit 80))) :: (@OfNat.ofNat UInt8 (nat_lit 81) (@UInt8.instOfNat (nat_lit 81))) :: (@OfNat.ofNat UInt8 (nat_lit 82) (@UInt8.instOfNat (nat_lit 82))) :: (@OfNat.ofNat UInt8 (nat_lit 83) (@UInt8.instOfNat (nat_lit 83))) :: (@OfNat.ofNat UInt8 (nat_lit 84) (@UInt8.instOfNat (nat_lit 84))) :: (@OfNat.ofNat UInt8 (nat_lit 85) (@UInt8.instOfNat (nat_lit 85))) :: (@OfNat.ofNat UInt8 (nat_lit 86) (@UInt8.instOfNat (nat_lit 86))) :: (@OfNat.ofNat UInt8 (nat_lit 87) (@UInt8.instOfNat (nat_lit 87))) :: (@OfNat.ofNat UInt8 (nat_lit 88) (@UInt8.instOfNat (nat_lit 88))) :: (@OfNat.ofNat UInt8 (nat_lit 89) (@UInt8.instOfNat (nat_lit 89))) :: (@OfNat.ofNat UInt8 (nat_lit 90) (@UInt8.instOfNat (nat_lit 90))) :: (@OfNat.ofNat UInt8 (nat_lit 91) (@UInt8.instOfNat (nat_lit 91))) :: (@OfNat.ofNat UInt8 (nat_lit 92) (@UInt8.instOfNat (nat_lit 92))) :: (@OfNat.ofNat UInt8 (nat_lit 93) (@UInt8.instOfNat (nat_lit 93))) :: (@OfNat.ofNat UInt8 (nat_lit 94) (@UInt8.instOfNat (nat_lit 94))) :: (@OfNat.ofNat UInt8 (nat_lit 95) (@UInt8.instOfNat (nat_lit 95))) :: (@OfNat.ofNat UInt8 (nat_lit 96) (@UInt8.instOfNat (nat_lit 96))) :: (@OfNat.ofNat UInt8 (nat_lit 97) (@UInt8.instOfNat (nat_lit 97))) :: (@OfNat.ofNat UInt8 (nat_lit 98) (@UInt8.instOfNat (nat_lit 98))) :: (@OfNat.ofNat UInt8 (nat_lit 99) (@UInt8.instOfNat (nat_lit 99))) :: (@OfNat.ofNat UInt8 (nat_lit 100) (@UInt8.instOfNat (nat_lit 100))) :: (@OfNat.ofNat UInt8 (nat_lit 101) (@UInt8.instOfNat (nat_lit 101))) :: (@OfNat.ofNat UInt8 (nat_lit 102) (@UInt8.instOfNat (nat_lit 102))) :: (@OfNat.ofNat UInt8 (nat_lit 103) (@UInt8.instOfNat (nat_lit 103))) :: (@OfNat.ofNat UInt8 (nat_lit 104) (@UInt8.instOfNat (nat_lit 104))) :: (@OfNat.ofNat UInt8 (nat_lit 105) (@UInt8.instOfNat (nat_lit 105))) :: (@OfNat.ofNat UInt8 (nat_lit 106) (@UInt8.instOfNat (nat_lit 106))) :: (@OfNat.ofNat UInt8 (nat_lit 107) (@UInt8.instOfNat (nat_lit 107))) :: (@OfNat.ofNat UInt8 (nat_lit 108) (@UInt8.instOfNat (nat_lit 108))) :: (@OfNat.ofNat UInt8 (nat_lit 109) (@UInt8.instOfNat (nat_lit 109))) :: (@OfNat.ofNat UInt8 (nat_lit 110) (@UInt8.instOfNat (nat_lit 110))) :: (@OfNat.ofNat UInt8 (nat_lit 111) (@UInt8.instOfNat (nat_lit 111))) :: (@OfNat.ofNat UInt8 (nat_lit 112) (@UInt8.instOfNat (nat_lit 112))) :: (@OfNat.ofNat UInt8 (nat_lit 113) (@UInt8.instOfNat (nat_lit 113))) :: (@OfNat.ofNat UInt8 (nat_lit 114) (@UInt8.instOfNat (nat_lit 114))) :: (@OfNat.ofNat UInt8 (nat_lit 115) (@UInt8.instOfNat (nat_lit 115))) :: (@OfNat.ofNat UInt8 (nat_lit 116) (@UInt8.instOfNat (nat_lit 116))) :: (@OfNat.ofNat UInt8 (nat_lit 117) (@UInt8.instOfNat (nat_lit 117))) :: (@OfNat.ofNat UInt8 (nat_lit 118) (@UInt8.instOfNat (nat_lit 118))) :: (@OfNat.ofNat UInt8 (nat_lit 119) (@UInt8.instOfNat (nat_lit 119))) :: (@OfNat.ofNat UInt8 (nat_lit 120) (@UInt8.instOfNat (nat_lit 120))) :: (@OfNat.ofNat UInt8 (nat_lit 121) (@UInt8.instOfNat (nat_lit 121))) :: (@OfNat.ofNat UInt8 (nat_lit 122) (@UInt8.instOfNat (nat_lit 122))) :: (@OfNat.ofNat UInt8 (nat_lit 123) (@UInt8.instOfNat (nat_lit 123))) :: (@OfNat.ofNat UInt8 (nat_lit 124) (@UInt8.instOfNat (nat_lit 124))) :: (@OfNat.ofNat UInt8 (nat_lit 125) (@UInt8.instOfNat (nat_lit 125))) :: (@OfNat.ofNat UInt8 (nat_lit 126) (@UInt8.instOfNat (nat_lit 126))) :: (@OfNat.ofNat UInt8 (nat_lit 127) (@UInt8.instOfNat (nat_lit 127))) :: (@OfNat.ofNat UInt8 (nat_lit 128) (@UInt8.instOfNat (nat_lit 128))) :: (@OfNat.ofNat UInt8 (nat_lit 129) (@UInt8.instOfNat (nat_lit 129))) :: (@OfNat.ofNat UInt8 (nat_lit 130) (@UInt8.instOfNat (nat_lit 130))) :: (@OfNat.ofNat UInt8 (nat_lit 131) (@UInt8.instOfNat (nat_lit 131))) :: (@OfNat.ofNat UInt8 (nat_lit 132) (@UInt8.instOfNat (nat_lit 132))) :: (@OfNat.ofNat UInt8 (nat_lit 133) (@UInt8.instOfNat (nat_lit 133))) :: (@OfNat.ofNat UInt8 (nat_lit 134) (@UInt8.instOfNat (nat_lit 134))) :: (@OfNat.ofNat UInt8 (nat_lit 135) (@UInt8.instOfNat (nat_lit 135))) :: (@OfNat.ofNat UInt8 (nat_lit 136) (@UInt8.instOfNat (nat_lit 136))) :: (@OfNat.ofNat UInt8 (nat_lit 137) (@UInt8.instOfNat (nat_lit 137))) :: (@OfNat.ofNat UInt8 (nat_lit 138) (@UInt8.instOfNat (nat_lit 138))) :: (@OfNat.ofNat UInt8 (nat_lit 139) (@UInt8.instOfNat (nat_lit 139))) :: (@OfNat.ofNat UInt8 (nat_lit 140) (@UInt8.instOfNat (nat_lit 140))) :: (@OfNat.ofNat UInt8 (nat_lit 141) (@UInt8.instOfNat (nat_lit 141))) :: (@OfNat.ofNat UInt8 (nat_lit 142) (@UInt8.instOfNat (nat_lit 142))) :: (@OfNat.ofNat UInt8 (nat_lit 143) (@UInt8.instOfNat (nat_lit 143))) :: (@OfNat.ofNat UInt8 (nat_lit 144) (@UInt8.instOfNat (nat_lit 144))) :: (@OfNat.ofNat UInt8 (nat_lit 145) (@UInt8.instOfNat (nat_lit 145))) :: (@OfNat.ofNat UInt8 (nat_lit 146) (@UInt8.instOfNat (nat_lit 146))) :: (@OfNat.ofNat UInt8 (nat_lit 147) (@UInt8.instOfNat (nat_lit 147))) :: (@OfNat.ofNat UInt8 (nat_lit 148) (@UInt8.instOfNat (nat_lit 148))) :: (@OfNat.ofNat UInt8 (nat_lit 149) (@UInt8.instOfNat (nat_lit 149))) :: (@OfNat.ofNat UInt8 (nat_lit 150) (@UInt8.instOfNat (nat_lit 150))) :: (@OfNat.ofNat UInt8 (nat_lit 151) (@UInt8.instOfNat (nat_lit 151))) :: (@OfNat.ofNat UInt8 (nat_lit 152) (@UInt8.instOfNat (nat_lit 152))) :: (@OfNat.ofNat UInt8 (nat_lit 153) (@UInt8.instOfNat (nat_lit 153))) :: (@OfNat.ofNat UInt8 (nat_lit 154) (@UInt8.instOfNat (nat_lit 154))) :: (@OfNat.ofNat UInt8 (nat_lit 155) (@UInt8.instOfNat (nat_lit 155))) :: (@OfNat.ofNat UInt8 (nat_lit 156) (@UInt8.instOfNat (nat_lit 156))) :: (@OfNat.ofNat UInt8 (nat_lit 157) (@UInt8.instOfNat (nat_lit 157))) :: (@OfNat.ofNat UInt8 (nat_lit 158) (@UInt8.instOfNat (nat_lit 158))) :: (@OfNat.ofNat UInt8 (nat_lit 159) (@UInt8.instOfNat (nat_lit 159))) :: (@OfNat.ofNat UInt8 (nat_lit 160) (@UInt8.instOfNat (nat_lit 160))) :: (@OfNat.ofNat UInt8 (nat_lit 161) (@UInt8.instOfNat (nat_lit 161))) :: (@OfNat.ofNat UInt8 (nat_lit 162) (@UInt8.instOfNat (nat_lit 162))) :: (@OfNat.ofNat UInt8 (nat_lit 163) (@UInt8.instOfNat (nat_lit 163))) :: (@OfNat.ofNat UInt8 (nat_lit 164) (@UInt8.instOfNat (nat_lit 164))) :: (@OfNat.ofNat UInt8 (nat_lit 165) (@UInt8.instOfNat (nat_lit 165))) :: (@OfNat.ofNat UInt8 (nat_lit 166) (@UInt8.instOfNat (nat_lit 166))) :: (@OfNat.ofNat UInt8 (nat_lit 167) (@UInt8.instOfNat (nat_lit 167))) :: (@OfNat.ofNat UInt8 (nat_lit 168) (@UInt8.instOfNat (nat_lit 168))) :: (@OfNat.ofNat UInt8 (nat_lit 169) (@UInt8.instOfNat (nat_lit 169))) :: (@OfNat.ofNat UInt8 (nat_lit 170) (@UInt8.instOfNat (nat_lit 170))) :: (@OfNat.ofNat UInt8 (nat_lit 171) (@UInt8.instOfNat (nat_lit 171))) :: (@OfNat.ofNat UInt8 (nat_lit 172) (@UInt8.instOfNat (nat_lit 172))) :: (@OfNat.ofNat UInt8 (nat_lit 173) (@UInt8.instOfNat (nat_lit 173))) :: (@OfNat.ofNat UInt8 (nat_lit 174) (@UInt8.instOfNat (nat_lit 174))) :: (@OfNat.ofNat UInt8 (nat_lit 175) (@UInt8.instOfNat (nat_lit 175))) :: (@OfNat.ofNat UInt8 (nat_lit 176) (@UInt8.instOfNat (nat_lit 176))) :: (@OfNat.ofNat UInt8 (nat_lit 177) (@UInt8.instOfNat (nat_lit 177))) :: (@OfNat.ofNat UInt8 (nat_lit 178) (@UInt8.instOfNat (nat_lit 178))) :: (@OfNat.ofNat UInt8 (nat_lit 179) (@UInt8.instOfNat (nat_lit 179))) :: (@OfNat.ofNat UInt8 (nat_lit 180) (@UInt8.instOfNat (nat_lit 180))) :: (@OfNat.ofNat UInt8 (nat_lit 181) (@UInt8.instOfNat (nat_lit 181))) :: (@OfNat.ofNat UInt8 (nat_lit 182) (@UInt8.instOfNat (nat_lit 182))) :: (@OfNat.ofNat UInt8 (nat_lit 183) (@UInt8.instOfNat (nat_lit 183))) :: (@OfNat.ofNat UInt8 (nat_lit 184) (@UInt8.instOfNat (nat_lit 184))) :: (@OfNat.ofNat UInt8 (nat_lit 185) (@UInt8.instOfNat (nat_lit 185))) :: (@OfNat.ofNat UInt8 (nat_lit 186) (@UInt8.instOfNat (nat_lit 186))) :: (@OfNat.ofNat UInt8 (nat_lit 187) (@UInt8.instOfNat (nat_lit 187))) :: (@OfNat.ofNat UInt8 (nat_lit 188) (@UInt8.instOfNat (nat_lit 188))) :: (@OfNat.ofNat UInt8 (nat_lit 189) (@UInt8.instOfNat (nat_lit 189))) :: (@OfNat.ofNat UInt8 (nat_lit 190) (@UInt8.instOfNat (nat_lit 190))) :: (@OfNat.ofNat UInt8 (nat_lit 191) (@UInt8.instOfNat (nat_lit 191))) :: (@OfNat.ofNat UInt8 (nat_lit 192) (@UInt8.instOfNat (nat_lit 192))) :: (@OfNat.ofNat UInt8 (nat_lit 193) (@UInt8.instOfNat (nat_lit 193))) :: (@OfNat.ofNat UInt8 (nat_lit 194) (@UInt8.instOfNat (nat_lit 194))) :: (@OfNat.ofNat UInt8 (nat_lit 195) (@UInt8.instOfNat (nat_lit 195))) :: (@OfNat.ofNat UInt8 (nat_lit 196) (@UInt8.instOfNat (nat_lit 196))) :: (@OfNat.ofNat UInt8 (nat_lit 197) (@UInt8.instOfNat (nat_lit 197))) :: (@OfNat.ofNat UInt8 (nat_lit 198) (@UInt8.instOfNat (nat_lit 198))) :: (@OfNat.ofNat UInt8 (nat_lit 199) (@UInt8.instOfNat (nat_lit 199))) :: (@OfNat.ofNat UInt8 (nat_lit 200) (@UInt8.instOfNat (nat_lit 200))) :: (@OfNat.ofNat UInt8 (nat_lit 201) (@UInt8.instOfNat (nat_lit 201))) :: (@OfNat.ofNat UInt8 (nat_lit 202) (@UInt8.instOfNat (nat_lit 202))) :: (@OfNat.ofNat UInt8 (nat_lit 203) (@UInt8.instOfNat (nat_lit 203))) :: (@OfNat.ofNat UInt8 (nat_lit 204) (@UInt8.instOfNat (nat_lit 204))) :: (@OfNat.ofNat UInt8 (nat_lit 205) (@UInt8.instOfNat (nat_lit 205))) :: (@OfNat.ofNat UInt8 (nat_lit 206) (@UInt8.instOfNat (nat_lit 206))) :: (@OfNat.ofNat UInt8 (nat_lit 207) (@UInt8.instOfNat (nat_lit 207))) :: (@OfNat.ofNat UInt8 (nat_lit 208) (@UInt8.instOfNat (nat_lit 208))) :: (@OfNat.ofNat UInt8 (nat_lit 209) (@UInt8.instOfNat (nat_lit 209))) :: (@OfNat.ofNat UInt8 (nat_lit 210) (@UInt8.instOfNat (nat_lit 210))) :: (@OfNat.ofNat UInt8 (nat_lit 211) (@UInt8.instOfNat (nat_lit 211))) :: (@OfNat.ofNat UInt8 (nat_lit 212) (@UInt8.instOfNat (nat_lit 212))) :: (@OfNat.ofNat UInt8 (nat_lit 213) (@UInt8.instOfNat (nat_lit 213))) :: (@OfNat.ofNat UInt8 (nat_lit 214) (@UInt8.instOfNat (nat_lit 214))) :: (@OfNat.ofNat UInt8 (nat_lit 215) (@UInt8.instOfNat (nat_lit 215))) :: (@OfNat.ofNat UInt8 (nat_lit 216) (@UInt8.instOfNat (nat_lit 216))) :: (@OfNat.ofNat UInt8 (nat_lit 217) (@UInt8.instOfNat (nat_lit 217))) :: (@OfNat.ofNat UInt8 (nat_lit 218) (@UInt8.instOfNat (nat_lit 218))) :: (@OfNat.ofNat UInt8 (nat_lit 219) (@UInt8.instOfNat (nat_lit 219))) :: (@OfNat.ofNat UInt8 (nat_lit 220) (@UInt8.instOfNat (nat_lit 220))) :: (@OfNat.ofNat UInt8 (nat_lit 221) (@UInt8.instOfNat (nat_lit 221))) :: (@OfNat.ofNat UInt8 (nat_lit 222) (@UInt8.instOfNat (nat_lit 222))) :: (@OfNat.ofNat UInt8 (nat_lit 223) (@UInt8.instOfNat (nat_lit 223))) :: (@OfNat.ofNat UInt8 (nat_lit 224) (@UInt8.instOfNat (nat_lit 224))) :: (@OfNat.ofNat UInt8 (nat_lit 225) (@UInt8.instOfNat (nat_lit 225))) :: (@OfNat.ofNat UInt8 (nat_lit 226) (@UInt8.instOfNat (nat_lit 226))) :: (@OfNat.ofNat UInt8 (nat_lit 227) (@UInt8.instOfNat (nat_lit 227))) :: (@OfNat.ofNat UInt8 (nat_lit 228) (@UInt8.instOfNat (nat_lit 228))) :: (@OfNat.ofNat UInt8 (nat_lit 229) (@UInt8.instOfNat (nat_lit 229))) :: (@OfNat.ofNat UInt8 (nat_lit 230) (@UInt8.instOfNat (nat_lit 230))) :: (@OfNat.ofNat UInt8 (nat_lit 231) (@UInt8.instOfNat (nat_lit 231))) :: (@OfNat.ofNat UInt8 (nat_lit 232) (@UInt8.instOfNat (nat_lit 232))) :: (@OfNat.ofNat UInt8 (nat_lit 233) (@UInt8.instOfNat (nat_lit 233))) :: (@OfNat.ofNat UInt8 (nat_lit 234) (@UInt8.instOfNat (nat_lit 234))) :: (@OfNat.ofNat UInt8 (nat_lit 235) (@UInt8.instOfNat (nat_lit 235))) :: (@OfNat.ofNat UInt8 (nat_lit 236) (@UInt8.instOfNat (nat_lit 236))) :: (@OfNat.ofNat UInt8 (nat_lit 237) (@UInt8.instOfNat (nat_lit 237))) :: (@OfNat.ofNat UInt8 (nat_lit 238) (@UInt8.instOfNat (nat_lit 238))) :: (@OfNat.ofNat UInt8 (nat_lit 239) (@UInt8.instOfNat (nat_lit 239))) :: (@OfNat.ofNat UInt8 (nat_lit 240) (@UInt8.instOfNat (nat_lit 240))) :: (@OfNat.ofNat UInt8 (nat_lit 241) (@UInt8.instOfNat (nat_lit 241))) :: (@OfNat.ofNat UInt8 (nat_lit 242) (@UInt8.instOfNat (nat_lit 242))) :: (@OfNat.ofNat UInt8 (nat_lit 243) (@UInt8.instOfNat (nat_lit 243))) :: (@OfNat.ofNat UInt8 (nat_lit 244) (@UInt8.instOfNat (nat_lit 244))) :: (@OfNat.ofNat UInt8 (nat_lit 245) (@UInt8.instOfNat (nat_lit 245))) :: (@OfNat.ofNat UInt8 (nat_lit 246) (@UInt8.instOfNat (nat_lit 246))) :: (@OfNat.ofNat UInt8 (nat_lit 247) (@UInt8.instOfNat (nat_lit 247))) :: (@OfNat.ofNat UInt8 (nat_lit 248) (@UInt8.instOfNat (nat_lit 248))) :: (@OfNat.ofNat UInt8 (nat_lit 249) (@UInt8.instOfNat (nat_lit 249))) :: (@OfNat.ofNat UInt8 (nat_lit 250) (@UInt8.instOfNat (nat_lit 250))) :: (@OfNat.ofNat UInt8 (nat_lit 251) (@UInt8.instOfNat (nat_lit 251))) :: (@OfNat.ofNat UInt8 (nat_lit 252) (@UInt8.instOfNat (nat_lit 252))) :: (@OfNat.ofNat UInt8 (nat_lit 253) (@UInt8.instOfNat (nat_lit 253))) :: (@OfNat.ofNat UInt8 (nat_lit 254) (@UInt8.instOfNat (nat_lit 254))) :: (@OfNat.ofNat UInt8 (nat_lit 255) (@UInt8.instOfNat (nat_lit 255))) :: [])) 608)), (DictEntry.mk (PyData.keyHash P (Str.ofString "_urlsafe_decode_translation")) (Value.str (Str.ofString "_urlsafe_decode_translation") 614) (Value.bytes (@List.toArray UInt8 ((@OfNat.ofNat UInt8 (nat_lit 0) (@UInt8.instOfNat (nat_lit 0))) :: (@OfNat.ofNat UInt8 (nat_lit 1) (@UInt8.instOfNat (nat_lit 1))) :: (@OfNat.ofNat UInt8 (nat_lit 2) (@UInt8.instOfNat (nat_lit 2))) :: (@OfNat.ofNat UInt8 (nat_lit 3) (@UInt8.instOfNat (nat_lit 3))) :: (@OfNat.ofNat UInt8 (nat_lit 4) (@UInt8.instOfNat (nat_lit 4))) :: (@OfNat.ofNat UInt8 (nat_lit 5) (@UInt8.instOfNat (nat_lit 5))) :: (@OfNat.ofNat UInt8 (nat_lit 6) (@UInt8.instOfNat (nat_lit 6))) :: (@OfNat.ofNat UInt8 (nat_lit 7) (@UInt8.instOfNat (nat_lit 7))) :: (@OfNat.ofNat UInt8 (nat_lit 8) (@UInt8.instOfNat (nat_lit 8))) :: (@OfNat.ofNat UInt8 (nat_lit 9) (@UInt8.instOfNat (nat_lit 9))) :: (@OfNat.ofNat UInt8 (nat_lit 10) (@UInt8.instOfNat (nat_lit 10))) :: (@OfNat.ofNat UInt8 (nat_lit 11) (@UInt8.instOfNat (nat_lit 11))) :: (@OfNat.ofNat UInt8 (nat_lit 12) (@UInt8.instOfNat (nat_lit 12))) :: (@OfNat.ofNat UInt8 (nat_lit 13) (@UInt8.instOfNat (nat_lit 13))) :: (@OfNat.ofNat UInt8 (nat_lit 14) (@UInt8.instOfNat (nat_lit 14))) :: (@OfNat.ofNat UInt8 (nat_lit 15) (@UInt8.instOfNat (nat_lit 15))) :: (@OfNat.ofNat UInt8 (nat_lit 16) (@UInt8.instOfNat (nat_lit 16))) :: (@OfNat.ofNat UInt8 (nat_lit 17) (@UInt8.instOfNat (nat_lit 17))) :: (@OfNat.ofNat UInt8 (nat_lit 18) (@UInt8.instOfNat (nat_lit 18))) :: (@OfNat.ofNat UInt8 (nat_lit 19) (@UInt8.instOfNat (nat_lit 19))) :: (@OfNat.ofNat UInt8 (nat_lit 20) (@UInt8.instOfNat (nat_lit 20))) :: (@OfNat.ofNat UInt8 (nat_lit 21) (@UInt8.instOfNat (nat_lit 21))) :: (@OfNat.ofNat UInt8 (nat_lit 22) (@UInt8.instOfNat (nat_lit 22))) :: (@OfNat.ofNat UInt8 (nat_lit 23) (@UInt8.instOfNat (nat_lit 23))) :: (@OfNat.ofNat UInt8 (nat_lit 24) (@UInt8.instOfNat (nat_lit 24))) :: (@OfNat.ofNat UInt8 (nat_lit 25) (@UInt8.instOfNat (nat_lit 25))) :: (@OfNat.ofNat UInt8 (nat_lit 26) (@UInt8.instOfNat (nat_lit 26))) :: (@OfNat.ofNat UInt8 (nat_lit 27) (@UInt8.instOfNat (nat_lit 27))) :: (@OfNat.ofNat UInt8 (nat_lit 28) (@UInt8.instOfNat (nat_lit 28))) :: (@OfNat.ofNat UInt8 (nat_lit 29) (@UInt8.instOfNat (nat_lit 29))) :: (@OfNat.ofNat UInt8 (nat_lit 30) (@UInt8.instOfNat (nat_lit 30))) :: (@OfNat.ofNat UInt8 (nat_lit 31) (@UInt8.instOfNat (nat_lit 31))) :: (@OfNat.ofNat UInt8 (nat_lit 32) (@UInt8.instOfNat (nat_lit 32))) :: (@OfNat.ofNat UInt8 (nat_lit 33) (@UInt8.instOfNat (nat_lit 33))) :: (@OfNat.ofNat UInt8 (nat_lit 34) (@UInt8.instOfNat (nat_lit 34))) :: (@OfNat.ofNat UInt8 (nat_lit 35) (@UInt8.instOfNat (nat_lit 35))) :: (@OfNat.ofNat UInt8 (nat_lit 36) (@UInt8.instOfNat (nat_lit 36))) :: (@OfNat.ofNat UInt8 (nat_lit 37) (@UInt8.instOfNat (nat_lit 37))) :: (@OfNat.ofNat UInt8 (nat_lit 38) (@UInt8.instOfNat (nat_lit 38))) :: (@OfNat.ofNat UInt8 (nat_lit 39) (@UInt8.instOfNat (nat_lit 39))) :: (@OfNat.ofNat UInt8 (nat_lit 40) (@UInt8.instOfNat (nat_lit 40))) :: (@OfNat.ofNat UInt8 (nat_lit 41) (@UInt8.instOfNat (nat_lit 41))) :: (@OfNat.ofNat UInt8 (nat_lit 42) (@UInt8.instOfNat (nat_lit 42))) :: (@OfNat.ofNat UInt8 (nat_lit 43) (@UInt8.instOfNat (nat_lit 43))) :: (@OfNat.ofNat UInt8 (nat_lit 44) (@UInt8.instOfNat (nat_lit 44))) :: (@OfNat.ofNat UInt8 (nat_lit 43) (@UInt8.instOfNat (nat_lit 43))) :: (@OfNat.ofNat UInt8 (nat_lit 46) (@UInt8.instOfNat (nat_lit 46))) :: (@OfNat.ofNat UInt8 (nat_lit 47) (@UInt8.instOfNat (nat_lit 47))) :: (@OfNat.ofNat UInt8 (nat_lit 48) (@UInt8.instOfNat (nat_lit 48))) :: (@OfNat.ofNat UInt8 (nat_lit 49) (@UInt8.instOfNat (nat_lit 49))) :: (@OfNat.ofNat UInt8 (nat_lit 50) (@UInt8.instOfNat (nat_lit 50))) :: (@OfNat.ofNat UInt8 (nat_lit 51) (@UInt8.instOfNat (nat_lit 51))) :: (@OfNat.ofNat UInt8 (nat_lit 52) (@UInt8.instOfNat (nat_lit 52))) :: (@OfNat.ofNat UInt8 (nat_lit 53) (@UInt8.instOfNat (nat_lit 53))) :: (@OfNat.ofNat UInt8 (nat_lit 54) (@UInt8.instOfNat (nat_lit 54))) :: (@OfNat.ofNat UInt8 (nat_lit 55) (@UInt8.instOfNat (nat_lit 55))) :: (@OfNat.ofNat UInt8 (nat_lit 56) (@UInt8.instOfNat (nat_lit 56))) :: (@OfNat.ofNat UInt8 (nat_lit 57) (@UInt8.instOfNat (nat_lit 57))) :: (@OfNat.ofNat UInt8 (nat_lit 58) (@UInt8.instOfNat (nat_lit 58))) :: (@OfNat.ofNat UInt8 (nat_lit 59) (@UInt8.instOfNat (nat_lit 59))) :: (@OfNat.ofNat UInt8 (nat_lit 60) (@UInt8.instOfNat (nat_lit 60))) :: (@OfNat.ofNat UInt8 (nat_lit 61) (@UInt8.instOfNat (nat_lit 61))) :: (@OfNat.ofNat UInt8 (nat_lit 62) (@UInt8.instOfNat (nat_lit 62))) :: (@OfNat.ofNat UInt8 (nat_lit 63) (@UInt8.instOfNat (nat_lit 63))) :: (@OfNat.ofNat UInt8 (nat_lit 64) (@UInt8.instOfNat (nat_lit 64))) :: (@OfNat.ofNat UInt8 (nat_lit 65) (@UInt8.instOfNat (nat_lit 65))) :: (@OfNat.ofNat UInt8 (nat_lit 66) (@UInt8.instOfNat (nat_lit 66))) :: (@OfNat.ofNat UInt8 (nat_lit 67) (@UInt8.instOfNat (nat_lit 67))) :: (@OfNat.ofNat UInt8 (nat_lit 68) (@UInt8.instOfNat (nat_lit 68))) :: (@OfNat.ofNat UInt8 (nat_lit 69) (@UInt8.instOfNat (nat_lit 69))) :: (@OfNat.ofNat UInt8 (nat_lit 70) (@UInt8.instOfNat (nat_lit 70))) :: (@OfNat.ofNat UInt8 (nat_lit 71) (@UInt8.instOfNat (nat_lit 71))) :: (@OfNat.ofNat UInt8 (nat_lit 72) (@UInt8.instOfNat (nat_lit 72))) :: (@OfNat.ofNat UInt8 (nat_lit 73) (@UInt8.instOfNat (nat_lit 73))) :: (@OfNat.ofNat UInt8 (nat_lit 74) (@UInt8.instOfNat (nat_lit 74))) :: (@OfNat.ofNat UInt8 (nat_lit 75) (@UInt8.instOfNat (nat_lit 75))) :: (@OfNat.ofNat UInt8 (nat_lit 76) (@UInt8.instOfNat (nat_lit 76))) :: (@OfNat.ofNat UInt8 (nat_lit 77) (@UInt8.instOfNat (nat_lit 77))) :: (@OfNat.ofNat UInt8 (nat_lit 78) (@UInt8.instOfNat (nat_lit 78))) :: (@OfNat.ofNat UInt8 (nat_lit 79) (@UInt8.instOfNat (nat_lit 79))) :: (@OfNat.ofNat UInt8 (nat_lit 80) (@UInt8.instOfNat (nat_lit 80))) :: (@OfNat.ofNat UInt8 (nat_lit 81) (@UInt8.instOfNat (nat_lit 81))) :: (@OfNat.ofNat UInt8 (nat_lit 82) (@UInt8.instOfNat (nat_lit 82))) :: (@OfNat.ofNat UInt8 (nat_lit 83) (@UInt8.instOfNat (nat_lit 83))) :: (@OfNat.ofNat UInt8 (nat_lit 84) (@UInt8.instOfNat (nat_lit 84))) :: (@OfNat.ofNat UInt8 (nat_lit 85) (@UInt8.instOfNat (nat_lit 85))) :: (@OfNat.ofNat UInt8 (nat_lit 86) (@UInt8.instOfNat (nat_lit 86))) :: (@OfNat.ofNat UInt8 (nat_lit 87) (@UInt8.instOfNat (nat_lit 87))) :: (@OfNat.ofNat UInt8 (nat_lit 88) (@UInt8.instOfNat (nat_lit 88))) :: (@OfNat.ofNat UInt8 (nat_lit 89) (@UInt8.instOfNat (nat_lit 89))) :: (@OfNat.ofNat UInt8 (nat_lit 90) (@UInt8.instOfNat (nat_lit 90))) :: (@OfNat.ofNat UInt8 (nat_lit 91) (@UInt8.instOfNat (nat_lit 91))) :: (@OfNat.ofNat UInt8 (nat_lit 92) (@UInt8.instOfNat (nat_lit 92))) :: (@OfNat.ofNat UInt8 (nat_lit 93) (@UInt8.instOfNat (nat_lit 93))) :: (@OfNat.ofNat UInt8 (nat_lit 94) (@UInt8.instOfNat (nat_lit 94))) :: (@OfNat.ofNat UInt8 (nat_lit 47) (@UInt8.instOfNat (nat_lit 47))) :: (@OfNat.ofNat UInt8 (nat_lit 96) (@UInt8.instOfNat (nat_lit 96))) :: (@OfNat.ofNat UInt8 (nat_lit 97) (@UInt8.instOfNat (nat_lit 97))) :: (@OfNat.ofNat UInt8 (nat_lit 98) (@UInt8.instOfNat (nat_lit 98))) :: (@OfNat.ofNat UInt8 (nat_lit 99) (@UInt8.instOfNat (nat_lit 99))) :: (@OfNat.ofNat UInt8 (nat_lit 100) (@UInt8.instOfNat (nat_lit 100))) :: (@OfNat.ofNat UInt8 (nat_lit 101) (@UInt8.instOfNat (nat_lit 101))) :: (@OfNat.ofNat UInt8 (nat_lit 102) (@UInt8.instOfNat (nat_lit 102))) :: (@OfNat.ofNat UInt8 (nat_lit 103) (@UInt8.instOfNat (nat_lit 103))) :: (@OfNat.ofNat UInt8 (nat_lit 104) (@UInt8.instOfNat (nat_lit 104))) :: (@OfNat.ofNat UInt8 (nat_lit 105) (@UInt8.instOfNat (nat_lit 105))) :: (@OfNat.ofNat UInt8 (nat_lit 106) (@UInt8.instOfNat (nat_lit 106))) :: (@OfNat.ofNat UInt8 (nat_lit 107) (@UInt8.instOfNat (nat_lit 107))) :: (@OfNat.ofNat UInt8 (nat_lit 108) (@UInt8.instOfNat (nat_lit 108))) :: (@OfNat.ofNat UInt8 (nat_lit 109) (@UInt8.instOfNat (nat_lit 109))) :: (@OfNat.ofNat UInt8 (nat_lit 110) (@UInt8.instOfNat (nat_lit 110))) :: (@OfNat.ofNat UInt8 (nat_lit 111) (@UInt8.instOfNat (nat_lit 111))) :: (@OfNat.ofNat UInt8 (nat_lit 112) (@UInt8.instOfNat (nat_lit 112))) :: (@OfNat.ofNat UInt8 (nat_lit 113) (@UInt8.instOfNat (nat_lit 113))) :: (@OfNat.ofNat UInt8 (nat_lit 114) (@UInt8.instOfNat (nat_lit 114))) :: (@OfNat.ofNat UInt8 (nat_lit 115) (@UInt8.instOfNat (nat_lit 115))) :: (@OfNat.ofNat UInt8 (nat_lit 116) (@UInt8.instOfNat (nat_lit 116))) :: (@OfNat.ofNat UInt8 (nat_lit 117) (@UInt8.instOfNat (nat_lit 117))) :: (@OfNat.ofNat UInt8 (nat_lit 118) (@UInt8.instOfNat (nat_lit 118))) :: (@OfNat.ofNat UInt8 (nat_lit 119) (@UInt8.instOfNat (nat_lit 119))) :: (@OfNat.ofNat UInt8 (nat_lit 120) (@UInt8.instOfNat (nat_lit 120))) :: (@OfNat.ofNat UInt8 (nat_lit 121) (@UInt8.instOfNat (nat_lit 121))) :: (@OfNat.ofNat UInt8 (nat_lit 122) (@UInt8.instOfNat (nat_lit 122))) :: (@OfNat.ofNat UInt8 (nat_lit 123) (@UInt8.instOfNat (nat_lit 123))) :: (@OfNat.ofNat UInt8 (nat_lit 124) (@UInt8.instOfNat (nat_lit 124))) :: (@OfNat.ofNat UInt8 (nat_lit 125) (@UInt8.instOfNat (nat_lit 125))) :: (@OfNat.ofNat UInt8 (nat_lit 126) (@UInt8.instOfNat (nat_lit 126))) :: (@OfNat.ofNat UInt8 (nat_lit 127) (@UInt8.instOfNat (nat_lit 127))) :: (@OfNat.ofNat UInt8 (nat_lit 128) (@UInt8.instOfNat (nat_lit 128))) :: (@OfNat.ofNat UInt8 (nat_lit 129) (@UInt8.instOfNat (nat_lit 129))) :: (@OfNat.ofNat UInt8 (nat_lit 130) (@UInt8.instOfNat (nat_lit 130))) :: (@OfNat.ofNat UInt8 (nat_lit 131) (@UInt8.instOfNat (nat_lit 131))) :: (@OfNat.ofNat UInt8 (nat_lit 132) (@UInt8.instOfNat (nat_lit 132))) :: (@OfNat.ofNat UInt8 (nat_lit 133) (@UInt8.instOfNat (nat_lit 133))) :: (@OfNat.ofNat UInt8 (nat_lit 134) (@UInt8.instOfNat (nat_lit 134))) :: (@OfNat.ofNat UInt8 (nat_lit 135) (@UInt8.instOfNat (nat_lit 135))) :: (@OfNat.ofNat UInt8 (nat_lit 136) (@UInt8.instOfNat (nat_lit 136))) :: (@OfNat.ofNat UInt8 (nat_lit 137) (@UInt8.instOfNat (nat_lit 137))) :: (@OfNat.ofNat UInt8 (nat_lit 138) (@UInt8.instOfNat (nat_lit 138))) :: (@OfNat.ofNat UInt8 (nat_lit 139) (@UInt8.instOfNat (nat_lit 139))) :: (@OfNat.ofNat UInt8 (nat_lit 140) (@UInt8.instOfNat (nat_lit 140))) :: (@OfNat.ofNat UInt8 (nat_lit 141) (@UInt8.instOfNat (nat_lit 141))) :: (@OfNat.ofNat UInt8 (nat_lit 142) (@UInt8.instOfNat (nat_lit 142))) :: (@OfNat.ofNat UInt8 (nat_lit 143) (@UInt8.instOfNat (nat_lit 143))) :: (@OfNat.ofNat UInt8 (nat_lit 144) (@UInt8.instOfNat (nat_lit 144))) :: (@OfNat.ofNat UInt8 (nat_lit 145) (@UInt8.instOfNat (nat_lit 145))) :: (@OfNat.ofNat UInt8 (nat_lit 146) (@UInt8.instOfNat (nat_lit 146))) :: (@OfNat.ofNat UInt8 (nat_lit 147) (@UInt8.instOfNat (nat_lit 147))) :: (@OfNat.ofNat UInt8 (nat_lit 148) (@UInt8.instOfNat (nat_lit 148))) :: (@OfNat.ofNat UInt8 (nat_lit 149) (@UInt8.instOfNat (nat_lit 149))) :: (@OfNat.ofNat UInt8 (nat_lit 150) (@UInt8.instOfNat (nat_lit 150))) :: (@OfNat.ofNat UInt8 (nat_lit 151) (@UInt8.instOfNat (nat_lit 151))) :: (@OfNat.ofNat UInt8 (nat_lit 152) (@UInt8.instOfNat (nat_lit 152))) :: (@OfNat.ofNat UInt8 (nat_lit 153) (@UInt8.instOfNat (nat_lit 153))) :: (@OfNat.ofNat UInt8 (nat_lit 154) (@UInt8.instOfNat (nat_lit 154))) :: (@OfNat.ofNat UInt8 (nat_lit 155) (@UInt8.instOfNat (nat_lit 155))) :: (@OfNat.ofNat UInt8 (nat_lit 156) (@UInt8.instOfNat (nat_lit 156))) :: (@OfNat.ofNat UInt8 (nat_lit 157) (@UInt8.instOfNat (nat_lit 157))) :: (@OfNat.ofNat UInt8 (nat_lit 158) (@UInt8.instOfNat (nat_lit 158))) :: (@OfNat.ofNat UInt8 (nat_lit 159) (@UInt8.instOfNat (nat_lit 159))) :: (@OfNat.ofNat UInt8 (nat_lit 160) (@UInt8.instOfNat (nat_lit 160))) :: (@OfNat.ofNat UInt8 (nat_lit 161) (@UInt8.instOfNat (nat_lit 161))) :: (@OfNat.ofNat UInt8 (nat_lit 162) (@UInt8.instOfNat (nat_lit 162))) :: (@OfNat.ofNat UInt8 (nat_lit 163) (@UInt8.instOfNat (nat_lit 163))) :: (@OfNat.ofNat UInt8 (nat_lit 164) (@UInt8.instOfNat (nat_lit 164))) :: (@OfNat.ofNat UInt8 (nat_lit 165) (@UInt8.instOfNat (nat_lit 165))) :: (@OfNat.ofNat UInt8 (nat_lit 166) (@UInt8.instOfNat (nat_lit 166))) :: (@OfNat.ofNat UInt8 (nat_lit 167) (@UInt8.instOfNat (nat_lit 167))) :: (@OfNat.ofNat UInt8 (nat_lit 168) (@UInt8.instOfNat (nat_lit 168))) :: (@OfNat.ofNat UInt8 (nat_lit 169) (@UInt8.instOfNat (nat_lit 169))) :: (@OfNat.ofNat UInt8 (nat_lit 170) (@UInt8.instOfNat (nat_lit 170))) :: (@OfNat.ofNat UInt8 (nat_lit 171) (@UInt8.instOfNat (nat_lit 171))) :: (@OfNat.ofNat UInt8 (nat_lit 172) (@UInt8.instOfNat (nat_lit 172))) :: (@OfNat.ofNat UInt8 (nat_lit 173) (@UInt8.instOfNat (nat_lit 173))) :: (@OfNat.ofNat UInt8 (nat_lit 174) (@UInt8.instOfNat (nat_lit 174))) :: (@OfNat.ofNat UInt8 (nat_lit 175) (@UInt8.instOfNat (nat_lit 175))) :: (@OfNat.ofNat UInt8 (nat_lit 176) (@UInt8.instOfNat (nat_lit 176))) :: (@OfNat.ofNat UInt8 (nat_lit 177) (@UInt8.instOfNat (nat_lit 177))) :: (@OfNat.ofNat UInt8 (nat_lit 178) (@UInt8.instOfNat (nat_lit 178))) :: (@OfNat.ofNat UInt8 (nat_lit 179) (@UInt8.instOfNat (nat_lit 179))) :: (@OfNat.ofNat UInt8 (nat_lit 180) (@UInt8.instOfNat (nat_lit 180))) :: (@OfNat.ofNat UInt8 (nat_lit 181) (@UInt8.instOfNat (nat_lit 181))) :: (@OfNat.ofNat UInt8 (nat_lit 182) (@UInt8.instOfNat (nat_lit 182))) :: (@OfNat.ofNat UInt8 (nat_lit 183) (@UInt8.instOfNat (nat_lit 183))) :: (@OfNat.ofNat UInt8 (nat_lit 184) (@UInt8.instOfNat (nat_lit 184))) :: (@OfNat.ofNat UInt8 (nat_lit 185) (@UInt8.instOfNat (nat_lit 185))) :: (@OfNat.ofNat UInt8 (nat_lit 186) (@UInt8.instOfNat (nat_lit 186))) :: (@OfNat.ofNat UInt8 (nat_lit 187) (@UInt8.instOfNat (nat_lit 187))) :: (@OfNat.ofNat UInt8 (nat_lit 188) (@UInt8.instOfNat (nat_lit 188))) :: (@OfNat.ofNat UInt8 (nat_lit 189) (@UInt8.instOfNat (nat_lit 189))) :: (@OfNat.ofNat UInt8 (nat_lit 190) (@UInt8.instOfNat (nat_lit 190))) :: (@OfNat.ofNat UInt8 (nat_lit 191) (@UInt8.instOfNat (nat_lit 191))) :: (@OfNat.ofNat UInt8 (nat_lit 192) (@UInt8.instOfNat (nat_lit 192))) :: (@OfNat.ofNat UInt8 (nat_lit 193) (@UInt8.instOfNat (nat_lit 193))) :: (@OfNat.ofNat UInt8 (nat_lit 194) (@UInt8.instOfNat (nat_lit 194))) :: (@OfNat.ofNat UInt8 (nat_lit 195) (@UInt8.instOfNat (nat_lit 195))) :: (@OfNat.ofNat UInt8 (nat_lit 196) (@UInt8.instOfNat (nat_lit 196))) :: (@OfNat.ofNat UInt8 (nat_lit 197) (@UInt8.instOfNat (nat_lit 197))) :: (@OfNat.ofNat UInt8 (nat_lit 198) (@UInt8.instOfNat (nat_lit 198))) :: (@OfNat.ofNat UInt8 (nat_lit 199) (@UInt8.instOfNat (nat_lit 199))) :: (@OfNat.ofNat UInt8 (nat_lit 200) (@UInt8.instOfNat (nat_lit 200))) :: (@OfNat.ofNat UInt8 (nat_lit 201) (@UInt8.instOfNat (nat_lit 201))) :: (@OfNat.ofNat UInt8 (nat_lit 202) (@UInt8.instOfNat (nat_lit 202))) :: (@OfNat.ofNat UInt8 (nat_lit 203) (@UInt8.instOfNat (nat_lit 203))) :: (@OfNat.ofNat UInt8 (nat_lit 204) (@UInt8.instOfNat (nat_lit 204))) :: (@OfNat.ofNat UInt8 (nat_lit 205) (@UInt8.instOfNat (nat_lit 205))) :: (@OfNat.ofNat UInt8 (nat_lit 206) (@UInt8.instOfNat (nat_lit 206))) :: (@OfNat.ofNat UInt8 (nat_lit 207) (@UInt8.instOfNat (nat_lit 207))) :: (@OfNat.ofNat UInt8 (nat_lit 208) (@UInt8.instOfNat (nat_lit 208))) :: (@OfNat.ofNat UInt8 (nat_lit 209) (@UInt8.instOfNat (nat_lit 209))) :: (@OfNat.ofNat UInt8 (nat_lit 210) (@UInt8.instOfNat (nat_lit 210))) :: (@OfNat.ofNat UInt8 (nat_lit 211) (@UInt8.instOfNat (nat_lit 211))) :: (@OfNat.ofNat UInt8 (nat_lit 212) (@UInt8.instOfNat (nat_lit 212))) :: (@OfNat.ofNat UInt8 (nat_lit 213) (@UInt8.instOfNat (nat_lit 213))) :: (@OfNat.ofNat UInt8 (nat_lit 214) (@UInt8.instOfNat (nat_lit 214))) :: (@OfNat.ofNat UInt8 (nat_lit 215) (@UInt8.instOfNat (nat_lit 215))) :: (@OfNat.ofNat UInt8 (nat_lit 216) (@UInt8.instOfNat (nat_lit 216))) :: (@OfNat.ofNat UInt8 (nat_lit 217) (@UInt8.instOfNat (nat_lit 217))) :: (@OfNat.ofNat UInt8 (nat_lit 218) (@UInt8.instOfNat (nat_lit 218))) :: (@OfNat.ofNat UInt8 (nat_lit 219) (@UInt8.instOfNat (nat_lit 219))) :: (@OfNat.ofNat UInt8 (nat_lit 220) (@UInt8.instOfNat (nat_lit 220))) :: (@OfNat.ofNat UInt8 (nat_lit 221) (@UInt8.instOfNat (nat_lit 221))) :: (@OfNat.ofNat UInt8 (nat_lit 222) (@UInt8.instOfNat (nat_lit 222))) :: (@OfNat.ofNat UInt8 (nat_lit 223) (@UInt8.instOfNat (nat_lit 223))) :: (@OfNat.ofNat UInt8 (nat_lit 224) (@UInt8.instOfNat (nat_lit 224))) :: (@OfNat.ofNat UInt8 (nat_lit 225) (@UInt8.instOfNat (nat_lit 225))) :: (@OfNat.ofNat UInt8 (nat_lit 226) (@UInt8.instOfNat (nat_lit 226))) :: (@OfNat.ofNat UInt8 (nat_lit 227) (@UInt8.instOfNat (nat_lit 227))) :: (@OfNat.ofNat UInt8 (nat_lit 228) (@UInt8.instOfNat (nat_lit 228))) :: (@OfNat.ofNat UInt8 (nat_lit 229) (@UInt8.instOfNat (nat_lit 229))) :: (@OfNat.ofNat UInt8 (nat_lit 230) (@UInt8.instOfNat (nat_lit 230))) :: (@OfNat.ofNat UInt8 (nat_lit 231) (@UInt8.instOfNat (nat_lit 231))) :: (@OfNat.ofNat UInt8 (nat_lit 232) (@UInt8.instOfNat (nat_lit 232))) :: (@OfNat.ofNat UInt8 (nat_lit 233) (@UInt8.instOfNat (nat_lit 233))) :: (@OfNat.ofNat UInt8 (nat_lit 234) (@UInt8.instOfNat (nat_lit 234))) :: (@OfNat.ofNat UInt8 (nat_lit 235) (@UInt8.instOfNat (nat_lit 235))) :: (@OfNat.ofNat UInt8 (nat_lit 236) (@UInt8.instOfNat (nat_lit 236))) :: (@OfNat.ofNat UInt8 (nat_lit 237) (@UInt8.instOfNat (nat_lit 237))) :: (@OfNat.ofNat UInt8 (nat_lit 238) (@UInt8.instOfNat (nat_lit 238))) :: (@OfNat.ofNat UInt8 (nat_lit 239) (@UInt8.instOfNat (nat_lit 239))) :: (@OfNat.ofNat UInt8 (nat_lit 240) (@UInt8.instOfNat (nat_lit 240))) :: (@OfNat.ofNat UInt8 (nat_lit 241) (@UInt8.instOfNat (nat_lit 241))) :: (@OfNat.ofNat UInt8 (nat_lit 242) (@UInt8.instOfNat (nat_lit 242))) :: (@OfNat.ofNat UInt8 (nat_lit 243) (@UInt8.instOfNat (nat_lit 243))) :: (@OfNat.ofNat UInt8 (nat_lit 244) (@UInt8.instOfNat (nat_lit 244))) :: (@OfNat.ofNat UInt8 (nat_lit 245) (@UInt8.instOfNat (nat_lit 245))) :: (@OfNat.ofNat UInt8 (nat_lit 246) (@UInt8.instOfNat (nat_lit 246))) :: (@OfNat.ofNat UInt8 (nat_lit 247) (@UInt8.instOfNat (nat_lit 247))) :: (@OfNat.ofNat UInt8 (nat_lit 248) (@UInt8.instOfNat (nat_lit 248))) :: (@OfNat.ofNat UInt8 (nat_lit 249) (@UInt8.instOfNat (nat_lit 249))) :: (@OfNat.ofNat UInt8 (nat_lit 250) (@UInt8.instOfNat (nat_lit 250))) :: (@OfNat.ofNat UInt8 (nat_lit 251) (@UInt8.instOfNat (nat_lit 251))) :: (@OfNat.ofNat UInt8 (nat_lit 252) (@UInt8.instOfNat (nat_lit 252))) :: (@OfNat.ofNat UInt8 (nat_lit 253) (@UInt8.instOfNat (nat_lit 253))) :: (@OfNat.ofNat UInt8 (nat_lit 254) (@UInt8.instOfNat (nat_lit 254))) :: (@OfNat.ofNat UInt8 (nat_lit 255) (@UInt8.instOfNat (nat_lit 255))) :: [])) 613)), (DictEntry.mk (PyData.keyHash P (Str.ofString "urlsafe_b64encode")) (Value.str (Str.ofString "urlsafe_b64encode") 621) (Value.ref 244)), (DictEntry.mk (PyData.keyHash P (Str.ofString "urlsafe_b64decode")) (Value.str (Str.ofString "urlsafe_b64decode") 628) (Value.ref 251)), (DictEntry.mk (PyData.keyHash P (Str.ofString "b16encode")) (Value.str (Str.ofString "b16encode") 635) (Value.ref 258)), (DictEntry.mk (PyData.keyHash P (Str.ofString "b16decode")) (Value.str (Str.ofString "b16decode") 643) (Value.ref 266)), (DictEntry.mk (PyData.keyHash P (Str.ofString "cmp_to_key")) (Value.str (Str.ofString "cmp_to_key") 654) (Value.ref 273)), (DictEntry.mk (PyData.keyHash P (Str.ofString "_initial_missing")) (Value.str (Str.ofString "_initial_missing") 655) (Value.ref 274)), (DictEntry.mk (PyData.keyHash P (Str.ofString "reduce")) (Value.str (Str.ofString "reduce") 667) (Value.ref 282)), (DictEntry.mk (PyData.keyHash P (Str.ofString "_law_row")) (Value.str (Str.ofString "_law_row") 675) (Value.ref 287)), (DictEntry.mk (PyData.keyHash P (Str.ofString "_law_module")) (Value.str (Str.ofString "_law_module") 681) (Value.ref 292)), (DictEntry.mk (PyData.keyHash P (Str.ofString "_law_plain")) (Value.str (Str.ofString "_law_plain") 687) (Value.ref 297)), (DictEntry.mk (PyData.keyHash P (Str.ofString "_law_sixes")) (Value.str (Str.ofString "_law_sixes") 693) (Value.ref 302)), (DictEntry.mk (PyData.keyHash P (Str.ofString "_law_rising")) (Value.str (Str.ofString "_law_rising") 699) (Value.ref 307)), (DictEntry.mk (PyData.keyHash P (Str.ofString "law")) (Value.str (Str.ofString "law") 705) (Value.ref 312))]) 56) (@List.toArray (Option Value) []))) ::
    (nat_lit 37, (Obj.mk (Value.type "code") (@Option.none Nat) (Data.fields (@List.toArray Value [(Value.str (Str.ofString "_wall") 282), (Value.str (Str.ofString "_wall") 283), (Value.str (Str.ofString "/claim/cut.py") 284), (Value.int (2 : Int) 0), (Value.int (1 : Int) 0), (Value.int (0 : Int) 0), (Value.int (0 : Int) 0), (Value.int (3 : Int) 0), (Value.ref 32), (Value.bool Bool.true), (Value.int (276 : Int) 0), (Value.ref 33), Value.none, (Value.ref 34), (Value.ref 35), (Value.ref 36), (Value.int (286 : Int) 0), (Value.int (2 : Int) 0), (Value.str (Str.ofString "/claim/cut.py") 287)])) (@List.toArray (Option Value) []))) ::
    (nat_lit 38, (Obj.mk (Value.type "function") (@Option.none Nat) (Data.func (FuncData.mk (Str.ofString "_wall") (Str.ofString "_wall") a0 (FuncBody.stmts b0) c0 3 [] Value.none Value.none Value.none (Value.str (Str.ofString "__main__") 164) (@Option.none Nat) (Value.ref 37) Value.none 0)) (@List.toArray (Option Value) []))) ::
    (nat_lit 44, (Obj.mk (Value.type "code") (@Option.none Nat) (Data.fields (@List.toArray Value [(Value.str (Str.ofString "_kind") 293), (Value.str (Str.ofString "_kind") 294), (Value.str (Str.ofString "/claim/cut.py") 295), (Value.int (7 : Int) 0), (Value.int (2 : Int) 0), (Value.int (0 : Int) 0), (Value.int (0 : Int) 0), (Value.int (3 : Int) 0), (Value.ref 39), (Value.bool Bool.true), (Value.int (276 : Int) 0), (Value.ref 40), Value.none, (Value.ref 41), (Value.ref 42), (Value.ref 43), (Value.int (299 : Int) 0), (Value.int (7 : Int) 0), (Value.str (Str.ofString "/claim/cut.py") 300)])) (@List.toArray (Option Value) []))) ::
    (nat_lit 45, (Obj.mk (Value.type "function") (@Option.none Nat) (Data.func (FuncData.mk (Str.ofString "_kind") (Str.ofString "_kind") a1 (FuncBody.stmts b1) c1 3 [] Value.none Value.none Value.none (Value.str (Str.ofString "os.path") 291) (@Option.none Nat) (Value.ref 44) Value.none 0)) (@List.toArray (Option Value) []))) ::
    (nat_lit 51, (Obj.mk (Value.type "code") (@Option.none Nat) (Data.fields (@List.toArray Value [(Value.str (Str.ofString "_fspath") 302), (Value.str (Str.ofString "_fspath") 303), (Value.str (Str.ofString "/claim/cut.py") 304), (Value.int (28 : Int) 0), (Value.int (2 : Int) 0), (Value.int (0 : Int) 0), (Value.int (0 : Int) 0), (Value.int (3 : Int) 0), (Value.ref 46), (Value.bool Bool.true), (Value.int (276 : Int) 0), (Value.ref 47), Value.none, (Value.ref 48), (Value.ref 49), (Value.ref 50), (Value.int (308 : Int) 0), (Value.int (28 : Int) 0), (Value.str (Str.ofString "/claim/cut.py") 309)])) (@List.toArray (Option Value) []))) ::
    (nat_lit 52, (Obj.mk (Value.type "function") (@Option.none Nat) (Data.func (FuncData.mk (Str.ofString "_fspath") (Str.ofString "_fspath") a2 (FuncBody.stmts b2) c2 3 [] Value.none Value.none Value.none (Value.str (Str.ofString "os.path") 291) (@Option.none Nat) (Value.ref 51) Value.none 0)) (@List.toArray (Option Value) []))) ::
    (nat_lit 58, (Obj.mk (Value.type "code") (@Option.none Nat) (Data.fields (@List.toArray Value [(Value.str (Str.ofString "splitext") 311), (Value.str (Str.ofString "splitext") 312), (Value.str (Str.ofString "/claim/cut.py") 313), (Value.int (33 : Int) 0), (Value.int (1 : Int) 0), (Value.int (0 : Int) 0), (Value.int (0 : Int) 0), (Value.int (3 : Int) 0), (Value.ref 53), (Value.bool Bool.true), (Value.int (276 : Int) 0), (Value.ref 54), Value.none, (Value.ref 55), (Value.ref 56), (Value.ref 57), (Value.int (320 : Int) 0), (Value.int (33 : Int) 0), (Value.str (Str.ofString "/claim/cut.py") 321)])) (@List.toArray (Option Value) []))) ::
    (nat_lit 59, (Obj.mk (Value.type "function") (@Option.none Nat) (Data.func (FuncData.mk (Str.ofString "splitext") (Str.ofString "splitext") a3 (FuncBody.stmts b3) c3 3 [] Value.none Value.none Value.none (Value.str (Str.ofString "os.path") 291) (@Option.none Nat) (Value.ref 58) Value.none 0)) (@List.toArray (Option Value) []))) ::
    (nat_lit 65, (Obj.mk (Value.type "code") (@Option.none Nat) (Data.fields (@List.toArray Value [(Value.str (Str.ofString "_c_path") 323), (Value.str (Str.ofString "_c_path") 324), (Value.str (Str.ofString "/claim/cut.py") 325), (Value.int (46 : Int) 0), (Value.int (5 : Int) 0), (Value.int (0 : Int) 0), (Value.int (0 : Int) 0), (Value.int (3 : Int) 0), (Value.ref 60), (Value.bool Bool.true), (Value.int (276 : Int) 0), (Value.ref 61), Value.none, (Value.ref 62), (Value.ref 63), (Value.ref 64), (Value.int (333 : Int) 0), (Value.int (46 : Int) 0), (Value.str (Str.ofString "/claim/cut.py") 334)])) (@List.toArray (Option Value) []))) ::
    (nat_lit 66, (Obj.mk (Value.type "function") (@Option.none Nat) (Data.func (FuncData.mk (Str.ofString "_c_path") (Str.ofString "_c_path") a4 (FuncBody.stmts b4) c4 3 [] Value.none Value.none Value.none (Value.str (Str.ofString "os.path") 291) (@Option.none Nat) (Value.ref 65) Value.none 0)) (@List.toArray (Option Value) []))) ::
    (nat_lit 72, (Obj.mk (Value.type "code") (@Option.none Nat) (Data.fields (@List.toArray Value [(Value.str (Str.ofString "_splitroot") 336), (Value.str (Str.ofString "_splitroot") 337), (Value.str (Str.ofString "/claim/cut.py") 338), (Value.int (57 : Int) 0), (Value.int (1 : Int) 0), (Value.int (0 : Int) 0), (Value.int (0 : Int) 0), (Value.int (3 : Int) 0), (Value.ref 67), (Value.bool Bool.true), (Value.int (276 : Int) 0), (Value.ref 68), Value.none, (Value.ref 69), (Value.ref 70), (Value.ref 71), (Value.int (342 : Int) 0), (Value.int (57 : Int) 0), (Value.str (Str.ofString "/claim/cut.py") 343)])) (@List.toArray (Option Value) []))) ::
    (nat_lit 73, (Obj.mk (Value.type "function") (@Option.none Nat) (Data.func (FuncData.mk (Str.ofString "_splitroot") (Str.ofString "_splitroot") a5 (FuncBody.stmts b5) c5 3 [] Value.none Value.none Value.none (Value.str (Str.ofString "os.path") 291) (@Option.none Nat) (Value.ref 72) Value.none 0)) (@List.toArray (Option Value) []))) ::
    (nat_lit 79, (Obj.mk (Value.type "code") (@Option.none Nat) (Data.fields (@List.toArray Value [(Value.str (Str.ofString "basename") 345), (Value.str (Str.ofString "basename") 346), (Value.str (Str.ofString "/claim/cut.py") 347), (Value.int (66 : Int) 0), (Value.int (1 : Int) 0), (Value.int (0 : Int) 0), (Value.int (0 : Int) 0), (Value.int (3 : Int) 0), (Value.ref 74), (Value.bool Bool.true), (Value.int (276 : Int) 0), (Value.ref 75), Value.none, (Value.ref 76), (Value.ref 77), (Value.ref 78), (Value.int (350 : Int) 0), (Value.int (66 : Int) 0), (Value.str (Str.ofString "/claim/cut.py") 351)])) (@List.toArray (Option Value) []))) ::
    (nat_lit 80, (Obj.mk (Value.type "function") (@Option.none Nat) (Data.func (FuncData.mk (Str.ofString "basename") (Str.ofString "basename") a6 (FuncBody.stmts b6) c6 3 [] Value.none Value.none Value.none (Value.str (Str.ofString "os.path") 291) (@Option.none Nat) (Value.ref 79) Value.none 0)) (@List.toArray (Option Value) []))) ::
    (nat_lit 86, (Obj.mk (Value.type "code") (@Option.none Nat) (Data.fields (@List.toArray Value [(Value.str (Str.ofString "_normpath") 353), (Value.str (Str.ofString "_normpath") 354), (Value.str (Str.ofString "/claim/cut.py") 355), (Value.int (70 : Int) 0), (Value.int (1 : Int) 0), (Value.int (0 : Int) 0), (Value.int (0 : Int) 0), (Value.int (3 : Int) 0), (Value.ref 81), (Value.bool Bool.true), (Value.int (276 : Int) 0), (Value.ref 82), Value.none, (Value.ref 83), (Value.ref 84), (Value.ref 85), (Value.int (365 : Int) 0), (Value.int (70 : Int) 0), (Value.str (Str.ofString "/claim/cut.py") 366)])) (@List.toArray (Option Value) []))) ::
    (nat_lit 87, (Obj.mk (Value.type "function") (@Option.none Nat) (Data.func (FuncData.mk (Str.ofString "_normpath") (Str.ofString "_normpath") a7 (FuncBody.stmts b7) c7 3 [] Value.none Value.none Value.none (Value.str (Str.ofString "os.path") 291) (@Option.none Nat) (Value.ref 86) Value.none 0)) (@List.toArray (Option Value) []))) ::
    (nat_lit 93, (Obj.mk (Value.type "code") (@Option.none Nat) (Data.fields (@List.toArray Value [(Value.str (Str.ofString "normpath") 368), (Value.str (Str.ofString "normpath") 369), (Value.str (Str.ofString "/claim/cut.py") 370), (Value.int (89 : Int) 0), (Value.int (0 : Int) 0), (Value.int (0 : Int) 0), (Value.int (0 : Int) 0), (Value.int (15 : Int) 0), (Value.ref 88), (Value.bool Bool.true), (Value.int (276 : Int) 0), (Value.ref 89), Value.none, (Value.ref 90), (Value.ref 91), (Value.ref 92), (Value.int (373 : Int) 0), (Value.int (89 : Int) 0), (Value.str (Str.ofString "/claim/cut.py") 374)])) (@List.toArray (Option Value) []))) ::
    (nat_lit 94, (Obj.mk (Value.type "function") (@Option.none Nat) (Data.func (FuncData.mk (Str.ofString "normpath") (Str.ofString "normpath") a8 (FuncBody.stmts b8) c8 3 [] Value.none Value.none Value.none (Value.str (Str.ofString "os.path") 291) (@Option.none Nat) (Value.ref 93) Value.none 0)) (@List.toArray (Option Value) []))) ::
    (nat_lit 102, (Obj.mk (Value.type "tuple") (@Option.none Nat) (Data.seq (@List.toArray Value [Value.none, Value.none]) 0) (@List.toArray (Option Value) []))) ::
    (nat_lit 106, (Obj.mk (Value.type "code") (@Option.none Nat) (Data.fields (@List.toArray Value [(Value.str (Str.ofString "__init__") 390), (Value.str (Str.ofString "_Ignore.__init__") 391), (Value.str (Str.ofString "/claim/cut.py") 392), (Value.int (94 : Int) 0), (Value.int (3 : Int) 0), (Value.int (0 : Int) 0), (Value.int (0 : Int) 0), (Value.int (3 : Int) 0), (Value.ref 103), (Value.bool Bool.true), (Value.int (276 : Int) 0), (Value.ref 104), Value.none, Value.none, Value.none, (Value.ref 105), (Value.int (393 : Int) 0), (Value.int (94 : Int) 0), (Value.str (Str.ofString "/claim/cut.py") 394)])) (@List.toArray (Option Value) []))) ::
    (nat_lit 107, (Obj.mk (Value.type "function") (@Option.none Nat) (Data.func (FuncData.mk (Str.ofString "__init__") (Str.ofString "_Ignore.__init__") a9 (FuncBody.stmts b9) c9 3 [] (Value.ref 102) Value.none Value.none (Value.str (Str.ofString "cpy313.trace") 376) (@Option.none Nat) (Value.ref 106) Value.none 0)) (@List.toArray (Option Value) []))) ::
    (nat_lit 113, (Obj.mk (Value.type "code") (@Option.none Nat) (Data.fields (@List.toArray Value [(Value.str (Str.ofString "names") 396), (Value.str (Str.ofString "_Ignore.names") 397), (Value.str (Str.ofString "/claim/cut.py") 398), (Value.int (99 : Int) 0), (Value.int (3 : Int) 0), (Value.int (0 : Int) 0), (Value.int (0 : Int) 0), (Value.int (3 : Int) 0), (Value.ref 108), (Value.bool Bool.true), (Value.int (276 : Int) 0), (Value.ref 109), Value.none, (Value.ref 110), (Value.ref 111), (Value.ref 112), (Value.int (404 : Int) 0), (Value.int (99 : Int) 0), (Value.str (Str.ofString "/claim/cut.py") 405)])) (@List.toArray (Option Value) []))) ::
    (nat_lit 114, (Obj.mk (Value.type "function") (@Option.none Nat) (Data.func (FuncData.mk (Str.ofString "names") (Str.ofString "_Ignore.names") a10 (FuncBody.stmts b10) c10 3 [] Value.none Value.none Value.none (Value.str (Str.ofString "cpy313.trace") 376) (@Option.none Nat) (Value.ref 113) Value.none 0)) (@List.toArray (Option Value) []))) ::
    (nat_lit 116, (Obj.mk (Value.type "dict") (@Option.none Nat) (Data.dict (@List.toArray DictEntry [(DictEntry.mk (PyData.keyHash P (Str.ofString "__module__")) (Value.str (Str.ofString "__module__") 385) (Value.str (Str.ofString "cpy313.trace") 376)), (DictEntry.mk (PyData.keyHash P (Str.ofString "__firstlineno__")) (Value.str (Str.ofString "__firstlineno__") 389) (Value.int (92 : Int) 388)), (DictEntry.mk (PyData.keyHash P (Str.ofString "__init__")) (Value.str (Str.ofString "__init__") 395) (Value.ref 107)), (DictEntry.mk (PyData.keyHash P (Str.ofString "names")) (Value.str (Str.ofString "names") 406) (Value.ref 114)), (DictEntry.mk (PyData.keyHash P (Str.ofString "__static_attributes__")) (Value.str (Str.ofString "__static_attributes__") 410) (Value.ref 115)), (DictEntry.mk (PyData.keyHash P (Str.ofString "__dict__")) (Value.str (Str.ofString "__dict__") 412) (Value.ref 118)), (DictEntry.mk (PyData.keyHash P (Str.ofString "__weakref__")) (Value.str (Str.ofString "__weakref__") 414) (Value.ref 119)), (DictEntry.mk (PyData.keyHash P (Str.ofString "__doc__")) (Value.str (Str.ofString "__doc__") 415) Value.none)]) 4) (@List.toArray (Option Value) []))) ::
    (nat_lit 117, (Obj.mk (Value.type "type") (@Option.none Nat) (Data.cls (ClassData.mk (Str.ofString "_Ignore") [(Value.type "object")] [(Value.ref 117), (Value.type "object")] 116 (Str.ofString "_Ignore") Bool.true [] [] Bool.false (@Option.none Bool) Bool.false)) (@List.toArray (Option Value) [(@Option.none Value), (@Option.none Value), (@Option.some Value (Value.str (Str.ofString "_Ignore") 378)), (@Option.some Value (Value.str (Str.ofString "_Ignore") 386)), (@Option.some Value (Value.builtin "object.__new__")), (@Option.some Value (Value.bool Bool.true))]))) ::
    (nat_lit 118, (Obj.mk (Value.type "getset_descriptor") (@Option.none Nat) (Data.fields (@List.toArray Value [(Value.str (Str.ofString "__dict__") 411), (Value.ref 117), (Value.builtin "function.__dict__"), (Value.builtin "function.__dict__#set")])) (@List.toArray (Option Value) []))) ::
    (nat_lit 119, (Obj.mk (Value.type "getset_descriptor") (@Option.none Nat) (Data.fields (@List.toArray Value [(Value.str (Str.ofString "__weakref__") 413), (Value.ref 117), (Value.builtin "ExceptionGroup.__weakref__"), Value.none])) (@List.toArray (Option Value) []))) ::
    (nat_lit 127, (Obj.mk (Value.type "code") (@Option.none Nat) (Data.fields (@List.toArray Value [(Value.str (Str.ofString "_modname") 418), (Value.str (Str.ofString "_modname") 419), (Value.str (Str.ofString "/claim/cut.py") 420), (Value.int (118 : Int) 0), (Value.int (1 : Int) 0), (Value.int (0 : Int) 0), (Value.int (0 : Int) 0), (Value.int (3 : Int) 0), (Value.ref 122), (Value.bool Bool.true), (Value.int (276 : Int) 0), (Value.ref 123), Value.none, (Value.ref 124), (Value.ref 125), (Value.ref 126), (Value.int (425 : Int) 0), (Value.int (118 : Int) 0), (Value.str (Str.ofString "/claim/cut.py") 426)])) (@List.toArray (Option Value) []))) ::
    (nat_lit 128, (Obj.mk (Value.type "function") (@Option.none Nat) (Data.func (FuncData.mk (Str.ofString "_modname") (Str.ofString "_modname") a11 (FuncBody.stmts b11) c11 3 [] Value.none Value.none Value.none (Value.str (Str.ofString "cpy313.trace") 376) (@Option.none Nat) (Value.ref 127) Value.none 0)) (@List.toArray (Option Value) []))) ::
    (nat_lit 132, (Obj.mk (Value.type "tuple") (@Option.none Nat) (Data.seq (@List.toArray Value [(Value.int (14 : Int) 0), (Value.int (12 : Int) 0), (Value.int (4 : Int) 0), (Value.int (1 : Int) 0), (Value.int (1 : Int) 0), (Value.int (21 : Int) 0), (Value.int (22 : Int) 0), (Value.int (48 : Int) 0), (Value.int (57 : Int) 0), (Value.int (22 : Int) 0), (Value.int (65 : Int) 0), (Value.int (70 : Int) 0), (Value.int (0 : Int) 0), (Value.int (13 : Int) 0), (Value.int (9 : Int) 0), (Value.int (21 : Int) 0), (Value.int (22 : Int) 0), (Value.int (48 : Int) 0), (Value.int (57 : Int) 0), (Value.int (22 : Int) 0), (Value.int (65 : Int) 0), (Value.int (70 : Int) 0), (Value.int (0 : Int) 0), (Value.int (1 : Int) 0)]) 0) (@List.toArray (Option Value) []))) ::
    (nat_lit 133, (Obj.mk (Value.type "re.Pattern") (@Option.none Nat) (Data.fields (@List.toArray Value [(Value.bytes (@List.toArray UInt8 [(@OfNat.ofNat UInt8 (nat_lit 91) (@UInt8.instOfNat (nat_lit 91))), (@OfNat.ofNat UInt8 (nat_lit 94) (@UInt8.instOfNat (nat_lit 94))), (@OfNat.ofNat UInt8 (nat_lit 48) (@UInt8.instOfNat (nat_lit 48))), (@OfNat.ofNat UInt8 (nat_lit 45) (@UInt8.instOfNat (nat_lit 45))), (@OfNat.ofNat UInt8 (nat_lit 57) (@UInt8.instOfNat (nat_lit 57))), (@OfNat.ofNat UInt8 (nat_lit 65) (@UInt8.instOfNat (nat_lit 65))), (@OfNat.ofNat UInt8 (nat_lit 45) (@UInt8.instOfNat (nat_lit 45))), (@OfNat.ofNat UInt8 (nat_lit 70) (@UInt8.instOfNat (nat_lit 70))), (@OfNat.ofNat UInt8 (nat_lit 93) (@UInt8.instOfNat (nat_lit 93)))]) 431), (Value.int (0 : Int) 458), (Value.int (0 : Int) 0), Value.none, Value.none, (Value.ref 132), (Value.int (1 : Int) 0)])) (@List.toArray (Option Value) []))) ::
    (nat_lit 134, (Obj.mk (Value.type "tuple") (@Option.none Nat) (Data.seq (@List.toArray Value [(Value.type "bytes"), (Value.type "bytearray")]) 0) (@List.toArray (Option Value) []))) ::
    (nat_lit 135, (Obj.mk (Value.type "tuple") (@Option.none Nat) (Data.seq (@List.toArray Value []) 0) (@List.toArray (Option Value) []))) ::
    (nat_lit 140, (Obj.mk (Value.type "code") (@Option.none Nat) (Data.fields (@List.toArray Value [(Value.str (Str.ofString "_bytes_from_decode_data") 461), (Value.str (Str.ofString "_bytes_from_decode_data") 462), (Value.str (Str.ofString "/claim/cut.py") 463), (Value.int (125 : Int) 0), (Value.int (1 : Int) 0), (Value.int (0 : Int) 0), (Value.int (0 : Int) 0), (Value.int (3 : Int) 0), (Value.ref 135), (Value.bool Bool.true), (Value.int (276 : Int) 0), (Value.ref 136), Value.none, (Value.ref 137), (Value.ref 138), (Value.ref 139), (Value.int (465 : Int) 0), (Value.int (125 : Int) 0), (Value.str (Str.ofString "/claim/cut.py") 466)])) (@List.toArray (Option Value) []))) ::
    (nat_lit 141, (Obj.mk (Value.type "function") (@Option.none Nat) (Data.func (FuncData.mk (Str.ofString "_bytes_from_decode_data") (Str.ofString "_bytes_from_decode_data") a12 (FuncBody.stmts b12) c12 3 [] Value.none Value.none Value.none (Value.str (Str.ofString "cpy313.base64") 428) (@Option.none Nat) (Value.ref 140) Value.none 0)) (@List.toArray (Option Value) []))) ::
    (nat_lit 150, (Obj.mk (Value.type "dict") (@Option.none Nat) (Data.dict (@List.toArray DictEntry [(DictEntry.mk (PyData.keyHash P (Str.ofString "__module__")) (Value.str (Str.ofString "__module__") 477) (Value.str (Str.ofString "binascii") 468)), (DictEntry.mk (PyData.keyHash P (Str.ofString "__firstlineno__")) (Value.str (Str.ofString "__firstlineno__") 481) (Value.int (138 : Int) 480)), (DictEntry.mk (PyData.keyHash P (Str.ofString "__static_attributes__")) (Value.str (Str.ofString "__static_attributes__") 482) (Value.ref 149)), (DictEntry.mk (PyData.keyHash P (Str.ofString "__weakref__")) (Value.str (Str.ofString "__weakref__") 484) (Value.ref 152)), (DictEntry.mk (PyData.keyHash P (Str.ofString "__doc__")) (Value.str (Str.ofString "__doc__") 485) Value.none)]) 3) (@List.toArray (Option Value) []))) ::
    (nat_lit 151, (Obj.mk (Value.type "type") (@Option.none Nat) (Data.cls (ClassData.mk (Str.ofString "Error") [(Value.type "ValueError")] [(Value.ref 151), (Value.type "ValueError"), (Value.type "Exception"), (Value.type "BaseException"), (Value.type "object")] 150 (Str.ofString "Error") Bool.true [] [] Bool.false (@Option.none Bool) Bool.false)) (@List.toArray (Option Value) [(@Option.some Value (Value.ref 142)), (@Option.none Value), (@Option.some Value (Value.str (Str.ofString "Error") 470)), (@Option.some Value (Value.str (Str.ofString "Error") 478)), (@Option.some Value (Value.builtin "ValueError.__new__")), (@Option.some Value (Value.bool Bool.true))]))) ::
    (nat_lit 152, (Obj.mk (Value.type "getset_descriptor") (@Option.none Nat) (Data.fields (@List.toArray Value [(Value.str (Str.ofString "__weakref__") 483), (Value.ref 151), (Value.builtin "ExceptionGroup.__weakref__"), Value.none])) (@List.toArray (Option Value) []))) ::
    (nat_lit 160, (Obj.mk (Value.type "code") (@Option.none Nat) (Data.fields (@List.toArray Value [(Value.str (Str.ofString "_ascii_buffer") 488), (Value.str (Str.ofString "_ascii_buffer") 489), (Value.str (Str.ofString "/claim/cut.py") 490), (Value.int (140 : Int) 0), (Value.int (1 : Int) 0), (Value.int (0 : Int) 0), (Value.int (0 : Int) 0), (Value.int (3 : Int) 0), (Value.ref 155), (Value.bool Bool.true), (Value.int (276 : Int) 0), (Value.ref 156), Value.none, (Value.ref 157), (Value.ref 158), (Value.ref 159), (Value.int (493 : Int) 0), (Value.int (140 : Int) 0), (Value.str (Str.ofString "/claim/cut.py") 494)])) (@List.toArray (Option Value) []))) ::
    (nat_lit 161, (Obj.mk (Value.type "function") (@Option.none Nat) (Data.func (FuncData.mk (Str.ofString "_ascii_buffer") (Str.ofString "_ascii_buffer") a13 (FuncBody.stmts b13) c13 3 [] Value.none Value.none Value.none (Value.str (Str.ofString "binascii") 468) (@Option.none Nat) (Value.ref 160) Value.none 0)) (@List.toArray (Option Value) []))) ::
    (nat_lit 167, (Obj.mk (Value.type "code") (@Option.none Nat) (Data.fields (@List.toArray Value [(Value.str (Str.ofString "_buffer") 496), (Value.str (Str.ofString "_buffer") 497), (Value.str (Str.ofString "/claim/cut.py") 498), (Value.int (151 : Int) 0), (Value.int (1 : Int) 0), (Value.int (0 : Int) 0), (Value.int (0 : Int) 0), (Value.int (3 : Int) 0), (Value.ref 162), (Value.bool Bool.true), (Value.int (276 : Int) 0), (Value.ref 163), Value.none, (Value.ref 164), (Value.ref 165), (Value.ref 166), (Value.int (501 : Int) 0), (Value.int (151 : Int) 0), (Value.str (Str.ofString "/claim/cut.py") 502)])) (@List.toArray (Option Value) []))) ::
    (nat_lit 168, (Obj.mk (Value.type "function") (@Option.none Nat) (Data.func (FuncData.mk (Str.ofString "_buffer") (Str.ofString "_buffer") a14 (FuncBody.stmts b14) c14 3 [] Value.none Value.none Value.none (Value.str (Str.ofString "binascii") 468) (@Option.none Nat) (Value.ref 167) Value.none 0)) (@List.toArray (Option Value) []))) ::
    (nat_lit 174, (Obj.mk (Value.type "code") (@Option.none Nat) (Data.fields (@List.toArray Value [(Value.str (Str.ofString "_truth") 504), (Value.str (Str.ofString "_truth") 505), (Value.str (Str.ofString "/claim/cut.py") 506), (Value.int (158 : Int) 0), (Value.int (1 : Int) 0), (Value.int (0 : Int) 0), (Value.int (0 : Int) 0), (Value.int (3 : Int) 0), (Value.ref 169), (Value.bool Bool.true), (Value.int (276 : Int) 0), (Value.ref 170), Value.none, (Value.ref 171), (Value.ref 172), (Value.ref 173), (Value.int (509 : Int) 0), (Value.int (158 : Int) 0), (Value.str (Str.ofString "/claim/cut.py") 510)])) (@List.toArray (Option Value) []))) ::
    (nat_lit 175, (Obj.mk (Value.type "function") (@Option.none Nat) (Data.func (FuncData.mk (Str.ofString "_truth") (Str.ofString "_truth") a15 (FuncBody.stmts b15) c15 3 [] Value.none Value.none Value.none (Value.str (Str.ofString "binascii") 468) (@Option.none Nat) (Value.ref 174) Value.none 0)) (@List.toArray (Option Value) []))) ::
    (nat_lit 181, (Obj.mk (Value.type "code") (@Option.none Nat) (Data.fields (@List.toArray Value [(Value.str (Str.ofString "_b64_value") 514), (Value.str (Str.ofString "_b64_value") 515), (Value.str (Str.ofString "/claim/cut.py") 516), (Value.int (164 : Int) 0), (Value.int (1 : Int) 0), (Value.int (0 : Int) 0), (Value.int (0 : Int) 0), (Value.int (3 : Int) 0), (Value.ref 176), (Value.bool Bool.true), (Value.int (276 : Int) 0), (Value.ref 177), Value.none, (Value.ref 178), (Value.ref 179), (Value.ref 180), (Value.int (518 : Int) 0), (Value.int (164 : Int) 0), (Value.str (Str.ofString "/claim/cut.py") 519)])) (@List.toArray (Option Value) []))) ::
    (nat_lit 182, (Obj.mk (Value.type "function") (@Option.none Nat) (Data.func (FuncData.mk (Str.ofString "_b64_value") (Str.ofString "_b64_value") a16 (FuncBody.stmts b16) c16 3 [] Value.none Value.none Value.none (Value.str (Str.ofString "binascii") 468) (@Option.none Nat) (Value.ref 181) Value.none 0)) (@List.toArray (Option Value) []))) ::
    (nat_lit 183, (Obj.mk (Value.type "dict") (@Option.none Nat) (Data.dict (@List.toArray DictEntry [(DictEntry.mk (PyData.keyHash P (Str.ofString "strict_mode")) (Value.str (Str.ofString "strict_mode") 521) (Value.bool Bool.false))]) 1) (@List.toArray (Option Value) []))) ::
    (nat_lit 189, (Obj.mk (Value.type "code") (@Option.none Nat) (Data.fields (@List.toArray Value [(Value.str (Str.ofString "a2b_base64") 522), (Value.str (Str.ofString "a2b_base64") 523), (Value.str (Str.ofString "/claim/cut.py") 524), (Value.int (176 : Int) 0), (Value.int (1 : Int) 0), (Value.int (1 : Int) 0), (Value.int (1 : Int) 0), (Value.int (3 : Int) 0), (Value.ref 184), (Value.bool Bool.true), (Value.int (276 : Int) 0), (Value.ref 185), Value.none, (Value.ref 186), (Value.ref 187), (Value.ref 188), (Value.int (534 : Int) 0), (Value.int (176 : Int) 0), (Value.str (Str.ofString "/claim/cut.py") 535)])) (@List.toArray (Option Value) []))) ::
    (nat_lit 190, (Obj.mk (Value.type "function") (@Option.none Nat) (Data.func (FuncData.mk (Str.ofString "a2b_base64") (Str.ofString "a2b_base64") a17 (FuncBody.stmts b17) c17 3 [] Value.none (Value.ref 183) Value.none (Value.str (Str.ofString "binascii") 468) (@Option.none Nat) (Value.ref 189) Value.none 0)) (@List.toArray (Option Value) []))) ::
    (nat_lit 191, (Obj.mk (Value.type "dict") (@Option.none Nat) (Data.dict (@List.toArray DictEntry [(DictEntry.mk (PyData.keyHash P (Str.ofString "newline")) (Value.str (Str.ofString "newline") 537) (Value.bool Bool.true))]) 1) (@List.toArray (Option Value) []))) ::
    (nat_lit 197, (Obj.mk (Value.type "code") (@Option.none Nat) (Data.fields (@List.toArray Value [(Value.str (Str.ofString "b2a_base64") 538), (Value.str (Str.ofString "b2a_base64") 539), (Value.str (Str.ofString "/claim/cut.py") 540), (Value.int (230 : Int) 0), (Value.int (1 : Int) 0), (Value.int (1 : Int) 0), (Value.int (1 : Int) 0), (Value.int (3 : Int) 0), (Value.ref 192), (Value.bool Bool.true), (Value.int (276 : Int) 0), (Value.ref 193), Value.none, (Value.ref 194), (Value.ref 195), (Value.ref 196), (Value.int (548 : Int) 0), (Value.int (230 : Int) 0), (Value.str (Str.ofString "/claim/cut.py") 549)])) (@List.toArray (Option Value) []))) ::
    (nat_lit 198, (Obj.mk (Value.type "function") (@Option.none Nat) (Data.func (FuncData.mk (Str.ofString "b2a_base64") (Str.ofString "b2a_base64") a18 (FuncBody.stmts b18) c18 3 [] Value.none (Value.ref 191) Value.none (Value.str (Str.ofString "binascii") 468) (@Option.none Nat) (Value.ref 197) Value.none 0)) (@List.toArray (Option Value) []))) ::
    (nat_lit 199, (Obj.mk (Value.type "object") (@Option.none Nat) Data.plain (@List.toArray (Option Value) []))) ::
    (nat_lit 200, (Obj.mk (Value.type "tuple") (@Option.none Nat) (Data.seq (@List.toArray Value [(Value.ref 199), (Value.int (1 : Int) 552)]) 0) (@List.toArray (Option Value) []))) ::
    (nat_lit 206, (Obj.mk (Value.type "code") (@Option.none Nat) (Data.fields (@List.toArray Value [(Value.str (Str.ofString "b2a_hex") 553), (Value.str (Str.ofString "b2a_hex") 554), (Value.str (Str.ofString "/claim/cut.py") 555), (Value.int (253 : Int) 0), (Value.int (3 : Int) 0), (Value.int (0 : Int) 0), (Value.int (0 : Int) 0), (Value.int (3 : Int) 0), (Value.ref 201), (Value.bool Bool.true), (Value.int (276 : Int) 0), (Value.ref 202), Value.none, (Value.ref 203), (Value.ref 204), (Value.ref 205), (Value.int (560 : Int) 0), (Value.int (253 : Int) 0), (Value.str (Str.ofString "/claim/cut.py") 561)])) (@List.toArray (Option Value) []))) ::
    (nat_lit 207, (Obj.mk (Value.type "function") (@Option.none Nat) (Data.func (FuncData.mk (Str.ofString "b2a_hex") (Str.ofString "b2a_hex") a19 (FuncBody.stmts b19) c19 3 [] (Value.ref 200) Value.none Value.none (Value.str (Str.ofString "binascii") 468) (@Option.none Nat) (Value.ref 206) Value.none 0)) (@List.toArray (Option Value) []))) ::
    (nat_lit 213, (Obj.mk (Value.type "code") (@Option.none Nat) (Data.fields (@List.toArray Value [(Value.str (Str.ofString "_hex_value") 564), (Value.str (Str.ofString "_hex_value") 565), (Value.str (Str.ofString "/claim/cut.py") 566), (Value.int (270 : Int) 0), (Value.int (1 : Int) 0), (Value.int (0 : Int) 0), (Value.int (0 : Int) 0), (Value.int (3 : Int) 0), (Value.ref 208), (Value.bool Bool.true), (Value.int (276 : Int) 0), (Value.ref 209), Value.none, (Value.ref 210), (Value.ref 211), (Value.ref 212), (Value.int (568 : Int) 0), (Value.int (270 : Int) 0), (Value.str (Str.ofString "/claim/cut.py") 569)])) (@List.toArray (Option Value) []))) ::
    (nat_lit 214, (Obj.mk (Value.type "function") (@Option.none Nat) (Data.func (FuncData.mk (Str.ofString "_hex_value") (Str.ofString "_hex_value") a20 (FuncBody.stmts b20) c16 3 [] Value.none Value.none Value.none (Value.str (Str.ofString "binascii") 468) (@Option.none Nat) (Value.ref 213) Value.none 0)) (@List.toArray (Option Value) []))) ::
    (nat_lit 220, (Obj.mk (Value.type "code") (@Option.none Nat) (Data.fields (@List.toArray Value [(Value.str (Str.ofString "a2b_hex") 571), (Value.str (Str.ofString "a2b_hex") 572), (Value.str (Str.ofString "/claim/cut.py") 573), (Value.int (278 : Int) 0), (Value.int (1 : Int) 0), (Value.int (1 : Int) 0), (Value.int (0 : Int) 0), (Value.int (3 : Int) 0), (Value.ref 215), (Value.bool Bool.true), (Value.int (276 : Int) 0), (Value.ref 216), Value.none, (Value.ref 217), (Value.ref 218), (Value.ref 219), (Value.int (581 : Int) 0), (Value.int (278 : Int) 0), (Value.str (Str.ofString "/claim/cut.py") 582)])) (@List.toArray (Option Value) []))) ::
    (nat_lit 221, (Obj.mk (Value.type "function") (@Option.none Nat) (Data.func (FuncData.mk (Str.ofString "a2b_hex") (Str.ofString "a2b_hex") a21 (FuncBody.stmts b21) c21 3 [] Value.none Value.none Value.none (Value.str (Str.ofString "binascii") 468) (@Option.none Nat) (Value.ref 220) Value.none 0)) (@List.toArray (Option Value) []))) ::
    (nat_lit 222, (Obj.mk (Value.type "tuple") (@Option.none Nat) (Data.seq (@List.toArray Value [Value.none]) 0) (@List.toArray (Option Value) []))) ::
    (nat_lit 228, (Obj.mk (Value.type "code") (@Option.none Nat) (Data.fields (@List.toArray Value [(Value.str (Str.ofString "b64encode") 587), (Value.str (Str.ofString "b64encode") 588), (Value.str (Str.ofString "/claim/cut.py") 589), (Value.int (295 : Int) 0), (Value.int (2 : Int) 0), (Value.int (0 : Int) 0), (Value.int (0 : Int) 0), (Value.int (3 : Int) 0), (Value.ref 223), (Value.bool Bool.true), (Value.int (276 : Int) 0), (Value.ref 224), Value.none, (Value.ref 225), (Value.ref 226), (Value.ref 227), (Value.int (593 : Int) 0), (Value.int (295 : Int) 0), (Value.str (Str.ofString "/claim/cut.py") 594)])) (@List.toArray (Option Value) []))) ::
    (nat_lit 229, (Obj.mk (Value.type "function") (@Option.none Nat) (Data.func (FuncData.mk (Str.ofString "b64encode") (Str.ofString "b64encode") a22 (FuncBody.stmts b22) c22 3 [] (Value.ref 222) Value.none Value.none (Value.str (Str.ofString "cpy313.base64") 585) (@Option.none Nat) (Value.ref 228) Value.none 0)) (@List.toArray (Option Value) []))) ::
    (nat_lit 230, (Obj.mk (Value.type "tuple") (@Option.none Nat) (Data.seq (@List.toArray Value [Value.none, (Value.bool Bool.false)]) 0) (@List.toArray (Option Value) []))) ::
    (nat_lit 236, (Obj.mk (Value.type "code") (@Option.none Nat) (Data.fields (@List.toArray Value [(Value.str (Str.ofString "b64decode") 596), (Value.str (Str.ofString "b64decode") 597), (Value.str (Str.ofString "/claim/cut.py") 598), (Value.int (301 : Int) 0), (Value.int (3 : Int) 0), (Value.int (0 : Int) 0), (Value.int (0 : Int) 0), (Value.int (3 : Int) 0), (Value.ref 231), (Value.bool Bool.true), (Value.int (276 : Int) 0), (Value.ref 232), Value.none, (Value.ref 233), (Value.ref 234), (Value.ref 235), (Value.int (602 : Int) 0), (Value.int (301 : Int) 0), (Value.str (Str.ofString "/claim/cut.py") 603)])) (@List.toArray (Option Value) []))) ::
    (nat_lit 237, (Obj.mk (Value.type "function") (@Option.none Nat) (Data.func (FuncData.mk (Str.ofString "b64decode") (Str.ofString "b64decode") a23 (FuncBody.stmts b23) c23 3 [] (Value.ref 230) Value.none Value.none (Value.str (Str.ofString "cpy313.base64") 585) (@Option.none Nat) (Value.ref 236) Value.none 0)) (@List.toArray (Option Value) []))) ::
    (nat_lit 243, (Obj.mk (Value.type "code") (@Option.none Nat) (Data.fields (@List.toArray Value [(Value.str (Str.ofString "urlsafe_b64encode") 615), (Value.str (Str.ofString "urlsafe_b64encode") 616), (Value.str (Str.ofString "/claim/cut.py") 617), (Value.int (310 : Int) 0), (Value.int (1 : Int) 0), (Value.int (0 : Int) 0), (Value.int (0 : Int) 0), (Value.int (3 : Int) 0), (Value.ref 238), (Value.bool Bool.true), (Value.int (276 : Int) 0), (Value.ref 239), Value.none, (Value.ref 240), (Value.ref 241), (Value.ref 242), (Value.int (619 : Int) 0), (Value.int (310 : Int) 0), (Value.str (Str.ofString "/claim/cut.py") 620)])) (@List.toArray (Option Value) []))) ::
    (nat_lit 244, (Obj.mk (Value.type "function") (@Option.none Nat) (Data.func (FuncData.mk (Str.ofString "urlsafe_b64encode") (Str.ofString "urlsafe_b64encode") a24 (FuncBody.stmts b24) c24 3 [] Value.none Value.none Value.none (Value.str (Str.ofString "cpy313.base64") 585) (@Option.none Nat) (Value.ref 243) Value.none 0)) (@List.toArray (Option Value) []))) ::
    (nat_lit 250, (Obj.mk (Value.type "code") (@Option.none Nat) (Data.fields (@List.toArray Value [(Value.str (Str.ofString "urlsafe_b64decode") 622), (Value.str (Str.ofString "urlsafe_b64decode") 623), (Value.str (Str.ofString "/claim/cut.py") 624), (Value.int (312 : Int) 0), (Value.int (1 : Int) 0), (Value.int (0 : Int) 0), (Value.int (0 : Int) 0), (Value.int (3 : Int) 0), (Value.ref 245), (Value.bool Bool.true), (Value.int (276 : Int) 0), (Value.ref 246), Value.none, (Value.ref 247), (Value.ref 248), (Value.ref 249), (Value.int (626 : Int) 0), (Value.int (312 : Int) 0), (Value.str (Str.ofString "/claim/cut.py") 627)])) (@List.toArray (Option Value) []))) ::
    (nat_lit 251, (Obj.mk (Value.type "function") (@Option.none Nat) (Data.func (FuncData.mk (Str.ofString "urlsafe_b64decode") (Str.ofString "urlsafe_b64decode") a25 (FuncBody.stmts b25) c25 3 [] Value.none Value.none Value.none (Value.str (Str.ofString "cpy313.base64") 585) (@Option.none Nat) (Value.ref 250) Value.none 0)) (@List.toArray (Option Value) []))) ::
    (nat_lit 257, (Obj.mk (Value.type "code") (@Option.none Nat) (Data.fields (@List.toArray Value [(Value.str (Str.ofString "b16encode") 629), (Value.str (Str.ofString "b16encode") 630), (Value.str (Str.ofString "/claim/cut.py") 631), (Value.int (316 : Int) 0), (Value.int (1 : Int) 0), (Value.int (0 : Int) 0), (Value.int (0 : Int) 0), (Value.int (3 : Int) 0), (Value.ref 252), (Value.bool Bool.true), (Value.int (276 : Int) 0), (Value.ref 253), Value.none, (Value.ref 254), (Value.ref 255), (Value.ref 256), (Value.int (633 : Int) 0), (Value.int (316 : Int) 0), (Value.str (Str.ofString "/claim/cut.py") 634)])) (@List.toArray (Option Value) []))) ::
    (nat_lit 258, (Obj.mk (Value.type "function") (@Option.none Nat) (Data.func (FuncData.mk (Str.ofString "b16encode") (Str.ofString "b16encode") a26 (FuncBody.stmts b26) c26 3 [] Value.none Value.none Value.none (Value.str (Str.ofString "cpy313.base64") 585) (@Option.none Nat) (Value.ref 257) Value.none 0)) (@List.toArray (Option Value) []))) ::
    (nat_lit 259, (Obj.mk (Value.type "tuple") (@Option.none Nat) (Data.seq (@List.toArray Value [(Value.bool Bool.false)]) 0) (@List.toArray (Option Value) []))) ::
    (nat_lit 265, (Obj.mk (Value.type "code") (@Option.none Nat) (Data.fields (@List.toArray Value [(Value.str (Str.ofString "b16decode") 636), (Value.str (Str.ofString "b16decode") 637), (Value.str (Str.ofString "/claim/cut.py") 638), (Value.int (318 : Int) 0), (Value.int (2 : Int) 0), (Value.int (0 : Int) 0), (Value.int (0 : Int) 0), (Value.int (3 : Int) 0), (Value.ref 260), (Value.bool Bool.true), (Value.int (276 : Int) 0), (Value.ref 261), Value.none, (Value.ref 262), (Value.ref 263), (Value.ref 264), (Value.int (641 : Int) 0), (Value.int (318 : Int) 0), (Value.str (Str.ofString "/claim/cut.py") 642)])) (@List.toArray (Option Value) []))) ::
    (nat_lit 266, (Obj.mk (Value.type "function") (@Option.none Nat) (Data.func (FuncData.mk (Str.ofString "b16decode") (Str.ofString "b16decode") a27 (FuncBody.stmts b27) c27 3 [] (Value.ref 259) Value.none Value.none (Value.str (Str.ofString "cpy313.base64") 585) (@Option.none Nat) (Value.ref 265) Value.none 0)) (@List.toArray (Option Value) []))) ::
    (nat_lit 272, (Obj.mk (Value.type "code") (@Option.none Nat) (Data.fields (@List.toArray Value [(Value.str (Str.ofString "cmp_to_key") 646), (Value.str (Str.ofString "cmp_to_key") 647), (Value.str (Str.ofString "/claim/cut.py") 648), (Value.int (326 : Int) 0), (Value.int (1 : Int) 0), (Value.int (0 : Int) 0), (Value.int (0 : Int) 0), (Value.int (3 : Int) 0), (Value.ref 267), (Value.bool Bool.true), (Value.int (276 : Int) 0), (Value.ref 268), Value.none, (Value.ref 269), (Value.ref 270), (Value.ref 271), (Value.int (652 : Int) 0), (Value.int (326 : Int) 0), (Value.str (Str.ofString "/claim/cut.py") 653)])) (@List.toArray (Option Value) []))) ::
    (nat_lit 273, (Obj.mk (Value.type "function") (@Option.none Nat) (Data.func (FuncData.mk (Str.ofString "cmp_to_key") (Str.ofString "cmp_to_key") a28 (FuncBody.stmts b28) c28 3 [] Value.none Value.none Value.none (Value.str (Str.ofString "cpy313.functools") 644) (@Option.none Nat) (Value.ref 272) Value.none 0)) (@List.toArray (Option Value) []))) ::
    (nat_lit 274, (Obj.mk (Value.type "object") (@Option.none Nat) Data.plain (@List.toArray (Option Value) []))) ::
    (nat_lit 275, (Obj.mk (Value.type "tuple") (@Option.none Nat) (Data.seq (@List.toArray Value [(Value.ref 274)]) 0) (@List.toArray (Option Value) []))) ::
    (nat_lit 281, (Obj.mk (Value.type "code") (@Option.none Nat) (Data.fields (@List.toArray Value [(Value.str (Str.ofString "reduce") 656), (Value.str (Str.ofString "reduce") 657), (Value.str (Str.ofString "/claim/cut.py") 658), (Value.int (352 : Int) 0), (Value.int (3 : Int) 0), (Value.int (0 : Int) 0), (Value.int (0 : Int) 0), (Value.int (3 : Int) 0), (Value.ref 276), (Value.bool Bool.true), (Value.int (276 : Int) 0), (Value.ref 277), Value.none, (Value.ref 278), (Value.ref 279), (Value.ref 280), (Value.int (665 : Int) 0), (Value.int (352 : Int) 0), (Value.str (Str.ofString "/claim/cut.py") 666)])) (@List.toArray (Option Value) []))) ::
    (nat_lit 282, (Obj.mk (Value.type "function") (@Option.none Nat) (Data.func (FuncData.mk (Str.ofString "reduce") (Str.ofString "reduce") a29 (FuncBody.stmts b29) c29 3 [] (Value.ref 275) Value.none Value.none (Value.str (Str.ofString "cpy313.functools") 644) (@Option.none Nat) (Value.ref 281) Value.none 0)) (@List.toArray (Option Value) []))) ::
    (nat_lit 286, (Obj.mk (Value.type "code") (@Option.none Nat) (Data.fields (@List.toArray Value [(Value.str (Str.ofString "_law_row") 670), (Value.str (Str.ofString "_law_row") 671), (Value.str (Str.ofString "/claim/cut.py") 672), (Value.int (365 : Int) 0), (Value.int (1 : Int) 0), (Value.int (0 : Int) 0), (Value.int (0 : Int) 0), (Value.int (3 : Int) 0), (Value.ref 283), (Value.bool Bool.true), (Value.int (276 : Int) 0), (Value.ref 284), Value.none, Value.none, Value.none, (Value.ref 285), (Value.int (673 : Int) 0), (Value.int (365 : Int) 0), (Value.str (Str.ofString "/claim/cut.py") 674)])) (@List.toArray (Option Value) []))) ::
    (nat_lit 287, (Obj.mk (Value.type "function") (@Option.none Nat) (Data.func (FuncData.mk (Str.ofString "_law_row") (Str.ofString "_law_row") a30 (FuncBody.stmts b30) c30 3 [] Value.none Value.none Value.none (Value.str (Str.ofString "law_qh0024_01") 668) (@Option.none Nat) (Value.ref 286) Value.none 0)) (@List.toArray (Option Value) []))) ::
    (nat_lit 291, (Obj.mk (Value.type "code") (@Option.none Nat) (Data.fields (@List.toArray Value [(Value.str (Str.ofString "_law_module") 676), (Value.str (Str.ofString "_law_module") 677), (Value.str (Str.ofString "/claim/cut.py") 678), (Value.int (367 : Int) 0), (Value.int (1 : Int) 0), (Value.int (0 : Int) 0), (Value.int (0 : Int) 0), (Value.int (3 : Int) 0), (Value.ref 288), (Value.bool Bool.true), (Value.int (276 : Int) 0), (Value.ref 289), Value.none, Value.none, Value.none, (Value.ref 290), (Value.int (679 : Int) 0), (Value.int (367 : Int) 0), (Value.str (Str.ofString "/claim/cut.py") 680)])) (@List.toArray (Option Value) []))) ::
    (nat_lit 292, (Obj.mk (Value.type "function") (@Option.none Nat) (Data.func (FuncData.mk (Str.ofString "_law_module") (Str.ofString "_law_module") a31 (FuncBody.stmts b31) c31 3 [] Value.none Value.none Value.none (Value.str (Str.ofString "law_qh0024_01") 668) (@Option.none Nat) (Value.ref 291) Value.none 0)) (@List.toArray (Option Value) []))) ::
    (nat_lit 296, (Obj.mk (Value.type "code") (@Option.none Nat) (Data.fields (@List.toArray Value [(Value.str (Str.ofString "_law_plain") 682), (Value.str (Str.ofString "_law_plain") 683), (Value.str (Str.ofString "/claim/cut.py") 684), (Value.int (369 : Int) 0), (Value.int (1 : Int) 0), (Value.int (0 : Int) 0), (Value.int (0 : Int) 0), (Value.int (3 : Int) 0), (Value.ref 293), (Value.bool Bool.true), (Value.int (276 : Int) 0), (Value.ref 294), Value.none, Value.none, Value.none, (Value.ref 295), (Value.int (685 : Int) 0), (Value.int (369 : Int) 0), (Value.str (Str.ofString "/claim/cut.py") 686)])) (@List.toArray (Option Value) []))) ::
    (nat_lit 297, (Obj.mk (Value.type "function") (@Option.none Nat) (Data.func (FuncData.mk (Str.ofString "_law_plain") (Str.ofString "_law_plain") a32 (FuncBody.stmts b32) c32 3 [] Value.none Value.none Value.none (Value.str (Str.ofString "law_qh0024_01") 668) (@Option.none Nat) (Value.ref 296) Value.none 0)) (@List.toArray (Option Value) []))) ::
    (nat_lit 301, (Obj.mk (Value.type "code") (@Option.none Nat) (Data.fields (@List.toArray Value [(Value.str (Str.ofString "_law_sixes") 688), (Value.str (Str.ofString "_law_sixes") 689), (Value.str (Str.ofString "/claim/cut.py") 690), (Value.int (371 : Int) 0), (Value.int (2 : Int) 0), (Value.int (0 : Int) 0), (Value.int (0 : Int) 0), (Value.int (3 : Int) 0), (Value.ref 298), (Value.bool Bool.true), (Value.int (276 : Int) 0), (Value.ref 299), Value.none, Value.none, Value.none, (Value.ref 300), (Value.int (691 : Int) 0), (Value.int (371 : Int) 0), (Value.str (Str.ofString "/claim/cut.py") 692)])) (@List.toArray (Option Value) []))) ::
    (nat_lit 302, (Obj.mk (Value.type "function") (@Option.none Nat) (Data.func (FuncData.mk (Str.ofString "_law_sixes") (Str.ofString "_law_sixes") a33 (FuncBody.stmts b33) c33 3 [] Value.none Value.none Value.none (Value.str (Str.ofString "law_qh0024_01") 668) (@Option.none Nat) (Value.ref 301) Value.none 0)) (@List.toArray (Option Value) []))) ::
    (nat_lit 306, (Obj.mk (Value.type "code") (@Option.none Nat) (Data.fields (@List.toArray Value [(Value.str (Str.ofString "_law_rising") 694), (Value.str (Str.ofString "_law_rising") 695), (Value.str (Str.ofString "/claim/cut.py") 696), (Value.int (378 : Int) 0), (Value.int (1 : Int) 0), (Value.int (0 : Int) 0), (Value.int (0 : Int) 0), (Value.int (3 : Int) 0), (Value.ref 303), (Value.bool Bool.true), (Value.int (276 : Int) 0), (Value.ref 304), Value.none, Value.none, Value.none, (Value.ref 305), (Value.int (697 : Int) 0), (Value.int (378 : Int) 0), (Value.str (Str.ofString "/claim/cut.py") 698)])) (@List.toArray (Option Value) []))) ::
    (nat_lit 307, (Obj.mk (Value.type "function") (@Option.none Nat) (Data.func (FuncData.mk (Str.ofString "_law_rising") (Str.ofString "_law_rising") a34 (FuncBody.stmts b34) c34 3 [] Value.none Value.none Value.none (Value.str (Str.ofString "law_qh0024_01") 668) (@Option.none Nat) (Value.ref 306) Value.none 0)) (@List.toArray (Option Value) []))) ::
    (nat_lit 311, (Obj.mk (Value.type "code") (@Option.none Nat) (Data.fields (@List.toArray Value [(Value.str (Str.ofString "law") 700), (Value.str (Str.ofString "law") 701), (Value.str (Str.ofString "/claim/cut.py") 702), (Value.int (384 : Int) 0), (Value.int (1 : Int) 0), (Value.int (0 : Int) 0), (Value.int (0 : Int) 0), (Value.int (3 : Int) 0), (Value.ref 308), (Value.bool Bool.true), (Value.int (276 : Int) 0), (Value.ref 309), Value.none, Value.none, Value.none, (Value.ref 310), (Value.int (703 : Int) 0), (Value.int (384 : Int) 0), (Value.str (Str.ofString "/claim/cut.py") 704)])) (@List.toArray (Option Value) []))) ::
    (nat_lit 312, (Obj.mk (Value.type "function") (@Option.none Nat) (Data.func (FuncData.mk (Str.ofString "law") (Str.ofString "law") a35 (FuncBody.stmts b35) c35 3 [] Value.none Value.none Value.none (Value.str (Str.ofString "law_qh0024_01") 668) (@Option.none Nat) (Value.ref 311) Value.none 0)) (@List.toArray (Option Value) []))) ::
    []
  all_goals try (conv => lhs; whnf)
noncomputable def tq := PySem.W.Fast.tw14364793385576792824
noncomputable def fencedQ (p : Program) (w : World) (N : Nat) : Option Shared :=
  (PySem.W.Fast.tw10274390034422433532 tq (opening p) w N (PySem.W.Fast.tw1435165496053646825 (opening p)).1 (PySem.W.Fast.tw1435165496053646825 (opening p)).2).bind (PySem.W.Fast.tw14289696077712309145 p)
noncomputable def topQ (p : Program) (w : World) (N : Nat) (s₀ : Shared) : Option Shared :=
  match s₀.heap.isNs mainGlobals && s₀.gens.size == 0 with
  | true => (PySem.W.Fast.tw14082659384304107361 tq p w s₀.heap.objs.size (s₀.heap.nsMap mainGlobals "__annotations__") N s₀ (topStub p)).bind fun s₁ => match staticsOk (PySem.W.Fast.tw5923862056798008813 p.main.body) s₀.heap s₁.heap && namesBound p s₁.heap && gensDone s₁ && laidKept s₀.heap s₁.heap with
      | true => some s₁
      | false => none
  | false => none
noncomputable def endsQ (p : Program) (w : World) (N : Nat) : Option Shared := (fencedQ p w N).bind (topQ p w N)
theorem ends_eq (p : Program) (w : World) (N : Nat) : openEnds treeTable p w N = endsQ p w N := by
  unfold endsQ fencedQ topQ tq
  rw [← PySem.W.Fast.te14364793385576792824, ← PySem.W.Fast.te10274390034422433532, ← PySem.W.Fast.te1435165496053646825, ← PySem.W.Fast.te14289696077712309145, ← PySem.W.Fast.te14082659384304107361, ← PySem.W.Fast.te5923862056798008813]
  rfl
noncomputable def qv : Program := view PySem.Challenge.pw_qh0024_01 [0, 1, 2, 4, 5, 6, 7, 8, 9, 10, 11, 13, 14, 16, 17, 18, 20, 21, 22, 23, 24, 25, 28, 30, 31, 32, 33, 37, 38, 39, 40, 41, 44, 45, 48, 49, 50, 51, 52, 53]
noncomputable abbrev Lo : List Str := [Str.ofString "_twin_re_1", Str.ofString "bytes_types", Str.ofString "a2b_base64", Str.ofString "b2a_base64", Str.ofString "_NO_SEP", Str.ofString "b2a_hex", Str.ofString "hexlify", Str.ofString "unhexlify", Str.ofString "b64encode", Str.ofString "b64decode", Str.ofString "_urlsafe_encode_translation", Str.ofString "_urlsafe_decode_translation", Str.ofString "b16decode", Str.ofString "_initial_missing", Str.ofString "reduce"]
noncomputable abbrev HK : Hook := kmHook KF [2, 3, 37, 38, 44, 45, 51, 52, 58, 59, 65, 66, 72, 73, 79, 80, 86, 87, 93, 94, 102, 106, 107, 113, 114, 116, 117, 118, 119, 127, 128, 132, 133, 134, 135, 140, 141, 150, 151, 152, 160, 161, 167, 168, 174, 175, 181, 182, 183, 189, 190, 191, 197, 198, 199, 200, 206, 207, 213, 214, 220, 221, 222, 228, 229, 230, 236, 237, 243, 244, 250, 251, 257, 258, 259, 265, 266, 272, 273, 274, 275, 281, 282, 286, 287, 291, 292, 296, 297, 301, 302, 306, 307, 311, 312] (fun _ => by kernel_rfl) [289, 268, 309]
noncomputable abbrev Xs : Shared → Bool := fun s => xlAt qv [] s && recOk (RowW.records rowW) s
theorem once : ∀ w : World, (endsQ rowW.prog w 3702).map (fun s => (PySem.W.Fast.tw4187177175401517315 qv Lo (PySem.W.Fast.tw5923862056798008813 rowW.prog.main.body) Xs true s, HK.obs s)) = some (openGood qv Lo, HK.val w) := by
  intro w; kernel_rfl
theorem left : LeftO rowW.prog qv Lo Xs (Yf := HK.obs) (Ya := HK.val) (N := 3702) := by
  intro w
  have h := once w
  rw [← ends_eq, ← PySem.W.Fast.te4187177175401517315, ← PySem.W.Fast.te5923862056798008813] at h
  exact h
end Hd
section Base
theorem rules_Base_1 : True := by
  k_with_none
  k_with "exec If" => (refine wpAny_If ?_)
  trivial
noncomputable abbrev PG : Program := PySem.Challenge.rw_qh0024_01.row.prog
noncomputable abbrev MM (w : World) : Model := model PySem.Challenge.rw_qh0024_01.row.prog w

structure Rdy (w : World) (n : Nat) (A : Around) (h : Heap) : Prop where
  below : ∃ base fs, Below A base fs h
  frag : (KF w.params).In h
  top : ∃ p loose mean mg mb, Top p loose mean mg mb h
  dep : A.depth ≤ n
  unt : A.units ≤ n
  hnd : A.handled = none

theorem wpAny_up {α : Type} {M : Model} {A A' : Around} {t : Sem α} {Q : α → Shared → Prop} {E : Value → Shared → Prop} {s : Shared}
    (hh : A'.handled = A.handled) (hd : A.depth ≤ A'.depth) (hf : A'.frames = A.frames) (hg : A'.guards = A.guards) (hu : A.units ≤ A'.units)
    (h : wpAny M A' t Q E s) : wpAny M A t Q E s := fun Γ p hΓ =>
  h Γ p ⟨hΓ.1.trans hh.symm, Nat.le_trans hΓ.2.1 hd, fun l hl => hΓ.2.2.1 l (hf ▸ hl), fun g hl => hΓ.2.2.2.1 g (hg ▸ hl), Nat.le_trans hΓ.2.2.2.2 hu⟩

theorem Rdy.go {w : World} {n : Nat} {A : Around} {α : Type} {t : Sem α} {Q : α → Shared → Prop} {E : Value → Shared → Prop} {s : Shared} (R : Rdy w n A s.heap)
    (h : ∀ (gd : Option (List Code)) (base : Heap) (fs : List Env) (p : Program) (loose : List Str) (mean : ExcName → Option Value) (mg mb : Str → Option Value),
      Below (Around.mk none n (some fs) gd n) base fs s.heap → (KF w.params).In s.heap → Top p loose mean mg mb s.heap →
      wpAny (MM w) (Around.mk none n (some fs) gd n) t Q E s) : wpAny (MM w) A t Q E s := by
  obtain ⟨⟨base, fs, B⟩, X, ⟨p, loose, mean, mg, mb, T⟩, d, u, hn⟩ := R
  refine wpAny_up (A' := Around.mk none n (some fs) A.guards n) hn.symm d B.stack.symm rfl u (h _ base fs p loose mean mg mb ⟨rfl, B.stays, B.frames⟩ X T)

section
variable {prog : Program} {w : World} {A : Around} {s : Shared} {base : Heap} {fs : List Env} {K : Frag} {mg mb : Str → Option Value} {p : Program} {loose : List Str} {mean : ExcName → Option Value}
  {R : Result → Shared → Prop} {name qual : Str} {params : Arguments} {body : List Stmt} {scope : Scope} {dV kV doc pm cdv ct oc : Value} {an od : Option Addr} {osl : Array (Option Value)} {f : Addr} {args : Args} {binds : List (Str × Value)}
theorem enterP (B : Below A base fs s.heap) (X : K.In s.heap) (T : Top p loose mean mg mb s.heap)
    (ho : K.lookup f = some ⟨oc, od, .func (fnOf name qual params body scope dV kV doc pm an cdv ct), osl⟩) (hcd : codeIn K cdv qual = true) (hroom : A.depth < recursionLimit)
    (hbind : BindsTo s (fnOf name qual params body scope dV kV doc pm an cdv ct) args binds) (hloc : ∀ y ∈ binds, scope.names.lookup y.1 = some .local)
    (h : ∀ L' h₁, Fr s.heap L' h₁ (fun y => binds.reverse.lookup y) → News s.heap L' h₁ [] →
      wpAny (model prog w) (A.deeper (envOf qual scope L' f cdv)) (execs body (envOf qual scope L' f cdv))
        (fun fl s' => R (.ok (.ret (match fl with | .ret v => v | _ => .none))) s')
        (fun e s' => wpAny (model prog w) (A.deeper (envOf qual scope L' f cdv)) (leaving (envOf qual scope L' f cdv) e) (fun _ s'' => R (.error e) s'') (fun e' s'' => R (.error e') s'') s')
        { s with heap := h₁, toks := s.toks + binds.length })
    (hco : scope.isCoroutine = false) (hgen : scope.isGenerator = false) (hk : scope.kind = .function)
    (hcell : ∀ x ∈ scope.names, x.2 ≠ .cell) : codeAny (model prog w) A (.call (.ref f) args) R s := by
  refine codeAny_call_def (fd := fnOf name qual params body scope dV kV doc pm an cdv ct) (body := body) (binds := binds) hroom (X _ _ ho) rfl T.nolimit (codeRec_of X hcd) rfl hbind hcell hloc (fun h₁ hns hk₁ => ?_) hco hgen hk
  exact h s.heap.objs.size h₁ ⟨hns, hk₁, Nat.le_refl _⟩ (fun _ hp => nomatch hp)

theorem enterC (B : Below A base fs s.heap) (X : K.In s.heap) (T : Top p loose mean mg mb s.heap)
    (ho : K.lookup f = some ⟨oc, od, .func (fnOf name qual params body scope dV kV doc pm an cdv ct), osl⟩) (hcd : codeIn K cdv qual = true) (hroom : A.depth < recursionLimit)
    (hbind : BindsTo s (fnOf name qual params body scope dV kV doc pm an cdv ct) args binds) (hkind : (binds.all fun y => scope.names.lookup y.1 == some .local || scope.names.lookup y.1 == some .cell) = true)
    (hnd : ((cellsFrom 0 scope.names []).map (·.1)).Nodup)
    (h : ∀ L' h₁ tk cells, Fr s.heap L' h₁ (bindL (envOfC qual scope L' f cdv).kindOf binds fun _ => none) → News s.heap L' h₁ cells →
      CellsAre (bindC (envOfC qual scope L' f cdv).kindOf binds fun _ => none) (cellsFrom (L' + 1) scope.names []) cells →
      wpAny (model prog w) (A.deeper (envOfC qual scope L' f cdv)) (execs body (envOfC qual scope L' f cdv))
        (fun fl s' => R (.ok (.ret (match fl with | .ret v => v | _ => .none))) s')
        (fun e s' => wpAny (model prog w) (A.deeper (envOfC qual scope L' f cdv)) (leaving (envOfC qual scope L' f cdv) e) (fun _ s'' => R (.error e) s'') (fun e' s'' => R (.error e') s'') s')
        { s with heap := h₁, toks := tk })
    (hco : scope.isCoroutine = false) (hgen : scope.isGenerator = false) (hk : scope.kind = .function) : codeAny (model prog w) A (.call (.ref f) args) R s := by
  refine codeAny_call_function hroom (X _ _ ho) rfl hco hgen rfl (codeRec_of X hcd) (hbind _ _ _ _ ?_)
  refine wpAny_newFunctionEnv_cells hk (kindsX hkind _) fun env' he s' x => ?_
  subst he
  refine ⟨T.nolimit.keeps x.toInCall.keep, codeAny_func ?_⟩
  obtain ⟨h₁, tk, rfl, _⟩ := x.done
  have hk₁ := x.toInCall.keep
  obtain ⟨cells, NC, Y⟩ := Cl.news (h₀ := s.heap) (Nat.le_refl _) fun n c hm => ⟨x.cell n c (lookup_of_mem_nodup (cellsFrom_names scope.names 0 (s.heap.objs.size + 1) [] [] rfl ▸ hnd) hm), x.above n c hm⟩
  exact h s.heap.objs.size h₁ tk cells ⟨x.toInCall.ns, hk₁, Nat.le_refl _⟩ NC Y
end
theorem Rdy.of_walk {w : World} {n : Nat} {A : Around} {g h : Heap} {base : Heap} {fs : List Env} {L : Addr} {m : Str → Option Value} {env : Env} {p : Program} {loose : List Str} {mean : ExcName → Option Value} {mg mb : Str → Option Value}
    (B : Below A base fs g) (F : Fr g L h m) (X : (KF w.params).In g) (T : Top p loose mean mg mb g) (hf : env.frame = some L) (hk : env.scope.kind = .function) (hd : A.depth + 1 ≤ n) (hu : A.units + 3 ≤ n) (hh : A.handled = none) : Rdy w n (A.deeper env) h :=
  ⟨⟨base, _, pushX B F hf hk⟩, X.keeps F.keep, ⟨p, loose, mean, mg, mb, T.keeps F.keep⟩, hd, hu, hh⟩
theorem fr_keep {g h h' : Heap} {L : Addr} {m : Str → Option Value} (F : Fr g L h m) (k : ∀ b o, h.get? b = some o → h'.get? b = some o) : Fr g L h' m :=
  ⟨F.ns.keeps k, fun b o e => k b o (F.keep b o e), F.above⟩
theorem news_keep {g h h' : Heap} {L : Addr} {news : List (Addr × Obj)} (N : News g L h news) (k : ∀ b o, h.get? b = some o → h'.get? b = some o) : News g L h' news :=
  fun p hp => ⟨k _ _ (N p hp).1, (N p hp).2⟩
theorem news_more {g h h' : Heap} {L : Addr} {news : List (Addr × Obj)} {a : Addr} {o : Obj} {m : Str → Option Value} (F : Fr g L h m) (N : News g L h news) (k : ∀ b o, h.get? b = some o → h'.get? b = some o) (hn : h.get? a = none) (ha : h'.get? a = some o) : News g L h' ((a, o) :: news) := by
  intro p hp
  rcases List.mem_cons.mp hp with rfl | hp
  · refine ⟨ha, fun e => ?_, ?_⟩
    · obtain ⟨oL, es, ep, hL, _⟩ := F.ns
      have e' : a = L := e
      rw [e', hL] at hn; cases hn
    · cases q : g.get? a with
      | none => rfl
      | some o' => rw [F.keep a o' q] at hn; cases hn
  · exact news_keep N k p hp
end Base
section Byt
open Builtin
theorem rules_Byt_1 : True := by
  k_with_none
  k_with "exec If" => (refine wpAny_If ?_)
  trivial
theorem slot_bytes_upper : Slot "bytes" "upper" "bytes.upper" :=
  .of (owner := "bytes") (n := "upper") (by rw [typeLookup_type, builtinLookup_eq_fast]; kernel_rfl) (by decide +kernel) (by decide +kernel) (by decide +kernel)
    (by first | exact .inl (by decide +kernel) | exact .inr (by decide +kernel)) (by rw [isSubtype_type]; kernel_rfl)
theorem type_bytes_upper : typeOf (.builtin "bytes.upper") = pure (.type "method_descriptor") := by show builtinType _ = _; rw [builtinType_eq_fast]; kernel_rfl
theorem entry_bytes_upper : entryFor table "bytes.upper" = some Builtin.«bytes.upper» := entryFor_of_tree (by kernel_rfl)
theorem args_bytes_upper_1 (a : Value) : argsOk "bytes.upper" ⟨[a], []⟩ := by unfold argsOk; kernel_rfl
theorem slot_bytes_translate : Slot "bytes" "translate" "bytes.translate" :=
  .of (owner := "bytes") (n := "translate") (by rw [typeLookup_type, builtinLookup_eq_fast]; kernel_rfl) (by decide +kernel) (by decide +kernel) (by decide +kernel)
    (by first | exact .inl (by decide +kernel) | exact .inr (by decide +kernel)) (by rw [isSubtype_type]; kernel_rfl)
theorem type_bytes_translate : typeOf (.builtin "bytes.translate") = pure (.type "method_descriptor") := by show builtinType _ = _; rw [builtinType_eq_fast]; kernel_rfl
theorem entry_bytes_translate : entryFor table "bytes.translate" = some Builtin.«bytes.translate» := entryFor_of_tree (by kernel_rfl)
theorem args_bytes_translate_2 (a b : Value) : argsOk "bytes.translate" ⟨[a, b], []⟩ := by unfold argsOk; kernel_rfl
section
variable {M : Model} {A : Around} {E : Value → Shared → Prop} {s : Shared} {b : Array UInt8} {t : Tok} {pl : Sem Bool} {Q : Value × List Value → Shared → Prop}
theorem meth_hex (h : Q (.builtin "bytes.hex", [.bytes b t]) s) : wpAny M A (getMethod (.bytes b t) "hex" pl) Q E s := by
  with_reducible exact KBd.method_of (.bytes b t) (typeIs_bytes _ _ _) FB.slot_bytes_hex FB.type_bytes_hex KBd.noRef h
theorem meth_upper (h : Q (.builtin "bytes.upper", [.bytes b t]) s) : wpAny M A (getMethod (.bytes b t) "upper" pl) Q E s := by
  with_reducible exact KBd.method_of (.bytes b t) (typeIs_bytes _ _ _) slot_bytes_upper type_bytes_upper KBd.noRef h
theorem meth_translate (h : Q (.builtin "bytes.translate", [.bytes b t]) s) : wpAny M A (getMethod (.bytes b t) "translate" pl) Q E s := by
  with_reducible exact KBd.method_of (.bytes b t) (typeIs_bytes _ _ _) slot_bytes_translate type_bytes_translate KBd.noRef h
end
/-- the hex text of octets -/
noncomputable def hexF (b : Array UInt8) : Str := ⟨b.toList.zipIdx.foldl (fun (out : Array Nat) (c, i) => (out.push (Bytes.hexDigit (c.toNat / 16))).push (Bytes.hexDigit (c.toNat % 16))) #[]⟩
theorem hex_eq {b : Array UInt8} {t : Tok} : «bytes.hex» ⟨[.bytes b t], []⟩ = (mkStr (hexF b) >>= fun v => ret v) := by kernel_rfl
theorem upper_eq {b : Array UInt8} {t : Tok} : «bytes.upper» ⟨[.bytes b t], []⟩ = (mkBytes (b.toList.map Bytes.toUpper).toArray >>= fun v => ret v) := by kernel_rfl
noncomputable def trF (tab b : Array UInt8) : Array UInt8 := (b.filter (!(#[] : Array UInt8).contains ·)).map fun c => tab.getD c.toNat c
theorem translate_eq {tab b : Array UInt8} {t u : Tok} (h : tab.size = 256) : «bytes.translate» ⟨[.bytes b t, .bytes tab u], []⟩ =
    (if (trF tab b == b) = true then (rule "bytes.translate.unchanged" >>= fun _ => ret (.bytes b t)) else (mkBytes (trF tab b) >>= fun v => ret v)) := by
  have e : «bytes.translate» ⟨[.bytes b t, .bytes tab u], []⟩ = (if (tab.size != 256) = true then (rule "bytes.translate.table-size" >>= fun _ => raiseError "ValueError" "translation table must be 256 characters long" >>= fun (r : PUnit) => (if (trF tab b == b) = true then (rule "bytes.translate.unchanged" >>= fun _ => ret (.bytes b t)) else (mkBytes (trF tab b) >>= fun v => ret v)))
     else (if (trF tab b == b) = true then (rule "bytes.translate.unchanged" >>= fun _ => ret (.bytes b t)) else (mkBytes (trF tab b) >>= fun v => ret v))) := by
    kernel_rfl
  rw [e, h]
  rfl
section
variable {prog : Program} {w : World} {A : Around} {E : Value → Shared → Prop} {s : Shared} {b : Array UInt8} {t : Tok} {Q : Value → Shared → Prop}
theorem call_hex (hsz : (hexF b).length ≤ sizeLine) (h : Q (.str (hexF b) s.toks) { s with toks := s.toks + 1 }) : wpAny (model prog w) A (call (.builtin "bytes.hex") [.bytes b t]) Q E s := by
  refine call_meets FB.slot_bytes_hex (typeIs_bytes _ _ _) FB.entry_bytes_hex (FB.args_bytes_hex_1 _) (S := fun _ R s => (hexF b).length ≤ sizeLine ∧ R (.ok (.ret (.str (hexF b) s.toks))) { s with toks := s.toks + 1 }) ?_ ⟨hsz, h⟩
  refine .of_wp fun prog w A R s hS => ?_
  rw [hex_eq]
  exact wpAny_bind (wpAny_mkStr (wpAny_pure ⟨_, rfl, hS.2⟩) hS.1)
noncomputable def upF (b : Array UInt8) : Array UInt8 := (b.toList.map Bytes.toUpper).toArray
theorem call_upper (hsz : (upF b).size ≤ sizeLine) (h : Q (.bytes (upF b) s.toks) { s with toks := s.toks + 1 }) : wpAny (model prog w) A (call (.builtin "bytes.upper") [.bytes b t]) Q E s := by
  refine call_meets slot_bytes_upper (typeIs_bytes _ _ _) entry_bytes_upper (args_bytes_upper_1 _) (S := fun _ R s => (upF b).size ≤ sizeLine ∧ R (.ok (.ret (.bytes (upF b) s.toks))) { s with toks := s.toks + 1 }) ?_ ⟨hsz, h⟩
  refine .of_wp fun prog w A R s hS => ?_
  rw [upper_eq]
  exact wpAny_bind (wpAny_mkBytes (wpAny_pure ⟨_, rfl, hS.2⟩) hS.1)
theorem call_translate {tab : Array UInt8} {u : Tok} (h256 : tab.size = 256) (hsz : b.size ≤ sizeLine) (h : ∀ t' k, Q (.bytes (trF tab b) t') { s with toks := k }) : wpAny (model prog w) A (call (.builtin "bytes.translate") [.bytes b t, .bytes tab u]) Q E s := by
  refine call_meets slot_bytes_translate (typeIs_bytes _ _ _) entry_bytes_translate (args_bytes_translate_2 _ _) (S := fun _ R s => ∀ t' k, R (.ok (.ret (.bytes (trF tab b) t'))) { s with toks := k }) ?_ h
  refine .of_wp fun prog w A R s hS => ?_
  rw [translate_eq h256]
  by_cases q : (trF tab b == b) = true
  · rw [if_pos q]
    refine wpAny_bind (wpAny_rule ?_)
    have z := hS t s.toks
    rw [eq_of_beq q] at z
    exact wpAny_pure ⟨_, rfl, z⟩
  · rw [if_neg q]
    refine wpAny_bind (wpAny_mkBytes (wpAny_pure ⟨_, rfl, hS _ _⟩) ?_)
    have : (trF tab b).size ≤ b.size := by
      unfold trF
      rw [Array.size_map]
      exact Array.size_filter_le ..
    omega
end
theorem encode_eq {x : Str} {t u : Tok} : «str.encode» ⟨[.str x t, .str "ascii" u], []⟩ = ((_codecs.encodeNarrow "str.encode" _codecs.asciiCodec none (.str x t) x >>= fun b => mkBytes b) >>= fun v => ret v) := by kernel_rfl
theorem foldl_bytes : ∀ (l : List Nat) (acc : Array UInt8), l.foldl (fun acc y => acc ++ (_codecs.asciiCodec.bytesOf y).toArray) acc = acc ++ (l.map fun c => c.toUInt8).toArray
  | [], acc => by simp
  | c :: l, acc => by
    rw [List.foldl_cons, foldl_bytes l]
    simp [_codecs.asciiCodec]
theorem forIn_two {β : Type} {n k : Nat} {f : Nat → β → Sem (ForInStep β)} {b0 b1 b2 : β} (hk : n = k + 2) (h0 : f 0 b0 = pure (.yield b1)) (h1 : f 1 b1 = pure (.done b2)) : forIn [0 : n] b0 f = pure b2 := by
  rw [Std.Legacy.Range.forIn_eq_forIn_range']
  have hr : List.range' 0 (Std.Legacy.Range.size [0 : n]) 1 = 0 :: 1 :: List.range' 2 k 1 := by
    simp [Std.Legacy.Range.size, hk, List.range'_succ]
  rw [hr, List.forIn_cons, h0, pure_bind]
  show forIn (1 :: List.range' 2 k 1) b1 f = _
  rw [List.forIn_cons, h1, pure_bind]
theorem bind_to {α β : Type} {x : Sem α} {k : α → Sem β} {b : α} {r : Sem β} (hx : x = pure b) (hk : k b = r) : x >>= k = r := by rw [hx, pure_bind, hk]
theorem narrow_eq {id : String} {v : Value} {x : Str} (h : ∀ c ∈ x.cps, c < 128) (h2 : 2 ≤ x.length) (hs : x.length ≤ sizeLine) : _codecs.encodeNarrow id _codecs.asciiCodec none v x = pure (x.cps.map fun c => c.toUInt8) := by
  have hno : Array.findIdx? _codecs.asciiCodec.bad x.cps = none := by
    rw [Array.findIdx?_eq_none_iff]
    intro c hc
    have := h c hc
    simp [_codecs.asciiCodec]; omega
  have hf : Array.foldl (fun acc y => acc ++ (_codecs.asciiCodec.bytesOf y).toArray) #[] x.cps = x.cps.map fun c => c.toUInt8 := by
    rw [← Array.foldl_toList, foldl_bytes, Array.empty_append]
    exact Array.ext' (by simp)
  have hlen : x.cps.size = x.length := rfl
  obtain ⟨k, hk⟩ : ∃ k, x.length = k + 2 := ⟨x.length - 2, by omega⟩
  have h0 : ∃ c0, x.cps[0]? = some c0 ∧ c0 < 128 := ⟨x.cps[0]'(by omega), by rw [Array.getElem?_eq_getElem (by omega)], h _ (Array.getElem_mem _)⟩
  obtain ⟨c0, e0, hc0⟩ := h0
  have hb : (!_codecs.asciiCodec.bad c0) = true := by simp [_codecs.asciiCodec]; omega
  have hend : x.cps[x.length]? = none := by rw [Array.getElem?_eq_none_iff]; omega
  unfold _codecs.encodeNarrow
  simp only []
  refine bind_to (forIn_two hk (b1 := (x.length, x.cps.map fun c => c.toUInt8, {})) (b2 := (x.length, x.cps.map fun c => c.toUInt8, {})) ?hA ?hB) ?hC
  case hA =>
    rw [if_neg (by simp)]
    simp only [e0, hb, if_true, Array.extract_size, hno, Option.getD_none, hf]
    rw [Nat.zero_add, hlen]
  case hB =>
    rw [if_neg (by simp only [Array.size_map]; omega)]
    simp only [hend]
  case hC => rfl
theorem call_encode {prog : Program} {w : World} {A : Around} {E : Value → Shared → Prop} {s : Shared} {x : Str} {t u : Tok} {Q : Value → Shared → Prop} (hx : ∀ c ∈ x.cps, c < 128) (h2 : 2 ≤ x.length) (hs : x.length ≤ sizeLine)
    (h : ∀ t', Q (.bytes (x.cps.map fun c => c.toUInt8) t') { s with toks := s.toks + 1 }) : wpAny (model prog w) A (call (.builtin "str.encode") [.str x t, .str "ascii" u]) Q E s := by
  refine call_meets PySem.F.slot_str_encode (typeIs_str _ _ _) PySem.F.entry_str_encode (PySem.F.args_str_encode_2 _ _) (S := fun _ R s => ∀ t', R (.ok (.ret (.bytes (x.cps.map fun c => c.toUInt8) t'))) { s with toks := s.toks + 1 }) ?_ h
  refine .of_wp fun prog w A R s hS => ?_
  rw [encode_eq, narrow_eq hx h2 hs]
  refine wpAny_bind (wpAny_bind (wpAny_pure (wpAny_mkBytes (wpAny_pure ⟨_, rfl, hS _⟩) ?_)))
  rw [Array.size_map]; exact hs
theorem meth_encode {M : Model} {A : Around} {E : Value → Shared → Prop} {s : Shared} {t : Tok} {pl : Sem Bool} {x : PySem.Str} {Q : Value × List Value → Shared → Prop} (h : Q (.builtin "str.encode", [.str x t]) s) : wpAny M A (getMethod (.str x t) "encode" pl) Q E s := by
  with_reducible exact GM.of (.str x t) (typeIs_str _ _ _) PySem.F.slot_str_encode PySem.F.type_str_encode GM.noRef h
theorem hexF1 (x : UInt8) : hexF #[x] = ⟨#[Bytes.hexDigit (x.toNat / 16), Bytes.hexDigit (x.toNat % 16)]⟩ := rfl
theorem hexF1_len (x : UInt8) : (hexF #[x]).length = 2 := rfl
theorem hexF1_fit (x : UInt8) : (hexF #[x]).length ≤ sizeLine := by rw [hexF1_len, sizeLine_eq]; decide
theorem hexDigit_lt {n : Nat} (h : n < 16) : Bytes.hexDigit n < 128 := by unfold Bytes.hexDigit; split <;> omega
theorem hexF1_ascii (x : UInt8) : ∀ c ∈ (hexF #[x]).cps, c < 128 := by
  intro c hc
  rw [hexF1] at hc
  have hx : x.toNat < 256 := x.toNat_lt
  rcases List.mem_cons.mp (by simpa using hc : c ∈ [Bytes.hexDigit (x.toNat / 16), Bytes.hexDigit (x.toNat % 16)]) with rfl | hc
  · exact hexDigit_lt (by omega)
  · rw [List.mem_singleton.mp hc]; exact hexDigit_lt (by omega)
/-- the octets of the base-16 text of an octet -/
noncomputable def b16F (x : UInt8) : Array UInt8 := upF ((hexF #[x]).cps.map fun c => c.toUInt8)
theorem b16F_fit (x : UInt8) : (upF ((hexF #[x]).cps.map fun c => c.toUInt8)).size ≤ sizeLine := by
  have : (upF ((hexF #[x]).cps.map fun c => c.toUInt8)).size = 2 := by simp [upF, hexF1]
  rw [this, sizeLine_eq]; decide
end Byt
section Lcd
section
variable {prog : Program} {w : World} {A : Around} {E : Value → Shared → Prop} {s : Shared} {env : Env} {h₀ : Heap} {L : Addr} {m : Str → Option Value}
theorem rules_Lcd_1 : True := by
  k_with_none
  k_with "exec If" => (refine wpAny_If ?_)
  trivial
noncomputable def CompSrcDn (prog : Program) (w : World) (A : Around) (h₀ : Heap) (L : Addr) (m : Str → Option Value) (env : Env) (elt : Expr) (x : Str) (scope : Scope) (cl : List (Str × Addr)) (Fin : Shared → List Value → List (Addr × Obj) → Prop) (xv : Value) (s₁ : Shared) : Prop :=
  ∃ r a b t u v n news, xv = .ref r ∧ A.handled = none ∧ Fr h₀ L s₁.heap m ∧ News h₀ L s₁.heap news ∧ IsRange s₁.heap r a b (-1) t u v ∧ Builtin.Range.small a b (-1) = true ∧ Builtin.Range.rangeSize a b (-1) = ((n : Nat) : Int) ∧ n ≤ sizeLine ∧
    ∀ s₂ : Shared, (∃ h, s₂ = { s₁ with heap := h }) → LCg.CompRest prog w A h₀ L m env elt x scope cl s₂ (fun _ => True) (fun i v => ∃ t, v = .int (a + (i : Int) * (-1)) t) (Fin s₂) n 0 [] news
theorem CompSrcDn.of {elt : Expr} {x : Str} {scope : Scope} {cl : List (Str × Addr)} {Fin : Shared → List Value → List (Addr × Obj) → Prop} {r : Addr} {a b : Int} {t u v : Tok} {n : Nat} {news : List (Addr × Obj)} {s₁ : Shared}
    (hh : A.handled = none) (F : Fr h₀ L s₁.heap m) (N : News h₀ L s₁.heap news) (hr : IsRange s₁.heap r a b (-1) t u v) (hsm : Builtin.Range.small a b (-1) = true) (hn : Builtin.Range.rangeSize a b (-1) = ((n : Nat) : Int)) (hsz : n ≤ sizeLine)
    (h : ∀ g, LCg.CompRest prog w A h₀ L m env elt x scope cl { s₁ with heap := g } (fun _ => True) (fun i v => ∃ t, v = .int (a + (i : Int) * (-1)) t) (Fin { s₁ with heap := g }) n 0 [] news) :
    CompSrcDn prog w A h₀ L m env elt x scope cl Fin (.ref r) s₁ := ⟨r, a, b, t, u, v, n, news, rfl, hh, F, N, hr, hsm, hn, hsz, fun _ ⟨g, e⟩ => e ▸ h g⟩
theorem down_st {I : Addr} {a : Int} {n : Nat} : ∀ i (h h' : Heap) (o : Obj) (nw : List (Addr × Obj)), IsRangeIter h I (a + (i : Nat) * (-1)) ((n : Int) - (i : Nat)) (-1) → h.get? I = some o → h'.get? I = some o → (∀ b o, h₀.get? b = some o → h'.get? b = some o) → News h₀ L h' nw → True → IsRangeIter h' I (a + (i : Nat) * (-1)) ((n : Int) - (i : Nat)) (-1) :=
  fun i h h' o nw st e e' _ _ _ => by
    have q : h.get? I = some _ := st
    show h'.get? I = some _
    rw [e', ← e]; exact q
theorem lc_down {elt iter : Expr} {x : Str} {px : Pos} {scope : Scope} {cl : List (Str × Addr)} {pos : Pos} {Q : Value → Shared → Prop} (F₀ : Fr h₀ L s.heap m)
    (hclos : closureFor scope env = pure cl) (hcell : ∀ y ∈ scope.names, y.2 ≠ .cell) (hkind : scope.kind = .function)
    (hnames : ∀ y ∈ scope.names, y.2 = .local → scope.names.lookup y.1 = some .local) (hx : scope.names.lookup x = some .local)
    (h : wpAny (model prog w) A (eval iter env) (CompSrcDn prog w A h₀ L m env elt x scope cl (fun s₂ => LCg.FinE h₀ L m s₂ Q)) E s)
    (hs : ∀ x, foldedSetIterable iter env x = pure x) :
    wpAny (model prog w) A (eval (.ListComp elt [⟨.Name x px, iter, [], 0⟩] scope pos) env) Q E s := by
  rw [eval_ListComp]
  refine wpAny_comprehension_free (use := none) rfl hs hclos hkind hnames (wpAny_mono h (fun xv s₁ q => ?_) fun _ _ e => e)
  obtain ⟨r, a, b, t, u, v, n, news, rfl, hh, F, N, hr, hsm, hn, hsz, R⟩ := q
  refine wpAny_pyIter_range hr hsm (LCg.block_U (Walks.range hh _ a (-1) n) hsz (fun i h st => ⟨_, st⟩) down_st hcell hkind hx ?_ ?_
    (F.keeps fun _ _ e => Heap.get?_push_of_some _ e) (N.grown fun _ _ e => Heap.get?_push_of_some _ e) (Nat.ne_of_lt F.ns.lt) (next_is_new F) (fun p hp => Nat.ne_of_lt (Heap.lt_size (N p hp).1)) trivial (R _ ⟨_, rfl⟩) ?_)
  · show IsRangeIter _ _ _ _ _
    rw [hn]; simpa using Heap.get?_push_size _ rfl
  · intro b hb
    rw [List.mem_singleton.mp hb]
    show s₁.heap.objs.size < (s₁.heap.push _).objs.size
    rw [Heap.size_push]; exact Nat.lt_succ_self _
  · intro D C h tk m' ys news' F' N' o1 hn hC₀ hD₀ hCL hDL hCD offC fin
    refine ⟨m', hn, fun h'' hs'' => fin D h'' tk (F'.change hs'' hCL hC₀) (fun p hp => ⟨hs''.extBut _ _ ?_ (N' p hp).1, (N' p hp).2⟩) o1⟩
    rcases List.mem_cons.mp hp with rfl | hp
    · exact Ne.symm hCD
    · exact offC p hp
end
end Lcd
section Cmp
section
variable {prog : Program} {w : World} {A : Around} {s : Shared} {h₀ : Heap} {L : Addr} {m : Str → Option Value} {env : Env} {elt : Expr} {x : Str} {scope : Scope} {cl : List (Str × Addr)} {S : List (Addr × Obj) → Prop} {P : Nat → Value → Prop} {Fin : List Value → List (Addr × Obj) → Prop}
theorem rules_Cmp_1 : True := by
  k_with_none
  k_with "exec If" => (refine wpAny_If ?_)
  trivial
/-- a turn of a comprehension, from what holds before it -/
noncomputable def CompTurn (prog : Program) (w : World) (A : Around) (h₀ : Heap) (L : Addr) (m : Str → Option Value) (env : Env) (elt : Expr) (x : Str) (scope : Scope) (cl : List (Str × Addr)) (s : Shared) (S : List (Addr × Obj) → Prop) (P : Nat → Value → Prop)
    (Γ : Nat → List Value → List (Addr × Obj) → Prop) (n : Nat) : Prop :=
  ∀ i ys news v I oI C oC D m₂ h tk (E' : Value → Shared → Prop), i < n → P i v → Γ i ys news → LCg.NsObj oC m₂ → m₂ x = some v → Fr h₀ L h m → News h₀ L h ((I, oI) :: (C, oC) :: (D, LCg.lst ys) :: news) → LCg.Off3 I C D news → ((@Ne Nat I C) ∧ (@Ne Nat I D) ∧ (@Ne Nat C D)) →
    wpAny (model prog w) A (eval elt (compEnvC scope cl C env)) (LCg.CompEnd h₀ L m { s with heap := h, toks := tk } I oI C oC D (LCg.lst ys) S (fun y news' => Γ (i + 1) (ys ++ [y]) news')) E' { s with heap := h, toks := tk }
theorem comp_ind {Γ : Nat → List Value → List (Addr × Obj) → Prop} {n : Nat} (T : ∀ s, CompTurn prog w A h₀ L m env elt x scope cl s S P Γ n) (fin : ∀ ys news, Γ n ys news → Fin ys news) :
    ∀ (k i : Nat) (ys : List Value) (news : List (Addr × Obj)), i + k = n → Γ i ys news → LCg.CompRest prog w A h₀ L m env elt x scope cl s S P Fin k i ys news
  | 0, i, ys, news, e, g => by
    subst e; exact fin ys news g
  | k + 1, i, ys, news, e, g => by
    refine LCg.CompRest.succ fun v I oI C oC D m₂ h tk E' hP hC hx F N off ne => ?_
    refine wpAny_mono (T s i ys news v I oI C oC D m₂ h tk E' (by omega) hP g hC hx F N off ne) (fun y s₂ q => ?_) fun _ _ e => e
    obtain ⟨h', tk', news', a, b, c, d, f, r⟩ := q
    exact ⟨h', tk', news', a, b, c, d, f, comp_ind T fin k (i + 1) _ _ (by omega) r⟩
/-- a turn that makes nothing -/
theorem compEnd_same {I C D : Addr} {oI oC oD : Obj} {news : List (Addr × Obj)} {s₁ : Shared} {rest : Value → List (Addr × Obj) → Prop} {y : Value} {h' : Heap} {tk : Nat} (F : Fr h₀ L h' m) (N : News h₀ L h' ((I, oI) :: (C, oC) :: (D, oD) :: news)) (off : LCg.Off3 I C D news) (hS : S news) (r : rest y news) :
    LCg.CompEnd h₀ L m s₁ I oI C oC D oD S rest y { s₁ with heap := h', toks := tk } := ⟨h', tk, news, rfl, F, N, off, hS, r⟩
end
theorem strs_snoc {ys : List Value} {f : Nat → Str} {i : Nat} {t : Tok} {y : Str} (h : StrsAre ys ((List.range i).map f)) (e : y = f i) : StrsAre (ys ++ [.str y t]) ((List.range (i + 1)).map f) := by
  rw [List.range_succ, List.map_append, e]
  exact StrsAre.append' h (.cons _ _ .nil)
/-- where the walk stands still -/
noncomputable def Halt (P : Prop) : Prop := P
theorem Halt.out {P : Prop} (h : Halt P) : P := h
theorem news_tail {h₀ h : Heap} {L : Addr} {p : Addr × Obj} {l : List (Addr × Obj)} (N : News h₀ L h (p :: l)) : News h₀ L h l := fun q hq => N q (.tail _ hq)
theorem take_snoc0 {α : Type} {l : List α} {i : Nat} {a : α} (h : l[i]? = some a) : l.take (i + 1) = l.take i ++ [a] := by
  rw [List.take_succ, h]; rfl
end Cmp
section Upd
section
variable {w : World} {A : Around} {E : Value → Shared → Prop} {s : Shared} {h₀ : Heap} {m : Str → Option Value} {news : List (Addr × Obj)}
theorem rules_Upd_1 : True := by
  k_with_none
  k_with "exec If" => (refine wpAny_If ?_)
  trivial
/-- what a turn leaves that may go on by «continue» -/
noncomputable def TurnEndC (h₀ : Heap) (L : Addr) (I : Addr) (oI : Obj) (J : (Str → Option Value) → List (Addr × Obj) → Prop) (Qr : Value → Shared → Prop) (s₁ : Shared) (fl : Flow) (s₂ : Shared) : Prop :=
  match fl with
  | .ret v => Qr v s₂
  | .brk => False
  | _ => ∃ h' tk m' nw, s₂ = { s₁ with heap := h', toks := tk } ∧ Fr h₀ L h' m' ∧ News h₀ L h' ((I, oI) :: nw) ∧ (∀ p ∈ nw, @Ne Nat p.1 I) ∧ J m' nw
theorem loop_bytes {env : Env} {x : Str} {body : List Stmt} {Q : Flow → Shared → Prop} {b : Array UInt8} {tb : Tok} (J : Nat → (Str → Option Value) → List (Addr × Obj) → Prop) (hh : A.handled = none)
    (F : Fr h₀ env.locals s.heap m) (N : News h₀ env.locals s.heap news) (h0 : J 0 m news)
    (turn : ∀ i (c : UInt8) t m₁ nw I oI h tk, b[i]? = some c → J i m₁ nw → (∀ p ∈ nw, @Ne Nat p.1 I) → Fr h₀ env.locals h (fun y => if y = x then some (.int ((c.toNat : Nat) : Int) t) else m₁ y) → News h₀ env.locals h ((I, oI) :: nw) →
      wpAny (MM w) A (execs body env) (TurnEndC h₀ env.locals I oI (J (i + 1)) (fun v s' => Q (.ret v) s') { s with heap := h, toks := tk }) E { s with heap := h, toks := tk })
    (done : ∀ m₁ nw h tk, J b.size m₁ nw → Fr h₀ env.locals h m₁ → News h₀ env.locals h nw → Q .next { s with heap := h, toks := tk }) :
    wpAny (MM w) A (pyIter (.bytes b tb)) (fun it s₂ => LoopAtV PG w A h₀ env x body Q E it s₂) E s := by
  refine KBw.pyIter_bytes ?_
  have W := KBw.walks (prog := PG) (w := w) hh s.heap.objs.size b tb
  have hnI : ∀ q ∈ news, q.1 ∉ [s.heap.objs.size] := fun q hq h => by
    rw [List.mem_singleton] at h
    have := Heap.lt_size (N q hq).1
    rw [h] at this
    exact absurd this (Nat.lt_irrefl _)
  have hkp : ∀ b' o, s.heap.get? b' = some o → (s.heap.push { cls := .type "bytes_iterator", data := .fields #[.bytes b tb, .int 0 0] }).get? b' = some o := fun b' o e => Heap.get?_push_of_some _ e
  have hIn : h₀.get? s.heap.objs.size = none := by
    cases q : h₀.get? s.heap.objs.size with
    | none => rfl
    | some o => exact absurd (Heap.lt_size (F.keep _ o q)) (Nat.lt_irrefl _)
  refine ⟨s.heap.objs.size, [s.heap.objs.size], [s.heap.objs.size], b.size, _, _, m, news, J, rfl, W, ?_, ?_, hnI, ⟨_, Heap.get?_push_size _ rfl, rfl, rfl⟩, fr_keep F hkp, news_keep N hkp, h0, ?_, ?_⟩
  · intro h
    have := F.ns.lt
    rw [List.mem_singleton.mp h] at this; exact Nat.lt_irrefl _ this
  · intro b' hb
    rw [List.mem_singleton.mp hb]
    exact hIn
  · rintro i v m₁ news₁ _ own ⟨h₁, tk₁, rfl⟩ hi ⟨c, u, hc, rfl⟩ hJ hna hof hog hoa hSt F₁ N₁
    obtain ⟨oI, hoI, hcI, hdI⟩ := id hSt
    have hmI := hoa s.heap.objs.size (.head _) hIn oI hoI
    have hown : ∀ p ∈ own, p = (s.heap.objs.size, oI) := fun p hp => by
      have h1 := hof p hp
      rw [List.mem_singleton] at h1
      have h2 := hog p hp
      rw [h1, hoI] at h2
      obtain ⟨a, b'⟩ := p
      dsimp only at h1 h2
      rw [h1, Option.some.inj h2]
    have N₂ : News h₀ env.locals h₁ ((s.heap.objs.size, oI) :: news₁) := fun q hq => by
      rcases List.mem_cons.mp hq with rfl | hq
      · exact N₁ _ (List.mem_append_left _ hmI)
      · exact N₁ _ (List.mem_append_right _ hq)
    refine wpAny_mono (turn i c u m₁ news₁ s.heap.objs.size oI h₁ tk₁ hc hJ (fun p hp e => hna p hp (by rw [e]; exact .head _)) F₁ N₂) (fun fl s₃ q => ?_) fun _ _ e => e
    have fin : (∃ h' tk m' nw, s₃ = { s with heap := h', toks := tk } ∧ Fr h₀ env.locals h' m' ∧ News h₀ env.locals h' ((s.heap.objs.size, oI) :: nw) ∧ (∀ p ∈ nw, @Ne Nat p.1 s.heap.objs.size) ∧ J (i + 1) m' nw) → LoopStepU h₀ env.locals [s.heap.objs.size] own (J (i + 1)) { s with heap := h₁, toks := tk₁ } .next s₃ := by
      rintro ⟨h', tk, m', nw, rfl, F', N', hne, hJ'⟩
      refine ⟨rfl, h', tk, m', nw, rfl, F', fun p hp => ?_, fun p hp e => hne p hp (List.mem_singleton.mp e), hJ'⟩
      rcases List.mem_append.mp hp with hp | hp
      · rw [hown p hp]; exact N' _ (.head _)
      · exact N' _ (.tail _ hp)
    cases fl with
    | ret v => exact .ret q
    | next => exact .next (fin q)
    | cont => exact .cont (fin q)
    | brk => exact q.elim
  · intro h' tk m' news' F' N' _ hJ
    exact done m' news' h' tk hJ F' N'
end
section
variable {M : Model} {A : Around} {E : Value → Shared → Prop} {h₀ hp : Heap} {L a : Addr} {m : Str → Option Value} {cn : Str} {cs : Scope} {ccd : Value} {cl : List (Str × Addr)} {x : Str} {v : Value} {Q : Unit → Shared → Prop} {news : List (Addr × Obj)} {g : Array GenState} {d : Drawn} {tk : Nat} {os : OsState}
/-- a frame's map after one store -/
noncomputable def upd (m : Str → Option Value) (x : Str) (v : Value) : Str → Option Value := fun y => if y = x then some v else m y
theorem upd_here {m : Str → Option Value} {x : Str} {v : Value} : upd m x v x = some v := if_pos rfl
theorem upd_there {m : Str → Option Value} {x y : Str} {v u : Value} (h : y ≠ x) (e : m y = some u) : upd m x v y = some u := (if_neg h).trans e
theorem storeU (F : Fr h₀ L hp m) (N : News h₀ L hp news) (h : ∀ h' tk', Fr h₀ L h' (upd m x v) → News h₀ L h' news → Q () ⟨h', g, d, tk', os⟩)
    (hk : cs.kind = .function) (hx : (envX cn cs L a ccd cl).kindOf x = some .local) : wpAny M A (storeName (envX cn cs L a ccd cl) x v) Q E ⟨hp, g, d, tk, os⟩ :=
  storeX_L F N (fun h' F' N' => h h' _ F' N') hk hx
theorem storeUI {n : Int} {t : Tok} (F : Fr h₀ L hp m) (N : News h₀ L hp news) (h : ∀ h' tk' t', Fr h₀ L h' (upd m x (.int n t')) → News h₀ L h' news → Q () ⟨h', g, d, tk', os⟩)
    (hk : cs.kind = .function) (hx : (envX cn cs L a ccd cl).kindOf x = some .local) : wpAny M A (storeName (envX cn cs L a ccd cl) x (.int n t)) Q E ⟨hp, g, d, tk, os⟩ :=
  storeX_L F N (fun h' F' N' => h h' _ t F' N') hk hx
end
theorem upd2 {o I : Addr} {oI a b : Obj} (h : @Ne Nat o I) : Upd o a b [(I, oI), (o, a)] [(I, oI), (o, b)] :=
  .tail (fun e => h e.symm) (.head fun _ hp => nomatch hp)
theorem ldE {M : Model} {A : Around} {E : Value → Shared → Prop} {s : Shared} {h₀ : Heap} {m : Str → Option Value} {env : Env} {x : Str} {pos : Pos} {v : Value} {Q : Value → Shared → Prop} (F : Fr h₀ env.locals s.heap m) (hv : m x = some v) (h : Q v s)
    (hk : env.scope.kind = .function) (hl : env.kindOf x = some .local) (hd : (x == ("__debug__" : Str)) = false) :
    wpAny M A (eval (.Name x pos) env) Q E s := wpAny_Name (wpAny_loadName_local hk hl F.ns hv h) hd
end Upd
section Buf
section
theorem rules_Buf_1 : True := by
  k_with_none
  k_with "exec If" => (refine wpAny_If ?_)
  k_with "storeName" => ((k_here; k_dflt (first | (refine' storeUI ?F ?N ?_ ?a ?b; (case F => k_asm); (case N => k_asm); (case a => rfl); (case b => rfl); k_whole; intro h' tk' t' F' N'; (try k_sweep)) | (refine' storeU ?F ?N ?_ ?a ?b; (case F => k_asm); (case N => k_asm); (case a => rfl); (case b => rfl); k_whole; intro h' tk' F' N'; (try k_sweep)))))
  k_with "eval Name" => ((k_here; k_dflt (refine' ldE ?k1 ?k2 ?_ (by rfl) (by rfl) (by decide); (case k1 => k_asm); (case k2 => ((repeat (first | with_reducible assumption | (with_reducible exact upd_here) | (with_reducible apply upd_there; (focus (decide))))); done)); k_whole)))
  k_with "call type:type" => (((with_reducible show wpAny _ _ (call _ [Value.bytes _ _]) _ _ _); refine call_type_of (Tx := "bytes") rfl (by decide +kernel) ?_))
  trivial
theorem buf_spec {w : World} {A : Around} {s : Shared} {Q E : Value → Shared → Prop} (R : Rdy w 700 A s.heap) (b : Array UInt8) (t : Tok)
    (hret : ∀ h' tk', (∀ b o, s.heap.get? b = some o → h'.get? b = some o) → Q (.bytes b t) { s with heap := h', toks := tk' }) :
    wpAny (MM w) A (call (.ref 168) [.bytes b t]) Q E s := by
  rcases s with ⟨hp, gs, dr, tk0, os⟩
  dsimp only at R hret ⊢
  refine R.go ?_
  intro gd base fs p loose mean mg mb B X T
  dsimp only [MM]; revert X; k_fill; intro X
  refine' wpAny_call (enterP B X T ?ho ?hcd ?hroom ?hbind ?hloc ?_ ?c1 ?c2 ?c3 ?c4)
  case ho => k_is
  case hcd => k_is
  case hroom => exact Nat.le_of_ble_eq_true rfl
  case hbind => first | exact BindsTo.of_eq rfl | exact binds_K (by k_in) rfl (by k_is) rfl rfl rfl
  case hloc => exact locs rfl
  case c1 => rfl
  case c2 => rfl
  case c3 => rfl
  case c4 => decide
  intro L' h₁ F' N'
  replace F' : Fr hp L' h₁ (fun y => List.lookup y [("data", .bytes b t)]) := F'
  try dsimp only
  (try show wpAny _ _ _ _ _ _)
  (try k_fold)
  k_steps
  exact hret _ _ (Fr.keep (by assumption))
theorem asb_spec {w : World} {A : Around} {s : Shared} {Q E : Value → Shared → Prop} (R : Rdy w 700 A s.heap) (b : Array UInt8) (t : Tok)
    (hret : ∀ h' tk', (∀ b o, s.heap.get? b = some o → h'.get? b = some o) → Q (.bytes b t) { s with heap := h', toks := tk' }) :
    wpAny (MM w) A (call (.ref 161) [.bytes b t]) Q E s := by
  rcases s with ⟨hp, gs, dr, tk0, os⟩
  dsimp only at R hret ⊢
  refine R.go ?_
  intro gd base fs p loose mean mg mb B X T
  dsimp only [MM]; revert X; k_fill; intro X
  refine' wpAny_call (enterP B X T ?ho ?hcd ?hroom ?hbind ?hloc ?_ ?c1 ?c2 ?c3 ?c4)
  case ho => k_is
  case hcd => k_is
  case hroom => exact Nat.le_of_ble_eq_true rfl
  case hbind => first | exact BindsTo.of_eq rfl | exact binds_K (by k_in) rfl (by k_is) rfl rfl rfl
  case hloc => exact locs rfl
  case c1 => rfl
  case c2 => rfl
  case c3 => rfl
  case c4 => decide
  intro L' h₁ F' N'
  replace F' : Fr hp L' h₁ (fun y => List.lookup y [("data", .bytes b t)]) := F'
  try dsimp only
  (try show wpAny _ _ _ _ _ _)
  (try k_fold)
  k_steps
  exact hret _ _ (Fr.keep (by assumption))
theorem tru_spec {w : World} {A : Around} {s : Shared} {Q E : Value → Shared → Prop} (R : Rdy w 700 A s.heap) 
    (hret : ∀ h' tk', (∀ b o, s.heap.get? b = some o → h'.get? b = some o) → Q (.bool false) { s with heap := h', toks := tk' }) :
    wpAny (MM w) A (call (.ref 175) [.bool false]) Q E s := by
  rcases s with ⟨hp, gs, dr, tk0, os⟩
  dsimp only at R hret ⊢
  refine R.go ?_
  intro gd base fs p loose mean mg mb B X T
  dsimp only [MM]; revert X; k_fill; intro X
  refine' wpAny_call (enterP B X T ?ho ?hcd ?hroom ?hbind ?hloc ?_ ?c1 ?c2 ?c3 ?c4)
  case ho => k_is
  case hcd => k_is
  case hroom => exact Nat.le_of_ble_eq_true rfl
  case hbind => first | exact BindsTo.of_eq rfl | exact binds_K (by k_in) rfl (by k_is) rfl rfl rfl
  case hloc => exact locs rfl
  case c1 => rfl
  case c2 => rfl
  case c3 => rfl
  case c4 => decide
  intro L' h₁ F' N'
  replace F' : Fr hp L' h₁ (fun y => List.lookup y [("x", .bool false)]) := F'
  try dsimp only
  (try show wpAny _ _ _ _ _ _)
  (try k_fold)
  k_steps
  exact hret _ _ (Fr.keep (by assumption))
end
end Buf
section Modname
section
theorem rules_Modname_1 : True := by
  k_with_none
  k_with "exec If" => (refine wpAny_If ?_)
  k_with "storeName" => ((k_here; k_dflt (first | (refine' storeUI ?F ?N ?_ ?a ?b; (case F => k_asm); (case N => k_asm); (case a => rfl); (case b => rfl); k_whole; intro h' tk' t' F' N'; (try k_sweep)) | (refine' storeU ?F ?N ?_ ?a ?b; (case F => k_asm); (case N => k_asm); (case a => rfl); (case b => rfl); k_whole; intro h' tk' F' N'; (try k_sweep)))))
  k_with "eval Name" => ((k_here; k_dflt (refine' ldE ?k1 ?k2 ?_ (by rfl) (by rfl) (by decide); (case k1 => k_asm); (case k2 => ((repeat (first | with_reducible assumption | (with_reducible exact upd_here) | (with_reducible apply upd_there; (focus (decide))))); done)); k_whole)))
  trivial
theorem fsp_spec {w : World} {A : Around} {s : Shared} {Q E : Value → Shared → Prop} (R : Rdy w 640 A s.heap) (nm x : Str) (tn tx : Tok)
    (hret : ∀ h' tk', (∀ b o, s.heap.get? b = some o → h'.get? b = some o) → Q (.str x tx) { s with heap := h', toks := tk' }) :
    wpAny (MM w) A (call (.ref 52) [.str nm tn, .str x tx]) Q E s := by
  rcases s with ⟨hp, gs, dr, tk0, os⟩
  dsimp only at R hret ⊢
  refine R.go ?_
  intro gd base fs p loose mean mg mb B X T
  dsimp only [MM]; revert X; k_fill; intro X
  refine' wpAny_call (enterP B X T ?ho ?hcd ?hroom ?hbind ?hloc ?_ ?c1 ?c2 ?c3 ?c4)
  case ho => k_is
  case hcd => k_is
  case hroom => exact Nat.le_of_ble_eq_true rfl
  case hbind => first | exact BindsTo.of_eq rfl | exact binds_K (by k_in) rfl (by k_is) rfl rfl rfl
  case hloc => exact locs rfl
  case c1 => rfl
  case c2 => rfl
  case c3 => rfl
  case c4 => decide
  intro L' h₁ F' N'
  replace F' : Fr hp L' h₁ (fun y => List.lookup y [("x", .str x tx), ("name", .str nm tn)]) := F'
  try dsimp only
  (try show wpAny _ _ _ _ _ _)
  (try k_fold)
  k_steps
  exact hret _ _ (Fr.keep (by assumption))
noncomputable abbrev baseF (x : Str) : Str := Txt.slice x (some (Txt.rfind x (Str.ofString "/") + 1)) none
theorem rules_Modname_2 : True := by
  k_with_none
  k_with "exec If" => (refine wpAny_If ?_)
  k_with "storeName" => ((k_here; k_dflt (first | (refine' storeUI ?F ?N ?_ ?a ?b; (case F => k_asm); (case N => k_asm); (case a => rfl); (case b => rfl); k_whole; intro h' tk' t' F' N'; (try k_sweep)) | (refine' storeU ?F ?N ?_ ?a ?b; (case F => k_asm); (case N => k_asm); (case a => rfl); (case b => rfl); k_whole; intro h' tk' F' N'; (try k_sweep)))))
  k_with "eval Name" => ((k_here; k_dflt (refine' ldE ?k1 ?k2 ?_ (by rfl) (by rfl) (by decide); (case k1 => k_asm); (case k2 => ((repeat (first | with_reducible assumption | (with_reducible exact upd_here) | (with_reducible apply upd_there; (focus (decide))))); done)); k_whole)))
  k_with "call ref" => ((k_here; (with_reducible show wpAny _ _ (call (Value.ref 52) [Value.str _ _, Value.str _ _]) _ _ _); k_dflt (refine' fsp_spec (Rdy.of_walk ?B ?F ?X ?T rfl rfl (Nat.le_of_ble_eq_true rfl) (Nat.le_of_ble_eq_true rfl) rfl) _ _ _ _ ?_; (case F => k_asm); (case B => k_asm); (case X => k_asm); (case T => k_asm); k_whole); intro h9 tk9 hk9; (have F9 := fr_keep (by with_reducible assumption) hk9); (have N9 := news_keep (by with_reducible assumption) hk9); (try dsimp only)))
  trivial
theorem base_spec {w : World} {A : Around} {s : Shared} {Q E : Value → Shared → Prop} (R : Rdy w 620 A s.heap) (x : Str) (tx : Tok) (hlen : x.length ≤ 1000)
    (hret : ∀ t h' tk', (∀ b o, s.heap.get? b = some o → h'.get? b = some o) → Q (.str (baseF x) t) { s with heap := h', toks := tk' }) :
    wpAny (MM w) A (call (.ref 80) [.str x tx]) Q E s := by
  rcases s with ⟨hp, gs, dr, tk0, os⟩
  dsimp only at R hret ⊢
  refine R.go ?_
  intro gd base fs p loose mean mg mb B X T
  dsimp only [MM]; revert X; k_fill; intro X
  refine' wpAny_call (enterP B X T ?ho ?hcd ?hroom ?hbind ?hloc ?_ ?c1 ?c2 ?c3 ?c4)
  case ho => k_is
  case hcd => k_is
  case hroom => exact Nat.le_of_ble_eq_true rfl
  case hbind => first | exact BindsTo.of_eq rfl | exact binds_K (by k_in) rfl (by k_is) rfl rfl rfl
  case hloc => exact locs rfl
  case c1 => rfl
  case c2 => rfl
  case c3 => rfl
  case c4 => decide
  intro L' h₁ F' N'
  replace F' : Fr hp L' h₁ (fun y => List.lookup y [("p", .str x tx)]) := F'
  try dsimp only
  (try show wpAny _ _ _ _ _ _)
  (try k_fold)
  k_steps
  exact hret _ _ _ (Fr.keep (by assumption))
theorem no_all_dots {sep dot n : Int} {b : Str} (h1 : sep + 1 < dot) (h2 : Txt.slice b (some (sep + 1)) (some (sep + 1 + 1)) ≠ Str.ofString ".")
    (P : Passed (fun j => decide (sep + 1 + 1 * j < dot)) (fun j => if (Txt.slice b (some (sep + 1 + 1 * j)) (some (sep + 1 + 1 * j + 1)) != Str.ofString ".") = true then true else false) n)
    (he : dot ≤ sep + 1 + 1 * n) : False := by
  have q := P 0 (Int.le_refl 0) (by omega)
  have q2 := q.2
  simp only [Int.mul_zero, Int.add_zero] at q2
  rw [if_pos (by simpa using h2)] at q2
  cases q2
theorem rules_Modname_3 : True := by
  k_with_none
  k_with "exec If" => (refine wpAny_If ?_)
  k_with "storeName" => ((k_here; k_dflt (first | (refine' storeUI ?F ?N ?_ ?a ?b; (case F => k_asm); (case N => k_asm); (case a => rfl); (case b => rfl); k_whole; intro h' tk' t' F' N'; (try k_sweep)) | (refine' storeU ?F ?N ?_ ?a ?b; (case F => k_asm); (case N => k_asm); (case a => rfl); (case b => rfl); k_whole; intro h' tk' F' N'; (try k_sweep)))))
  k_with "eval Name" => ((k_here; k_dflt (refine' ldE ?k1 ?k2 ?_ (by rfl) (by rfl) (by decide); (case k1 => k_asm); (case k2 => ((repeat (first | with_reducible assumption | (with_reducible exact upd_here) | (with_reducible apply upd_there; (focus (decide))))); done)); k_whole)))
  k_with "call ref" => ((k_here; (with_reducible show wpAny _ _ (call (Value.ref 52) [Value.str _ _, Value.str _ _]) _ _ _); k_dflt (refine' fsp_spec (Rdy.of_walk ?B ?F ?X ?T rfl rfl (Nat.le_of_ble_eq_true rfl) (Nat.le_of_ble_eq_true rfl) rfl) _ _ _ _ ?_; (case F => k_asm); (case B => k_asm); (case X => k_asm); (case T => k_asm); k_whole); intro h9 tk9 hk9; (have F9 := fr_keep (by with_reducible assumption) hk9); (have N9 := news_keep (by with_reducible assumption) hk9); (try dsimp only)))
  k_with "call ref" => (first | (k_here; (with_reducible show wpAny _ _ (call (Value.ref 52) [Value.str _ _, Value.str _ _]) _ _ _); k_dflt (refine' fsp_spec (Rdy.of_walk ?B ?F ?X ?T rfl rfl (Nat.le_of_ble_eq_true rfl) (Nat.le_of_ble_eq_true rfl) rfl) _ _ _ _ ?_; (case F => k_asm); (case B => k_asm); (case X => k_asm); (case T => k_asm); k_whole); intro h9 tk9 hk9; (have F9 := fr_keep (by with_reducible assumption) hk9); (have N9 := news_keep (by with_reducible assumption) hk9); (try dsimp only)) | (k_here; (with_reducible show wpAny _ _ (call (Value.ref 80) [Value.str _ _]) _ _ _); k_dflt (refine' base_spec (Rdy.of_walk ?B ?F ?X ?T rfl rfl (Nat.le_of_ble_eq_true rfl) (Nat.le_of_ble_eq_true rfl) rfl) _ _ (by with_reducible assumption) ?_; (case F => k_asm); (case B => k_asm); (case X => k_asm); (case T => k_asm); k_whole); intro t9 h9 tk9 hk9; (have F9 := fr_keep (by with_reducible assumption) hk9); (have N9 := news_keep (by with_reducible assumption) hk9); (try dsimp only)))
  trivial
theorem modname_dot {w : World} {A : Around} {s : Shared} {Q E : Value → Shared → Prop} (R : Rdy w 600 A s.heap) (x : Str) (tx : Tok) (hlen : x.length ≤ 1000)
    (h1 : Txt.rfind (baseF x) (Str.ofString "/") + 1 < Txt.rfind (baseF x) (Str.ofString "."))
    (h2 : Txt.slice (baseF x) (some (Txt.rfind (baseF x) (Str.ofString "/") + 1)) (some (Txt.rfind (baseF x) (Str.ofString "/") + 1 + 1)) ≠ Str.ofString ".")
    (hret : ∀ t h' tk', (∀ b o, s.heap.get? b = some o → h'.get? b = some o) → Q (.str (Txt.slice (baseF x) none (some (Txt.rfind (baseF x) (Str.ofString ".")))) t) { s with heap := h', toks := tk' }) :
    wpAny (MM w) A (call (.ref 128) [.str x tx]) Q E s := by
  rcases s with ⟨hp, gs, dr, tk0, os⟩
  dsimp only at R hret ⊢
  refine R.go ?_
  intro gd base fs p loose mean mg mb B X T
  dsimp only [MM]; revert X; k_fill; intro X
  refine' wpAny_call (enterP B X T ?ho ?hcd ?hroom ?hbind ?hloc ?_ ?c1 ?c2 ?c3 ?c4)
  case ho => k_is
  case hcd => k_is
  case hroom => exact Nat.le_of_ble_eq_true rfl
  case hbind => exact BindsTo.of_eq rfl
  case hloc => exact locs rfl
  case c1 => rfl
  case c2 => rfl
  case c3 => rfl
  case c4 => decide
  intro L' h₁ F' N'
  replace F' : Fr hp L' h₁ (fun y => List.lookup y [("path", .str x tx)]) := F'
  have hlb : (baseF x).length ≤ 1000 := Nat.le_trans (Txt.slice_le _ _ _) hlen
  try dsimp only
  (try show wpAny _ _ _ _ _ _)
  (try k_fold)
  k_steps
  all_goals first | exact hret _ _ _ (Fr.keep (by assumption)) | (exfalso; exact no_all_dots h1 h2 (by assumption) (by assumption)) | (exfalso; omega) | trace_state
theorem modname_plain {w : World} {A : Around} {s : Shared} {Q E : Value → Shared → Prop} (R : Rdy w 600 A s.heap) (x : Str) (tx : Tok) (hlen : x.length ≤ 1000)
    (h1 : ¬ (Txt.rfind (baseF x) (Str.ofString "/") < Txt.rfind (baseF x) (Str.ofString ".")))
    (hret : ∀ t h' tk', (∀ b o, s.heap.get? b = some o → h'.get? b = some o) → Q (.str (baseF x) t) { s with heap := h', toks := tk' }) :
    wpAny (MM w) A (call (.ref 128) [.str x tx]) Q E s := by
  rcases s with ⟨hp, gs, dr, tk0, os⟩
  dsimp only at R hret ⊢
  refine R.go ?_
  intro gd base fs p loose mean mg mb B X T
  dsimp only [MM]; revert X; k_fill; intro X
  refine' wpAny_call (enterP B X T ?ho ?hcd ?hroom ?hbind ?hloc ?_ ?c1 ?c2 ?c3 ?c4)
  case ho => k_is
  case hcd => k_is
  case hroom => exact Nat.le_of_ble_eq_true rfl
  case hbind => exact BindsTo.of_eq rfl
  case hloc => exact locs rfl
  case c1 => rfl
  case c2 => rfl
  case c3 => rfl
  case c4 => decide
  intro L' h₁ F' N'
  replace F' : Fr hp L' h₁ (fun y => List.lookup y [("path", .str x tx)]) := F'
  have hlb : (baseF x).length ≤ 1000 := Nat.le_trans (Txt.slice_le _ _ _) hlen
  try dsimp only
  (try show wpAny _ _ _ _ _ _)
  (try k_fold)
  k_steps
  all_goals exact hret _ _ _ (Fr.keep (by assumption))
end
end Modname
section Row
theorem rules_Row_1 : True := by
  k_with_none
  k_with "exec If" => (refine wpAny_If ?_)
  trivial
theorem pow5_ne (n : Nat) : (5 : Int) ^ n ≠ 0 := Int.pow_ne_zero (by decide)
theorem pow5_noPy {a k y : Int} (h0 : 0 ≤ k) (hy : y < 3) (h1 : k < 0 + ((1 + y - 0).toNat : Int)) : Builtin.divisionGoesByPylong a ((5 : Int) ^ k.toNat) = false := by
  refine PyProof.noPylong_small ?_
  obtain ⟨n, rfl⟩ := Int.eq_ofNat_of_zero_le h0
  have h : n < 3 := by omega
  clear h0 hy h1
  rcases n with _ | _ | _ | n
  · decide
  · decide
  · decide
  · exact absurd h (Nat.not_lt.mpr (Nat.le_add_left 3 n))
theorem rules_Row_2 : True := by
  k_with_none
  k_with "exec If" => (refine wpAny_If ?_)
  k_with "binaryOp FloorDiv int int" => ((refine floordiv_int (pow5_ne _) ?_ (Or.inl (pow5_noPy (by assumption) (by assumption) (by assumption)))))
  trivial
/-- what stands at a place of the menu -/
noncomputable def menuAt (i k : Int) : Int := if i = 0 then 0 else if i = 1 then 10 else if i = 2 then 62 else if i = 3 then 251 else if i = 4 then 255 else k
/-- the row of a number -/
noncomputable def rowF (x : Int) : List Int := (rangeKs 0 (1 + x.fmod 3 - 0).toNat).map fun k => menuAt (((x.fdiv 3).fdiv (5 ^ k.toNat)).fmod 5) k
theorem row_spec {w : World} {A : Around} {s : Shared} {Q E : Value → Shared → Prop} (R : Rdy w 600 A s.heap) (x : Int) (tx : Tok)
    (hret : ∀ D ys h' tk', (∀ b o, s.heap.get? b = some o → h'.get? b = some o) → s.heap.get? D = none → h'.get? D = some (LCg.lst ys) → IntsAre ys (rowF x) → Q (.ref D) { s with heap := h', toks := tk' }) :
    wpAny (MM w) A (call (.ref 287) [.int x tx]) Q E s := by
  refine R.go ?_
  intro gd base fs p loose mean mg mb B X T
  dsimp only [MM]; revert X; k_fill; intro X
  refine' wpAny_call (enterC B X T ?ho ?hcd ?hroom ?hbind ?hkind ?hnd ?_ ?c1 ?c2 ?c3)
  case ho => k_is
  case hcd => k_is
  case hroom => exact Nat.le_of_ble_eq_true rfl
  case hbind => first | exact BindsTo.of_eq rfl | exact binds_K (by k_in) rfl (by k_is) rfl rfl rfl
  case hkind => rfl
  case hnd => decide
  case c1 => rfl
  case c2 => rfl
  case c3 => rfl
  intro L' h₁ tk₁ cells F' N' Y'
  k_cells Y'
  try dsimp only
  (try show wpAny _ _ _ _ _ _)
  (try k_fold)
  k_steps
  rename_i hI _ D h9 tk9 F9 N9 _
  exact hret D _ h9 tk9 F9.keep (N9 _ (.head _)).2.2 (N9 _ (.head _)).1 hI
end Row
section Plain
theorem rules_Plain_1 : True := by
  k_with_none
  k_with "exec If" => (refine wpAny_If ?_)
  trivial
/-- the text of an octet, and of a row -/
noncomputable def octF (o : Int) : Str := Txt.item (Str.ofString "0123456789ABCDEF") (o.fdiv 16) ++ Txt.item (Str.ofString "0123456789ABCDEF") (o.fmod 16)
noncomputable def plainF (r : List Int) : Str := Txt.join (Str.ofString ".") (r.map octF)
theorem oct_len : ∀ o : Fin 256, (octF ((o.1 : Nat) : Int)).length ≤ 2 := by decide +kernel
theorem oct_sum {r : List Int} (hr : ∀ o ∈ r, 0 ≤ o ∧ o < 256) : ((r.map octF).map (·.length)).sum ≤ 2 * r.length := by
  induction r with
  | nil => exact Nat.le_refl _
  | cons o r ih =>
    have h1 := ih fun q hq => hr q (.tail _ hq)
    have h2 : (octF o).length ≤ 2 := by
      have := hr o (.head _)
      have h3 := oct_len ⟨o.toNat, by omega⟩
      rwa [show ((o.toNat : Nat) : Int) = o from by omega] at h3
    rw [List.map_cons, List.map_cons, List.sum_cons, List.length_cons]
    omega
theorem rules_Plain_2 : True := by
  k_with_none
  k_with "exec If" => (refine wpAny_If ?_)
  k_with "CompEnd" => ((refine compEnd_same (by k_asm) (by k_asm) (by with_reducible assumption) (by first | trivial | with_reducible assumption | exact Or.inl (by with_reducible assumption)) ?_))
  k_with "eval ListComp" => ((k_here; k_dflt (refine LCg.ListComp_U (F₀ := by k_asm) (by first | rfl | with_unfolding_all rfl) (by decide) (by rfl) (by decide) (by rfl) ?_)))
  k_with "CompSrc" => ((k_here; k_dflt (refine LCg.CompSrc.base (by rfl) (by k_asm) (by k_asm) (by with_reducible assumption) ?_ ?_); (rotate_left; intro g'; refine Halt.out ?_; rotate_right)))
  trivial
theorem plain_spec {w : World} {A : Around} {s : Shared} {Q E : Value → Shared → Prop} (R : Rdy w 600 A s.heap) (l : Addr) (vs : List Value) (r : List Int) (hl : s.heap.IsList l vs.toArray) (hi : IntsAre vs r) (hr : ∀ o ∈ r, 0 ≤ o ∧ o < 256) (h3 : r.length ≤ 3)
    (hret : ∀ t h' tk', (∀ b o, s.heap.get? b = some o → h'.get? b = some o) → Q (.str (plainF r) t) { s with heap := h', toks := tk' }) :
    wpAny (MM w) A (call (.ref 297) [.ref l]) Q E s := by
  refine R.go ?_
  intro gd base fs p loose mean mg mb B X T
  dsimp only [MM]; revert X; k_fill; intro X
  refine' wpAny_call (enterP B X T ?ho ?hcd ?hroom ?hbind ?hloc ?_ ?c1 ?c2 ?c3 ?c4)
  case ho => k_is
  case hcd => k_is
  case hroom => exact Nat.le_of_ble_eq_true rfl
  case hbind => first | exact BindsTo.of_eq rfl | exact binds_K (by k_in) rfl (by k_is) rfl rfl rfl
  case hloc => exact locs rfl
  case c1 => rfl
  case c2 => rfl
  case c3 => rfl
  case c4 => decide
  intro L' h₁ F' N'
  replace F' : Fr s.heap L' h₁ (fun y => List.lookup y [("row", .ref l)]) := F'
  try dsimp only
  (try show wpAny _ _ _ _ _ _)
  (try k_fold)
  k_steps
  · rw [List.size_toArray, IntsAre.length hi, sizeLine_eq]; omega
  unfold Halt
  refine comp_ind (Γ := fun i ys nw => nw = _ ∧ StrsAre ys ((r.take i).map octF)) ?T ?fin _ 0 [] _ (Nat.zero_add _) ⟨rfl, .nil⟩
  case T =>
    intro s0 i ys news v I oI C oC D m₂ h tk E' hin hP hΓ hC hx F N off ne
    obtain ⟨rfl, hS⟩ := hΓ
    obtain ⟨o, t, rfl, ho⟩ := IntsAre.at hi _ _ (by simpa using hP)
    obtain ⟨hob1, hob2⟩ := hr o (List.mem_of_getElem? ho)
    k_steps
    rw [take_snoc0 ho, List.map_append]
    exact StrsAre.append' hS (.cons _ _ .nil)
  case fin =>
    rintro ys news ⟨rfl, hS⟩
    rw [List.size_toArray, IntsAre.length hi, List.take_length] at hS
    k_steps
    refine join_listW (News.isList (by k_asm) (by k_mem)) hS (by decide) ?_ ?_
    · have := oct_sum hr
      rw [List.length_map]; omega
    intro t' k'
    k_steps
    exact hret _ _ _ (Fr.keep (by assumption))
end Plain
section Sixes
theorem rules_Sixes_1 : True := by
  k_with_none
  k_with "exec If" => (refine wpAny_If ?_)
  k_with "storeName" => ((k_here; k_dflt (first | (refine' storeUI ?F ?N ?_ ?a ?b; (case F => k_asm); (case N => k_asm); (case a => rfl); (case b => rfl); k_whole; intro h' tk' t' F' N'; (try k_sweep)) | (refine' storeU ?F ?N ?_ ?a ?b; (case F => k_asm); (case N => k_asm); (case a => rfl); (case b => rfl); k_whole; intro h' tk' F' N'; (try k_sweep)))))
  k_with "eval Name" => ((k_here; k_dflt (refine' ldE ?k1 ?k2 ?_ (by rfl) (by rfl) (by decide); (case k1 => k_asm); (case k2 => ((repeat (first | with_reducible assumption | (with_reducible exact upd_here) | (with_reducible apply upd_there; (focus (decide))))); done)); k_whole)))
  k_with "exec For Name BinOp cons nil" => ((k_here; (rename Fr _ _ _ _ => lF'); (with_unfolding_all refine' For_turns lF' ?_; k_whole)))
  k_with "eval ListComp" => ((k_here; k_dflt (refine lc_down (F₀ := by k_asm) (by with_unfolding_all rfl) (by decide) (by rfl) (by decide) (by rfl) ?_ (by intro _; rfl))))
  trivial
noncomputable abbrev lettersF (two : Str) : Str := Str.ofString "ABCDEFGHIJKLMNOPQRSTUVWXYZabcdefghijklmnopqrstuvwxyz0123456789" ++ two
theorem letters_len {two : Str} (h : two.length = 2) : (lettersF two).length = 64 := by
  show (Str.ofString "ABCDEFGHIJKLMNOPQRSTUVWXYZabcdefghijklmnopqrstuvwxyz0123456789" ++ two).length = 64
  rw [Str.length_append, h]; decide +kernel
theorem fmod64_lo (n : Int) : -((64 : Nat) : Int) ≤ n.fmod 64 := by
  have := Int.fmod_nonneg_of_pos n (b := 64) (by decide); omega
theorem fmod64_hi (n : Int) : n.fmod 64 < ((64 : Nat) : Int) := Int.fmod_lt_of_pos n (by decide)
theorem rules_Sixes_2 : True := by
  k_with_none
  k_with "exec If" => (refine wpAny_If ?_)
  k_with "storeName" => ((k_here; k_dflt (first | (refine' storeUI ?F ?N ?_ ?a ?b; (case F => k_asm); (case N => k_asm); (case a => rfl); (case b => rfl); k_whole; intro h' tk' t' F' N'; (try k_sweep)) | (refine' storeU ?F ?N ?_ ?a ?b; (case F => k_asm); (case N => k_asm); (case a => rfl); (case b => rfl); k_whole; intro h' tk' F' N'; (try k_sweep)))))
  k_with "eval Name" => ((k_here; k_dflt (refine' ldE ?k1 ?k2 ?_ (by rfl) (by rfl) (by decide); (case k1 => k_asm); (case k2 => ((repeat (first | with_reducible assumption | (with_reducible exact upd_here) | (with_reducible apply upd_there; (focus (decide))))); done)); k_whole)))
  k_with "exec For Name BinOp cons nil" => ((k_here; (rename Fr _ _ _ _ => lF'); (with_unfolding_all refine' For_turns lF' ?_; k_whole)))
  k_with "eval ListComp" => ((k_here; k_dflt (refine lc_down (F₀ := by k_asm) (by with_unfolding_all rfl) (by decide) (by rfl) (by decide) (by rfl) ?_ (by intro _; rfl))))
  k_with "subscriptTail" => ((k_here; (with_reducible show wpAny _ _ (subscriptTail _ _ (Value.str (_ ++ _) _) (Value.int _ _)) _ _ _); (refine KXi.item (letters_len (by assumption)) (fmod64_lo _) (fmod64_hi _) (by decide) ?_); intro kxiE))
  trivial
/-- the letters of the sixes of bits of a number, n of them from the top -/
noncomputable def sixN (num : Int) (n : Nat) (two : Str) : Str := Txt.join (Str.ofString "") ((List.range n).map fun (j : Nat) => Txt.item (lettersF two) ((num.fdiv (64 ^ (3 - j))).fmod 64))
/-- the base-64 text of a row -/
noncomputable def sixF : List Int → Str → Str
  | [x], two => sixN (((0 * 256 + x) * 256 + 0) * 256 + 0) 2 two ++ Txt.mul (Str.ofString "=") 2
  | [x, y], two => sixN (((0 * 256 + x) * 256 + y) * 256 + 0) 3 two ++ Txt.mul (Str.ofString "=") 1
  | [x, y, z], two => sixN (((0 * 256 + x) * 256 + y) * 256 + z) 4 two ++ Txt.mul (Str.ofString "=") 0
  | _, _ => Str.ofString ""
theorem rules_Sixes_3 : True := by
  k_with_none
  k_with "exec If" => (refine wpAny_If ?_)
  k_with "storeName" => ((k_here; k_dflt (first | (refine' storeUI ?F ?N ?_ ?a ?b; (case F => k_asm); (case N => k_asm); (case a => rfl); (case b => rfl); k_whole; intro h' tk' t' F' N'; (try k_sweep)) | (refine' storeU ?F ?N ?_ ?a ?b; (case F => k_asm); (case N => k_asm); (case a => rfl); (case b => rfl); k_whole; intro h' tk' F' N'; (try k_sweep)))))
  k_with "eval Name" => ((k_here; k_dflt (refine' ldE ?k1 ?k2 ?_ (by rfl) (by rfl) (by decide); (case k1 => k_asm); (case k2 => ((repeat (first | with_reducible assumption | (with_reducible exact upd_here) | (with_reducible apply upd_there; (focus (decide))))); done)); k_whole)))
  k_with "exec For Name BinOp cons nil" => ((k_here; (rename Fr _ _ _ _ => lF'); (with_unfolding_all refine' For_turns lF' ?_; k_whole)))
  k_with "eval ListComp" => ((k_here; k_dflt (refine lc_down (F₀ := by k_asm) (by with_unfolding_all rfl) (by decide) (by rfl) (by decide) (by rfl) ?_ (by intro _; rfl))))
  k_with "subscriptTail" => ((k_here; (with_reducible show wpAny _ _ (subscriptTail _ _ (Value.str (_ ++ _) _) (Value.int _ _)) _ _ _); (refine KXi.item (letters_len (by assumption)) (fmod64_lo _) (fmod64_hi _) (by decide) ?_); intro kxiE))
  k_with "CompEnd" => ((refine compEnd_same (by k_asm) (by k_asm) (by with_reducible assumption) trivial ?_))
  trivial
theorem pow64_ne (n : Nat) : (64 : Int) ^ n ≠ 0 := Int.pow_ne_zero (by decide)
theorem pow64_noPy {a : Int} {e i b : Nat} (he : e = b - i) (hb : b ≤ 3) : Builtin.divisionGoesByPylong a ((64 : Int) ^ e) = false := by
  refine PyProof.noPylong_small ?_
  have h : e < 4 := Nat.lt_succ_of_le (Nat.le_trans (he ▸ Nat.sub_le b i) hb)
  clear he hb
  rcases e with _ | _ | _ | _ | e
  · decide
  · decide
  · decide
  · decide
  · exact absurd h (Nat.not_lt.mpr (Nat.le_add_left 4 e))
theorem down3 (i : Nat) : ((3 : Int) + (i : Int) * -1).toNat = 3 - i := by
  rw [Int.mul_neg, Int.mul_one, ← Int.sub_eq_add_neg]
  exact Int.toNat_sub 3 i
theorem rules_Sixes_4 : True := by
  k_with_none
  k_with "exec If" => (refine wpAny_If ?_)
  k_with "storeName" => ((k_here; k_dflt (first | (refine' storeUI ?F ?N ?_ ?a ?b; (case F => k_asm); (case N => k_asm); (case a => rfl); (case b => rfl); k_whole; intro h' tk' t' F' N'; (try k_sweep)) | (refine' storeU ?F ?N ?_ ?a ?b; (case F => k_asm); (case N => k_asm); (case a => rfl); (case b => rfl); k_whole; intro h' tk' F' N'; (try k_sweep)))))
  k_with "eval Name" => ((k_here; k_dflt (refine' ldE ?k1 ?k2 ?_ (by rfl) (by rfl) (by decide); (case k1 => k_asm); (case k2 => ((repeat (first | with_reducible assumption | (with_reducible exact upd_here) | (with_reducible apply upd_there; (focus (decide))))); done)); k_whole)))
  k_with "exec For Name BinOp cons nil" => ((k_here; (rename Fr _ _ _ _ => lF'); (with_unfolding_all refine' For_turns lF' ?_; k_whole)))
  k_with "eval ListComp" => ((k_here; k_dflt (refine lc_down (F₀ := by k_asm) (by with_unfolding_all rfl) (by decide) (by rfl) (by decide) (by rfl) ?_ (by intro _; rfl))))
  k_with "subscriptTail" => ((k_here; (with_reducible show wpAny _ _ (subscriptTail _ _ (Value.str (_ ++ _) _) (Value.int _ _)) _ _ _); (refine KXi.item (letters_len (by assumption)) (fmod64_lo _) (fmod64_hi _) (by decide) ?_); intro kxiE))
  k_with "CompEnd" => ((refine compEnd_same (by k_asm) (by k_asm) (by with_reducible assumption) trivial ?_))
  k_with "binaryOp FloorDiv int int" => ((refine floordiv_int (pow64_ne _) ?_ (Or.inl (pow64_noPy (down3 _) (by decide)))))
  trivial
theorem six_eq {two : Str} {N : Int} {e i : Nat} (h : e = 3 - i) : Txt.item (lettersF two) ((N.fdiv (64 ^ e)).fmod 64) = Txt.item (lettersF two) ((N.fdiv (64 ^ (3 - i))).fmod 64) := by rw [h]
theorem six_len {two : Str} (ht : two.length = 2) {f : Nat → Int} : ∀ l : List Nat, ((l.map fun j => Txt.item (lettersF two) ((f j).fmod 64)).map (·.length)).sum = l.length
  | [] => rfl
  | j :: l => by
    rw [List.map_cons, List.map_cons, List.sum_cons, six_len ht l, List.length_cons, len_item]
    omega
theorem six_form : ∀ (r : List Int), 1 ≤ r.length → r.length ≤ 3 → ∃ (a b c : Int) (k : Nat), k ≤ 2 ∧ (-(r.length : Int)).fmod 3 = (k : Int) ∧ r ++ (List.replicate k [0]).flatten = [a, b, c] ∧ (r.length : Int) + (k : Int) = 3 ∧
    ∀ two, sixF r two = sixN (((0 * 256 + a) * 256 + b) * 256 + c) (4 - k) two ++ Txt.mul (Str.ofString "=") (k : Int)
  | [x], _, _ => ⟨x, 0, 0, 2, by decide, rfl, rfl, rfl, fun _ => rfl⟩
  | [x, y], _, _ => ⟨x, y, 0, 1, by decide, rfl, rfl, rfl, fun _ => rfl⟩
  | [x, y, z], _, _ => ⟨x, y, z, 0, by decide, rfl, rfl, rfl, fun _ => rfl⟩
  | [], h, _ => absurd h (by decide)
  | _ :: _ :: _ :: _ :: _, _, h => absurd h (by simp only [List.length_cons]; omega)
theorem k_three {k : Nat} (h : k ≤ 2) : k = 0 ∨ k = 1 ∨ k = 2 := by omega
theorem six_rng {k : Nat} (h : k ≤ 2) : Builtin.Range.small 3 ((k : Int) - 1) (-1) = true ∧ Builtin.Range.rangeSize 3 ((k : Int) - 1) (-1) = ((4 - k : Nat) : Int) := by
  rcases k_three h with rfl | rfl | rfl <;> exact ⟨rfl, rfl⟩
theorem six_fit {k : Nat} : 4 - k + (4 - k) ≤ 1048576 := by omega
theorem ints3 {ws : List Value} {a b c : Int} (h : IntsAre ws [a, b, c]) : ∃ ta tb tc, ws = [.int a ta, .int b tb, .int c tc] := by
  cases h with
  | cons _ ta h => cases h with
    | cons _ tb h => cases h with
      | cons _ tc h => cases h; exact ⟨_, _, _, rfl⟩
theorem news_pick {h₀ h : Heap} {L : Addr} {p1 p2 p3 p4 p5 p6 p7 : Addr × Obj} (N : News h₀ L h [p1, p2, p3, p4, p5, p6, p7]) : News h₀ L h [p1, p6, p7] := fun p hp => N p (by
  simp only [List.mem_cons, List.not_mem_nil, or_false] at hp ⊢
  rcases hp with h | h | h <;> simp only [h, true_or, or_true])
section
theorem rules_Sixes_5 : True := by
  k_with_none
  k_with "exec If" => (refine wpAny_If ?_)
  k_with "storeName" => ((k_here; k_dflt (first | (refine' storeUI ?F ?N ?_ ?a ?b; (case F => k_asm); (case N => k_asm); (case a => rfl); (case b => rfl); k_whole; intro h' tk' t' F' N'; (try k_sweep)) | (refine' storeU ?F ?N ?_ ?a ?b; (case F => k_asm); (case N => k_asm); (case a => rfl); (case b => rfl); k_whole; intro h' tk' F' N'; (try k_sweep)))))
  k_with "eval Name" => ((k_here; k_dflt (refine' ldE ?k1 ?k2 ?_ (by rfl) (by rfl) (by decide); (case k1 => k_asm); (case k2 => ((repeat (first | with_reducible assumption | (with_reducible exact upd_here) | (with_reducible apply upd_there; (focus (decide))))); done)); k_whole)))
  k_with "exec For Name BinOp cons nil" => ((k_here; (rename Fr _ _ _ _ => lF'); (with_unfolding_all refine' For_turns lF' ?_; k_whole)))
  k_with "eval ListComp" => ((k_here; k_dflt (refine lc_down (F₀ := by k_asm) (by with_unfolding_all rfl) (by decide) (by rfl) (by decide) (by rfl) ?_ (by intro _; rfl))))
  k_with "subscriptTail" => ((k_here; (with_reducible show wpAny _ _ (subscriptTail _ _ (Value.str (_ ++ _) _) (Value.int _ _)) _ _ _); (refine KXi.item (letters_len (by assumption)) (fmod64_lo _) (fmod64_hi _) (by decide) ?_); intro kxiE))
  k_with "CompEnd" => ((refine compEnd_same (by k_asm) (by k_asm) (by with_reducible assumption) trivial ?_))
  k_with "binaryOp FloorDiv int int" => ((refine floordiv_int (pow64_ne _) ?_ (Or.inl (pow64_noPy (down3 _) (by decide)))))
  k_with "pyIter ref" => (((with_reducible rename IntsAre _ (_ ++ _) => hI9); refine Halt.out ?_))
  trivial
theorem sixes_all {w : World} {A : Around} {s : Shared} {Q E : Value → Shared → Prop} (R : Rdy w 600 A s.heap) (l : Addr) (vs : List Value) (r : List Int) (hl : s.heap.IsList l vs.toArray) (hi : IntsAre vs r) (hr : ∀ o ∈ r, 0 ≤ o ∧ o < 256) (h1 : 1 ≤ r.length) (h3 : r.length ≤ 3) (two : Str) (tt : Tok) (htwo : two.length = 2)
    (hret : ∀ t h' tk', (∀ b o, s.heap.get? b = some o → h'.get? b = some o) → Q (.str (sixF r two) t) { s with heap := h', toks := tk' }) :
    wpAny (MM w) A (call (.ref 302) [.ref l, .str two tt]) Q E s := by
  rcases s with ⟨hp, gs, dr, tk0, os⟩
  dsimp only at R hl hret ⊢
  refine R.go ?_
  intro gd base fs p loose mean mg mb B X T
  dsimp only [MM]; revert X; k_fill; intro X
  refine' wpAny_call (enterC B X T ?ho ?hcd ?hroom ?hbind ?hkind ?hnd ?_ ?c1 ?c2 ?c3)
  case ho => k_is
  case hcd => k_is
  case hroom => exact Nat.le_of_ble_eq_true rfl
  case hbind => first | exact BindsTo.of_eq rfl | exact binds_K (by k_in) rfl (by k_is) rfl rfl rfl
  case hkind => rfl
  case hnd => decide
  case c1 => rfl
  case c2 => rfl
  case c3 => rfl
  intro L' h₁ tk₁ cells F' N' Y'
  obtain ⟨o', o2', hE', d1', d2'⟩ := CellsAre.two Y'
  subst hE'; clear Y'
  replace d1' : o'.data = .cell none := d1'
  replace d2' : o2'.data = .cell none := d2'
  replace F' : Fr hp L' h₁ (upd (upd (fun _ => none) "octets" (.ref l)) "two" (.str two tt)) := F'
  try dsimp only
  (try show wpAny _ _ _ _ _ _)
  (try k_fold)
  k_steps
  unfold Halt
  obtain ⟨a, b, c, k, hk2, hk, hab, hrk, hsix⟩ := six_form r h1 h3
  (with_reducible rename Fr _ _ _ _ => F2)
  (with_reducible rename News _ _ _ _ => N2)
  (with_reducible rename IntsAre _ (_ ++ _) => hI2)
  rw [hk] at F2
  rw [hk, Int.toNat_natCast, hab] at hI2
  replace N2 := news_pick N2
  obtain ⟨ta, tb, tc, rfl⟩ := ints3 hI2
  clear hI2 hab hr hk
  k_steps
  (with_reducible rename IsRange _ _ _ _ _ _ _ _ => hrg)
  rw [hrk, show ((3 : Int).fdiv 3 * 4 - 1) = 3 from rfl] at hrg
  have hn := six_rng hk2
  refine CompSrcDn.of (n := 4 - k) (by rfl) (by k_asm) (by k_asm) hrg hn.1 hn.2 (Nat.le_trans (Nat.sub_le 4 k) (by rw [sizeLine_eq]; decide)) ?_
  clear hrg hn
  intro g'
  refine comp_ind (Γ := fun i ys nw => nw = _ ∧ StrsAre ys ((List.range i).map fun (j : Nat) => Txt.item (lettersF two) (((((0 * 256 + a) * 256 + b) * 256 + c).fdiv (64 ^ (3 - j))).fmod 64))) ?T ?fin _ 0 [] _ (Nat.zero_add _) ⟨rfl, .nil⟩
  case T =>
    intro s0 i ys news v I oI C oC D m₂ h tk E' hi hP hΓ hC hx F N off ne
    obtain ⟨rfl, hS⟩ := hΓ
    obtain ⟨t, rfl⟩ := hP
    k_steps
    exact strs_snoc hS (six_eq (down3 i))
  case fin =>
    rintro ys news ⟨rfl, hS⟩
    k_steps
    refine join_listW (News.isList (by k_asm) (by k_mem)) hS (by decide) ?_ ?_
    · rw [six_len htwo, List.length_map, List.length_range]; exact six_fit
    intro t' k'
    rw [hsix] at hret
    dsimp only
    clear hsix hrk
    rcases k_three hk2 with rfl | rfl | rfl
    all_goals
      k_steps
      exact hret _ _ _ (Fr.keep (by assumption))
end
end Sixes
section B64e
theorem rules_B64e_1 : True := by
  k_with_none
  k_with "exec If" => (refine wpAny_If ?_)
  trivial
noncomputable def B64L : List UInt8 := [65, 66, 67, 68, 69, 70, 71, 72, 73, 74, 75, 76, 77, 78, 79, 80, 81, 82, 83, 84, 85, 86, 87, 88, 89, 90, 97, 98, 99, 100, 101, 102, 103, 104, 105, 106, 107, 108, 109, 110, 111, 112, 113, 114, 115, 116, 117, 118, 119, 120, 121, 122, 48, 49, 50, 51, 52, 53, 54, 55, 56, 57, 43, 47]
noncomputable def b64c (i : Int) : Int := (((B64L.getD i.toNat 0).toNat : Nat) : Int)
theorem b64c_lo (i : Int) : 0 ≤ b64c i := Int.natCast_nonneg _
theorem b64c_hi (i : Int) : b64c i < 256 := by
  have : (B64L.getD i.toNat 0).toNat < 256 := (B64L.getD i.toNat 0).toNat_lt
  unfold b64c; omega
theorem b64_item {prog : Program} {w : World} {A : Around} {E : Value → Shared → Prop} {s : Shared} {value slice : PySem.Expr} {t u : Tok} {i : Int} {Q : Value → Shared → Prop} (h0 : 0 ≤ i) (h1 : i < 64)
    (h : 0 ≤ b64c i → b64c i < 256 → Q (.int (b64c i) s.toks) { s with toks := s.toks + 1 })
    (hs : subscripted slice false (.bytes B64L.toArray t) (.int i u) = operate [.bytes B64L.toArray t, .int i u] (getItem (.bytes B64L.toArray t) (.int i u)))
    (ht : ∀ r, letTemporaryGo value (.bytes B64L.toArray t) r = pure ()) :
    wpAny (model prog w) A (subscriptTail value slice (.bytes B64L.toArray t) (.int i u)) Q E s :=
  subscriptTail_builtin (typeIs_bytes _ _ _) FB.slot_bytes_getitem.lookup (getItem_bytes (l := B64L) (by decide) h0 (by show i < ((64 : Nat) : Int); omega) (h (b64c_lo i) (b64c_hi i))) hs ht
theorem idx63 (n : Int) : 0 ≤ Builtin.bitAnd n 63 ∧ Builtin.bitAnd n 63 < 64 := by rw [bitAnd_m6]; omega
theorem idx3 (n : Int) : 0 ≤ Builtin.bitAnd n 3 * 2 ^ Int.toNat 4 ∧ Builtin.bitAnd n 3 * 2 ^ Int.toNat 4 < 64 := by rw [bitAnd_m2]; show 0 ≤ n % 4 * 16 ∧ n % 4 * 16 < 64; omega
theorem idx15 (n : Int) : 0 ≤ Builtin.bitAnd n 15 * 2 ^ Int.toNat 2 ∧ Builtin.bitAnd n 15 * 2 ^ Int.toNat 2 < 64 := by rw [bitAnd_m4]; show 0 ≤ n % 16 * 4 ∧ n % 16 * 4 < 64; omega
theorem rules_B64e_2 : True := by
  k_with_none
  k_with "exec If" => (refine wpAny_If ?_)
  k_with "subscriptTail" => ((k_here; first | ((with_reducible show wpAny _ _ (subscriptTail _ _ (Value.bytes _ _) (Value.int (Builtin.bitAnd _ 63) _)) _ _ _); with_unfolding_all refine b64_item (idx63 _).1 (idx63 _).2 ?_ (by with_unfolding_all rfl) (by intro _; with_unfolding_all rfl); intro kbLo kbHi) | ((with_reducible show wpAny _ _ (subscriptTail _ _ (Value.bytes _ _) (Value.int (Builtin.bitAnd _ 3 * _) _)) _ _ _); with_unfolding_all refine b64_item (idx3 _).1 (idx3 _).2 ?_ (by with_unfolding_all rfl) (by intro _; with_unfolding_all rfl); intro kbLo kbHi) | ((with_reducible show wpAny _ _ (subscriptTail _ _ (Value.bytes _ _) (Value.int (Builtin.bitAnd _ 15 * _) _)) _ _ _); with_unfolding_all refine b64_item (idx15 _).1 (idx15 _).2 ?_ (by with_unfolding_all rfl) (by intro _; with_unfolding_all rfl); intro kbLo kbHi)))
  trivial
theorem abs3 (n : Int) : (Builtin.bitAnd n 3).natAbs < 2 ^ 64 := by rw [bitAnd_m2]; omega
theorem abs15 (n : Int) : (Builtin.bitAnd n 15).natAbs < 2 ^ 64 := by rw [bitAnd_m4]; omega
theorem abs16 (n : Int) : (Builtin.bitAnd n 65535).natAbs < 2 ^ 64 := by rw [bitAnd_m16]; omega
theorem rules_B64e_3 : True := by
  k_with_none
  k_with "exec If" => (refine wpAny_If ?_)
  k_with "subscriptTail" => ((k_here; first | ((with_reducible show wpAny _ _ (subscriptTail _ _ (Value.bytes _ _) (Value.int (Builtin.bitAnd _ 63) _)) _ _ _); with_unfolding_all refine b64_item (idx63 _).1 (idx63 _).2 ?_ (by with_unfolding_all rfl) (by intro _; with_unfolding_all rfl); intro kbLo kbHi) | ((with_reducible show wpAny _ _ (subscriptTail _ _ (Value.bytes _ _) (Value.int (Builtin.bitAnd _ 3 * _) _)) _ _ _); with_unfolding_all refine b64_item (idx3 _).1 (idx3 _).2 ?_ (by with_unfolding_all rfl) (by intro _; with_unfolding_all rfl); intro kbLo kbHi) | ((with_reducible show wpAny _ _ (subscriptTail _ _ (Value.bytes _ _) (Value.int (Builtin.bitAnd _ 15 * _) _)) _ _ _); with_unfolding_all refine b64_item (idx15 _).1 (idx15 _).2 ?_ (by with_unfolding_all rfl) (by intro _; with_unfolding_all rfl); intro kbLo kbHi)))
  k_with "binaryOp LShift int int" => ((k_here; first | (with_reducible refine lshift_int_small (by decide) (by decide) (abs3 _) ?_) | (with_reducible refine lshift_int_small (by decide) (by decide) (abs15 _) ?_) | (with_reducible refine lshift_int_small (by decide) (by decide) (abs16 _) ?_)))
  trivial
/-- the bits at hand behind one more octet -/
noncomputable abbrev inF (l : Int) (x : UInt8) : Int := Builtin.bitAnd (Builtin.bitOr (l * 2 ^ Int.toNat 8) ((x.toNat : Nat) : Int)) 65535
noncomputable def outF (l : Int) (k : Nat) : UInt8 := (b64c (Builtin.bitAnd (l.fdiv (2 ^ k)) 63)).toNat.toUInt8
/-- what b64encode writes -/
noncomputable def b64F : List UInt8 → Array UInt8
  | [x] => #[outF (inF 0 x) 2, (b64c (Builtin.bitAnd (inF 0 x) 3 * 2 ^ Int.toNat 4)).toNat.toUInt8, (Int.toNat 61).toUInt8, (Int.toNat 61).toUInt8]
  | [x, y] => #[outF (inF 0 x) 2, outF (inF (inF 0 x) y) 4, (b64c (Builtin.bitAnd (inF (inF 0 x) y) 15 * 2 ^ Int.toNat 2)).toNat.toUInt8, (Int.toNat 61).toUInt8]
  | [x, y, z] => #[outF (inF 0 x) 2, outF (inF (inF 0 x) y) 4, outF (inF (inF (inF 0 x) y) z) 6, outF (inF (inF (inF 0 x) y) z) 0]
  | _ => #[]
/-- the bits at hand behind some octets, their number, and what is written -/
noncomputable def eL : List UInt8 → Int
  | [x] => inF 0 x
  | [x, y] => inF (inF 0 x) y
  | [x, y, z] => inF (inF (inF 0 x) y) z
  | _ => 0
noncomputable def eB : List UInt8 → Int
  | [_] => 2
  | [_, _] => 4
  | _ => 0
noncomputable def oneF (l : Int) (k : Nat) : Int := b64c (Builtin.bitAnd (l.fdiv (2 ^ k)) 63)
noncomputable def eO : List UInt8 → List Int
  | [x] => [] ++ [oneF (inF 0 x) 2]
  | [x, y] => ([] ++ [oneF (inF 0 x) 2]) ++ [oneF (inF (inF 0 x) y) 4]
  | [x, y, z] => ((([] ++ [oneF (inF 0 x) 2]) ++ [oneF (inF (inF 0 x) y) 4]) ++ [oneF (inF (inF (inF 0 x) y) z) 6]) ++ [oneF (inF (inF (inF 0 x) y) z) 0]
  | _ => []
theorem one_ok (l : Int) (k : Nat) : 0 ≤ oneF l k ∧ oneF l k < 256 := ⟨b64c_lo _, b64c_hi _⟩
noncomputable def EAt (p : List UInt8) (m : Str → Option Value) (nw : List (Addr × Obj)) : Prop :=
  ∃ (o : Addr) (vs : Array Value) (n : Nat) (tl tb : Tok), m "leftchar" = some (.int (eL p) tl) ∧ m "leftbits" = some (.int (eB p) tb) ∧ m "newline" = some (.bool false) ∧ m "out" = some (.ref o) ∧ nw = [(o, PySem.W.listOf vs n)] ∧ IntsAre vs.toList (eO p)
theorem rules_B64e_4 : True := by
  k_with_none
  k_with "exec If" => (refine wpAny_If ?_)
  k_with "subscriptTail" => ((k_here; first | ((with_reducible show wpAny _ _ (subscriptTail _ _ (Value.bytes _ _) (Value.int (Builtin.bitAnd _ 63) _)) _ _ _); with_unfolding_all refine b64_item (idx63 _).1 (idx63 _).2 ?_ (by with_unfolding_all rfl) (by intro _; with_unfolding_all rfl); intro kbLo kbHi) | ((with_reducible show wpAny _ _ (subscriptTail _ _ (Value.bytes _ _) (Value.int (Builtin.bitAnd _ 3 * _) _)) _ _ _); with_unfolding_all refine b64_item (idx3 _).1 (idx3 _).2 ?_ (by with_unfolding_all rfl) (by intro _; with_unfolding_all rfl); intro kbLo kbHi) | ((with_reducible show wpAny _ _ (subscriptTail _ _ (Value.bytes _ _) (Value.int (Builtin.bitAnd _ 15 * _) _)) _ _ _); with_unfolding_all refine b64_item (idx15 _).1 (idx15 _).2 ?_ (by with_unfolding_all rfl) (by intro _; with_unfolding_all rfl); intro kbLo kbHi)))
  k_with "binaryOp LShift int int" => ((k_here; first | (with_reducible refine lshift_int_small (by decide) (by decide) (abs3 _) ?_) | (with_reducible refine lshift_int_small (by decide) (by decide) (abs15 _) ?_) | (with_reducible refine lshift_int_small (by decide) (by decide) (abs16 _) ?_)))
  k_with "dat" => (((with_reducible rename Fr _ _ _ _ => F2); (with_reducible rename News _ _ _ _ => N2); refine ⟨_, _, _, [(_, _)], rfl, F2, N2, fun p hp => by rw [List.mem_singleton.mp hp]; with_reducible assumption, ?_⟩))
  k_with "lk" => (repeat (first | with_reducible assumption | (with_reducible exact upd_here) | (with_reducible apply upd_there; (focus (decide))) | exact upd_here))
  k_with "storeName" => ((k_here; k_dflt (first | (refine' storeUI ?F ?N ?_ ?a ?b; (case F => k_asm); (case N => k_asm); (case a => rfl); (case b => rfl); k_whole; intro h' tk' t' F' N'; (try k_sweep)) | (refine' storeU ?F ?N ?_ ?a ?b; (case F => k_asm); (case N => k_asm); (case a => rfl); (case b => rfl); k_whole; intro h' tk' F' N'; (try k_sweep)))))
  k_with "eval Name" => ((k_here; k_dflt (refine' ldE ?k1 ?k2 ?_ (by rfl) (by rfl) (by decide); (case k1 => k_asm); (case k2 => ((repeat (first | with_reducible assumption | (with_reducible exact upd_here) | (with_reducible apply upd_there; (focus (decide))))); done)); k_whole)))
  trivial
theorem sz0 {vs : Array Value} (h : vs.size ≤ 4) : vs.size ≤ sizeLine := Nat.le_trans h (by rw [sizeLine_eq]; decide)
theorem sz1 {vs : Array Value} {a : Value} (h : vs.size ≤ 4) : (vs.push a).size ≤ sizeLine := by rw [Array.size_push, sizeLine_eq]; omega
theorem sz2 {vs : Array Value} {a b : Value} (h : vs.size ≤ 4) : ((vs.push a).push b).size ≤ sizeLine := by rw [Array.size_push, Array.size_push, sizeLine_eq]; omega
theorem upd1 {o : Addr} {a b : Obj} : Upd o a b [(o, a)] [(o, b)] := .head fun _ hp => nomatch hp
theorem rules_B64e_5 : True := by
  k_with_none
  k_with "exec If" => (refine wpAny_If ?_)
  k_with "subscriptTail" => ((k_here; first | ((with_reducible show wpAny _ _ (subscriptTail _ _ (Value.bytes _ _) (Value.int (Builtin.bitAnd _ 63) _)) _ _ _); with_unfolding_all refine b64_item (idx63 _).1 (idx63 _).2 ?_ (by with_unfolding_all rfl) (by intro _; with_unfolding_all rfl); intro kbLo kbHi) | ((with_reducible show wpAny _ _ (subscriptTail _ _ (Value.bytes _ _) (Value.int (Builtin.bitAnd _ 3 * _) _)) _ _ _); with_unfolding_all refine b64_item (idx3 _).1 (idx3 _).2 ?_ (by with_unfolding_all rfl) (by intro _; with_unfolding_all rfl); intro kbLo kbHi) | ((with_reducible show wpAny _ _ (subscriptTail _ _ (Value.bytes _ _) (Value.int (Builtin.bitAnd _ 15 * _) _)) _ _ _); with_unfolding_all refine b64_item (idx15 _).1 (idx15 _).2 ?_ (by with_unfolding_all rfl) (by intro _; with_unfolding_all rfl); intro kbLo kbHi)))
  k_with "binaryOp LShift int int" => ((k_here; first | (with_reducible refine lshift_int_small (by decide) (by decide) (abs3 _) ?_) | (with_reducible refine lshift_int_small (by decide) (by decide) (abs15 _) ?_) | (with_reducible refine lshift_int_small (by decide) (by decide) (abs16 _) ?_)))
  k_with "dat" => (((with_reducible rename Fr _ _ _ _ => F2); (with_reducible rename News _ _ _ _ => N2); refine ⟨_, _, _, [(_, _)], rfl, F2, N2, fun p hp => by rw [List.mem_singleton.mp hp]; with_reducible assumption, ?_⟩))
  k_with "lk" => (repeat (first | with_reducible assumption | (with_reducible exact upd_here) | (with_reducible apply upd_there; (focus (decide))) | exact upd_here))
  k_with "storeName" => ((k_here; k_dflt (first | (refine' storeUI ?F ?N ?_ ?a ?b; (case F => k_asm); (case N => k_asm); (case a => rfl); (case b => rfl); k_whole; intro h' tk' t' F' N'; (try k_sweep)) | (refine' storeU ?F ?N ?_ ?a ?b; (case F => k_asm); (case N => k_asm); (case a => rfl); (case b => rfl); k_whole; intro h' tk' F' N'; (try k_sweep)))))
  k_with "eval Name" => ((k_here; k_dflt (refine' ldE ?k1 ?k2 ?_ (by rfl) (by rfl) (by decide); (case k1 => k_asm); (case k2 => ((repeat (first | with_reducible assumption | (with_reducible exact upd_here) | (with_reducible apply upd_there; (focus (decide))))); done)); k_whole)))
  k_with "call builtin:list.append" => ((k_here; (with_reducible show wpAny _ _ (call (Value.builtin _) [Value.ref _, _]) _ _ _); k_dflt (refine' append_K ?k1 ?k2 ?k3 ?_ ?z; (case k1 => k_asm); (case k2 => k_asm); (case k3 => first | exact upd2 (by with_reducible assumption) | exact upd1); (case z => first | exact sz0 (by with_reducible assumption) | exact sz1 (by with_reducible assumption) | exact sz2 (by with_reducible assumption)); k_whole); intro h' F' N'))
  k_with "pyIter bytes" => (refine Halt.out ?_)
  k_with "call ref" => (first | (k_here; (with_reducible show wpAny _ _ (call (Value.ref 168) [Value.bytes _ _]) _ _ _); k_dflt (refine' buf_spec (Rdy.of_walk ?B ?F ?X ?T rfl rfl (Nat.le_of_ble_eq_true rfl) (Nat.le_of_ble_eq_true rfl) rfl) _ _ ?_; (case F => k_asm); (case B => k_asm); (case X => k_asm); (case T => k_asm); k_whole); intro h9 tk9 hk9; (have F9 := fr_keep (by with_reducible assumption) hk9); (have N9 := news_keep (by with_reducible assumption) hk9); (try dsimp only)) | (k_here; (with_reducible show wpAny _ _ (call (Value.ref 175) [Value.bool false]) _ _ _); k_dflt (refine' tru_spec (Rdy.of_walk ?B ?F ?X ?T rfl rfl (Nat.le_of_ble_eq_true rfl) (Nat.le_of_ble_eq_true rfl) rfl) ?_; (case F => k_asm); (case B => k_asm); (case X => k_asm); (case T => k_asm); k_whole); intro h9 tk9 hk9; (have F9 := fr_keep (by with_reducible assumption) hk9); (have N9 := news_keep (by with_reducible assumption) hk9); (try dsimp only)))
  k_with "call type:bytes" => (refine Halt.out ?_)
  trivial
theorem fa_snoc {P : Int → Prop} {l : List Int} {a : Int} (h : ∀ n ∈ l, P n) (ha : P a) : ∀ n ∈ l ++ [a], P n := fun n hn => by
  rcases List.mem_append.mp hn with hn | hn
  · exact h n hn
  · rw [List.mem_singleton.mp hn]; exact ha
theorem eO_ok : ∀ p : List UInt8, ∀ n ∈ eO p, 0 ≤ n ∧ n < 256
  | [] => fun _ h => nomatch h
  | [_] => fa_snoc (fun _ h => nomatch h) (one_ok _ _)
  | [_, _] => fa_snoc (fa_snoc (fun _ h => nomatch h) (one_ok _ _)) (one_ok _ _)
  | [_, _, _] => fa_snoc (fa_snoc (fa_snoc (fa_snoc (fun _ h => nomatch h) (one_ok _ _)) (one_ok _ _)) (one_ok _ _)) (one_ok _ _)
  | _ :: _ :: _ :: _ :: _ => fun _ h => nomatch h
theorem bytes_arr {prog : Program} {w : World} {A : Around} {E : Value → Shared → Prop} {s : Shared} {h₀ : Heap} {L l : Addr} {m : Str → Option Value} {news : List (Addr × Obj)} {Q : Value → Shared → Prop} {vs : Array Value} {ns : List Int} {k : Nat}
    (F : Fr h₀ L s.heap m) (N : News h₀ L s.heap news) (hh : A.handled = none) (hm : (l, PySem.W.listOf vs k) ∈ news) (hi : IntsAre vs.toList ns) (hb : ∀ n ∈ ns, 0 ≤ n ∧ n < 256) (hs : ns.length ≤ 100)
    (h : ∀ h' t k, Fr h₀ L h' m → News h₀ L h' news → Q (.bytes (ns.map fun o => o.toNat.toUInt8).toArray t) { s with heap := h', toks := k }) :
    wpAny (model prog w) A (call (.type "bytes") [.ref l]) Q E s :=
  bytes_K (vs := vs.toList) (ns := ns) F N ⟨_, (N _ hm).1, rfl, _, rfl⟩ hi hb (by rw [sizeLine_eq]; have := hi.length; omega) hh fun h' t k F' N' _ => h h' t k F' N'
theorem b2a_spec {w : World} {A : Around} {s : Shared} {Q E : Value → Shared → Prop} (R : Rdy w 600 A s.heap) (b : List UInt8) (tx : Tok) (h1 : 1 ≤ b.length) (h3 : b.length ≤ 3)
    (hret : ∀ t h' tk', (∀ b o, s.heap.get? b = some o → h'.get? b = some o) → Q (.bytes (b64F b) t) { s with heap := h', toks := tk' }) :
    wpAny (MM w) A (call (.ref 198) [.bytes b.toArray tx] [("newline", .bool false)]) Q E s := by
  rcases s with ⟨hp, gs, dr, tk0, os⟩
  dsimp only at R hret ⊢
  refine R.go ?_
  intro gd base fs p loose mean mg mb B X T
  dsimp only [MM]; revert X; k_fill; intro X
  refine' wpAny_call (enterP B X T ?ho ?hcd ?hroom ?hbind ?hloc ?_ ?c1 ?c2 ?c3 ?c4)
  case ho => k_is
  case hcd => k_is
  case hroom => exact Nat.le_of_ble_eq_true rfl
  case hbind => first | exact BindsTo.of_eq rfl | exact binds_K (by k_in) rfl (by k_is) rfl rfl rfl
  case hloc => exact locs rfl
  case c1 => rfl
  case c2 => rfl
  case c3 => rfl
  case c4 => decide
  intro L' h₁ F' N'
  replace F' : Fr hp L' h₁ (fun y => List.lookup y [("newline", .bool false), ("data", .bytes b.toArray tx)]) := F'
  try dsimp only
  (try show wpAny _ _ _ _ _ _)
  (try k_fold)
  k_steps
  unfold Halt
  (with_reducible rename Fr _ _ _ _ => F9)
  (with_reducible rename News _ _ _ _ => N9)
  refine loop_bytes (fun i m nw => EAt (b.take i) m nw) rfl F9 N9 ?h0 ?turn ?done
  case h0 => exact ⟨_, #[], 0, _, _, rfl, rfl, rfl, rfl, rfl, .nil⟩
  case turn =>
    clear N9 F9
    rintro i c t m₁ _ I oI h tk hc ⟨o, vs, n, tl, tb, hml, hmb, hms, hmo, rfl, hvs⟩ hne F8 N8
    replace F8 : Fr hp L' h (upd m₁ "b" (.int ((c.toNat : Nat) : Int) t)) := F8
    have hne := hne _ (.head _)
    dsimp only at hne
    replace hc : b[i]? = some c := by rwa [List.getElem?_toArray] at hc
    rw [take_snoc0 hc]
    have hi := (List.getElem?_eq_some_iff.mp hc).1
    have hpl : (b.take i).length ≤ 2 := by rw [List.length_take]; omega
    generalize b.take i = p at hml hmb hvs hpl
    clear hc hi h1 h3 hret
    have hz9 := hvs.length
    rw [Array.length_toList] at hz9
    try dsimp only
    rcases p with _ | ⟨x, _ | ⟨y, _ | ⟨z, p⟩⟩⟩
    · clear hpl
      replace hml : m₁ "leftchar" = some (.int 0 tl) := hml
      replace hmb : m₁ "leftbits" = some (.int 0 tb) := hmb
      replace hz9 : vs.size ≤ 4 := by rw [hz9]; exact Nat.le_of_ble_eq_true rfl
      show wpAny _ _ _ _ _ _
      (try k_fold)
      k_steps
      try dsimp only
      walk_at "dat"
      refine (show EAt [c] _ _ from ⟨o, _, _, _, _, by walk_at "lk", by walk_at "lk", by walk_at "lk", by walk_at "lk", rfl, intsAre_push hvs⟩)
    · clear hpl
      replace hml : m₁ "leftchar" = some (.int (inF 0 x) tl) := hml
      replace hmb : m₁ "leftbits" = some (.int 2 tb) := hmb
      replace hz9 : vs.size ≤ 4 := by rw [hz9]; exact Nat.le_of_ble_eq_true rfl
      show wpAny _ _ _ _ _ _
      (try k_fold)
      k_steps
      try dsimp only
      walk_at "dat"
      refine (show EAt [x, c] _ _ from ⟨o, _, _, _, _, by walk_at "lk", by walk_at "lk", by walk_at "lk", by walk_at "lk", rfl, intsAre_push hvs⟩)
    · clear hpl
      replace hml : m₁ "leftchar" = some (.int (inF (inF 0 x) y) tl) := hml
      replace hmb : m₁ "leftbits" = some (.int 4 tb) := hmb
      replace hz9 : vs.size ≤ 4 := by rw [hz9]; exact Nat.le_of_ble_eq_true rfl
      show wpAny _ _ _ _ _ _
      (try k_fold)
      k_steps
      try dsimp only
      walk_at "dat"
      refine (show EAt [x, y, c] _ _ from ⟨o, _, _, _, _, by walk_at "lk", by walk_at "lk", by walk_at "lk", by walk_at "lk", rfl, intsAre_push (intsAre_push hvs)⟩)
    · exact absurd hpl (by simp)
  case done =>
    clear N9 F9
    rintro m₁ _ h tk ⟨o, vs, n, tl, tb, hml, hmb, hms, hmo, rfl, hvs⟩ F8 N8
    rw [List.size_toArray, List.take_length] at hml hmb hvs
    have hz9 := hvs.length
    rw [Array.length_toList] at hz9
    try dsimp only
    rcases b with _ | ⟨x, _ | ⟨y, _ | ⟨z, _ | ⟨u, b⟩⟩⟩⟩
    · exact absurd h1 (by decide)
    · clear h1 h3
      replace hml : m₁ "leftchar" = some (.int (inF 0 x) tl) := hml
      replace hmb : m₁ "leftbits" = some (.int 2 tb) := hmb
      replace hz9 : vs.size ≤ 4 := by rw [hz9]; exact Nat.le_of_ble_eq_true rfl
      k_steps
      unfold Halt
      (with_reducible rename Fr _ _ _ _ => F2)
      (with_reducible rename News _ _ _ _ => N2)
      refine bytes_arr F2 N2 (by with_unfolding_all rfl) (.head _) (intsAre_push (intsAre_push (intsAre_push hvs))) (fa_snoc (fa_snoc (fa_snoc (eO_ok [x]) ⟨b64c_lo _, b64c_hi _⟩) (by decide)) (by decide)) (Nat.le_of_ble_eq_true rfl) fun h2 t2 k2 F3 N3 => ?_
      try dsimp only
      k_steps
      exact hret _ _ _ F3.keep
    · clear h1 h3
      replace hml : m₁ "leftchar" = some (.int (inF (inF 0 x) y) tl) := hml
      replace hmb : m₁ "leftbits" = some (.int 4 tb) := hmb
      replace hz9 : vs.size ≤ 4 := by rw [hz9]; exact Nat.le_of_ble_eq_true rfl
      k_steps
      unfold Halt
      (with_reducible rename Fr _ _ _ _ => F2)
      (with_reducible rename News _ _ _ _ => N2)
      refine bytes_arr F2 N2 (by with_unfolding_all rfl) (.head _) (intsAre_push (intsAre_push hvs)) (fa_snoc (fa_snoc (eO_ok [x, y]) ⟨b64c_lo _, b64c_hi _⟩) (by decide)) (Nat.le_of_ble_eq_true rfl) fun h2 t2 k2 F3 N3 => ?_
      try dsimp only
      k_steps
      exact hret _ _ _ F3.keep
    · clear h1 h3
      replace hml : m₁ "leftchar" = some (.int (inF (inF (inF 0 x) y) z) tl) := hml
      replace hmb : m₁ "leftbits" = some (.int 0 tb) := hmb
      replace hz9 : vs.size ≤ 4 := by rw [hz9]; exact Nat.le_of_ble_eq_true rfl
      k_steps
      unfold Halt
      (with_reducible rename Fr _ _ _ _ => F2)
      (with_reducible rename News _ _ _ _ => N2)
      refine bytes_arr F2 N2 (by with_unfolding_all rfl) (.head _) (hvs) (eO_ok [x, y, z]) (Nat.le_of_ble_eq_true rfl) fun h2 t2 k2 F3 N3 => ?_
      try dsimp only
      k_steps
      exact hret _ _ _ F3.keep
    · exact absurd h3 (by simp)
theorem rules_B64e_6 : True := by
  k_with_none
  k_with "exec If" => (refine wpAny_If ?_)
  k_with "subscriptTail" => ((k_here; first | ((with_reducible show wpAny _ _ (subscriptTail _ _ (Value.bytes _ _) (Value.int (Builtin.bitAnd _ 63) _)) _ _ _); with_unfolding_all refine b64_item (idx63 _).1 (idx63 _).2 ?_ (by with_unfolding_all rfl) (by intro _; with_unfolding_all rfl); intro kbLo kbHi) | ((with_reducible show wpAny _ _ (subscriptTail _ _ (Value.bytes _ _) (Value.int (Builtin.bitAnd _ 3 * _) _)) _ _ _); with_unfolding_all refine b64_item (idx3 _).1 (idx3 _).2 ?_ (by with_unfolding_all rfl) (by intro _; with_unfolding_all rfl); intro kbLo kbHi) | ((with_reducible show wpAny _ _ (subscriptTail _ _ (Value.bytes _ _) (Value.int (Builtin.bitAnd _ 15 * _) _)) _ _ _); with_unfolding_all refine b64_item (idx15 _).1 (idx15 _).2 ?_ (by with_unfolding_all rfl) (by intro _; with_unfolding_all rfl); intro kbLo kbHi)))
  k_with "binaryOp LShift int int" => ((k_here; first | (with_reducible refine lshift_int_small (by decide) (by decide) (abs3 _) ?_) | (with_reducible refine lshift_int_small (by decide) (by decide) (abs15 _) ?_) | (with_reducible refine lshift_int_small (by decide) (by decide) (abs16 _) ?_)))
  k_with "dat" => (((with_reducible rename Fr _ _ _ _ => F2); (with_reducible rename News _ _ _ _ => N2); refine ⟨_, _, _, [(_, _)], rfl, F2, N2, fun p hp => by rw [List.mem_singleton.mp hp]; with_reducible assumption, ?_⟩))
  k_with "lk" => (repeat (first | with_reducible assumption | (with_reducible exact upd_here) | (with_reducible apply upd_there; (focus (decide))) | exact upd_here))
  k_with "storeName" => ((k_here; k_dflt (first | (refine' storeUI ?F ?N ?_ ?a ?b; (case F => k_asm); (case N => k_asm); (case a => rfl); (case b => rfl); k_whole; intro h' tk' t' F' N'; (try k_sweep)) | (refine' storeU ?F ?N ?_ ?a ?b; (case F => k_asm); (case N => k_asm); (case a => rfl); (case b => rfl); k_whole; intro h' tk' F' N'; (try k_sweep)))))
  k_with "eval Name" => ((k_here; k_dflt (refine' ldE ?k1 ?k2 ?_ (by rfl) (by rfl) (by decide); (case k1 => k_asm); (case k2 => ((repeat (first | with_reducible assumption | (with_reducible exact upd_here) | (with_reducible apply upd_there; (focus (decide))))); done)); k_whole)))
  k_with "call builtin:list.append" => ((k_here; (with_reducible show wpAny _ _ (call (Value.builtin _) [Value.ref _, _]) _ _ _); k_dflt (refine' append_K ?k1 ?k2 ?k3 ?_ ?z; (case k1 => k_asm); (case k2 => k_asm); (case k3 => first | exact upd2 (by with_reducible assumption) | exact upd1); (case z => first | exact sz0 (by with_reducible assumption) | exact sz1 (by with_reducible assumption) | exact sz2 (by with_reducible assumption)); k_whole); intro h' F' N'))
  k_with "pyIter bytes" => (refine Halt.out ?_)
  k_with "call ref" => (first | (k_here; (with_reducible show wpAny _ _ (call (Value.ref 168) [Value.bytes _ _]) _ _ _); k_dflt (refine' buf_spec (Rdy.of_walk ?B ?F ?X ?T rfl rfl (Nat.le_of_ble_eq_true rfl) (Nat.le_of_ble_eq_true rfl) rfl) _ _ ?_; (case F => k_asm); (case B => k_asm); (case X => k_asm); (case T => k_asm); k_whole); intro h9 tk9 hk9; (have F9 := fr_keep (by with_reducible assumption) hk9); (have N9 := news_keep (by with_reducible assumption) hk9); (try dsimp only)) | (k_here; (with_reducible show wpAny _ _ (call (Value.ref 175) [Value.bool false]) _ _ _); k_dflt (refine' tru_spec (Rdy.of_walk ?B ?F ?X ?T rfl rfl (Nat.le_of_ble_eq_true rfl) (Nat.le_of_ble_eq_true rfl) rfl) ?_; (case F => k_asm); (case B => k_asm); (case X => k_asm); (case T => k_asm); k_whole); intro h9 tk9 hk9; (have F9 := fr_keep (by with_reducible assumption) hk9); (have N9 := news_keep (by with_reducible assumption) hk9); (try dsimp only)))
  k_with "call type:bytes" => (refine Halt.out ?_)
  k_with "call ref" => ((k_here; (with_reducible show wpAny _ _ (call (Value.ref 198) [Value.bytes _ _] _) _ _ _); k_dflt (refine' b2a_spec (Rdy.of_walk ?B ?F ?X ?T rfl rfl (Nat.le_of_ble_eq_true rfl) (Nat.le_of_ble_eq_true rfl) rfl) _ _ (by with_reducible assumption) (by with_reducible assumption) ?_; (case F => k_asm); (case B => k_asm); (case X => k_asm); (case T => k_asm); k_whole); intro t9 h9 tk9 hk9; (have F9 := fr_keep (by with_reducible assumption) hk9); (have N9 := news_keep (by with_reducible assumption) hk9); (try dsimp only)))
  trivial
theorem b64e_spec {w : World} {A : Around} {s : Shared} {Q E : Value → Shared → Prop} (R : Rdy w 550 A s.heap) (b : List UInt8) (tx : Tok) (h1 : 1 ≤ b.length) (h3 : b.length ≤ 3)
    (hret : ∀ t h' tk', (∀ b o, s.heap.get? b = some o → h'.get? b = some o) → Q (.bytes (b64F b) t) { s with heap := h', toks := tk' }) :
    wpAny (MM w) A (call (.ref 229) [.bytes b.toArray tx]) Q E s := by
  rcases s with ⟨hp, gs, dr, tk0, os⟩
  dsimp only at R hret ⊢
  refine R.go ?_
  intro gd base fs p loose mean mg mb B X T
  dsimp only [MM]; revert X; k_fill; intro X
  refine' wpAny_call (enterP B X T ?ho ?hcd ?hroom ?hbind ?hloc ?_ ?c1 ?c2 ?c3 ?c4)
  case ho => k_is
  case hcd => k_is
  case hroom => exact Nat.le_of_ble_eq_true rfl
  case hbind => first | exact BindsTo.of_eq rfl | exact binds_K (by k_in) rfl (by k_is) rfl rfl rfl
  case hloc => exact locs rfl
  case c1 => rfl
  case c2 => rfl
  case c3 => rfl
  case c4 => decide
  intro L' h₁ F' N'
  try dsimp only
  (try show wpAny _ _ _ _ _ _)
  (try k_fold)
  k_steps
  exact hret _ _ _ (Fr.keep (by assumption))
end B64e
section B64u
theorem rules_B64u_1 : True := by
  k_with_none
  k_with "exec If" => (refine wpAny_If ?_)
  k_with "getMethod bytes" => ((k_here; with_reducible refine meth_translate ?_))
  trivial
theorem b64F_size : ∀ r : List UInt8, (b64F r).size ≤ 4
  | [] => by decide
  | [_] => Nat.le_refl 4
  | [_, _] => Nat.le_refl 4
  | [_, _, _] => Nat.le_refl 4
  | _ :: _ :: _ :: _ :: _ => Nat.zero_le _
theorem b64F_fit (r : List UInt8) : (b64F r).size ≤ sizeLine := Nat.le_trans (b64F_size r) (by rw [sizeLine_eq]; decide)
/-- the table by which the urlsafe letters are written -/
noncomputable def encTab : Array UInt8 := ((((List.range 256).map fun i => i.toUInt8).set 43 45).set 47 95).toArray
/-- the table by which they are read -/
noncomputable def decTab : Array UInt8 := ((((List.range 256).map fun i => i.toUInt8).set 45 43).set 95 47).toArray
theorem encTab_size : encTab.size = 256 := by decide +kernel
theorem decTab_size : decTab.size = 256 := by decide +kernel
theorem tr_enc {prog : Program} {w : World} {A : Around} {E : Value → Shared → Prop} {s : Shared} {b tab : Array UInt8} {t u : Tok} {Q : Value → Shared → Prop} (e : tab = encTab) (hsz : b.size ≤ sizeLine)
    (h : ∀ t' k, Q (.bytes (trF encTab b) t') { s with toks := k }) : wpAny (model prog w) A (call (.builtin "bytes.translate") [.bytes b t, .bytes tab u]) Q E s := by
  subst e; exact call_translate encTab_size hsz h
theorem tr_dec {prog : Program} {w : World} {A : Around} {E : Value → Shared → Prop} {s : Shared} {b tab : Array UInt8} {t u : Tok} {Q : Value → Shared → Prop} (e : tab = decTab) (hsz : b.size ≤ sizeLine)
    (h : ∀ t' k, Q (.bytes (trF decTab b) t') { s with toks := k }) : wpAny (model prog w) A (call (.builtin "bytes.translate") [.bytes b t, .bytes tab u]) Q E s := by
  subst e; exact call_translate decTab_size hsz h
theorem rules_B64u_2 : True := by
  k_with_none
  k_with "exec If" => (refine wpAny_If ?_)
  k_with "getMethod bytes" => ((k_here; with_reducible refine meth_translate ?_))
  k_with "call builtin:bytes.translate" => ((k_here; refine tr_enc (by kernel_rfl) (b64F_fit _) ?_; intro _ _))
  k_with "call ref" => ((k_here; (with_reducible show wpAny _ _ (call (Value.ref 229) [Value.bytes _ _]) _ _ _); k_dflt (refine' b64e_spec (Rdy.of_walk ?B ?F ?X ?T rfl rfl (Nat.le_of_ble_eq_true rfl) (Nat.le_of_ble_eq_true rfl) rfl) _ _ (by with_reducible assumption) (by with_reducible assumption) ?_; (case F => k_asm); (case B => k_asm); (case X => k_asm); (case T => k_asm); k_whole); intro t9 h9 tk9 hk9; (have F9 := fr_keep (by with_reducible assumption) hk9); (have N9 := news_keep (by with_reducible assumption) hk9); (try dsimp only)))
  trivial
theorem b64u_spec {w : World} {A : Around} {s : Shared} {Q E : Value → Shared → Prop} (R : Rdy w 500 A s.heap) (b : List UInt8) (tx : Tok) (h1 : 1 ≤ b.length) (h3 : b.length ≤ 3)
    (hret : ∀ t h' tk', (∀ b o, s.heap.get? b = some o → h'.get? b = some o) → Q (.bytes (trF encTab (b64F b)) t) { s with heap := h', toks := tk' }) :
    wpAny (MM w) A (call (.ref 244) [.bytes b.toArray tx]) Q E s := by
  rcases s with ⟨hp, gs, dr, tk0, os⟩
  dsimp only at R hret ⊢
  refine R.go ?_
  intro gd base fs p loose mean mg mb B X T
  dsimp only [MM]; revert X; k_fill; intro X
  refine' wpAny_call (enterP B X T ?ho ?hcd ?hroom ?hbind ?hloc ?_ ?c1 ?c2 ?c3 ?c4)
  case ho => k_is
  case hcd => k_is
  case hroom => exact Nat.le_of_ble_eq_true rfl
  case hbind => first | exact BindsTo.of_eq rfl | exact binds_K (by k_in) rfl (by k_is) rfl rfl rfl
  case hloc => exact locs rfl
  case c1 => rfl
  case c2 => rfl
  case c3 => rfl
  case c4 => decide
  intro L' h₁ F' N'
  try dsimp only
  (try show wpAny _ _ _ _ _ _)
  (try k_fold)
  k_steps
  exact hret _ _ _ (Fr.keep (by assumption))
end B64u
section B64v
theorem rules_B64v_1 : True := by
  k_with_none
  k_with "exec If" => (refine wpAny_If ?_)
  trivial
/-- the worth of a letter's code -/
noncomputable def b64v (x : Int) : Int := if 65 ≤ x ∧ x ≤ 90 then x - 65 else if 97 ≤ x ∧ x ≤ 122 then x - 71 else if 48 ≤ x ∧ x ≤ 57 then x + 4 else if x = 43 then 62 else if x = 47 then 63 else 64
theorem bv1 {x : Int} (h1 : 65 ≤ x) (h2 : x ≤ 90) : x - 65 = b64v x := (if_pos ⟨h1, h2⟩).symm
theorem bv2 {x : Int} (h1 : 97 ≤ x) (h2 : x ≤ 122) : x - 71 = b64v x := by unfold b64v; rw [if_neg (by omega), if_pos ⟨h1, h2⟩]
theorem bv3 {x : Int} (h1 : 48 ≤ x) (h2 : x ≤ 57) : x + 4 = b64v x := by unfold b64v; rw [if_neg (by omega), if_neg (by omega), if_pos ⟨h1, h2⟩]
theorem bv6 {x : Int} (h1 : ¬ (65 ≤ x ∧ x ≤ 90)) (h2 : ¬ (97 ≤ x ∧ x ≤ 122)) (h3 : ¬ (48 ≤ x ∧ x ≤ 57)) (h4 : x ≠ 43) (h5 : x ≠ 47) : 64 = b64v x := by unfold b64v; rw [if_neg h1, if_neg h2, if_neg h3, if_neg h4, if_neg h5]
theorem b64v_spec {w : World} {A : Around} {s : Shared} {Q E : Value → Shared → Prop} (R : Rdy w 600 A s.heap) (x : Int) (tx : Tok)
    (hret : ∀ v t h' tk', v = b64v x → (∀ b o, s.heap.get? b = some o → h'.get? b = some o) → Q (.int v t) { s with heap := h', toks := tk' }) :
    wpAny (MM w) A (call (.ref 182) [.int x tx]) Q E s := by
  refine R.go ?_
  intro gd base fs p loose mean mg mb B X T
  dsimp only [MM]; revert X; k_fill; intro X
  refine' wpAny_call (enterP B X T ?ho ?hcd ?hroom ?hbind ?hloc ?_ ?c1 ?c2 ?c3 ?c4)
  case ho => k_is
  case hcd => k_is
  case hroom => exact Nat.le_of_ble_eq_true rfl
  case hbind => first | exact BindsTo.of_eq rfl | exact binds_K (by k_in) rfl (by k_is) rfl rfl rfl
  case hloc => exact locs rfl
  case c1 => rfl
  case c2 => rfl
  case c3 => rfl
  case c4 => decide
  intro L' h₁ F' N'
  try dsimp only
  (try show wpAny _ _ _ _ _ _)
  (try k_fold)
  k_steps
  all_goals (refine hret _ _ _ _ ?_ (Fr.keep (by assumption)); clear hret; first
    | exact bv1 (by with_reducible assumption) (by with_reducible assumption)
    | exact bv2 (by with_reducible assumption) (by with_reducible assumption)
    | exact bv3 (by with_reducible assumption) (by with_reducible assumption)
    | (subst_vars; rfl)
    | exact bv6 (by omega) (by omega) (by omega) (by omega) (by omega)
    | ((unfold b64v); (repeat' split) <;> omega))
end B64v
section B64l
theorem rules_B64l_1 : True := by
  k_with_none
  k_with "exec If" => (refine wpAny_If ?_)
  trivial
theorem bytes_push1 {prog : Program} {w : World} {A : Around} {E : Value → Shared → Prop} {s : Shared} {h₀ : Heap} {L l : Addr} {m : Str → Option Value} {news : List (Addr × Obj)} {Q : Value → Shared → Prop} {a : Int} {ta : Tok} {k : Nat}
    (F : Fr h₀ L s.heap m) (N : News h₀ L s.heap news) (hh : A.handled = none) (hm : (l, PySem.W.listOf ((#[] : Array Value).push (.int a ta)) k) ∈ news) (ha : 0 ≤ a ∧ a < 256)
    (h : ∀ h' t k, Fr h₀ L h' m → News h₀ L h' news → Q (.bytes #[a.toNat.toUInt8] t) { s with heap := h', toks := k }) :
    wpAny (model prog w) A (call (.type "bytes") [.ref l]) Q E s :=
  bytes_K (vs := [.int a ta]) (ns := [a]) F N ⟨_, (N _ hm).1, rfl, _, rfl⟩ (.cons _ _ .nil) (by
    intro n hn
    simp only [List.mem_cons, List.not_mem_nil, or_false] at hn
    rcases hn with rfl <;> assumption) (by show 1 ≤ sizeLine; rw [sizeLine_eq]; decide) hh fun h' t k F' N' _ => h h' t k F' N'
theorem b64v_nonneg {x : Int} (h : 0 ≤ x) : 0 ≤ b64v x := by unfold b64v; (repeat' split) <;> omega
theorem tr_dec4 {prog : Program} {w : World} {A : Around} {E : Value → Shared → Prop} {s : Shared} {b tab : Array UInt8} {t u : Tok} {Q : Value → Shared → Prop} {v : Array UInt8} (he : trF decTab b = v) (e : tab = decTab) (hsz : b.size ≤ sizeLine)
    (h : ∀ t' k, Q (.bytes v t') { s with toks := k }) : wpAny (model prog w) A (call (.builtin "bytes.translate") [.bytes b t, .bytes tab u]) Q E s :=
  tr_dec e hsz (he ▸ h)
theorem enc4_fit {x : Str} (h : x.length = 4) : x.length ≤ sizeLine := by rw [h, sizeLine_eq]; decide
theorem enc4_two {x : Str} (h : x.length = 4) : 2 ≤ x.length := by omega
theorem encb_fit {x : Str} (h : x.length = 4) : (x.cps.map fun c => c.toUInt8).size ≤ sizeLine := by rw [Array.size_map]; exact enc4_fit h
end B64l
section Red
theorem rules_Red_1 : True := by
  k_with_none
  k_with "exec If" => (refine wpAny_If ?_)
  trivial
/-- a walk that begins at its k-th item -/
theorem Walks.from {prog : Program} {w : World} {A : Around} {I : Addr} {fp wr : List Addr} {n : Nat} {P : Nat → Value → Prop} {St : Nat → Heap → Prop} (W : Walks prog w A I fp wr n P St) (k : Nat) (hk : k ≤ n) :
    Walks prog w A I fp wr (n - k) (fun i v => P (k + i) v) (fun i h => St (k + i) h) where
  sub := W.sub
  frame := fun i h h' st e => W.frame _ h h' st e
  item := fun i s Q E hi st hQ => W.item (k + i) s Q E (by omega) st hQ
  done := fun s Q E st hQ => W.done s Q E (by rw [show n = k + (n - k) by omega]; exact st) hQ
  self := fun i s Q E st hQ => W.self _ s Q E st hQ
noncomputable abbrev liObj (l : Addr) (i : Nat) : Obj := { cls := .type "list_iterator", data := .fields #[.ref l, .int i 0] }
section
variable {prog : Program} {w : World} {A : Around} {E : Value → Shared → Prop} {s : Shared} {h₀ : Heap} {L : Addr} {m : Str → Option Value} {news : List (Addr × Obj)}
theorem iter_list {Q : Value → Shared → Prop} {l : Addr} {its : Array Value} (F : Fr h₀ L s.heap m) (N : News h₀ L s.heap news) (hl : h₀.IsList l its)
    (h : ∀ (I : Addr) h', Fr h₀ L h' m → News h₀ L h' ((I, liObj l 0) :: news) → (∀ p ∈ news, p.1 < I) → Q (.ref I) { s with heap := h' }) :
    wpAny (model prog w) A (call (.builtin "iter") [.ref l]) Q E s := by
  refine call_function_entry (by decide +kernel) (by decide +kernel) kdk_entry_iter (kdk_args_iter _) ?_
  unfold Builtin.«iter»
  refine wpAny_bind (m := someArgs "iter" 1 2 _) (wpAny_of_eq (a := [Value.ref l]) (by first | rfl | kernel_rfl!) ?_)
  show wpAny _ _ (pyIter (.ref l) >>= _) _ _ _
  refine wpAny_bind (wpAny_pyIter_list (hl.at fun o e => F.keep _ o e) ?_)
  exact wpAny_pure ⟨_, rfl, h _ _ (F.push _) (News.push F N _ rfl) (fun q hq => Heap.lt_size (N q hq).1)⟩
theorem next_list {Q : Value → Shared → Prop} {I l : Addr} {i : Nat} {its : Array Value} {x : Value} (F : Fr h₀ L s.heap m) (N : News h₀ L s.heap [(I, liObj l i)]) (hl : h₀.IsList l its) (hx : its[i]? = some x)
    (h : ∀ h', Fr h₀ L h' m → News h₀ L h' [(I, liObj l (i + 1))] → Q x { s with heap := h' }) :
    wpAny (model prog w) A (call (.builtin "next") [.ref I]) Q E s := by
  have hm := N (I, liObj l i) (.head _)
  have hit : s.heap.IsListIter I l i := ⟨_, hm.1, rfl, rfl⟩
  refine call_function_entry (by decide +kernel) (by decide +kernel) kdk_entry_next (kdk_args_next _) ?_
  unfold Builtin.«next»
  refine wpAny_bind (m := someArgs "next" 1 2 _) (wpAny_of_eq (a := [Value.ref I]) (by first | rfl | kernel_rfl!) ?_)
  dsimp only
  obtain ⟨ol, hol, _, nl, hdl⟩ := hl.at (h' := s.heap) fun o e => F.keep _ o e
  refine wpAny_bind (wpAny_specialOf (name := Str.ofString "__next__") hit.typeIs slot_listiter_next.lookup ?_)
  refine wpAny_ite_split (fun hab => absurd hab (by decide)) (fun _ => ?_)
  refine wpAny_bind (wpAny_callSpecial?_slot (name := Str.ofString "__next__") hit.typeIs slot_listiter_next
    (wpAny_call_entry slot_listiter_next hit.typeIs entry_listiter_next ?_ (args_listiter_next _)))
  show wpAny _ _ (field (.ref I) 0 >>= _) _ _ s
  refine wpAny_bind (wpAny_field hm.1 rfl (x := .ref l) rfl ?_)
  show wpAny _ _ (if (Value.ref l == Value.none) = true then _ else _) _ _ s
  rw [if_neg (show ¬ ((Value.ref l == Value.none) = true) from Bool.false_ne_true)]
  show wpAny _ _ (field (.ref I) 1 >>= _) _ _ s
  refine wpAny_bind (wpAny_field hm.1 rfl (x := .int i 0) rfl ?_)
  show wpAny _ _ (seqItems? (.ref l) >>= _) _ _ s
  refine wpAny_bind (wpAny_seqItems hol hdl ?_)
  simp only [Int.toNat_natCast, hx]
  have hs := Heap.SameBut.update s.heap I (Obj.mapFields (·.setIfInBounds 1 (rawInt ((i : Int) + 1))))
  refine wpAny_bind (wpAny_setField hm.1 rfl (by simp) (wpAny_pure ⟨x, rfl, wpAny_pure ⟨_, rfl, h _ (F.change hs hm.2.1 hm.2.2) ?_⟩⟩))
  intro p hp
  rw [List.mem_singleton.mp hp]
  exact ⟨Heap.get?_update_self _ hm.1 rfl, hm.2⟩
/-- what a turn of reduce's loop leaves -/
noncomputable def RedEnd (h₀ : Heap) (L : Addr) (f : Addr) (own : List (Addr × Obj)) (J : Value → Prop) (s₁ : Shared) (fl : Flow) (s₂ : Shared) : Prop :=
  fl = .next ∧ ∃ h' tk m' v, s₂ = { s₁ with heap := h', toks := tk } ∧ Fr h₀ L h' m' ∧ News h₀ L h' own ∧ m' "value" = some v ∧ m' "function" = some (.ref f) ∧ J v
theorem RedEnd.intro {f : Addr} {own : List (Addr × Obj)} {J : Value → Prop} {s₁ : Shared} {h' : Heap} {tk : Tok} {m' : Str → Option Value} {v : Value} (F : Fr h₀ L h' m') (N : News h₀ L h' own) (hv : m' "value" = some v) (hf : m' "function" = some (.ref f)) (hJ : J v) :
    RedEnd h₀ L f own J s₁ .next { s₁ with heap := h', toks := tk } := ⟨rfl, h', tk, m', v, rfl, F, N, hv, hf, hJ⟩
theorem red_iter {env : Env} {x : Str} {body : List Stmt} {Q : Flow → Shared → Prop} {f I : Addr} {fp : List Addr} {n : Nat} {P : Nat → Value → Prop} {St : Nat → Heap → Prop} {v0 : Value} {oI : Obj} (J : Nat → Value → Prop)
    (F : Fr h₀ env.locals s.heap m) (N : News h₀ env.locals s.heap [(I, oI)]) (W : Walks prog w A I fp [I] n P St) (hst : St 0 s.heap) (hL : env.locals ∉ fp)
    (hv : m "value" = some v0) (hf : m "function" = some (.ref f)) (hxv : x ≠ "value") (hxf : x ≠ "function") (hJ : J 0 v0)
    (turn : ∀ i v a m₁ h tk own, i < n → P i v → J i a → m₁ "value" = some a → m₁ "function" = some (.ref f) → m₁ x = some v → Fr h₀ env.locals h m₁ → News h₀ env.locals h own →
      wpAny (model prog w) A (execs body env) (RedEnd h₀ env.locals f own (J (i + 1)) { s with heap := h, toks := tk }) E { s with heap := h, toks := tk })
    (done : ∀ a m₁ h tk, J n a → m₁ "value" = some a → Fr h₀ env.locals h m₁ → Q .next { s with heap := h, toks := tk }) :
    wpAny (model prog w) A (pyIter (.ref I)) (fun it s₂ => LoopAtV prog w A h₀ env x body Q E it s₂) E s := by
  refine W.self 0 _ _ _ hst ?_
  refine ⟨I, fp, [I], n, P, St, m, [], fun i m₁ nw => nw = [] ∧ ∃ a, J i a ∧ m₁ "value" = some a ∧ m₁ "function" = some (.ref f), rfl, W, hL, ?_, (fun _ h => nomatch h), hst, F, (fun _ h => nomatch h), ⟨rfl, v0, hJ, hv, hf⟩, ?_, ?_⟩
  · intro b hb
    rw [List.mem_singleton.mp hb]; exact (N _ (.head _)).2.2
  · rintro i v m₁ news₁ s₁ own ⟨h, tk, rfl⟩ hin hP ⟨rfl, a, hJa, hva, hfa⟩ _ _ _ _ _ F₁ N₁
    rw [List.append_nil] at N₁
    refine wpAny_mono (turn i v a _ h tk own hin hP hJa (by simp only [if_neg (Ne.symm hxv)]; exact hva) (by simp only [if_neg (Ne.symm hxf)]; exact hfa) (by simp) F₁ N₁) (fun fl s₂ q => ?_) fun _ _ e => e
    obtain ⟨rfl, h', tk', m', v', rfl, F', N', h1, h2, h3⟩ := q
    exact .next ⟨rfl, h', tk', m', [], rfl, F', by rw [List.append_nil]; exact N', (fun _ h => nomatch h), rfl, v', h3, h1, h2⟩
  · rintro h' tk m' news' F' _ _ ⟨_, a, hJa, hva, _⟩
    exact done a m' h' tk hJa hva F'
theorem red_list {env : Env} {x : Str} {body : List Stmt} {Q : Flow → Shared → Prop} {f I l : Addr} {k : Nat} {its : Array Value} {v0 : Value} (J : Nat → Value → Prop) (hh : A.handled = none)
    (F : Fr h₀ env.locals s.heap m) (N : News h₀ env.locals s.heap [(I, liObj l k)]) (hl : h₀.IsList l its) (hk : k ≤ its.size)
    (hv : m "value" = some v0) (hf : m "function" = some (.ref f)) (hxv : x ≠ "value") (hxf : x ≠ "function") (hJ : J 0 v0)
    (turn : ∀ i v a m₁ h tk own, its[k + i]? = some v → J i a → m₁ "value" = some a → m₁ "function" = some (.ref f) → m₁ x = some v → Fr h₀ env.locals h m₁ → News h₀ env.locals h own →
      wpAny (model prog w) A (execs body env) (RedEnd h₀ env.locals f own (J (i + 1)) { s with heap := h, toks := tk }) E { s with heap := h, toks := tk })
    (done : ∀ a m₁ h tk, J (its.size - k) a → m₁ "value" = some a → Fr h₀ env.locals h m₁ → Q .next { s with heap := h, toks := tk }) :
    wpAny (model prog w) A (pyIter (.ref I)) (fun it s₂ => LoopAtV prog w A h₀ env x body Q E it s₂) E s := by
  have hI := N _ (.head _)
  obtain ⟨ol, hol, hr⟩ := id hl
  have hne : l ≠ I := fun e => by subst e; have := hI.2.2; rw [hol] at this; cases this
  have hneL : l ≠ env.locals := fun e => by have h1 := Heap.lt_size hol; have h2 := F.above; rw [e] at h1; exact absurd h2 (Nat.not_le.mpr h1)
  refine red_iter J F N (Walks.from (Walks.list hh I l hne its) k hk) ⟨⟨_, hI.1, rfl, rfl⟩, hl.at fun o e => F.keep _ o e⟩ ?_ hv hf hxv hxf hJ (fun i v a m₁ h tk own _ hP => turn i v a m₁ h tk own hP) done
  intro hm
  rcases List.mem_cons.mp hm with e | hm
  · exact hI.2.1 e.symm
  · exact hneL (List.mem_singleton.mp hm).symm
noncomputable abbrev riObj (a n : Int) : Obj := { cls := .type "range_iterator", dict := none, data := .fields #[rawInt a, rawInt n, rawInt 1], slots := #[] }
theorem iter_range {Q : Value → Shared → Prop} {r : Addr} {n : Nat} {t u v : Tok} (F : Fr h₀ L s.heap m) (N : News h₀ L s.heap news) (hr : IsRange h₀ r 0 (n : Int) 1 t u v) (hn : n ≤ 10)
    (h : ∀ (I : Addr) h', Fr h₀ L h' m → News h₀ L h' ((I, riObj 0 n) :: news) → (∀ p ∈ news, p.1 < I) → Q (.ref I) { s with heap := h' }) :
    wpAny (model prog w) A (call (.builtin "iter") [.ref r]) Q E s := by
  refine call_function_entry (by decide +kernel) (by decide +kernel) kdk_entry_iter (kdk_args_iter _) ?_
  unfold Builtin.«iter»
  refine wpAny_bind (m := someArgs "iter" 1 2 _) (wpAny_of_eq (a := [Value.ref r]) (by first | rfl | kernel_rfl!) ?_)
  show wpAny _ _ (pyIter (.ref r) >>= _) _ _ _
  have hsz : Builtin.Range.rangeSize 0 (n : Int) 1 = (n : Int) := by
    have : ∀ k : Fin 11, Builtin.Range.rangeSize 0 ((k.1 : Nat) : Int) 1 = ((k.1 : Nat) : Int) := by decide +kernel
    exact this ⟨n, by omega⟩
  have hsm : Builtin.Range.small 0 (n : Int) 1 = true := by
    have : ∀ k : Fin 11, Builtin.Range.small 0 ((k.1 : Nat) : Int) 1 = true := by decide +kernel
    exact this ⟨n, by omega⟩
  refine wpAny_bind (wpAny_pyIter_range (F.keep _ _ hr) hsm ?_)
  rw [hsz]
  exact wpAny_pure ⟨_, rfl, h _ _ (F.push _) (News.push F N _ rfl) (fun q hq => Heap.lt_size (N q hq).1)⟩
theorem red_range {env : Env} {x : Str} {body : List Stmt} {Q : Flow → Shared → Prop} {f I : Addr} {n : Nat} {v0 : Value} (J : Nat → Value → Prop) (hh : A.handled = none)
    (F : Fr h₀ env.locals s.heap m) (N : News h₀ env.locals s.heap [(I, riObj 0 n)])
    (hv : m "value" = some v0) (hf : m "function" = some (.ref f)) (hxv : x ≠ "value") (hxf : x ≠ "function") (hJ : J 0 v0)
    (turn : ∀ i v a m₁ h tk own, (∃ t, v = .int (i : Int) t) → J i a → m₁ "value" = some a → m₁ "function" = some (.ref f) → m₁ x = some v → Fr h₀ env.locals h m₁ → News h₀ env.locals h own →
      wpAny (model prog w) A (execs body env) (RedEnd h₀ env.locals f own (J (i + 1)) { s with heap := h, toks := tk }) E { s with heap := h, toks := tk })
    (done : ∀ a m₁ h tk, J n a → m₁ "value" = some a → Fr h₀ env.locals h m₁ → Q .next { s with heap := h, toks := tk }) :
    wpAny (model prog w) A (pyIter (.ref I)) (fun it s₂ => LoopAtV prog w A h₀ env x body Q E it s₂) E s := by
  have hI := N _ (.head _)
  refine red_iter J F N (Walks.range hh I 0 1 n) ?_ ?_ hv hf hxv hxf hJ (fun i v a m₁ h tk own _ hP => turn i v a m₁ h tk own ?_) done
  · show IsRangeIter _ _ _ _ _
    simpa using hI.1
  · intro hm
    exact hI.2.1 (List.mem_singleton.mp hm).symm
  · obtain ⟨t, rfl⟩ := hP
    exact ⟨t, by simp⟩
end
end Red
section Red2
theorem rules_Red2_1 : True := by
  k_with_none
  k_with "exec If" => (refine wpAny_If ?_)
  trivial
/-- what reduce asks of its function -/
noncomputable def FnDoes (w : World) (h₁ : Heap) (f : Addr) (P : Nat → Value → Prop) (J : Nat → Value → Prop) : Prop :=
  ∀ (A : Around) (s : Shared) (i : Nat) (a v : Value) (Q E : Value → Shared → Prop), Rdy w 450 A s.heap → (∀ b o, h₁.get? b = some o → s.heap.get? b = some o) → P i v → J i a →
    (∀ r h' tk', (∀ b o, s.heap.get? b = some o → h'.get? b = some o) → J (i + 1) r → Q r { s with heap := h', toks := tk' }) → wpAny (MM w) A (call (.ref f) [a, v]) Q E s
theorem fnAt_keep {q : Addr} {h₀ h : Heap} {L : Addr} {m : Str → Option Value} (F : Fr h₀ L h m) (X : FnAt q h₀) : FnAt q h := let ⟨a, b, c, d, e⟩ := X; ⟨a, b, c, d, F.keep _ _ e⟩
theorem rules_Red2_2 : True := by
  k_with_none
  k_with "exec If" => (refine wpAny_If ?_)
  k_with "call builtin:iter" => ((k_here; k_dflt (refine iter_list (by k_asm) (by k_asm) (by assumption) ?_); intro I' h' F' N' l1; clear l1))
  k_with "call builtin:next" => ((k_here; k_dflt (refine next_list (by k_asm) (by k_asm) (by assumption) (by rfl) ?_); intro h' F' N'))
  k_with "eval Name" => ((k_here; (with_reducible show wpAny _ _ (eval (Expr.Name _ _) (envOf _ _ _ _ _)) _ _ _); k_dflt (refine' ld ?k1 ?k2 ?_; (case k1 => k_asm); (case k2 => with_reducible assumption); k_whole)))
  k_with "FnAt" => ((exact fnAt_keep (by k_asm) (by with_reducible assumption)))
  k_with "callWith ref" => ((k_here; k_dflt (refine' callWith_F ?k1 ?_; (case k1 => exact fnAt_keep (by k_asm) (by with_reducible assumption)); k_whole)))
  k_with "compareOp Is" => ((k_here; (with_reducible show wpAny _ _ (compareOp CmpOp.Is (Value.bytes _ _) (Value.ref _)) _ _ _); refine wpAny_is_other (by rfl) (by intro x; cases x) ?_))
  k_with "compareOp Is" => ((k_here; (with_reducible show wpAny _ _ (compareOp CmpOp.Is (Value.str _ _) (Value.ref _)) _ _ _); refine wpAny_is_other (by rfl) (by intro x; cases x) ?_))
  k_with "call builtin:iter" => ((k_here; k_dflt (refine iter_range (by k_asm) (by k_asm) (by assumption) (by assumption) ?_); intro I' h' F' N' l1; clear l1))
  trivial
theorem reduce1 {w : World} {A : Around} {s : Shared} {Q E : Value → Shared → Prop} (R : Rdy w 400 A s.heap) (f l : Addr) (v0 : Value) (vs : List Value) (hl : s.heap.IsList l (v0 :: vs).toArray) (hfn : FnAt f s.heap) (J : Nat → Value → Prop)
    (hf : FnDoes w s.heap f (fun i v => vs[i]? = some v) J) (hJ : J 0 v0)
    (hret : ∀ r h' tk', (∀ b o, s.heap.get? b = some o → h'.get? b = some o) → J vs.length r → Q r { s with heap := h', toks := tk' }) :
    wpAny (MM w) A (call (.ref 282) [.ref f, .ref l]) Q E s := by
  refine R.go ?_
  intro gd base fs p loose mean mg mb B X T
  dsimp only [MM]; revert X; k_fill; intro X
  refine' wpAny_call (enterP B X T ?ho ?hcd ?hroom ?hbind ?hloc ?_ ?c1 ?c2 ?c3 ?c4)
  case ho => k_is
  case hcd => k_is
  case hroom => exact Nat.le_of_ble_eq_true rfl
  case hbind => first | exact BindsTo.of_eq rfl | exact binds_K (by k_in) rfl (by k_is) rfl rfl rfl
  case hloc => exact locs rfl
  case c1 => rfl
  case c2 => rfl
  case c3 => rfl
  case c4 => decide
  intro L' h₁ F' N'
  try dsimp only
  (try show wpAny _ _ _ _ _ _)
  (try k_fold)
  k_steps
  refine red_list (f := f) J rfl (by k_asm) (by k_asm) hl (by simp) rfl rfl (by decide) (by decide) hJ ?_ ?_
  · intro i v a m₁ h tk own hP hJa hva hfa hxa F₁ N₁
    have hP' : vs[i]? = some v := by simpa [Nat.add_comm 1 i] using hP
    k_steps
    refine hf _ _ i a v _ _ (Rdy.of_walk B F₁ X T rfl rfl (Nat.le_of_ble_eq_true rfl) (Nat.le_of_ble_eq_true rfl) rfl) F₁.keep hP' hJa ?_
    intro r h' tk' hk hJr
    have F₂ := fr_keep F₁ hk
    have N₂ := news_keep N₁ hk
    clear N₁ F₁
    k_steps
    refine' RedEnd.intro ?F ?N ?v ?f ?J
    case F => k_asm
    case N => k_asm
    case v => rfl
    case f => exact hfa
    case J => exact hJr
  · intro a m₁ h tk hJa hva F₁
    k_steps
    exact hret _ _ _ F₁.keep (by simpa using hJa)
theorem reduce2 {w : World} {A : Around} {s : Shared} {Q E : Value → Shared → Prop} (R : Rdy w 400 A s.heap) (f l : Addr) (b0 : Array UInt8) (t0 : Tok) (vs : List Value) (hl : s.heap.IsList l vs.toArray) (hfn : FnAt f s.heap) (J : Nat → Value → Prop)
    (hf : FnDoes w s.heap f (fun i v => vs[i]? = some v) J) (hJ : J 0 (.bytes b0 t0))
    (hret : ∀ r h' tk', (∀ b o, s.heap.get? b = some o → h'.get? b = some o) → J vs.length r → Q r { s with heap := h', toks := tk' }) :
    wpAny (MM w) A (call (.ref 282) [.ref f, .ref l, .bytes b0 t0]) Q E s := by
  refine R.go ?_
  intro gd base fs p loose mean mg mb B X T
  dsimp only [MM]; revert X; k_fill; intro X
  refine' wpAny_call (enterP B X T ?ho ?hcd ?hroom ?hbind ?hloc ?_ ?c1 ?c2 ?c3 ?c4)
  case ho => k_is
  case hcd => k_is
  case hroom => exact Nat.le_of_ble_eq_true rfl
  case hbind => first | exact BindsTo.of_eq rfl | exact binds_K (by k_in) rfl (by k_is) rfl rfl rfl
  case hloc => exact locs rfl
  case c1 => rfl
  case c2 => rfl
  case c3 => rfl
  case c4 => decide
  intro L' h₁ F' N'
  try dsimp only
  (try show wpAny _ _ _ _ _ _)
  (try k_fold)
  k_steps
  refine red_list (f := f) J rfl (by k_asm) (by k_asm) hl (by simp) rfl rfl (by decide) (by decide) hJ ?_ ?_
  · intro i v a m₁ h tk own hP hJa hva hfa hxa F₁ N₁
    have hP' : vs[i]? = some v := by simpa using hP
    k_steps
    refine hf _ _ i a v _ _ (Rdy.of_walk B F₁ X T rfl rfl (Nat.le_of_ble_eq_true rfl) (Nat.le_of_ble_eq_true rfl) rfl) F₁.keep hP' hJa ?_
    intro r h' tk' hk hJr
    have F₂ := fr_keep F₁ hk
    have N₂ := news_keep N₁ hk
    clear N₁ F₁
    k_steps
    refine' RedEnd.intro ?F ?N ?v ?f ?J
    case F => k_asm
    case N => k_asm
    case v => rfl
    case f => exact hfa
    case J => exact hJr
  · intro a m₁ h tk hJa hva F₁
    k_steps
    exact hret _ _ _ F₁.keep (by simpa using hJa)
theorem reduce3 {w : World} {A : Around} {s : Shared} {Q E : Value → Shared → Prop} (R : Rdy w 400 A s.heap) (f r : Addr) (x0 : Str) (t0 : Tok) (n : Nat) (t u v : Tok) (hr : IsRange s.heap r 0 (n : Int) 1 t u v) (hn : n ≤ 10) (hfn : FnAt f s.heap) (J : Nat → Value → Prop)
    (hf : FnDoes w s.heap f (fun i v => ∃ t, v = .int (i : Int) t) J) (hJ : J 0 (.str x0 t0))
    (hret : ∀ r h' tk', (∀ b o, s.heap.get? b = some o → h'.get? b = some o) → J n r → Q r { s with heap := h', toks := tk' }) :
    wpAny (MM w) A (call (.ref 282) [.ref f, .ref r, .str x0 t0]) Q E s := by
  refine R.go ?_
  intro gd base fs p loose mean mg mb B X T
  dsimp only [MM]; revert X; k_fill; intro X
  refine' wpAny_call (enterP B X T ?ho ?hcd ?hroom ?hbind ?hloc ?_ ?c1 ?c2 ?c3 ?c4)
  case ho => k_is
  case hcd => k_is
  case hroom => exact Nat.le_of_ble_eq_true rfl
  case hbind => first | exact BindsTo.of_eq rfl | exact binds_K (by k_in) rfl (by k_is) rfl rfl rfl
  case hloc => exact locs rfl
  case c1 => rfl
  case c2 => rfl
  case c3 => rfl
  case c4 => decide
  intro L' h₁ F' N'
  try dsimp only
  (try show wpAny _ _ _ _ _ _)
  (try k_fold)
  k_steps
  refine red_range (f := f) J rfl (by k_asm) (by k_asm) rfl rfl (by decide) (by decide) hJ ?_ ?_
  · intro i v a m₁ h tk own hP hJa hva hfa hxa F₁ N₁
    have hP' := hP
    k_steps
    refine hf _ _ i a v _ _ (Rdy.of_walk B F₁ X T rfl rfl (Nat.le_of_ble_eq_true rfl) (Nat.le_of_ble_eq_true rfl) rfl) F₁.keep hP' hJa ?_
    intro r h' tk' hk hJr
    have F₂ := fr_keep F₁ hk
    have N₂ := news_keep N₁ hk
    clear N₁ F₁
    k_steps
    refine' RedEnd.intro ?F ?N ?v ?f ?J
    case F => k_asm
    case N => k_asm
    case v => rfl
    case f => exact hfa
    case J => exact hJr
  · intro a m₁ h tk hJa hva F₁
    k_steps
    exact hret _ _ _ F₁.keep hJa
end Red2
section Lam
section
variable {prog : Program} {w : World} {A : Around} {s : Shared} {base : Heap} {fs : List Env} {K : Frag} {mg mb : Str → Option Value} {p : Program} {loose : List Str} {mean : ExcName → Option Value}
theorem rules_Lam_1 : True := by
  k_with_none
  k_with "exec If" => (refine wpAny_If ?_)
  trivial
theorem enterL {R : Result → Shared → Prop} {name qual : Str} {params : Arguments} {body : Expr} {scope : Scope} {pm ctv : Value} {c' f : Addr} {args : Args} {binds : List (Str × Value)}
    (T : Top p loose mean mg mb s.heap) (ho : s.heap.get? f = some (kla_obj name qual params body scope [] pm c' ctv)) (hcd : s.heap.CodeRec (.ref c') qual) (hroom : A.depth < recursionLimit)
    (hbind : bindArgs (kla_fn name qual params body scope [] pm (.ref c') ctv) args = pure binds) (hloc : ∀ y ∈ binds, scope.names.lookup y.1 = some .local)
    (h : ∀ L' h₁, Fr s.heap L' h₁ (fun y => binds.reverse.lookup y) → News s.heap L' h₁ [] →
      wpAny (model prog w) (A.deeper (envX qual scope L' f (.ref c') [])) (eval body (envX qual scope L' f (.ref c') []))
        (fun v s' => R (.ok (.ret v)) s')
        (fun e s' => wpAny (model prog w) (A.deeper (envX qual scope L' f (.ref c') [])) (leaving (envX qual scope L' f (.ref c') []) e) (fun _ s'' => R (.error e) s'') (fun e' s'' => R (.error e') s'') s')
        { s with heap := h₁, toks := s.toks + binds.length })
    (hco : scope.isCoroutine = false) (hgen : scope.isGenerator = false) (hk : scope.kind = .function)
    (hcell : ∀ x ∈ scope.names, x.2 ≠ .cell) : codeAny (model prog w) A (.call (.ref f) args) R s := by
  refine kla_callFunE hroom ho rfl hco hgen rfl hcd ?_
  rw [hbind]
  refine wpAny_pure (wpAny_newFunctionEnv hcell hloc (fun h₁ hns hsb => ⟨(T.nolimit).fresh _ hsb, ?_⟩) hk)
  show codeAny _ _ (.expr body (envX qual scope s.heap.objs.size f (.ref c') [])) _ _
  have hk₁ : ∀ b o, s.heap.get? b = some o → h₁.get? b = some o := fun b o e => hsb.extBut b o (Nat.ne_of_lt (Heap.lt_size e)) (Heap.get?_push_of_some _ e)
  exact kla_codeExpr (h s.heap.objs.size h₁ ⟨hns, hk₁, Nat.le_refl _⟩ (fun p hp => nomatch hp))
end
end Lam
section Tab
theorem rules_Tab_1 : True := by
  k_with_none
  k_with "exec If" => (refine wpAny_If ?_)
  trivial
/-- a heap in which a code's table is hidden -/
noncomputable abbrev hid (h : Heap) (P : Addr) : Heap := hideAll h [P]
theorem hid_ne {h : Heap} {P b : Addr} {o : Obj} (e : h.get? b = some o) (hb : b ≠ P) : (hid h P).get? b = some o := hideAll_get _ e fun q => hb (List.mem_singleton.mp q)
theorem hid_of {h : Heap} {P b : Addr} {o : Obj} (e : (hid h P).get? b = some o) : h.get? b = some o := of_hideAll _ e
theorem hid_none {h : Heap} {P : Addr} : (hid h P).get? P = none := hideAll_none _ (List.mem_singleton.mpr rfl)
theorem hid_but {h : Heap} {P b : Addr} {o : Obj} {ps : Array Value} (hP : h.get? P = some (tabObj ps)) (e : h.get? b = some o) (hn : o ≠ tabObj ps) : (hid h P).get? b = some o :=
  hid_ne e fun q => by rw [q, hP] at e; exact hn (Option.some.inj e).symm
theorem hid_ns {h : Heap} {P a : Addr} {ps : Array Value} {mm : Str → Option Value} (hP : h.get? P = some (tabObj ps)) (x : h.Ns a mm) : (hid h P).Ns a mm :=
  let ⟨o, es, ep, e, hd, r⟩ := x; ⟨o, es, ep, hid_but hP e (fun q => by rw [q] at hd; cases hd), hd, r⟩
theorem hid_list {h : Heap} {P a : Addr} {ps its : Array Value} (hP : h.get? P = some (tabObj ps)) (x : h.IsList a its) : (hid h P).IsList a its := by
  obtain ⟨o, e, hc, r⟩ := x
  exact ⟨o, hid_but hP e (fun q => by rw [q] at hc; cases hc), hc, r⟩
theorem KF_noTabs (P : Params) : noTabs (KF P) = true := by kernel_rfl
theorem hid_K {w : World} {h : Heap} {P : Addr} {ps : Array Value} (hP : h.get? P = some (tabObj ps)) (X : (KF w.params).In h) : (KF w.params).In (hid h P) := fun a o e => by
  refine hid_but hP (X a o e) fun q => ?_
  have h2 := List.all_eq_true.mp (KF_noTabs w.params) (a, o) (mem_of_lookupK e)
  subst q
  exact absurd (show false = true from h2) Bool.false_ne_true
theorem hid_top {h : Heap} {P : Addr} {ps : Array Value} {p : Program} {loose : List Str} {mg mb : Str → Option Value} {mean : ExcName → Option Value} (hP : h.get? P = some (tabObj ps)) (T : Top p loose mean mg mb h) :
    Top topProg (loose ++ (recsOf p).map (·.name) ++ (litsOf p).map (·.1) ++ (clssOf p loose).map (·.name)) mean mg mb (hid h P) where
  g := hid_ns hP T.g
  b := hid_ns hP T.b
  nolimit := let ⟨mc, a, r⟩ := T.nolimit; ⟨mc, hid_ns hP a, r⟩
  nodigits := let ⟨mc, a, r⟩ := T.nodigits; ⟨mc, hid_ns hP a, r⟩
  fn := fun d hd => absurd (show d ∈ ([] : List DefRec) from hd) List.not_mem_nil
  own := fun o ho => absurd (show o ∈ ([] : List OwnSpec) from ho) List.not_mem_nil
  const := fun x d e => by cases (show (none : Option PyData) = some d from e)
  free := fun x h1 h2 _ _ _ => T.free x h1 (fun q => h2 (List.mem_append_left _ (List.mem_append_left _ (List.mem_append_left _ q))))
    (fun q => h2 (List.mem_append_left _ (List.mem_append_left _ (List.mem_append_right _ q)))) (fun q => h2 (List.mem_append_left _ (List.mem_append_right _ q))) fun q => h2 (List.mem_append_right _ q)
  builtins := T.builtins
  tab := fun d hd => absurd (show d ∈ ([] : List DefRec) from hd) List.not_mem_nil
  bmain := let ⟨bm, ob, a1, a2, a3, a4, r⟩ := T.bmain; ⟨bm, ob, a1, a2, hid_but hP a3 (fun q => by rw [q] at a4; cases a4), a4, r⟩
  seer := fun e => absurd (show false = true from e) Bool.false_ne_true
theorem hid_below {A : Around} {base h : Heap} {fs : List Env} {P : Addr} {ps : Array Value} (hP : h.get? P = some (tabObj ps)) (B : Below A base fs h) : Below A (hid base P) fs (hid h P) := by
  refine ⟨B.stack, fun b o e => hid_ne (B.stays b o (hid_of e)) (fun q => by rw [q, hid_none] at e; cases e), ?_⟩
  have h1 : h.FunFrames (hid base P) fs := by
    have : ∀ {l : List Env}, h.FunFrames base l → h.FunFrames (hid base P) l := fun {l} => by
      induction l with
      | nil => exact fun _ => trivial
      | cons env rest ih =>
        rintro ⟨hk, ⟨L, o, hf, hn, ho, hd⟩, hr⟩
        refine ⟨hk, ⟨L, o, hf, ?_, ho, hd⟩, ih hr⟩
        cases q : (hid base P).get? L with
        | none => rfl
        | some o' => rw [hid_of q] at hn; cases hn
    exact this B.frames
  exact h1.of_keeps fun b o e hd => ⟨o, hid_but hP e (fun q => by rw [q] at hd; exact hd _ rfl), rfl⟩
theorem hid_fr {h h' : Heap} {P L : Addr} {m : Str → Option Value} (F : Fr h L h' m) : Fr (hid h P) L h' m := ⟨F.ns, fun b o e => F.keep b o (hid_of e), Nat.le_trans (Nat.le_of_eq (hideAll_size _ _)) F.above⟩
theorem hid_news {h h' : Heap} {P L : Addr} {ps : Array Value} {m : Str → Option Value} {news : List (Addr × Obj)} (hP : h.get? P = some (tabObj ps)) (F : Fr h L h' m) (N : News h L h' news) : News (hid h P) L h' (news ++ [(P, tabObj ps)]) := fun q hq => by
  rcases List.mem_append.mp hq with hq | hq
  · refine ⟨(N q hq).1, (N q hq).2.1, ?_⟩
    cases z : (hid h P).get? q.1 with
    | none => rfl
    | some o => have y := (N q hq).2.2; rw [hid_of z] at y; cases y
  · rw [List.mem_singleton.mp hq]
    exact ⟨F.keep _ _ hP, Nat.ne_of_lt (Nat.lt_of_lt_of_le (Heap.lt_size hP) F.above), hid_none⟩
/-- a code's table at its start, or with the one code it makes -/
noncomputable def TabS (P : Addr) (line col : Int) (qual : Str) (h : Heap) : Prop := h.get? P = some (tabObj #[]) ∨ ∃ c', h.get? P = some (tabObj #[rawInt line, rawInt col, .ref c']) ∧ h.CodeRec (.ref c') qual ∧ c' ≠ P
theorem TabS.get {P : Addr} {line col : Int} {qual : Str} {h : Heap} (t : TabS P line col qual h) : ∃ ps, h.get? P = some (tabObj ps) := by
  rcases t with t | ⟨_, t, _⟩ <;> exact ⟨_, t⟩
end Tab
section LamD
theorem rules_LamD_1 : True := by
  k_with_none
  k_with "exec If" => (refine wpAny_If ?_)
  trivial
noncomputable def retE (s : Stmt) : Expr := (sK s).1.headD e0
noncomputable def argE (i : Nat) (s : Expr) : Expr := (eK s).1.getD (i + 1) e0
noncomputable def lamA (s : Expr) : Arguments := (eK s).2.2
noncomputable def lamB (s : Expr) : Expr := (eK s).1.headD e0
noncomputable def lamS (s : Expr) : Scope := (eK s).2.1
/-- the lambda of _law_module -/
noncomputable def lamX1 : Expr := argE 0 (retE (sA (sB (sA pB 49)) 0))
noncomputable abbrev lam1A : Arguments := by
  refine' (?g : ∀ l : Arguments, lamA lamX1 = l → Arguments) _ ?h
  case g => exact fun l _ => l
  all_goals try (conv => lhs; whnf)
noncomputable abbrev lam1B : Expr := by
  refine' (?g : ∀ l : Expr, lamB lamX1 = l → Expr) _ ?h
  case g => exact fun l _ => l
  all_goals try (conv => lhs; whnf)
noncomputable abbrev lam1S : Scope := by
  refine' (?g : ∀ l : Scope, lamS lamX1 = l → Scope) _ ?h
  case g => exact fun l _ => l
  all_goals try (conv => lhs; whnf)
/-- texts hung on with dots -/
noncomputable def cat (x : Str) (ps : List Str) : Str := ps.foldl (fun a p => a ++ Str.ofString "." ++ p) x
theorem cat_snoc (x p : Str) (ps : List Str) : cat x (ps ++ [p]) = cat x ps ++ Str.ofString "." ++ p := by unfold cat; rw [List.foldl_append]; rfl
theorem cat_len {ps : List Str} (h2 : ∀ p ∈ ps, p.length = 2) : ∀ x : Str, (cat x ps).length = x.length + 3 * ps.length := by
  induction ps with
  | nil => intro x; rfl
  | cons p ps ih =>
    intro x
    show (cat (x ++ Str.ofString "." ++ p) ps).length = _
    rw [ih (fun q hq => h2 q (.tail _ hq)), Str.length_append, Str.length_append, h2 p (.head _), List.length_cons, show (Str.ofString ".").length = 1 from by decide +kernel]
    omega
theorem take_snoc {α : Type} {l : List α} {i : Nat} {a : α} (h : l[i]? = some a) : l.take (i + 1) = l.take i ++ [a] := by
  rw [List.take_succ, h]; rfl
theorem strs_at {vs : List Value} {xs : List Str} (h : StrsAre vs xs) {i : Nat} {v : Value} (e : vs[i]? = some v) : ∃ y t, v = .str y t ∧ xs[i]? = some y := StrsAre.item h i v e
theorem lam1_do {w : World} {h : Heap} {f c' : Addr} {pm ctv : Value} {q : Str} (ho : h.get? f = some (kla_obj "<lambda>" q lam1A lam1B lam1S [] pm c' ctv)) (hcd : h.CodeRec (.ref c') q)
    {vs : List Value} {x : Str} {ps : List Str} (hvs : StrsAre vs ps) (hx : x.length = 2) (h2 : ∀ p ∈ ps, p.length = 2) (hn : ps.length ≤ 4) :
    FnDoes w h f (fun i v => vs[i]? = some v) (fun i a => ∃ t, a = .str (cat x (ps.take i)) t) := by
  intro A s i a v Q E R hk hP hJ hret
  obtain ⟨t, rfl⟩ := hJ
  obtain ⟨y, u, rfl, hy⟩ := strs_at hvs hP
  have hyl : y.length = 2 := h2 y (List.mem_of_getElem? hy)
  have hi : i < ps.length := (List.getElem?_eq_some_iff.mp hy).1
  have htl : (cat x (ps.take i)).length ≤ 20 := by
    rw [cat_len (fun p hp => h2 p (List.mem_of_mem_take hp)), hx, List.length_take]; omega
  have ret : ∀ t h' tk', (∀ b o, s.heap.get? b = some o → h'.get? b = some o) → Q (.str (cat x (ps.take i) ++ Str.ofString "." ++ y) t) { s with heap := h', toks := tk' } := fun t h' tk' k =>
    hret _ h' tk' k ⟨t, by rw [take_snoc hy, cat_snoc]⟩
  clear hret
  generalize cat x (ps.take i) = a0 at htl ret
  clear hvs hP h2 hy hi hn hx
  refine R.go ?_
  intro gd base fs p loose mean mg mb B X T
  dsimp only [MM]; revert X; k_fill; intro X
  refine' wpAny_call (enterL T (hk _ _ ho) (hcd.keeps hk) ?hroom ?hbind ?hloc ?_ ?c1 ?c2 ?c3 ?c4)
  case hroom => exact Nat.le_of_ble_eq_true rfl
  case hbind => rfl
  case hloc => exact locs rfl
  case c1 => rfl
  case c2 => rfl
  case c3 => rfl
  case c4 => decide
  intro L' h₁ F' N'
  try dsimp only
  k_steps
  exact ret _ _ _ (Fr.keep (by assumption))
end LamD
local macro_rules | `(tactic| x_close) => `(tactic| k_extra "x_close")
section B16e
theorem rules_B16e_1 : True := by
  k_with_none
  k_with "exec If" => (refine wpAny_If ?_)
  k_with "call type:type" => (((with_reducible show wpAny _ _ (call _ [Value.bytes _ _]) _ _ _); refine call_type_of (Tx := "bytes") rfl (by decide +kernel) ?_))
  k_with "getMethod bytes" => ((k_here; with_reducible refine meth_hex ?_))
  k_with "getMethod bytes" => ((k_here; with_reducible refine meth_upper ?_))
  k_with "getMethod str" => ((k_here; with_reducible refine meth_encode ?_))
  k_with "call builtin:bytes.hex" => ((k_here; refine call_hex (hexF1_fit _) ?_))
  k_with "call builtin:str.encode" => ((k_here; refine call_encode (hexF1_ascii _) (Nat.le_of_eq (hexF1_len _).symm) (hexF1_fit _) ?_; intro _))
  k_with "call builtin:bytes.upper" => ((k_here; refine call_upper (b16F_fit _) ?_))
  trivial
theorem b16e_spec {w : World} {A : Around} {s : Shared} {Q E : Value → Shared → Prop} (R : Rdy w 600 A s.heap) (x : UInt8) (tx : Tok)
    (hret : ∀ t h' tk', (∀ b o, s.heap.get? b = some o → h'.get? b = some o) → Q (.bytes (b16F x) t) { s with heap := h', toks := tk' }) :
    wpAny (MM w) A (call (.ref 258) [.bytes #[x] tx]) Q E s := by
  refine R.go ?_
  intro gd base fs p loose mean mg mb B X T
  dsimp only [MM]; revert X; k_fill; intro X
  refine' wpAny_call (enterP B X T ?ho ?hcd ?hroom ?hbind ?hloc ?_ ?c1 ?c2 ?c3 ?c4)
  case ho => k_is
  case hcd => k_is
  case hroom => exact Nat.le_of_ble_eq_true rfl
  case hbind => first | exact BindsTo.of_eq rfl | exact binds_K (by k_in) rfl (by k_is) rfl rfl rfl
  case hloc => exact locs rfl
  case c1 => rfl
  case c2 => rfl
  case c3 => rfl
  case c4 => decide
  intro L' h₁ F' N'
  try dsimp only
  (try show wpAny _ _ _ _ _ _)
  (try k_fold)
  k_steps
  exact hret _ _ _ (Fr.keep (by assumption))

theorem rules_B16e_2 : True := by
  k_with_none
  k_with "exec If" => (refine wpAny_If ?_)
  k_with "call type:type" => (((with_reducible show wpAny _ _ (call _ [Value.bytes _ _]) _ _ _); refine call_type_of (Tx := "bytes") rfl (by decide +kernel) ?_))
  k_with "getMethod bytes" => ((k_here; with_reducible refine meth_hex ?_))
  k_with "getMethod bytes" => ((k_here; with_reducible refine meth_upper ?_))
  k_with "getMethod str" => ((k_here; with_reducible refine meth_encode ?_))
  k_with "call builtin:bytes.hex" => ((k_here; refine call_hex (hexF1_fit _) ?_))
  k_with "call builtin:str.encode" => ((k_here; refine call_encode (hexF1_ascii _) (Nat.le_of_eq (hexF1_len _).symm) (hexF1_fit _) ?_; intro _))
  k_with "call builtin:bytes.upper" => ((k_here; refine call_upper (b16F_fit _) ?_))
  k_with "x_close" => (((rename ∀ (_ : Array Nat) (_ : Nat) (_ : Heap) (_ : Nat), _ → _ → _ => hR); exact hR _ _ _ _ (by kernel_rfl) (fun _ _ e => e)))
  trivial
theorem str2_spec {w : World} {A : Around} {s : Shared} {Q E : Value → Shared → Prop} (hd : A.depth ≤ 800) (hu : A.units ≤ 800) (t u : Tok) (x y : UInt8) (hx : x.toNat < 128) (hy : y.toNat < 128)
    (hret : ∀ v t h' tk', v = #[x.toNat, y.toNat] → (∀ b o, s.heap.get? b = some o → h'.get? b = some o) → Q (.str (Str.mk v) t) { s with heap := h', toks := tk' }) :
    wpAny (MM w) A (call (.type "str") [.bytes #[x, y] t, .str "ascii" u]) Q E s := by
  refine wpAny_up (A' := Around.mk A.handled 800 A.frames A.guards 800) rfl hd rfl rfl hu ?_
  dsimp only [MM]
  have h1 : Nat.ble (Nat.succ (((#[x, y] : Array UInt8).getD ((0 : Nat), ((#[] : Array Nat), ({} : Builtin._codecs.Faults))).fst 0).toNat)) 128 = true := Nat.ble_eq_true_of_le hx
  have h2 : Nat.ble (Nat.succ (((#[x, y] : Array UInt8).getD (((0 : Nat), ((#[] : Array Nat), ({} : Builtin._codecs.Faults))).fst + 1, ((0 : Nat), ((#[] : Array Nat), ({} : Builtin._codecs.Faults))).snd.fst ++ #[((#[x, y] : Array UInt8).getD ((0 : Nat), ((#[] : Array Nat), ({} : Builtin._codecs.Faults))).fst 0).toNat], ((0 : Nat), ((#[] : Array Nat), ({} : Builtin._codecs.Faults))).snd.snd).fst 0).toNat)) 128 = true := Nat.ble_eq_true_of_le hy
  x_run
end B16e
section Mod
theorem rules_Mod_1 : True := by
  k_with_none
  k_with "exec If" => (refine wpAny_If ?_)
  trivial
theorem bytes_disp1 {prog : Program} {w : World} {A : Around} {E : Value → Shared → Prop} {s : Shared} {h₀ : Heap} {L l : Addr} {m : Str → Option Value} {news : List (Addr × Obj)} {Q : Value → Shared → Prop} {a : Int} {ta : Tok}
    (F : Fr h₀ L s.heap m) (N : News h₀ L s.heap news) (hh : A.handled = none) (hl : s.heap.IsList l #[.int a ta]) (ha : 0 ≤ a ∧ a < 256)
    (h : ∀ h' t k, Fr h₀ L h' m → News h₀ L h' news → Q (.bytes #[a.toNat.toUInt8] t) { s with heap := h', toks := k }) :
    wpAny (model prog w) A (call (.type "bytes") [.ref l]) Q E s :=
  bytes_K (vs := [.int a ta]) (ns := [a]) F N hl (.cons _ _ .nil) (by
    intro n hn
    simp only [List.mem_cons, List.not_mem_nil, or_false] at hn
    rcases hn with rfl <;> assumption) (by show 1 ≤ sizeLine; rw [sizeLine_eq]; decide) hh fun h' t k F' N' _ => h h' t k F' N'
/-- the two letters of an octet -/
noncomputable def hx2 (o : Int) : Str := ⟨(b16F o.toNat.toUInt8).map (·.toNat)⟩
theorem b16F_two (x : UInt8) : ∃ a b, b16F x = #[a, b] ∧ a.toNat < 128 ∧ b.toNat < 128 := by
  have h : ∀ x : Fin 256, (b16F (UInt8.ofNat x.1)).size = 2 ∧ ((b16F (UInt8.ofNat x.1)).getD 0 0).toNat < 128 ∧ ((b16F (UInt8.ofNat x.1)).getD 1 0).toNat < 128 := by decide +kernel
  have h := h ⟨x.toNat, x.toNat_lt⟩
  rw [show UInt8.ofNat x.toNat = x from UInt8.ofNat_toNat] at h
  obtain ⟨h1, h2, h3⟩ := h
  generalize b16F x = arr at *
  rcases arr with ⟨l⟩
  match l, h1 with
  | [a, b], _ => exact ⟨a, b, rfl, h2, h3⟩
theorem str_b16 {w : World} {A : Around} {s : Shared} {Q E : Value → Shared → Prop} (hd : A.depth ≤ 800) (hu : A.units ≤ 800) (t u : Tok) (o : Int)
    (hret : ∀ t h' tk', (∀ b o, s.heap.get? b = some o → h'.get? b = some o) → Q (.str (hx2 o) t) { s with heap := h', toks := tk' }) :
    wpAny (MM w) A (call (.type "str") [.bytes (b16F o.toNat.toUInt8) t, .str "ascii" u]) Q E s := by
  obtain ⟨a, b, e, ha, hb⟩ := b16F_two o.toNat.toUInt8
  have e2 : hx2 o = Str.mk #[a.toNat, b.toNat] := by unfold hx2; rw [e]; simp
  rw [e]
  refine str2_spec hd hu t u a b ha hb fun v t' h' tk' hv hk => ?_
  subst hv
  rw [← e2]
  exact hret _ _ _ hk
theorem hx2_len (o : Int) : (hx2 o).length = 2 := by
  obtain ⟨a, b, e, _, _⟩ := b16F_two o.toNat.toUInt8
  unfold hx2; rw [e]; simp [Str.length]
theorem hx2_lens (r : List Int) : ∀ p ∈ r.map hx2, p.length = 2 := by
  intro p hp
  obtain ⟨o, _, rfl⟩ := List.mem_map.mp hp
  exact hx2_len o
theorem rules_Mod_2 : True := by
  k_with_none
  k_with "exec If" => (refine wpAny_If ?_)
  k_with "call type:bytes" => ((k_here; (with_reducible show wpAny _ _ (call (Value.type "bytes") [Value.ref _]) _ _ _); k_dflt (refine' bytes_disp1 ?F ?N ?h ?l ?a ?_; (case F => k_asm); (case N => k_asm); (case h => with_unfolding_all rfl); (case l => exact News.isList (by k_asm) (by k_mem)); (case a => with_reducible assumption); k_whole); intro h' t' k' F' N'; (try k_sweep)))
  k_with "call ref" => ((k_here; (with_reducible show wpAny _ _ (call (Value.ref 258) [Value.bytes _ _]) _ _ _); k_dflt (refine' b16e_spec (Rdy.of_walk ?B ?F ?X ?T rfl rfl (Nat.le_of_ble_eq_true rfl) (Nat.le_of_ble_eq_true rfl) rfl) _ _ ?_; (case F => k_asm); (case B => k_asm); (case X => k_asm); (case T => k_asm); k_whole); intro t9 h9 tk9 hk9; (have F9 := fr_keep (by assumption) hk9); (have N9 := news_keep (by assumption) hk9); (try dsimp only)))
  k_with "call type:str" => ((k_here; k_dflt (refine' str_b16 (Nat.le_of_ble_eq_true rfl) (Nat.le_of_ble_eq_true rfl) _ _ _ ?_; k_whole); intro t9 h9 tk9 hk9; (have F9 := fr_keep (by assumption) hk9); (have N9 := news_keep (by assumption) hk9); (try k_unmd)))
  k_with "CompEnd" => ((refine compEnd_same (by k_asm) (by k_asm) (by with_reducible assumption) (by first | trivial | with_reducible assumption | exact Or.inl (by with_reducible assumption)) ?_))
  trivial
/-- the text of _law_module -/
noncomputable def modF : List Int → Str
  | [] => Str.ofString ""
  | o :: r => cat (hx2 o) (r.map hx2)
theorem rules_Mod_3 : True := by
  k_with_none
  k_with "exec If" => (refine wpAny_If ?_)
  k_with "call type:bytes" => ((k_here; (with_reducible show wpAny _ _ (call (Value.type "bytes") [Value.ref _]) _ _ _); k_dflt (refine' bytes_disp1 ?F ?N ?h ?l ?a ?_; (case F => k_asm); (case N => k_asm); (case h => with_unfolding_all rfl); (case l => exact News.isList (by k_asm) (by k_mem)); (case a => with_reducible assumption); k_whole); intro h' t' k' F' N'; (try k_sweep)))
  k_with "call ref" => ((k_here; (with_reducible show wpAny _ _ (call (Value.ref 258) [Value.bytes _ _]) _ _ _); k_dflt (refine' b16e_spec (Rdy.of_walk ?B ?F ?X ?T rfl rfl (Nat.le_of_ble_eq_true rfl) (Nat.le_of_ble_eq_true rfl) rfl) _ _ ?_; (case F => k_asm); (case B => k_asm); (case X => k_asm); (case T => k_asm); k_whole); intro t9 h9 tk9 hk9; (have F9 := fr_keep (by assumption) hk9); (have N9 := news_keep (by assumption) hk9); (try dsimp only)))
  k_with "call type:str" => ((k_here; k_dflt (refine' str_b16 (Nat.le_of_ble_eq_true rfl) (Nat.le_of_ble_eq_true rfl) _ _ _ ?_; k_whole); intro t9 h9 tk9 hk9; (have F9 := fr_keep (by assumption) hk9); (have N9 := news_keep (by assumption) hk9); (try k_unmd)))
  k_with "CompEnd" => ((refine compEnd_same (by k_asm) (by k_asm) (by with_reducible assumption) (by first | trivial | with_reducible assumption | exact Or.inl (by with_reducible assumption)) ?_))
  k_with "eval ListComp" => ((k_here; k_dflt (refine LCg.ListComp_U (F₀ := by k_asm) (by first | rfl | with_unfolding_all rfl) (by decide) (by rfl) (by decide) (by rfl) ?_)))
  k_with "CompSrc" => ((k_here; k_dflt (refine LCg.CompSrc.base (by rfl) (by k_asm) (by k_asm) (by with_reducible assumption) ?_ ?_); (rotate_left; intro g'; refine Halt.out ?_; rotate_right)))
  k_with "call ref" => ((k_here; (with_reducible show wpAny _ _ (call (Value.ref 282) [Value.ref _, Value.ref _]) _ _ _); refine Halt.out ?_))
  trivial
theorem codeRec_at {h h' : Heap} {P c L : Addr} {q : Str} {m : Str → Option Value} (F : Fr (hid h P) L h' m) (hcr : h.CodeRec (.ref c) q) (hne : c ≠ P) : h'.CodeRec (.ref c) q := by
  obtain ⟨c2, oc, vs, t, e, ho, hd, hv⟩ := hcr
  cases e
  exact ⟨c, oc, vs, t, rfl, F.keep _ _ (hid_ne ho hne), hd, hv⟩
/-- a code's table before and after a call: as it was, or with a new code -/
noncomputable def TabG (P : Addr) (line col : Int) (qual : Str) (h h' : Heap) : Prop := (∃ ps, h.get? P = some (tabObj ps) ∧ h'.get? P = some (tabObj ps)) ∨
  (h.get? P = some (tabObj #[]) ∧ ∃ c' oc vs t, h.get? c' = none ∧ h'.get? c' = some oc ∧ oc.data = .fields vs ∧ vs[1]? = some (.str qual t) ∧ h'.get? P = some (tabObj #[rawInt line, rawInt col, .ref c']))
theorem hid_gone {h : Heap} {P b : Addr} (hb : b ≠ P) (e : (hid h P).get? b = none) : h.get? b = none := by
  cases q : h.get? b with
  | none => rfl
  | some o => rw [hid_ne q hb] at e; cases e
theorem mod_spec {w : World} {A : Around} {s : Shared} {Q E : Value → Shared → Prop} (R : Rdy w 350 A s.heap) (l : Addr) (vs : List Value) (r : List Int) (hl : s.heap.IsList l vs.toArray) (hi : IntsAre vs r) (hr : ∀ o ∈ r, 0 ≤ o ∧ o < 256) (h1 : 1 ≤ r.length) (h3 : r.length ≤ 3)
    (hT : TabS 289 368 18 "_law_module.<locals>.<lambda>" s.heap)
    (hret : ∀ t h' tk', (∀ b o, b ≠ 289 → s.heap.get? b = some o → h'.get? b = some o) → TabG 289 368 18 "_law_module.<locals>.<lambda>" s.heap h' → Q (.str (modF r) t) { s with heap := h', toks := tk' }) :
    wpAny (MM w) A (call (.ref 292) [.ref l]) Q E s := by
  refine R.go ?_
  intro gd base fs p loose mean mg mb B X T
  dsimp only [MM]; revert X; k_fill; intro X
  refine' wpAny_call (enterP B X T ?ho ?hcd ?hroom ?hbind ?hloc ?_ ?c1 ?c2 ?c3 ?c4)
  case ho => k_is
  case hcd => k_is
  case hroom => exact Nat.le_of_ble_eq_true rfl
  case hbind => first | exact BindsTo.of_eq rfl | exact binds_K (by k_in) rfl (by k_is) rfl rfl rfl
  case hloc => exact locs rfl
  case c1 => rfl
  case c2 => rfl
  case c3 => rfl
  case c4 => decide
  intro L' h₁ F0 N0
  rcases hT with hT | ⟨c', hT, hcr, hne⟩
  · have F' := hid_fr (P := 289) F0
    have N' := hid_news hT F0 N0
    have B' := hid_below hT B
    have X' := hid_K hT X
    have T' := hid_top hT T
    have hl' := hid_list hT hl
    have C' : CodeHd (hid s.heap 289) 291 289 := codeHd_of_K X' (by kernel_rfl)
    simp only [List.nil_append] at N'
    replace F' : Fr (hid s.heap 289) L' h₁ (fun y => List.lookup y [("row", .ref l)]) := F'
    clear F0 N0 B X T
    try dsimp only
    k_steps
    · rw [List.size_toArray, IntsAre.length hi, sizeLine_eq]; omega
    unfold Halt
    refine comp_ind (Γ := fun i ys nw => nw = _ ∧ StrsAre ys ((r.take i).map hx2)) ?T ?fin _ 0 [] _ (Nat.zero_add _) ⟨rfl, .nil⟩
    case T =>
      intro s0 i ys news v I oI C oC D m₂ h tk E' hin hP hΓ hC hx F N off ne
      obtain ⟨rfl, hS⟩ := hΓ
      obtain ⟨o, t, rfl, ho⟩ := IntsAre.at hi _ _ (by simpa using hP)
      have hob := hr o (List.mem_of_getElem? ho)
      k_steps
      refine compEnd_same (by k_asm) (news_tail (by assumption)) off (.inl hl') ⟨rfl, ?_⟩
      rw [take_snoc ho, List.map_append]
      exact StrsAre.append' hS (.cons _ _ .nil)
    case fin =>
      rintro ys news ⟨rfl, hS⟩
      rw [List.size_toArray, IntsAre.length hi, List.take_length] at hS
      obtain ⟨o, r', rfl⟩ : ∃ o r', r = o :: r' := by
        cases r with
        | nil => simp at h1
        | cons o r' => exact ⟨o, r', rfl⟩
      rw [List.map_cons] at hS
      cases hS with
      | cons _ t0 hS' =>
      rename_i vs'
      k_steps
      unfold Halt
      (with_reducible rename Fr _ _ _ _ => F9)
      (with_reducible rename News _ _ _ _ => N9)
      refine reduce1 (Rdy.of_walk B' F9 X' T' rfl rfl (Nat.le_of_ble_eq_true rfl) (Nat.le_of_ble_eq_true rfl) rfl) _ _ _ _ (News.isList N9 (.head _)) ?fnat _ (lam1_do (N9 _ (.tail _ (.head _))).1 (codeRec_news N9 (.tail _ (.tail _ (.head _))) (by assumption) (by assumption)) hS' (hx2_len _) (hx2_lens _) (by rw [List.length_map]; rw [List.length_cons] at h3; omega)) ⟨t0, rfl⟩ ?_
      case fnat => exact ⟨_, _, _, _, (N9 _ (.tail _ (.head _))).1⟩
      intro rr h8 tk8 hk8 hJ8
      obtain ⟨t8, rfl⟩ := hJ8
      have F8 := fr_keep F9 hk8
      have N8 := news_keep N9 hk8
      rw [StrsAre.len_eq hS', List.take_length]
      clear F9 N9
      k_steps
      refine hret _ _ _ (fun b o hb e => F8.keep b o (hid_ne e hb)) ?_
      exact .inr ⟨hT, _, _, _, _, hid_gone (neN (by omega)) (N8 _ (.tail _ (.tail _ (.head _)))).2.2, (N8 _ (.tail _ (.tail _ (.head _)))).1, by with_reducible assumption, by assumption, (N8 _ (.tail _ (.tail _ (.tail _ (.head _))))).1⟩
  · have F' := hid_fr (P := 289) F0
    have N' := hid_news hT F0 N0
    have B' := hid_below hT B
    have X' := hid_K hT X
    have T' := hid_top hT T
    have hl' := hid_list hT hl
    have C' : CodeHd (hid s.heap 289) 291 289 := codeHd_of_K X' (by kernel_rfl)
    simp only [List.nil_append] at N'
    replace F' : Fr (hid s.heap 289) L' h₁ (fun y => List.lookup y [("row", .ref l)]) := F'
    clear F0 N0 B X T
    try dsimp only
    k_steps
    · rw [List.size_toArray, IntsAre.length hi, sizeLine_eq]; omega
    unfold Halt
    refine comp_ind (Γ := fun i ys nw => nw = _ ∧ StrsAre ys ((r.take i).map hx2)) ?T ?fin _ 0 [] _ (Nat.zero_add _) ⟨rfl, .nil⟩
    case T =>
      intro s0 i ys news v I oI C oC D m₂ h tk E' hin hP hΓ hC hx F N off ne
      obtain ⟨rfl, hS⟩ := hΓ
      obtain ⟨o, t, rfl, ho⟩ := IntsAre.at hi _ _ (by simpa using hP)
      have hob := hr o (List.mem_of_getElem? ho)
      k_steps
      refine compEnd_same (by k_asm) (news_tail (by assumption)) off (.inl hl') ⟨rfl, ?_⟩
      rw [take_snoc ho, List.map_append]
      exact StrsAre.append' hS (.cons _ _ .nil)
    case fin =>
      rintro ys news ⟨rfl, hS⟩
      rw [List.size_toArray, IntsAre.length hi, List.take_length] at hS
      obtain ⟨o, r', rfl⟩ : ∃ o r', r = o :: r' := by
        cases r with
        | nil => simp at h1
        | cons o r' => exact ⟨o, r', rfl⟩
      rw [List.map_cons] at hS
      cases hS with
      | cons _ t0 hS' =>
      rename_i vs'
      k_steps
      unfold Halt
      (with_reducible rename Fr _ _ _ _ => F9)
      (with_reducible rename News _ _ _ _ => N9)
      refine reduce1 (Rdy.of_walk B' F9 X' T' rfl rfl (Nat.le_of_ble_eq_true rfl) (Nat.le_of_ble_eq_true rfl) rfl) _ _ _ _ (News.isList N9 (.head _)) ?fnat _ (lam1_do (N9 _ (.tail _ (.head _))).1 (codeRec_at (hcr := hcr) (hne := hne) F9) hS' (hx2_len _) (hx2_lens _) (by rw [List.length_map]; rw [List.length_cons] at h3; omega)) ⟨t0, rfl⟩ ?_
      case fnat => exact ⟨_, _, _, _, (N9 _ (.tail _ (.head _))).1⟩
      intro rr h8 tk8 hk8 hJ8
      obtain ⟨t8, rfl⟩ := hJ8
      have F8 := fr_keep F9 hk8
      have N8 := news_keep N9 hk8
      rw [StrsAre.len_eq hS', List.take_length]
      clear F9 N9
      k_steps
      refine hret _ _ _ (fun b o hb e => F8.keep b o (hid_ne e hb)) ?_
      exact .inl ⟨_, hT, (N8 _ (.tail _ (.tail _ (.head _)))).1⟩
end Mod
section B16d
theorem rules_B16d_1 : True := by
  k_with_none
  k_with "exec If" => (refine wpAny_If ?_)
  trivial
/-- the pattern does not meet two octets -/
noncomputable def ReNo (w : World) (b : Array UInt8) : Prop := ∀ (A : Around) (s : Shared) (t : Tok) (Q E : Value → Shared → Prop), A.depth ≤ 800 → A.units ≤ 800 → (KF w.params).In s.heap →
  (∀ h' tk', (∀ b o, s.heap.get? b = some o → h'.get? b = some o) → Q .none { s with heap := h', toks := tk' }) → wpAny (MM w) A (call (.builtin "re.Pattern.search") [.ref 133, .bytes b t]) Q E s
theorem rules_B16d_2 : True := by
  k_with_none
  k_with "exec If" => (refine wpAny_If ?_)
  k_with "x_close" => (((rename ∀ (_ : Heap) (_ : Nat), _ → _ => hR); exact hR _ _ (fun _ _ e => e)))
  trivial
theorem re_00 (w : World) : ReNo w #[48, 48] := by
  intro A s t Q E hd hu X hret
  refine wpAny_up (A' := Around.mk A.handled 800 A.frames A.guards 800) rfl hd rfl rfl hu ?_
  revert X; dsimp only [MM]; k_fill; intro X
  x_run
theorem re_0A (w : World) : ReNo w #[48, 65] := by
  intro A s t Q E hd hu X hret
  refine wpAny_up (A' := Around.mk A.handled 800 A.frames A.guards 800) rfl hd rfl rfl hu ?_
  revert X; dsimp only [MM]; k_fill; intro X
  x_run
theorem re_3E (w : World) : ReNo w #[51, 69] := by
  intro A s t Q E hd hu X hret
  refine wpAny_up (A' := Around.mk A.handled 800 A.frames A.guards 800) rfl hd rfl rfl hu ?_
  revert X; dsimp only [MM]; k_fill; intro X
  x_run
theorem re_FB (w : World) : ReNo w #[70, 66] := by
  intro A s t Q E hd hu X hret
  refine wpAny_up (A' := Around.mk A.handled 800 A.frames A.guards 800) rfl hd rfl rfl hu ?_
  revert X; dsimp only [MM]; k_fill; intro X
  x_run
theorem re_FF (w : World) : ReNo w #[70, 70] := by
  intro A s t Q E hd hu X hret
  refine wpAny_up (A' := Around.mk A.handled 800 A.frames A.guards 800) rfl hd rfl rfl hu ?_
  revert X; dsimp only [MM]; k_fill; intro X
  x_run
/-- the worth of a hex letter -/
noncomputable def hexv (x : Int) : Int := if 48 ≤ x ∧ x ≤ 57 then x - 48 else if 65 ≤ x ∧ x ≤ 70 then x - 55 else if 97 ≤ x ∧ x ≤ 102 then x - 87 else 16
theorem hexv_nonneg {x : Int} (h : 0 ≤ x) : 0 ≤ hexv x := by unfold hexv; (repeat' split) <;> omega
theorem hv1 {x : Int} (h1 : 48 ≤ x) (h2 : x ≤ 57) : x - 48 = hexv x := (if_pos ⟨h1, h2⟩).symm
theorem hv2 {x : Int} (h1 : 65 ≤ x) (h2 : x ≤ 70) : x - 55 = hexv x := by unfold hexv; rw [if_neg (by omega), if_pos ⟨h1, h2⟩]
theorem hv3 {x : Int} (h1 : 97 ≤ x) (h2 : x ≤ 102) : x - 87 = hexv x := by unfold hexv; rw [if_neg (by omega), if_neg (by omega), if_pos ⟨h1, h2⟩]
theorem hv4 {x : Int} (h1 : ¬ (48 ≤ x ∧ x ≤ 57)) (h2 : ¬ (65 ≤ x ∧ x ≤ 70)) (h3 : ¬ (97 ≤ x ∧ x ≤ 102)) : 16 = hexv x := by unfold hexv; rw [if_neg h1, if_neg h2, if_neg h3]
theorem hexv_spec {w : World} {A : Around} {s : Shared} {Q E : Value → Shared → Prop} (R : Rdy w 600 A s.heap) (x : Int) (tx : Tok)
    (hret : ∀ v t h' tk', v = hexv x → (∀ b o, s.heap.get? b = some o → h'.get? b = some o) → Q (.int v t) { s with heap := h', toks := tk' }) :
    wpAny (MM w) A (call (.ref 214) [.int x tx]) Q E s := by
  refine R.go ?_
  intro gd base fs p loose mean mg mb B X T
  dsimp only [MM]; revert X; k_fill; intro X
  refine' wpAny_call (enterP B X T ?ho ?hcd ?hroom ?hbind ?hloc ?_ ?c1 ?c2 ?c3 ?c4)
  case ho => k_is
  case hcd => k_is
  case hroom => exact Nat.le_of_ble_eq_true rfl
  case hbind => first | exact BindsTo.of_eq rfl | exact binds_K (by k_in) rfl (by k_is) rfl rfl rfl
  case hloc => exact locs rfl
  case c1 => rfl
  case c2 => rfl
  case c3 => rfl
  case c4 => decide
  intro L' h₁ F' N'
  replace F' : Fr s.heap L' h₁ (fun y => List.lookup y [("c", .int x tx)]) := F'
  try dsimp only
  (try show wpAny _ _ _ _ _ _)
  (try k_fold)
  k_steps
  all_goals (refine hret _ _ _ _ ?_ (Fr.keep (by assumption)); clear hret; first
    | exact hv1 (by with_reducible assumption) (by with_reducible assumption)
    | exact hv2 (by with_reducible assumption) (by with_reducible assumption)
    | exact hv3 (by with_reducible assumption) (by with_reducible assumption)
    | exact hv4 (by omega) (by omega) (by omega)
    | ((unfold hexv); (repeat' split) <;> omega))
end B16d
section B16x
theorem rules_B16x_1 : True := by
  k_with_none
  k_with "exec If" => (refine wpAny_If ?_)
  k_with "storeName" => ((k_here; k_dflt (first | (refine' storeUI ?F ?N ?_ ?a ?b; (case F => k_asm); (case N => k_asm); (case a => rfl); (case b => rfl); k_whole; intro h' tk' t' F' N'; (try k_sweep)) | (refine' storeU ?F ?N ?_ ?a ?b; (case F => k_asm); (case N => k_asm); (case a => rfl); (case b => rfl); k_whole; intro h' tk' F' N'; (try k_sweep)))))
  k_with "eval Name" => ((k_here; k_dflt (refine' ldE ?k1 ?k2 ?_ (by rfl) (by rfl) (by decide); (case k1 => k_asm); (case k2 => ((repeat (first | with_reducible assumption | (with_reducible exact upd_here) | (with_reducible apply upd_there; (focus (decide))))); done)); k_whole)))
  trivial
theorem enc2_two {x : Str} (h : x.length = 2) : 2 ≤ x.length := by omega
theorem enc2_fit {x : Str} (h : x.length = 2) : x.length ≤ sizeLine := by rw [h, sizeLine_eq]; decide
theorem enc_as {prog : Program} {w : World} {A : Around} {E : Value → Shared → Prop} {s : Shared} {x : Str} {t u : Tok} {v : Array UInt8} {Q : Value → Shared → Prop} (he : (x.cps.map fun c => c.toUInt8) = v) (hx : ∀ c ∈ x.cps, c < 128) (h2 : 2 ≤ x.length) (hs : x.length ≤ sizeLine)
    (h : ∀ t', Q (.bytes v t') { s with toks := s.toks + 1 }) : wpAny (model prog w) A (call (.builtin "str.encode") [.str x t, .str "ascii" u]) Q E s := by
  subst he; exact call_encode hx h2 hs h
theorem plainAttrs_re : PlainAttrs "re.Pattern" :=
  ⟨⟨"object.__getattribute__", by rw [typeLookup_type, builtinLookup_eq_fast]; kernel_rfl, by decide +kernel⟩, by rw [typeLookup_type, builtinLookup_eq_fast]; kernel_rfl⟩
theorem slot_re_search : Slot "re.Pattern" "search" "re.Pattern.search" :=
  .of (owner := "re.Pattern") (n := "search") (by rw [typeLookup_type, builtinLookup_eq_fast]; kernel_rfl) (by decide +kernel) (by decide +kernel) (by decide +kernel)
    (by first | exact .inl (by decide +kernel) | exact .inr (by decide +kernel)) (by rw [isSubtype_type]; kernel_rfl)
theorem type_re_search : typeOf (.builtin "re.Pattern.search") = pure (.type "method_descriptor") := by show builtinType _ = _; rw [builtinType_eq_fast]; kernel_rfl
theorem KF_133 (P : Params) : ∃ d sl, (KF P).lookup 133 = some ⟨.type "re.Pattern", none, d, sl⟩ := ⟨_, _, rfl⟩
theorem meth_search {M : Model} {A : Around} {E : Value → Shared → Prop} {s : Shared} {pl : Sem Bool} {Q : Value × List Value → Shared → Prop} {w : World} (X : (KF w.params).In s.heap) (h : Q (.builtin "re.Pattern.search", [.ref 133]) s) : wpAny M A (getMethod (.ref 133) "search" pl) Q E s := by
  obtain ⟨d, sl, e⟩ := KF_133 w.params
  have ho := X _ _ e
  exact getMethod_builtin ⟨_, ho, rfl⟩ plainAttrs_re slot_re_search type_re_search (fun a q => by cases q; exact ⟨_, ho, rfl⟩) h
theorem rules_B16x_2 : True := by
  k_with_none
  k_with "exec If" => (refine wpAny_If ?_)
  k_with "storeName" => ((k_here; k_dflt (first | (refine' storeUI ?F ?N ?_ ?a ?b; (case F => k_asm); (case N => k_asm); (case a => rfl); (case b => rfl); k_whole; intro h' tk' t' F' N'; (try k_sweep)) | (refine' storeU ?F ?N ?_ ?a ?b; (case F => k_asm); (case N => k_asm); (case a => rfl); (case b => rfl); k_whole; intro h' tk' F' N'; (try k_sweep)))))
  k_with "eval Name" => ((k_here; k_dflt (refine' ldE ?k1 ?k2 ?_ (by rfl) (by rfl) (by decide); (case k1 => k_asm); (case k2 => ((repeat (first | with_reducible assumption | (with_reducible exact upd_here) | (with_reducible apply upd_there; (focus (decide))))); done)); k_whole)))
  k_with "call type:type" => (((with_reducible show wpAny _ _ (call _ [Value.bytes _ _]) _ _ _); refine call_type_of (Tx := "bytes") rfl (by decide +kernel) ?_))
  k_with "getMethod str" => ((k_here; with_reducible refine meth_encode ?_))
  k_with "call builtin:str.encode" => ((k_here; refine enc_as (by with_reducible assumption) (by with_reducible assumption) (enc2_two (by with_reducible assumption)) (enc2_fit (by with_reducible assumption)) ?_; intro _))
  k_with "getMethod ref" => ((k_here; (with_reducible show wpAny _ _ (getMethod (Value.ref 133) _ _) _ _ _); refine meth_search (by k_in) ?_))
  k_with "call ref" => ((k_here; (with_reducible show wpAny _ _ (call (Value.ref 214) [Value.int _ _]) _ _ _); k_dflt (refine' hexv_spec (Rdy.of_walk ?B ?F ?X ?T rfl rfl (Nat.le_of_ble_eq_true rfl) (Nat.le_of_ble_eq_true rfl) rfl) _ _ ?_; (case F => k_asm); (case B => k_asm); (case X => k_asm); (case T => k_asm); k_whole); intro v9 t9 h9 tk9 hv9 hk9; (have F9 := fr_keep (by with_reducible assumption) hk9); (have N9 := news_keep (by with_reducible assumption) hk9); (have g9 : v9 < 16 := by rw [hv9]; assumption); (have p9 : 0 ≤ v9 := by rw [hv9]; exact hexv_nonneg (Int.natCast_nonneg _)); (try dsimp only)))
  k_with "call builtin:re.Pattern.search" => ((k_here; k_dflt (refine (by with_reducible assumption : ReNo _ _) _ _ _ _ _ (Nat.le_of_ble_eq_true rfl) (Nat.le_of_ble_eq_true rfl) (by k_in) ?_); intro h9 tk9 hk9; (have F9 := fr_keep (by with_reducible assumption) hk9); (have N9 := news_keep (by with_reducible assumption) hk9); (try dsimp only)))
  trivial
theorem len_two {prog : Program} {w : World} {A : Around} {E : Value → Shared → Prop} {s : Shared} {a b : UInt8} {t : Tok} {Q : Value → Shared → Prop} (h : Q (.int 2 (s.toks + 1)) { s with toks := s.toks + 1 + 1 }) : wpAny (model prog w) A (call (.builtin "len") [.bytes #[a, b] t]) Q E s := by
  refine len_bytes ?_ h
  show 2 ≤ _; decide
theorem rules_B16x_3 : True := by
  k_with_none
  k_with "exec If" => (refine wpAny_If ?_)
  k_with "storeName" => ((k_here; k_dflt (first | (refine' storeUI ?F ?N ?_ ?a ?b; (case F => k_asm); (case N => k_asm); (case a => rfl); (case b => rfl); k_whole; intro h' tk' t' F' N'; (try k_sweep)) | (refine' storeU ?F ?N ?_ ?a ?b; (case F => k_asm); (case N => k_asm); (case a => rfl); (case b => rfl); k_whole; intro h' tk' F' N'; (try k_sweep)))))
  k_with "eval Name" => ((k_here; k_dflt (refine' ldE ?k1 ?k2 ?_ (by rfl) (by rfl) (by decide); (case k1 => k_asm); (case k2 => ((repeat (first | with_reducible assumption | (with_reducible exact upd_here) | (with_reducible apply upd_there; (focus (decide))))); done)); k_whole)))
  k_with "call type:type" => (((with_reducible show wpAny _ _ (call _ [Value.bytes _ _]) _ _ _); refine call_type_of (Tx := "bytes") rfl (by decide +kernel) ?_))
  k_with "getMethod str" => ((k_here; with_reducible refine meth_encode ?_))
  k_with "call builtin:str.encode" => ((k_here; refine enc_as (by with_reducible assumption) (by with_reducible assumption) (enc2_two (by with_reducible assumption)) (enc2_fit (by with_reducible assumption)) ?_; intro _))
  k_with "getMethod ref" => ((k_here; (with_reducible show wpAny _ _ (getMethod (Value.ref 133) _ _) _ _ _); refine meth_search (by k_in) ?_))
  k_with "call ref" => ((k_here; (with_reducible show wpAny _ _ (call (Value.ref 214) [Value.int _ _]) _ _ _); k_dflt (refine' hexv_spec (Rdy.of_walk ?B ?F ?X ?T rfl rfl (Nat.le_of_ble_eq_true rfl) (Nat.le_of_ble_eq_true rfl) rfl) _ _ ?_; (case F => k_asm); (case B => k_asm); (case X => k_asm); (case T => k_asm); k_whole); intro v9 t9 h9 tk9 hv9 hk9; (have F9 := fr_keep (by with_reducible assumption) hk9); (have N9 := news_keep (by with_reducible assumption) hk9); (have g9 : v9 < 16 := by rw [hv9]; assumption); (have p9 : 0 ≤ v9 := by rw [hv9]; exact hexv_nonneg (Int.natCast_nonneg _)); (try dsimp only)))
  k_with "call builtin:re.Pattern.search" => ((k_here; k_dflt (refine (by with_reducible assumption : ReNo _ _) _ _ _ _ _ (Nat.le_of_ble_eq_true rfl) (Nat.le_of_ble_eq_true rfl) (by k_in) ?_); intro h9 tk9 hk9; (have F9 := fr_keep (by with_reducible assumption) hk9); (have N9 := news_keep (by with_reducible assumption) hk9); (try dsimp only)))
  k_with "call builtin:len" => ((k_here; refine len_two ?_))
  trivial
theorem item2 {prog : Program} {w : World} {A : Around} {E : Value → Shared → Prop} {s : Shared} {value slice : PySem.Expr} {a b : UInt8} {t u : Tok} {i : Int} {v : Int} {Q : Value → Shared → Prop} (hv : (i = 0 ∧ v = ((a.toNat : Nat) : Int)) ∨ (i = 1 ∧ v = ((b.toNat : Nat) : Int)))
    (h : Q (.int v s.toks) { s with toks := s.toks + 1 })
    (hs : subscripted slice false (.bytes #[a, b] t) (.int i u) = operate [.bytes #[a, b] t, .int i u] (getItem (.bytes #[a, b] t) (.int i u)))
    (ht : ∀ r, letTemporaryGo value (.bytes #[a, b] t) r = pure ()) :
    wpAny (model prog w) A (subscriptTail value slice (.bytes #[a, b] t) (.int i u)) Q E s := by
  refine subscriptTail_builtin (typeIs_bytes _ _ _) FB.slot_bytes_getitem.lookup ?_ hs ht
  rcases hv with ⟨rfl, rfl⟩ | ⟨rfl, rfl⟩
  · exact getItem_bytes (l := [a, b]) (by simp) (by decide) (by simp) h
  · exact getItem_bytes (l := [a, b]) (by simp) (by decide) (by simp) h
theorem rules_B16x_4 : True := by
  k_with_none
  k_with "exec If" => (refine wpAny_If ?_)
  k_with "storeName" => ((k_here; k_dflt (first | (refine' storeUI ?F ?N ?_ ?a ?b; (case F => k_asm); (case N => k_asm); (case a => rfl); (case b => rfl); k_whole; intro h' tk' t' F' N'; (try k_sweep)) | (refine' storeU ?F ?N ?_ ?a ?b; (case F => k_asm); (case N => k_asm); (case a => rfl); (case b => rfl); k_whole; intro h' tk' F' N'; (try k_sweep)))))
  k_with "eval Name" => ((k_here; k_dflt (refine' ldE ?k1 ?k2 ?_ (by rfl) (by rfl) (by decide); (case k1 => k_asm); (case k2 => ((repeat (first | with_reducible assumption | (with_reducible exact upd_here) | (with_reducible apply upd_there; (focus (decide))))); done)); k_whole)))
  k_with "call type:type" => (((with_reducible show wpAny _ _ (call _ [Value.bytes _ _]) _ _ _); refine call_type_of (Tx := "bytes") rfl (by decide +kernel) ?_))
  k_with "getMethod str" => ((k_here; with_reducible refine meth_encode ?_))
  k_with "call builtin:str.encode" => ((k_here; refine enc_as (by with_reducible assumption) (by with_reducible assumption) (enc2_two (by with_reducible assumption)) (enc2_fit (by with_reducible assumption)) ?_; intro _))
  k_with "getMethod ref" => ((k_here; (with_reducible show wpAny _ _ (getMethod (Value.ref 133) _ _) _ _ _); refine meth_search (by k_in) ?_))
  k_with "call ref" => ((k_here; (with_reducible show wpAny _ _ (call (Value.ref 214) [Value.int _ _]) _ _ _); k_dflt (refine' hexv_spec (Rdy.of_walk ?B ?F ?X ?T rfl rfl (Nat.le_of_ble_eq_true rfl) (Nat.le_of_ble_eq_true rfl) rfl) _ _ ?_; (case F => k_asm); (case B => k_asm); (case X => k_asm); (case T => k_asm); k_whole); intro v9 t9 h9 tk9 hv9 hk9; (have F9 := fr_keep (by with_reducible assumption) hk9); (have N9 := news_keep (by with_reducible assumption) hk9); (have g9 : v9 < 16 := by rw [hv9]; assumption); (have p9 : 0 ≤ v9 := by rw [hv9]; exact hexv_nonneg (Int.natCast_nonneg _)); (try dsimp only)))
  k_with "call builtin:re.Pattern.search" => ((k_here; k_dflt (refine (by with_reducible assumption : ReNo _ _) _ _ _ _ _ (Nat.le_of_ble_eq_true rfl) (Nat.le_of_ble_eq_true rfl) (by k_in) ?_); intro h9 tk9 hk9; (have F9 := fr_keep (by with_reducible assumption) hk9); (have N9 := news_keep (by with_reducible assumption) hk9); (try dsimp only)))
  k_with "call builtin:len" => ((k_here; refine len_two ?_))
  k_with "subscriptTail" => ((k_here; (with_reducible show wpAny _ _ (subscriptTail _ _ (Value.bytes (List.toArray [_, _]) _) (Value.int _ _)) _ _ _); first | (refine item2 (.inl ⟨rfl, rfl⟩) ?_ (by with_unfolding_all rfl) (by intro _; with_unfolding_all rfl)) | (refine item2 (.inr ⟨rfl, rfl⟩) ?_ (by with_unfolding_all rfl) (by intro _; with_unfolding_all rfl))))
  trivial
theorem bytes_b1 {prog : Program} {w : World} {A : Around} {E : Value → Shared → Prop} {s : Shared} {h₀ : Heap} {L l : Addr} {m : Str → Option Value} {news : List (Addr × Obj)} {Q : Value → Shared → Prop} {u v : Int} {ta : Tok} {k : Nat}
    (F : Fr h₀ L s.heap m) (N : News h₀ L s.heap news) (hh : A.handled = none) (hm : (l, PySem.W.listOf ((#[] : Array Value).push (.int (u * 2 ^ Int.toNat 4 + v) ta)) k) ∈ news) (hu : 0 ≤ u) (hu' : u < 16) (hv : 0 ≤ v) (hv' : v < 16)
    (h : ∀ h' t k, Fr h₀ L h' m → News h₀ L h' news → Q (.bytes #[(u * 2 ^ Int.toNat 4 + v).toNat.toUInt8] t) { s with heap := h', toks := k }) :
    wpAny (model prog w) A (call (.type "bytes") [.ref l]) Q E s :=
  bytes_push1 F N hh hm (by show 0 ≤ u * 16 + v ∧ u * 16 + v < 256; omega) h
theorem rules_B16x_5 : True := by
  k_with_none
  k_with "exec If" => (refine wpAny_If ?_)
  k_with "storeName" => ((k_here; k_dflt (first | (refine' storeUI ?F ?N ?_ ?a ?b; (case F => k_asm); (case N => k_asm); (case a => rfl); (case b => rfl); k_whole; intro h' tk' t' F' N'; (try k_sweep)) | (refine' storeU ?F ?N ?_ ?a ?b; (case F => k_asm); (case N => k_asm); (case a => rfl); (case b => rfl); k_whole; intro h' tk' F' N'; (try k_sweep)))))
  k_with "eval Name" => ((k_here; k_dflt (refine' ldE ?k1 ?k2 ?_ (by rfl) (by rfl) (by decide); (case k1 => k_asm); (case k2 => ((repeat (first | with_reducible assumption | (with_reducible exact upd_here) | (with_reducible apply upd_there; (focus (decide))))); done)); k_whole)))
  k_with "call type:type" => (((with_reducible show wpAny _ _ (call _ [Value.bytes _ _]) _ _ _); refine call_type_of (Tx := "bytes") rfl (by decide +kernel) ?_))
  k_with "getMethod str" => ((k_here; with_reducible refine meth_encode ?_))
  k_with "call builtin:str.encode" => ((k_here; refine enc_as (by with_reducible assumption) (by with_reducible assumption) (enc2_two (by with_reducible assumption)) (enc2_fit (by with_reducible assumption)) ?_; intro _))
  k_with "getMethod ref" => ((k_here; (with_reducible show wpAny _ _ (getMethod (Value.ref 133) _ _) _ _ _); refine meth_search (by k_in) ?_))
  k_with "call ref" => ((k_here; (with_reducible show wpAny _ _ (call (Value.ref 214) [Value.int _ _]) _ _ _); k_dflt (refine' hexv_spec (Rdy.of_walk ?B ?F ?X ?T rfl rfl (Nat.le_of_ble_eq_true rfl) (Nat.le_of_ble_eq_true rfl) rfl) _ _ ?_; (case F => k_asm); (case B => k_asm); (case X => k_asm); (case T => k_asm); k_whole); intro v9 t9 h9 tk9 hv9 hk9; (have F9 := fr_keep (by with_reducible assumption) hk9); (have N9 := news_keep (by with_reducible assumption) hk9); (have g9 : v9 < 16 := by rw [hv9]; assumption); (have p9 : 0 ≤ v9 := by rw [hv9]; exact hexv_nonneg (Int.natCast_nonneg _)); (try dsimp only)))
  k_with "call builtin:re.Pattern.search" => ((k_here; k_dflt (refine (by with_reducible assumption : ReNo _ _) _ _ _ _ _ (Nat.le_of_ble_eq_true rfl) (Nat.le_of_ble_eq_true rfl) (by k_in) ?_); intro h9 tk9 hk9; (have F9 := fr_keep (by with_reducible assumption) hk9); (have N9 := news_keep (by with_reducible assumption) hk9); (try dsimp only)))
  k_with "call builtin:len" => ((k_here; refine len_two ?_))
  k_with "subscriptTail" => ((k_here; (with_reducible show wpAny _ _ (subscriptTail _ _ (Value.bytes (List.toArray [_, _]) _) (Value.int _ _)) _ _ _); first | (refine item2 (.inl ⟨rfl, rfl⟩) ?_ (by with_unfolding_all rfl) (by intro _; with_unfolding_all rfl)) | (refine item2 (.inr ⟨rfl, rfl⟩) ?_ (by with_unfolding_all rfl) (by intro _; with_unfolding_all rfl))))
  k_with "call type:bytes" => ((k_here; (with_reducible show wpAny _ _ (call (Value.type "bytes") [Value.ref _]) _ _ _); k_dflt (refine' bytes_b1 ?F ?N ?h ?l ?a ?b ?c ?d ?_; (case F => k_asm); (case N => k_asm); (case h => with_unfolding_all rfl); (case l => k_mem); (case a => with_reducible assumption); (case b => with_reducible assumption); (case c => with_reducible assumption); (case d => with_reducible assumption); k_whole); intro h' t' k' F' N'; (try k_sweep)))
  k_with "binaryOp LShift int int" => ((k_here; refine lshift_int_small (by decide) (by decide) (by omega) ?_))
  trivial
noncomputable def b16D (a b : UInt8) : UInt8 := (hexv ((a.toNat : Nat) : Int) * 2 ^ Int.toNat 4 + hexv ((b.toNat : Nat) : Int)).toNat.toUInt8
set_option pp.maxSteps 4000
theorem b16d_spec {w : World} {A : Around} {s : Shared} {Q E : Value → Shared → Prop} (R : Rdy w 500 A s.heap) (x : Str) (tx : Tok) (a b : UInt8) (hx : ∀ c ∈ x.cps, c < 128) (hlen : x.length = 2) (he : (x.cps.map fun c => c.toUInt8) = #[a, b]) (hre : ReNo w #[a, b]) (ha : hexv ((a.toNat : Nat) : Int) < 16) (hb : hexv ((b.toNat : Nat) : Int) < 16)
    (hret : ∀ t h' tk', (∀ b o, s.heap.get? b = some o → h'.get? b = some o) → Q (.bytes #[b16D a b] t) { s with heap := h', toks := tk' }) :
    wpAny (MM w) A (call (.ref 266) [.str x tx]) Q E s := by
  refine R.go ?_
  intro gd base fs p loose mean mg mb B X T
  dsimp only [MM]; revert X; k_fill; intro X
  refine' wpAny_call (enterP B X T ?ho ?hcd ?hroom ?hbind ?hloc ?_ ?c1 ?c2 ?c3 ?c4)
  case ho => k_is
  case hcd => k_is
  case hroom => exact Nat.le_of_ble_eq_true rfl
  case hbind => first | exact BindsTo.of_eq rfl | exact binds_K (by k_in) rfl (by k_is) rfl rfl rfl
  case hloc => exact locs rfl
  case c1 => rfl
  case c2 => rfl
  case c3 => rfl
  case c4 => decide
  intro L' h₁ F' N'
  replace F' : Fr s.heap L' h₁ (fun y => List.lookup y [("casefold", .bool false), ("s", .str x tx)]) := F'
  try dsimp only
  (try show wpAny _ _ _ _ _ _)
  (try k_fold)
  k_steps
  subst_vars
  exact hret _ _ _ (Fr.keep (by assumption))
end B16x
section SetA
open PySem
theorem rules_SetA_1 : True := by
  k_with_none
  k_with "exec If" => (refine wpAny_If ?_)
  trivial
theorem orStandIn_led (t : SetTable) (n : Nat) : (t.orStandIn n).led = t.led ∧ (t.plain = false → (t.orStandIn n).plain = false) := by
  unfold SetTable.orStandIn; split
  · exact ⟨rfl, id⟩
  · exact ⟨rfl, fun _ => rfl⟩
theorem layNew_led (t : SetTable) (es : Array (Int × Value)) (h : Int) (x : Value) : (layNew t es h x).2.1.led = t.led ∧ (t.plain = false → (layNew t es h x).2.1.plain = false) := by
  unfold layNew; split
  · rename_i slot wd _
    exact orStandIn_led (t.put slot).1 _
  · exact ⟨rfl, fun _ => rfl⟩
theorem relayAll_led (t : SetTable) (es : Array (Int × Value)) (n : Nat) : (relayAll t es n).2.1.led = t.led ∧ (t.plain = false → (relayAll t es n).2.1.plain = false) := by
  unfold relayAll; split
  · rename_i t' order e
    unfold SetTable.relaid SetTable.laid at e
    have he : t'.led = t.led ∧ t'.plain = t.plain := by
      simp only [Option.bind_eq_bind, Option.bind_eq_some_iff, Option.map_eq_some_iff, pure, Option.some.injEq, Prod.mk.injEq] at e
      first
        | (obtain ⟨_, _, rfl, _⟩ := e; exact ⟨rfl, rfl⟩)
        | (obtain ⟨_, _, _, _, rfl, _⟩ := e; exact ⟨rfl, rfl⟩)
    dsimp only
    split
    · exact ⟨he.1, fun q => he.2.trans q⟩
    · exact ⟨rfl, fun _ => rfl⟩
  · exact ⟨rfl, fun _ => rfl⟩
noncomputable abbrev SK (w : World) := strKind PG w
noncomputable def strOf? : Value → Option Str
  | .str x _ => some x
  | _ => none
theorem strs_iff : ∀ {vs : List Value} {xs : List Str}, StrsAre vs xs ↔ vs.map strOf? = xs.map some
  | [], [] => ⟨fun _ => rfl, fun _ => .nil⟩
  | [], _ :: _ => ⟨(fun h => nomatch h), (fun h => nomatch h)⟩
  | _ :: _, [] => ⟨(fun h => nomatch h), (fun h => nomatch h)⟩
  | v :: vs, x :: xs => ⟨fun h => by cases h with | cons _ _ h => simp [strOf?, strs_iff.mp h], fun h => by
      simp only [List.map_cons, List.cons.injEq] at h
      cases v <;> simp [strOf?] at h
      obtain ⟨rfl, h⟩ := h
      exact .cons _ _ (strs_iff.mpr h)⟩
theorem perm_somes : ∀ {l : List (Option Str)} {xs : List Str}, l.Perm (xs.map some) → ∃ ys : List Str, l = ys.map some
  | [], _, _ => ⟨[], rfl⟩
  | o :: l, xs, h => by
    have ho : ∀ o' ∈ o :: l, ∃ y : Str, o' = some y := fun o' q => by
      obtain ⟨y, _, e⟩ := List.mem_map.mp (h.mem_iff.mp q)
      exact ⟨y, e.symm⟩
    have all : ∀ {l : List (Option Str)}, (∀ o' ∈ l, ∃ y : Str, o' = some y) → ∃ ys : List Str, l = ys.map some := fun {l} => by
      induction l with
      | nil => exact fun _ => ⟨[], rfl⟩
      | cons a l ih =>
        intro q
        obtain ⟨y, rfl⟩ := q a (.head _)
        obtain ⟨ys, rfl⟩ := ih fun o' z => q o' (.tail _ z)
        exact ⟨y :: ys, rfl⟩
    exact all ho
theorem strs_perm {vs vs' : List Value} {xs : List Str} (h : StrsAre vs xs) (p : vs'.Perm vs) : ∃ xs', StrsAre vs' xs' ∧ xs'.Perm xs := by
  have h1 := strs_iff.mp h
  have p1 : (vs'.map strOf?).Perm (xs.map some) := h1 ▸ p.map strOf?
  obtain ⟨ys, e⟩ := perm_somes p1
  refine ⟨ys, strs_iff.mpr e, ?_⟩
  rw [e] at p1
  have := p1.filterMap id
  simpa using this
/-- a set of texts, its table kept in step with the world -/
structure StrSet (w : World) (led : Bool) (o : Obj) (xs : List Str) : Prop where
  ex : ∃ es ep t, o = ⟨.type "set", none, .set es ep t, #[]⟩ ∧ ElemsOf (SK w) es.toList ∧ StrsAre (es.toList.map (·.2)) xs ∧ t.fits es.size = true ∧ t.led = led ∧ (xs ≠ [] → t.plain = false)
theorem strSet_fresh (w : World) (led : Bool) : StrSet w led { cls := .type "set", dict := none, data := .set #[] 0 (.fresh 0 0 led) } [] :=
  ⟨#[], 0, _, rfl, fun e he => by simp at he, .nil, rfl, rfl, fun h => absurd rfl h⟩
section
variable {w : World} {A : Around} {E : Value → Shared → Prop} {s : Shared}
theorem strs_mem {vs : List Value} {xs : List Str} (h : StrsAre vs xs) {x : Str} : x ∈ xs ↔ ∃ t, Value.str x t ∈ vs := by
  induction h with
  | nil => simp
  | cons y t h ih =>
    rw [List.mem_cons, ih]
    constructor
    · rintro (rfl | ⟨t', h'⟩)
      · exact ⟨t, .head _⟩
      · exact ⟨t', .tail _ h'⟩
    · rintro ⟨t', h'⟩
      rcases List.mem_cons.mp h' with e | h'
      · cases e; exact .inl rfl
      · exact .inr ⟨t', h'⟩
theorem find_str {es : List (Int × Value)} {xs : List Str} (h : StrsAre (es.map (·.2)) xs) (x : Str) : (es.findIdx? (fun e => (SK w).is x e.2)).isSome = true ↔ x ∈ xs := by
  rw [strs_mem h]
  constructor
  · intro q
    obtain ⟨j, hj⟩ := Option.isSome_iff_exists.mp q
    obtain ⟨hl, hp, _⟩ := List.findIdx?_eq_some_iff_getElem.mp hj
    have hm : es[j].2 ∈ es.map (·.2) := List.mem_map_of_mem (List.getElem_mem hl)
    obtain ⟨i, hi⟩ := List.mem_iff_getElem?.mp hm
    obtain ⟨y, t, e, _⟩ := StrsAre.item h i _ hi
    rw [e] at hp hm
    have : y = x := (SK w).inj _ y x (strKind_is _ _ _ _) hp
    subst this
    exact ⟨t, hm⟩
  · rintro ⟨t, ht⟩
    obtain ⟨e, he, q⟩ := List.mem_map.mp ht
    rw [← Option.isNone_eq_false_iff]
    cases hr : es.findIdx? (fun e => (SK w).is x e.2) with
    | some j => rfl
    | none =>
      have := List.findIdx?_eq_none_iff.mp hr e he
      rw [q, strKind_is] at this; cases this
theorem add_str {a : Addr} {o : Obj} {led : Bool} {xs : List Str} {x : Str} {tk : Tok} {Q : Bool → Shared → Prop} (ho : s.heap.get? a = some o) (hS : StrSet w led o xs) (hroom : xs.length + 1 < scanBound)
    (h : ∀ h' o' xs' b, Heap.SameBut a s.heap h' → h'.get? a = some o' → StrSet w led o' xs' → (∀ y, y ∈ xs' ↔ y ∈ xs ∨ y = x) → xs'.length ≤ xs.length + 1 → Q b { s with heap := h' }) :
    wpAny (MM w) A (setAddHashed a (.str x tk) ((SK w).hash x)) Q E s := by
  obtain ⟨es, ep, t, rfl, hel, hst, hf, hled, hpl⟩ := hS.ex
  have hn : es.size = xs.length := by rw [← StrsAre.len_eq hst, List.length_map, Array.length_toList]
  have hb : es.size < scanBound := by omega
  have hkey : (SK w).is x (.str x tk) = true := strKind_is _ _ _ _
  unfold setAddHashed setAddHashedIn
  refine wpAny_holding (wpAny_bind (wpAny_setState_of ho rfl hf ?_))
  dsimp only
  rw [byScan_of (knd := SK w) rfl hb hel]
  simp only [↓reduceIte]
  unfold setAddByScan
  refine wpAny_bind ?_
  refine wpAny_bind (wpAny_rule ?_)
  refine wpAny_bind (wpAny_setScan_of (knd := SK w) hkey ho rfl hf hel ?_)
  have hfs := find_str (w := w) hst x
  cases hr : List.findIdx? (fun e => (SK w).is x e.2) es.toList with
  | some j =>
    dsimp only
    have hx : x ∈ xs := hfs.mp (by rw [hr]; rfl)
    refine wpAny_pure (wpAny_pure ?_)
    have e : s = { s with heap := s.heap } := by cases s; rfl
    rw [e]
    exact h s.heap _ xs _ (Heap.SameBut.refl a s.heap) ho hS (fun y => ⟨.inl, fun q => q.elim id fun e => e ▸ hx⟩) (Nat.le_succ _)
  | none =>
    dsimp only
    have hgw : ∀ (b : Bool) {s₁ : Shared} {Q' : Unit → Shared → Prop}, Q' () s₁ → wpAny (MM w) A (match b with | true => rule "set.scan.the-table-gave-way" | false => pure ()) Q' E s₁ :=
      fun b s₁ Q' hq => by cases b <;> first | exact wpAny_pure hq | exact wpAny_rule hq
    have hperm := layNew_perm t es ((SK w).hash x) (.str x tk)
    have hfits := layNew_fits t es ((SK w).hash x) (.str x tk)
    have hldd := layNew_led t es ((SK w).hash x) (.str x tk)
    generalize hL : layNew t es ((SK w).hash x) (.str x tk) = L at hperm hfits hldd ⊢
    obtain ⟨es1, t1, wasDummy, gave⟩ := L
    dsimp only at hperm hfits hldd ⊢
    rw [Array.toList_push] at hperm
    have hel1 : ElemsOf (SK w) es1.toList := (hel.push hkey rfl).perm hperm
    have hst0 : StrsAre ((es.toList ++ [((SK w).hash x, Value.str x tk)]).map (·.2)) (xs ++ [x]) := by rw [List.map_append]; exact StrsAre.append' hst (.cons _ _ .nil)
    obtain ⟨xs1, hst1, hp1⟩ := strs_perm hst0 (hperm.map (·.2))
    have hmem1 : ∀ y, y ∈ xs1 ↔ y ∈ xs ∨ y = x := fun y => by rw [hp1.mem_iff, List.mem_append, List.mem_singleton]
    have hlen1 : xs1.length = xs.length + 1 := by rw [hp1.length_eq, List.length_append, List.length_singleton]
    have hsz1 : es1.size = xs.length + 1 := by rw [← Array.length_toList, hperm.length_eq, List.length_append, Array.length_toList, hn]; rfl
    refine wpAny_bind (hgw _ ?_)
    have tail : ∀ g : Bool → Sem Unit, (∀ (b : Bool) (s₁ : Shared) (Q' : Unit → Shared → Prop), Q' () s₁ → wpAny (MM w) A (g b) Q' E s₁) → ∀ t2 : SetTable, t2.fits es1.size = true → t2.led = led → t2.plain = false → wpAny (MM w) A (do
        storeSet a es1 t2
        if (!wasDummy && t2.tooFull) = true then do
            g (relayAll t2 es1 (SetTable.grown es1.size)).2.2
            storeSet a (relayAll t2 es1 (SetTable.grown es1.size)).1 (relayAll t2 es1 (SetTable.grown es1.size)).2.1
            pure (some true)
          else pure (some true)) (fun r s' => wpAny (MM w) A (match r with | some added => pure added | none => setAddHashedIn a (.str x tk) ((SK w).hash x) 99999) Q E s') E s := by
      intro g hg t2 hf2 hl2 hp2
      refine wpAny_bind (wpAny_storeSet_of ho rfl ?_ (fits_of_scanBound (by omega)))
      obtain ⟨ho1, _⟩ := SetOf_store (knd := SK w) (S' := fun k => decide (k ∈ xs1)) ho ⟨rfl, rfl, rfl⟩ rfl hel1 (fun k => by
        rw [decide_eq_true_eq, ← find_str (w := w) hst1 k]
        constructor
        · intro q
          obtain ⟨j, hj⟩ := Option.isSome_iff_exists.mp q
          obtain ⟨hl, hp, _⟩ := List.findIdx?_eq_some_iff_getElem.mp hj
          exact ⟨_, List.getElem_mem hl, hp⟩
        · rintro ⟨e, he, q⟩
          cases hr : es1.toList.findIdx? (fun e => (SK w).is k e.2) with
          | some j => rfl
          | none => have := List.findIdx?_eq_none_iff.mp hr e he; rw [q] at this; cases this) (by omega) hf2
      have hsb1 := Heap.SameBut.update s.heap a (Obj.putSet es1 t2)
      split
      · have hp := relayAll_perm t2 es1 (SetTable.grown es1.size)
        have hfr := relayAll_fits t2 es1 (SetTable.grown es1.size)
        have hld := relayAll_led t2 es1 (SetTable.grown es1.size)
        generalize hRl : relayAll t2 es1 (SetTable.grown es1.size) = Rl at hp hfr hld ⊢
        obtain ⟨es2, t3, gave2⟩ := Rl
        dsimp only at hp hfr hld ⊢
        have hel2 : ElemsOf (SK w) es2.toList := hel1.perm hp
        obtain ⟨xs2, hst2, hp2'⟩ := strs_perm hst1 (hp.map (·.2))
        have hsz : es2.size = es1.size := by rw [← Array.length_toList, hp.length_eq, Array.length_toList]
        refine wpAny_bind (hg _ _ _ ?_)
        refine wpAny_bind (wpAny_storeSet_of ho1 rfl ?_ (fits_of_scanBound (by omega)))
        have hg := Heap.get?_update_self (Obj.putSet es2 t3) ho1 (by rfl)
        refine wpAny_pure (wpAny_pure (h _ _ xs2 _ (hsb1.trans (Heap.SameBut.update _ a _)) hg ⟨es2, _, t3, rfl, hel2, hst2, hfr, hld.1.trans hl2, fun _ => hld.2 hp2⟩ (fun y => (hp2'.mem_iff).trans (hmem1 y)) (by rw [hp2'.length_eq, hlen1]; exact Nat.le_refl _)))
      · exact wpAny_pure (wpAny_pure (h _ _ xs1 _ hsb1 ho1 ⟨es1, _, t2, rfl, hel1, hst1, hf2, hl2, fun _ => hp2⟩ hmem1 (Nat.le_of_eq hlen1)))
    have hg2 : ∀ (b : Bool) (s₁ : Shared) (Q' : Unit → Shared → Prop), Q' () s₁ → wpAny (MM w) A (match b with | true => rule "set.scan.the-table-gave-way" | false => pure ()) Q' E s₁ := fun b s₁ Q' hq => hgw b hq
    split
    · refine wpAny_bind ?_
      rw [hashByValue_scannable 8 rfl]
      refine wpAny_pure ?_
      exact tail _ hg2 { t1 with plain := false } (SetTable.fits_plain_off hfits) (hldd.1.trans hled) rfl
    · refine wpAny_bind (wpAny_pure ?_)
      rename_i hp
      exact tail _ hg2 t1 hfits (hldd.1.trans hled) (by simpa using hp)
end
end SetA
section SetB
section
variable {w : World} {A : Around} {R : Result → Shared → Prop} {I : Addr} {fp wr : List Addr} {G : Array GenState → Array GenState → Prop} {n : Nat} {P : Nat → Value → Prop} {St : Nat → Shared → Prop}
theorem rules_SetB_1 : True := by
  k_with_none
  k_with "exec If" => (refine wpAny_If ?_)
  k_with "ws" => ((first | with_reducible (first | refine wpAny_pure ?_ | refine wpAny_bind ?_ | refine wpAny_holding ?_ | refine wpAny_standAt ?_ | refine wpAny_point ?_ | refine wpAny_rule ?_ | refine wpAny_letGo ?_ | refine wpAny_mkInt' ?_ | refine wpAny_fresh' ?_ | refine wpAny_alloc' ?_ | refine wpAny_attempt ?_ | refine wpAny_throw ?_ | refine wpAny_of_eq (by assumption) ?_ | refine wpAny_typeOf (by assumption) ?_ | refine wpAny_specialOf_val (by assumption) (by assumption) ?_ | refine wpAny_specialOf (by assumption) (by assumption) ?_ | refine wpAny_isInstance_val (by assumption) (by assumption) ?_ | refine wpAny_isInstance (by assumption) (by assumption) ?_ | refine wpAny_call ?_ | refine wpAny_runValue ?_ | refine wpAny_run ?_) | ((with_reducible show wpAny _ _ (mkStr _) _ _ _); with_reducible refine wpAny_mkStr' ?_) | ((with_reducible apply wpAny_load'); focus (heap_get; done)) | ((with_reducible apply wpAny_update'); focus (heap_get; done)) | ((with_reducible apply wpAny_loadPart'); focus (heap_get; done)) | ((with_reducible apply wpAny_updatePart'); focus (heap_get; done)) | ((with_reducible apply wpAny_handled_none); focus (assumption; done)) | ((with_reducible apply wpAny_ite_false); focus (rfl; done)) | ((with_reducible apply wpAny_ite_true); focus (rfl; done)) | ((with_reducible apply wpAny_ite_false); focus (simp [*]; done)) | ((with_reducible apply wpAny_ite_true); focus (simp [*]; done)) | wp_delta | with_reducible_and_instances refine wpAny_pure ?_ | with_reducible_and_instances refine wpAny_bind ?_))
  trivial
/-- a set of texts at an address; ms: what is in it -/
noncomputable def SetAt (w : World) (led : Bool) (h : Heap) (a : Addr) (n : Nat) (ms : List Str) : Prop := ∃ o ys, h.get? a = some o ∧ StrSet w led o ys ∧ ys.length ≤ n ∧ ∀ y, y ∈ ys ↔ y ∈ ms
theorem SetAt.keep {w : World} {led : Bool} {h h' : Heap} {a : Addr} {n : Nat} {ms : List Str} (x : SetAt w led h a n ms) (k : ∀ o, h.get? a = some o → h'.get? a = some o) : SetAt w led h' a n ms := by
  obtain ⟨o, ys, ho, q⟩ := x; exact ⟨o, ys, k o ho, q⟩
theorem update_strs (W : WalksS PG w A.in1 I fp wr G n P St) (S : Addr) (hSf : S ∉ fp) (xs : List Str) (hxn : xs.length = n) {led : Bool}
    (hval : ∀ i v, P i v → ∃ t x, v = .str x t ∧ xs[i]? = some x) (hb : n + 1 < scanBound) :
    ∀ (k i : Nat) (s : Shared), n - i = k → i ≤ n → St i s → SetAt w led s.heap S i (xs.take i) →
      (∀ s', Moved (S :: wr) G s s' → SetAt w led s'.heap S n xs → R (.ok (.ret .none)) s') →
      codeAny (MM w) A (.builtin "set.update.loop" ⟨[.ref S, .ref I], []⟩) R s := by
  have hSw : S ∉ wr := fun h => hSf (W.sub _ h)
  have hsub : ∀ b ∈ wr, b ∈ S :: wr := fun b hb => List.mem_cons_of_mem _ hb
  intro k
  induction k with
  | zero =>
    intro i s hk hi hst hS hR
    have hin : i = n := by omega
    subst hin
    refine codeAny_builtin PyProof.Rows.F.entry_set_update_loop ?_
    rw [Around.under_plainId PyProof.Rows.F.plain_set_update_loop _]
    show wpAny _ A.in1 (pyNext (.ref I) >>= _) _ _ s
    refine wpAny_bind (W.done s _ _ hst fun s' hm => ?_)
    show wpAny _ A.in1 (ret Value.none) _ _ s'
    rw [← hxn, List.take_length] at hS
    exact wpAny_pure (hR s' (hm.mono hsub) (hxn ▸ hS.keep fun o e => hm.heap S _ hSw e))
  | succ k ih =>
    intro i s hk hi hst hS hR
    have hlt : i < n := by omega
    refine codeAny_builtin PyProof.Rows.F.entry_set_update_loop ?_
    rw [Around.under_plainId PyProof.Rows.F.plain_set_update_loop _]
    show wpAny _ A.in1 (pyNext (.ref I) >>= _) _ _ s
    refine wpAny_bind (W.item i s _ _ hlt hst fun v s' hP hst' hm => ?_)
    obtain ⟨t, x, rfl, hx⟩ := hval i v hP
    obtain ⟨o, ys, ho, hSo, hlen, hmem⟩ := hS.keep fun o e => hm.heap S o hSw e
    show wpAny _ A.in1 (holding [Value.str x t] (setAdd S (.str x t)) >>= _) _ _ s'
    refine wpAny_bind (wpAny_holding ?_)
    unfold setAdd
    refine wpAny_holding ?_
    refine wpAny_bind ((SK w).pyHash (k := x) (strKind_is _ _ _ _) ?_)
    refine add_str (s := { s' with toks := s'.toks + 1 }) ho hSo (by omega) fun h' o' xs' b hsb ho' hS' hm' hl' => ?_
    have hSi : SetAt w led h' S (i + 1) (xs.take (i + 1)) := ⟨o', xs', ho', hS', by omega, fun y => by
      rw [hm' y, hmem y, List.take_add_one, hx, List.mem_append]; simp⟩
    refine wpAny_pure ⟨plainId_quiet PyProof.Rows.F.plain_set_update_loop _, ih (i + 1) _ (by omega) hlt (W.frame _ s' _ _ hst' (Nat.le_succ _) fun b hb o e => ?_) hSi fun s'' hm'' hS'' => ?_⟩
    · rw [hsb.2 b (fun h : b = S => hSf (by rw [← h]; exact hb))]; exact e
    · refine hR s'' (Moved.trans W.gtrans ((hm.mono hsub).then_heap (Nat.le_succ _) fun b o hb e => ?_) hm'') hS''
      rw [hsb.2 b (fun h : b = S => hb (by rw [h]; exact List.mem_cons_self))]; exact e
end
section
variable {w : World} {A : Around} {E : Value → Shared → Prop} {s : Shared}
noncomputable abbrev setLed (w : World) : Bool := !w.params.followText "set-order"
theorem set_new_1 (a : Value) {Q₁ : Value → Shared → Prop}
    (h : Q₁ (.ref s.heap.objs.size) { s with heap := s.heap.push { cls := .type "set", dict := none, data := .set #[] 0 (.fresh 0 0 (setLed w)) } }) :
    codeAny (MM w) A (.call (.builtin "set.__new__") ⟨[.type "set", a], []⟩) (wants Q₁ E) s := by
  refine codeAny_of_tree ?_
  show wpAny _ A.in1 (do checkBuiltinCall "set.__new__" ⟨[.type "set", a], []⟩; again (.builtin "set.__new__" ⟨[.type "set", a], []⟩)) _ _ s
  refine wpAny_bind (wpAny_of_eq (PySem.F.newCall_set_1 a) (wpAny_pure ⟨plainId_quiet PySem.F.plain_set_new _, codeAny_builtin PySem.F.entry_set_new ?_⟩))
  rw [Around.under_plainId PySem.F.plain_set_new _]
  unfold Builtin.«set.__new__» Builtin.Frozenset.newClass
  have hsub := sub_set_self
  obtain ⟨hp, g, d, tk, os⟩ := s
  dsimp only
  (repeat (k_extra "ws"))
  refine wpAny_askSetting (wpAny_pure ?_)
  dsimp only
  simp only [newObj]
  refine wpAny_bind (wpAny_alloc (wpAny_pure ?_))
  exact wpAny_pure h
set_option maxHeartbeats 3200000 in
theorem call_set_strs {l : Addr} {items : Array Value} {xs : List Str} {Q : Value → Shared → Prop}
    (hh : A.handled = none) (hl : s.heap.IsList l items) (hi : StrsAre items.toList xs) (hb : items.size + 1 < scanBound)
    (h : ∀ (h' : Heap) (tk : Nat), SetAt w (setLed w) h' s.heap.objs.size items.size xs →
      (∀ b o, b < s.heap.objs.size → s.heap.get? b = some o → h'.get? b = some o) → Q (.ref s.heap.objs.size) { s with heap := h', toks := tk }) :
    wpAny (MM w) A (call (.type "set") [.ref l]) Q E s := by
  have hxn : xs.length = items.size := by rw [← StrsAre.len_eq hi, Array.length_toList]
  obtain ⟨c, tl, hmro⟩ := PySem.F.called_set.mro
  have hmade := PySem.F.called_set.made
  have hsub := PySem.F.called_set.sub
  refine wpAny_call (codeAny_of_tree ?_)
  show wpAny _ _ (callAny (.type "set") _) _ _ _
  refine wpAny_pure ⟨Code.quiet_builtin _ (by decide +kernel), codeAny_builtin PySem.F.entry_type_call ?_⟩
  rw [Around.under_plain (weight_type_call_type "set" [.ref l] []) rfl]
  have h1 := PySem.F.called_set.notType
  have h2 := PySem.F.called_set.canCreate
  have hct := PySem.F.typeCall_set_1 (.ref l)
  repeat (any_goals (first | assumption | (k_extra "ws")))
  refine codeAny_mono (set_new_1 (.ref l) (E := E) (Q₁ := fun obj s₁ => obj = .ref s.heap.objs.size ∧ s₁ = { s with heap := s.heap.push { cls := .type "set", dict := none, data := .set #[] 0 (.fresh 0 0 (setLed w)) } }) ⟨rfl, rfl⟩) fun r s₁ hr => ?_
  cases r with
  | error e => exact hr
  | ok fl =>
    cases fl with
    | ret obj =>
      obtain ⟨rfl, rfl⟩ := hr
      have hS : (s.heap.push { cls := .type "set", dict := none, data := .set #[] 0 (.fresh 0 0 (setLed w)) }).get? s.heap.objs.size = some { cls := .type "set", dict := none, data := .set #[] 0 (.fresh 0 0 (setLed w)) } := Heap.get?_push_size _ rfl
      have hT : Shared.TypeIs { s with heap := s.heap.push { cls := .type "set", dict := none, data := .set #[] 0 (.fresh 0 0 (setLed w)) } } (.ref s.heap.objs.size) "set" := ⟨_, hS, rfl⟩
      have hli := PySem.F.called_set.init.lookup
      have hbi := PySem.F.called_set.init.bind (.ref s.heap.objs.size)
      repeat (any_goals (first | assumption | (k_extra "ws")))
      refine codeAny_mono (codeAny_call_builtin (R := wants (fun r s₂ => r = .none ∧ ∃ h' tk, s₂ = { s with heap := h', toks := tk } ∧
          SetAt w (setLed w) h' s.heap.objs.size items.size xs ∧
          (∀ b o, b < s.heap.objs.size → s.heap.get? b = some o → h'.get? b = some o)) E) PySem.F.called_set.init.plain PySem.F.entry_set_init (check_set_init_1 hT ?_)) fun r₂ s₂ hr₂ => ?_
      · obtain ⟨ol, hol, hcl, nl, hdl⟩ := hl
        obtain ⟨ocls, odict, odata, oslots⟩ := ol
        simp only at hcl hdl
        subst hcl; subst hdl
        have hol' : (s.heap.push { cls := .type "set", dict := none, data := .set #[] 0 (.fresh 0 0 (setLed w)) }).get? l = some { cls := .type "list", dict := odict, data := .seq items nl, slots := oslots } := Heap.get?_push_of_some _ hol
        have hsls := PySem.F.sub_list_set
        have hslf := PySem.F.sub_list_frozenset
        have hne : (Value.type "list" == Value.type "dict") = false := by decide
        have hl1 : (s.heap.push { cls := .type "set", dict := none, data := .set #[] 0 (.fresh 0 0 (setLed w)) }).IsList l items := ⟨_, hol', rfl, nl, rfl⟩
        unfold Builtin.«set.__init__» noKeywords Builtin.Frozenset.updateFrom
        generalize hPI : pyIter = PI
        (repeat (k_extra "ws"))
        subst hPI
        refine wpAny_pyIter_list hl1 ?_
        refine wpAny_bind (wpAny_runValue ?_)
        have hlS : l < s.heap.objs.size := Heap.lt_size hol
        have hh3 : A.in1.in1.in1.handled = none := by simp [hh]
        have hneI : l ≠ (s.heap.push { cls := .type "set", dict := none, data := .set #[] 0 (.fresh 0 0 (setLed w)) }).objs.size := by
          rw [Heap.size_push]; exact Nat.ne_of_lt (Nat.lt_succ_of_lt hlS)
        have hSf : s.heap.objs.size ∉ [(s.heap.push { cls := .type "set", dict := none, data := .set #[] 0 (.fresh 0 0 (setLed w)) }).objs.size, l] := by
          rw [Heap.size_push]; simp only [List.mem_cons, List.mem_singleton, List.not_mem_nil, or_false, not_or]
          exact ⟨Nat.ne_of_lt (Nat.lt_succ_self _), Nat.ne_of_gt hlS⟩
        have hval : ∀ (i : Nat) (v : Value), items[i]? = some v → ∃ t x, v = .str x t ∧ xs[i]? = some x := fun i v hv => by
          obtain ⟨y, t, e, q⟩ := StrsAre.item hi i v (by rw [Array.getElem?_toList]; exact hv)
          exact ⟨t, y, e, q⟩
        refine update_strs ((Walks.list hh3 _ l hneI items).toS) s.heap.objs.size
          hSf xs hxn hval hb (items.size - 0) 0 _ (by omega) (Nat.zero_le _)
          ⟨⟨_, Heap.get?_push_size _ rfl, rfl, rfl⟩, (hl1.push _)⟩ (led := setLed w) ?hS0 ?hR
        case hS0 =>
          have hget : ((s.heap.push { cls := .type "set", dict := none, data := .set #[] 0 (.fresh 0 0 (setLed w)) }).push { cls := .type "list_iterator", data := .fields #[.ref l, .int 0 0] }).get? s.heap.objs.size
              = some { cls := .type "set", dict := none, data := .set #[] 0 (.fresh 0 0 (setLed w)) } := Heap.get?_push_of_some _ hS
          exact ⟨_, [], hget, strSet_fresh w _, Nat.le_refl _, fun y => by simp⟩
        case hR =>
          intro s' hm hS'
          obtain ⟨h', g', d', tk', os'⟩ := s'
          have eg : g' = s.gens := hm.gens
          have ed : d' = s.drawn := hm.drawn
          have eo : os' = s.os := hm.os
          subst eg; subst ed; subst eo
          show wpAny _ _ _ _ _ _
          refine wpAny_pure ?_
          show wpAny _ _ (ret Value.none) _ _ _
          refine wpAny_pure ⟨rfl, h', tk', rfl, hS', fun b o hb e => ?_⟩
          have hb1 : b ≠ s.heap.objs.size := Nat.ne_of_lt hb
          have hb2 : b ≠ (s.heap.push { cls := .type "set", dict := none, data := .set #[] 0 (.fresh 0 0 (setLed w)) }).objs.size := by
            rw [Heap.size_push]; exact Nat.ne_of_lt (Nat.lt_succ_of_lt hb)
          exact hm.heap b o (by simp only [List.mem_cons, List.mem_singleton, List.not_mem_nil, or_false, not_or]; exact ⟨hb1, hb2⟩) (Heap.get?_push_of_some _ (Heap.get?_push_of_some _ e))
      · cases r₂ with
        | error e => exact hr₂
        | ok fl₂ =>
          cases fl₂ with
          | ret r =>
            obtain ⟨rfl, h', tk, rfl, hS', hk'⟩ := hr₂
            repeat (any_goals (first | assumption | (k_extra "ws")))
            exact h _ _ hS' hk'
          | _ => exact hr₂.elim
    | _ => exact hr.elim
end
end SetB
section SetC
theorem rules_SetC_1 : True := by
  k_with_none
  k_with "exec If" => (refine wpAny_If ?_)
  trivial
theorem slot_setiter_next : Slot "set_iterator" "__next__" "set_iterator.__next__" :=
  .of (owner := "set_iterator") (n := "__next__") (by rw [typeLookup_type, builtinLookup_eq_fast]; kernel_rfl) (by decide +kernel) (by decide +kernel) (by decide +kernel)
    (by first | exact .inl (by decide +kernel) | exact .inr (by decide +kernel)) (by rw [isSubtype_type]; kernel_rfl)
theorem entry_setiter_next : entryFor table "set_iterator.__next__" = some Builtin.«set_iterator.__next__» := entryFor_of_tree (by kernel_rfl)
theorem entry_set_iter : entryFor table "set.__iter__" = some Builtin.«frozenset.__iter__» := 
  entryFor_alias (id' := "frozenset.__iter__") (by kernel_rfl) rfl (by decide +kernel) (by kernel_rfl)
theorem erase_perm {α : Type} : ∀ (l : List α) (i : Nat) (h : i < l.length), (l[i] :: l.eraseIdx i).Perm l
  | x :: l, 0, _ => List.Perm.refl _
  | x :: l, i + 1, h => ((List.Perm.swap _ _ _).trans ((erase_perm l i (by simpa using h)).cons x))
theorem args_setiter_next (a : Value) : argsOk "set_iterator.__next__" ⟨[a], []⟩ := by unfold argsOk; kernel_rfl
section
variable {M : Model} {A : Around} {E : Value → Shared → Prop} {s : Shared}
theorem wpAny_choose' {src : Source} {n : Nat} {Q : Nat → Shared → Prop} (hn : n ≠ 0) (h : ∀ i d, i < n → Q i { s with drawn := d }) : wpAny M A (choose src n) Q E s := by
  intro Γ p _
  show Sem.wp M Γ (.choose src n .pure) _ _ p s
  unfold Sem.wp
  refine ⟨hn, ?_⟩
  unfold Sem.wp
  exact h _ _ (Nat.mod_lt _ (Nat.pos_of_ne_zero hn))
theorem wpAny_drawOrder {α : Type} : ∀ (n : Nat) (xs : List α) {s : Shared} {Q : List α → Shared → Prop}, n = xs.length → (∀ ys d, ys.Perm xs → Q ys { s with drawn := d }) → wpAny M A (drawOrder n xs) Q E s
  | 0, xs, s, Q, e, h => by
    unfold drawOrder
    have : xs = [] := List.length_eq_zero_iff.mp e.symm
    subst this
    exact wpAny_pure (h [] s.drawn (List.Perm.refl _))
  | n + 1, [], s, Q, e, h => by cases e
  | n + 1, x :: xs, s, Q, e, h => by
    unfold drawOrder
    refine wpAny_bind (wpAny_choose' (by simp) fun i d hi => ?_)
    rw [List.getElem?_eq_getElem hi]
    dsimp only
    refine wpAny_bind (wpAny_drawOrder n ((x :: xs).eraseIdx i) (by rw [List.length_eraseIdx_of_lt hi]; simp at e ⊢; exact e) fun ys d' hp => ?_)
    exact wpAny_pure (h _ _ ((hp.cons _).trans (erase_perm _ _ hi)))
end
theorem pickOrder_go_perm {α : Type} (next : Nat → Nat) : ∀ (fuel k : Nat) (left : List α) (out : Array α), fuel = left.length → (pickOrder.go next fuel k left out).toList.Perm (out.toList ++ left)
  | 0, k, left, out, e => by
    have : left = [] := List.length_eq_zero_iff.mp e.symm
    subst this; unfold pickOrder.go; simp
  | fuel + 1, k, left, out, e => by
    have hpos : 0 < left.length := by omega
    have hi : next k % left.length < left.length := Nat.mod_lt _ hpos
    unfold pickOrder.go
    rw [List.getElem?_eq_getElem hi]
    dsimp only
    refine (pickOrder_go_perm next fuel (k + 1) (left.eraseIdx _) _ (by rw [List.length_eraseIdx_of_lt hi]; omega)).trans ?_
    rw [Array.toList_push, List.append_assoc]
    exact (erase_perm _ _ hi).append_left _
theorem pickOrder_perm {α : Type} (next : Nat → Nat) (xs : Array α) : (pickOrder next xs).toList.Perm xs.toList := by
  have := pickOrder_go_perm next xs.size 0 xs.toList #[] (by simp)
  simpa [pickOrder] using this
noncomputable def IsSetIter (h : Heap) (I : Addr) (f : Value) (i : Nat) (a : Addr) (n ep : Nat) : Prop := ∃ o, h.get? I = some o ∧ o.cls = .type "set_iterator" ∧ o.data = .fields #[f, .int i 0, .ref a, .int n 0, .int ep 0]
theorem IsSetIter.typeIs {s : Shared} {I f i a n ep} (x : IsSetIter s.heap I f i a n ep) : s.TypeIs (.ref I) "set_iterator" := let ⟨o, ho, hc, _⟩ := x; ⟨o, ho, hc⟩
theorem IsSetIter.keep {h h' : Heap} {I f i a n ep} (x : IsSetIter h I f i a n ep) (k : ∀ o, h.get? I = some o → h'.get? I = some o) : IsSetIter h' I f i a n ep := let ⟨o, ho, r⟩ := x; ⟨o, k o ho, r⟩
section
variable {w : World} {A : Around} {E : Value → Shared → Prop} {s : Shared}
/-- the next one by the table's places (or by the world's order): sl is the place the iterator stands at -/
theorem setiter_slot_item {I a : Addr} {sl nx i n ep : Nat} {o : Obj} {es : Array (Int × Value)} {t : SetTable} {v : Value} {Q : Option Value → Shared → Prop}
    (hit : IsSetIter s.heap I (.int sl 0) i a n ep) (ho : s.heap.get? a = some o) (hd : o.data = .set es ep t) (hf : t.fits es.size = true) (hn : es.size = n)
    (hN : ∀ (A : Around) (Q : Option (Value × Nat) → Shared → Prop) (E : Value → Shared → Prop), Q (some (v, nx)) s → wpAny (MM w) A (setNext a sl i ep) Q E s)
    (hQ : ∀ h', IsSetIter h' I (.int nx 0) (i + 1) a n ep → (∀ b o, b ≠ I → s.heap.get? b = some o → h'.get? b = some o) → Q (some v) { s with heap := h' }) :
    wpAny (MM w) A (pyNext (.ref I)) Q E s := by
  obtain ⟨oi, hoi, hc, hdi⟩ := id hit
  unfold pyNext
  refine wpAny_bind (wpAny_attempt (wpAny_callSpecial?_slot (name := Str.ofString "__next__") hit.typeIs slot_setiter_next
    (wpAny_call_entry slot_setiter_next hit.typeIs entry_setiter_next ?_ (args_setiter_next _))))
  unfold Builtin.«set_iterator.__next__»
  refine wpAny_bind (wpAny_pure ?_)
  refine wpAny_bind (wpAny_fieldsOf hoi hdi ?_)
  dsimp only
  refine wpAny_bind (wpAny_setEntries_of ho hd hf ?_)
  rw [hn, if_neg (by simp)]
  simp only [Int.toNat_natCast]
  refine wpAny_bind (hN _ _ _ ?_)
  dsimp only
  refine wpAny_bind (wpAny_setField hoi hdi (by simp) ?_)
  have hd1 : (oi.mapFields (·.setIfInBounds 0 (rawInt nx))).data = .fields #[.int nx 0, .int i 0, .ref a, .int n 0, .int ep 0] := by rw [Obj.data_mapFields hdi]; simp [rawInt]
  have ho1 : (s.heap.update I (Obj.mapFields (·.setIfInBounds 0 (rawInt nx)))).get? I = some (oi.mapFields (·.setIfInBounds 0 (rawInt nx))) := Heap.get?_update_self _ hoi (Obj.isFreed_of_fields (Obj.data_mapFields hdi _))
  refine wpAny_bind (wpAny_setField (s := { s with heap := s.heap.update I (Obj.mapFields (·.setIfInBounds 0 (rawInt nx))) }) ho1 hd1 (by simp) (wpAny_pure ⟨v, rfl, wpAny_pure (hQ _ ?_ fun b o hb e => ?_)⟩))
  · exact ⟨_, Heap.get?_update_self _ ho1 (Obj.isFreed_of_fields (Obj.data_mapFields hd1 _)), (Obj.cls_mapFields ..).trans ((Obj.cls_mapFields ..).trans hc), by
      rw [Obj.data_mapFields hd1]; simp [rawInt]⟩
  · exact (Heap.SameBut.update _ I _).extBut b o hb ((Heap.SameBut.update s.heap I _).extBut b o hb e)
theorem setiter_slot_end {I a : Addr} {sl i n ep : Nat} {o : Obj} {es : Array (Int × Value)} {t : SetTable} {Q : Option Value → Shared → Prop} (hh : A.handled = none)
    (hit : IsSetIter s.heap I (.int sl 0) i a n ep) (ho : s.heap.get? a = some o) (hd : o.data = .set es ep t) (hf : t.fits es.size = true) (hn : es.size = n)
    (hN : ∀ (A : Around) (Q : Option (Value × Nat) → Shared → Prop) (E : Value → Shared → Prop), Q none s → wpAny (MM w) A (setNext a sl i ep) Q E s)
    (hQ : ∀ h', (∀ b o, b ≠ I → s.heap.get? b = some o → h'.get? b = some o) → Q none { s with heap := h' }) :
    wpAny (MM w) A (pyNext (.ref I)) Q E s := by
  obtain ⟨oi, hoi, hc, hdi⟩ := id hit
  unfold pyNext
  refine wpAny_bind (wpAny_attempt (wpAny_callSpecial?_slot (name := Str.ofString "__next__") hit.typeIs slot_setiter_next
    (wpAny_call_entry slot_setiter_next hit.typeIs entry_setiter_next ?_ (args_setiter_next _))))
  unfold Builtin.«set_iterator.__next__»
  refine wpAny_bind (wpAny_pure ?_)
  refine wpAny_bind (wpAny_fieldsOf hoi hdi ?_)
  dsimp only
  refine wpAny_bind (wpAny_setEntries_of ho hd hf ?_)
  rw [hn, if_neg (by simp)]
  simp only [Int.toNat_natCast]
  refine wpAny_bind (hN _ _ _ ?_)
  dsimp only
  refine wpAny_bind (wpAny_setField hoi hdi (by simp) ?_)
  show wpAny _ _ (newExc (.type "StopIteration") [] >>= _) _ _ _
  refine wpAny_bind ?_
  simp only [newExc, newTuple]
  refine wpAny_bind (wpAny_newObj_type ?_ (by size_fits))
  refine wpAny_bind (m := firstArgMember _ _) (wpAny_of_eq (a := Value.none) (by first | rfl | (simp only [firstArgMember]; rfl)) ?_)
  refine wpAny_newObj_type ?_ (by size_fits)
  simp only [raiseNew]
  refine wpAny_bind (wpAny_handled ?_)
  rw [show A.in1.handled = none from hh]
  refine wpAny_bind (wpAny_pure (wpAny_throw ?_))
  refine wpAny_bind (wpAny_isInstance (T := "StopIteration") (b := true) ⟨_, Heap.get?_push_size _ rfl, rfl⟩ isSubtype_stop ?_)
  exact wpAny_pure (hQ _ fun b o hb e => (((Heap.SameBut.update ..).extBut.push _).push _) b o hb e)
theorem setiter_drawn_item {I a p : Addr} {i n ep : Nat} {o : Obj} {es : Array (Int × Value)} {t : SetTable} {ps : Array Value} {j : Nat} {hx : Int} {v : Value} {Q : Option Value → Shared → Prop}
    (hit : IsSetIter s.heap I (.ref p) i a n ep) (ho : s.heap.get? a = some o) (hd : o.data = .set es ep t) (hf : t.fits es.size = true) (hn : es.size = n)
    (hp : s.heap.IsTuple p ps) (hj : ps[i]? = some (.int j 0)) (hv : es[j]? = some (hx, v))
    (hQ : ∀ h', IsSetIter h' I (.ref p) (i + 1) a n ep → (∀ b o, b ≠ I → s.heap.get? b = some o → h'.get? b = some o) → Q (some v) { s with heap := h' }) :
    wpAny (MM w) A (pyNext (.ref I)) Q E s := by
  obtain ⟨oi, hoi, hc, hdi⟩ := id hit
  unfold pyNext
  refine wpAny_bind (wpAny_attempt (wpAny_callSpecial?_slot (name := Str.ofString "__next__") hit.typeIs slot_setiter_next
    (wpAny_call_entry slot_setiter_next hit.typeIs entry_setiter_next ?_ (args_setiter_next _))))
  unfold Builtin.«set_iterator.__next__»
  refine wpAny_bind (wpAny_pure ?_)
  refine wpAny_bind (wpAny_fieldsOf hoi hdi ?_)
  dsimp only
  refine wpAny_bind (wpAny_setEntries_of ho hd hf ?_)
  rw [hn, if_neg (by simp)]
  obtain ⟨op, hop, _, np, hdp⟩ := hp
  refine wpAny_bind (wpAny_seqItems hop hdp ?_)
  simp only [Int.toNat_natCast, hj]
  refine wpAny_bind ?_
  unfold setNextDrawn
  refine wpAny_bind (wpAny_setState_of ho hd hf ?_)
  dsimp only
  rw [if_neg (by simp)]
  rw [hv]
  dsimp only
  refine wpAny_pure ?_
  refine wpAny_bind (wpAny_setField hoi hdi (by simp) (wpAny_pure ⟨v, rfl, wpAny_pure (hQ _ ?_ fun b o hb e => (Heap.SameBut.update s.heap I _).extBut b o hb e)⟩))
  exact ⟨_, Heap.get?_update_self _ hoi (Obj.isFreed_of_fields (Obj.data_mapFields hdi _)), (Obj.cls_mapFields ..).trans hc, by
      rw [Obj.data_mapFields hdi]; simp [rawInt]⟩
theorem setiter_drawn_end {I a p : Addr} {i n ep : Nat} {o : Obj} {es : Array (Int × Value)} {t : SetTable} {ps : Array Value} {Q : Option Value → Shared → Prop} (hh : A.handled = none)
    (hit : IsSetIter s.heap I (.ref p) i a n ep) (ho : s.heap.get? a = some o) (hd : o.data = .set es ep t) (hf : t.fits es.size = true) (hn : es.size = n)
    (hp : s.heap.IsTuple p ps) (hj : ps[i]? = none)
    (hQ : ∀ h', (∀ b o, b ≠ I → s.heap.get? b = some o → h'.get? b = some o) → Q none { s with heap := h' }) :
    wpAny (MM w) A (pyNext (.ref I)) Q E s := by
  obtain ⟨oi, hoi, hc, hdi⟩ := id hit
  unfold pyNext
  refine wpAny_bind (wpAny_attempt (wpAny_callSpecial?_slot (name := Str.ofString "__next__") hit.typeIs slot_setiter_next
    (wpAny_call_entry slot_setiter_next hit.typeIs entry_setiter_next ?_ (args_setiter_next _))))
  unfold Builtin.«set_iterator.__next__»
  refine wpAny_bind (wpAny_pure ?_)
  refine wpAny_bind (wpAny_fieldsOf hoi hdi ?_)
  dsimp only
  refine wpAny_bind (wpAny_setEntries_of ho hd hf ?_)
  rw [hn, if_neg (by simp)]
  obtain ⟨op, hop, _, np, hdp⟩ := hp
  refine wpAny_bind (wpAny_seqItems hop hdp ?_)
  simp only [Int.toNat_natCast, hj]
  refine wpAny_bind (wpAny_setField hoi hdi (by simp) ?_)
  have hd1 : (oi.mapFields (·.setIfInBounds 0 (rawInt 0))).data = .fields #[.int 0 0, .int i 0, .ref a, .int n 0, .int ep 0] := by rw [Obj.data_mapFields hdi]; simp [rawInt]
  have ho1 : (s.heap.update I (Obj.mapFields (·.setIfInBounds 0 (rawInt 0)))).get? I = some (oi.mapFields (·.setIfInBounds 0 (rawInt 0))) := Heap.get?_update_self _ hoi (Obj.isFreed_of_fields (Obj.data_mapFields hdi _))
  refine wpAny_bind (wpAny_setField (s := { s with heap := s.heap.update I (Obj.mapFields (·.setIfInBounds 0 (rawInt 0))) }) ho1 hd1 (by simp) ?_)
  show wpAny _ _ (newExc (.type "StopIteration") [] >>= _) _ _ _
  refine wpAny_bind ?_
  simp only [newExc, newTuple]
  refine wpAny_bind (wpAny_newObj_type ?_ (by size_fits))
  refine wpAny_bind (m := firstArgMember _ _) (wpAny_of_eq (a := Value.none) (by first | rfl | (simp only [firstArgMember]; rfl)) ?_)
  refine wpAny_newObj_type ?_ (by size_fits)
  simp only [raiseNew]
  refine wpAny_bind (wpAny_handled ?_)
  rw [show A.in1.handled = none from hh]
  refine wpAny_bind (wpAny_pure (wpAny_throw ?_))
  refine wpAny_bind (wpAny_isInstance (T := "StopIteration") (b := true) ⟨_, Heap.get?_push_size _ rfl, rfl⟩ isSubtype_stop ?_)
  exact wpAny_pure (hQ _ fun b o hb e => ((((Heap.SameBut.update s.heap I _).extBut.trans (Heap.SameBut.update _ I _).extBut).push _).push _) b o hb e)
end
end SetC
section SetD
section
variable {w : World} {A : Around} {E : Value → Shared → Prop} {s : Shared}
theorem rules_SetD_1 : True := by
  k_with_none
  k_with "exec If" => (refine wpAny_If ?_)
  trivial
theorem setNext_text {a : Addr} {o : Obj} {es : Array (Int × Value)} {ep : Nat} {t : SetTable} {sl i : Nat} (hbt : w.params.followText "set-order" = true)
    (hd : o.data = .set es ep t) (hf : t.fits es.size = true) (s : Shared) (ho : s.heap.get? a = some o) {A : Around} {Q : Option (Value × Nat) → Shared → Prop} {E : Value → Shared → Prop}
    (h : Q (((pickOrder (w.params.setOrder a ep) es)[i]?).map fun e => (e.2, sl)) s) : wpAny (MM w) A (setNext a sl i ep) Q E s := by
  unfold setNext
  refine wpAny_bind (wpAny_setState_of ho hd hf ?_)
  dsimp only
  unfold setsByText
  refine wpAny_bind (wpAny_bind (wpAny_askSetting (wpAny_pure ?_)))
  have hbt' : (MM w).w.params.followText "set-order" = true := hbt
  rw [if_pos hbt', if_neg (by simp)]
  refine wpAny_bind ?_
  unfold setWalk
  refine wpAny_bind (wpAny_setState_of ho hd hf ?_)
  dsimp only
  unfold setsByText
  refine wpAny_bind (wpAny_bind (wpAny_askSetting (wpAny_pure ?_)))
  rw [if_pos hbt']
  refine wpAny_bind (wpAny_askSetting (wpAny_pure ?_))
  exact wpAny_pure h
theorem below_one (p j : Nat) : SetTable.below #[p] j = if p < j then 1 else 0 := by
  unfold SetTable.below SetTable.below.go SetTable.below.go
  simp
theorem setNext_place {a : Addr} {o : Obj} {es : Array (Int × Value)} {ep : Nat} {t : SetTable} {sl i : Nat} (hbt : w.params.followText "set-order" = false) (hl : t.led = true) (h1 : es.size ≤ 1)
    (hd : o.data = .set es ep t) (hf : t.fits es.size = true) (s : Shared) (ho : s.heap.get? a = some o) {A : Around} {Q : Option (Value × Nat) → Shared → Prop} {E : Value → Shared → Prop}
    (h : Q (match es[SetTable.below t.place sl]?, t.place[SetTable.below t.place sl]? with | some (_, x), some j => some (x, j + 1) | _, _ => none) s) : wpAny (MM w) A (setNext a sl i ep) Q E s := by
  unfold setNext
  refine wpAny_bind (wpAny_setState_of ho hd hf ?_)
  dsimp only
  unfold setsByText
  refine wpAny_bind (wpAny_bind (wpAny_askSetting (wpAny_pure ?_)))
  have hbt' : (MM w).w.params.followText "set-order" = false := hbt
  rw [hbt', if_neg (by simp)]
  have hs : (!t.plain && decide (es.size > 1)) = false := by simp; intro _; exact h1
  show wpAny _ _ (if (!t.plain && decide (es.size > 1)) = true then _ else _) _ _ _
  rw [hs, if_neg (by simp)]
  refine wpAny_bind ?_
  show wpAny _ _ (if (!t.led && !es.isEmpty) = true then unsupported _ else pure ()) _ _ _
  rw [hl, if_neg (by simp)]
  exact wpAny_pure (wpAny_pure h)
/-- the shape of a walk over a set -/
noncomputable def SetSt (a I : Addr) (o : Obj) (first : Nat → Value) (n ep : Nat) (Ex : Heap → Prop) (i : Nat) (h : Heap) : Prop := h.get? a = some o ∧ IsSetIter h I (first i) i a n ep ∧ Ex h
noncomputable abbrev SetP (ord : List Str) (i : Nat) (v : Value) : Prop := ∃ x t, v = .str x t ∧ ord[i]? = some x
theorem slot_setiter_iter : Slot "set_iterator" "__iter__" "set_iterator.__iter__" :=
  .of (owner := "set_iterator") (n := "__iter__") (by rw [typeLookup_type, builtinLookup_eq_fast]; kernel_rfl) (by decide +kernel) (by decide +kernel) (by decide +kernel)
    (by first | exact .inl (by decide +kernel) | exact .inr (by decide +kernel)) (by rw [isSubtype_type]; kernel_rfl)
theorem entry_setiter_iter : entryFor table "set_iterator.__iter__" = some Builtin.«dict_keyiterator.__iter__» :=
  entryFor_alias (id' := "dict_keyiterator.__iter__") (by kernel_rfl) rfl (by decide +kernel) (by kernel_rfl)
theorem args_setiter_iter (a : Value) : argsOk "set_iterator.__iter__" ⟨[a], []⟩ := by unfold argsOk; kernel_rfl
theorem pyIter_setiter {I a : Addr} {f : Value} {i n ep : Nat} {Q : Value → Shared → Prop} (hit : IsSetIter s.heap I f i a n ep) (h : Q (.ref I) s) : wpAny (MM w) A (pyIter (.ref I)) Q E s := by
  refine wpAny_pyIter_slot hit.typeIs slot_setiter_iter (wpAny_call_entry slot_setiter_iter hit.typeIs entry_setiter_iter ?_ (args_setiter_iter _))
  show wpAny _ _ (ret (.ref I)) _ _ s
  exact wpAny_pure ⟨_, rfl, "set_iterator", _, hit.typeIs, slot_setiter_next.lookup, h⟩
theorem walks_of_set {a I p : Addr} {o : Obj} {first : Nat → Value} {n ep : Nat} {Ex : Heap → Prop} {ord : List Str} (hne : a ≠ I) (hpI : p = a ∨ p ≠ I)
    (hEx : ∀ h h', Ex h → (∀ o, h.get? p = some o → h'.get? p = some o) → Ex h')
    (item : ∀ i (s : Shared) (Q : Option Value → Shared → Prop) (E : Value → Shared → Prop), i < n → SetSt a I o first n ep Ex i s.heap →
      (∀ v h', SetP ord i v → IsSetIter h' I (first (i + 1)) (i + 1) a n ep → (∀ b o, b ≠ I → s.heap.get? b = some o → h'.get? b = some o) → Q (some v) { s with heap := h' }) → wpAny (MM w) A (pyNext (.ref I)) Q E s)
    (fin : ∀ (s : Shared) (Q : Option Value → Shared → Prop) (E : Value → Shared → Prop), SetSt a I o first n ep Ex n s.heap →
      (∀ h', (∀ b o, b ≠ I → s.heap.get? b = some o → h'.get? b = some o) → Q none { s with heap := h' }) → wpAny (MM w) A (pyNext (.ref I)) Q E s) :
    Walks PG w A I [I, a, p] [I] n (SetP ord) (SetSt a I o first n ep Ex) where
  sub := fun b hb => by simp at hb; simp [hb]
  frame := fun i h h' st k => ⟨k a (by simp) _ st.1, st.2.1.keep fun o e => k I (by simp) o e, hEx _ _ st.2.2 fun o e => k p (by simp) o e⟩
  item := fun i s Q E hi st hQ => by
    refine item i s Q E hi st fun v h' hP hI hk => ?_
    refine hQ v h' s.toks hP ⟨hk _ _ hne st.1, hI, ?_⟩ fun b o hb e => hk b o (fun q => hb (by simp [q])) e
    refine hEx _ _ st.2.2 fun o' e => ?_
    rcases hpI with rfl | hpI
    · exact hk _ _ hne e
    · exact hk _ _ hpI e
  done := fun s Q E st hQ => fin s Q E st fun h' hk => hQ h' s.toks fun b o hb e => hk b o (fun q => hb (by simp [q])) e
  self := fun i s Q E st hQ => pyIter_setiter st.2.1 hQ
theorem iter_set {a : Addr} {o : Obj} {ys : List Str} {Q : Value → Shared → Prop} (hh : A.handled = none) (ho : s.heap.get? a = some o) (hS : StrSet w (setLed w) o ys) (hb : ys.length < scanBound)
    (h : ∀ (I p : Addr) (h₁ : Heap) (d : Drawn) (ord : List Str) (St : Nat → Heap → Prop), ord.Perm ys → Walks PG w A I [I, a, p] [I] ord.length (SetP ord) St → St 0 h₁ →
      (∃ it, h₁.get? I = some it ∧ it.cls = .type "set_iterator") → s.heap.objs.size ≤ I → (p = a ∨ s.heap.objs.size ≤ p) → (∀ b o, s.heap.get? b = some o → h₁.get? b = some o) → Q (.ref I) { s with heap := h₁, drawn := d }) :
    wpAny (MM w) A (pyIter (.ref a)) Q E s := by
  obtain ⟨es, ep, t, rfl, hel, hst, hf, hled, hpl⟩ := hS.ex
  have hn : es.size = ys.length := by rw [← StrsAre.len_eq hst, List.length_map, Array.length_toList]
  have hT : s.TypeIs (.ref a) "set" := ⟨_, ho, rfl⟩
  have hlt : a < s.heap.objs.size := Heap.lt_size ho
  refine wpAny_pyIter_slot hT F.slot_set_iter (wpAny_call_entry F.slot_set_iter hT entry_set_iter ?_ (F.args_set_iter_1 _))
  unfold Builtin.«frozenset.__iter__»
  refine wpAny_bind ?_
  show wpAny _ _ (pure a) _ _ _
  refine wpAny_pure ?_
  refine wpAny_bind ?_
  unfold Builtin.Frozenset.sizeOf
  refine wpAny_bind (wpAny_setEntries_of ho rfl hf (wpAny_pure ?_))
  refine wpAny_bind ?_
  unfold setDrawn
  refine wpAny_bind (wpAny_setState_of ho rfl hf ?_)
  dsimp only
  unfold setsByText
  refine wpAny_bind (wpAny_bind (wpAny_askSetting (wpAny_pure ?_)))
  show wpAny _ _ (pure (!w.params.followText "set-order" && (!t.plain && decide (es.size > 1)))) _ _ _
  refine wpAny_pure ?_
  have slotMode : ∀ (sl : Nat → Nat) (ord : List Str), sl 0 = 0 → ord.Perm ys →
      (∀ i, i < es.size → ∃ y tk, ord[i]? = some y ∧ ∀ (s : Shared), s.heap.get? a = some { cls := .type "set", data := .set es ep t } → ∀ (A : Around) (Q : Option (Value × Nat) → Shared → Prop) (E : Value → Shared → Prop), Q (some (.str y tk, sl (i + 1))) s → wpAny (MM w) A (setNext a (sl i) i ep) Q E s) →
      (∀ (s : Shared), s.heap.get? a = some { cls := .type "set", data := .set es ep t } → ∀ (A : Around) (Q : Option (Value × Nat) → Shared → Prop) (E : Value → Shared → Prop), Q none s → wpAny (MM w) A (setNext a (sl es.size) es.size ep) Q E s) →
      wpAny (MM w) A.in1 (do
            let e ← setEpoch a
            let r ← newFields "set_iterator" [rawInt 0, rawInt 0, Value.ref a, rawInt ↑es.size, rawInt ↑e]
            ret r) (fun fin s' => ∃ v, fin = Fin.done (Flow.ret v) ∧ ∃ T' r, s'.TypeIs v T' ∧ typeLookup (Value.type T') (Str.ofString "__next__") = pure (some r) ∧ Q v s') E s := by
    intro sl ord h0 hp hi he
    have hol : ord.length = es.size := by rw [hp.length_eq, hn]
    refine wpAny_bind (wpAny_setEpoch_of ho rfl hf ?_)
    refine wpAny_bind (wpAny_newObj_type (wpAny_pure ⟨_, rfl, "set_iterator", _, ⟨_, Heap.get?_push_size _ rfl, rfl⟩, slot_setiter_next.lookup, ?_⟩))
    refine h s.heap.objs.size a _ s.drawn ord _ hp (hol.symm ▸ walks_of_set (o := { cls := .type "set", data := .set es ep t }) (first := fun i => .int (sl i) 0) (n := es.size) (ep := ep) (Ex := fun _ => True) (Nat.ne_of_lt hlt) (.inl rfl) (fun _ _ _ _ => trivial) (fun i s Q E hlt st hQ => ?_) (fun s Q E st hQ => ?_)) ⟨Heap.get?_push_of_some _ ho, ⟨_, Heap.get?_push_size _ rfl, rfl, ?_⟩, trivial⟩ ⟨_, Heap.get?_push_size _ rfl, rfl⟩ (Nat.le_refl _) (.inl rfl) (fun b o e => Heap.get?_push_of_some _ e)
    · obtain ⟨y, tk, hy, hs⟩ := hi i hlt
      exact setiter_slot_item st.2.1 st.1 rfl hf rfl (hs s st.1) fun h' hI hk => hQ _ h' ⟨y, tk, rfl, hy⟩ hI hk
    · exact setiter_slot_end hh st.2.1 st.1 rfl hf rfl (he s st.1) hQ
    · simp [rawInt, h0, hol]
  have getStr : ∀ (vs : List Value) (xs : List Str), StrsAre vs xs → ∀ i (v : Value), vs[i]? = some v → ∃ y tk, xs[i]? = some y ∧ v = .str y tk := fun vs xs hx i v hv => by
    obtain ⟨y, tk, e, q⟩ := StrsAre.item hx i v hv
    exact ⟨y, tk, q, e⟩
  cases hbt : w.params.followText "set-order" with
  | true =>
    have hp := pickOrder_perm (w.params.setOrder a ep) es
    obtain ⟨ord, hord, hop⟩ := strs_perm hst (hp.map (·.2))
    have hsz : (pickOrder (w.params.setOrder a ep) es).size = es.size := by rw [← Array.length_toList, hp.length_eq, Array.length_toList]
    refine slotMode (fun _ => 0) ord rfl hop (fun i hi => ?_) fun s' ho' A' Q' E' q => ?_
    · have hi' : i < (pickOrder (w.params.setOrder a ep) es).size := by rw [hsz]; exact hi
      obtain ⟨y, tk, hy, hv⟩ := getStr _ _ hord i _ (by rw [List.getElem?_map, Array.getElem?_toList, Array.getElem?_eq_getElem hi']; rfl)
      refine ⟨y, tk, hy, fun s' ho' A' Q' E' q => setNext_text hbt rfl hf s' ho' ?_⟩
      rw [Array.getElem?_eq_getElem hi']
      dsimp only at hv
      show Q' (some (_, 0)) s'
      rw [hv]; exact q
    · refine setNext_text hbt rfl hf s' ho' ?_
      rw [Array.getElem?_eq_none (by rw [hsz]; exact Nat.le_refl _)]; exact q
  | false =>
    by_cases h1 : es.size ≤ 1
    · have hnd : (!false && (!t.plain && decide (es.size > 1))) = false := by simp; intro _; exact h1
      rw [hnd]
      have hled' : t.led = true := by rw [hled]; simp [setLed, hbt]
      have hpl' : t.place.size = es.size := by
        simp only [SetTable.fits, Bool.and_eq_true, beq_iff_eq, decide_eq_true_eq] at hf; exact hf.1
      refine slotMode (fun i => if i = 0 then 0 else t.place.getD 0 0 + 1) ys rfl (List.Perm.refl _) (fun i hi => ?_) fun s' ho' A' Q' E' q => ?_
      · have hi0 : i = 0 := by omega
        subst hi0
        obtain ⟨y, tk, hy, hv⟩ := getStr _ _ hst 0 _ (by rw [List.getElem?_map, Array.getElem?_toList, Array.getElem?_eq_getElem hi]; rfl)
        refine ⟨y, tk, hy, fun s' ho' A' Q' E' q => setNext_place hbt hled' h1 rfl hf s' ho' ?_⟩
        obtain ⟨⟨pl⟩, rest⟩ : ∃ pl, pl = t.place := ⟨t.place, rfl⟩
        match pl, rest with
        | [p0], rest =>
          rw [← rest] at q ⊢
          have hb : SetTable.below #[p0] 0 = 0 := by rw [below_one]; simp
          simp only [↓reduceIte, hb, Array.getElem?_eq_getElem hi]
          simp at q
          dsimp only at hv
          show Q' (some (es[0].2, p0 + 1)) s'
          rw [hv]
          exact q
        | [], rest => rw [← rest] at hpl'; simp at hpl'; omega
        | _ :: _ :: _, rest => rw [← rest] at hpl'; simp at hpl'; omega
      · refine setNext_place hbt hled' h1 rfl hf s' ho' ?_
        by_cases h0 : es.size = 0
        · have : es = #[] := Array.eq_empty_of_size_eq_zero h0
          subst this
          simpa using q
        · have h11 : es.size = 1 := by omega
          obtain ⟨⟨pl⟩, rest⟩ : ∃ pl, pl = t.place := ⟨t.place, rfl⟩
          match pl, rest with
          | [p0], rest =>
            rw [← rest]
            have hb : SetTable.below #[p0] (p0 + 1) = 1 := by rw [below_one]; simp
            simp [h11, hb]
            exact q
          | [], rest => rw [← rest] at hpl'; simp at hpl'; omega
          | _ :: _ :: _, rest => rw [← rest] at hpl'; simp at hpl'; omega
    · have hpf : t.plain = false := hpl (by intro e; rw [e] at hn; exact h1 (by rw [hn]; exact Nat.zero_le 1))
      have hd : (!false && (!t.plain && decide (es.size > 1))) = true := by rw [hpf, (decide_eq_true (Nat.lt_of_not_le h1) : decide (es.size > 1) = true)]; rfl
      rw [hd]
      refine wpAny_bind (wpAny_drawOrder _ _ (by simp) fun pl d hperm => ?_)
      have hpl2 : pl.length = es.size := by rw [hperm.length_eq, List.length_range]
      refine wpAny_bind (wpAny_newObj_type ?_ (by show _ ≤ _; simpa [hpl2, hn] using fits_of_scanBound hb))
      have hg1 : (s.heap.push { cls := .type "tuple", data := .seq (pl.map fun (i : Nat) => rawInt i).toArray }).get? a = some { cls := .type "set", data := .set es ep t } := Heap.get?_push_of_some _ ho
      refine wpAny_bind (wpAny_setEpoch_of (s := { s with heap := s.heap.push { cls := .type "tuple", data := .seq (pl.map fun (i : Nat) => rawInt i).toArray }, drawn := d }) hg1 rfl hf ?_)
      refine wpAny_bind (wpAny_newObj_type (wpAny_pure ⟨_, rfl, "set_iterator", _, ⟨_, Heap.get?_push_size _ rfl, rfl⟩, slot_setiter_next.lookup, ?_⟩))
      have hsz1 : (s.heap.push { cls := .type "tuple", data := .seq (pl.map fun (i : Nat) => rawInt i).toArray }).objs.size = s.heap.objs.size + 1 := Heap.size_push ..
      have hp0 : ((List.range es.size).map fun j => ys.getD j default) = ys := by
        rw [hn]
        refine List.ext_getElem (by simp) fun i h1 h2 => ?_
        simp [List.getElem?_eq_getElem h2]
      have hord : (pl.map fun j => ys.getD j default).Perm ys := by
        have := hperm.map (fun j => ys.getD j default)
        rwa [hp0] at this
      have hol : (pl.map fun j => ys.getD j default).length = es.size := by rw [List.length_map, hpl2]
      refine h _ s.heap.objs.size _ d (pl.map fun j => ys.getD j default) _ hord (hol.symm ▸ walks_of_set (o := { cls := .type "set", data := .set es ep t }) (first := fun i => .ref s.heap.objs.size) (n := es.size) (ep := ep)
        (Ex := fun h => h.IsTuple s.heap.objs.size (pl.map fun (i : Nat) => rawInt i).toArray) (by rw [hsz1]; exact Nat.ne_of_lt (Nat.lt_succ_of_lt hlt)) (.inr (by rw [hsz1]; exact Nat.ne_of_lt (Nat.lt_succ_self _))) (fun _ _ q k => let ⟨o', ho', r⟩ := q; ⟨o', k _ ho', r⟩) (fun i s Q E hlt st hQ => ?_) (fun s Q E st hQ => ?_))
        ⟨Heap.get?_push_of_some _ hg1, ⟨_, Heap.get?_push_size _ rfl, rfl, ?_⟩, ⟨_, Heap.get?_push_of_some _ (Heap.get?_push_size _ rfl), rfl, _, rfl⟩⟩ ⟨_, Heap.get?_push_size _ rfl, rfl⟩ (by rw [hsz1]; exact Nat.le_succ _) (.inr (Nat.le_refl _)) (fun b o e => Heap.get?_push_of_some _ (Heap.get?_push_of_some _ e))
      · have hi : i < pl.length := by rw [hpl2]; exact hlt
        have hj : pl[i] < es.size := by
          have := hperm.mem_iff.mp (List.getElem_mem hi)
          simpa using this
        obtain ⟨y, tk, hy, hv⟩ := getStr _ _ hst pl[i] _ (by rw [List.getElem?_map, Array.getElem?_toList, Array.getElem?_eq_getElem hj]; rfl)
        dsimp only at hv
        refine setiter_drawn_item st.2.1 st.1 rfl hf rfl st.2.2 (j := pl[i]) (hx := es[pl[i]].1) (v := es[pl[i]].2) (by simp [hi, rawInt]) (by rw [Array.getElem?_eq_getElem hj]) fun h' hI hk => hQ _ h' ⟨y, tk, hv, ?_⟩ hI hk
        rw [List.getElem?_map, List.getElem?_eq_getElem hi]
        simp [hy]
      · exact setiter_drawn_end hh st.2.1 st.1 rfl hf rfl st.2.2 (by simp [hpl2]) hQ
      · simp [rawInt, hpl2]
end
end SetD
section SetE
theorem rules_SetE_1 : True := by
  k_with_none
  k_with "exec If" => (refine wpAny_If ?_)
  trivial
/-- what a turn over a set leaves -/
noncomputable def SetEnd (h₀ : Heap) (L : Addr) (ns : List (Addr × Obj)) (Γ : (Str → Option Value) → Prop) (no : Prop) (Qr : Value → Shared → Prop) (s₁ : Shared) (fl : Flow) (s₂ : Shared) : Prop :=
  match fl with
  | .ret v => Qr v s₂
  | .next => no ∧ ∃ h' tk m', s₂ = { s₁ with heap := h', toks := tk } ∧ Fr h₀ L h' m' ∧ News h₀ L h' ns ∧ Γ m'
  | _ => False
section
variable {w : World} {A : Around} {E : Value → Shared → Prop} {s : Shared} {h₀ : Heap} {m : Str → Option Value} {news : List (Addr × Obj)}
theorem set_loop {env : Env} {x : Str} {body : List Stmt} {Q : Flow → Shared → Prop} {st : Addr} {so : Obj} {ys : List Str} (Γ : (Str → Option Value) → Prop) (no : Str → Prop) (hh : A.handled = none)
    (F : Fr h₀ env.locals s.heap m) (N : News h₀ env.locals s.heap news) (hm : (st, so) ∈ news) (hS : StrSet w (setLed w) so ys) (hb : ys.length < scanBound) (hΓ : Γ m) (hx : ∀ m₁ v, Γ m₁ → Γ (fun y => if y = x then some v else m₁ y))
    (turn : ∀ y t m₁ d h tk own, y ∈ ys → Γ m₁ → m₁ x = some (.str y t) → Fr h₀ env.locals h m₁ → News h₀ env.locals h (own ++ news) →
      wpAny (MM w) A (execs body env) (SetEnd h₀ env.locals (own ++ news) Γ (no y) (fun v s' => Q (.ret v) s') { s with heap := h, drawn := d, toks := tk }) E { s with heap := h, drawn := d, toks := tk })
    (done : ∀ m₁ d h tk, Γ m₁ → (∀ y ∈ ys, no y) → Fr h₀ env.locals h m₁ → News h₀ env.locals h news → Q .next { s with heap := h, drawn := d, toks := tk }) :
    wpAny (MM w) A (pyIter (.ref st)) (fun it s₂ => LoopAtV PG w A h₀ env x body Q E it s₂) E s := by
  have hst := N _ hm
  have hLs : env.locals < s.heap.objs.size := F.ns.lt
  refine iter_set hh hst.1 hS hb fun I p h₁ d ord St hperm W st0 _ hI hp hk => ?_
  have hnew : ∀ b, s.heap.objs.size ≤ b → h₀.get? b = none := fun b hb => by
    cases q : h₀.get? b with
    | none => rfl
    | some o => exact absurd (Heap.lt_size (F.keep b o q)) (Nat.not_lt.mpr hb)
  have hnI : ∀ q ∈ news, q.1 ∉ [I] := fun q hq h => by
    rw [List.mem_singleton] at h
    have := Heap.lt_size (N q hq).1
    rw [h] at this
    exact absurd this (Nat.not_lt.mpr hI)
  refine ⟨I, [I, st, p], [I], ord.length, SetP ord, St, m, news, fun i m₁ nw => nw = news ∧ Γ m₁ ∧ ∀ j y, j < i → ord[j]? = some y → no y, rfl, W, ?_, ?_, hnI, st0, fr_keep F hk, news_keep N hk, ⟨rfl, hΓ, fun j y h => absurd h (Nat.not_lt_zero j)⟩, ?_, ?_⟩
  · intro h
    simp only [List.mem_cons, List.not_mem_nil, or_false] at h
    rcases h with h | h | h
    · rw [h] at hLs; exact absurd hLs (Nat.not_lt.mpr hI)
    · exact hst.2.1 h.symm
    · rcases hp with hp | hp
      · exact hst.2.1 (h.trans hp).symm
      · rw [h] at hLs; exact absurd hLs (Nat.not_lt.mpr hp)
  · intro b hb
    rw [List.mem_singleton.mp hb]; exact hnew _ hI
  · rintro i v m₁ news₁ s₁ own ⟨h, tk, rfl⟩ hin ⟨y, t, rfl, hy⟩ ⟨rfl, hg, hno⟩ _ _ _ _ _ F₁ N₁
    have hym : y ∈ ys := hperm.mem_iff.mp (List.mem_of_getElem? hy)
    refine wpAny_mono (turn y t _ d h tk own hym (hx _ _ hg) (by simp) F₁ N₁) (fun fl s₂ q => ?_) fun _ _ e => e
    cases fl with
    | ret v => exact .ret q
    | next =>
      obtain ⟨hn, h', tk', m', rfl, F', N', hg'⟩ := q
      refine .next ⟨rfl, h', tk', m', _, rfl, F', N', hnI, rfl, hg', fun j z hj hz => ?_⟩
      rcases Nat.lt_succ_iff_lt_or_eq.mp hj with hj | rfl
      · exact hno j z hj hz
      · rw [hy] at hz; cases hz; exact hn
    | brk => exact q.elim
    | cont => exact q.elim
  · rintro h' tk m' news' F' N' _ ⟨rfl, hg, hno⟩
    refine done m' d h' tk hg (fun y hy => ?_) F' N'
    obtain ⟨j, hj⟩ := List.mem_iff_getElem?.mp (hperm.mem_iff.mpr hy)
    refine hno j y ?_ hj
    exact (List.getElem?_eq_some_iff.mp hj).1
end
end SetE
section Ign
section
variable {prog : Program} {w : World} {A : Around} {E : Value → Shared → Prop} {s : Shared} {base h₀ : Heap} {fs : List Env} {K : Frag} {mg mb : Str → Option Value} {p : Program} {loose : List Str} {mean : ExcName → Option Value}
  {R : Result → Shared → Prop} {name qual : Str} {params : Arguments} {body : List Stmt} {scope : Scope} {dV kV doc pm cdv ct oc : Value} {an od : Option Addr} {osl : Array (Option Value)} {f : Addr} {args : Args} {binds : List (Str × Value)} {news : List (Addr × Obj)}
theorem rules_Ign_1 : True := by
  k_with_none
  k_with "exec If" => (refine wpAny_If ?_)
  trivial
/-- a def is entered; what the caller has made since h₀ lies in the ledger -/
theorem enterN (k : ∀ b o, h₀.get? b = some o → s.heap.get? b = some o) (hsz : h₀.objs.size ≤ s.heap.objs.size) (hN : ∀ q ∈ news, s.heap.get? q.1 = some q.2 ∧ h₀.get? q.1 = none) (X : K.In h₀) (T : Top p loose mean mg mb h₀)
    (ho : K.lookup f = some ⟨oc, od, .func (fnOf name qual params body scope dV kV doc pm an cdv ct), osl⟩) (hcd : codeIn K cdv qual = true) (hroom : A.depth < recursionLimit)
    (hbind : BindsTo s (fnOf name qual params body scope dV kV doc pm an cdv ct) args binds) (hloc : ∀ y ∈ binds, scope.names.lookup y.1 = some .local)
    (h : ∀ L' h₁, Fr h₀ L' h₁ (fun y => binds.reverse.lookup y) → News h₀ L' h₁ news →
      wpAny (model prog w) (A.deeper (envOf qual scope L' f cdv)) (execs body (envOf qual scope L' f cdv))
        (fun fl s' => R (.ok (.ret (match fl with | .ret v => v | _ => .none))) s')
        (fun e s' => wpAny (model prog w) (A.deeper (envOf qual scope L' f cdv)) (leaving (envOf qual scope L' f cdv) e) (fun _ s'' => R (.error e) s'') (fun e' s'' => R (.error e') s'') s')
        { s with heap := h₁, toks := s.toks + binds.length })
    (hco : scope.isCoroutine = false) (hgen : scope.isGenerator = false) (hk : scope.kind = .function)
    (hcell : ∀ x ∈ scope.names, x.2 ≠ .cell) : codeAny (model prog w) A (.call (.ref f) args) R s := by
  have X' : K.In s.heap := X.keeps k
  refine codeAny_call_def (fd := fnOf name qual params body scope dV kV doc pm an cdv ct) (body := body) (binds := binds) hroom (X' _ _ ho) rfl (T.nolimit.keeps k) (codeRec_of X' hcd) rfl hbind hcell hloc (fun h₁ hns hk₁ => ?_) hco hgen hk
  exact h s.heap.objs.size h₁ ⟨hns, fun b o e => hk₁ b o (k b o e), hsz⟩ fun q hq => ⟨hk₁ _ _ (hN q hq).1, Nat.ne_of_lt (Heap.lt_size (hN q hq).1), (hN q hq).2⟩
end
section
set_option pp.maxSteps 3000
theorem set_N {w : World} {A : Around} {E : Value → Shared → Prop} {s : Shared} {h₀ : Heap} {L l : Addr} {m : Str → Option Value} {news : List (Addr × Obj)} {vs : List Value} {xs : List Str} {Q : Value → Shared → Prop}
    (F : Fr h₀ L s.heap m) (N : News h₀ L s.heap news) (hh : A.handled = none) (hl : s.heap.IsList l vs.toArray) (hi : StrsAre vs xs) (hb : vs.length + 1 < scanBound)
    (h : ∀ D so ys h' tk, Fr h₀ L h' m → News h₀ L h' ((D, so) :: news) → (∀ p ∈ news, p.1 < D) → StrSet w (setLed w) so ys → ys.length ≤ vs.length → (∀ y, y ∈ ys ↔ y ∈ xs) → Q (.ref D) { s with heap := h', toks := tk }) :
    wpAny (model PG w) A (call (.type "set") [.ref l]) Q E s := by
  refine call_set_strs (items := vs.toArray) (xs := xs) hh hl (by simpa using hi) (by simpa using hb) fun h' tk ⟨so, ys, hg, hS, hlen, hm⟩ hk => ?_
  have k : ∀ b o, s.heap.get? b = some o → h'.get? b = some o := fun b o e => hk b o (Heap.lt_size e) e
  have hn : s.heap.get? s.heap.objs.size = none := by
    cases q : s.heap.get? s.heap.objs.size with
    | none => rfl
    | some o => exact absurd (Heap.lt_size q) (Nat.lt_irrefl _)
  exact h _ so ys h' tk (fr_keep F k) (news_more F N k hn hg) (fun p hp => Heap.lt_size (N p hp).1) hS (by simpa using hlen) hm
theorem rules_Ign_2 : True := by
  k_with_none
  k_with "exec If" => (refine wpAny_If ?_)
  k_with "truthy ref" => ((k_here; (with_reducible rename ∀ h', _ → Heap.IsList h' _ _ => hl'); (with_reducible rename Fr _ _ _ _ => F9); (with_reducible rename (!Array.isEmpty _) = true => htr); refine' wpAny_truthy_list (hl' _ F9.keep) (by simp; omega) ?_; rw [htr]))
  k_with "call type:set" => ((k_here; (with_reducible rename ∀ h', _ → Heap.IsList h' _ _ => hl'); (with_reducible rename Fr _ _ _ _ => F9); (with_reducible rename StrsAre _ _ => hi9); refine' set_N F9 (by k_asm) rfl (hl' _ F9.keep) hi9 (by unfold scanBound; omega) ?_; intro D so ys h' tk FS NS lD hSS hlen hmem; (try k_lt lD); (try dsimp only)))
  trivial
noncomputable abbrev igDict (w : World) (st ds ig : Addr) (t1 t2 t3 : Tok) (ep : Nat) : Obj := dictOf [{ hash := PyData.keyHash w.params (Str.ofString "_mods"), key := .str (Str.ofString "_mods") t1, val := .ref st },
  { hash := PyData.keyHash w.params (Str.ofString "_dirs"), key := .str (Str.ofString "_dirs") t2, val := .ref ds }, { hash := PyData.keyHash w.params (Str.ofString "_ignore"), key := .str (Str.ofString "_ignore") t3, val := .ref ig }] ep
/-- what an _Ignore has told so far: f of it, and of nothing else -/
noncomputable def IgTold (w : World) (f : Str → Int) (n : Nat) (as : List Str) (oi : Obj) : Prop := ∃ kvs : List (Str × Value), oi.IsDictOf (PySem.strKind PG w) kvs ∧ kvs.length ≤ n ∧ (∀ k v, (k, v) ∈ kvs → ∃ t, v = .int (f k) t) ∧ ∀ k ∈ as, ∃ v, (k, v) ∈ kvs
structure IgnAt (w : World) (f : Str → Int) (n : Nat) (as ms : List Str) (x dx st ds ig : Addr) (h : Heap) : Prop where
  ix : h.get? x = some (instObj 117 dx)
  id : ∃ t1 t2 t3, h.get? dx = some (igDict w st ds ig t1 t2 t3 3)
  is : ∃ so ys, h.get? st = some so ∧ StrSet w (setLed w) so ys ∧ ys.length ≤ 1000 ∧ ∀ y, y ∈ ys ↔ y ∈ ms
  il : h.get? ds = some (W.listOf #[] 0)
  ii : ∃ oi, h.get? ig = some oi ∧ IgTold w f n as oi
  lo : (ig == sysModules) = false
  lt : dx < x ∧ x < st ∧ st < ds ∧ ds < ig
theorem ign_any {w : World} {A : Around} {s : Shared} {Q E : Value → Shared → Prop} (R : Rdy w 600 A s.heap) (l : Addr) (vs : List Value) (xs : List Str) (hl : s.heap.IsList l vs.toArray) (hi : StrsAre vs xs) (h1 : 1 ≤ xs.length) (h2 : xs.length ≤ 1000)
    (f : Str → Int) (hf : f (Str.ofString "<string>") = 1)
    (pos : List Value) (kw : List (Str × Value)) (hargs : pos = [.ref l] ∧ kw = [] ∨ pos = [] ∧ kw = [(Str.ofString "modules", .ref l)])
    (hret : ∀ x dx st ds ig h' tk', (∀ b o, s.heap.get? b = some o → h'.get? b = some o) → (∀ a ∈ [x, dx, st, ds, ig], s.heap.get? a = none) → IgnAt w f 1 [] xs x dx st ds ig h' → Q (.ref x) { s with heap := h', toks := tk' }) :
    wpAny (MM w) A (call (.ref 117) pos kw) Q E s := by
  refine R.go ?_
  intro gd base fs p loose mean mg mb B X T
  dsimp only [MM]; revert X; k_fill; intro X
  obtain ⟨hp0, g0, d0, t0, os0⟩ := s
  dsimp only at *
  refine wpAny_call (make_core (init := .ref 107) (makes_of X (by kernel_rfl)) (looks_findIn X (by kernel_rfl)) (fun self => bind_fn X self (by kernel_rfl)) (.inl rfl) ?_)
  (with_reducible refine codeAny_mono (R := InitBack (hp0.objs.size + 1) _) ?_ fun r s' z => z)
  show codeAny _ (Around.mk none 601 (some fs) gd 601) _ _ _
  generalize hs1 : (hp0.push emptyDict).push (instObj 117 hp0.objs.size) = hp1
  have hk1 : ∀ b o, hp0.get? b = some o → hp1.get? b = some o := fun b o e => hs1 ▸ Heap.get?_push_of_some _ (Heap.get?_push_of_some _ e)
  have hsz1 : hp1.objs.size = hp0.objs.size + 2 := by rw [← hs1, Heap.size_push, Heap.size_push]
  have hgx : hp1.get? (hp0.objs.size + 1) = some (instObj 117 hp0.objs.size) := by rw [← hs1]; heap_get
  have hgd : hp1.get? hp0.objs.size = some (dictOf [] 0) := by rw [← hs1]; heap_get
  have hnn : ∀ b, hp0.objs.size ≤ b → hp0.get? b = none := fun b hb => by
    cases q : hp0.get? b with
    | none => rfl
    | some o => exact absurd (Heap.lt_size q) (Nat.not_lt.mpr hb)
  have hN : ∀ q ∈ [(hp0.objs.size + 1, instObj 117 hp0.objs.size), (hp0.objs.size, dictOf [] 0)], hp1.get? q.1 = some q.2 ∧ hp0.get? q.1 = none := fun q hq => by
    rcases List.mem_cons.mp hq with rfl | hq
    · exact ⟨hgx, hnn _ (Nat.le_succ _)⟩
    · rw [List.mem_singleton.mp hq]; exact ⟨hgd, hnn _ (Nat.le_refl _)⟩
  clear hs1 hgx hgd
  have hdx : hp0.objs.size < hp0.objs.size + 1 := Nat.lt_succ_self _
  generalize hp0.objs.size + 1 = xI at hN hdx ⊢
  generalize hp0.objs.size = dI at hN hdx ⊢
  refine' enterN (binds := [("self", .ref xI), ("modules", .ref l), ("dirs", .none)]) hk1 (Nat.le_trans (Nat.le_add_right _ 2) (Nat.le_of_eq hsz1.symm)) hN X T ?ho ?hcd ?hroom ?hbind ?hloc ?_ ?c1 ?c2 ?c3 ?c4
  case ho => k_is
  case hcd => k_is
  case hroom => exact Nat.le_of_ble_eq_true rfl
  case hbind => rcases hargs with ⟨rfl, rfl⟩ | ⟨rfl, rfl⟩ <;> exact binds_K (X.keeps hk1) rfl (by k_is) rfl rfl rfl
  case hloc => exact locs rfl
  case c1 => rfl
  case c2 => rfl
  case c3 => rfl
  case c4 => decide
  intro L' h₁ F' N'
  clear hN
  have hvl : vs.length = xs.length := StrsAre.len_eq hi
  have hl' : ∀ h' : Heap, (∀ b o, hp0.get? b = some o → h'.get? b = some o) → h'.IsList l vs.toArray := fun h' k => let ⟨o, ho, r⟩ := hl; ⟨o, k l o ho, r⟩
  have htr : (!vs.toArray.isEmpty) = true := by
    cases vs with
    | nil => simp at hvl; omega
    | cons v vs => rfl
  replace F' : Fr hp0 L' h₁ (fun y => List.lookup y [("dirs", .none), ("modules", .ref l), ("self", .ref xI)]) := F'
  try dsimp only
  (try show wpAny _ _ _ _ _ _)
  (try k_fold)
  k_steps
  unfold InitBack
  dsimp only
  refine ⟨rfl, ?_⟩
  (with_reducible rename News _ _ _ _ => N9)
  (with_reducible rename Fr _ _ _ _ => F9)
  (with_reducible rename StrSet _ _ _ _ => S9)
  rename Obj.IsDictOf _ _ _ => D9
  rename (_ == sysModules) = false => lo9
  have hmm := ‹∀ y : Str, y ∈ _ ↔ y ∈ xs›
  refine hret _ _ _ _ _ _ _ F9.keep (fun a ha => ?_) ⟨(N9 _ (.tail _ (.tail _ (.tail _ (.head _))))).1, ⟨_, _, _, (N9 _ (.tail _ (.tail _ (.tail _ (.tail _ (.head _)))))).1⟩,
    ⟨_, _, (N9 _ (.tail _ (.tail _ (.head _)))).1, S9, by omega, hmm⟩, (N9 _ (.tail _ (.head _))).1, ⟨_, (N9 _ (.head _)).1, _, D9, Nat.le_refl 1, fun k v hk => ?_, fun k hk => (nomatch hk)⟩, lo9, by refine ⟨?_, ?_, ?_, ?_⟩ <;> (change @LT.lt Nat _ _ _; (try dsimp only); omega)⟩
  · simp only [List.mem_cons, List.not_mem_nil, or_false] at ha
    rcases ha with rfl | rfl | rfl | rfl | rfl
    · exact (N9 _ (.tail _ (.tail _ (.tail _ (.head _))))).2.2
    · exact (N9 _ (.tail _ (.tail _ (.tail _ (.tail _ (.head _)))))).2.2
    · exact (N9 _ (.tail _ (.tail _ (.head _)))).2.2
    · exact (N9 _ (.tail _ (.head _))).2.2
    · exact (N9 _ (.head _)).2.2
  · simp only [strPairs, List.filterMap, List.map, List.mem_cons, List.not_mem_nil, or_false, Prod.mk.injEq] at hk
    obtain ⟨rfl, rfl⟩ := hk
    exact ⟨_, by rw [hf]⟩
theorem ign_new {w : World} {A : Around} {s : Shared} {Q E : Value → Shared → Prop} (R : Rdy w 600 A s.heap) (l : Addr) (vs : List Value) (xs : List Str) (hl : s.heap.IsList l vs.toArray) (hi : StrsAre vs xs) (h1 : 1 ≤ xs.length) (h2 : xs.length ≤ 1000)
    (f : Str → Int) (hf : f (Str.ofString "<string>") = 1)
    (hret : ∀ x dx st ds ig h' tk', (∀ b o, s.heap.get? b = some o → h'.get? b = some o) → (∀ a ∈ [x, dx, st, ds, ig], s.heap.get? a = none) → IgnAt w f 1 [] xs x dx st ds ig h' → Q (.ref x) { s with heap := h', toks := tk' }) :
    wpAny (MM w) A (call (.ref 117) [.ref l]) Q E s := ign_any R l vs xs hl hi h1 h2 f hf _ _ (.inl ⟨rfl, rfl⟩) hret
theorem ign_newK {w : World} {A : Around} {s : Shared} {Q E : Value → Shared → Prop} (R : Rdy w 600 A s.heap) (l : Addr) (vs : List Value) (xs : List Str) (hl : s.heap.IsList l vs.toArray) (hi : StrsAre vs xs) (h1 : 1 ≤ xs.length) (h2 : xs.length ≤ 1000)
    (f : Str → Int) (hf : f (Str.ofString "<string>") = 1)
    (hret : ∀ x dx st ds ig h' tk', (∀ b o, s.heap.get? b = some o → h'.get? b = some o) → (∀ a ∈ [x, dx, st, ds, ig], s.heap.get? a = none) → IgnAt w f 1 [] xs x dx st ds ig h' → Q (.ref x) { s with heap := h', toks := tk' }) :
    wpAny (MM w) A (call (.ref 117) [] [(Str.ofString "modules", .ref l)]) Q E s := ign_any R l vs xs hl hi h1 h2 f hf _ _ (.inr ⟨rfl, rfl⟩) hret
end
end Ign
section Nam
theorem rules_Nam_1 : True := by
  k_with_none
  k_with "exec If" => (refine wpAny_If ?_)
  trivial
theorem told_has {kvs : List (Str × Value)} {k : Str} {v : Value} (h : (k, v) ∈ kvs) : (valueAt kvs k).isSome = true := by
  rw [valueAt_isSome_eq_any, List.any_eq_true]
  exact ⟨_, h, by simp⟩
theorem told_get {kvs : List (Str × Value)} {k : Str} {v : Value} (h : valueAt kvs k = some v) : (k, v) ∈ kvs := by
  unfold valueAt at h
  obtain ⟨kv, h1, h2⟩ := Option.map_eq_some_iff.mp h
  have h3 := List.find?_some h1
  have e : kv.1 = k := by simpa using h3
  have h4 := List.mem_of_find?_eq_some h1
  obtain ⟨a, b⟩ := kv
  dsimp only at e h2; subst e; subst h2; exact h4
theorem told_store {kvs : List (Str × Value)} {k m : Str} {v v' : Value} (h : (k, v) ∈ stored kvs m v') : (k, v) ∈ kvs ∨ (k = m ∧ v = v') := by
  unfold stored at h
  split at h
  · obtain ⟨⟨a, b⟩, hm, e⟩ := List.mem_map.mp h
    dsimp only at e
    split at e
    · rename_i q
      cases e; exact .inr ⟨q, rfl⟩
    · cases e; exact .inl hm
  · rcases List.mem_append.mp h with h | h
    · exact .inl h
    · rw [List.mem_singleton] at h; cases h; exact .inr ⟨rfl, rfl⟩
theorem told_keep {kvs : List (Str × Value)} {k m : Str} {v v' : Value} (h : (k, v) ∈ kvs) : ∃ v'', (k, v'') ∈ stored kvs m v' := by
  unfold stored
  split
  · by_cases e : k = m
    · exact ⟨v', List.mem_map.mpr ⟨(k, v), h, by simp [e]⟩⟩
    · exact ⟨v, List.mem_map.mpr ⟨(k, v), h, by simp [e]⟩⟩
  · exact ⟨v, List.mem_append_left _ h⟩
theorem told_new {kvs : List (Str × Value)} {m : Str} {v' : Value} : ∃ v'', (m, v'') ∈ stored kvs m v' := by
  unfold stored
  split
  · rename_i q
    obtain ⟨⟨a, b⟩, hm, e⟩ := List.any_eq_true.mp q
    have e' : a = m := by simpa using e
    subst e'
    exact ⟨v', List.mem_map.mpr ⟨(a, b), hm, by simp⟩⟩
  · exact ⟨v', List.mem_append_right _ (.head _)⟩
theorem told_len {kvs : List (Str × Value)} {m : Str} {v' : Value} : (stored kvs m v').length ≤ kvs.length + 1 := by
  unfold stored
  split
  · simp
  · simp
theorem StrSet.objOf {w : World} {led : Bool} {o : Obj} {ys : List Str} (h : StrSet w led o ys) : o.SetObjOf (PySem.strKind PG w) (fun k => decide (k ∈ ys)) ys.length := by
  obtain ⟨es, ep, t, rfl, hel, hst, hf, _, _⟩ := h.ex
  refine ⟨⟨rfl, rfl, rfl⟩, es, ep, t, rfl, hel, fun k => ?_, by rw [← StrsAre.len_eq hst, List.length_map, Array.length_toList], hf⟩
  rw [decide_eq_true_eq, ← find_str (w := w) hst k]
  constructor
  · intro q
    obtain ⟨j, hj⟩ := Option.isSome_iff_exists.mp q
    obtain ⟨hl, hp, _⟩ := List.findIdx?_eq_some_iff_getElem.mp hj
    exact ⟨_, List.getElem_mem hl, hp⟩
  · rintro ⟨e, he, q⟩
    cases hr : es.toList.findIdx? (fun e => (SK w).is k e.2) with
    | some j => rfl
    | none => have := List.findIdx?_eq_none_iff.mp hr e he; rw [q] at this; cases this
theorem in_strs {w : World} {A : Around} {E : Value → Shared → Prop} {s : Shared} {h₀ : Heap} {L st : Addr} {so : Obj} {ys : List Str} {led : Bool} {news : List (Addr × Obj)} {m : Str} {tm : Tok} {Q : Value → Shared → Prop} (N : News h₀ L s.heap news) (hm : (st, so) ∈ news) (hS : StrSet w led so ys) (hb : ys.length < scanBound)
    (h : Q (.bool (decide (m ∈ ys))) { s with toks := s.toks + 1 }) : wpAny (model PG w) A (compareOp .In (.str m tm) (.ref st)) Q E s := by
  obtain ⟨pre, post, rfl⟩ := List.append_of_mem hm
  exact in_sl1 N hS.objOf hb (strKind_is _ _ _ _) rfl h
/-- what _Ignore.names finds of a module that was not asked before -/
noncomputable def outI (ms : List Str) (b : Bool) (m : Str) : Int := if (decide (m ∈ ms) || ms.any fun y => PySem.Txt.startswith m (y ++ Str.ofString ".")) || b then 1 else 0
section
set_option pp.maxSteps 3000
theorem rules_Nam_2 : True := by
  k_with_none
  k_with "exec If" => (refine wpAny_If ?_)
  k_with "eval Name" => ((k_here; (with_reducible show wpAny _ _ (eval (Expr.Name _ _) (envOf _ _ _ _ _)) _ _ _); k_dflt (refine' ld ?k1 ?k2 ?_; (case k1 => k_asm); (case k2 => with_reducible assumption); k_whole)))
  k_with "compareOp In str ref" => ((k_here; first | (refine kda_in (knd := PySem.strKind _ _) (by k_asm) (by k_mem) (by with_reducible assumption) (by with_reducible assumption) (strKind_is _ _ _ _) _ rfl ?_; (generalize hq : Option.isSome _ = bq); cases bq) | ((with_reducible rename News _ _ _ _ => N9); (with_reducible rename StrSet _ _ _ _ => S9); refine in_strs N9 (by k_mem) S9 (by unfold scanBound; omega) ?_; (generalize hq2 : @Decidable.decide _ _ = bq); cases bq)))
  k_with "getItem ref str" => ((k_here; refine wpAny_getItem_of (knd := PySem.strKind _ _) (strKind_is _ _ _ _) (Heap.DictOf.mapOf (kda_dict (by k_asm) (by k_mem) (by with_reducible assumption))) (Option.eq_some_of_isSome (by with_reducible assumption)) ?_))
  k_with "setItem ref str" => ((k_here; refine' kda_set (knd := PySem.strKind _ _) ?F ?N ?U ?d (strKind_is _ _ _ _) ?z ?_; (case F => k_asm); (case N => k_asm); (case U => k_updF); (case d => with_reducible assumption); (case z => rw [sizeLine_eq]; omega); intro h' o' FS NS hd'; (try dsimp only at NS)))
  k_with "call builtin:str.startswith" => ((k_here; (with_reducible show wpAny _ _ (call (Value.builtin "str.startswith") [Value.str _ _, Value.str _ _]) _ _ _); refine SC.startswith ?_; (generalize hsw : PySem.Txt.startswith _ _ = bq); cases bq))
  trivial
theorem names_spec {w : World} {A : Around} {s : Shared} {Q E : Value → Shared → Prop} {x dx st ds ig : Addr} {f : Str → Int} {n : Nat} {as ms : List Str} (R : Rdy w 500 A (hideAll s.heap [ig, x, dx, st, ds])) (I : IgnAt w f n as ms x dx st ds ig s.heap) (hn : n ≤ 1000) (fn : Value) (b : Bool) (m : Str) (tm : Tok)
    (hfn : (fn = .none ∧ b = true) ∨ (∃ t, fn = .str (Str.ofString "/x.py") t) ∧ b = false) (hout : m ∈ as ∨ outI ms b m = f m) (hml : ∀ y ∈ ms, y.length ≤ 1000)
    (hret : ∀ t h' tk' d', (∀ b o, b ≠ ig → s.heap.get? b = some o → h'.get? b = some o) → IgnAt w f (n + 1) (m :: as) ms x dx st ds ig h' → Q (.int (f m) t) { s with heap := h', toks := tk', drawn := d' }) :
    wpAny (MM w) A (call (.ref 114) [.ref x, fn, .str m tm]) Q E s := by
  obtain ⟨hx, ⟨t1, t2, t3, hdx⟩, ⟨so, ys, hst, hSS, hlen, hmem⟩, hds, ⟨oi, hig, kvs, hD, hkl, hkf, hka⟩, lo, lt1, lt2, lt3, lt4⟩ := I
  have hfin : ∀ (h' : Heap) (oi' : Obj) (kvs' : List (Str × Value)), (∀ b o, (hideAll s.heap [ig, x, dx, st, ds]).get? b = some o → h'.get? b = some o) → h'.get? ig = some oi' → h'.get? ds = some (W.listOf #[] 0) → h'.get? st = some so → h'.get? x = some (instObj 117 dx) → h'.get? dx = some (igDict w st ds ig t1 t2 t3 3) →
      oi'.IsDictOf (PySem.strKind PG w) kvs' → kvs'.length ≤ n + 1 → (∀ k v, (k, v) ∈ kvs' → ∃ t, v = .int (f k) t) → (∀ k ∈ m :: as, ∃ v, (k, v) ∈ kvs') → ∀ t tk d, Q (.int (f m) t) { s with heap := h', toks := tk, drawn := d } := by
    intro h' oi' kvs' hk e1 e2 e3 e4 e5 hD' hl' hf' ha' t tk d
    refine hret t h' tk d (fun b o hb e => ?_) ⟨e4, ⟨_, _, _, e5⟩, ⟨_, _, e3, hSS, hlen, hmem⟩, e2, ⟨_, e1, _, hD', hl', hf', ha'⟩, lo, lt1, lt2, lt3, lt4⟩
    by_cases h1 : b = x
    · subst h1; rw [hx] at e; cases e; exact e4
    by_cases h2 : b = dx
    · subst h2; rw [hdx] at e; cases e; exact e5
    by_cases h3 : b = st
    · subst h3; rw [hst] at e; cases e; exact e3
    by_cases h4 : b = ds
    · subst h4; rw [hds] at e; cases e; exact e2
    exact hk b o (hideAll_get _ e (by simp [hb, h1, h2, h3, h4]))
  have hu : ∀ q ∈ [(ds, W.listOf #[] 0), (st, so), (x, instObj 117 dx), (dx, igDict w st ds ig t1 t2 t3 3)], q.1 ≠ ig := fun q hq => by
    simp only [List.mem_cons, List.not_mem_nil, or_false] at hq
    rcases hq with rfl | rfl | rfl | rfl
    · exact Nat.ne_of_lt lt4
    · exact Nat.ne_of_lt (Nat.lt_trans lt3 lt4)
    · exact Nat.ne_of_lt (Nat.lt_trans lt2 (Nat.lt_trans lt3 lt4))
    · exact Nat.ne_of_lt (Nat.lt_trans lt1 (Nat.lt_trans lt2 (Nat.lt_trans lt3 lt4)))
  have hsl : kvs.length ≤ sizeLine := by rw [sizeLine_eq]; omega
  have hend : ∀ (h' : Heap) (o' : Obj) (L' : Addr) (mm : Str → Option Value), Fr (hideAll s.heap [ig, x, dx, st, ds]) L' h' mm → News (hideAll s.heap [ig, x, dx, st, ds]) L' h' [(ig, o'), (ds, W.listOf #[] 0), (st, so), (x, instObj 117 dx), (dx, igDict w st ds ig t1 t2 t3 3)] → ∀ (v : Int) (tv : Tok), v = f m →
      o'.IsDictOf (PySem.strKind PG w) (stored kvs m (.int v tv)) → ∀ t tk d, Q (.int v t) { s with heap := h', toks := tk, drawn := d } := by
    intro h' o' L' mm F9 N9 v tv hv hd' t tk d
    subst hv
    exact hfin _ _ _ F9.keep (N9 _ (.head _)).1 (N9 _ (.tail _ (.head _))).1 (N9 _ (.tail _ (.tail _ (.head _)))).1 (N9 _ (.tail _ (.tail _ (.tail _ (.head _))))).1 (N9 _ (.tail _ (.tail _ (.tail _ (.tail _ (.head _)))))).1
      hd' (Nat.le_trans told_len (Nat.succ_le_succ hkl)) (fun k v hk => (told_store hk).elim (hkf k v) fun ⟨e1, e2⟩ => ⟨tv, by rw [e2, e1]⟩)
      (fun k hk => by
        rcases List.mem_cons.mp hk with rfl | hk
        · exact told_new
        · obtain ⟨v, hv⟩ := hka k hk; exact told_keep hv) t tk d
  generalize hh0 : hideAll s.heap [ig, x, dx, st, ds] = h0 at R hfin hend
  have hk0 : ∀ b o, h0.get? b = some o → s.heap.get? b = some o := fun b o e => by rw [← hh0] at e; exact of_hideAll _ e
  have hsz0 : h0.objs.size ≤ s.heap.objs.size := by rw [← hh0, hideAll_size]; exact Nat.le_refl _
  have hN : ∀ q ∈ [(ig, oi), (ds, W.listOf #[] 0), (st, so), (x, instObj 117 dx), (dx, igDict w st ds ig t1 t2 t3 3)], s.heap.get? q.1 = some q.2 ∧ h0.get? q.1 = none := fun q hq => by
    have hno : ∀ b ∈ [ig, x, dx, st, ds], h0.get? b = none := fun b hb => by rw [← hh0]; exact hideAll_none _ hb
    simp only [List.mem_cons, List.not_mem_nil, or_false] at hq
    rcases hq with rfl | rfl | rfl | rfl | rfl
    · exact ⟨hig, hno _ (by simp)⟩
    · exact ⟨hds, hno _ (by simp)⟩
    · exact ⟨hst, hno _ (by simp)⟩
    · exact ⟨hx, hno _ (by simp)⟩
    · exact ⟨hdx, hno _ (by simp)⟩
  obtain ⟨⟨base, fs, B⟩, X, ⟨p, loose, mean, mg, mb, T⟩, d, u, hnA⟩ := R
  refine wpAny_up (A' := Around.mk none 500 (some fs) A.guards 500) hnA.symm d B.stack.symm rfl u ?_
  replace B : Below (Around.mk none 500 (some fs) A.guards 500) base fs h0 := ⟨rfl, B.stays, B.frames⟩
  generalize A.guards = gd at B ⊢
  have lt5 : st < ig := Nat.lt_trans lt3 lt4
  have lt6 : x < ig := Nat.lt_trans lt2 lt5
  have lt7 : dx < ig := Nat.lt_trans lt1 lt6
  dsimp only [MM]; revert X; k_fill; intro X
  refine' wpAny_call (enterN hk0 hsz0 hN X T ?ho ?hcd ?hroom ?hbind ?hloc ?_ ?c1 ?c2 ?c3 ?c4)
  case ho => k_is
  case hcd => k_is
  case hroom => exact Nat.le_of_ble_eq_true rfl
  case hbind => first | exact BindsTo.of_eq rfl | exact binds_K (X.keeps hk0) rfl (by k_is) rfl rfl rfl
  case hloc => exact locs rfl
  case c1 => rfl
  case c2 => rfl
  case c3 => rfl
  case c4 => decide
  intro L' h₁ F' N'
  replace F' : Fr h0 L' h₁ (fun y => List.lookup y [("modulename", .str m tm), ("filename", fn), ("self", .ref x)]) := F'
  clear hN hx hdx hst hds hig hk0 hsz0 hh0
  try dsimp only
  (try show wpAny _ _ _ _ _ _)
  (try k_fold)
  k_steps
  · (with_reducible rename News _ _ _ _ => N9)
    (with_reducible rename Option.isSome _ = false => hq9)
    refine in_strs N9 (by k_mem) hSS (by unfold scanBound; omega) ?_
    have hmas : m ∉ as := fun q => by
      obtain ⟨v, hv⟩ := hka m q
      rw [told_has hv] at hq9; cases hq9
    have hout' := hout.resolve_left hmas
    cases hms : (decide (m ∈ ys) : Bool)
    · rcases hfn with ⟨rfl, rfl⟩ | ⟨⟨tf, rfl⟩, rfl⟩
      · k_steps
        (with_reducible rename News _ _ _ _ => N9)
        (with_reducible rename Fr _ _ _ _ => F9)
        refine set_loop (fun m₁ => m₁ "self" = some (.ref x) ∧ m₁ "modulename" = some (.str m tm) ∧ m₁ "filename" = some .none) (fun y => PySem.Txt.startswith m (y ++ Str.ofString ".") = false) rfl F9 N9 (by k_mem) hSS (by unfold scanBound; omega) ⟨rfl, rfl, rfl⟩ (fun m₁ v q => q) ?_ ?_
        · intro y t m₁ d h tk own hy hg hmy F8 N8
          obtain ⟨g1, g2, g3⟩ := id hg
          have hyl : y.length ≤ 1000 := hml y ((hmem y).mp hy)
          clear F9 N9
          k_steps
          · exact ⟨rfl, _, _, _, rfl, F8, N8, hg⟩
          · replace N8 := News.right N8
            refine kda_set (knd := PySem.strKind _ _) F8 N8 (UpdF.head hu) hD (strKind_is _ _ _ _) hsl ?_
            intro h' o' F7 N7 hd'
            clear F8 N8
            k_steps
            dsimp only [SetEnd]
            refine hend _ _ _ _ F7 N7 1 _ ?_ hd' _ _ _
            (with_reducible rename PySem.Txt.startswith _ _ = true => hsw)
            have : (ms.any fun y => PySem.Txt.startswith m (y ++ Str.ofString ".")) = true := List.any_eq_true.mpr ⟨y, (hmem y).mp hy, hsw⟩
            rw [← hout']; unfold outI; rw [if_pos (by simp only [this, Bool.or_true, Bool.true_or])]
        · intro m₁ d h tk hg hno F8 N8
          obtain ⟨g1, g2, g3⟩ := hg
          clear F9 N9
          k_steps
          refine kda_set (knd := PySem.strKind _ _) F8 N8 (UpdF.head hu) hD (strKind_is _ _ _ _) hsl ?_
          intro h' o' F7 N7 hd'
          clear F8 N8
          k_steps
          dsimp only
          refine hend _ _ _ _ F7 N7 1 _ ?_ hd' _ _ _
          rw [← hout']; unfold outI; rw [if_pos (by simp)]
      · k_steps
        (with_reducible rename News _ _ _ _ => N9)
        (with_reducible rename Fr _ _ _ _ => F9)
        refine set_loop (fun m₁ => m₁ "self" = some (.ref x) ∧ m₁ "modulename" = some (.str m tm) ∧ m₁ "filename" = some (.str (Str.ofString "/x.py") tf)) (fun y => PySem.Txt.startswith m (y ++ Str.ofString ".") = false) rfl F9 N9 (by k_mem) hSS (by unfold scanBound; omega) ⟨rfl, rfl, rfl⟩ (fun m₁ v q => q) ?_ ?_
        · intro y t m₁ d h tk own hy hg hmy F8 N8
          obtain ⟨g1, g2, g3⟩ := id hg
          have hyl : y.length ≤ 1000 := hml y ((hmem y).mp hy)
          clear F9 N9
          k_steps
          · exact ⟨rfl, _, _, _, rfl, F8, N8, hg⟩
          · replace N8 := News.right N8
            refine kda_set (knd := PySem.strKind _ _) F8 N8 (UpdF.head hu) hD (strKind_is _ _ _ _) hsl ?_
            intro h' o' F7 N7 hd'
            clear F8 N8
            k_steps
            dsimp only [SetEnd]
            refine hend _ _ _ _ F7 N7 1 _ ?_ hd' _ _ _
            (with_reducible rename PySem.Txt.startswith _ _ = true => hsw)
            have : (ms.any fun y => PySem.Txt.startswith m (y ++ Str.ofString ".")) = true := List.any_eq_true.mpr ⟨y, (hmem y).mp hy, hsw⟩
            rw [← hout']; unfold outI; rw [if_pos (by simp only [this, Bool.or_true, Bool.true_or])]
        · intro m₁ d h tk hg hno F8 N8
          obtain ⟨g1, g2, g3⟩ := hg
          clear F9 N9
          k_steps
          (with_reducible rename News _ _ _ _ => N8)
          (with_reducible rename Fr _ _ _ _ => F8)
          refine kda_set (knd := PySem.strKind _ _) F8 N8 (UpdF.head hu) hD (strKind_is _ _ _ _) hsl ?_
          intro h' o' F7 N7 hd'
          clear F8 N8
          k_steps
          dsimp only
          refine hend _ _ _ _ F7 N7 0 _ ?_ hd' _ _ _
          have h1 : decide (m ∈ ms) = false := decide_eq_false fun q => by rw [decide_eq_true ((hmem m).mpr q)] at hms; cases hms
          have h2 : (ms.any fun y => PySem.Txt.startswith m (y ++ Str.ofString ".")) = false := List.any_eq_false.mpr fun y hy => by rw [hno y ((hmem y).mpr hy)]; exact Bool.false_ne_true
          rw [← hout']; unfold outI; rw [if_neg (by simp only [h1, h2, Bool.or_false]; exact Bool.false_ne_true)]
    · k_steps
      (with_reducible rename News _ _ _ _ => N9)
      (with_reducible rename Fr _ _ _ _ => F9)
      refine kda_set (knd := PySem.strKind _ _) F9 N9 (UpdF.head hu) hD (strKind_is _ _ _ _) hsl ?_
      intro h' o' F8 N8 hd'
      clear F9 N9
      k_steps
      dsimp only
      refine hend _ _ _ _ F8 N8 1 _ ?_ hd' _ _ _
      have : m ∈ ms := (hmem m).mp (by simpa using hms)
      rw [← hout']; unfold outI; rw [if_pos (by simp [this])]
  · dsimp only
    (with_reducible rename News _ _ _ _ => N9)
    (with_reducible rename Option.isSome _ = true => hq9)
    (with_reducible rename Fr _ _ _ _ => F9)
    have hv := told_get (Option.eq_some_of_isSome hq9)
    obtain ⟨t9, e9⟩ := hkf _ _ hv
    rw [e9]
    have := hfin _ _ _ F9.keep (N9 _ (.head _)).1 (N9 _ (.tail _ (.head _))).1 (N9 _ (.tail _ (.tail _ (.head _)))).1 (N9 _ (.tail _ (.tail _ (.tail _ (.head _))))).1 (N9 _ (.tail _ (.tail _ (.tail _ (.tail _ (.head _)))))).1
      hD (Nat.le_succ_of_le hkl) hkf (fun k hk => by rcases List.mem_cons.mp hk with rfl | hk; exact ⟨_, hv⟩; exact hka k hk) t9
    exact this _ _
end
end Nam
section LamE
theorem rules_LamE_1 : True := by
  k_with_none
  k_with "exec If" => (refine wpAny_If ?_)
  trivial
noncomputable def forB (s : Stmt) : List Stmt := (sK s).2.1
noncomputable def ifE (s : Stmt) : Expr := (sK s).1.headD e0
noncomputable def cmpE (s : Expr) : Expr := (eK s).1.headD e0
noncomputable def keyE (s : Expr) : Expr := (eK s).1.getD 2 e0
noncomputable def lawS : List Stmt := sB (sA pB 53)
/-- the lambdas of law -/
noncomputable def lamX2 : Expr := argE 0 (cmpE (ifE (sA (forB (sA lawS 5)) 1)))
noncomputable def lamX3 : Expr := argE 0 (cmpE (ifE (sA (forB (sA (forB (sA lawS 5)) 2)) 0)))
noncomputable def lamX4 : Expr := argE 0 (keyE (cmpE (retE (sA lawS 6))))
noncomputable abbrev lam2A : Arguments := by
  refine' (?g : ∀ l : Arguments, lamA lamX2 = l → Arguments) _ ?h
  case g => exact fun l _ => l
  all_goals try (conv => lhs; whnf)
noncomputable abbrev lam2B : Expr := by
  refine' (?g : ∀ l : Expr, lamB lamX2 = l → Expr) _ ?h
  case g => exact fun l _ => l
  all_goals try (conv => lhs; whnf)
noncomputable abbrev lam2S : Scope := by
  refine' (?g : ∀ l : Scope, lamS lamX2 = l → Scope) _ ?h
  case g => exact fun l _ => l
  all_goals try (conv => lhs; whnf)
noncomputable abbrev lam3A : Arguments := by
  refine' (?g : ∀ l : Arguments, lamA lamX3 = l → Arguments) _ ?h
  case g => exact fun l _ => l
  all_goals try (conv => lhs; whnf)
noncomputable abbrev lam3B : Expr := by
  refine' (?g : ∀ l : Expr, lamB lamX3 = l → Expr) _ ?h
  case g => exact fun l _ => l
  all_goals try (conv => lhs; whnf)
noncomputable abbrev lam3S : Scope := by
  refine' (?g : ∀ l : Scope, lamS lamX3 = l → Scope) _ ?h
  case g => exact fun l _ => l
  all_goals try (conv => lhs; whnf)
noncomputable abbrev lam4A : Arguments := by
  refine' (?g : ∀ l : Arguments, lamA lamX4 = l → Arguments) _ ?h
  case g => exact fun l _ => l
  all_goals try (conv => lhs; whnf)
noncomputable abbrev lam4B : Expr := by
  refine' (?g : ∀ l : Expr, lamB lamX4 = l → Expr) _ ?h
  case g => exact fun l _ => l
  all_goals try (conv => lhs; whnf)
noncomputable abbrev lam4S : Scope := by
  refine' (?g : ∀ l : Scope, lamS lamX4 = l → Scope) _ ?h
  case g => exact fun l _ => l
  all_goals try (conv => lhs; whnf)
/-- a text of two figures, and the octet it is read as -/
structure HexOf (w : World) (p : Str) (o : UInt8) : Prop where
  lo : ∀ c ∈ p.cps, c < 128
  len : p.length = 2
  ex : ∃ a b : UInt8, (p.cps.map fun c => c.toUInt8) = #[a, b] ∧ ReNo w #[a, b] ∧ hexv ((a.toNat : Nat) : Int) < 16 ∧ hexv ((b.toNat : Nat) : Int) < 16 ∧ b16D a b = o
section
theorem rules_LamE_2 : True := by
  k_with_none
  k_with "exec If" => (refine wpAny_If ?_)
  k_with "call ref" => ((k_here; (with_reducible show wpAny _ _ (call (Value.ref 266) [Value.str _ _]) _ _ _); (with_reducible rename ReNo _ _ => hre9); k_dflt (refine' b16d_spec (Rdy.of_walk ?B ?F ?X ?T rfl rfl (Nat.le_of_ble_eq_true rfl) (Nat.le_of_ble_eq_true rfl) rfl) _ _ _ _ (by with_reducible assumption) (by with_reducible assumption) (by with_reducible assumption) hre9 (by with_reducible assumption) (by with_reducible assumption) ?_; (case F => k_asm); (case B => k_asm); (case X => k_asm); (case T => k_asm); k_whole); intro t9 h9 tk9 hk9; (have F9 := fr_keep (by assumption) hk9); (have N9 := news_keep (by assumption) hk9); (try dsimp only)))
  trivial
theorem lam2_do {w : World} {h : Heap} {f c' : Addr} {pm ctv : Value} {q : Str} (ho : h.get? f = some (kla_obj "<lambda>" q lam2A lam2B lam2S [] pm c' ctv)) (hcd : h.CodeRec (.ref c') q)
    {vs : List Value} {ps : List Str} {bs : List UInt8} (hvs : StrsAre vs ps) (hps : ∀ (i : Nat) (p : Str), ps[i]? = some p → ∃ o, bs[i]? = some o ∧ HexOf w p o) (hn : bs.length ≤ 4) :
    FnDoes w h f (fun i v => vs[i]? = some v) (fun i a => ∃ t, a = .bytes (bs.take i).toArray t) := by
  intro A s i a v Q E R hk hP hJ hret
  obtain ⟨t, rfl⟩ := hJ
  obtain ⟨y, u, rfl, hy⟩ := strs_at hvs hP
  obtain ⟨o, hbo, hlo, hlen, xa, xb, e1, e2, e3, e4, e5⟩ := hps i y hy
  have htl : (bs.take i).toArray.size ≤ 4 := by
    rw [List.size_toArray, List.length_take]; omega
  have ret : ∀ t h' tk', (∀ b o, s.heap.get? b = some o → h'.get? b = some o) → Q (.bytes ((bs.take i).toArray ++ #[b16D xa xb]) t) { s with heap := h', toks := tk' } := fun t h' tk' k =>
    hret _ h' tk' k ⟨t, by rw [take_snoc hbo, e5]; simp⟩
  clear hret
  generalize (bs.take i).toArray = a0 at htl ret
  clear hvs hP hy hn hps hbo e5
  refine R.go ?_
  intro gd base fs p loose mean mg mb B X T
  dsimp only [MM]; revert X; k_fill; intro X
  refine' wpAny_call (enterL T (hk _ _ ho) (hcd.keeps hk) ?hroom ?hbind ?hloc ?_ ?c1 ?c2 ?c3 ?c4)
  case hroom => exact Nat.le_of_ble_eq_true rfl
  case hbind => rfl
  case hloc => exact locs rfl
  case c1 => rfl
  case c2 => rfl
  case c3 => rfl
  case c4 => decide
  intro L' h₁ F' N'
  try dsimp only
  k_steps
  refine KBy.add_bytes (by show _ + 1 ≤ _; omega) fun t' k => ?_
  exact ret _ _ _ (Fr.keep (by assumption))
end
section
theorem rules_LamE_3 : True := by
  k_with_none
  k_with "exec If" => (refine wpAny_If ?_)
  trivial
/-- what _modname makes of a text: it is called, and gives y -/
structure Named (w : World) (x y : Str) : Prop where
  go : ∀ (A : Around) (s : Shared) (Q E : Value → Shared → Prop) (tx : Tok), Rdy w 600 A s.heap → (∀ t h' tk', (∀ b o, s.heap.get? b = some o → h'.get? b = some o) → Q (.str y t) { s with heap := h', toks := tk' }) → wpAny (MM w) A (call (.ref 128) [.str x tx]) Q E s
theorem named_dot {w : World} {x y : Str} (hlen : x.length ≤ 1000) (h1 : Txt.rfind (baseF x) (Str.ofString "/") + 1 < Txt.rfind (baseF x) (Str.ofString "."))
    (h2 : Txt.slice (baseF x) (some (Txt.rfind (baseF x) (Str.ofString "/") + 1)) (some (Txt.rfind (baseF x) (Str.ofString "/") + 1 + 1)) ≠ Str.ofString ".") (e : Txt.slice (baseF x) none (some (Txt.rfind (baseF x) (Str.ofString "."))) = y) : Named w x y := ⟨fun A s Q E tx R hret => modname_dot R x tx hlen h1 h2 (by rw [e]; exact hret)⟩
theorem named_plain {w : World} {x y : Str} (hlen : x.length ≤ 1000) (h1 : ¬ (Txt.rfind (baseF x) (Str.ofString "/") < Txt.rfind (baseF x) (Str.ofString "."))) (e : baseF x = y) : Named w x y := ⟨fun A s Q E tx R hret => modname_plain R x tx hlen h1 (by rw [e]; exact hret)⟩
theorem named_call {w : World} {A : Around} {s : Shared} {Q E : Value → Shared → Prop} {x y : Str} {tx : Tok} (nm : Named w x y) (R : Rdy w 600 A s.heap) (hret : ∀ t h' tk', (∀ b o, s.heap.get? b = some o → h'.get? b = some o) → Q (.str y t) { s with heap := h', toks := tk' }) :
    wpAny (MM w) A (call (.ref 128) [.str x tx]) Q E s := nm.go A s Q E tx R hret
theorem rules_LamE_4 : True := by
  k_with_none
  k_with "exec If" => (refine wpAny_If ?_)
  k_with "zz" => (skip)
  k_with "call ref" => ((k_here; (with_reducible show wpAny _ _ (call (Value.ref 128) [Value.str _ _]) _ _ _); k_dflt (refine' named_call (by with_reducible assumption) (Rdy.of_walk ?B ?F ?X ?T rfl rfl (Nat.le_of_ble_eq_true rfl) (Nat.le_of_ble_eq_true rfl) rfl) ?_; (case F => k_asm); (case B => k_asm); (case X => k_asm); (case T => k_asm); k_whole); intro t9 h9 tk9 hk9; (have F9 := fr_keep (by assumption) hk9); (have N9 := news_keep (by assumption) hk9); (try dsimp only)))
  trivial
theorem lam3_do {w : World} {h : Heap} {f c' : Addr} {pm ctv : Value} {q : Str} (ho : h.get? f = some (kla_obj "<lambda>" q lam3A lam3B lam3S [] pm c' ctv)) (hcd : h.CodeRec (.ref c') q)
    {xs : Nat → Str} {n : Nat} (hxs : ∀ i, i < n → Named w (xs i) (xs (i + 1))) :
    FnDoes w h f (fun i v => i < n ∧ ∃ t, v = .int (i : Int) t) (fun i a => ∃ t, a = .str (xs i) t) := by
  intro A s i a v Q E R hk hP hJ hret
  obtain ⟨t, rfl⟩ := hJ
  obtain ⟨hi, u, rfl⟩ := hP
  have nm := hxs i hi
  have ret : ∀ t h' tk', (∀ b o, s.heap.get? b = some o → h'.get? b = some o) → Q (.str (xs (i + 1)) t) { s with heap := h', toks := tk' } := fun t h' tk' k =>
    hret _ h' tk' k ⟨t, rfl⟩
  clear hret
  generalize xs i = x0 at nm ⊢
  generalize xs (i + 1) = x1 at nm ret
  refine R.go ?_
  intro gd base fs p loose mean mg mb B X T
  dsimp only [MM]; revert X; k_fill; intro X
  refine' wpAny_call (enterL T (hk _ _ ho) (hcd.keeps hk) ?hroom ?hbind ?hloc ?_ ?c1 ?c2 ?c3 ?c4)
  case hroom => exact Nat.le_of_ble_eq_true rfl
  case hbind => rfl
  case hloc => exact locs rfl
  case c1 => rfl
  case c2 => rfl
  case c3 => rfl
  case c4 => decide
  intro L' h₁ F' N'
  try dsimp only
  k_steps
  exact ret _ _ _ (Fr.keep (by assumption))
theorem lam4_do {w : World} {h : Heap} {f c' : Addr} {pm ctv : Value} {q : Str} (ho : h.get? f = some (kla_obj "<lambda>" q lam4A lam4B lam4S [] pm c' ctv)) (hcd : h.CodeRec (.ref c') q)
    {A : Around} {s : Shared} {Q E : Value → Shared → Prop} (R : Rdy w 500 A s.heap) (hk : ∀ b o, h.get? b = some o → s.heap.get? b = some o) (x y : Str) (tx ty : Tok)
    (hret : ∀ t h' tk', (∀ b o, s.heap.get? b = some o → h'.get? b = some o) → Q (.int (b2i (decide (y.cps.toList < x.cps.toList)) - b2i (decide (x.cps.toList < y.cps.toList))) t) { s with heap := h', toks := tk' }) :
    wpAny (MM w) A (call (.ref f) [.str x tx, .str y ty]) Q E s := by
  refine R.go ?_
  intro gd base fs p loose mean mg mb B X T
  dsimp only [MM]; revert X; k_fill; intro X
  refine' wpAny_call (enterL T (hk _ _ ho) (hcd.keeps hk) ?hroom ?hbind ?hloc ?_ ?c1 ?c2 ?c3 ?c4)
  case hroom => exact Nat.le_of_ble_eq_true rfl
  case hbind => rfl
  case hloc => exact locs rfl
  case c1 => rfl
  case c2 => rfl
  case c3 => rfl
  case c4 => decide
  intro L' h₁ F' N'
  try dsimp only
  k_steps
  exact hret _ _ _ (Fr.keep (by assumption))
end
end LamE
section Leq
theorem rules_Leq_1 : True := by
  k_with_none
  k_with "exec If" => (refine wpAny_If ?_)
  trivial
/-- lists of ints by the order of Python -/
noncomputable def leL : List Int → List Int → Bool
  | [], _ => true
  | _ :: _, [] => false
  | x :: xs, y :: ys => if x = y then leL xs ys else decide (x ≤ y)
open SeqAt MeetsSeq MeetsSeq2 MeetsSeq3 AutoSeq1 in
theorem le_loop (l b : Addr) (items items2 : Array Value) (n n2 : Nat) (dd dd2 : Option Addr) (sl sl2 : Array (Option Value)) (ns ms : List Int) (hi : IntsAre items.toList ns) (hj : IntsAre items2.toList ms) (k : Nat) :
    ∀ i : Nat, items.size - i = k → i ≤ items.size → i ≤ items2.size → Meets (Builtin.«list.__eq__.loop» ⟨[.ref l, .ref b, rawInt i, rawInt 1], []⟩)
      (fun A R s => s.heap.get? l = some { cls := .type "list", dict := dd, data := .seq items n, slots := sl } ∧ s.heap.get? b = some { cls := .type "list", dict := dd2, data := .seq items2 n2, slots := sl2 } ∧
        R (.ok (.ret (.bool (leL (ns.drop i) (ms.drop i))))) s) := by
  have hns : items.size = ns.length := by rw [← IntsAre.length hi, Array.length_toList]
  have hms : items2.size = ms.length := by rw [← IntsAre.length hj, Array.length_toList]
  have itA : ∀ (its : Array Value) (xs : List Int) (h : IntsAre its.toList xs) (i : Nat) (hl : i < its.size) (hx : i < xs.length), ∃ t, its[i]? = some (.int xs[i] t) := fun its xs h i hl hx => by
    obtain ⟨v, t, e, q⟩ := IntsAre.at h i its[i] (by rw [Array.getElem?_toList, Array.getElem?_eq_getElem hl])
    rw [List.getElem?_eq_getElem hx] at q
    exact ⟨t, by rw [Array.getElem?_eq_getElem hl, e]; simp_all⟩
  induction k with
  | zero =>
    intro i hk hle1 hle2 prog w A R s h
    obtain ⟨hp, g, d, tk, os⟩ := s; obtain ⟨hl, hb, h⟩ := h
    wp_walk using wpAny_loadPart' hl, wpAny_loadPart' hb
    have hi1 : items[((i : Nat) : Int).toNat]? = none := by simp; omega
    have hd : ns.drop i = [] := by simp; omega
    rw [hd] at h
    rw [hi1]
    wp_walk using wpAny_loadPart' hl, wpAny_loadPart' hb
    show R (.ok (.ret (.bool (decide (items.size ≤ items2.size))))) _
    rw [decide_eq_true (by omega)]
    exact h
  | succ k ih =>
    intro i hk hle1 hle2 prog w A R s h
    obtain ⟨hp, g, d, tk, os⟩ := s; obtain ⟨hl, hb, h⟩ := h
    wp_walk using wpAny_loadPart' hl, wpAny_loadPart' hb
    have hlt : i < items.size := by omega
    have hln : i < ns.length := by omega
    obtain ⟨t, hx⟩ := itA items ns hi i hlt hln
    have hi1 : items[((i : Nat) : Int).toNat]? = some (.int ns[i] t) := by simpa using hx
    have hd : ns.drop i = ns[i] :: ns.drop (i + 1) := List.drop_eq_getElem_cons hln
    have hc : ((i : Int) + 1) = ((i + 1 : Nat) : Int) := by push_cast; rfl
    rw [hi1]
    rw [hd] at h
    by_cases hlt2 : i < items2.size
    · have hlm : i < ms.length := by omega
      obtain ⟨u, hy⟩ := itA items2 ms hj i hlt2 hlm
      have hi2 : items2[((i : Nat) : Int).toNat]? = some (.int ms[i] u) := by simpa using hy
      have hd2 : ms.drop i = ms[i] :: ms.drop (i + 1) := List.drop_eq_getElem_cons hlm
      rw [hi2]
      rw [hd2] at h
      refine wpAny_bind (wpAny_eqBool_int ?_)
      unfold leL at h
      by_cases he : ns[i] = ms[i]
      · rw [if_pos he] at h
        rw [show (ns[i] == ms[i]) = true from beq_iff_eq.mpr he]
        wp_walk
        rw [hc]
        exact ⟨plainId_quiet plain_eq_loop _, codeAny_builtin entry_eq_loop (by
          rw [Around.under_plainId plain_eq_loop _]
          exact ih (i + 1) (by omega) (by omega) (by omega) prog w A R _ ⟨hl, hb, h⟩)⟩
      · rw [if_neg he] at h
        rw [show (ns[i] == ms[i]) = false from beq_eq_false_iff_ne.mpr he]
        wp_walk using wpAny_loadPart' hl, wpAny_loadPart' hb
        rw [hi1, hi2]
        dsimp only
        refine wpAny_bind ?_
        show wpAny _ _ (compareOp .LtE (.int ns[i] t) (.int ms[i] u)) _ _ _
        refine P.le_int ?_
        exact wpAny_pure h
    · have hi2 : items2[((i : Nat) : Int).toNat]? = none := by simp; omega
      have hd2 : ms.drop i = [] := by simp; omega
      rw [hi2]
      rw [hd2] at h
      wp_walk using wpAny_loadPart' hl, wpAny_loadPart' hb
      show R (.ok (.ret (.bool (decide (items.size ≤ items2.size))))) _
      rw [decide_eq_false (by omega)]
      exact h
open SeqAt MeetsSeq MeetsSeq2 MeetsSeq3 AutoSeq1 in
theorem list_le (l b : Addr) (items items2 : Array Value) (n n2 : Nat) (dd dd2 : Option Addr) (sl sl2 : Array (Option Value)) (ns ms : List Int) (hi : IntsAre items.toList ns) (hj : IntsAre items2.toList ms) :
    Meets (Builtin.«list.__le__» ⟨[.ref l, .ref b], []⟩)
      (fun A R s => s.heap.get? l = some { cls := .type "list", dict := dd, data := .seq items n, slots := sl } ∧ s.heap.get? b = some { cls := .type "list", dict := dd2, data := .seq items2 n2, slots := sl2 } ∧
        R (.ok (.ret (.bool (leL ns ms)))) s) := by
  intro prog w A R s h
  obtain ⟨hp, g, d, tk, os⟩ := s; obtain ⟨hl, hb, h⟩ := h
  have f3 := AutoSeq1.sub_list_list
  wp_walk using wpAny_loadPart' hl, wpAny_loadPart' hb
  exact ⟨plainId_quiet plain_eq_loop _, codeAny_builtin entry_eq_loop (by
    rw [Around.under_plainId plain_eq_loop _]
    exact le_loop l b items items2 n n2 dd dd2 sl sl2 ns ms hi hj _ 0 rfl (Nat.zero_le _) (Nat.zero_le _) prog w A R _ ⟨hl, hb, h⟩)⟩
theorem le_lists {prog : Program} {w : World} {A : Around} {s : Shared} {Q E : Value → Shared → Prop} {l b : Addr} {xs ys : List Value} {ns ms : List Int} (hl : s.heap.IsList l xs.toArray) (hb : s.heap.IsList b ys.toArray) (hi : IntsAre xs ns) (hj : IntsAre ys ms) (hu : A.units + 64 < cLine)
    (h : Q (.bool (leL ns ms)) s) : wpAny (model prog w) A (compareOp .LtE (.ref l) (.ref b)) Q E s := by
  obtain ⟨⟨c1, d1, dt1, sl1⟩, ho, hc, n1, hd⟩ := id hl
  obtain ⟨⟨c2, d2, dt2, sl2⟩, ho2, hc2, n2, hd2⟩ := id hb
  dsimp only at hc hd hc2 hd2
  subst hc hd hc2 hd2
  exact richCompare_meets_room (op := .LtE) ⟨_, ho, rfl⟩ ⟨_, ho2, rfl⟩ F.slot_list_le F.entry_list_le (F.args_list_le_2 _ _) (list_le l b xs.toArray ys.toArray n1 n2 d1 d2 sl1 sl2 ns ms (by simpa using hi) (by simpa using hj)) ⟨ho, ho2, show Value.bool (leL ns ms) ≠ Value.notImplemented ∧ Q (.bool (leL ns ms)) s from ⟨(fun x => nomatch x), h⟩⟩ (by omega)
end Leq
section Ris
section
variable {prog : Program} {w : World} {A : Around} {s : Shared} {h₀ : Heap} {L : Addr} {m : Str → Option Value} {env : Env} {ct elt : Expr} {x : Str} {scope : Scope} {cl : List (Str × Addr)} {S : List (Addr × Obj) → Prop} {P : Nat → Value → Prop} {Fin : List Value → List (Addr × Obj) → Prop}
theorem rules_Ris_1 : True := by
  k_with_none
  k_with "exec If" => (refine wpAny_If ?_)
  trivial
/-- a turn of a comprehension with a test, from what holds before it -/
noncomputable def CompTurnT (prog : Program) (w : World) (A : Around) (h₀ : Heap) (L : Addr) (m : Str → Option Value) (env : Env) (ct elt : Expr) (x : Str) (scope : Scope) (cl : List (Str × Addr)) (s : Shared) (S : List (Addr × Obj) → Prop) (P : Nat → Value → Prop)
    (Γ : Nat → List Value → List (Addr × Obj) → Prop) (n : Nat) : Prop :=
  ∀ i ys news v I oI C oC D m₂ h tk (E' : Value → Shared → Prop), i < n → P i v → Γ i ys news → LCg.NsObj oC m₂ → m₂ x = some v → Fr h₀ L h m → News h₀ L h ((I, oI) :: (C, oC) :: (D, LCg.lst ys) :: news) → LCg.Off3 I C D news → ((@Ne Nat I C) ∧ (@Ne Nat I D) ∧ (@Ne Nat C D)) →
    wpAny (model prog w) A (isTrue ct (compEnvC scope cl C env) (eval ct (compEnvC scope cl C env))) (fun ok s' => if ok = true then
      wpAny (model prog w) A (eval elt (compEnvC scope cl C env)) (LCg.CompEnd h₀ L m { s with heap := h, toks := tk } I oI C oC D (LCg.lst ys) S (fun y news' => Γ (i + 1) (ys ++ [y]) news')) E' s'
      else LCg.CompEnd h₀ L m { s with heap := h, toks := tk } I oI C oC D (LCg.lst ys) S (fun _ news' => Γ (i + 1) ys news') Value.none s') E' { s with heap := h, toks := tk }
theorem compT_ind {Γ : Nat → List Value → List (Addr × Obj) → Prop} {n : Nat} (T : ∀ s, CompTurnT prog w A h₀ L m env ct elt x scope cl s S P Γ n) (fin : ∀ ys news, Γ n ys news → Fin ys news) :
    ∀ (k i : Nat) (ys : List Value) (news : List (Addr × Obj)), i + k = n → Γ i ys news → LCt.CompRestT prog w A h₀ L m env ct elt x scope cl s S P Fin k i ys news
  | 0, i, ys, news, e, g => by
    subst e; exact fin ys news g
  | k + 1, i, ys, news, e, g => by
    refine LCt.CompRestT.succ fun v I oI C oC D m₂ h tk E' hP hC hx F N off ne => ?_
    refine wpAny_mono (T s i ys news v I oI C oC D m₂ h tk E' (by omega) hP g hC hx F N off ne) (fun ok s₂ q => ?_) fun _ _ e => e
    cases ok with
    | true =>
      simp only [↓reduceIte] at q ⊢
      refine wpAny_mono q (fun y s₃ q => ?_) fun _ _ e => e
      obtain ⟨h', tk', news', a, b, c, d, f, r⟩ := q
      exact ⟨h', tk', news', a, b, c, d, f, compT_ind T fin k (i + 1) _ _ (by omega) r⟩
    | false =>
      simp only [Bool.false_eq_true, ↓reduceIte] at q ⊢
      obtain ⟨h', tk', news', a, b, c, d, f, r⟩ := q
      exact ⟨h', tk', news', a, b, c, d, f, compT_ind T fin k (i + 1) _ _ (by omega) r⟩
end
section
variable {w : World} {A : Around} {E : Value → Shared → Prop} {s : Shared} {h₀ : Heap} {m : Str → Option Value} {news : List (Addr × Obj)}
/-- what a turn over a list leaves -/
noncomputable def TurnEnd (h₀ : Heap) (L : Addr) (I : Addr) (oI : Obj) (J : (Str → Option Value) → List (Addr × Obj) → Prop) (Qr : Value → Shared → Prop) (s₁ : Shared) (fl : Flow) (s₂ : Shared) : Prop :=
  match fl with
  | .ret v => Qr v s₂
  | .next => ∃ h' tk m' nw, s₂ = { s₁ with heap := h', toks := tk } ∧ Fr h₀ L h' m' ∧ News h₀ L h' ((I, oI) :: nw) ∧ (∀ p ∈ nw, @Ne Nat p.1 I) ∧ J m' nw
  | _ => False
theorem for_list {env : Env} {target : Expr} {body : List Stmt} {Q : Flow → Shared → Prop} {l : Addr} {vs : List Value} (J : Nat → (Str → Option Value) → List (Addr × Obj) → Prop) (hh : A.handled = none)
    (F : Fr h₀ env.locals s.heap m) (N : News h₀ env.locals s.heap news) (hl : h₀.IsList l vs.toArray) (h0 : J 0 m news)
    (turn : ∀ i v m₁ nw I oI h tk, vs[i]? = some v → J i m₁ nw → (∀ p ∈ nw, @Ne Nat p.1 I) → Fr h₀ env.locals h m₁ → News h₀ env.locals h ((I, oI) :: nw) →
      wpAny (MM w) A (assign target env v) (fun _ s₂ => wpAny (MM w) A (execs body env) (TurnEnd h₀ env.locals I oI (J (i + 1)) (fun v s' => Q (.ret v) s') { s with heap := h, toks := tk }) E s₂) E { s with heap := h, toks := tk })
    (done : ∀ m₁ nw h tk, J vs.length m₁ nw → Fr h₀ env.locals h m₁ → News h₀ env.locals h nw → Q .next { s with heap := h, toks := tk }) :
    wpAny (MM w) A (pyIter (.ref l)) (fun it s₂ => TurnsAt PG w A h₀ env target body Q E it s₂) E s := by
  obtain ⟨ol, hol, hr⟩ := id hl
  have hl' : s.heap.IsList l vs.toArray := ⟨ol, F.keep _ _ hol, hr⟩
  have hlt : l < s.heap.objs.size := Heap.lt_size (F.keep _ _ hol)
  have hneL : l ≠ env.locals := fun e => by have h1 := Heap.lt_size hol; have h2 := F.above; rw [e] at h1; exact absurd h2 (Nat.not_le.mpr h1)
  refine wpAny_pyIter_list hl' ?_
  have hnI : ∀ q ∈ news, q.1 ∉ [s.heap.objs.size] := fun q hq h => by
    rw [List.mem_singleton] at h
    have := Heap.lt_size (N q hq).1
    rw [h] at this
    exact absurd this (Nat.lt_irrefl _)
  have hkp : ∀ b o, s.heap.get? b = some o → (s.heap.push (liObj l 0)).get? b = some o := fun b o e => Heap.get?_push_of_some _ e
  have W := Walks.list (prog := PG) (w := w) hh s.heap.objs.size l (Nat.ne_of_lt hlt) vs.toArray
  rw [List.size_toArray] at W
  refine ⟨s.heap.objs.size, [s.heap.objs.size, l], [s.heap.objs.size], vs.length, fun i v _ => vs.toArray[i]? = some v, fun i v h => vs.toArray[i]? = some v ∧ h.IsListIter s.heap.objs.size l (i + 1) ∧ h.IsList l vs.toArray,
    fun i h => h.IsListIter s.heap.objs.size l i ∧ h.IsList l vs.toArray, m, news, J, rfl, KTurns.ofWalks W fun i v s Q E st q => letGo_listiter st.1 q, ?_, ?_, hnI, ⟨⟨_, Heap.get?_push_size _ rfl, rfl, rfl⟩, hl'.at fun o e => hkp _ o e⟩, fr_keep F hkp, news_keep N hkp, h0, ?_, ?_⟩
  · intro h
    simp only [List.mem_cons, List.not_mem_nil, or_false] at h
    rcases h with h | h
    · have := F.ns.lt; rw [h] at this; exact Nat.lt_irrefl _ this
    · exact hneL h.symm
  · intro b hb
    rw [List.mem_singleton.mp hb]
    cases q : h₀.get? s.heap.objs.size with
    | none => rfl
    | some o => exact absurd (Heap.lt_size (F.keep _ o q)) (Nat.lt_irrefl _)
  · intro i v m₁ news₁ h₁ tk₁ own hi hP hJ hna hof hog hoa hSt F₁ N₁
    obtain ⟨oI, hoI, hcI, hdI⟩ := hSt.1
    have hIn : h₀.get? s.heap.objs.size = none := by
      cases q : h₀.get? s.heap.objs.size with
      | none => rfl
      | some o => exact absurd (Heap.lt_size (F.keep _ o q)) (Nat.lt_irrefl _)
    have hmI := hoa s.heap.objs.size (.head _) hIn oI hoI
    have hown : ∀ p ∈ own, p = (s.heap.objs.size, oI) := fun p hp => by
      have h1 := hof p hp
      simp only [List.mem_cons, List.not_mem_nil, or_false] at h1
      rcases h1 with h1 | h1
      · have h2 := hog p hp
        rw [h1, hoI] at h2
        obtain ⟨a, b⟩ := p
        dsimp only at h1 h2
        rw [h1, Option.some.inj h2]
      · have := (N₁ p (List.mem_append_left _ hp)).2.2
        rw [h1, hol] at this; cases this
    have N₂ : News h₀ env.locals h₁ ((s.heap.objs.size, oI) :: news₁) := fun q hq => by
      rcases List.mem_cons.mp hq with rfl | hq
      · exact N₁ _ (List.mem_append_left _ hmI)
      · exact N₁ _ (List.mem_append_right _ hq)
    refine wpAny_mono (turn i v m₁ news₁ s.heap.objs.size oI h₁ tk₁ (by simpa using hP) hJ (fun p hp e => hna p hp (by rw [e]; exact .head _)) F₁ N₂) (fun _ s₂ q => wpAny_mono q (fun fl s₃ q => ?_) fun _ _ e => e) fun _ _ e => e
    cases fl with
    | ret v => exact .ret q
    | next =>
      obtain ⟨h', tk', m', nw, rfl, F', N', hne, hJ'⟩ := q
      refine .next ⟨rfl, h', tk', m', nw, rfl, F', fun p hp => ?_, fun p hp e => hne p hp (List.mem_singleton.mp e), hJ'⟩
      rcases List.mem_append.mp hp with hp | hp
      · rw [hown p hp]; exact N' _ (.head _)
      · exact N' _ (.tail _ hp)
    | brk => exact q.elim
    | cont => exact q.elim
  · intro h' tk m' news' F' N' _ hJ
    exact done m' news' h' tk hJ F' N'
end
section
set_option pp.maxSteps 3000
/-- a value is a list of ints -/
noncomputable def RowIs (h : Heap) (p : Value × List Int) : Prop := ∃ a xs, p.1 = .ref a ∧ h.IsList a xs.toArray ∧ IntsAre xs p.2
noncomputable def insR (tl : List (Value × List Int)) (p : Value × List Int) : List (Value × List Int) :=
  tl.take (tl.filter fun o => leL o.2 p.2).length ++ [p] ++ tl.drop (tl.filter fun o => leL o.2 p.2).length
theorem news_three {h₀ h : Heap} {L : Addr} {l : List (Addr × Obj)} {p q r : Addr × Obj} (N : News h₀ L h l) (hp : p ∈ l) (hq : q ∈ l) (hr : r ∈ l) : News h₀ L h [p, q, r] := fun x hx => by
  rcases List.mem_cons.mp hx with rfl | hx
  · exact N _ hp
  · rcases List.mem_cons.mp hx with rfl | hx
    · exact N _ hq
    · rw [List.mem_singleton.mp hx]; exact N _ hr
theorem fold_mem : ∀ (ps acc : List (Value × List Int)) (p : Value × List Int), p ∈ ps.foldl insR acc → p ∈ acc ∨ p ∈ ps
  | [], _, _, h => .inl h
  | q :: ps, acc, p, h => by
    rcases fold_mem ps _ p h with h | h
    · unfold insR at h
      rcases List.mem_append.mp h with h | h
      · rcases List.mem_append.mp h with h | h
        · exact .inl (List.mem_of_mem_take h)
        · exact .inr (by rw [List.mem_singleton.mp h]; exact .head _)
      · exact .inl (List.mem_of_mem_drop h)
    · exact .inr (.tail _ h)
theorem ins_len (tl : List (Value × List Int)) (p : Value × List Int) : (insR tl p).length = tl.length + 1 := by
  unfold insR
  rw [List.append_assoc, List.length_append, List.singleton_append, List.length_cons, ← Nat.add_assoc, ← List.length_append, List.take_append_drop]
theorem fold_len : ∀ (ps acc : List (Value × List Int)), (ps.foldl insR acc).length = acc.length + ps.length
  | [], _ => rfl
  | q :: ps, acc => by rw [List.foldl_cons, fold_len ps, ins_len, List.length_cons, Nat.add_assoc, Nat.add_comm 1]
theorem rules_Ris_2 : True := by
  k_with_none
  k_with "exec If" => (refine wpAny_If ?_)
  k_with "eval ListComp" => ((k_here; k_dflt (refine LCt.ListComp_T (F₀ := by k_asm) (by with_unfolding_all rfl) (by decide) (by rfl) (by decide) (by rfl) ?_)))
  trivial
noncomputable abbrev lsO (its : Array Value) (n : Nat) : Obj := { cls := .type "list", dict := none, data := .seq its n, slots := #[] }
theorem add_N {w : World} {A : Around} {E : Value → Shared → Prop} {s : Shared} {h₀ : Heap} {L l b : Addr} {m : Str → Option Value} {news : List (Addr × Obj)} {i1 i2 : Array Value} {n1 n2 : Nat} {Q : Value → Shared → Prop} (F : Fr h₀ L s.heap m) (N : News h₀ L s.heap news)
    (h1 : (l, lsO i1 n1) ∈ news) (h2 : (b, lsO i2 n2) ∈ news) (hsz : i1.size + i2.size ≤ sizeLine)
    (h : ∀ (D : Addr) (h' : Heap) (tk : Nat), Fr h₀ L h' m → News h₀ L h' ((D, lsO (i1 ++ i2) 0) :: news) → (∀ p ∈ news, p.1 < D) → Q (.ref D) { s with heap := h', toks := tk }) :
    wpAny (model PG w) A (binaryOp .Add (.ref l) (.ref b)) Q E s :=
  P.add_list (N _ h1).1 (N _ h2).1 (h _ _ s.toks (F.push _) (News.push F N _ rfl) fun p hp => Heap.lt_size (N p hp).1) hsz
theorem rules_Ris_3 : True := by
  k_with_none
  k_with "exec If" => (refine wpAny_If ?_)
  k_with "eval ListComp" => ((k_here; k_dflt (refine LCt.ListComp_T (F₀ := by k_asm) (by with_unfolding_all rfl) (by decide) (by rfl) (by decide) (by rfl) ?_)))
  k_with "eval Name" => ((k_here; k_dflt (refine' ldE ?k1 ?k2 ?_ (by rfl) (by rfl) (by decide); (case k1 => k_asm); (case k2 => first | with_reducible assumption | (dsimp only; rw [if_neg (by decide)]; with_reducible assumption) | (dsimp only; rw [if_pos rfl])); k_whole)))
  k_with "subscriptTail Name Slice ref ref" => (refine Halt.out ?_)
  k_with "call builtin:len" => (refine Halt.out ?_)
  k_with "binaryOp Add ref ref" => (refine Halt.out ?_)
  trivial
theorem ris_spec {w : World} {A : Around} {s : Shared} {Q E : Value → Shared → Prop} (R : Rdy w 600 A s.heap) (l : Addr) (ps : List (Value × List Int)) (hl : s.heap.IsList l (ps.map (·.1)).toArray) (hp : ∀ p ∈ ps, RowIs s.heap p) (h2 : ps.length ≤ 20)
    (hret : ∀ x h' tk', (∀ b o, s.heap.get? b = some o → h'.get? b = some o) → h'.IsList x ((ps.foldl insR []).map (·.1)).toArray → Q (.ref x) { s with heap := h', toks := tk' }) :
    wpAny (MM w) A (call (.ref 307) [.ref l]) Q E s := by
  refine R.go ?_
  intro gd base fs p loose mean mg mb B X T
  dsimp only [MM]; revert X; k_fill; intro X
  refine' wpAny_call (enterC B X T ?ho ?hcd ?hroom ?hbind ?hkind ?hnd ?_ ?c1 ?c2 ?c3)
  case ho => k_is
  case hcd => k_is
  case hroom => exact Nat.le_of_ble_eq_true rfl
  case hbind => first | exact BindsTo.of_eq rfl | exact binds_K (by k_in) rfl (by k_is) rfl rfl rfl
  case hkind => rfl
  case hnd => decide
  case c1 => rfl
  case c2 => rfl
  case c3 => rfl
  intro L' h₁ tk₁ cells F' N' Y'
  obtain ⟨o', hE', d1'⟩ := CellsAre.one Y'
  subst hE'; clear Y'
  replace d1' : o'.data = .cell none := d1'
  replace F' : Fr s.heap L' h₁ (fun y => if y = "rows" then some (.ref l) else none) := F'
  (try show wpAny _ _ _ _ _ _)
  (try k_fold)
  k_steps
  (with_reducible rename Fr _ _ _ _ => F9)
  refine For_turns F9 ?_
  k_steps
  (with_reducible rename News _ _ _ _ => N9)
  refine for_list (fun i m₁ nw => ∃ (Tl : Addr) (oc : Obj) (n : Nat) (ov : Option Value), m₁ "told" = some (.ref Tl) ∧ nw = [(Tl, ⟨.type "list", none, .seq (((ps.take i).foldl insR []).map (·.1)).toArray n, #[]⟩), (L' + 1, oc)] ∧ @Ne Nat Tl (L' + 1) ∧ oc.data = .cell ov) rfl F9 N9 hl ?_ ?_ ?_
  · refine ⟨_, o', _, _, rfl, rfl, ?_, d1'⟩
    intro e
    have ha := (N9 _ (.head _)).1
    have hb := (N9 _ (.tail _ (.head _))).1
    dsimp only at ha hb
    rw [e, hb] at ha
    rw [Option.some.inj ha] at d1'
    cases d1'
  · rintro i v m₁ nw I oI h tk hv ⟨Tl, oc, n, ov, hT, rfl, hTc, hoc⟩ hne F8 N8
    have n1 := hne _ (.head _)
    have n2 := hne _ (.tail _ (.head _))
    dsimp only at n1 n2
    clear hne
    rw [List.getElem?_map] at hv
    obtain ⟨⟨v', r⟩, hpi, rfl⟩ := Option.map_eq_some_iff.mp hv
    obtain ⟨a, xs, e, hla, hxs⟩ := hp _ (List.mem_of_getElem? hpi)
    dsimp only at e hxs
    subst e
    have htlm : ∀ p ∈ (ps.take i).foldl insR [], p ∈ ps := fun p hq => List.mem_of_mem_take ((fold_mem _ _ _ hq).resolve_left fun q => nomatch q)
    have htll : ((ps.take i).foldl insR []).length ≤ 20 := by rw [fold_len, List.length_take]; simp only [List.length_nil]; omega
    generalize htl : (ps.take i).foldl insR [] = tl at N8 htlm htll
    have hlx : ∀ h' : Heap, (∀ b o, s.heap.get? b = some o → h'.get? b = some o) → h'.IsList a xs.toArray := fun h' k => hla.at fun o e => k _ o e
    clear N9 F9
    k_steps
    (with_reducible rename News _ _ _ _ => N7)
    (with_reducible rename Fr _ _ _ _ => F7)
    refine LCt.CompSrcT.ledger (k := n) rfl F7 N7 (by k_mem) (by rw [List.size_toArray, List.length_map, sizeLine_eq]; omega) fun g => ?_
    refine compT_ind (Γ := fun j ys nw => nw = _ ∧ ys = ((tl.take j).filter fun o => leL o.2 r).map (·.1)) ?T ?fin _ 0 [] _ (Nat.zero_add _) ⟨rfl, rfl⟩
    case T =>
      intro s0 j ys nw v Ic oIc C oC D m₂ h tk E' hjn hP hΓ hC hx F N off ne
      obtain ⟨rfl, hys⟩ := hΓ
      rw [List.getElem?_toArray, List.getElem?_map] at hP
      obtain ⟨⟨v', r'⟩, hpj, rfl⟩ := Option.map_eq_some_iff.mp hP
      obtain ⟨b, zs, e, hlb, hzs⟩ := hp _ (htlm _ (List.mem_of_getElem? hpj))
      dsimp only at e hzs
      subst e
      have hlz : ∀ h' : Heap, (∀ b o, s.heap.get? b = some o → h'.get? b = some o) → h'.IsList b zs.toArray := fun h' k => hlb.at fun o e => k _ o e
      k_steps
      (with_reducible rename Fr _ _ _ _ => F6)
      (with_reducible rename News _ _ _ _ => N6)
      have htk : tl.take (j + 1) = tl.take j ++ [(.ref b, r')] := by rw [List.take_add_one, hpj]; rfl
      refine le_lists (hlz _ F6.keep) (hlx _ F6.keep) hzs hxs (Nat.le_of_ble_eq_true rfl) ?_
      cases hle : leL r' r
      · k_steps
        refine compEnd_same (by k_asm) (by k_asm) off ?_ ⟨rfl, ?_⟩
        · exact .inr ⟨_, .tail _ (.head _), rfl, _, rfl⟩
        · rw [hys, htk, List.filter_append]
          simp [hle]
      · k_steps
        refine compEnd_same (by k_asm) (by k_asm) off ?_ ⟨rfl, ?_⟩
        · exact .inr ⟨_, .tail _ (.head _), rfl, _, rfl⟩
        · rw [hys, htk, List.filter_append]
          simp [hle]
    case fin =>
      rintro ys nw ⟨rfl, hys⟩
      rw [List.size_toArray, List.length_map, List.take_length] at hys
      have hyn : ys.length = (tl.filter fun o => leL o.2 r).length := by rw [hys, List.length_map]
      have hyl : ys.length ≤ 20 := by rw [hyn]; exact Nat.le_trans (List.length_filter_le _ _) htll
      clear hys
      k_steps
      unfold Halt
      (with_reducible rename News _ _ _ _ => N5)
      refine call_len_list (items := ys.toArray) (News.isList N5 (.head _)) (by rw [List.size_toArray]; omega) ?_
      rw [List.size_toArray]
      generalize hK : (tl.filter fun o => leL o.2 r).length = kk at hyn
      rw [hyn]
      k_steps
      unfold Halt
      (with_reducible rename News _ _ _ _ => N2)
      (with_reducible rename Fr _ _ _ _ => F2)
      refine kmk_slice F2 N2 (News.isList N2 (.tail _ (.tail _ (.head _)))) .none (IsPart.int _ _) (fun D0 hB FB NB lB => ?_) (by with_unfolding_all rfl) (by intro _; with_unfolding_all rfl) ?hz0
      case hz0 => rw [List.size_toArray, List.length_map, sizeLine_eq]; omega
      clear N2 F2
      k_lt lB
      dsimp only
      k_steps
      unfold Halt
      (with_reducible rename News _ _ _ _ => N4)
      (with_reducible rename Fr _ _ _ _ => F4)
      refine add_N F4 N4 (.tail _ (.head _)) (.head _) ?hz1 fun D1 hA tA F3 N3 l3 => ?_
      case hz1 =>
        have e1 := slicePick_size_le (tl.map (·.1)).toArray none (some (kk : Int)) none
        have e0 : (tl.map (·.1)).toArray.size = tl.length := by rw [List.size_toArray, List.length_map]
        rw [e0] at e1
        rw [sizeLine_eq]
        show _ + 1 ≤ _
        omega
      clear N4 F4
      k_lt l3
      dsimp only
      k_steps
      unfold Halt
      (with_reducible rename News _ _ _ _ => N2)
      (with_reducible rename Fr _ _ _ _ => F2)
      refine kmk_slice F2 N2 (News.isList N2 (.tail _ (.tail _ (.tail _ (.tail _ (.tail _ (.head _))))))) (IsPart.int _ _) .none (fun D2 hB FB NB lB => ?_) (by with_unfolding_all rfl) (by intro _; with_unfolding_all rfl) ?hz2
      case hz2 => rw [List.size_toArray, List.length_map, sizeLine_eq]; omega
      clear N2 F2
      k_lt lB
      dsimp only
      k_steps
      unfold Halt
      (with_reducible rename News _ _ _ _ => N2)
      (with_reducible rename Fr _ _ _ _ => F2)
      refine add_N F2 N2 (.tail _ (.head _)) (.head _) ?hz3 fun D3 hC tC F0 N0 l0 => ?_
      case hz3 =>
        have e1 := slicePick_size_le (tl.map (·.1)).toArray none (some (kk : Int)) none
        have e2 := slicePick_size_le (tl.map (·.1)).toArray (some (kk : Int)) none none
        have e0 : (tl.map (·.1)).toArray.size = tl.length := by rw [List.size_toArray, List.length_map]
        rw [e0] at e1 e2
        rw [sizeLine_eq, Array.size_append]
        show _ + 1 + _ ≤ _
        omega
      clear N2 F2
      k_lt l0
      dsimp only
      k_steps
      (with_reducible rename News _ _ _ _ => N2)
      (with_reducible rename Fr _ _ _ _ => F2)
      have hI : @Ne Nat D3 I := (Nat.ne_of_lt l0.2.2.2.2.2.1).symm
      have hL : @Ne Nat D3 (L' + 1) := (Nat.ne_of_lt l0.2.2.2.2.2.2.2).symm
      rw [slicePick_upto', slicePick_from', ← hK] at N2
      have eA : (List.take (tl.filter fun o => leL o.2 r).length (tl.map (·.1)).toArray.toList).toArray ++ #[.ref a] ++ (List.drop (tl.filter fun o => leL o.2 r).length (tl.map (·.1)).toArray.toList).toArray = (((ps.take (i + 1)).foldl insR []).map (·.1)).toArray := by
        rw [List.take_add_one, hpi, List.foldl_append, htl]
        simp [insR, List.map_take, List.map_drop]
      rw [eA] at N2
      have N7 := news_three N2 (.tail _ (.tail _ (.tail _ (.tail _ (.tail _ (.tail _ (.head _))))))) (.head _) (.tail _ (.tail _ (.tail _ (.tail _ (.tail _ (.tail _ (.tail _ (.tail _ (.head _)))))))))
      refine ⟨_, _, _, [(D3, _), (L' + 1, _)], rfl, F2, N7, fun q hq => ?_, D3, _, 0, _, rfl, rfl, hL, by with_reducible assumption⟩
      rcases List.mem_cons.mp hq with rfl | hq
      · exact hI
      · rw [List.mem_singleton.mp hq]
        exact n2
  · rintro m₁ nw h tk ⟨Tl, oc, n, ov, hT, rfl, hTc, hoc⟩ F8 N8
    clear N9 F9
    have et : List.take (List.map (fun x => x.1) ps).length ps = ps := by rw [List.length_map, List.take_length]
    rw [et] at N8
    k_steps
    dsimp only
    exact hret _ _ _ F8.keep (News.isList N8 (.head _))
end
end Ris
section B64d
theorem rules_B64d_1 : True := by
  k_with_none
  k_with "exec If" => (refine wpAny_If ?_)
  trivial
/-- the reading of letters, turn by turn -/
structure DS where
  q : Int
  l : Int
  p : Int
  o : List Int
noncomputable def dstep (σ : DS) (k : Int) : DS :=
  if k = 61 then ⟨σ.q, σ.l, σ.p + 1, σ.o⟩ else
  if σ.q = 0 then ⟨1, b64v k, 0, σ.o⟩ else
  if σ.q = 1 then ⟨2, Builtin.bitAnd (b64v k) 15, 0, σ.o ++ [Builtin.bitOr (σ.l * 2 ^ Int.toNat 2) ((b64v k).fdiv (2 ^ Int.toNat 4))]⟩ else
  if σ.q = 2 then ⟨3, Builtin.bitAnd (b64v k) 3, 0, σ.o ++ [Builtin.bitOr (σ.l * 2 ^ Int.toNat 4) ((b64v k).fdiv (2 ^ Int.toNat 2))]⟩ else
  ⟨0, 0, 0, σ.o ++ [Builtin.bitOr (σ.l * 2 ^ Int.toNat 6) (b64v k)]⟩
noncomputable def dfold (ks : List Int) : DS := ks.foldl dstep ⟨0, 0, 0, []⟩
theorem dfold_succ {ks : List Int} {i : Nat} {k : Int} (h : ks[i]? = some k) : dfold (ks.take (i + 1)) = dstep (dfold (ks.take i)) k := by
  unfold dfold
  rw [List.take_add_one, h, List.foldl_append]
  rfl
/-- what stands after some turns -/
noncomputable def DAt (σ : DS) (j : Nat) (m : Str → Option Value) (nw : List (Addr × Obj)) : Prop :=
  ∃ (o : Addr) (vs : Array Value) (n : Nat) (tq tl tp ti : Tok), m "quad_pos" = some (.int σ.q tq) ∧ m "leftchar" = some (.int σ.l tl) ∧ m "pads" = some (.int σ.p tp) ∧ m "i" = some (.int (j : Int) ti) ∧ m "strict_mode" = some (.bool false) ∧ m "out" = some (.ref o) ∧ nw = [(o, PySem.W.listOf vs n)] ∧ IntsAre vs.toList σ.o ∧ σ.o.length ≤ j
theorem dstep_p {σ : DS} : dstep σ 61 = ⟨σ.q, σ.l, σ.p + 1, σ.o⟩ := if_pos rfl
theorem dstep_0 {σ : DS} {k : Int} (h : k ≠ 61) (h0 : σ.q = 0) : dstep σ k = ⟨1, b64v k, 0, σ.o⟩ := by unfold dstep; rw [if_neg h, if_pos h0]
theorem dstep_1 {σ : DS} {k : Int} (h : k ≠ 61) (h0 : σ.q = 1) : dstep σ k = ⟨2, Builtin.bitAnd (b64v k) 15, 0, σ.o ++ [Builtin.bitOr (σ.l * 2 ^ Int.toNat 2) ((b64v k).fdiv (2 ^ Int.toNat 4))]⟩ := by unfold dstep; rw [if_neg h, if_neg (by omega), if_pos h0]
theorem dstep_2 {σ : DS} {k : Int} (h : k ≠ 61) (h0 : σ.q = 2) : dstep σ k = ⟨3, Builtin.bitAnd (b64v k) 3, 0, σ.o ++ [Builtin.bitOr (σ.l * 2 ^ Int.toNat 4) ((b64v k).fdiv (2 ^ Int.toNat 2))]⟩ := by unfold dstep; rw [if_neg h, if_neg (by omega), if_neg (by omega), if_pos h0]
theorem dstep_3 {σ : DS} {k : Int} (h : k ≠ 61) (h0 : σ.q ≠ 0) (h1 : σ.q ≠ 1) (h2 : σ.q ≠ 2) : dstep σ k = ⟨0, 0, 0, σ.o ++ [Builtin.bitOr (σ.l * 2 ^ Int.toNat 6) (b64v k)]⟩ := by unfold dstep; rw [if_neg h, if_neg h0, if_neg h1, if_neg h2]
theorem rules_B64d_2 : True := by
  k_with_none
  k_with "exec If" => (refine wpAny_If ?_)
  k_with "dat" => (((with_reducible rename Fr _ _ _ _ => F2); (with_reducible rename News _ _ _ _ => N2); refine ⟨_, _, _, [(_, _)], rfl, F2, N2, fun p hp => by rw [List.mem_singleton.mp hp]; with_reducible assumption, ?_⟩))
  k_with "lk" => (repeat (first | with_reducible assumption | (with_reducible exact upd_here) | (with_reducible apply upd_there; (focus (decide))) | exact upd_here))
  k_with "storeName" => ((k_here; k_dflt (first | (refine' storeUI ?F ?N ?_ ?a ?b; (case F => k_asm); (case N => k_asm); (case a => rfl); (case b => rfl); k_whole; intro h' tk' t' F' N'; (try k_sweep)) | (refine' storeU ?F ?N ?_ ?a ?b; (case F => k_asm); (case N => k_asm); (case a => rfl); (case b => rfl); k_whole; intro h' tk' F' N'; (try k_sweep)))))
  k_with "call type:type" => (((with_reducible show wpAny _ _ (call _ [Value.bytes _ _]) _ _ _); refine call_type_of (Tx := "bytes") rfl (by decide +kernel) ?_))
  k_with "eval Name" => ((k_here; k_dflt (refine' ldE ?k1 ?k2 ?_ (by rfl) (by rfl) (by decide); (case k1 => k_asm); (case k2 => ((repeat (first | with_reducible assumption | (with_reducible exact upd_here) | (with_reducible apply upd_there; (focus (decide))))); done)); k_whole)))
  k_with "call ref" => ((k_here; (with_reducible show wpAny _ _ (call (Value.ref 161) [Value.bytes _ _]) _ _ _); k_dflt (refine' asb_spec (Rdy.of_walk ?B ?F ?X ?T rfl rfl (Nat.le_of_ble_eq_true rfl) (Nat.le_of_ble_eq_true rfl) rfl) _ _ ?_; (case F => k_asm); (case B => k_asm); (case X => k_asm); (case T => k_asm); k_whole); intro h9 tk9 hk9; (have F9 := fr_keep (by with_reducible assumption) hk9); (have N9 := news_keep (by with_reducible assumption) hk9); (try dsimp only)))
  k_with "call ref" => ((k_here; (with_reducible show wpAny _ _ (call (Value.ref 175) [Value.bool false]) _ _ _); k_dflt (refine' tru_spec (Rdy.of_walk ?B ?F ?X ?T rfl rfl (Nat.le_of_ble_eq_true rfl) (Nat.le_of_ble_eq_true rfl) rfl) ?_; (case F => k_asm); (case B => k_asm); (case X => k_asm); (case T => k_asm); k_whole); intro h9 tk9 hk9; (have F9 := fr_keep (by with_reducible assumption) hk9); (have N9 := news_keep (by with_reducible assumption) hk9); (try dsimp only)))
  k_with "call ref" => ((k_here; (with_reducible show wpAny _ _ (call (Value.ref 182) [Value.int _ _]) _ _ _); k_dflt (refine' b64v_spec (Rdy.of_walk ?B ?F ?X ?T rfl rfl (Nat.le_of_ble_eq_true rfl) (Nat.le_of_ble_eq_true rfl) rfl) _ _ ?_; (case F => k_asm); (case B => k_asm); (case X => k_asm); (case T => k_asm); k_whole); intro v9 t9 h9 tk9 hv9 hk9; (have F9 := fr_keep (by with_reducible assumption) hk9); (have N9 := news_keep (by with_reducible assumption) hk9); (have g9 : v9 < 64 := by rw [hv9]; assumption); (have p9 : 0 ≤ v9 := by rw [hv9]; exact b64v_nonneg (by with_reducible assumption)); (try dsimp only)))
  trivial
theorem eq61 {prog : Program} {w : World} {A : Around} {E : Value → Shared → Prop} {s : Shared} {x : Int} {t u : Tok} {Q : Value → Shared → Prop} (hx : x ≠ 61) (h : Q (.bool false) s) : wpAny (model prog w) A (compareOp .Eq (.int x t) (.int 61 u)) Q E s :=
  eq_int (by rw [beq_eq_false_iff_ne.mpr hx]; exact h)
theorem rules_B64d_3 : True := by
  k_with_none
  k_with "exec If" => (refine wpAny_If ?_)
  k_with "dat" => (((with_reducible rename Fr _ _ _ _ => F2); (with_reducible rename News _ _ _ _ => N2); refine ⟨_, _, _, [(_, _)], rfl, F2, N2, fun p hp => by rw [List.mem_singleton.mp hp]; with_reducible assumption, ?_⟩))
  k_with "lk" => (repeat (first | with_reducible assumption | (with_reducible exact upd_here) | (with_reducible apply upd_there; (focus (decide))) | exact upd_here))
  k_with "storeName" => ((k_here; k_dflt (first | (refine' storeUI ?F ?N ?_ ?a ?b; (case F => k_asm); (case N => k_asm); (case a => rfl); (case b => rfl); k_whole; intro h' tk' t' F' N'; (try k_sweep)) | (refine' storeU ?F ?N ?_ ?a ?b; (case F => k_asm); (case N => k_asm); (case a => rfl); (case b => rfl); k_whole; intro h' tk' F' N'; (try k_sweep)))))
  k_with "call type:type" => (((with_reducible show wpAny _ _ (call _ [Value.bytes _ _]) _ _ _); refine call_type_of (Tx := "bytes") rfl (by decide +kernel) ?_))
  k_with "eval Name" => ((k_here; k_dflt (refine' ldE ?k1 ?k2 ?_ (by rfl) (by rfl) (by decide); (case k1 => k_asm); (case k2 => ((repeat (first | with_reducible assumption | (with_reducible exact upd_here) | (with_reducible apply upd_there; (focus (decide))))); done)); k_whole)))
  k_with "call ref" => ((k_here; (with_reducible show wpAny _ _ (call (Value.ref 161) [Value.bytes _ _]) _ _ _); k_dflt (refine' asb_spec (Rdy.of_walk ?B ?F ?X ?T rfl rfl (Nat.le_of_ble_eq_true rfl) (Nat.le_of_ble_eq_true rfl) rfl) _ _ ?_; (case F => k_asm); (case B => k_asm); (case X => k_asm); (case T => k_asm); k_whole); intro h9 tk9 hk9; (have F9 := fr_keep (by with_reducible assumption) hk9); (have N9 := news_keep (by with_reducible assumption) hk9); (try dsimp only)))
  k_with "call ref" => ((k_here; (with_reducible show wpAny _ _ (call (Value.ref 175) [Value.bool false]) _ _ _); k_dflt (refine' tru_spec (Rdy.of_walk ?B ?F ?X ?T rfl rfl (Nat.le_of_ble_eq_true rfl) (Nat.le_of_ble_eq_true rfl) rfl) ?_; (case F => k_asm); (case B => k_asm); (case X => k_asm); (case T => k_asm); k_whole); intro h9 tk9 hk9; (have F9 := fr_keep (by with_reducible assumption) hk9); (have N9 := news_keep (by with_reducible assumption) hk9); (try dsimp only)))
  k_with "call ref" => ((k_here; (with_reducible show wpAny _ _ (call (Value.ref 182) [Value.int _ _]) _ _ _); k_dflt (refine' b64v_spec (Rdy.of_walk ?B ?F ?X ?T rfl rfl (Nat.le_of_ble_eq_true rfl) (Nat.le_of_ble_eq_true rfl) rfl) _ _ ?_; (case F => k_asm); (case B => k_asm); (case X => k_asm); (case T => k_asm); k_whole); intro v9 t9 h9 tk9 hv9 hk9; (have F9 := fr_keep (by with_reducible assumption) hk9); (have N9 := news_keep (by with_reducible assumption) hk9); (have g9 : v9 < 64 := by rw [hv9]; assumption); (have p9 : 0 ≤ v9 := by rw [hv9]; exact b64v_nonneg (by with_reducible assumption)); (try dsimp only)))
  k_with "compareOp Eq int int" => ((k_here; (with_reducible show wpAny _ _ (compareOp CmpOp.Eq (Value.int _ _) (Value.int 61 _)) _ _ _); refine eq61 (by with_reducible assumption) ?_))
  k_with "eval Call" => (((with_reducible show wpAny _ _ (eval (Expr.Call (Expr.Name "_b64_value" _) _ _ _) _) _ _ _); refine Call_Name rfl ?_))
  k_with "call builtin:list.append" => ((k_here; (with_reducible show wpAny _ _ (call (Value.builtin _) [Value.ref _, _]) _ _ _); k_dflt (refine' append_K ?k1 ?k2 ?k3 ?_ ?z; (case k1 => k_asm); (case k2 => k_asm); (case k3 => exact upd2 (by with_reducible assumption)); (case z => with_reducible assumption); k_whole); intro h' F' N'))
  trivial
theorem a2b_spec {w : World} {A : Around} {s : Shared} {Q E : Value → Shared → Prop} (R : Rdy w 500 A s.heap) (v : Array UInt8) (tv : Tok) (σ : DS) (hv4 : v.size = 4)
    (hv : ∀ i c, v[i]? = some c → (((c.toNat : Nat) : Int) = 61 ∧ 2 ≤ (dfold ((KBw.bInts v).take i)).q ∧ (dfold ((KBw.bInts v).take i)).q + (dfold ((KBw.bInts v).take i)).p + 1 ≤ 4) ∨ (((c.toNat : Nat) : Int) ≠ 61 ∧ b64v ((c.toNat : Nat) : Int) < 64 ∧ (dfold ((KBw.bInts v).take i)).p = 0 ∧ 0 ≤ (dfold ((KBw.bInts v).take i)).l ∧ (dfold ((KBw.bInts v).take i)).l < 64))
    (hσ : dfold (KBw.bInts v) = σ) (hq : σ.q ≠ 1 ∧ (σ.q = 0 ∨ 4 ≤ σ.q + σ.p)) (ho : ∀ o ∈ σ.o, 0 ≤ o ∧ o < 256) (ho3 : σ.o.length ≤ 3)
    (hret : ∀ t h' tk', (∀ b o, s.heap.get? b = some o → h'.get? b = some o) → Q (.bytes (σ.o.map fun o => o.toNat.toUInt8).toArray t) { s with heap := h', toks := tk' }) :
    wpAny (MM w) A (call (.ref 190) [.bytes v tv] [("strict_mode", .bool false)]) Q E s := by
  rcases s with ⟨hp, gs, dr, tk0, os⟩
  dsimp only at R hret ⊢
  refine R.go ?_
  intro gd base fs p loose mean mg mb B X T
  dsimp only [MM]; revert X; k_fill; intro X
  refine' wpAny_call (enterP B X T ?ho ?hcd ?hroom ?hbind ?hloc ?_ ?c1 ?c2 ?c3 ?c4)
  case ho => k_is
  case hcd => k_is
  case hroom => exact Nat.le_of_ble_eq_true rfl
  case hbind => first | exact BindsTo.of_eq rfl | exact binds_K (by k_in) rfl (by k_is) rfl rfl rfl
  case hloc => exact locs rfl
  case c1 => rfl
  case c2 => rfl
  case c3 => rfl
  case c4 => decide
  intro L' h₁ F' N'
  replace F' : Fr hp L' h₁ (fun y => List.lookup y [("strict_mode", .bool false), ("data", .bytes v tv)]) := F'
  show wpAny _ _ _ _ _ _
  k_fold
  k_steps
  (with_reducible rename Fr _ _ _ _ => F9)
  (with_reducible rename News _ _ _ _ => N9)
  refine loop_bytes (fun i m nw => DAt (dfold ((KBw.bInts v).take i)) i m nw) rfl F9 N9 ?h0 ?turn ?done
  case h0 => exact ⟨_, #[], 0, _, _, _, _, rfl, rfl, rfl, rfl, rfl, rfl, rfl, .nil, Nat.le_refl 0⟩
  case turn =>
    clear N9 F9
    rintro i c t m₁ _ I oI h tk hc ⟨o, vs, n, tq, tl, tp, ti, hmq, hml, hmp, hmi, hms, hmo, rfl, hvs, hlen⟩ hne F8 N8
    replace F8 : Fr hp L' h (upd m₁ "this_ch" (.int ((c.toNat : Nat) : Int) t)) := F8
    have hne := hne _ (.head _)
    dsimp only at hne
    have hi4 : i < 4 := by
      rcases Nat.lt_or_ge i 4 with h | h
      · exact h
      · rw [Array.getElem?_eq_none (by omega)] at hc; cases hc
    have hk := hv i c hc
    have hck : (0 : Int) ≤ ((c.toNat : Nat) : Int) := Int.natCast_nonneg _
    have hs := dfold_succ (KBw.ints_get hc)
    generalize dfold ((KBw.bInts v).take i) = τ at hmq hml hmp hvs hs hk hlen
    generalize ((c.toNat : Nat) : Int) = k at *
    have hz9 : vs.size ≤ sizeLine := by have := hvs.length; rw [Array.length_toList] at this; rw [sizeLine_eq]; omega
    clear hσ hq ho ho3 hret hv
    try dsimp only
    rcases hk with ⟨rfl, hk1, hk2⟩ | ⟨hk1, hk2, hk3, hk4, hk5⟩
    · show wpAny _ _ _ _ _ _
      (try k_fold)
      k_steps
      dsimp only
      walk_at "dat"
      rw [hs, dstep_p]
      exact ⟨o, vs, n, _, _, _, _, by walk_at "lk", by walk_at "lk", by walk_at "lk", by walk_at "lk", by walk_at "lk", by walk_at "lk", rfl, hvs, Nat.le_succ_of_le hlen⟩
    · rw [hk3] at hmp
      (try show wpAny _ _ _ _ _ _)
      (try k_fold)
      k_steps
      · walk_at "dat"
        (with_reducible rename _ = b64v k => hv9); subst hv9
        rw [hs, dstep_0 hk1 (by with_reducible assumption)]
        exact ⟨o, vs, n, _, _, _, _, by walk_at "lk", by walk_at "lk", by walk_at "lk", by walk_at "lk", by walk_at "lk", by walk_at "lk", rfl, hvs, Nat.le_succ_of_le hlen⟩
      · walk_at "dat"
        (with_reducible rename _ = b64v k => hv9); subst hv9
        rw [hs, dstep_1 hk1 (by with_reducible assumption)]
        refine ⟨o, _, _, _, _, _, _, by walk_at "lk", by walk_at "lk", by walk_at "lk", by walk_at "lk", by walk_at "lk", by walk_at "lk", rfl, intsAre_push hvs, ?_⟩
        rw [List.length_append]; exact Nat.succ_le_succ hlen
      · walk_at "dat"
        (with_reducible rename _ = b64v k => hv9); subst hv9
        rw [hs, dstep_2 hk1 (by with_reducible assumption)]
        refine ⟨o, _, _, _, _, _, _, by walk_at "lk", by walk_at "lk", by walk_at "lk", by walk_at "lk", by walk_at "lk", by walk_at "lk", rfl, intsAre_push hvs, ?_⟩
        rw [List.length_append]; exact Nat.succ_le_succ hlen
      · walk_at "dat"
        (with_reducible rename _ = b64v k => hv9); subst hv9
        rw [hs, dstep_3 hk1 (by with_reducible assumption) (by with_reducible assumption) (by with_reducible assumption)]
        refine ⟨o, _, _, _, _, _, _, by walk_at "lk", by walk_at "lk", by walk_at "lk", by walk_at "lk", by walk_at "lk", by walk_at "lk", rfl, intsAre_push hvs, ?_⟩
        rw [List.length_append]; exact Nat.succ_le_succ hlen
  case done =>
    clear N9 F9
    rintro m₁ _ h tk ⟨o, ⟨vs⟩, n, tq, tl, tp, ti, hmq, hml, hmp, hmi, hms, hmo, rfl, hvs, hlen⟩ F8 N8
    have e : (KBw.bInts v).take v.size = KBw.bInts v := by rw [← KBw.ints_length, List.take_length]
    rw [e, hσ] at hmq hml hmp hvs
    obtain ⟨hq1, hq2⟩ := hq
    clear hv
    try dsimp only
    k_steps
    · exfalso; omega
    · exact hret _ _ _ (Fr.keep (by assumption))
    · exact hret _ _ _ (Fr.keep (by assumption))
theorem rules_B64d_4 : True := by
  k_with_none
  k_with "exec If" => (refine wpAny_If ?_)
  k_with "dat" => (((with_reducible rename Fr _ _ _ _ => F2); (with_reducible rename News _ _ _ _ => N2); refine ⟨_, _, _, [(_, _)], rfl, F2, N2, fun p hp => by rw [List.mem_singleton.mp hp]; with_reducible assumption, ?_⟩))
  k_with "lk" => (repeat (first | with_reducible assumption | (with_reducible exact upd_here) | (with_reducible apply upd_there; (focus (decide))) | exact upd_here))
  k_with "storeName" => ((k_here; k_dflt (first | (refine' storeUI ?F ?N ?_ ?a ?b; (case F => k_asm); (case N => k_asm); (case a => rfl); (case b => rfl); k_whole; intro h' tk' t' F' N'; (try k_sweep)) | (refine' storeU ?F ?N ?_ ?a ?b; (case F => k_asm); (case N => k_asm); (case a => rfl); (case b => rfl); k_whole; intro h' tk' F' N'; (try k_sweep)))))
  k_with "call type:type" => (((with_reducible show wpAny _ _ (call _ [Value.bytes _ _]) _ _ _); refine call_type_of (Tx := "bytes") rfl (by decide +kernel) ?_))
  k_with "eval Name" => ((k_here; k_dflt (refine' ldE ?k1 ?k2 ?_ (by rfl) (by rfl) (by decide); (case k1 => k_asm); (case k2 => ((repeat (first | with_reducible assumption | (with_reducible exact upd_here) | (with_reducible apply upd_there; (focus (decide))))); done)); k_whole)))
  k_with "call ref" => ((k_here; (with_reducible show wpAny _ _ (call (Value.ref 161) [Value.bytes _ _]) _ _ _); k_dflt (refine' asb_spec (Rdy.of_walk ?B ?F ?X ?T rfl rfl (Nat.le_of_ble_eq_true rfl) (Nat.le_of_ble_eq_true rfl) rfl) _ _ ?_; (case F => k_asm); (case B => k_asm); (case X => k_asm); (case T => k_asm); k_whole); intro h9 tk9 hk9; (have F9 := fr_keep (by with_reducible assumption) hk9); (have N9 := news_keep (by with_reducible assumption) hk9); (try dsimp only)))
  k_with "call ref" => ((k_here; (with_reducible show wpAny _ _ (call (Value.ref 175) [Value.bool false]) _ _ _); k_dflt (refine' tru_spec (Rdy.of_walk ?B ?F ?X ?T rfl rfl (Nat.le_of_ble_eq_true rfl) (Nat.le_of_ble_eq_true rfl) rfl) ?_; (case F => k_asm); (case B => k_asm); (case X => k_asm); (case T => k_asm); k_whole); intro h9 tk9 hk9; (have F9 := fr_keep (by with_reducible assumption) hk9); (have N9 := news_keep (by with_reducible assumption) hk9); (try dsimp only)))
  k_with "call ref" => ((k_here; (with_reducible show wpAny _ _ (call (Value.ref 182) [Value.int _ _]) _ _ _); k_dflt (refine' b64v_spec (Rdy.of_walk ?B ?F ?X ?T rfl rfl (Nat.le_of_ble_eq_true rfl) (Nat.le_of_ble_eq_true rfl) rfl) _ _ ?_; (case F => k_asm); (case B => k_asm); (case X => k_asm); (case T => k_asm); k_whole); intro v9 t9 h9 tk9 hv9 hk9; (have F9 := fr_keep (by with_reducible assumption) hk9); (have N9 := news_keep (by with_reducible assumption) hk9); (have g9 : v9 < 64 := by rw [hv9]; assumption); (have p9 : 0 ≤ v9 := by rw [hv9]; exact b64v_nonneg (by with_reducible assumption)); (try dsimp only)))
  k_with "compareOp Eq int int" => ((k_here; (with_reducible show wpAny _ _ (compareOp CmpOp.Eq (Value.int _ _) (Value.int 61 _)) _ _ _); refine eq61 (by with_reducible assumption) ?_))
  k_with "eval Call" => (((with_reducible show wpAny _ _ (eval (Expr.Call (Expr.Name "_b64_value" _) _ _ _) _) _ _ _); refine Call_Name rfl ?_))
  k_with "call builtin:list.append" => ((k_here; (with_reducible show wpAny _ _ (call (Value.builtin _) [Value.ref _, _]) _ _ _); k_dflt (refine' append_K ?k1 ?k2 ?k3 ?_ ?z; (case k1 => k_asm); (case k2 => k_asm); (case k3 => exact upd2 (by with_reducible assumption)); (case z => with_reducible assumption); k_whole); intro h' F' N'))
  k_with "getMethod bytes" => ((k_here; with_reducible refine meth_translate ?_))
  k_with "getMethod str" => ((k_here; with_reducible refine meth_encode ?_))
  k_with "call builtin:str.encode" => ((k_here; refine call_encode (by with_reducible assumption) (enc4_two (by with_reducible assumption)) (enc4_fit (by with_reducible assumption)) ?_; intro _))
  k_with "call builtin:bytes.translate" => ((k_here; refine tr_dec4 (by with_reducible assumption) (by kernel_rfl) (encb_fit (by with_reducible assumption)) ?_; intro _ _))
  k_with "call ref" => ((k_here; (with_reducible show wpAny _ _ (call (Value.ref 190) [Value.bytes _ _] _) _ _ _); k_dflt (refine' a2b_spec (Rdy.of_walk ?B ?F ?X ?T rfl rfl (Nat.le_of_ble_eq_true rfl) (Nat.le_of_ble_eq_true rfl) rfl) _ _ _ (by with_reducible assumption) (by with_reducible assumption) (by with_reducible assumption) (by with_reducible assumption) (by with_reducible assumption) (by with_reducible assumption) ?_; (case F => k_asm); (case B => k_asm); (case X => k_asm); (case T => k_asm); k_whole); intro t9 h9 tk9 hk9; (have F9 := fr_keep (by with_reducible assumption) hk9); (have N9 := news_keep (by with_reducible assumption) hk9); (try dsimp only)))
  trivial
theorem b64d_spec {w : World} {A : Around} {s : Shared} {Q E : Value → Shared → Prop} (R : Rdy w 400 A s.heap) (x : Str) (tx : Tok) (v : Array UInt8) (σ : DS) (hx : ∀ c ∈ x.cps, c < 128) (hx4 : x.length = 4) (he : trF decTab (x.cps.map fun c => c.toUInt8) = v) (hv4 : v.size = 4)
    (hv : ∀ i c, v[i]? = some c → (((c.toNat : Nat) : Int) = 61 ∧ 2 ≤ (dfold ((KBw.bInts v).take i)).q ∧ (dfold ((KBw.bInts v).take i)).q + (dfold ((KBw.bInts v).take i)).p + 1 ≤ 4) ∨ (((c.toNat : Nat) : Int) ≠ 61 ∧ b64v ((c.toNat : Nat) : Int) < 64 ∧ (dfold ((KBw.bInts v).take i)).p = 0 ∧ 0 ≤ (dfold ((KBw.bInts v).take i)).l ∧ (dfold ((KBw.bInts v).take i)).l < 64))
    (hσ : dfold (KBw.bInts v) = σ) (hq : σ.q ≠ 1 ∧ (σ.q = 0 ∨ 4 ≤ σ.q + σ.p)) (ho : ∀ o ∈ σ.o, 0 ≤ o ∧ o < 256) (ho3 : σ.o.length ≤ 3)
    (hret : ∀ t h' tk', (∀ b o, s.heap.get? b = some o → h'.get? b = some o) → Q (.bytes (σ.o.map fun o => o.toNat.toUInt8).toArray t) { s with heap := h', toks := tk' }) :
    wpAny (MM w) A (call (.ref 251) [.str x tx]) Q E s := by
  rcases s with ⟨hp, gs, dr, tk0, os⟩
  dsimp only at R hret ⊢
  refine R.go ?_
  intro gd base fs p loose mean mg mb B X T
  dsimp only [MM]; revert X; k_fill; intro X
  refine' wpAny_call (enterP B X T ?ho ?hcd ?hroom ?hbind ?hloc ?_ ?c1 ?c2 ?c3 ?c4)
  case ho => k_is
  case hcd => k_is
  case hroom => exact Nat.le_of_ble_eq_true rfl
  case hbind => first | exact BindsTo.of_eq rfl | exact binds_K (by k_in) rfl (by k_is) rfl rfl rfl
  case hloc => exact locs rfl
  case c1 => rfl
  case c2 => rfl
  case c3 => rfl
  case c4 => decide
  intro L' h₁ F' N'
  replace F' : Fr hp L' h₁ (fun y => List.lookup y [("s", .str x tx)]) := F'
  show wpAny _ _ _ _ _ _
  k_fold
  k_steps
  exact hret _ _ _ (Fr.keep (by assumption))
end B64d
section Cls
theorem rules_Cls_1 : True := by
  k_with_none
  k_with "exec If" => (refine wpAny_If ?_)
  k_with "ws" => ((first | with_reducible (first | refine wpAny_pure ?_ | refine wpAny_bind ?_ | refine wpAny_holding ?_ | refine wpAny_standAt ?_ | refine wpAny_point ?_ | refine wpAny_rule ?_ | refine wpAny_letGo ?_ | refine wpAny_mkInt' ?_ | refine wpAny_fresh' ?_ | refine wpAny_alloc' ?_ | refine wpAny_attempt ?_ | refine wpAny_throw ?_ | refine wpAny_of_eq (by assumption) ?_ | refine wpAny_typeOf (by assumption) ?_ | refine wpAny_specialOf_val (by assumption) (by assumption) ?_ | refine wpAny_specialOf (by assumption) (by assumption) ?_ | refine wpAny_isInstance_val (by assumption) (by assumption) ?_ | refine wpAny_isInstance (by assumption) (by assumption) ?_ | refine wpAny_call ?_ | refine wpAny_runValue ?_ | refine wpAny_run ?_) | ((with_reducible show wpAny _ _ (mkStr _) _ _ _); with_reducible refine wpAny_mkStr' ?_) | ((with_reducible apply wpAny_load'); focus (heap_get; done)) | ((with_reducible apply wpAny_update'); focus (heap_get; done)) | ((with_reducible apply wpAny_loadPart'); focus (heap_get; done)) | ((with_reducible apply wpAny_updatePart'); focus (heap_get; done)) | ((with_reducible apply wpAny_handled_none); focus (assumption; done)) | ((with_reducible apply wpAny_ite_false); focus (rfl; done)) | ((with_reducible apply wpAny_ite_true); focus (rfl; done)) | ((with_reducible apply wpAny_ite_false); focus (simp [*]; done)) | ((with_reducible apply wpAny_ite_true); focus (simp [*]; done)) | wp_delta | with_reducible_and_instances refine wpAny_pure ?_ | with_reducible_and_instances refine wpAny_bind ?_))
  trivial
/-- two new objects over what stood -/
structure Two (h0 : Heap) (n C : Addr) (on oC : Obj) (h : Heap) : Prop where
  keep : ∀ b o, h0.get? b = some o → h.get? b = some o
  gn : h.get? n = some on
  gC : h.get? C = some oC
  ne : @Ne Nat n C
  hn : h0.get? n = none
  hC : h0.get? C = none
section
variable {h0 h : Heap} {n C : Addr} {on oC : Obj} {M : Model} {A : Around} {E : Value → Shared → Prop} {g : Array GenState} {d : Drawn} {tk : Nat} {os : OsState}
theorem Two.setC (T : Two h0 n C on oC h) (f : Obj → Obj) (hf : (f oC).isFreed = false) : Two h0 n C on (f oC) (h.update C f) :=
  ⟨fun b o e => (Heap.get?_update_other h f (fun q => by have z := T.hC; rw [q, e] at z; cases z)).trans (T.keep b o e), (Heap.get?_update_other h f (Ne.symm T.ne)).trans T.gn, Heap.get?_update_self f T.gC hf, T.ne, T.hn, T.hC⟩
theorem Two.setN (T : Two h0 n C on oC h) (f : Obj → Obj) (hf : (f on).isFreed = false) : Two h0 n C (f on) oC (h.update n f) :=
  ⟨fun b o e => (Heap.get?_update_other h f (fun q => by have z := T.hn; rw [q, e] at z; cases z)).trans (T.keep b o e), Heap.get?_update_self f T.gn hf, (Heap.get?_update_other h f T.ne).trans T.gC, T.ne, T.hn, T.hC⟩
/-- a class's object -/
noncomputable abbrev clO (cd : ClassData) (sl : Array (Option Value)) : Obj := ⟨.type "type", none, .cls cd, sl⟩
/-- the slots after one write -/
noncomputable def slS (sl : Array (Option Value)) (i : Nat) (v : Option Value) : Array (Option Value) := (sl ++ Array.replicate (i + 1 - sl.size) none).setIfInBounds i v
theorem two_setSlot {cd : ClassData} {sl : Array (Option Value)} {i : Nat} {v : Option Value} {Q : Unit → Shared → Prop} (T : Two h0 n C on (clO cd sl) h) (hi : i < 100) (hq : ∀ h', Two h0 n C on (clO cd (slS sl i v)) h' → Q () ⟨h', g, d, tk, os⟩) :
    wpAny M A (setSlotAt C i v) Q E ⟨h, g, d, tk, os⟩ := by
  unfold setSlotAt
  rw [if_neg (by rw [sizeLine_eq]; omega)]
  exact wpAny_updatePart' T.gC (hq _ (T.setC (fun o => { o with slots := (o.slots ++ Array.replicate (i + 1 - o.slots.size) none).setIfInBounds i v }) rfl))
theorem two_slotAt {cd : ClassData} {sl : Array (Option Value)} {i : Nat} {r : Option Value} {Q : Option Value → Shared → Prop} (T : Two h0 n C on (clO cd sl) h) (e : (sl[i]?).join = r) (hq : Q r ⟨h, g, d, tk, os⟩) :
    wpAny M A (slotAt C i) Q E ⟨h, g, d, tk, os⟩ := by
  subst e
  exact wpAny_bind (wpAny_loadPart T.gC (wpAny_pure hq))
theorem two_classData {cd : ClassData} {sl : Array (Option Value)} {Q : ClassData → Shared → Prop} (T : Two h0 n C on (clO cd sl) h) (hq : Q cd ⟨h, g, d, tk, os⟩) : wpAny M A (classData C) Q E ⟨h, g, d, tk, os⟩ :=
  wpAny_bind (wpAny_load' T.gC (wpAny_pure hq))
theorem two_updateCls {cd : ClassData} {sl : Array (Option Value)} {f : ClassData → ClassData} {Q : Unit → Shared → Prop} (T : Two h0 n C on (clO cd sl) h) (hp : (Data.cls (f cd)).pastItsLine = none) (hq : ∀ h', Two h0 n C on (clO (f cd) sl) h' → Q () ⟨h', g, d, tk, os⟩) :
    wpAny M A (updateCls C f) Q E ⟨h, g, d, tk, os⟩ := by
  unfold updateCls
  refine wpAny_bind (wpAny_load' T.gC (wpAny_bind (wpAny_update' T.gC ?_)))
  have T' := T.setC (Obj.mapCls f) rfl
  exact wpAny_lookBehind T'.gC hp (hq _ T')
theorem two_nsGet {name : Str} {r : Option Value} {Q : Option Value → Shared → Prop} (T : Two h0 n C on oC h) (e : nsLook name on = pure r) (hq : Q r ⟨h, g, d, tk, os⟩) : wpAny M A (nsGet n name) Q E ⟨h, g, d, tk, os⟩ :=
  wpAny_bind (wpAny_loadPart' T.gn (wpAny_of_eq e hq))
theorem two_nsDel {name : Str} {Q : Bool → Shared → Prop} (T : Two h0 n C on oC h) (e : nsHas name on = pure true) (hf : (Obj.dropName name on).isFreed = false) (hq : ∀ h', Two h0 n C (Obj.dropName name on) oC h' → Q true ⟨h', g, d, tk, os⟩) :
    wpAny M A (nsDel n name) Q E ⟨h, g, d, tk, os⟩ := by
  unfold nsDel
  refine wpAny_bind (wpAny_loadPart' T.gn (wpAny_bind (wpAny_of_eq e ?_)))
  simp only [↓reduceIte]
  exact wpAny_bind (wpAny_updatePart' T.gn (wpAny_pure (hq _ (T.setN _ hf))))
theorem two_entries {es : Array DictEntry} {ep : Nat} {part : Option Value} {Q : Array DictEntry → Shared → Prop} (T : Two h0 n C on oC h) (hd : on.data = .dict es ep) (hq : Q es ⟨h, g, d, tk, os⟩) : wpAny M A (dictEntries n part) Q E ⟨h, g, d, tk, os⟩ :=
  wpAny_dictEntries T.gn hd hq
/-- the hash of a name in this world -/
noncomputable def hashN (w : World) (name : Str) : Int := if name.cps.isEmpty then 0 else reduceHash (w.params.strHash name.cps)
theorem two_nsSet {prog : Program} {w : World} {name : Str} {v : Value} {es : Array DictEntry} {ep : Nat} {Q : Unit → Shared → Prop} (T : Two h0 n C on oC h) (hd : on.data = .dict es ep) (ha : aRefKeyMayBeTheName name es = false)
    (hf : ∀ t, (Obj.putName name (hashN w name) (.str name t) v on).isFreed = false) (hq : ∀ h' t tk', Two h0 n C (Obj.putName name (hashN w name) (.str name t) v on) oC h' → Q () ⟨h', g, d, tk', os⟩) :
    wpAny (model prog w) A (nsSet n name v) Q E ⟨h, g, d, tk, os⟩ := by
  unfold nsSet strHash
  refine wpAny_bind (wpAny_bind (wpAny_askSetting (wpAny_pure (wpAny_bind (wpAny_mkText (wpAny_bind (wpAny_loadPart' T.gn ?_)))))))
  rw [hd]
  dsimp only
  rw [if_neg (by rw [ha]; exact Bool.false_ne_true)]
  exact wpAny_updatePart' T.gn (hq _ _ _ (T.setN _ (hf _)))
end
noncomputable abbrev BS : List Value := (if ((some #[Value.type "object"]).getD #[]).toList.isEmpty = true then [Value.type "object"] else ((some #[Value.type "object"]).getD #[]).toList)
theorem slots_read {prog : Program} {w : World} {A : Around} {E : Value → Shared → Prop} {Q : Builtin.Slots.Plan → Shared → Prop} {h : Heap} {g : Array GenState} {d : Drawn} {tk : Nat} {os : OsState} {Sl : Addr} {t1 : Tok} {es : Array DictEntry} {e : DictEntry}
    (hf : es.find? (·.key.isStr "__slots__") = some e) (he : e.val = .ref Sl) (ha : (es.any fun x => x.key.isStr "obj") = false)
    (hSl : h.get? Sl = some ⟨.type "list", none, .seq #[.str "obj" t1] 0, #[]⟩)
    (hq : ∀ h', (∀ b o, h.get? b = some o → h'.get? b = some o) → Q ⟨["obj"], false, false, []⟩ ⟨h', g, d, tk, os⟩) :
    wpAny (model prog w) A (Builtin.Slots.read "K" BS es) Q E ⟨h, g, d, tk, os⟩ := by
  obtain ⟨hh, k, v⟩ := e
  dsimp only at he
  subst he
  have e3 : Builtin.Slots.bestBase BS = pure (.type "object") := by kernel_rfl
  have e4 : Builtin.Slots.slotNamesOf (.type "object") = pure [] := by kernel_rfl
  have e5 : Builtin.Slots.givesDict (.type "object") = pure false := by kernel_rfl
  have e6 : Builtin.Slots.givesWeak (.type "object") = pure false := by kernel_rfl
  have e7 : Builtin.Slots.varSize (.type "object") = pure false := by kernel_rfl
  unfold Builtin.Slots.read
  (repeat (k_extra "ws"))
  rw [hf]
  have c1 : ∀ {A : Around} {E : Value → Shared → Prop} {Q : List Value → Shared → Prop}, (∀ h' : Heap, (∀ b o, h.get? b = some o → h'.get? b = some o) → Q [.str "obj" t1] ⟨h', g, d, tk, os⟩) → wpAny (model prog w) A (collect (.ref Sl)) Q E ⟨h, g, d, tk, os⟩ := fun hQ => wpAny_collect_seq Sl (.inl rfl) hSl rfl rfl (fun h' k => hQ h' k)
  repeat (first | (with_reducible refine c1 ?_; intro h' hk) | (k_extra "ws"))
  rw [show Builtin.Slots.isIdentifier (Str.ofString "obj") = some true by kernel_rfl]
  have m1 : Builtin.Slots.mangle (Str.ofString "K") (Str.ofString "obj") = Str.ofString "obj" := by decide +kernel
  repeat (first | (with_reducible refine c1 ?_; intro h' hk) | (k_extra "ws"))
  refine Eq.mpr (congrArg (fun p => Q p ⟨_, g, d, tk, os⟩) (?_ : _ = (⟨["obj"], false, false, []⟩ : Builtin.Slots.Plan))) (hq _ hk)
  kernel_rfl
theorem two_typeLookup {M : Model} {A : Around} {E : Value → Shared → Prop} {h0 h : Heap} {n C : Addr} {on : Obj} {g : Array GenState} {d : Drawn} {tk : Nat} {os : OsState} {cd : ClassData} {sl : Array (Option Value)} {name : Str} {r : Option Value} {Q : Option Value → Shared → Prop}
    (T : Two h0 n C on (clO cd sl) h) (hm : cd.mro = [.ref C, .type "object"]) (hn : cd.ns = n) (e : nsLook name on = pure none) (eb : builtinOwn "object" name = r) (hq : Q r ⟨h, g, d, tk, os⟩) :
    wpAny M A (typeLookup (.ref C) name) Q E ⟨h, g, d, tk, os⟩ := by
  unfold typeLookup mroOf
  refine wpAny_bind ?_
  have gC := T.gC
  have gn := T.gn
  subst hn
  repeat (first | (with_reducible refine two_classData (by assumption) ?_) | (k_extra "ws"))
  rw [hm]
  repeat (first | (with_reducible refine two_classData (by assumption) ?_) | (with_reducible refine two_nsGet T e ?_) | (k_extra "ws"))
  rw [eb]
  cases r with
  | none =>
    repeat (k_extra "ws")
    exact hq
  | some v =>
    repeat (k_extra "ws")
    exact hq
theorem alloc_at {M : Model} {A : Around} {E : Value → Shared → Prop} {h : Heap} {g : Array GenState} {d : Drawn} {tk : Nat} {os : OsState} {o : Obj} {Q : Addr → Shared → Prop}
    (hq : ∀ (C : Addr) (h' : Heap), h.get? C = none → h'.get? C = some o → (∀ b o', h.get? b = some o' → h'.get? b = some o') → Q C ⟨h', g, d, tk, os⟩) (hf : o.isFreed = false) : wpAny M A (alloc o) Q E ⟨h, g, d, tk, os⟩ :=
  wpAny_alloc' (hq _ _ (by
    cases q : h.get? h.objs.size with
    | none => rfl
    | some o' => exact absurd (Heap.lt_size q) (Nat.lt_irrefl _)) (Heap.get?_push_size _ hf) fun b o' e => Heap.get?_push_of_some _ e)
theorem slS_self (sl : Array (Option Value)) (i : Nat) (v : Option Value) : (slS sl i v)[i]? = some v := by
  unfold slS
  rw [Array.getElem?_setIfInBounds_self]
  rw [if_pos (by rw [Array.size_append, Array.size_replicate]; omega)]
theorem two_slotSame {M : Model} {A : Around} {E : Value → Shared → Prop} {h0 h : Heap} {n C : Addr} {on : Obj} {g : Array GenState} {d : Drawn} {tk : Nat} {os : OsState} {cd : ClassData} {sl : Array (Option Value)} {i : Nat} {v : Option Value} {Q : Option Value → Shared → Prop}
    (T : Two h0 n C on (clO cd (slS sl i v)) h) (hq : Q v ⟨h, g, d, tk, os⟩) : wpAny M A (slotAt C i) Q E ⟨h, g, d, tk, os⟩ :=
  two_slotAt T (by rw [slS_self]; rfl) hq
theorem Two.more {h0 h h' : Heap} {n C : Addr} {on oC : Obj} (T : Two h0 n C on oC h) (k : ∀ b o, h.get? b = some o → h'.get? b = some o) : Two h0 n C on oC h' :=
  ⟨fun b o e => k b o (T.keep b o e), k _ _ T.gn, k _ _ T.gC, T.ne, T.hn, T.hC⟩
theorem two_nsSetV {prog : Program} {w : World} {M : Model} {A : Around} {E : Value → Shared → Prop} {h0 h : Heap} {n C : Addr} {on oC : Obj} {g : Array GenState} {d : Drawn} {tk : Nat} {os : OsState} {name : Str} {v : Value} {es : Array DictEntry} {ep : Nat} {Q : Unit → Shared → Prop} (T : Two h0 n C on oC h) (hd : on.data = .dict es ep) (ha : aRefKeyMayBeTheName name es = false) (hz : es.size ≤ 100)
    (hf : ∀ t, (Obj.putName name (hashN w name) (.str name t) v on).isFreed = false) (hq : ∀ h' t tk', Two h0 n C (Obj.putName name (hashN w name) (.str name t) v on) oC h' → Q () ⟨h', g, d, tk', os⟩) :
    wpAny (model prog w) A (nsSetByValue n name v) Q E ⟨h, g, d, tk, os⟩ := by
  unfold nsSetByValue
  refine wpAny_bind (wpAny_loadPart' T.gn ?_)
  rw [hd]
  dsimp only
  rw [if_neg (by rw [sizeLine_eq, Bool.and_eq_true, decide_eq_true_eq]; omega)]
  exact two_nsSet T hd ha hf hq
section
variable {M : Model} {A : Around} {E : Value → Shared → Prop} {s : Shared} {β γ : Type} {b : γ}
theorem for_const {f : β → γ → Sem (ForInStep γ)} {Q : γ → Shared → Prop} (hq : Q b s) : ∀ (l : List β), (∀ e ∈ l, ∀ Q' : ForInStep γ → Shared → Prop, Q' (.yield b) s → wpAny M A (f e b) Q' E s) → wpAny M A (forIn l b f) Q E s
  | [], _ => wpAny_pure hq
  | e :: l, h => by
    rw [List.forIn_cons]
    refine wpAny_bind (h e (.head _) _ ?_)
    exact for_const hq l fun x hx => h x (.tail _ hx)
theorem for_constA {f : β → γ → Sem (ForInStep γ)} {Q : γ → Shared → Prop} (a : Array β) (hq : Q b s) (h : ∀ e ∈ a.toList, ∀ Q' : ForInStep γ → Shared → Prop, Q' (.yield b) s → wpAny M A (f e b) Q' E s) : wpAny M A (forIn a b f) Q E s := by
  rw [← Array.forIn_toList]
  exact for_const hq _ h
end
theorem Two.base {h0 h : Heap} {n C : Addr} {on oC : Obj} (T : Two h0 n C on oC h) : Two (hideAll h [n, C]) n C on oC h :=
  ⟨fun b o e => of_hideAll _ e, T.gn, T.gC, T.ne, hideAll_none _ (.head _), hideAll_none _ (.tail _ (.head _))⟩
/-- no value of a class's dict wants to be told its name -/
noncomputable def NoName (es : Array DictEntry) (h : Heap) : Prop :=
  ∀ e ∈ es.toList, (∃ x y, e.key = .str x y) ∧ Builtin.laidUnderItsOwnName e.key e.val = false ∧ ∃ T, (∀ g d tk os, (⟨h, g, d, tk, os⟩ : Shared).TypeIs e.val T) ∧ typeLookup (.type T) "__set_name__" = pure none
theorem try_catch {α : Type} {M : Model} {A : Around} {E : Value → Shared → Prop} {s : Shared} {m : Sem α} {k : Value → Sem α} {Q : α → Shared → Prop} (h : wpAny M A m Q (fun e s' => wpAny M A (k e) Q E s') s) :
    wpAny M A (Sem.tryCatch m k) Q E s := wpAny_tryCatch h
end Cls
section Sup
theorem rules_Sup_1 : True := by
  k_with_none
  k_with "exec If" => (refine wpAny_If ?_)
  k_with "ws" => ((first | with_reducible (first | refine wpAny_pure ?_ | refine wpAny_bind ?_ | refine wpAny_holding ?_ | refine wpAny_standAt ?_ | refine wpAny_point ?_ | refine wpAny_rule ?_ | refine wpAny_letGo ?_ | refine wpAny_mkInt' ?_ | refine wpAny_fresh' ?_ | refine wpAny_alloc' ?_ | refine wpAny_attempt ?_ | refine wpAny_throw ?_ | refine wpAny_of_eq (by assumption) ?_ | refine wpAny_typeOf (by assumption) ?_ | refine wpAny_specialOf_val (by assumption) (by assumption) ?_ | refine wpAny_specialOf (by assumption) (by assumption) ?_ | refine wpAny_isInstance_val (by assumption) (by assumption) ?_ | refine wpAny_isInstance (by assumption) (by assumption) ?_ | refine wpAny_call ?_ | refine wpAny_runValue ?_ | refine wpAny_run ?_) | ((with_reducible show wpAny _ _ (mkStr _) _ _ _); with_reducible refine wpAny_mkStr' ?_) | ((with_reducible apply wpAny_load'); focus (heap_get; done)) | ((with_reducible apply wpAny_update'); focus (heap_get; done)) | ((with_reducible apply wpAny_loadPart'); focus (heap_get; done)) | ((with_reducible apply wpAny_updatePart'); focus (heap_get; done)) | ((with_reducible apply wpAny_handled_none); focus (assumption; done)) | ((with_reducible apply wpAny_ite_false); focus (rfl; done)) | ((with_reducible apply wpAny_ite_true); focus (rfl; done)) | ((with_reducible apply wpAny_ite_false); focus (simp [*]; done)) | ((with_reducible apply wpAny_ite_true); focus (simp [*]; done)) | wp_delta | with_reducible_and_instances refine wpAny_pure ?_ | with_reducible_and_instances refine wpAny_bind ?_))
  trivial
theorem cls_isSub {M : Model} {A : Around} {E : Value → Shared → Prop} {h : Heap} {C : Addr} {g : Array GenState} {d : Drawn} {tk : Nat} {os : OsState} {cd : ClassData} {sl : Array (Option Value)} {Q : Bool → Shared → Prop}
    (gC : h.get? C = some (clO cd sl)) (hm : cd.mro = [.ref C, .type "object"]) (hq : Q true ⟨h, g, d, tk, os⟩) : wpAny M A (isSubtype (.ref C) (.ref C)) Q E ⟨h, g, d, tk, os⟩ := by
  unfold isSubtype
  repeat (k_extra "ws")
  rw [show cd.mro.contains (.ref C) = true by rw [hm]; simp]
  exact hq
theorem sup_call {prog : Program} {w : World} {A : Around} {E : Value → Shared → Prop} {h : Heap} {C : Addr} {g : Array GenState} {d : Drawn} {t : Nat} {os : OsState} {cd : ClassData} {sl : Array (Option Value)} {Q : Value → Shared → Prop}
    (gC : h.get? C = some (clO cd sl)) (hm : cd.mro = [.ref C, .type "object"])
    (hq : ∀ h', h'.get? h.objs.size = some { cls := .type "super", dict := none, data := .fields #[.ref C, .ref C, .ref C], slots := #[] } → (∀ y o, h.get? y = some o → h'.get? y = some o) → Q (.ref h.objs.size) ⟨h', g, d, t, os⟩) :
    wpAny (model prog w) A (call (.type "super") [.ref C, .ref C]) Q E ⟨h, g, d, t, os⟩ := by
  refine ks_callType_codesW (Q₁ := fun obj s₁ => obj = .ref h.objs.size ∧ s₁ = ⟨h.push { cls := .type "super", data := .fields #[.none, .none, .none] }, g, d, t, os⟩) F.ks_called_super (ks_wpAny_checkTypeCall_super gC rfl) F.ks_entry_super_init
    (ks_code_super_new _ _ ⟨rfl, rfl⟩) fun obj s₁ h₁ => ?_
  obtain ⟨rfl, rfl⟩ := h₁
  have up : ∀ y o, h.get? y = some o → (h.push { cls := .type "super", data := .fields #[.none, .none, .none] }).get? y = some o := fun y o e => Heap.get?_push_of_some _ e
  have hso : (h.push { cls := .type "super", data := .fields #[.none, .none, .none] }).get? h.objs.size = some { cls := .type "super", dict := none, data := .fields #[.none, .none, .none], slots := #[] } := Heap.get?_push_at rfl rfl
  have gC' := up _ _ gC
  refine ⟨⟨_, hso, rfl⟩, F.ks_initArgs_super _ _ _, ?_⟩
  unfold Builtin.«super.__init__» noKeywords
  repeat (first | (with_reducible refine ks_wpAny_isType_cls gC' rfl ?_) | (with_reducible refine cls_isSub gC' hm ?_) | (with_reducible refine ks_wpAny_super_set3 hso ?_) | (k_extra "ws"))
  all_goals first
    | (intro h' e k; exact ⟨rfl, hq h' e fun y o ey => k y o (Nat.ne_of_lt (Heap.lt_size ey)) (up y o ey)⟩)
    | (refine ks_wpAny_super_set3 hso ?_; intro h' e k; exact ⟨rfl, hq h' e fun y o ey => k y o (Nat.ne_of_lt (Heap.lt_size ey)) (up y o ey)⟩)
theorem two_classMro {M : Model} {A : Around} {E : Value → Shared → Prop} {h : Heap} {C : Addr} {g : Array GenState} {d : Drawn} {tk : Nat} {os : OsState} {cd : ClassData} {sl : Array (Option Value)} {Q : List Value → Shared → Prop}
    (gC : h.get? C = some (clO cd sl)) (hq : Q cd.mro ⟨h, g, d, tk, os⟩) : wpAny M A (mroOf (.ref C)) Q E ⟨h, g, d, tk, os⟩ := by
  unfold mroOf classData
  repeat (k_extra "ws")
  exact hq
theorem rules_Sup_2 : True := by
  k_with_none
  k_with "exec If" => (refine wpAny_If ?_)
  k_with "ws" => ((first | with_reducible (first | refine wpAny_pure ?_ | refine wpAny_bind ?_ | refine wpAny_holding ?_ | refine wpAny_standAt ?_ | refine wpAny_point ?_ | refine wpAny_rule ?_ | refine wpAny_letGo ?_ | refine wpAny_mkInt' ?_ | refine wpAny_fresh' ?_ | refine wpAny_alloc' ?_ | refine wpAny_attempt ?_ | refine wpAny_throw ?_ | refine wpAny_of_eq (by assumption) ?_ | refine wpAny_typeOf (by assumption) ?_ | refine wpAny_specialOf_val (by assumption) (by assumption) ?_ | refine wpAny_specialOf (by assumption) (by assumption) ?_ | refine wpAny_isInstance_val (by assumption) (by assumption) ?_ | refine wpAny_isInstance (by assumption) (by assumption) ?_ | refine wpAny_call ?_ | refine wpAny_runValue ?_ | refine wpAny_run ?_) | ((with_reducible show wpAny _ _ (mkStr _) _ _ _); with_reducible refine wpAny_mkStr' ?_) | ((with_reducible apply wpAny_load'); focus (heap_get; done)) | ((with_reducible apply wpAny_update'); focus (heap_get; done)) | ((with_reducible apply wpAny_loadPart'); focus (heap_get; done)) | ((with_reducible apply wpAny_updatePart'); focus (heap_get; done)) | ((with_reducible apply wpAny_handled_none); focus (assumption; done)) | ((with_reducible apply wpAny_ite_false); focus (rfl; done)) | ((with_reducible apply wpAny_ite_true); focus (rfl; done)) | ((with_reducible apply wpAny_ite_false); focus (simp [*]; done)) | ((with_reducible apply wpAny_ite_true); focus (simp [*]; done)) | wp_delta | with_reducible_and_instances refine wpAny_pure ?_ | with_reducible_and_instances refine wpAny_bind ?_))
  k_with "x_close" => (((rename ∀ (_ : Addr) (_ : Heap), _ → _ → _ => hR); (rename Mem _ _ _ _ => D9); exact hR _ _ (fun b o e => D9.keep b o e (by rw [Bool.or_eq_true]; exact .inr rfl)) (D9.at 0 _ _ rfl)))
  trivial
theorem cm_get {w : World} {A : Around} {E : Value → Shared → Prop} {h : Heap} {C : Addr} {g : Array GenState} {d : Drawn} {t : Nat} {os : OsState} {nm qn : Str} {bs : List Value} {ns : Addr} {hd : Bool} {snm : List Str} {sub : List Value} {ab : Bool} {col : Option Bool} {hdl : Bool} {sl : Array (Option Value)} {Q : Value → Shared → Prop}
    (gC : h.get? C = some ⟨.type "type", none, .cls ⟨nm, bs, [.ref C, .type "object"], ns, qn, hd, snm, sub, ab, col, hdl⟩, sl⟩)
    (hq : ∀ (b : Addr) (h' : Heap), (∀ y o, h.get? y = some o → h'.get? y = some o) → h'.get? b = some ⟨.type "builtin_function_or_method", none, .fields #[.builtin "object.__init_subclass__", .ref C], #[]⟩ → Q (.ref b) ⟨h', g, d, t, os⟩) :
    wpAny (MM w) A (call (.builtin "classmethod_descriptor.__get__") [.builtin "object.__init_subclass__", .none, .ref C]) Q E ⟨h, g, d, t, os⟩ := by
  dsimp only [MM]
  x_run
theorem rules_Sup_3 : True := by
  k_with_none
  k_with "exec If" => (refine wpAny_If ?_)
  k_with "ws" => ((first | with_reducible (first | refine wpAny_pure ?_ | refine wpAny_bind ?_ | refine wpAny_holding ?_ | refine wpAny_standAt ?_ | refine wpAny_point ?_ | refine wpAny_rule ?_ | refine wpAny_letGo ?_ | refine wpAny_mkInt' ?_ | refine wpAny_fresh' ?_ | refine wpAny_alloc' ?_ | refine wpAny_attempt ?_ | refine wpAny_throw ?_ | refine wpAny_of_eq (by assumption) ?_ | refine wpAny_typeOf (by assumption) ?_ | refine wpAny_specialOf_val (by assumption) (by assumption) ?_ | refine wpAny_specialOf (by assumption) (by assumption) ?_ | refine wpAny_isInstance_val (by assumption) (by assumption) ?_ | refine wpAny_isInstance (by assumption) (by assumption) ?_ | refine wpAny_call ?_ | refine wpAny_runValue ?_ | refine wpAny_run ?_) | ((with_reducible show wpAny _ _ (mkStr _) _ _ _); with_reducible refine wpAny_mkStr' ?_) | ((with_reducible apply wpAny_load'); focus (heap_get; done)) | ((with_reducible apply wpAny_update'); focus (heap_get; done)) | ((with_reducible apply wpAny_loadPart'); focus (heap_get; done)) | ((with_reducible apply wpAny_updatePart'); focus (heap_get; done)) | ((with_reducible apply wpAny_handled_none); focus (assumption; done)) | ((with_reducible apply wpAny_ite_false); focus (rfl; done)) | ((with_reducible apply wpAny_ite_true); focus (rfl; done)) | ((with_reducible apply wpAny_ite_false); focus (simp [*]; done)) | ((with_reducible apply wpAny_ite_true); focus (simp [*]; done)) | wp_delta | with_reducible_and_instances refine wpAny_pure ?_ | with_reducible_and_instances refine wpAny_bind ?_))
  k_with "x_close" => (((rename ∀ (_ : Heap) (_ : Nat), _ → _ => hR); exact hR _ _ (fun _ _ e => e)))
  trivial
theorem is_call {w : World} {A : Around} {E : Value → Shared → Prop} {h : Heap} {C b : Addr} {g : Array GenState} {d : Drawn} {t : Nat} {os : OsState} {ns B : Addr} {t0 u1 : Tok} {Q : Value → Shared → Prop}
    (hdp : A.depth ≤ 800) (hun : A.units ≤ 800)
    (gC : h.get? C = some ⟨.type "type", none, .cls ⟨"K", [.type "object"], [.ref C, .type "object"], ns, "cmp_to_key.<locals>.K", false, ["obj"], [], false, none, false⟩, #[some (.ref B), none, some (.str "K" t0), some (.str "cmp_to_key.<locals>.K" u1), some (.builtin "object.__new__"), some (.bool false)]⟩)
    (gb : h.get? b = some ⟨.type "builtin_function_or_method", none, .fields #[.builtin "object.__init_subclass__", .ref C], #[]⟩)
    (hq : ∀ (h' : Heap) (tk' : Nat), (∀ y o, h.get? y = some o → h'.get? y = some o) → Q .none ⟨h', g, d, tk', os⟩) :
    wpAny (MM w) A (call (.ref b) []) Q E ⟨h, g, d, t, os⟩ := by
  refine wpAny_up (A' := Around.mk A.handled 800 A.frames A.guards 800) rfl hdp rfl rfl hun ?_
  dsimp only [MM]
  x_run
theorem sup_ga {w : World} {A : Around} {E : Value → Shared → Prop} {h : Heap} {C so ns B : Addr} {t0 u1 : Tok} {g : Array GenState} {d : Drawn} {t : Nat} {os : OsState} {tk : Tok} {Q : Fin → Shared → Prop}
    (hso : h.get? so = some { cls := .type "super", dict := none, data := .fields #[.ref C, .ref C, .ref C], slots := #[] })
    (gC : h.get? C = some ⟨.type "type", none, .cls ⟨"K", [.type "object"], [.ref C, .type "object"], ns, "cmp_to_key.<locals>.K", false, ["obj"], [], false, none, false⟩, #[some (.ref B), none, some (.str "K" t0), some (.str "cmp_to_key.<locals>.K" u1), some (.builtin "object.__new__"), some (.bool false)]⟩)
    {oS : Obj} (gS : h.get? cStatics = some oS) (hS : nsLook "thirdparty.any" oS = pure none)
    (hq : ∀ (b : Addr) (h' : Heap), (∀ y o, h.get? y = some o → h'.get? y = some o) → h'.get? b = some ⟨.type "builtin_function_or_method", none, .fields #[.builtin "object.__init_subclass__", .ref C], #[]⟩ → Q (.done (.ret (.ref b))) ⟨h', g, d, t, os⟩) :
    wpAny (MM w) A (Builtin.«super.__getattribute__» ⟨[.ref so, .str "__init_subclass__" tk], []⟩) Q E ⟨h, g, d, t, os⟩ := by
  have hdt : ({ cls := .type "super", dict := none, data := .fields #[.ref C, .ref C, .ref C], slots := #[] } : Obj).data = .fields #[.ref C, .ref C, .ref C] := rfl
  have f0 : (#[.ref C, .ref C, .ref C] : Array Value)[0]? = some (.ref C) := rfl
  have f1 : (#[.ref C, .ref C, .ref C] : Array Value)[1]? = some (.ref C) := rfl
  have f2 : (#[.ref C, .ref C, .ref C] : Array Value)[2]? = some (.ref C) := rfl
  have k0 : classOwn (.type "object") "__init_subclass__" = pure (some (.builtin "object.__init_subclass__")) := by kernel_rfl
  have k1 : typeOf (.builtin "object.__init_subclass__") = pure (.type "classmethod_descriptor") := by kernel_rfl
  have k2 : typeLookup (.type "classmethod_descriptor") "__get__" = pure (some (.builtin "classmethod_descriptor.__get__")) := by rw [typeLookup_type, builtinLookup_eq_fast]; kernel_rfl
  have hl : (List.dropWhile (fun x => x != Value.ref C) [.ref C, .type "object"]).drop 1 = [.type "object"] := by simp
  have hm : ∀ {A : Around} {E : Value → Shared → Prop} {Q : List Value → Shared → Prop} {t : Nat}, Q [.ref C, .type "object"] ⟨h, g, d, t, os⟩ → wpAny (MM w) A (mroOf (.ref C)) Q E ⟨h, g, d, t, os⟩ := fun hq => two_classMro (cd := ⟨"K", [.type "object"], [.ref C, .type "object"], ns, "cmp_to_key.<locals>.K", false, ["obj"], [], false, none, false⟩) gC hq
  have hcc : (Value.ref C == Value.ref C) = true := by simp
  unfold Builtin.«super.__getattribute__»
  repeat (first
    | (with_reducible refine wpAny_field hso hdt f0 ?_) | (with_reducible refine wpAny_field hso hdt f1 ?_) | (with_reducible refine wpAny_field hso hdt f2 ?_)
    | (with_reducible refine hm ?_)
    | (rw [hl])
    | (rw [hcc, if_pos rfl])
    | (with_reducible refine cm_get gC ?_; intro b h' k gb)
    | (k_extra "ws")
    | dsimp only)
  all_goals exact hq _ _ k gb
theorem super_part {w : World} {A : Around} {E : Value → Shared → Prop} {h : Heap} {C ns B : Addr} {t0 u1 : Tok} {g : Array GenState} {d : Drawn} {t : Nat} {os : OsState} {Q : Unit → Shared → Prop} (hdp : A.depth ≤ 800) (hun : A.units ≤ 800)
    (gC : h.get? C = some ⟨.type "type", none, .cls ⟨"K", [.type "object"], [.ref C, .type "object"], ns, "cmp_to_key.<locals>.K", false, ["obj"], [], false, none, false⟩, #[some (.ref B), none, some (.str "K" t0), some (.str "cmp_to_key.<locals>.K" u1), some (.builtin "object.__new__"), some (.bool false)]⟩)
    {oS : Obj} (gS : h.get? cStatics = some oS) (hS : nsLook "thirdparty.any" oS = pure none)
    (hq : ∀ h' tk', (∀ b o, h.get? b = some o → h'.get? b = some o) → Q () ⟨h', g, d, tk', os⟩) :
    wpAny (MM w) A (call (.type "super") [.ref C, .ref C] >>= fun sup => holding [sup] (getAttr sup "__init_subclass__") >>= fun f => call f [] [] >>= fun _ => pure ()) Q E ⟨h, g, d, t, os⟩ := by
  refine wpAny_bind (sup_call gC rfl (fun h1 hso k1 => ?_))
  refine wpAny_bind (wpAny_holding ?_)
  have hlk := F.ks_slot_super_ga.lookup
  have hT : ∀ t', (⟨h1, g, d, t', os⟩ : Shared).TypeIs (.ref h.objs.size) "super" := fun _ => ⟨_, hso, rfl⟩
  unfold getAttr getAttrBy
  refine wpAny_bind (wpAny_mkText (wpAny_holding (wpAny_bind (wpAny_typeOf (hT _) (wpAny_bind (wpAny_of_eq hlk ?_))))))
  show wpAny _ _ (getAttrByItsOwn (.ref h.objs.size) (.str "__init_subclass__" t) (.type "super") (.builtin "super.__getattribute__") true false) _ _ _
  unfold getAttrByItsOwn hookBefore callGetattribute boundAndCalled
  refine wpAny_bind (wpAny_of_eq (show (if onTheHeap (.type "super") then typeLookup (.type "super") "__getattr__" else pure none) = pure none from rfl) ?_)
  refine wpAny_bind (wpAny_attempt (wpAny_holding ?_))
  show wpAny _ _ (bindSpecial (.builtin "super.__getattribute__") (.ref h.objs.size) >>= _) _ _ _
  refine wpAny_bind (wpAny_of_eq (F.ks_slot_super_ga.bind _) ?_)
  refine wpAny_mono (Q := fun v s' => ∃ b h', v = .ref b ∧ s' = ⟨h', g, d, t + 1, os⟩ ∧ (∀ y o, h1.get? y = some o → h'.get? y = some o) ∧ h'.get? b = some ⟨.type "builtin_function_or_method", none, .fields #[.builtin "object.__init_subclass__", .ref C], #[]⟩) (E := fun _ _ => False)
    (wpAny_call_entry F.ks_slot_super_ga (hT _) F.ks_entry_super_ga (sup_ga hso (k1 _ _ gC) (k1 _ _ gS) hS (fun b h' k gb => ⟨_, rfl, b, h', rfl, rfl, k, gb⟩)) (F.ks_gaArgs_super _ _)) (fun v s' hv => ?_) fun _ _ z => z.elim
  obtain ⟨b, h', rfl, rfl, k, gb⟩ := hv
  refine wpAny_pure ?_
  refine wpAny_bind (is_call hdp hun (k _ _ (k1 _ _ gC)) gb (fun h2 tk2 k2 => ?_))
  exact wpAny_pure (hq _ _ fun y o e => k2 _ _ (k _ _ (k1 _ _ e)))
end Sup
section Tn
theorem rules_Tn_1 : True := by
  k_with_none
  k_with "exec If" => (refine wpAny_If ?_)
  trivial
theorem sl_eq (a b c d e : Option Value) : slS (slS (slS (slS (slS #[] 0 a) 2 b) 3 c) 4 d) 5 e = #[a, none, b, c, d, e] := by
  have e1 : slS #[] 0 a = #[a] := by simp [slS]
  have e2 : slS #[a] 2 b = #[a, none, b] := by simp [slS]
  have e3 : slS #[a, none, b] 3 c = #[a, none, b, c] := by simp [slS]
  have e4 : slS #[a, none, b, c] 4 d = #[a, none, b, c, d] := by simp [slS]
  have e5 : slS #[a, none, b, c, d] 5 e = #[a, none, b, c, d, e] := by simp [slS]
  rw [e1, e2, e3, e4, e5]
theorem mkText_q {M : Model} {A : Around} {E : Value → Shared → Prop} {h : Heap} {g : Array GenState} {d : Drawn} {t : Nat} {os : OsState} {x : Str} {Q : Value → Shared → Prop} (hq : Q (.str x t) ⟨h, g, d, t + 1, os⟩) : wpAny M A (mkText x) Q E ⟨h, g, d, t, os⟩ := wpAny_mkText hq
theorem rules_Tn_2 : True := by
  k_with_none
  k_with "exec If" => (refine wpAny_If ?_)
  k_with "fs" => ((first | with_reducible (first | refine wpAny_pure ?_ | refine wpAny_bind ?_ | refine wpAny_holding ?_ | refine wpAny_standAt ?_ | refine wpAny_point ?_ | refine wpAny_rule ?_ | refine wpAny_attempt ?_ | refine wpAny_letGo ?_ | refine wpAny_mkInt' ?_ | refine mkText_q ?_ | refine wpAny_fresh' ?_ | refine wpAny_throw ?_ | refine wpAny_of_eq (by assumption) ?_ | refine wpAny_typeOf (by assumption) ?_ | refine wpAny_specialOf_val (by assumption) (by assumption) ?_ | refine wpAny_specialOf (by assumption) (by assumption) ?_ | refine wpAny_isInstance_val (by assumption) (by assumption) ?_ | refine wpAny_isInstance (by assumption) (by assumption) ?_) | ((with_reducible apply wpAny_load'); focus (assumption; done)) | ((with_reducible apply wpAny_loadPart'); focus (assumption; done)) | (with_reducible refine wpAny_ite_false ?h ?_; (case h => kernel_rfl!)) | (with_reducible refine wpAny_ite_true ?h ?_; (case h => kernel_rfl!)) | wp_delta | with_reducible_and_instances refine wpAny_pure ?_ | with_reducible_and_instances refine wpAny_bind ?_))
  k_with "st" => ((first | k_extra "fs" | (with_reducible first | refine wpAny_call ?_ | refine wpAny_runValue ?_ | refine wpAny_run ?_) | ((with_reducible apply wpAny_ite_false); focus (rfl; done)) | ((with_reducible apply wpAny_ite_true); focus (rfl; done)) | ((with_reducible apply wpAny_ite_false); focus (simp [*]; done)) | ((with_reducible apply wpAny_ite_true); focus (simp [*]; done))))
  trivial
theorem type_new {w : World} {A : Around} {E : Value → Shared → Prop} {Q : Fin → Shared → Prop} {h : Heap} {g : Array GenState} {d : Drawn} {tk : Nat} {os : OsState} (N B Sl : Addr) (t0 t1 c3 : Tok) (k3 : Int) {es : Array DictEntry} {ep : Nat} {u1 : Tok} (hdp : A.depth ≤ 800) (hun : A.units ≤ 800) {oS : Obj} (gS : h.get? cStatics = some oS) (hS : nsLook "thirdparty.any" oS = pure none)
    (hN : h.get? N = some ⟨.type "dict", none, .dict es ep, #[]⟩) (hNs : (N == sysModules) = false)
    (hB : h.get? B = some ⟨.type "tuple", none, .seq #[.type "object"] 0, #[]⟩)
    (hSl : h.get? Sl = some ⟨.type "list", none, .seq #[.str "obj" t1] 0, #[]⟩)
    (hf : es.find? (·.key.isStr "__slots__") = some ⟨k3, .str "__slots__" c3, .ref Sl⟩) (ha : (es.any fun x => x.key.isStr "obj") = false) (hm : (es.any fun x => x.key.isStr "__module__") = true)
    (hql : nsLook "__qualname__" ⟨.type "dict", none, .dict es 0, #[]⟩ = pure (some (.str "cmp_to_key.<locals>.K" u1))) (hdl : nsLook "__doc__" ⟨.type "dict", none, .dict es 0, #[]⟩ = pure none)
    (hsz : es.size ≤ 100) 
    (hqh : nsHas "__qualname__" ⟨.type "dict", none, .dict es 0, #[]⟩ = pure true) {es1 : Array DictEntry} {p1 : Nat} (hD1 : Obj.dropName "__qualname__" ⟨.type "dict", none, .dict es 0, #[]⟩ = ⟨.type "dict", none, .dict es1 p1, #[]⟩)
    (a1 : nsLook "__new__" ⟨.type "dict", none, .dict es1 p1, #[]⟩ = pure none) (a2 : nsLook "__init_subclass__" ⟨.type "dict", none, .dict es1 p1, #[]⟩ = pure none) (a3 : nsLook "__class_getitem__" ⟨.type "dict", none, .dict es1 p1, #[]⟩ = pure none)
    (a4 : nsLook "__classcell__" ⟨.type "dict", none, .dict es1 p1, #[]⟩ = pure none) (a5 : nsLook "__classdictcell__" ⟨.type "dict", none, .dict es1 p1, #[]⟩ = pure none)
    (a6 : nsLook "obj" ⟨.type "dict", none, .dict es1 p1, #[]⟩ = pure none) (a7 : aRefKeyMayBeTheName "obj" es1 = false) (hz1 : es1.size ≤ 100) {es2 : Tok → Value → Array DictEntry} {p2 : Nat}
    (hD2 : ∀ t v, Obj.putName "obj" (hashN w "obj") (.str "obj" t) v ⟨.type "dict", none, .dict es1 p1, #[]⟩ = ⟨.type "dict", none, .dict (es2 t v) p2, #[]⟩)
    (b1 : ∀ t v, nsLook "__doc__" ⟨.type "dict", none, .dict (es2 t v) p2, #[]⟩ = pure none) (b2 : ∀ t v, aRefKeyMayBeTheName "__doc__" (es2 t v) = false) {es3 : Tok → Value → Tok → Array DictEntry} {p3 : Nat}
    (hD3 : ∀ t v u, Obj.putName "__doc__" (hashN w "__doc__") (.str "__doc__" u) .none ⟨.type "dict", none, .dict (es2 t v) p2, #[]⟩ = ⟨.type "dict", none, .dict (es3 t v u) p3, #[]⟩)
    {f4 : Addr} (c1 : ∀ t v u, nsLook "__eq__" ⟨.type "dict", none, .dict (es3 t v u) p3, #[]⟩ = pure (some (.ref f4))) (c2 : ∀ t v u, nsLook "__hash__" ⟨.type "dict", none, .dict (es3 t v u) p3, #[]⟩ = pure (some .none))
    (hNo : ∀ t u h' Md, (∀ b o, h.get? b = some o → h'.get? b = some o) → (∃ o, h'.get? Md = some o ∧ o.cls = .type "member_descriptor") → NoName (es3 t (.ref Md) u) h')
    (hdel : (es.any fun x => x.key.isStr "__del__") = false)
    (hq : ∀ (C n Md : Addr) (tm tm3 tmd : Tok) (h' : Heap) (tk' : Nat), (∀ b o, h.get? b = some o → h'.get? b = some o) → h.get? C = none → h.get? n = none → @Ne Nat n C →
      h'.get? C = some ⟨.type "type", none, .cls ⟨"K", [.type "object"], [.ref C, .type "object"], n, "cmp_to_key.<locals>.K", false, ["obj"], [], false, none, false⟩, #[some (.ref B), none, some (.str "K" t0), some (.str "cmp_to_key.<locals>.K" u1), some (.builtin "object.__new__"), some (.bool false)]⟩ →
      h'.get? n = some ⟨.type "dict", none, .dict (es3 tm (.ref Md) tm3) p3, #[]⟩ →
      h'.get? Md = some ⟨.type "member_descriptor", none, .fields #[.str "obj" tmd, .ref C, .builtin "proto.slot", .builtin "proto.slot#set", rawInt 0], #[]⟩ → Q (.done (.ret (.ref C))) ⟨h', g, d, tk', os⟩) :
    wpAny (MM w) A (Builtin.«type.__new__» ⟨[.type "type", .str "K" t0, .ref B, .ref N], []⟩) Q E ⟨h, g, d, tk, os⟩ := by
  unfold Builtin.«type.__new__»
  have ty1 : (⟨h, g, d, tk, os⟩ : Shared).TypeIs (.ref B) "tuple" := ⟨_, hB, rfl⟩
  have ty2 : (⟨h, g, d, tk, os⟩ : Shared).TypeIs (.ref N) "dict" := ⟨_, hN, rfl⟩
  have s1 : isSubtype (.type "tuple") (.type "tuple") = pure true := by rw [isSubtype_type]; kernel_rfl
  have s2 : isSubtype (.type "dict") (.type "dict") = pure true := by rw [isSubtype_type]; kernel_rfl
  have s3 : isSubtype (.type "type") (.type ((Manifest.find? "object").elim "type" fun x => x.metatype)) = pure true := by rw [show ((Manifest.find? "object").elim "type" fun x => x.metatype) = "type" by kernel_rfl, isSubtype_type]; kernel_rfl
  have e1 : Builtin.notOverATurnedClass BS = pure () := by kernel_rfl
  have e2 : Builtin.extendedBase BS = pure (.type "object") := by kernel_rfl
  have e8 : typeLookup (.type "dict") "__iter__" = pure (some (.builtin "dict.__iter__")) := by rw [typeLookup_type, builtinLookup_eq_fast]; kernel_rfl
  have r1 : ∀ {A : Around} {E : Value → Shared → Prop} {Q : Builtin.Slots.Plan → Shared → Prop}, (∀ h' : Heap, (∀ b o, h.get? b = some o → h'.get? b = some o) → Q ⟨["obj"], false, false, []⟩ ⟨h', g, d, tk, os⟩) → wpAny (MM w) A (Builtin.Slots.read "K" BS es) Q E ⟨h, g, d, tk, os⟩ := fun hQ => slots_read (e := ⟨k3, .str "__slots__" c3, .ref Sl⟩) hf rfl ha hSl hQ
  repeat ((fail_if_success (with_reducible refine alloc_at ?_ ?_)); first | (with_reducible refine r1 ?_; intro h1 hk1) | (k_extra "st"))
  clear ty1 ty2 s1 s2 s3 e1 e2 e8 r1
  rw [if_neg (by rw [sizeLine_eq]; omega)]
  repeat ((fail_if_success (with_reducible refine alloc_at ?_ ?_)); (k_extra "st"))
  refine alloc_at ?hqA0 ?hfA0
  case hfA0 => rfl
  intro n h2 nn gn kn
  repeat ((fail_if_success (with_reducible refine alloc_at ?_ ?_)); first | (k_extra "st") | ((with_reducible apply wpAny_ite_false); focus (kernel_rfl!; done)) | ((with_reducible apply wpAny_ite_true); focus (kernel_rfl!; done)))
  refine alloc_at ?hqA1 ?hfA1
  case hfA1 => rfl
  intro C h3 nC gC kC
  have T : Two h n C ⟨.type "dict", none, .dict es 0, #[]⟩ (clO { name := "K", bases := BS, mro := [], ns := n, qualname := "cmp_to_key.<locals>.K" } #[]) h3 := by
    refine ⟨fun b o e => kC _ _ (kn _ _ (hk1 _ _ e)), kC _ _ gn, gC, fun e => ?_, ?_, ?_⟩
    · rw [show n = C from e, nC] at gn; cases gn
    · cases q : h.get? n with
      | none => rfl
      | some o => rw [hk1 _ _ q] at nn; cases nn
    · cases q : h.get? C with
      | none => rfl
      | some o => rw [kn _ _ (hk1 _ _ q)] at nC; cases nC
  have m1 : typeLookup (.type "type") "mro" = pure (some (.builtin "type.mro")) := by rw [typeLookup_type, builtinLookup_eq_fast]; kernel_rfl
  have m2 : Builtin.linearize BS mroOf = pure [.type "object"] := by kernel_rfl
  have m3 : Bind.madeBy (.type "object") = pure (some "object.__new__") := by kernel_rfl
  have e5 : Builtin.Slots.givesDict (.type "object") = pure false := by kernel_rfl
  have e6 : Builtin.Slots.givesWeak (.type "object") = pure false := by kernel_rfl
  have hpl : ∀ cd : ClassData, cd.subclasses.length ≤ 1 → cd.slotNames.length ≤ 1 → (Data.cls cd).pastItsLine = none := fun cd h1 h2 => by
    show (if (decide (cd.subclasses.length > sizeLine) || decide (cd.slotNames.length > sizeLine)) = true then some "class:memory" else none) = none
    rw [if_neg (by rw [sizeLine_eq, Bool.or_eq_true, decide_eq_true_eq, decide_eq_true_eq]; omega)]
  have tb : builtinOwn "object" "__new__" = some (.builtin "object.__new__") := by kernel_rfl
  have hfr : ∀ (es : Array DictEntry) (p : Nat), Obj.isFreed ⟨.type "dict", none, .dict es p, #[]⟩ = false := fun _ _ => rfl
  have hCn := T.hC
  have hnn := T.hn
  clear gn gC kC nC kn nn hk1 hN hB hNs hql hdl hf hm
  repeat ((fail_if_success (with_reducible refine alloc_at ?_ ?_)); first
    | (with_reducible refine two_setSlot (by assumption) (by decide) ?_; clear T; intro h3 T)
    | (with_reducible refine two_slotSame (by assumption) ?_)
    | (with_reducible refine two_nsGet T (by assumption) ?_)
    | (with_reducible refine two_nsDel (by assumption) hqh (by rw [hD1]; exact hfr _ _) ?_; clear T; intro h3 T; rw [hD1] at T)
    | ((with_reducible refine two_updateCls (by assumption) ?hpp ?_); (case hpp => first | exact hpl _ (Nat.zero_le _) (Nat.zero_le _) | exact hpl _ (Nat.zero_le _) (Nat.le_refl 1)); clear T; intro h3 T)
    | (k_extra "st") | ((with_reducible apply wpAny_ite_false); focus (kernel_rfl!; done)) | ((with_reducible apply wpAny_ite_true); focus (kernel_rfl!; done)))
  rw [show List.filter (fun x => x != Value.ref C) [Value.ref C, Value.type "object"] = [Value.type "object"] by simp]
  repeat ((fail_if_success (with_reducible refine alloc_at ?_ ?_)); first
    | (with_reducible refine two_setSlot (by assumption) (by decide) ?_; clear T; intro h3 T)
    | (with_reducible refine two_slotSame (by assumption) ?_)
    | (with_reducible refine two_nsGet T (by assumption) ?_)
    | ((with_reducible refine two_updateCls (by assumption) ?hpp ?_); (case hpp => first | exact hpl _ (Nat.zero_le _) (Nat.zero_le _) | exact hpl _ (Nat.zero_le _) (Nat.le_refl 1)); clear T; intro h3 T)
    | (with_reducible refine two_typeLookup T rfl rfl (by assumption) tb ?_)
    | ((with_reducible apply wpAny_ite_false); focus (kernel_rfl!; done)) | ((with_reducible apply wpAny_ite_true); focus (kernel_rfl!; done))
    | (k_extra "st"))
  refine alloc_at ?hqM ?hfM
  case hfM => rfl
  intro Md h4 nM gM kM
  have nMn : Md ≠ n := fun e => by have := T.gn; rw [← e, nM] at this; cases this
  have nMC : Md ≠ C := fun e => by have := T.gC; rw [← e, nM] at this; cases this
  replace T := T.more kM
  have gMb : (hideAll h4 [n, C]).get? Md = some _ := hideAll_get _ gM (fun q => by
    rcases List.mem_cons.mp q with q | q
    · exact nMn q
    · exact nMC (List.mem_singleton.mp q))
  have kb : ∀ b o, h.get? b = some o → (hideAll h4 [n, C]).get? b = some o := fun b o e => hideAll_get _ (T.keep b o e) (fun q => by
    rcases List.mem_cons.mp q with q | q
    · have := T.hn; rw [← q, e] at this; cases this
    · have := T.hC; rw [← List.mem_singleton.mp q, e] at this; cases this)
  replace T := T.base
  clear nM gM kM nMn nMC
  repeat ((fail_if_success (with_reducible refine alloc_at ?_ ?_)); (fail_if_success (with_reducible refine for_constA (es3 _ _ _) ?_ ?_)); first
    | (with_reducible refine try_catch ?_)
    | (with_reducible refine two_entries T rfl ?_)
    | (with_reducible refine two_setSlot (by assumption) (by decide) ?_; clear T; intro h3 T)
    | (with_reducible refine two_slotSame (by assumption) ?_)
    | (with_reducible refine two_nsGet T (b1 _ _) ?_)
    | (with_reducible refine two_nsGet T (c1 _ _ _) ?_)
    | (with_reducible refine two_nsGet T (c2 _ _ _) ?_)
    | ((with_reducible refine two_nsSetV (M := MM w) T (by with_reducible rfl) a7 hz1 (fun t => by rw [hD2]; exact hfr _ _) ?_); clear T; intro h3 tm tk3 T; rw [hD2] at T)
    | ((with_reducible refine two_nsSet T (by with_reducible rfl) (b2 _ _) (fun t => by rw [hD3]; exact hfr _ _) ?_); clear T; intro h3 tm3 tk3 T; rw [hD3] at T)
    | ((with_reducible refine two_updateCls (by assumption) ?hpp ?_); (case hpp => first | exact hpl _ (Nat.zero_le _) (Nat.zero_le _) | exact hpl _ (Nat.zero_le _) (Nat.le_refl 1)); clear T; intro h3 T)
    | ((with_reducible apply wpAny_ite_false); focus (kernel_rfl!; done)) | ((with_reducible apply wpAny_ite_true); focus (kernel_rfl!; done))
    | (k_extra "st"))
  have no := hNo tm tm3 h3 Md (fun b o e => T.keep _ _ (kb _ _ e)) ⟨_, T.keep _ _ gMb, rfl⟩
  refine for_constA _ ?_ (fun e he Q' q => ?_)
  case refine_2 =>
    obtain ⟨⟨x, y, hk⟩, hl, T', hT, hs⟩ := no e he
    rw [hk]
    repeat (k_extra "st")
    exact q
  repeat ((fail_if_success (with_reducible refine alloc_at ?_ ?_)); (fail_if_success (with_reducible refine for_constA (es3 _ _ _) ?_ ?_)); first
    | (with_reducible refine try_catch ?_)
    | (with_reducible refine two_entries T rfl ?_)
    | (with_reducible refine two_setSlot (by assumption) (by decide) ?_; clear T; intro h3 T)
    | (with_reducible refine two_slotSame (by assumption) ?_)
    | (with_reducible refine two_nsGet T (b1 _ _) ?_)
    | (with_reducible refine two_nsGet T (c1 _ _ _) ?_)
    | (with_reducible refine two_nsGet T (c2 _ _ _) ?_)
    | ((with_reducible refine two_nsSetV (M := MM w) T (by with_reducible rfl) a7 hz1 (fun t => by rw [hD2]; exact hfr _ _) ?_); clear T; intro h3 tm tk3 T; rw [hD2] at T)
    | ((with_reducible refine two_nsSet T (by with_reducible rfl) (b2 _ _) (fun t => by rw [hD3]; exact hfr _ _) ?_); clear T; intro h3 tm3 tk3 T; rw [hD3] at T)
    | ((with_reducible refine two_updateCls (by assumption) ?hpp ?_); (case hpp => first | exact hpl _ (Nat.zero_le _) (Nat.zero_le _) | exact hpl _ (Nat.zero_le _) (Nat.le_refl 1)); clear T; intro h3 T)
    | ((with_reducible apply wpAny_ite_false); focus (kernel_rfl!; done)) | ((with_reducible apply wpAny_ite_true); focus (kernel_rfl!; done))
    | (k_extra "st"))
  refine for_constA _ ?_ (fun e he Q' q => ?_)
  case refine_2 =>
    obtain ⟨⟨x, y, hk⟩, hl, T', hT, hs⟩ := no e he
    rw [if_neg (by rw [hl]; exact Bool.false_ne_true)]
    refine wpAny_bind (wpAny_specialOf (hT _ _ _ _) hs ?_)
    repeat (k_extra "st")
    exact q
  have gCs := T.gC
  rw [sl_eq] at gCs
  simp only [hdel] at gCs
  refine super_part hdp hun gCs (T.keep _ _ (kb _ _ gS)) hS (fun h5 tk5 k5 => ?_)
  replace T := T.more k5
  repeat (k_extra "st")
  have gCf := T.gC
  rw [sl_eq] at gCf
  simp only [hdel] at gCf
  exact hq C n Md tm tm3 _ h5 tk5 (fun b o e => T.keep _ _ (kb _ _ e)) hCn hnn T.ne gCf T.gn (T.keep _ _ gMb)
end Tn
section Tc
theorem rules_Tc_1 : True := by
  k_with_none
  k_with "exec If" => (refine wpAny_If ?_)
  k_with "ws" => ((first | with_reducible (first | refine wpAny_pure ?_ | refine wpAny_bind ?_ | refine wpAny_holding ?_ | refine wpAny_standAt ?_ | refine wpAny_point ?_ | refine wpAny_rule ?_ | refine wpAny_letGo ?_ | refine wpAny_mkInt' ?_ | refine wpAny_fresh' ?_ | refine wpAny_alloc' ?_ | refine wpAny_attempt ?_ | refine wpAny_throw ?_ | refine wpAny_of_eq (by assumption) ?_ | refine wpAny_typeOf (by assumption) ?_ | refine wpAny_specialOf_val (by assumption) (by assumption) ?_ | refine wpAny_specialOf (by assumption) (by assumption) ?_ | refine wpAny_isInstance_val (by assumption) (by assumption) ?_ | refine wpAny_isInstance (by assumption) (by assumption) ?_ | refine wpAny_call ?_ | refine wpAny_runValue ?_ | refine wpAny_run ?_) | ((with_reducible show wpAny _ _ (mkStr _) _ _ _); with_reducible refine wpAny_mkStr' ?_) | ((with_reducible apply wpAny_load'); focus (heap_get; done)) | ((with_reducible apply wpAny_update'); focus (heap_get; done)) | ((with_reducible apply wpAny_loadPart'); focus (heap_get; done)) | ((with_reducible apply wpAny_updatePart'); focus (heap_get; done)) | ((with_reducible apply wpAny_handled_none); focus (assumption; done)) | ((with_reducible apply wpAny_ite_false); focus (rfl; done)) | ((with_reducible apply wpAny_ite_true); focus (rfl; done)) | ((with_reducible apply wpAny_ite_false); focus (simp [*]; done)) | ((with_reducible apply wpAny_ite_true); focus (simp [*]; done)) | wp_delta | with_reducible_and_instances refine wpAny_pure ?_ | with_reducible_and_instances refine wpAny_bind ?_))
  trivial
theorem slot_type_init : Slot "type" "__init__" "type.__init__" := .of (owner := "type") (n := "__init__") (by rw [typeLookup_type, builtinLookup_eq_fast]; kernel_rfl) (by decide +kernel) (by decide +kernel) (by decide +kernel)
  (by first | exact .inl (by decide +kernel) | exact .inr (by decide +kernel)) (by rw [isSubtype_type]; kernel_rfl)
/-- type.__call__ at three arguments, from what type.__new__ gives -/
theorem type_call {w : World} {A : Around} {E : Value → Shared → Prop} {Q : Value → Shared → Prop} {h : Heap} {g : Array GenState} {d : Drawn} {tk : Nat} {os : OsState} (N B : Addr) (t0 : Tok)
    (hn : ∀ {A' : Around} {E' : Value → Shared → Prop} {Q' : Fin → Shared → Prop}, A'.depth ≤ A.depth + 2 → A'.units ≤ A.units + 4 →
      (∀ (C : Addr) (cd : ClassData) (sl : Array (Option Value)) (h' : Heap) (tk' : Nat), h'.get? C = some ⟨.type "type", none, .cls cd, sl⟩ → Q (.ref C) ⟨h', g, d, tk', os⟩ → Q' (.done (.ret (.ref C))) ⟨h', g, d, tk', os⟩) →
      wpAny (MM w) A' (Builtin.«type.__new__» ⟨[.type "type", .str "K" t0, .ref B, .ref N], []⟩) Q' E' ⟨h, g, d, tk, os⟩) :
    wpAny (MM w) A (call (.type "type") [.str "K" t0, .ref B, .ref N]) Q E ⟨h, g, d, tk, os⟩ := by
  refine wpAny_call (codeAny_of_tree ?_)
  show wpAny _ _ (callAny (.type "type") _) _ _ _
  refine wpAny_pure ⟨Code.quiet_builtin _ (by decide +kernel), codeAny_builtin F.entry_type_call ?_⟩
  rw [Around.under_plain (weight_type_call_type "type" [.str "K" t0, .ref B, .ref N] []) rfl]
  have y1 : mroOf (.type "type") = pure [.type "type", .type "object"] := by rw [mroOf_type]; kernel_rfl
  have y2 : Bind.madeBy (.type "type") = pure (some "type.__new__") := by kernel_rfl
  have y3 : checkTypeCall "type" ⟨[.str "K" t0, .ref B, .ref N], []⟩ = pure () := by kernel_rfl
  have y4 : checkBuiltinCall "type.__new__" ⟨[.type "type", .str "K" t0, .ref B, .ref N], []⟩ = pure () := by kernel_rfl
  have y5 : isSubtype (.type "type") (.type "type") = pure true := by rw [isSubtype_type]; kernel_rfl
  have y6 : typeLookup (.type "type") "__init__" = pure (some (.builtin "type.__init__")) := by rw [typeLookup_type, builtinLookup_eq_fast]; kernel_rfl
  repeat (k_extra "ws")
  refine codeAny_of_tree ?_
  show wpAny _ _ (do checkBuiltinCall "type.__new__" ⟨[.type "type", .str "K" t0, .ref B, .ref N], []⟩; again (.builtin "type.__new__" ⟨[.type "type", .str "K" t0, .ref B, .ref N], []⟩)) _ _ _
  refine wpAny_bind (wpAny_of_eq y4 (wpAny_pure ⟨plainId_quiet (by decide +kernel) _, codeAny_builtin (show entryFor table "type.__new__" = some Builtin.«type.__new__» from entryFor_of_tree (by kernel_rfl)) ?_⟩))
  rw [Around.under_plainId (by decide +kernel) _]
  refine hn ?_ ?_ (fun C cd sl h' tk' gC hQ => ?_)
  · first | exact Nat.le_add_right _ _ | (simp only [depth_in1]; omega) | omega
  · first | exact Nat.le_add_right _ _ | (simp only [units_in1]; omega) | omega
  have y7 : bindSpecial (.builtin "type.__init__") (.ref C) = pure (.builtin "type.__init__", [.ref C]) := by kernel_rfl
  have hT : ∀ tk, (⟨h', g, d, tk, os⟩ : Shared).TypeIs (.ref C) "type" := fun _ => ⟨_, gC, rfl⟩
  have hok : argsOk "type.__init__" ⟨[.ref C, .str "K" t0, .ref B, .ref N], []⟩ := by unfold argsOk; kernel_rfl
  repeat (k_extra "ws")
  refine codeAny_mono (codeAny_call_builtin (R := wants (fun r s₂ => r = .none ∧ s₂ = ⟨h', g, d, tk', os⟩) E) slot_type_init.plain (show entryFor table "type.__init__" = some Builtin.«type.__init__» from entryFor_of_tree (by kernel_rfl)) (slot_type_init.check _ _ _ _ _ _ _ _ (hT _) hok ?_)) fun r₂ s₂ hr₂ => ?_
  · unfold Builtin.«type.__init__»
    repeat (k_extra "ws")
    exact ⟨rfl, rfl⟩
  · cases r₂ with
    | error e => exact hr₂
    | ok fl₂ =>
      cases fl₂ with
      | ret r =>
        obtain ⟨rfl, rfl⟩ := hr₂
        repeat (any_goals (first | assumption | (k_extra "ws")))
      | _ => exact hr₂.elim
end Tc
section Tb
section
theorem rules_Tb_1 : True := by
  k_with_none
  k_with "exec If" => (refine wpAny_If ?_)
  trivial
/-- what the class body leaves: names, their hashes and keys' tokens, and the values -/
noncomputable def kEnts (c : Nat → Int) (k : Nat → Tok) (u0 u1 u2 : Tok) (fl : Int) (Sl f1 f2 f3 f4 f5 f6 St : Addr) : Array DictEntry :=
  #[⟨c 0, .str "__module__" (k 0), .str "cpy313.functools" u0⟩, ⟨c 1, .str "__qualname__" (k 1), .str "cmp_to_key.<locals>.K" u1⟩, ⟨c 2, .str "__firstlineno__" (k 2), .int fl u2⟩, ⟨c 3, .str "__slots__" (k 3), .ref Sl⟩, ⟨c 4, .str "__init__" (k 4), .ref f1⟩, ⟨c 5, .str "__lt__" (k 5), .ref f2⟩,
    ⟨c 6, .str "__gt__" (k 6), .ref f3⟩, ⟨c 7, .str "__eq__" (k 7), .ref f4⟩, ⟨c 8, .str "__le__" (k 8), .ref f5⟩, ⟨c 9, .str "__ge__" (k 9), .ref f6⟩, ⟨c 10, .str "__hash__" (k 10), .none⟩, ⟨c 11, .str "__static_attributes__" (k 11), .ref St⟩]
variable {c : Nat → Int} {k : Nat → Tok} {u0 u1 u2 : Tok} {fl : Int} {Sl f1 f2 f3 f4 f5 f6 St : Addr}
theorem kE_slots : (kEnts c k u0 u1 u2 fl Sl f1 f2 f3 f4 f5 f6 St).find? (·.key.isStr "__slots__") = some ⟨c 3, .str "__slots__" (k 3), .ref Sl⟩ := by kernel_rfl
theorem kE_obj : ((kEnts c k u0 u1 u2 fl Sl f1 f2 f3 f4 f5 f6 St).any fun x => x.key.isStr "obj") = false := by kernel_rfl
theorem kE_mod : ((kEnts c k u0 u1 u2 fl Sl f1 f2 f3 f4 f5 f6 St).any fun x => x.key.isStr "__module__") = true := by kernel_rfl
theorem kE_del : ((kEnts c k u0 u1 u2 fl Sl f1 f2 f3 f4 f5 f6 St).any fun x => x.key.isStr "__del__") = false := by kernel_rfl
theorem kE_qual : nsLook "__qualname__" ⟨.type "dict", none, .dict (kEnts c k u0 u1 u2 fl Sl f1 f2 f3 f4 f5 f6 St) 0, #[]⟩ = pure (some (.str "cmp_to_key.<locals>.K" u1)) := by kernel_rfl
theorem kE_doc : nsLook "__doc__" ⟨.type "dict", none, .dict (kEnts c k u0 u1 u2 fl Sl f1 f2 f3 f4 f5 f6 St) 0, #[]⟩ = pure none := by kernel_rfl
theorem kE_has : nsHas "__qualname__" ⟨.type "dict", none, .dict (kEnts c k u0 u1 u2 fl Sl f1 f2 f3 f4 f5 f6 St) 0, #[]⟩ = pure true := by kernel_rfl
/-- the same without its qualname -/
noncomputable def kEnts1 (c : Nat → Int) (k : Nat → Tok) (u0 u2 : Tok) (fl : Int) (Sl f1 f2 f3 f4 f5 f6 St : Addr) : Array DictEntry :=
  #[⟨c 0, .str "__module__" (k 0), .str "cpy313.functools" u0⟩, ⟨c 2, .str "__firstlineno__" (k 2), .int fl u2⟩, ⟨c 3, .str "__slots__" (k 3), .ref Sl⟩, ⟨c 4, .str "__init__" (k 4), .ref f1⟩, ⟨c 5, .str "__lt__" (k 5), .ref f2⟩,
    ⟨c 6, .str "__gt__" (k 6), .ref f3⟩, ⟨c 7, .str "__eq__" (k 7), .ref f4⟩, ⟨c 8, .str "__le__" (k 8), .ref f5⟩, ⟨c 9, .str "__ge__" (k 9), .ref f6⟩, ⟨c 10, .str "__hash__" (k 10), .none⟩, ⟨c 11, .str "__static_attributes__" (k 11), .ref St⟩]
theorem kE_drop : Obj.dropName "__qualname__" ⟨.type "dict", none, .dict (kEnts c k u0 u1 u2 fl Sl f1 f2 f3 f4 f5 f6 St) 0, #[]⟩ = ⟨.type "dict", none, .dict (kEnts1 c k u0 u2 fl Sl f1 f2 f3 f4 f5 f6 St) 1, #[]⟩ := by kernel_rfl
theorem kE1_0 : nsLook "__new__" ⟨.type "dict", none, .dict (kEnts1 c k u0 u2 fl Sl f1 f2 f3 f4 f5 f6 St) 1, #[]⟩ = pure none := by kernel_rfl
theorem kE1_1 : nsLook "__init_subclass__" ⟨.type "dict", none, .dict (kEnts1 c k u0 u2 fl Sl f1 f2 f3 f4 f5 f6 St) 1, #[]⟩ = pure none := by kernel_rfl
theorem kE1_2 : nsLook "__class_getitem__" ⟨.type "dict", none, .dict (kEnts1 c k u0 u2 fl Sl f1 f2 f3 f4 f5 f6 St) 1, #[]⟩ = pure none := by kernel_rfl
theorem kE1_3 : nsLook "__classcell__" ⟨.type "dict", none, .dict (kEnts1 c k u0 u2 fl Sl f1 f2 f3 f4 f5 f6 St) 1, #[]⟩ = pure none := by kernel_rfl
theorem kE1_4 : nsLook "__classdictcell__" ⟨.type "dict", none, .dict (kEnts1 c k u0 u2 fl Sl f1 f2 f3 f4 f5 f6 St) 1, #[]⟩ = pure none := by kernel_rfl
theorem kE1_5 : nsLook "obj" ⟨.type "dict", none, .dict (kEnts1 c k u0 u2 fl Sl f1 f2 f3 f4 f5 f6 St) 1, #[]⟩ = pure none := by kernel_rfl
theorem kE1_ref : aRefKeyMayBeTheName "obj" (kEnts1 c k u0 u2 fl Sl f1 f2 f3 f4 f5 f6 St) = false := by kernel_rfl
/-- with the slot's place -/
noncomputable def kEnts2 (w : World) (c : Nat → Int) (k : Nat → Tok) (u0 u2 : Tok) (fl : Int) (Sl f1 f2 f3 f4 f5 f6 St : Addr) (t : Tok) (v : Value) : Array DictEntry :=
  #[⟨c 0, .str "__module__" (k 0), .str "cpy313.functools" u0⟩, ⟨c 2, .str "__firstlineno__" (k 2), .int fl u2⟩, ⟨c 3, .str "__slots__" (k 3), .ref Sl⟩, ⟨c 4, .str "__init__" (k 4), .ref f1⟩, ⟨c 5, .str "__lt__" (k 5), .ref f2⟩,
    ⟨c 6, .str "__gt__" (k 6), .ref f3⟩, ⟨c 7, .str "__eq__" (k 7), .ref f4⟩, ⟨c 8, .str "__le__" (k 8), .ref f5⟩, ⟨c 9, .str "__ge__" (k 9), .ref f6⟩, ⟨c 10, .str "__hash__" (k 10), .none⟩, ⟨c 11, .str "__static_attributes__" (k 11), .ref St⟩, ⟨hashN w "obj", .str "obj" t, v⟩]
/-- and the doc -/
noncomputable def kEnts3 (w : World) (c : Nat → Int) (k : Nat → Tok) (u0 u2 : Tok) (fl : Int) (Sl f1 f2 f3 f4 f5 f6 St : Addr) (t : Tok) (v : Value) (u : Tok) : Array DictEntry :=
  #[⟨c 0, .str "__module__" (k 0), .str "cpy313.functools" u0⟩, ⟨c 2, .str "__firstlineno__" (k 2), .int fl u2⟩, ⟨c 3, .str "__slots__" (k 3), .ref Sl⟩, ⟨c 4, .str "__init__" (k 4), .ref f1⟩, ⟨c 5, .str "__lt__" (k 5), .ref f2⟩,
    ⟨c 6, .str "__gt__" (k 6), .ref f3⟩, ⟨c 7, .str "__eq__" (k 7), .ref f4⟩, ⟨c 8, .str "__le__" (k 8), .ref f5⟩, ⟨c 9, .str "__ge__" (k 9), .ref f6⟩, ⟨c 10, .str "__hash__" (k 10), .none⟩, ⟨c 11, .str "__static_attributes__" (k 11), .ref St⟩, ⟨hashN w "obj", .str "obj" t, v⟩, ⟨hashN w "__doc__", .str "__doc__" u, .none⟩]
variable {w : World} {t u : Tok} {v : Value}
theorem kE1_put : Obj.putName "obj" (hashN w "obj") (.str "obj" t) v ⟨.type "dict", none, .dict (kEnts1 c k u0 u2 fl Sl f1 f2 f3 f4 f5 f6 St) 1, #[]⟩ = ⟨.type "dict", none, .dict (kEnts2 w c k u0 u2 fl Sl f1 f2 f3 f4 f5 f6 St t v) 2, #[]⟩ := by kernel_rfl
theorem kE2_doc : nsLook "__doc__" ⟨.type "dict", none, .dict (kEnts2 w c k u0 u2 fl Sl f1 f2 f3 f4 f5 f6 St t v) 2, #[]⟩ = pure none := by kernel_rfl
theorem kE2_ref : aRefKeyMayBeTheName "__doc__" (kEnts2 w c k u0 u2 fl Sl f1 f2 f3 f4 f5 f6 St t v) = false := by kernel_rfl
theorem kE2_put : Obj.putName "__doc__" (hashN w "__doc__") (.str "__doc__" u) .none ⟨.type "dict", none, .dict (kEnts2 w c k u0 u2 fl Sl f1 f2 f3 f4 f5 f6 St t v) 2, #[]⟩ = ⟨.type "dict", none, .dict (kEnts3 w c k u0 u2 fl Sl f1 f2 f3 f4 f5 f6 St t v u) 3, #[]⟩ := by kernel_rfl
theorem kE3_eq : nsLook "__eq__" ⟨.type "dict", none, .dict (kEnts3 w c k u0 u2 fl Sl f1 f2 f3 f4 f5 f6 St t v u) 3, #[]⟩ = pure (some (.ref f4)) := by kernel_rfl
theorem kE3_hash : nsLook "__hash__" ⟨.type "dict", none, .dict (kEnts3 w c k u0 u2 fl Sl f1 f2 f3 f4 f5 f6 St t v u) 3, #[]⟩ = pure (some .none) := by kernel_rfl
end
theorem kE3_no {w : World} {c : Nat → Int} {k : Nat → Tok} {u0 u2 : Tok} {fl : Int} {Sl f1 f2 f3 f4 f5 f6 St Md : Addr} {t u : Tok} {h : Heap}
    (hf : ∀ a ∈ [f1, f2, f3, f4, f5, f6], ∃ o, h.get? a = some o ∧ o.cls = .type "function") (hSl : ∃ o, h.get? Sl = some o ∧ o.cls = .type "list") (hSt : ∃ o, h.get? St = some o ∧ o.cls = .type "tuple") (hM : ∃ o, h.get? Md = some o ∧ o.cls = .type "member_descriptor") :
    NoName (kEnts3 w c k u0 u2 fl Sl f1 f2 f3 f4 f5 f6 St t (.ref Md) u) h := by
  have n1 : typeLookup (.type "str") "__set_name__" = pure none := by rw [typeLookup_type, builtinLookup_eq_fast]; kernel_rfl
  have n2 : typeLookup (.type "int") "__set_name__" = pure none := by rw [typeLookup_type, builtinLookup_eq_fast]; kernel_rfl
  have n3 : typeLookup (.type "list") "__set_name__" = pure none := by rw [typeLookup_type, builtinLookup_eq_fast]; kernel_rfl
  have n4 : typeLookup (.type "function") "__set_name__" = pure none := by rw [typeLookup_type, builtinLookup_eq_fast]; kernel_rfl
  have n5 : typeLookup (.type "NoneType") "__set_name__" = pure none := by rw [typeLookup_type, builtinLookup_eq_fast]; kernel_rfl
  have n6 : typeLookup (.type "tuple") "__set_name__" = pure none := by rw [typeLookup_type, builtinLookup_eq_fast]; kernel_rfl
  have n7 : typeLookup (.type "member_descriptor") "__set_name__" = pure none := by rw [typeLookup_type, builtinLookup_eq_fast]; kernel_rfl
  have F : ∀ a ∈ [f1, f2, f3, f4, f5, f6], ∃ T, (∀ g d tk os, (⟨h, g, d, tk, os⟩ : Shared).TypeIs (.ref a) T) ∧ typeLookup (.type T) "__set_name__" = pure none := fun a ha => ⟨"function", fun _ _ _ _ => hf a ha, n4⟩
  intro e he
  simp only [kEnts3, List.mem_cons, List.not_mem_nil, or_false] at he
  rcases he with rfl | rfl | rfl | rfl | rfl | rfl | rfl | rfl | rfl | rfl | rfl | rfl | rfl
  · exact ⟨⟨_, _, rfl⟩, by kernel_rfl, "str", fun _ _ _ _ => rfl, n1⟩
  · exact ⟨⟨_, _, rfl⟩, by kernel_rfl, "int", fun _ _ _ _ => rfl, n2⟩
  · exact ⟨⟨_, _, rfl⟩, by kernel_rfl, "list", fun _ _ _ _ => hSl, n3⟩
  · exact ⟨⟨_, _, rfl⟩, by kernel_rfl, F _ (by simp)⟩
  · exact ⟨⟨_, _, rfl⟩, by kernel_rfl, F _ (by simp)⟩
  · exact ⟨⟨_, _, rfl⟩, by kernel_rfl, F _ (by simp)⟩
  · exact ⟨⟨_, _, rfl⟩, by kernel_rfl, F _ (by simp)⟩
  · exact ⟨⟨_, _, rfl⟩, by kernel_rfl, F _ (by simp)⟩
  · exact ⟨⟨_, _, rfl⟩, by kernel_rfl, F _ (by simp)⟩
  · exact ⟨⟨_, _, rfl⟩, by kernel_rfl, "NoneType", fun _ _ _ _ => rfl, n5⟩
  · exact ⟨⟨_, _, rfl⟩, by kernel_rfl, "tuple", fun _ _ _ _ => hSt, n6⟩
  · exact ⟨⟨_, _, rfl⟩, by kernel_rfl, "member_descriptor", fun _ _ _ _ => hM, n7⟩
  · exact ⟨⟨_, _, rfl⟩, by kernel_rfl, "NoneType", fun _ _ _ _ => rfl, n5⟩
end Tb
section Cn
theorem rules_Cn_1 : True := by
  k_with_none
  k_with "exec If" => (refine wpAny_If ?_)
  trivial
theorem cls_new {w : World} {A : Around} {E : Value → Shared → Prop} {Q : Value → Shared → Prop} {h : Heap} {g : Array GenState} {d : Drawn} {tk : Nat} {os : OsState} {N B Sl f1 f2 f3 f4 f5 f6 St : Addr} {t0 t1 : Tok} {c : Nat → Int} {k : Nat → Tok} {u0 u1 u2 : Tok} {fl : Int} {ep : Nat}
    (hdp : A.depth ≤ 700) (hun : A.units ≤ 700) {oS : Obj} (gS : h.get? cStatics = some oS) (hS : nsLook "thirdparty.any" oS = pure none)
    (hN : h.get? N = some ⟨.type "dict", none, .dict (kEnts c k u0 u1 u2 fl Sl f1 f2 f3 f4 f5 f6 St) ep, #[]⟩) (hNs : (N == sysModules) = false) (hB : h.get? B = some ⟨.type "tuple", none, .seq #[.type "object"] 0, #[]⟩)
    (hSl : h.get? Sl = some ⟨.type "list", none, .seq #[.str "obj" t1] 0, #[]⟩) (hf : ∀ a ∈ [f1, f2, f3, f4, f5, f6], ∃ o, h.get? a = some o ∧ o.cls = .type "function") (hSt : ∃ o, h.get? St = some o ∧ o.cls = .type "tuple")
    (hq : ∀ (C n Md : Addr) (tm tm3 tmd : Tok) (h' : Heap) (tk' : Nat), (∀ b o, h.get? b = some o → h'.get? b = some o) → h.get? C = none → h.get? n = none → @Ne Nat n C →
      h'.get? C = some ⟨.type "type", none, .cls ⟨"K", [.type "object"], [.ref C, .type "object"], n, "cmp_to_key.<locals>.K", false, ["obj"], [], false, none, false⟩, #[some (.ref B), none, some (.str "K" t0), some (.str "cmp_to_key.<locals>.K" u1), some (.builtin "object.__new__"), some (.bool false)]⟩ →
      h'.get? n = some ⟨.type "dict", none, .dict (kEnts3 w c k u0 u2 fl Sl f1 f2 f3 f4 f5 f6 St tm (.ref Md) tm3) 3, #[]⟩ →
      h'.get? Md = some ⟨.type "member_descriptor", none, .fields #[.str "obj" tmd, .ref C, .builtin "proto.slot", .builtin "proto.slot#set", rawInt 0], #[]⟩ → Q (.ref C) ⟨h', g, d, tk', os⟩) :
    wpAny (MM w) A (call (.type "type") [.str "K" t0, .ref B, .ref N]) Q E ⟨h, g, d, tk, os⟩ := by
  refine type_call N B t0 fun {A' E' Q'} hd hu hc => ?_
  refine type_new (es := kEnts c k u0 u1 u2 fl Sl f1 f2 f3 f4 f5 f6 St) (es1 := kEnts1 c k u0 u2 fl Sl f1 f2 f3 f4 f5 f6 St) (es2 := fun t v => kEnts2 w c k u0 u2 fl Sl f1 f2 f3 f4 f5 f6 St t v) (es3 := fun t v u => kEnts3 w c k u0 u2 fl Sl f1 f2 f3 f4 f5 f6 St t v u) (p1 := 1) (p2 := 2) (p3 := 3) (f4 := f4) (hdp := by omega) (hun := by omega) (gS := gS) (hS := hS)
    (hN := hN) (hNs := hNs) (hB := hB) (hSl := hSl) (hf := kE_slots) (ha := kE_obj) (hm := kE_mod) (hql := kE_qual) (hdl := kE_doc) (hsz := Nat.le_of_ble_eq_true rfl) (hqh := kE_has) (hD1 := kE_drop)
    (a1 := kE1_0) (a2 := kE1_1) (a3 := kE1_2) (a4 := kE1_3) (a5 := kE1_4) (a6 := kE1_5) (a7 := kE1_ref) (hz1 := Nat.le_of_ble_eq_true rfl) (hD2 := fun t v => kE1_put) (b1 := fun t v => kE2_doc) (b2 := fun t v => kE2_ref) (hD3 := fun t v u => kE2_put) (c1 := fun t v u => kE3_eq) (c2 := fun t v u => kE3_hash)
    (hNo := fun t u h' Md kp hM => kE3_no (fun a ha => ?_) ?_ ?_ hM) (hdel := kE_del) (hq := fun C n Md tm tm3 tmd h' tk' kp e1 e2 ne gC gn gM => hc C _ _ h' tk' gC (hq C n Md tm tm3 tmd h' tk' kp e1 e2 ne gC gn gM))
  · obtain ⟨o, e, r⟩ := hf a ha
    exact ⟨o, kp _ _ e, r⟩
  · exact ⟨_, kp _ _ hSl, rfl⟩
  · obtain ⟨o, e, r⟩ := hSt
    exact ⟨o, kp _ _ e, r⟩
end Cn
section Kb
theorem rules_Kb_1 : True := by
  k_with_none
  k_with "exec If" => (refine wpAny_If ?_)
  k_with "ws" => ((first | with_reducible (first | refine wpAny_pure ?_ | refine wpAny_bind ?_ | refine wpAny_holding ?_ | refine wpAny_standAt ?_ | refine wpAny_point ?_ | refine wpAny_rule ?_ | refine wpAny_letGo ?_ | refine wpAny_mkInt' ?_ | refine wpAny_fresh' ?_ | refine wpAny_alloc' ?_ | refine wpAny_attempt ?_ | refine wpAny_throw ?_ | refine wpAny_of_eq (by assumption) ?_ | refine wpAny_typeOf (by assumption) ?_ | refine wpAny_specialOf_val (by assumption) (by assumption) ?_ | refine wpAny_specialOf (by assumption) (by assumption) ?_ | refine wpAny_isInstance_val (by assumption) (by assumption) ?_ | refine wpAny_isInstance (by assumption) (by assumption) ?_ | refine wpAny_call ?_ | refine wpAny_runValue ?_ | refine wpAny_run ?_) | ((with_reducible show wpAny _ _ (mkStr _) _ _ _); with_reducible refine wpAny_mkStr' ?_) | ((with_reducible apply wpAny_load'); focus (heap_get; done)) | ((with_reducible apply wpAny_update'); focus (heap_get; done)) | ((with_reducible apply wpAny_loadPart'); focus (heap_get; done)) | ((with_reducible apply wpAny_updatePart'); focus (heap_get; done)) | ((with_reducible apply wpAny_handled_none); focus (assumption; done)) | ((with_reducible apply wpAny_ite_false); focus (rfl; done)) | ((with_reducible apply wpAny_ite_true); focus (rfl; done)) | ((with_reducible apply wpAny_ite_false); focus (simp [*]; done)) | ((with_reducible apply wpAny_ite_true); focus (simp [*]; done)) | wp_delta | with_reducible_and_instances refine wpAny_pure ?_ | with_reducible_and_instances refine wpAny_bind ?_))
  trivial
noncomputable def clsS : Stmt := sA (sB (sA pB 44)) 0
noncomputable def sSc (s : Stmt) : Scope := (sK s).2.2.1
noncomputable abbrev clsB : List Stmt := by
  refine' (?g : ∀ l : List Stmt, sB clsS = l → List Stmt) _ ?h
  case g => exact fun l _ => l
  all_goals try (conv => lhs; whnf)
noncomputable abbrev clsSc : Scope := by
  refine' (?g : ∀ l : Scope, sSc clsS = l → Scope) _ ?h
  case g => exact fun l _ => l
  all_goals try (conv => lhs; whnf)
/-- the class body's env -/
noncomputable abbrev clsE (N c' fr cl : Addr) : Env := { scope := clsSc, locals := N, globals := mainGlobals, cells := [("mycmp", cl)], qual := "cmp_to_key.<locals>.K" ++ ".", code := .ref c', frame := some fr, builtins := builtinsNs }
noncomputable abbrev dO (es : Array DictEntry) (ep : Nat) : Obj := ⟨.type "dict", none, .dict es ep, #[]⟩
section
variable {w : World} {A : Around} {E : Value → Shared → Prop} {hb h : Heap} {g : Array GenState} {d : Drawn} {tk : Nat} {os : OsState} {N P c' fr cl : Addr} {es : Array DictEntry} {ep : Nat} {oC : Obj}
theorem cls_store {name : Str} {v : Value} {Q : Unit → Shared → Prop} (T : Two hb N P (dO es ep) oC h) (hs : storeName (clsE N c' fr cl) name v = localSet (clsE N c' fr cl) name v) (ha : aRefKeyMayBeTheName name es = false) {es' : Tok → Array DictEntry} {ep' : Nat}
    (hp : ∀ t : Tok, Obj.putName name (hashN w name) (.str name t) v (dO es ep) = dO (es' t) ep')
    (hq : ∀ h' t tk', Two hb N P (dO (es' t) ep') oC h' → Q () ⟨h', g, d, tk', os⟩) :
    wpAny (MM w) A (storeName (clsE N c' fr cl) name v) Q E ⟨h, g, d, tk, os⟩ := by
  rw [hs]
  unfold localSet
  refine wpAny_bind (wpAny_load T.gn ?_)
  show wpAny _ _ (if (Value.type "dict" == Value.type "dict") = true then _ else _) _ _ _
  rw [if_pos (by decide +kernel)]
  refine two_nsSet T rfl ha (fun t => by rw [hp]; rfl) (fun h' t tk' T' => ?_)
  rw [hp] at T'
  exact hq _ _ _ T'
theorem cls_def {name : Str} {params : Arguments} {body : List Stmt} {scope : Scope} {pos : Pos} {mg : Str → Option Value} {bm : Addr} {ob : Obj} {ps : Array Value} {clos : List (Str × Addr)} {Q : Flow → Shared → Prop}
    (T : Two hb N P (dO es ep) (tabObj ps) h) (C : CodeHd hb c' P) (hg : hb.Ns mainGlobals mg) (hbm : mg "__builtins__" = some (.ref bm)) (hne : bm ≠ builtinsNs) (hbo : hb.get? bm = some ob) (hb1 : ob.cls = .type "module") (hb2 : ob.dict = some builtinsNs) (hb3 : ob.data = .plain)
    (ht : TriplesOk ps.toList) (hnf : codeAmong pos ps.toList = none) (hcl : closureFor scope (clsE N c' fr cl) = pure clos) (hd0 : params.defaults = []) (hk0 : params.kw_defaults = []) (hann : annTrees params none (clsE N c' fr cl) = [])
    (hs : ∀ v, storeName (clsE N c' fr cl) name v = localSet (clsE N c' fr cl) name v) (ha : aRefKeyMayBeTheName name es = false) {es' : Tok → Addr → Array DictEntry} {ep' : Nat}
    (hp : ∀ (t : Tok) (f : Addr), Obj.putName name (hashN w name) (.str name t) (.ref f) (dO es ep) = dO (es' t f) ep')
    (hq : ∀ f c2 ctv doc hb' h' t tk', (∀ b o, hb.get? b = some o → hb'.get? b = some o) → Two hb' N P (dO (es' t f) ep') (tabObj (ps ++ #[rawInt pos.line, rawInt pos.col, .ref c2])) h' →
      hb'.get? f = some (fnMade name (qualnameIn (clsE N c' fr cl) name name) params body scope clos doc ((mg "__name__").getD .none) c2 ctv) → hb'.CodeRec (.ref c2) (qualnameIn (clsE N c' fr cl) name name) → Q .next ⟨h', g, d, tk', os⟩) :
    wpAny (MM w) A (exec (.FunctionDef name params body [] none [] scope none name pos) (clsE N c' fr cl)) Q E ⟨h, g, d, tk, os⟩ := by
  refine nestDef_K hd0 hk0 hann ?_
  have kb := T.keep
  have hgP : mainGlobals ≠ P := fun q => by
    obtain ⟨o, es, ep, e, hd, _⟩ := hg
    rw [q, T.hC] at e; cases e
  have hbP : bm ≠ P := fun q => by rw [q, T.hC] at hbo; cases hbo
  have hbG : bm ≠ mainGlobals := fun q => by
    obtain ⟨o, es, ep, e, hd, _⟩ := hg
    rw [q, e] at hbo; cases hbo; rw [hd] at hb3; cases hb3
  refine makeFunction_K (mg := mg) hcl rfl (hg.keeps kb) rfl (C.keeps kb) T.gC ht hnf hgP ⟨bm, ob, hbm, hne, hbG, hbP, kb _ _ hbo, hb1, hb2, hb3⟩ fun c2 ctv doc h' tk1 hx hge hlt hrec htb => ?_
  generalize hfn : fnMade name (qualnameIn (clsE N c' fr cl) name name) params body scope clos doc ((mg "__name__").getD .none) c2 ctv = ofn at hq ⊢
  have hff : ofn.isFreed = false := by rw [← hfn]; rfl
  have gN1 : (h'.push ofn).get? N = some (dO es ep) := Heap.get?_push_of_some _ (hx _ _ T.ne T.gn)
  have gP1 : (h'.push ofn).get? P = some _ := Heap.get?_push_of_some _ htb
  have gf : (h'.push ofn).get? h'.objs.size = some ofn := Heap.get?_push_size _ hff
  have hN1 := Heap.lt_size (hx _ _ T.ne T.gn)
  have hP1 := Heap.lt_size htb
  have vis : ∀ b o, b ≠ N → b ≠ P → (h'.push ofn).get? b = some o → (hideAll (h'.push ofn) [N, P]).get? b = some o := fun b o n1 n2 e => hideAll_get _ e fun q => by
    rcases List.mem_cons.mp q with q | q
    · exact n1 q
    · exact n2 (List.mem_singleton.mp q)
  have T1 : Two (hideAll (h'.push ofn) [N, P]) N P (dO es ep) (tabObj (ps ++ #[rawInt pos.line, rawInt pos.col, .ref c2])) (h'.push ofn) :=
    ⟨fun b o e => of_hideAll _ e, gN1, gP1, T.ne, hideAll_none _ (.head _), hideAll_none _ (.tail _ (.head _))⟩
  refine cls_store T1 (hs _) ha (fun t => hp t _) fun h2 t tk2 T2 => ?_
  refine hq _ c2 ctv doc _ h2 t tk2 (fun b o e => ?_) T2 (by rw [hfn]; exact vis _ _ (Nat.ne_of_gt hN1) (Nat.ne_of_gt hP1) gf) ?_
  · have n1 : b ≠ N := fun q => by have := T.hn; rw [← q, e] at this; cases this
    have n2 : b ≠ P := fun q => by have := T.hC; rw [← q, e] at this; cases this
    exact vis _ _ n1 n2 (Heap.get?_push_of_some _ (hx _ _ n2 (kb _ _ e)))
  · obtain ⟨c3, oc, vs, t3, e3, hoc, hd3, hv3⟩ := hrec
    cases e3
    refine ⟨c2, oc, vs, t3, rfl, vis _ _ ?_ ?_ (Heap.get?_push_of_some _ hoc), hd3, hv3⟩
    · intro q; have := Heap.lt_size T.gn; rw [← q] at this; exact absurd (Nat.lt_of_le_of_lt hge this) (Nat.lt_irrefl _)
    · intro q; have := Heap.lt_size T.gC; rw [← q] at this; exact absurd (Nat.lt_of_le_of_lt hge this) (Nat.lt_irrefl _)
noncomputable def kNm : Nat → Str
  | 0 => "__module__"
  | 1 => "__qualname__"
  | 2 => "__firstlineno__"
  | 3 => "__slots__"
  | 4 => "__init__"
  | 5 => "__lt__"
  | 6 => "__gt__"
  | 7 => "__eq__"
  | 8 => "__le__"
  | 9 => "__ge__"
  | 10 => "__hash__"
  | _ => "__static_attributes__"
noncomputable def kC (w : World) (i : Nat) : Int := hashN w (kNm i)
noncomputable def kUp (k : Nat → Tok) (n : Nat) (t : Tok) (i : Nat) : Tok := if Nat.beq i n then t else k i
/-- the class body's dict on its way: the first n entries -/
noncomputable def kPart (w : World) (n : Nat) (k : Nat → Tok) (m0 : Value) (u1 u2 : Tok) (Sl f1 f2 f3 f4 f5 f6 St : Addr) : Array DictEntry :=
  ((⟨kC w 0, .str "__module__" (k 0), m0⟩ :: ⟨kC w 1, .str "__qualname__" (k 1), .str "cmp_to_key.<locals>.K" u1⟩ :: ⟨kC w 2, .str "__firstlineno__" (k 2), .int 328 u2⟩ :: ⟨kC w 3, .str "__slots__" (k 3), .ref Sl⟩ :: ⟨kC w 4, .str "__init__" (k 4), .ref f1⟩ :: ⟨kC w 5, .str "__lt__" (k 5), .ref f2⟩ ::
    ⟨kC w 6, .str "__gt__" (k 6), .ref f3⟩ :: ⟨kC w 7, .str "__eq__" (k 7), .ref f4⟩ :: ⟨kC w 8, .str "__le__" (k 8), .ref f5⟩ :: ⟨kC w 9, .str "__ge__" (k 9), .ref f6⟩ :: ⟨kC w 10, .str "__hash__" (k 10), .none⟩ :: ⟨kC w 11, .str "__static_attributes__" (k 11), .ref St⟩ :: []).take n).toArray
section
variable {k : Nat → Tok} {m0 : Value} {u1 u2 t : Tok} {Sl f1 f2 f3 f4 f5 f6 St : Addr} {v : Value}
theorem kp_mod : Obj.putName "__module__" (hashN w "__module__") (.str "__module__" t) v (dO (kPart w 3 k m0 u1 u2 Sl f1 f2 f3 f4 f5 f6 St) ep) = dO (kPart w 3 k v u1 u2 Sl f1 f2 f3 f4 f5 f6 St) ep := by kernel_rfl
theorem kp_3 : Obj.putName "__slots__" (hashN w "__slots__") (.str "__slots__" t) (.ref Sl) (dO (kPart w 3 k m0 u1 u2 0 0 0 0 0 0 0 0) ep) = dO (kPart w 4 (kUp k 3 t) m0 u1 u2 Sl 0 0 0 0 0 0 0) (ep + 1) := by kernel_rfl
theorem kp_4 : Obj.putName "__init__" (hashN w "__init__") (.str "__init__" t) (.ref f1) (dO (kPart w 4 k m0 u1 u2 Sl 0 0 0 0 0 0 0) ep) = dO (kPart w 5 (kUp k 4 t) m0 u1 u2 Sl f1 0 0 0 0 0 0) (ep + 1) := by kernel_rfl
theorem kp_5 : Obj.putName "__lt__" (hashN w "__lt__") (.str "__lt__" t) (.ref f2) (dO (kPart w 5 k m0 u1 u2 Sl f1 0 0 0 0 0 0) ep) = dO (kPart w 6 (kUp k 5 t) m0 u1 u2 Sl f1 f2 0 0 0 0 0) (ep + 1) := by kernel_rfl
theorem kp_6 : Obj.putName "__gt__" (hashN w "__gt__") (.str "__gt__" t) (.ref f3) (dO (kPart w 6 k m0 u1 u2 Sl f1 f2 0 0 0 0 0) ep) = dO (kPart w 7 (kUp k 6 t) m0 u1 u2 Sl f1 f2 f3 0 0 0 0) (ep + 1) := by kernel_rfl
theorem kp_7 : Obj.putName "__eq__" (hashN w "__eq__") (.str "__eq__" t) (.ref f4) (dO (kPart w 7 k m0 u1 u2 Sl f1 f2 f3 0 0 0 0) ep) = dO (kPart w 8 (kUp k 7 t) m0 u1 u2 Sl f1 f2 f3 f4 0 0 0) (ep + 1) := by kernel_rfl
theorem kp_8 : Obj.putName "__le__" (hashN w "__le__") (.str "__le__" t) (.ref f5) (dO (kPart w 8 k m0 u1 u2 Sl f1 f2 f3 f4 0 0 0) ep) = dO (kPart w 9 (kUp k 8 t) m0 u1 u2 Sl f1 f2 f3 f4 f5 0 0) (ep + 1) := by kernel_rfl
theorem kp_9 : Obj.putName "__ge__" (hashN w "__ge__") (.str "__ge__" t) (.ref f6) (dO (kPart w 9 k m0 u1 u2 Sl f1 f2 f3 f4 f5 0 0) ep) = dO (kPart w 10 (kUp k 9 t) m0 u1 u2 Sl f1 f2 f3 f4 f5 f6 0) (ep + 1) := by kernel_rfl
theorem kp_10 : Obj.putName "__hash__" (hashN w "__hash__") (.str "__hash__" t) .none (dO (kPart w 10 k m0 u1 u2 Sl f1 f2 f3 f4 f5 f6 0) ep) = dO (kPart w 11 (kUp k 10 t) m0 u1 u2 Sl f1 f2 f3 f4 f5 f6 0) (ep + 1) := by kernel_rfl
theorem kp_11 : Obj.putName "__static_attributes__" (hashN w "__static_attributes__") (.str "__static_attributes__" t) (.ref St) (dO (kPart w 11 k m0 u1 u2 Sl f1 f2 f3 f4 f5 f6 0) ep) = dO (kPart w 12 (kUp k 11 t) m0 u1 u2 Sl f1 f2 f3 f4 f5 f6 St) (ep + 1) := by kernel_rfl
theorem kp_all {u0 : Tok} : kPart w 12 k (.str "cpy313.functools" u0) u1 u2 Sl f1 f2 f3 f4 f5 f6 St = kEnts (kC w) k u0 u1 u2 328 Sl f1 f2 f3 f4 f5 f6 St := by kernel_rfl
end
theorem kr_mod {k : Nat → Tok} {m0 : Value} {u1 u2 : Tok} {Sl f1 f2 f3 f4 f5 f6 St : Addr} : aRefKeyMayBeTheName "__module__" (kPart w 3 k m0 u1 u2 Sl f1 f2 f3 f4 f5 f6 St) = false := by kernel_rfl
/-- what the class body's code stands on -/
structure ClsCx (hb : Heap) (c' P : Addr) (mg : Str → Option Value) : Prop where
  C : CodeHd hb c' P
  g : hb.Ns mainGlobals mg
  bm : ∃ bm ob, mg "__builtins__" = some (.ref bm) ∧ bm ≠ builtinsNs ∧ hb.get? bm = some ob ∧ ob.cls = .type "module" ∧ ob.dict = some builtinsNs ∧ ob.data = .plain
theorem ClsCx.keeps {hb' : Heap} {mg : Str → Option Value} (X : ClsCx hb c' P mg) (k : ∀ b o, hb.get? b = some o → hb'.get? b = some o) : ClsCx hb' c' P mg :=
  ⟨X.C.keeps k, X.g.keeps k, let ⟨bm, ob, a, b, c, r⟩ := X.bm; ⟨bm, ob, a, b, k _ _ c, r⟩⟩
theorem Two.visible {n C : Addr} {on oc : Obj} (T : Two hb n C on oc h) {h' : Heap} (k : ∀ b o, h.get? b = some o → h'.get? b = some o) : ∀ b o, hb.get? b = some o → (hideAll h' [n, C]).get? b = some o := fun b o e =>
  hideAll_get _ (k _ _ (T.keep b o e)) fun q => by
    rcases List.mem_cons.mp q with q | q
    · have := T.hn; rw [← q, e] at this; cases this
    · have := T.hC; rw [← List.mem_singleton.mp q, e] at this; cases this
theorem Two.fresh {n C a : Addr} {on oc o : Obj} (T : Two hb n C on oc h) {h' : Heap} (e0 : h.get? a = none) (e : h'.get? a = some o) : (hideAll h' [n, C]).get? a = some o :=
  hideAll_get _ e fun q => by
    rcases List.mem_cons.mp q with q | q
    · have := T.gn; rw [← q, e0] at this; cases this
    · have := T.gC; rw [← List.mem_singleton.mp q, e0] at this; cases this
/-- a code's table whose lines lie below n -/
noncomputable def TabBelow (n : Nat) (l : List Value) : Prop := TriplesOk l ∧ ∀ pos : Pos, n ≤ pos.line → codeAmong pos l = none
theorem codeAmong_past {pos : Pos} {a b : Int} {c : Value} (hne : (a == (pos.line : Int)) = false) (l : List Value) (h : TriplesOk l) (hn : codeAmong pos l = none) : codeAmong pos (l ++ [rawInt a, rawInt b, c]) = none := by
  fun_induction TriplesOk l with
  | case1 => simp [codeAmong, rawInt, hne]
  | case2 a' t b' u x rest ih =>
    unfold codeAmong at hn
    rw [List.cons_append, List.cons_append, List.cons_append]
    unfold codeAmong
    split at hn
    · cases hn
    · rename_i q
      rw [if_neg q]
      exact ih h hn
  | case3 l h1 h2 => exact h.elim
theorem TabBelow.snoc {n : Nat} {ps : Array Value} {pos : Pos} {c : Value} {n' : Nat} (h : TabBelow n ps.toList) (h1 : n ≤ n') (h2 : pos.line < n') : TabBelow n' (ps ++ #[rawInt pos.line, rawInt pos.col, c]).toList := by
  rw [show (ps ++ #[rawInt pos.line, rawInt pos.col, c]).toList = ps.toList ++ [rawInt pos.line, rawInt pos.col, c] by simp]
  refine ⟨TriplesOk_snoc _ _ _ _ h.1, fun p hp => codeAmong_past ?_ _ h.1 (h.2 p (Nat.le_trans h1 hp))⟩
  rw [beq_eq_false_iff_ne]
  intro e
  have e' : pos.line = p.line := Int.ofNat.inj e
  omega
theorem cls_defs (n n' : Nat) {name : Str} {params : Arguments} {body rest : List Stmt} {scope : Scope} {pos : Pos} {mg : Str → Option Value} {ps : Array Value} {clos : List (Str × Addr)} {Q : Flow → Shared → Prop}
    (T : Two hb N P (dO es ep) (tabObj ps) h) (X : ClsCx hb c' P mg)
    (ht : TabBelow n ps.toList) (hnf : Nat.ble n pos.line = true) (hn1 : Nat.ble n n' = true) (hn2 : Nat.blt pos.line n' = true) (hcl : closureFor scope (clsE N c' fr cl) = pure clos) (hd0 : params.defaults = []) (hk0 : params.kw_defaults = []) (hann : annTrees params none (clsE N c' fr cl) = [])
    (hs : ∀ v, storeName (clsE N c' fr cl) name v = localSet (clsE N c' fr cl) name v) (ha : aRefKeyMayBeTheName name es = false) {es' : Tok → Addr → Array DictEntry} {ep' : Nat}
    (hp : ∀ (t : Tok) (f : Addr), Obj.putName name (hashN w name) (.str name t) (.ref f) (dO es ep) = dO (es' t f) ep')
    (hq : ∀ f c2 ctv doc hb' h' t tk' ps', (∀ b o, hb.get? b = some o → hb'.get? b = some o) → Two hb' N P (dO (es' t f) ep') (tabObj ps') h' → TabBelow n' ps'.toList → ClsCx hb' c' P mg →
      hb'.get? f = some (fnMade name (qualnameIn (clsE N c' fr cl) name name) params body scope clos doc ((mg "__name__").getD .none) c2 ctv) → hb'.CodeRec (.ref c2) (qualnameIn (clsE N c' fr cl) name name) → wpAny (MM w) A (execs rest (clsE N c' fr cl)) Q E ⟨h', g, d, tk', os⟩) :
    wpAny (MM w) A (execs (.FunctionDef name params body [] none [] scope none name pos :: rest) (clsE N c' fr cl)) Q E ⟨h, g, d, tk, os⟩ := by
  obtain ⟨bm, ob, hbm, hne, hbo, hb1, hb2, hb3⟩ := X.bm
  refine wpAny_execs_cons (cls_def T X.C X.g hbm hne hbo hb1 hb2 hb3 ht.1 (ht.2 _ (Nat.le_of_ble_eq_true hnf)) hcl hd0 hk0 hann hs ha hp fun f c2 ctv doc hb' h' t tk' k T' gf rf => ?_)
  exact hq f c2 ctv doc hb' h' t tk' _ k T' (ht.snoc (Nat.le_of_ble_eq_true hn1) (Nat.le_of_ble_eq_true hn2)) (X.keeps k) gf rf
theorem st_mod {k : Nat → Tok} {m0 : Value} {u1 u2 : Tok} {Q : Flow → Shared → Prop} (T : Two hb N P (dO (kPart w 3 k m0 u1 u2 0 0 0 0 0 0 0 0) ep) oC h)
    (hq : ∀ h' tk' u0, Two hb N P (dO (kPart w 3 k (.str "cpy313.functools" u0) u1 u2 0 0 0 0 0 0 0 0) ep) oC h' → Q .next ⟨h', g, d, tk', os⟩) :
    wpAny (MM w) A (exec (sA clsB 0) (clsE N c' fr cl)) Q E ⟨h, g, d, tk, os⟩ := by
  dsimp only [sA, clsB, List.getD_cons_zero]
  repeat (first
    | (with_reducible refine cls_store T ?_ kr_mod (fun t => kp_mod) ?_); (case refine_1 => kernel_rfl); clear T; intro h t tk T
    | (k_extra "ws"))
  exact hq _ _ _ T
theorem st_slots {k : Nat → Tok} {m0 : Value} {u1 u2 : Tok} {Q : Flow → Shared → Prop} (T : Two hb N P (dO (kPart w 3 k m0 u1 u2 0 0 0 0 0 0 0 0) ep) oC h)
    (hq : ∀ Sl hb' h' tk' t t1, (∀ b o, hb.get? b = some o → hb'.get? b = some o) → Two hb' N P (dO (kPart w 4 (kUp k 3 t) m0 u1 u2 Sl 0 0 0 0 0 0 0) (ep + 1)) oC h' → hb'.get? Sl = some ⟨.type "list", none, .seq #[.str "obj" t1] 0, #[]⟩ → Q .next ⟨h', g, d, tk', os⟩) :
    wpAny (MM w) A (exec (sA clsB 1) (clsE N c' fr cl)) Q E ⟨h, g, d, tk, os⟩ := by
  dsimp only [sA, clsB, List.getD_cons_zero, List.getD_cons_succ]
  repeat ((fail_if_success (with_reducible refine alloc_at ?_ ?_)); (k_extra "ws"))
  refine alloc_at ?hq ?hf
  case hf => rfl
  intro Sl h1 nSl gSl kSl
  have kb := T.visible kSl
  replace gSl := T.fresh nSl gSl
  replace T := (T.more kSl).base
  repeat (first
    | (with_reducible refine cls_store T ?_ ?_ (fun t => kp_3) ?_); (case refine_1 => kernel_rfl); (case refine_2 => kernel_rfl); clear T; intro h t tk T
    | (k_extra "ws"))
  exact hq _ _ _ _ _ _ kb T gSl
theorem st_hash {k : Nat → Tok} {m0 : Value} {u1 u2 : Tok} {Sl f1 f2 f3 f4 f5 f6 : Addr} {Q : Flow → Shared → Prop} (T : Two hb N P (dO (kPart w 10 k m0 u1 u2 Sl f1 f2 f3 f4 f5 f6 0) ep) oC h)
    (hq : ∀ h' tk' t, Two hb N P (dO (kPart w 11 (kUp k 10 t) m0 u1 u2 Sl f1 f2 f3 f4 f5 f6 0) (ep + 1)) oC h' → Q .next ⟨h', g, d, tk', os⟩) :
    wpAny (MM w) A (exec (sA clsB 8) (clsE N c' fr cl)) Q E ⟨h, g, d, tk, os⟩ := by
  dsimp only [sA, clsB, List.getD_cons_zero, List.getD_cons_succ]
  repeat (first
    | (with_reducible refine cls_store T ?_ ?_ (fun t => kp_10) ?_); (case refine_1 => kernel_rfl); (case refine_2 => kernel_rfl); clear T; intro h t tk T
    | (k_extra "ws"))
  exact hq _ _ _ T
noncomputable abbrev inP : Arguments := by
  refine' (?g : ∀ l : Arguments, sP (sA clsB 2) = l → Arguments) _ ?h
  case g => exact fun l _ => l
  all_goals try (conv => lhs; whnf)
noncomputable abbrev inB : List Stmt := by
  refine' (?g : ∀ l : List Stmt, sB (sA clsB 2) = l → List Stmt) _ ?h
  case g => exact fun l _ => l
  all_goals try (conv => lhs; whnf)
noncomputable abbrev inS : Scope := by
  refine' (?g : ∀ l : Scope, sS (sA clsB 2) = l → Scope) _ ?h
  case g => exact fun l _ => l
  all_goals try (conv => lhs; whnf)
noncomputable abbrev ltP : Arguments := by
  refine' (?g : ∀ l : Arguments, sP (sA clsB 3) = l → Arguments) _ ?h
  case g => exact fun l _ => l
  all_goals try (conv => lhs; whnf)
noncomputable abbrev ltB : List Stmt := by
  refine' (?g : ∀ l : List Stmt, sB (sA clsB 3) = l → List Stmt) _ ?h
  case g => exact fun l _ => l
  all_goals try (conv => lhs; whnf)
noncomputable abbrev ltS : Scope := by
  refine' (?g : ∀ l : Scope, sS (sA clsB 3) = l → Scope) _ ?h
  case g => exact fun l _ => l
  all_goals try (conv => lhs; whnf)
/-- what the class body leaves -/
structure BodyEnd (hb : Heap) (cl : Addr) (pm : Value) (Sl f1 f2 f3 f4 f5 f6 : Addr) : Prop where
  sl : ∃ t1, hb.get? Sl = some ⟨.type "list", none, .seq #[.str "obj" t1] 0, #[]⟩
  m1 : ∃ doc c ctv, hb.get? f1 = some (fnMade "__init__" "cmp_to_key.<locals>.K.__init__" inP inB inS [] doc pm c ctv) ∧ hb.CodeRec (.ref c) "cmp_to_key.<locals>.K.__init__"
  m2 : ∃ doc c ctv, hb.get? f2 = some (fnMade "__lt__" "cmp_to_key.<locals>.K.__lt__" ltP ltB ltS [("mycmp", cl)] doc pm c ctv) ∧ hb.CodeRec (.ref c) "cmp_to_key.<locals>.K.__lt__"
  fs : ∀ a ∈ [f1, f2, f3, f4, f5, f6], ∃ o, hb.get? a = some o ∧ o.cls = .type "function"
theorem codeRec_k {h h' : Heap} {c : Value} {q : Str} (r : h.CodeRec c q) (k : ∀ b o, h.get? b = some o → h'.get? b = some o) : h'.CodeRec c q := r.keeps k
theorem body_run {mg : Str → Option Value} {Q : Flow → Shared → Prop} {k : Nat → Tok} {m0 : Value} {u1 u2 : Tok}
    (T : Two hb N P (dO (kPart w 3 k m0 u1 u2 0 0 0 0 0 0 0 0) ep) (tabObj #[]) h) (X : ClsCx hb c' P mg)
    (hq : ∀ (Sl f1 f2 f3 f4 f5 f6 : Addr) hb' h' tk' (k' : Nat → Tok) u0 ps ep', (∀ b o, hb.get? b = some o → hb'.get? b = some o) → Two hb' N P (dO (kPart w 11 k' (.str "cpy313.functools" u0) u1 u2 Sl f1 f2 f3 f4 f5 f6 0) ep') (tabObj ps) h' → BodyEnd hb' cl ((mg "__name__").getD .none) Sl f1 f2 f3 f4 f5 f6 → Q .next ⟨h', g, d, tk', os⟩) :
    wpAny (MM w) A (PySem.run (.body clsB (clsE N c' fr cl))) Q E ⟨h, g, d, tk, os⟩ := by
  refine wpAny_run (codeAny_body (by rfl) (by rfl) ?_)
  refine wpAny_execs_cons (st_mod T fun h tk u0 T => ?_)
  refine wpAny_execs_cons (st_slots T fun Sl hb' h tk t3 t1 kb T gSl => ?_)
  replace X := X.keeps kb
  refine cls_defs 0 333 (clos := []) (es' := fun t f => kPart w 5 (kUp (kUp k 3 t3) 4 t) (.str "cpy313.functools" u0) u1 u2 Sl f 0 0 0 0 0 0) (ep' := ep + 1 + 1) T X ⟨trivial, fun _ _ => rfl⟩ (by kernel_rfl) (by kernel_rfl) (by kernel_rfl) (by kernel_rfl) (by kernel_rfl) (by kernel_rfl) (by kernel_rfl) (fun _ => by kernel_rfl) (by kernel_rfl) (fun _ _ => kp_4) ?_
  intro f1 c2 ctv1 doc1 hb1 h t4 tk _ kb1 T ht X g1 r1
  refine cls_defs 333 336 (clos := [("mycmp", cl)]) (es' := fun t f => kPart w 6 (kUp (kUp (kUp k 3 t3) 4 t4) 5 t) (.str "cpy313.functools" u0) u1 u2 Sl f1 f 0 0 0 0 0) (ep' := ep + 1 + 1 + 1) T X ht (by kernel_rfl) (by kernel_rfl) (by kernel_rfl) (by kernel_rfl) (by kernel_rfl) (by kernel_rfl) (by kernel_rfl) (fun _ => by kernel_rfl) (by kernel_rfl) (fun _ _ => kp_5) ?_
  intro f2 c2 ctv2 doc2 hb2 h t5 tk _ kb2 T ht X g2 r2
  refine cls_defs 336 339 (clos := [("mycmp", cl)]) (es' := fun t f => kPart w 7 (kUp (kUp (kUp (kUp k 3 t3) 4 t4) 5 t5) 6 t) (.str "cpy313.functools" u0) u1 u2 Sl f1 f2 f 0 0 0 0) (ep' := ep + 1 + 1 + 1 + 1) T X ht (by kernel_rfl) (by kernel_rfl) (by kernel_rfl) (by kernel_rfl) (by kernel_rfl) (by kernel_rfl) (by kernel_rfl) (fun _ => by kernel_rfl) (by kernel_rfl) (fun _ _ => kp_6) ?_
  intro f3 c2 ctv3 doc3 hb3 h t6 tk _ kb3 T ht X g3 r3
  replace g3 : ∃ o, hb3.get? f3 = some o ∧ o.cls = .type "function" := ⟨_, g3, rfl⟩
  clear r3
  refine cls_defs 339 342 (clos := [("mycmp", cl)]) (es' := fun t f => kPart w 8 (kUp (kUp (kUp (kUp (kUp k 3 t3) 4 t4) 5 t5) 6 t6) 7 t) (.str "cpy313.functools" u0) u1 u2 Sl f1 f2 f3 f 0 0 0) (ep' := ep + 1 + 1 + 1 + 1 + 1) T X ht (by kernel_rfl) (by kernel_rfl) (by kernel_rfl) (by kernel_rfl) (by kernel_rfl) (by kernel_rfl) (by kernel_rfl) (fun _ => by kernel_rfl) (by kernel_rfl) (fun _ _ => kp_7) ?_
  intro f4 c2 ctv4 doc4 hb4 h t7 tk _ kb4 T ht X g4 r4
  replace g4 : ∃ o, hb4.get? f4 = some o ∧ o.cls = .type "function" := ⟨_, g4, rfl⟩
  clear r4
  refine cls_defs 342 345 (clos := [("mycmp", cl)]) (es' := fun t f => kPart w 9 (kUp (kUp (kUp (kUp (kUp (kUp k 3 t3) 4 t4) 5 t5) 6 t6) 7 t7) 8 t) (.str "cpy313.functools" u0) u1 u2 Sl f1 f2 f3 f4 f 0 0) (ep' := ep + 1 + 1 + 1 + 1 + 1 + 1) T X ht (by kernel_rfl) (by kernel_rfl) (by kernel_rfl) (by kernel_rfl) (by kernel_rfl) (by kernel_rfl) (by kernel_rfl) (fun _ => by kernel_rfl) (by kernel_rfl) (fun _ _ => kp_8) ?_
  intro f5 c2 ctv5 doc5 hb5 h t8 tk _ kb5 T ht X g5 r5
  replace g5 : ∃ o, hb5.get? f5 = some o ∧ o.cls = .type "function" := ⟨_, g5, rfl⟩
  clear r5
  refine cls_defs 345 348 (clos := [("mycmp", cl)]) (es' := fun t f => kPart w 10 (kUp (kUp (kUp (kUp (kUp (kUp (kUp k 3 t3) 4 t4) 5 t5) 6 t6) 7 t7) 8 t8) 9 t) (.str "cpy313.functools" u0) u1 u2 Sl f1 f2 f3 f4 f5 f 0) (ep' := ep + 1 + 1 + 1 + 1 + 1 + 1 + 1) T X ht (by kernel_rfl) (by kernel_rfl) (by kernel_rfl) (by kernel_rfl) (by kernel_rfl) (by kernel_rfl) (by kernel_rfl) (fun _ => by kernel_rfl) (by kernel_rfl) (fun _ _ => kp_9) ?_
  intro f6 c2 ctv6 doc6 hb6 h t9 tk _ kb6 T ht X g6 r6
  replace g6 : ∃ o, hb6.get? f6 = some o ∧ o.cls = .type "function" := ⟨_, g6, rfl⟩
  clear r6
  refine wpAny_execs_cons (st_hash T fun h tk t10 T => ?_)
  refine wpAny_pure ?_
  rw [show qualnameIn (clsE N c' fr cl) "__init__" "__init__" = "cmp_to_key.<locals>.K.__init__" by kernel_rfl] at g1 r1
  rw [show qualnameIn (clsE N c' fr cl) "__lt__" "__lt__" = "cmp_to_key.<locals>.K.__lt__" by kernel_rfl] at g2 r2
  have k26 : ∀ b o, hb2.get? b = some o → hb6.get? b = some o := fun b o e => kb6 b o (kb5 b o (kb4 b o (kb3 b o e)))
  have k36 : ∀ b o, hb3.get? b = some o → hb6.get? b = some o := fun b o e => kb6 b o (kb5 b o (kb4 b o e))
  refine hq Sl f1 f2 f3 f4 f5 f6 hb6 h tk _ u0 _ _ (fun b o e => k26 b o (kb2 b o (kb1 b o (kb b o e)))) T ⟨⟨t1, k26 _ _ (kb2 _ _ (kb1 _ _ gSl))⟩, ⟨doc1, _, ctv1, k26 _ _ (kb2 _ _ g1), codeRec_k r1 fun b o e => k26 b o (kb2 b o e)⟩, ⟨doc2, _, ctv2, k26 _ _ g2, codeRec_k r2 k26⟩, ?_⟩
  intro a ha
  simp only [List.mem_cons, List.not_mem_nil, or_false] at ha
  rcases ha with rfl | rfl | rfl | rfl | rfl | rfl
  · exact ⟨_, k26 _ _ (kb2 _ _ g1), rfl⟩
  · exact ⟨_, k26 _ _ g2, rfl⟩
  · exact let ⟨o, e, r⟩ := g3; ⟨o, k36 _ _ e, r⟩
  · exact let ⟨o, e, r⟩ := g4; ⟨o, kb6 _ _ (kb5 _ _ e), r⟩
  · exact let ⟨o, e, r⟩ := g5; ⟨o, kb6 _ _ e, r⟩
  · exact g6
end
end Kb
section Ks
theorem rules_Ks_1 : True := by
  k_with_none
  k_with "exec If" => (refine wpAny_If ?_)
  k_with "fs" => ((first | with_reducible (first | refine wpAny_pure ?_ | refine wpAny_bind ?_ | refine wpAny_holding ?_ | refine wpAny_standAt ?_ | refine wpAny_point ?_ | refine wpAny_rule ?_ | refine wpAny_attempt ?_ | refine wpAny_letGo ?_ | refine wpAny_mkInt' ?_ | refine mkText_q ?_ | refine wpAny_fresh' ?_ | refine wpAny_throw ?_ | refine wpAny_of_eq (by assumption) ?_ | refine wpAny_typeOf (by assumption) ?_ | refine wpAny_specialOf_val (by assumption) (by assumption) ?_ | refine wpAny_specialOf (by assumption) (by assumption) ?_ | refine wpAny_isInstance_val (by assumption) (by assumption) ?_ | refine wpAny_isInstance (by assumption) (by assumption) ?_) | (with_reducible refine wpAny_load' (o := ?o) ?h ?_; (case h => assumption)) | (with_reducible refine wpAny_loadPart' (o := ?o) ?h ?_; (case h => assumption)) | (with_reducible refine wpAny_ite_false ?h ?_; (case h => kernel_rfl!)) | (with_reducible refine wpAny_ite_true ?h ?_; (case h => kernel_rfl!)) | wp_delta | with_reducible_and_instances refine wpAny_pure ?_ | with_reducible_and_instances refine wpAny_bind ?_))
  trivial
noncomputable abbrev ckSc : Scope := by
  refine' (?g : ∀ l : Scope, sS (sA pB 44) = l → Scope) _ ?h
  case g => exact fun l _ => l
  all_goals try (conv => lhs; whnf)
noncomputable abbrev ckE (L : Addr) : Env := envOfC "cmp_to_key" ckSc L 273 (.ref 272)
section
variable {w : World} {A : Around} {E : Value → Shared → Prop} {h : Heap} {g : Array GenState} {d : Drawn} {tk : Nat} {os : OsState} {L : Addr}
theorem guard_ok {mb : Str → Option Value} {Q : Unit → Shared → Prop} (hb : h.Ns builtinsNs mb) (e : mb "__build_class__" = some (.builtin "__build_class__")) (hq : Q () ⟨h, g, d, tk, os⟩) : wpAny (MM w) A (buildClassGuard (ckE L)) Q E ⟨h, g, d, tk, os⟩ := by
  unfold buildClassGuard
  refine wpAny_bind (wpAny_nsGet hb ?_)
  rw [e]
  exact wpAny_pure hq
theorem obj_name {mg mb : Str → Option Value} {pos : Pos} {Q : Value → Shared → Prop} (hg : h.Ns mainGlobals mg) (hb : h.Ns builtinsNs mb) (e0 : mg "object" = none) (e : mb "object" = some (.type "object")) (hq : Q (.type "object") ⟨h, g, d, tk, os⟩) :
    wpAny (MM w) A (eval (.Name "object" pos) (ckE L)) Q E ⟨h, g, d, tk, os⟩ :=
  Name_function_global rfl rfl (loadGlobal_builtin (env := ckE L) hg e0 hb e hq)
theorem codeAmong_one {pos : Pos} {c : Value} : codeAmong pos (#[] ++ #[rawInt pos.line, rawInt pos.col, c] : Array Value).toList = some c := by
  simp [codeAmong, rawInt]
theorem class_code {pos : Pos} {fl : Nat} {name qual : Str} {sc : Scope} {Q : Value → Shared → Prop} (X : (KF w.params).In h) (hP : h.get? 268 = some (tabObj #[]))
    (hq : ∀ c' P' h' tk', (∀ b o, b ≠ 268 → h.get? b = some o → h'.get? b = some o) → CodeHd h' c' P' → h'.get? P' = some (tabObj #[]) → h.get? P' = none → h.get? c' = none → (∃ ps, h'.get? 268 = some (tabObj ps)) → Q (.ref c') ⟨h', g, d, tk', os⟩) :
    wpAny (MM w) A (classCode (ckE L) pos fl name qual sc) Q E ⟨h, g, d, tk, os⟩ := by
  have g272 := X 272 _ rfl
  unfold classCode codeAt
  show wpAny _ _ (if (Value.ref 272 == Value.none) = true then _ else _) _ _ _
  rw [if_neg (by exact Bool.false_ne_true)]
  refine wpAny_bind (wpAny_fieldsOf g272 rfl ?_)
  show wpAny _ _ (fieldsOf (.ref 268) >>= _) _ _ _
  refine wpAny_bind (wpAny_fieldsOf hP rfl ?_)
  show wpAny _ _ (newCode _ _ _ _ _ _ _ _ _ _ _ _ _ >>= _) _ _ _
  refine wpAny_bind (wpAny_newCodeX fun c' P' h' tk' hk hc hp hcode htab hrec => ?_)
  refine wpAny_bind (wpAny_updateFieldsOfTheText (hk _ _ hP) rfl ?_)
  have h1 : ∀ b o, b ≠ 268 → h.get? b = some o → (h'.update 268 (Obj.mapFields fun vs => if (codeAmong pos vs.toList).isSome = true then vs else vs ++ #[rawInt pos.line, rawInt pos.col, .ref c'])).get? b = some o := fun b o hb e =>
    (Heap.get?_update_other h' _ (Ne.symm hb)).trans (hk b o e)
  have lt268 := Heap.lt_size hP
  have n1 : c' ≠ 268 := Nat.ne_of_gt (Nat.lt_of_lt_of_le lt268 hc)
  have n2 : P' ≠ 268 := Nat.ne_of_gt (Nat.lt_of_lt_of_le lt268 hp)
  have hg2 : (h'.update 268 (Obj.mapFields fun vs => if (codeAmong pos vs.toList).isSome = true then vs else vs ++ #[rawInt pos.line, rawInt pos.col, .ref c'])).get? 268 = some (tabObj (#[] ++ #[rawInt pos.line, rawInt pos.col, .ref c'])) :=
    Heap.get?_update_self _ (hk _ _ hP) rfl
  refine wpAny_bind (wpAny_fieldsOf hg2 rfl ?_)
  rw [codeAmong_one]
  refine wpAny_pure (hq c' P' _ _ h1 ?_ ((Heap.get?_update_other h' _ (Ne.symm n2)).trans htab.2) (Heap.get?_none_of_le hp) (Heap.get?_none_of_le hc) ⟨_, hg2⟩)
  · obtain ⟨o, vs, file, tf, flags, tg, inF, text, tt, e, a1, a2, a3, a4⟩ := CodeHd.of hcode htab
    exact ⟨o, vs, file, tf, flags, tg, inF, text, tt, (Heap.get?_update_other h' _ (Ne.symm n1)).trans e, a1, a2, a3, a4⟩
theorem rules_Ks_2 : True := by
  k_with_none
  k_with "exec If" => (refine wpAny_If ?_)
  k_with "fs" => ((first | with_reducible (first | refine wpAny_pure ?_ | refine wpAny_bind ?_ | refine wpAny_holding ?_ | refine wpAny_standAt ?_ | refine wpAny_point ?_ | refine wpAny_rule ?_ | refine wpAny_attempt ?_ | refine wpAny_letGo ?_ | refine wpAny_mkInt' ?_ | refine mkText_q ?_ | refine wpAny_fresh' ?_ | refine wpAny_throw ?_ | refine wpAny_of_eq (by assumption) ?_ | refine wpAny_typeOf (by assumption) ?_ | refine wpAny_specialOf_val (by assumption) (by assumption) ?_ | refine wpAny_specialOf (by assumption) (by assumption) ?_ | refine wpAny_isInstance_val (by assumption) (by assumption) ?_ | refine wpAny_isInstance (by assumption) (by assumption) ?_) | (with_reducible refine wpAny_load' (o := ?o) ?h ?_; (case h => assumption)) | (with_reducible refine wpAny_loadPart' (o := ?o) ?h ?_; (case h => assumption)) | (with_reducible refine wpAny_ite_false ?h ?_; (case h => kernel_rfl!)) | (with_reducible refine wpAny_ite_true ?h ?_; (case h => kernel_rfl!)) | wp_delta | with_reducible_and_instances refine wpAny_pure ?_ | with_reducible_and_instances refine wpAny_bind ?_))
  k_with "x_close" => (((rename ∀ (_ : Addr) (_ : Heap), _ → _ → _ → _ => hR); (rename Mem _ _ _ _ => D9); refine hR _ _ (D9.nw _ (.head _)).2 (D9.at 0 _ _ ?_) (fun b o e => D9.keep b o e (by rw [Bool.or_eq_true]; exact .inr rfl)); first | rfl | kernel_rfl))
  trivial
theorem prep_get {t : Tok} {Q : Value → Shared → Prop} (hdp : A.depth ≤ 700) (hun : A.units ≤ 700)
    (hq : ∀ (a : Addr) (h' : Heap), h.get? a = none → h'.get? a = some ⟨.type "builtin_function_or_method", none, .fields #[.builtin "type.__prepare__", .type "type"], #[]⟩ → (∀ b o, h.get? b = some o → h'.get? b = some o) → Q (.ref a) ⟨h', g, d, tk, os⟩) :
    wpAny (MM w) A (call (.builtin "type.__getattribute__") [.type "type", .str "__prepare__" t]) Q E ⟨h, g, d, tk, os⟩ := by
  refine wpAny_up (A' := Around.mk A.handled 700 A.frames A.guards 700) rfl hdp rfl rfl hun ?_
  dsimp only [MM]
  x_run
theorem prep_call {t : Tok} {pr B : Addr} {Q : Value → Shared → Prop} (gpr : h.get? pr = some ⟨.type "builtin_function_or_method", none, .fields #[.builtin "type.__prepare__", .type "type"], #[]⟩)
    (hq : ∀ (a : Addr) (h' : Heap), h.objs.size ≤ a → h'.get? a = some (dO #[] 0) → (∀ b o, h.get? b = some o → h'.get? b = some o) → Q (.ref a) ⟨h', g, d, tk, os⟩) :
    wpAny (MM w) A (call (.ref pr) [.str "K" t, .ref B]) Q E ⟨h, g, d, tk, os⟩ := by
  have z : checkBoundCall "type.__prepare__" ⟨[.type "type", .str "K" t, .ref B], []⟩ = pure () := by kernel_rfl
  refine wpAny_call (codeAny_of_tree ?_)
  show wpAny _ _ (callAny (.ref pr) _) _ _ _
  unfold callAny
  refine wpAny_bind (wpAny_load gpr ?_)
  show wpAny _ _ (checkBoundCall "type.__prepare__" ⟨[.type "type", .str "K" t, .ref B], []⟩ >>= fun _ => again (.builtin "type.__prepare__" ⟨[.type "type", .str "K" t, .ref B], []⟩)) _ _ _
  refine wpAny_bind (wpAny_of_eq z (wpAny_pure ?_))
  refine ⟨plainId_quiet (by decide +kernel) _, codeAny_builtin (show entryFor table "type.__prepare__" = some Builtin.«type.__prepare__» from entryFor_of_tree (by kernel_rfl)) ?_⟩
  unfold Builtin.«type.__prepare__»
  repeat (k_extra "fs")
  refine wpAny_alloc' ?_
  repeat (k_extra "fs")
  exact hq _ _ (Nat.le_refl _) (Heap.get?_push_size _ rfl) fun b o e => Heap.get?_push_of_some _ e
theorem cls_ldname {hb : Heap} {N P c' fr cl : Addr} {oC : Obj} {mg : Str → Option Value} {v : Value} {Q : Value → Shared → Prop} (T : Two hb N P (dO #[] 0) oC h) (hg : h.Ns mainGlobals mg) (e : mg "__name__" = some v) (hq : Q v ⟨h, g, d, tk, os⟩) :
    wpAny (MM w) A (loadName (clsE N c' fr cl) "__name__") Q E ⟨h, g, d, tk, os⟩ := by
  have z : nsLook "__name__" (dO #[] 0) = pure none := by kernel_rfl
  have gN := T.gn
  unfold loadName
  repeat ((fail_if_success (with_reducible refine wpAny_nsGet hg ?_)); first | (with_reducible refine two_nsGet T z ?_) | k_extra "fs")
  refine wpAny_nsGet hg ?_
  rw [e]
  repeat k_extra "fs"
  exact hq
theorem kp_0 {k : Nat → Tok} {m0 : Value} {t : Tok} {ep : Nat} : Obj.putName "__module__" (hashN w "__module__") (.str "__module__" t) m0 (dO #[] ep) = dO (kPart w 1 (kUp k 0 t) m0 0 0 0 0 0 0 0 0 0 0) (ep + 1) := by kernel_rfl
theorem kp_1 {k : Nat → Tok} {m0 : Value} {u1 t : Tok} {ep : Nat} : Obj.putName "__qualname__" (hashN w "__qualname__") (.str "__qualname__" t) (.str "cmp_to_key.<locals>.K" u1) (dO (kPart w 1 k m0 0 0 0 0 0 0 0 0 0 0) ep) = dO (kPart w 2 (kUp k 1 t) m0 u1 0 0 0 0 0 0 0 0 0) (ep + 1) := by kernel_rfl
theorem kp_2 {k : Nat → Tok} {m0 : Value} {u1 u2 t : Tok} {ep : Nat} : Obj.putName "__firstlineno__" (hashN w "__firstlineno__") (.str "__firstlineno__" t) (.int 328 u2) (dO (kPart w 2 k m0 u1 0 0 0 0 0 0 0 0 0) ep) = dO (kPart w 3 (kUp k 2 t) m0 u1 u2 0 0 0 0 0 0 0 0) (ep + 1) := by kernel_rfl
/-- the class K in a heap -/
structure KCls (w : World) (h : Heap) (C n cl : Addr) (pm : Value) : Prop where
  ex : ∃ (a : Nat → Addr) (t : Nat → Tok) (k : Nat → Tok),
    h.get? C = some ⟨.type "type", none, .cls ⟨"K", [.type "object"], [.ref C, .type "object"], n, "cmp_to_key.<locals>.K", false, ["obj"], [], false, none, false⟩, #[some (.ref (a 0)), none, some (.str "K" (t 0)), some (.str "cmp_to_key.<locals>.K" (t 2)), some (.builtin "object.__new__"), some (.bool false)]⟩ ∧
    h.get? n = some ⟨.type "dict", none, .dict (kEnts3 w (kC w) k (t 1) (t 3) 328 (a 1) (a 2) (a 3) (a 4) (a 5) (a 6) (a 7) (a 8) (t 4) (.ref (a 9)) (t 5)) 3, #[]⟩ ∧
    h.get? (a 9) = some ⟨.type "member_descriptor", none, .fields #[.str "obj" (t 6), .ref C, .builtin "proto.slot", .builtin "proto.slot#set", rawInt 0], #[]⟩ ∧
    (∃ doc c ctv, h.get? (a 2) = some (fnMade "__init__" "cmp_to_key.<locals>.K.__init__" inP inB inS [] doc pm c ctv) ∧ h.CodeRec (.ref c) "cmp_to_key.<locals>.K.__init__") ∧
    (∃ doc c ctv, h.get? (a 3) = some (fnMade "__lt__" "cmp_to_key.<locals>.K.__lt__" ltP ltB ltS [("mycmp", cl)] doc pm c ctv) ∧ h.CodeRec (.ref c) "cmp_to_key.<locals>.K.__lt__")
theorem build_K {Q : Value → Shared → Prop} {p : Program} {loose : List Str} {mean : ExcName → Option Value} {mg mb : Str → Option Value} {pos : Pos}
    (hdp : A.depth ≤ 600) (hun : A.units ≤ 600) (X : (KF w.params).In h) (T : Top p loose mean mg mb h) (hP : h.get? 268 = some (tabObj #[]))
    (hq : ∀ (C n : Addr) (h' : Heap) (tk' : Nat), (∀ b o, b ≠ 268 → h.get? b = some o → h'.get? b = some o) → (∀ b o, b ≠ 268 → h.get? b = some o → n ≠ b) → KCls w h' C n (L + 1) (.str "law_qh0024_01" 668) → (∃ ps, h'.get? 268 = some (tabObj ps)) → Q (.ref C) ⟨h', g, d, tk', os⟩) :
    wpAny (MM w) A (buildClass "K" "cmp_to_key.<locals>.K" [.type "object"] [] clsB clsSc ["obj"] 328 (ckE L) pos none) Q E ⟨h, g, d, tk, os⟩ := by
  have y0 : typeOf (.type "object") = pure (.type "type") := by kernel_rfl
  have y2 : typeOf (.type "type") = pure (.type "type") := by kernel_rfl
  have y1 : isSubtype (.type "type") (.type "type") = pure true := by rw [isSubtype_type]; kernel_rfl
  have y3 : typeLookup (.type "type") "__getattribute__" = pure (some (.builtin "type.__getattribute__")) := by rw [typeLookup_type, builtinLookup_eq_fast]; kernel_rfl
  have y4 : bindSpecial (.builtin "type.__getattribute__") (.type "type") = pure (.builtin "type.__getattribute__", [.type "type"]) := by kernel_rfl
  have y5 : typeLookup (.type "dict") "__getitem__" = pure (some (.builtin "dict.__getitem__")) := by rw [typeLookup_type, builtinLookup_eq_fast]; kernel_rfl
  unfold buildClass
  repeat (k_extra "fs")
  refine alloc_at ?hq ?hf
  case hf => rfl
  intro B h1 nB gB kB
  repeat (k_extra "fs")
  refine prep_get (Nat.le_trans hdp (by decide)) (Nat.le_trans hun (by decide)) fun pr h2 nP gP kP => ?_
  repeat (k_extra "fs")
  refine prep_call gP fun N h3 nN gN kN => ?_
  have k03 : ∀ b o, h.get? b = some o → h3.get? b = some o := fun b o e => kN _ _ (kP _ _ (kB _ _ e))
  have X3 := X.keeps k03
  have gB3 := kN _ _ (kP _ _ gB)
  have hNs : (N == sysModules) = false := by
    rw [beq_eq_false_iff_ne]
    have := Heap.lt_size (kP _ _ (kB _ _ hP))
    intro e
    rw [e] at nN
    exact absurd (Nat.lt_of_lt_of_le this nN) (by decide)
  have nN0 : h.get? N = none := by
    cases q : h.get? N with
    | none => rfl
    | some o => exact absurd (Nat.lt_of_lt_of_le (Heap.lt_size (kP _ _ (kB _ _ q))) nN) (Nat.lt_irrefl _)
  have ty2 : ∀ tk, (⟨h3, g, d, tk, os⟩ : Shared).TypeIs (.ref N) "dict" := fun _ => ⟨_, gN, rfl⟩
  have nB268 : B ≠ 268 := fun q => by rw [q, hP] at nB; cases nB
  have nBN : B ≠ N := fun q => absurd (Nat.lt_of_lt_of_le (Heap.lt_size (kP _ _ gB)) nN) (by rw [q]; exact Nat.lt_irrefl _)
  clear kB gB nB kP gP nP
  repeat (k_extra "fs")
  rw [hNs, if_neg Bool.false_ne_true]
  repeat ((fail_if_success (with_reducible refine class_code ?_ ?_ ?_)); k_extra "fs")
  refine class_code X3 (k03 _ _ hP) fun c' P' h4 tk4 k34 hC4 gP4 nP4 nC4 g268 => ?_
  obtain ⟨ps268, g268⟩ := g268
  have T4 := (hid_top hP T).keeps (h' := h4) fun b o e => k34 b o (fun q => by rw [q, hid_none] at e; cases e) (k03 _ _ (hid_of e))
  obtain ⟨bm, ob, b1, b2, b3, b4, b5, b6⟩ := T4.bmain
  have y6 : closureFor clsSc (ckE L) = pure [((Str.ofString "mycmp"), L + 1)] := by kernel_rfl
  refine wpAny_bind (wpAny_builtinsFor (running := builtinsNs) T4.g b1 b2 b3 b4 b5 b6 ?_)
  unfold newBodyFrame
  refine wpAny_bind (wpAny_bind (wpAny_nsGet T4.g ?_))
  refine alloc_at ?hqF ?hfF
  case hfF => rfl
  intro fr h5 nF gF kF
  repeat ((fail_if_success (with_reducible refine wpAny_bind (m := enterFrame) ?_)); k_extra "fs")
  rw [show ({ scope := clsSc, locals := N, globals := (ckE L).globals, cells := (Option.map (fun x => (Str.ofString "__class__", x)) none).toList ++ (Option.map (fun x => (Str.ofString "__classdict__", x)) none).toList ++ [(Str.ofString "mycmp", L + 1)], qual := Str.ofString "cmp_to_key.<locals>.K" ++ Str.ofString ".", code := Value.ref c', frame := some fr, builtins := builtinsNs } : Env) = clsE N c' fr (L + 1) from rfl]
  have k35 : ∀ b o, b ≠ 268 → h.get? b = some o → h5.get? b = some o := fun b o nb e => kF _ _ (k34 _ _ nb (k03 _ _ e))
  have n268 : N ≠ 268 := fun q => by rw [q, hP] at nN0; cases nN0
  have nNP : N ≠ P' := fun q => by rw [← q, gN] at nP4; cases nP4
  have nNc : c' ≠ N := fun q => by rw [q, gN] at nC4; cases nC4
  have gN5 := kF _ _ (k34 _ _ n268 gN)
  have gP5 := kF _ _ gP4
  have vis : ∀ b o, b ≠ 268 → h.get? b = some o → (hideAll h5 [N, P']).get? b = some o := fun b o nb e => hideAll_get _ (k35 b o nb e) fun q => by
    rcases List.mem_cons.mp q with q | q
    · rw [q, nN0] at e; cases e
    · rw [List.mem_singleton.mp q] at e; rw [k03 _ _ e] at nP4; cases nP4
  have T5 := (hid_top hP T).keeps (h' := hideAll h5 [N, P']) fun b o e => vis b o (fun q => by rw [q, hid_none] at e; cases e) (hid_of e)
  have X5 : (KF w.params).In (hideAll h5 [N, P']) := (hid_K hP X).keeps fun b o e => vis b o (fun q => by rw [q, hid_none] at e; cases e) (hid_of e)
  have CX : ClsCx (hideAll h5 [N, P']) c' P' mg := by
    refine ⟨?_, T5.g, ?_⟩
    · obtain ⟨o, vs, file, tf, flags, tg, inF, text, tt, e1, a1, a2, a3, a4, a5, a6, a7, a8, a9⟩ := hC4
      exact ⟨o, vs, file, tf, flags, tg, inF, text, tt, hideAll_get _ (kF _ _ e1) (fun q => by
        rcases List.mem_cons.mp q with q | q
        · exact nNc q
        · exact a9 (List.mem_singleton.mp q)), a1, a2, a3, a4, a5, a6, a7, a8, a9⟩
    · obtain ⟨bm, ob, b1, b2, b3, b4, b5, b6⟩ := T5.bmain
      exact ⟨bm, ob, b1, b2, b3, b4, b5, b6⟩
  have gB5 : (hideAll h5 [N, P']).get? B = some ⟨.type "tuple", none, .seq #[.type "object"] 0, #[]⟩ := hideAll_get _ (kF _ _ (k34 _ _ nB268 gB3)) fun q => by
    rcases List.mem_cons.mp q with q | q
    · exact nBN q
    · rw [List.mem_singleton.mp q, nP4] at gB3; cases gB3
  have W5 : Two (hideAll h5 [N, P']) N P' (dO #[] 0) (tabObj #[]) h5 := ⟨fun b o e => of_hideAll _ e, gN5, gP5, nNP, hideAll_none _ (.head _), hideAll_none _ (.tail _ (.head _))⟩
  have enm : mg "__name__" = some (.str "law_qh0024_01" 668) := mg_of X T.g (by kernel_rfl)
  refine wpAny_bind (wpAny_enterFrame (T5.nolimit.keeps W5.keep) (Nat.lt_of_le_of_lt hdp (by decide)) ?_)
  refine wpAny_bind (wpAny_onRaise ?_)
  refine wpAny_bind (cls_ldname W5 (T5.g.keeps W5.keep) enm ?_)
  refine wpAny_bind (cls_store W5 (by kernel_rfl) (by kernel_rfl) (fun t => kp_0 (k := fun _ => 0)) fun h6 t0 tk6 W6 => ?_)
  refine wpAny_bind (mkText_q ?_)
  refine wpAny_bind (cls_store W6 (by kernel_rfl) (by kernel_rfl) (fun t => kp_1) fun h7 t1 tk7 W7 => ?_)
  refine wpAny_bind (wpAny_mkInt' ?_)
  refine wpAny_bind (cls_store W7 (by kernel_rfl) (by kernel_rfl) (fun t => kp_2) fun h8 t2 tk8 W8 => ?_)
  repeat ((fail_if_success (with_reducible refine body_run W8 CX ?_)); k_extra "fs")
  refine body_run W8 CX fun Sl f1 f2 f3 f4 f5 f6 hb9 h9 tk9 k9 u9 ps9 ep9 kb9 W9 BE => ?_
  have kb5 : ∀ b o, b ≠ 268 → h.get? b = some o → hb9.get? b = some o := fun b o nb e => kb9 b o (vis b o nb e)
  have gB9 := kb9 _ _ gB5
  have g268b := kb9 _ _ (hideAll_get _ (kF _ _ g268) fun q => by
    rcases List.mem_cons.mp q with q | q
    · exact n268 q.symm
    · rw [← List.mem_singleton.mp q, k03 _ _ hP] at nP4; cases nP4)
  have X9 := X5.keeps kb9
  clear W5 W6 W7 W8 CX kb9 vis T5 X5 T4 X3 gB5 gB3 gN5 gP5 gP4 hC4
  refine wpAny_bind (wpAny_onRaise ?_)
  repeat ((fail_if_success (with_reducible refine alloc_at ?_ ?_)); k_extra "fs")
  refine alloc_at ?hqS ?hfS
  case hfS => rfl
  intro St h10 nSt gSt kSt
  have kbS := W9.visible kSt
  replace gSt := W9.fresh nSt gSt
  have W10 := (W9.more kSt).base
  repeat ((fail_if_success (with_reducible refine cls_store W10 ?_ ?_ (fun t => kp_11) ?_)); k_extra "fs")
  refine cls_store W10 (by kernel_rfl) (by kernel_rfl) (fun t => kp_11) fun h11 t11 tk11 W11 => ?_
  rw [kp_all] at W11
  have kbT : ∀ b o, hb9.get? b = some o → h11.get? b = some o := fun b o e => W11.keep _ _ (kbS _ _ e)
  repeat ((fail_if_success (show wpAny _ _ (call (.type "type") [.str "K" tk, .ref B, .ref N] >>= fun cls => pure cls) _ _ _)); k_extra "fs")
  show wpAny _ _ (call (.type "type") [.str "K" tk, .ref B, .ref N] >>= fun cls => pure cls) _ _ _
  refine wpAny_bind (cls_new (Nat.le_trans hdp (by decide)) (Nat.le_trans hun (by decide)) (oS := _) (kbT _ _ (X9 cStatics _ rfl)) (by kernel_rfl) W11.gn hNs (kbT _ _ gB9) (kbT _ _ BE.sl.choose_spec) (fun a ha => ?_) ⟨_, W11.keep _ _ gSt, rfl⟩ ?_)
  · obtain ⟨o, e, r⟩ := BE.fs a ha
    exact ⟨o, kbT _ _ e, r⟩
  · intro C n Md tm tm3 tmd h12 tk12 k12 nC nn nCn gC gn gM
    refine wpAny_pure (hq C n h12 tk12 (fun b o nb e => k12 _ _ (kbT _ _ (kb5 b o nb e))) (fun b o nb e q => ?_) ⟨fun i => [B, Sl, f1, f2, f3, f4, f5, f6, St, Md].getD i 0, fun i => [tk, u9, tk6, tk7, tm, tm3, tmd].getD i 0, _, gC, gn, gM, ?_, ?_⟩ ⟨_, k12 _ _ (kbT _ _ g268b)⟩)
    · rw [q, kbT _ _ (kb5 b o nb e)] at nn; cases nn
    · obtain ⟨doc, c, ctv, e, r⟩ := BE.m1
      rw [enm] at e
      exact ⟨doc, c, ctv, k12 _ _ (kbT _ _ e), codeRec_k r fun b o e => k12 _ _ (kbT _ _ e)⟩
    · obtain ⟨doc, c, ctv, e, r⟩ := BE.m2
      rw [enm] at e
      exact ⟨doc, c, ctv, k12 _ _ (kbT _ _ e), codeRec_k r fun b o e => k12 _ _ (kbT _ _ e)⟩
end
end Ks
section Ck
section
variable {w : World} {A : Around} {E : Value → Shared → Prop} {h : Heap} {g : Array GenState} {d : Drawn} {tk : Nat} {os : OsState} {L : Addr}
theorem rules_Ck_1 : True := by
  k_with_none
  k_with "exec If" => (refine wpAny_If ?_)
  k_with "fs" => ((first | with_reducible (first | refine wpAny_pure ?_ | refine wpAny_bind ?_ | refine wpAny_holding ?_ | refine wpAny_standAt ?_ | refine wpAny_point ?_ | refine wpAny_rule ?_ | refine wpAny_attempt ?_ | refine wpAny_letGo ?_ | refine wpAny_mkInt' ?_ | refine mkText_q ?_ | refine wpAny_fresh' ?_ | refine wpAny_throw ?_ | refine wpAny_of_eq (by assumption) ?_ | refine wpAny_typeOf (by assumption) ?_ | refine wpAny_specialOf_val (by assumption) (by assumption) ?_ | refine wpAny_specialOf (by assumption) (by assumption) ?_ | refine wpAny_isInstance_val (by assumption) (by assumption) ?_ | refine wpAny_isInstance (by assumption) (by assumption) ?_) | (with_reducible refine wpAny_load' (o := ?o) ?h ?_; (case h => assumption)) | (with_reducible refine wpAny_loadPart' (o := ?o) ?h ?_; (case h => assumption)) | (with_reducible refine wpAny_ite_false ?h ?_; (case h => kernel_rfl!)) | (with_reducible refine wpAny_ite_true ?h ?_; (case h => kernel_rfl!)) | wp_delta | with_reducible_and_instances refine wpAny_pure ?_ | with_reducible_and_instances refine wpAny_bind ?_))
  trivial
theorem cls_stmt {Q : Flow → Shared → Prop} {p : Program} {loose : List Str} {mean : ExcName → Option Value} {mg mb : Str → Option Value}
    (hdp : A.depth ≤ 600) (hun : A.units ≤ 600) (X : (KF w.params).In h) (T : Top p loose mean mg mb h) (hP : h.get? 268 = some (tabObj #[]))
    (hq : ∀ (C n : Addr) (h' : Heap) (tk' : Nat), (∀ b o, b ≠ 268 → h.get? b = some o → h'.get? b = some o) → (∀ b o, b ≠ 268 → h.get? b = some o → n ≠ b) → KCls w h' C n (L + 1) (.str "law_qh0024_01" 668) → (∃ ps, h'.get? 268 = some (tabObj ps)) →
      wpAny (MM w) A (storeName (ckE L) "K" (.ref C)) (fun _ s' => Q .next s') E ⟨h', g, d, tk', os⟩) :
    wpAny (MM w) A (exec clsS (ckE L)) Q E ⟨h, g, d, tk, os⟩ := by
  rw [show clsS = Stmt.ClassDef "K" [Expr.Name "object" ⟨328, 12, 328, 18⟩] [] clsB [] [] clsSc none "K" ["obj"] ⟨328, 4, 349, 23⟩ from rfl]
  rw [arm_exec_ClassDef]
  have hg := T.g
  have hbn := T.b
  have e1 : mb "__build_class__" = some (.builtin "__build_class__") := (T.builtins _ (by decide)).trans (by kernel_rfl)
  have e2 : mg "object" = none := mg_none_of X T.g (by kernel_rfl)
  have e3 : mb "object" = some (.type "object") := (T.builtins _ (by decide)).trans (by kernel_rfl)
  repeat ((fail_if_success (with_reducible refine guard_ok hbn e1 ?_)); k_extra "fs")
  refine guard_ok hbn e1 ?_
  repeat ((fail_if_success (with_reducible refine obj_name hg hbn e2 e3 ?_)); k_extra "fs")
  refine obj_name hg hbn e2 e3 ?_
  repeat ((fail_if_success (with_reducible refine wpAny_holding (vs := [_] ++ _) ?_)); (fail_if_success (with_reducible refine wpAny_holding (vs := _ ++ List.map _ _) ?_)); k_extra "fs")
  refine wpAny_holding ?_
  show wpAny _ _ (buildClass "K" "cmp_to_key.<locals>.K" [.type "object"] [] clsB clsSc ["obj"] 328 (ckE L) _ none) _ _ _
  refine build_K hdp hun X T hP fun C n h' tk' k1 k2 KC k8 => ?_
  repeat ((fail_if_success (with_reducible refine wpAny_bind (m := bindName _ _ _) ?_)); k_extra "fs")
  refine wpAny_bind (wpAny_bindName (wpAny_mono (hq C n h' tk' k1 k2 KC k8) (fun _ _ z => wpAny_pure z) fun _ _ z => z))
end
theorem KCls.move {w : World} {h h' : Heap} {C n cl L : Addr} {pm : Value} (K : KCls w h C n cl pm) (k : ∀ b o, b ≠ L → h.get? b = some o → h'.get? b = some o) {oL : Obj} {es : Array DictEntry} {ep : Nat} (hL : h.get? L = some oL) (hd : oL.data = .dict es ep) (hn : n ≠ L) : KCls w h' C n cl pm := by
  obtain ⟨as, ts, k', a1, a2, a3, ⟨doc, c, ctv, a4, c2, oc, vs, t, e, r1, r2, r3⟩, ⟨doc', c', ctv', a5, c2', oc', vs', t', e', r1', r2', r3'⟩⟩ := K
  have ne : ∀ b o, h.get? b = some o → (∀ es ep, o.data ≠ .dict es ep) → b ≠ L := fun b o e hne q => by
    rw [q, hL] at e; cases e; exact hne _ _ hd
  refine ⟨as, ts, k', k _ _ (ne _ _ a1 fun _ _ q => by cases q) a1, k _ _ hn a2, k _ _ (ne _ _ a3 fun _ _ q => by cases q) a3, ⟨doc, c, ctv, k _ _ (ne _ _ a4 fun _ _ q => by cases q) a4, c2, oc, vs, t, e, k _ _ (ne _ _ r1 fun _ _ q => by rw [r2] at q; cases q) r1, r2, r3⟩,
    ⟨doc', c', ctv', k _ _ (ne _ _ a5 fun _ _ q => by cases q) a5, c2', oc', vs', t', e', k _ _ (ne _ _ r1' fun _ _ q => by rw [r2'] at q; cases q) r1', r2', r3'⟩⟩
theorem ck_spec {w : World} {A : Around} {s : Shared} {Q E : Value → Shared → Prop} (R : Rdy w 500 A s.heap) (f : Addr) (hP : s.heap.get? 268 = some (tabObj #[]))
    (hret : ∀ (C n cl : Addr) (oc : Obj) h' tk', (∀ b o, b ≠ 268 → s.heap.get? b = some o → h'.get? b = some o) → KCls w h' C n cl (.str "law_qh0024_01" 668) → h'.get? cl = some oc → oc.data = .cell (some (.ref f)) → (∃ ps, h'.get? 268 = some (tabObj ps)) → Q (.ref C) { s with heap := h', toks := tk' }) :
    wpAny (MM w) A (call (.ref 273) [.ref f]) Q E s := by
  refine R.go ?_
  intro gd base fs p loose mean mg mb B X T
  dsimp only [MM]; revert X; k_fill; intro X
  refine' wpAny_call (enterC B X T ?ho ?hcd ?hroom ?hbind ?hkind ?hnd ?_ ?c1 ?c2 ?c3)
  case ho => k_is
  case hcd => k_is
  case hroom => exact Nat.le_of_ble_eq_true rfl
  case hbind => first | exact BindsTo.of_eq rfl | exact binds_K (by k_in) rfl (by k_is) rfl rfl rfl
  case hkind => rfl
  case hnd => decide
  case c1 => rfl
  case c2 => rfl
  case c3 => rfl
  intro L' h₁ tk₁ cells F' N' Y'
  obtain ⟨o', hE', d1'⟩ := CellsAre.one Y'
  subst hE'; clear Y'
  replace d1' : o'.data = .cell (some (.ref f)) := d1'
  refine wpAny_execs_cons (cls_stmt (L := L') (Nat.le_of_ble_eq_true rfl) (Nat.le_of_ble_eq_true rfl) (X.keeps F'.keep) (T.keeps F'.keep) (F'.keep _ _ hP) fun C n h2 tk2 k1 k2 KC k8 => ?_)
  have hP1 := F'.keep _ _ hP
  have nL : L' ≠ 268 := fun q => by
    have := Nat.lt_of_lt_of_le (Heap.lt_size hP) F'.above
    rw [q] at this; exact absurd this (Nat.lt_irrefl _)
  have F2 : Fr (hid s.heap 268) L' h2 (fun y => List.lookup y []) :=
    ⟨(hid_ns hP1 F'.ns).keeps fun b o e => k1 b o (fun q => by rw [q, hid_none] at e; cases e) (hid_of e), fun b o e => k1 b o (fun q => by rw [q, hid_none] at e; cases e) (F'.keep b o (hid_of e)), Nat.le_trans (Nat.le_of_eq (hideAll_size _ _)) F'.above⟩
  have gcl := (N' _ (.head _)).1
  have ncl : L' + 1 ≠ 268 := fun q => by rw [show L' + 1 = 268 from q] at gcl; rw [hP1] at gcl; cases gcl; cases d1'
  have N2 : News (hid s.heap 268) L' h2 [(L' + 1, o')] := fun q hq => by
    rw [List.mem_singleton.mp hq]
    refine ⟨k1 _ _ ncl gcl, Nat.succ_ne_self _, ?_⟩
    cases z : (hid s.heap 268).get? (L' + 1) with
    | none => rfl
    | some o => have y := (N' _ (.head _)).2.2; rw [hid_of z] at y; cases y
  have B2 := hid_below hP B
  have X2 := hid_K hP X
  have T2 := hid_top hP T
  obtain ⟨oL, es, ep, gL, dL, -⟩ := F'.ns
  have hnL : n ≠ L' := k2 L' oL nL gL
  refine wpAny_storeName_local (by rfl) F2.ns (fun h3 hn3 hs3 => ?_) rfl
  have F3 := F2.set hn3 hs3
  have N3 := N2.set hs3
  obtain ⟨p8, k8⟩ := k8
  have g8 : h3.get? 268 = some (tabObj p8) := hs3.extBut _ _ (Ne.symm nL) k8
  have KC3 := KC.move (fun b o hb e => hs3.extBut b o hb e) (k1 _ _ nL gL) dL hnL
  clear N2 N' hs3 hn3 KC F2 F' B X T
  clear gL dL k1 k2 gcl hP1 k8
  generalize L' + 1 = cl at *
  k_steps
  exact hret C n cl o' h3 _ (fun b o nb e => F3.keep b o (hid_ne e nb)) KC3 (N3 _ (.head _)).1 d1' ⟨_, g8⟩
end Ck
section Kf
section
theorem rules_Kf_1 : True := by
  k_with_none
  k_with "exec If" => (refine wpAny_If ?_)
  trivial
/-- the class K, as a frag -/
structure KKs (K : Frag) (C f1 f2 Md : Addr) : Prop where
  mkC : makesIn K C = true
  fi : findIn K (.ref C) "__init__" = some (some (.ref f1))
  t1 : typeIn K (.ref f1) = some (.type "function")
  fl : findIn K (.ref C) "__lt__" = some (some (.ref f2))
  t2 : isFn K (.ref f2) = true
  pg : plainGet K C "obj" = true
  ic : isClsIn K C = true
  fo : findIn K (.ref C) "obj" = some (some (.ref Md))
  sg : specialIn K (.ref Md) "__get__" = some (some (.builtin "member_descriptor.__get__"))
  tk : takesIn K (.ref Md) = some true
  sl : slotIn K Md C = some 0
  fs : findIn K (.ref C) "__setattr__" = some (some (.builtin "object.__setattr__"))
  po : plainOver K C = true
  tr : takerIn K C "obj" = some (some (.ref Md))
  tm : typeIn K (.ref Md) = some (.type "member_descriptor")
theorem look_hit {K : Frag} {a : Addr} {o : Obj} : List.lookup a ((a, o) :: K) = some o := by
  rw [List.lookup_cons, show (a == a) = true from beq_self_eq_true a]
theorem look_on {K : Frag} {a b : Addr} {o : Obj} (h : b ≠ a) : List.lookup b ((a, o) :: K) = K.lookup b := by
  rw [List.lookup_cons, show (b == a) = false from beq_eq_false_iff_ne.mpr h]
theorem kks {w : World} {C n Md f1 f2 B Sl f3 f4 f5 f6 St : Addr} {t0 u0 u1 u2 tm tm3 tmd : Tok} {k : Nat → Tok} {o1 o2 : Obj} (h1 : o1.cls = .type "function") (h2 : o2.cls = .type "function") {K : Frag}
    (lC : K.lookup C = some ⟨.type "type", none, .cls ⟨"K", [.type "object"], [.ref C, .type "object"], n, "cmp_to_key.<locals>.K", false, ["obj"], [], false, none, false⟩, #[some (.ref B), none, some (.str "K" t0), some (.str "cmp_to_key.<locals>.K" u1), some (.builtin "object.__new__"), some (.bool false)]⟩)
    (ln : K.lookup n = some ⟨.type "dict", none, .dict (kEnts3 w (kC w) k u0 u2 328 Sl f1 f2 f3 f4 f5 f6 St tm (.ref Md) tm3) 3, #[]⟩)
    (lM : K.lookup Md = some ⟨.type "member_descriptor", none, .fields #[.str "obj" tmd, .ref C, .builtin "proto.slot", .builtin "proto.slot#set", rawInt 0], #[]⟩)
    (l1 : K.lookup f1 = some o1) (l2 : K.lookup f2 = some o2) : KKs K C f1 f2 Md := by
  have tI : ∀ {a : Addr} {o : Obj} {c : Value}, K.lookup a = some o → o.cls = c → typeIn K (.ref a) = some c := fun {a o c} l h => by
    show (K.lookup a).map (·.cls) = some c
    rw [l, Option.map_some, h]
  have cC : clsIn K C = some ⟨"K", [.type "object"], [.ref C, .type "object"], n, "cmp_to_key.<locals>.K", false, ["obj"], [], false, none, false⟩ := by unfold clsIn; rw [lC]
  have fd : ∀ name, findIn K (.ref C) name = alongIn K name [.ref C, .type "object"] := fun name => by unfold findIn; simp only [lC]
  have ow : ∀ name, ownIn K name (.ref C) = nsIn K n name := fun name => by unfold ownIn; simp only [lC]
  have hit : ∀ {name v}, nsIn K n name = some (some v) → findIn K (.ref C) name = some (some v) := fun {name v} e => by rw [fd]; unfold alongIn; rw [ow, e]
  have mis : ∀ {name r}, nsIn K n name = some none → alongIn K name [.type "object"] = r → findIn K (.ref C) name = r := fun {name r} e z => by rw [fd]; unfold alongIn; rw [ow, e]; exact z
  have tC := tI lC rfl
  have tM := tI lM rfl
  have fo : findIn K (.ref C) "obj" = some (some (.ref Md)) := hit (by unfold nsIn; simp only [ln]; kernel_rfl)
  have tk : takesIn K (.ref Md) = some true := by
    unfold takesIn specialIn
    rw [tM]
    kernel_rfl
  have po : plainOver K C = true := by unfold plainOver; rw [cC]; rfl
  refine ⟨?_, hit (by unfold nsIn; simp only [ln]; kernel_rfl), tI l1 h1, hit (by unfold nsIn; simp only [ln]; kernel_rfl), ?_, ?_, ?_, fo, ?_, tk, ?_, ?_, po, ?_, tM⟩
  · unfold makesIn
    simp only [lC]
    have m2 : specialIn K (.ref C) "__call__" = some (some (.builtin "type.__call__")) := by unfold specialIn; rw [tC]; kernel_rfl
    have m3 : instIn K (.ref C) (.type "type") = some true := by unfold instIn; rw [tC]; kernel_rfl
    rw [m2, m3]
    simp
  · unfold isFn; rw [tI l2 h2]; kernel_rfl
  · unfold plainGet
    rw [mis (r := some (some (.builtin "object.__getattribute__"))) (by unfold nsIn; simp only [ln]; kernel_rfl) (by kernel_rfl), mis (r := some none) (by unfold nsIn; simp only [ln]; kernel_rfl) (by kernel_rfl)]
    kernel_rfl
  · unfold isClsIn; rw [cC]; rfl
  · unfold specialIn; rw [tM]; kernel_rfl
  · unfold slotIn
    rw [show recIn K Md "member_descriptor" = some [.str "obj" tmd, .ref C, .builtin "proto.slot", .builtin "proto.slot#set", rawInt 0] from by unfold recIn; rw [lM]; rfl, cC]
    exact if_pos (by rw [show List.contains [Value.ref C, .type "object"] (Value.ref C) = true from by rw [List.contains_cons, beq_self_eq_true, Bool.true_or]]; rfl)
  · exact mis (by unfold nsIn; simp only [ln]; kernel_rfl) (by kernel_rfl)
  · unfold takerIn
    rw [fo, Option.bind_some]
    simp only [tk]
    rfl
end
end Kf
section Km
theorem rules_Km_1 : True := by
  k_with_none
  k_with "exec If" => (refine wpAny_If ?_)
  trivial
/-- what stands of K in a heap, as the walks use it -/
structure KUse (w : World) (h : Heap) (C cl : Addr) (pm : Value) (K : Frag) (f1 f2 Md : Addr) : Prop where
  kin : K.In h
  ks : KKs K C f1 f2 Md
  m1 : ∃ doc c ctv, h.get? f1 = some (fnMade "__init__" "cmp_to_key.<locals>.K.__init__" inP inB inS [] doc pm c ctv) ∧ h.CodeRec (.ref c) "cmp_to_key.<locals>.K.__init__"
  m2 : ∃ doc c ctv, h.get? f2 = some (fnMade "__lt__" "cmp_to_key.<locals>.K.__lt__" ltP ltB ltS [("mycmp", cl)] doc pm c ctv) ∧ h.CodeRec (.ref c) "cmp_to_key.<locals>.K.__lt__"
theorem frag_in {h : Heap} : ∀ {K : Frag}, (∀ p ∈ K, h.get? p.1 = some p.2) → K.In h := fun {K} hK a o e => by
  exact hK (a, o) (mem_of_lookupK e)
theorem fin5 {h : Heap} {x1 x2 x3 x4 x5 : Addr} {o1 o2 o3 o4 o5 : Obj} (a1 : h.get? x1 = some o1) (a2 : h.get? x2 = some o2) (a3 : h.get? x3 = some o3) (a4 : h.get? x4 = some o4) (a5 : h.get? x5 = some o5) : ∀ p ∈ [(x1, o1), (x2, o2), (x3, o3), (x4, o4), (x5, o5)], h.get? p.1 = some p.2 := by
  intro p hp
  simp only [List.mem_cons, List.not_mem_nil, or_false] at hp
  rcases hp with rfl | rfl | rfl | rfl | rfl <;> assumption
noncomputable def dkind (o : Obj) : Nat := match o.data with
  | .cls _ => 0
  | .dict .. => 1
  | .fields _ => 2
  | .func _ => 3
  | _ => 4
theorem ne_kind {h : Heap} {a b : Addr} {x y : Obj} (e1 : h.get? a = some x) (e2 : h.get? b = some y) (hk : Nat.beq (dkind x) (dkind y) = false) : a ≠ b := fun q => by
  rw [q, e2] at e1
  rw [Option.some.inj e1, Nat.beq_refl] at hk; cases hk
theorem KCls.use {w : World} {h : Heap} {C n cl : Addr} {pm : Value} (K : KCls w h C n cl pm) : ∃ K2 f1 f2 Md, KUse w h C cl pm K2 f1 f2 Md := by
  obtain ⟨as, ts, k', a1, a2, a3, m1, m2⟩ := K
  obtain ⟨doc, c, ctv, b1, r1⟩ := id m1
  obtain ⟨doc', c', ctv', b2, r2⟩ := id m2
  have n1 : n ≠ C := ne_kind a2 a1 rfl
  have n2 : as 9 ≠ C := ne_kind a3 a1 rfl
  have n3 : as 9 ≠ n := ne_kind a3 a2 rfl
  have n4 : as 2 ≠ C := ne_kind b1 a1 rfl
  have n5 : as 2 ≠ n := ne_kind b1 a2 rfl
  have n6 : as 2 ≠ as 9 := ne_kind b1 a3 rfl
  have n7 : as 3 ≠ C := ne_kind b2 a1 rfl
  have n8 : as 3 ≠ n := ne_kind b2 a2 rfl
  have n9 : as 3 ≠ as 9 := ne_kind b2 a3 rfl
  have n10 : as 3 ≠ as 2 := fun q => by
    rw [q, b1] at b2
    have e := Obj.mk.inj (Option.some.inj b2)
    have e2 := Data.func.inj e.2.2.1
    have e3 := (FuncData.mk.inj e2).1
    exact absurd e3 (by decide +kernel)
  refine ⟨_, as 2, as 3, as 9, frag_in (fin5 a1 a2 a3 b1 b2), kks (o1 := fnMade "__init__" "cmp_to_key.<locals>.K.__init__" inP inB inS [] doc pm c ctv) (o2 := fnMade "__lt__" "cmp_to_key.<locals>.K.__lt__" ltP ltB ltS [("mycmp", cl)] doc' pm c' ctv') rfl rfl look_hit ((look_on n1).trans look_hit) ((look_on n2).trans ((look_on n3).trans look_hit)) ((look_on n4).trans ((look_on n5).trans ((look_on n6).trans look_hit)))
    ((look_on n7).trans ((look_on n8).trans ((look_on n9).trans ((look_on n10).trans look_hit)))), m1, m2⟩
section
variable {prog : Program} {w : World} {A : Around} {E : Value → Shared → Prop} {s : Shared} {h₀ : Heap}
  {R : Result → Shared → Prop} {name qual : Str} {params : Arguments} {body : List Stmt} {scope : Scope} {clos : List (Str × Addr)} {doc pm ctv : Value} {c f : Addr} {args : Args} {binds : List (Str × Value)} {news : List (Addr × Obj)}
/-- a made def is entered -/
theorem enterM (k : ∀ b o, h₀.get? b = some o → s.heap.get? b = some o) (hsz : h₀.objs.size ≤ s.heap.objs.size) (hN : ∀ q ∈ news, s.heap.get? q.1 = some q.2 ∧ h₀.get? q.1 = none) (lim : h₀.NoLimit)
    (ho : s.heap.get? f = some (fnMade name qual params body scope clos doc pm c ctv)) (hcd : s.heap.CodeRec (.ref c) qual) (hroom : A.depth < recursionLimit)
    (hbind : BindsTo s (fnX name qual params body scope clos .none .none doc pm none (.ref c) ctv) args binds) (hloc : ∀ y ∈ binds, scope.names.lookup y.1 = some .local)
    (h : ∀ L' h₁, Fr h₀ L' h₁ (fun y => binds.reverse.lookup y) → News h₀ L' h₁ news →
      wpAny (model prog w) (A.deeper (envX qual scope L' f (.ref c) clos)) (execs body (envX qual scope L' f (.ref c) clos))
        (fun fl s' => R (.ok (.ret (match fl with | .ret v => v | _ => .none))) s')
        (fun e s' => wpAny (model prog w) (A.deeper (envX qual scope L' f (.ref c) clos)) (leaving (envX qual scope L' f (.ref c) clos) e) (fun _ s'' => R (.error e) s'') (fun e' s'' => R (.error e') s'') s')
        { s with heap := h₁, toks := s.toks + binds.length })
    (hco : scope.isCoroutine = false) (hgen : scope.isGenerator = false) (hk : scope.kind = .function)
    (hcell : ∀ x ∈ scope.names, x.2 ≠ .cell) : codeAny (model prog w) A (.call (.ref f) args) R s := by
  refine codeAny_call_def (fd := fnX name qual params body scope clos .none .none doc pm none (.ref c) ctv) (body := body) (binds := binds) hroom ho rfl (lim.keeps k) hcd rfl hbind hcell hloc (fun h₁ hns hk₁ => ?_) hco hgen hk
  exact h s.heap.objs.size h₁ ⟨hns, fun b o e => hk₁ b o (k b o e), hsz⟩ fun q hq => ⟨hk₁ _ _ (hN q hq).1, Nat.ne_of_lt (Heap.lt_size (hN q hq).1), (hN q hq).2⟩
end
/-- an object of K that bears a value -/
noncomputable abbrev kObj (C dx : Addr) (v : Value) : Obj := { cls := .ref C, dict := some dx, data := .plain, slots := #[some v] }
section
theorem rules_Km_2 : True := by
  k_with_none
  k_with "exec If" => (refine wpAny_If ?_)
  k_with "setAttr ref" => ((refine Halt.out ?_))
  trivial
theorem k_make {w : World} {A : Around} {s : Shared} {Q E : Value → Shared → Prop} (R : Rdy w 500 A s.heap) {C cl : Addr} {pm : Value} {K : Frag} {f1 f2 Md : Addr} (U : KUse w s.heap C cl pm K f1 f2 Md) (x : Str) (tx : Tok)
    (hret : ∀ a dx h' tk', (∀ b o, s.heap.get? b = some o → h'.get? b = some o) → s.heap.get? a = none → h'.get? a = some (kObj C dx (.str x tx)) → h'.get? dx = some emptyDict → Q (.ref a) { s with heap := h', toks := tk' }) :
    wpAny (MM w) A (call (.ref C) [.str x tx]) Q E s := by
  refine R.go ?_
  intro gd base fs p loose mean mg mb B X T
  dsimp only [MM]; revert X; k_fill; intro X
  obtain ⟨hp0, g0, d0, t0, os0⟩ := s
  dsimp only at *
  obtain ⟨U1, U2, ⟨doc, c1, ctv, b1, r1⟩, -⟩ := U
  refine wpAny_call (make_core (init := .ref f1) (makes_of U1 U2.mkC) (looks_findIn U1 U2.fi) (fun self => bind_fn U1 self U2.t1) (.inl rfl) ?_)
  (with_reducible refine codeAny_mono (R := InitBack (hp0.objs.size + 1) _) ?_ fun r s' z => z)
  show codeAny _ (Around.mk none 501 (some fs) gd 501) _ _ _
  generalize hs1 : (hp0.push emptyDict).push (instObj C hp0.objs.size) = hp1
  have hk1 : ∀ b o, hp0.get? b = some o → hp1.get? b = some o := fun b o e => hs1 ▸ Heap.get?_push_of_some _ (Heap.get?_push_of_some _ e)
  have hsz1 : hp1.objs.size = hp0.objs.size + 2 := by rw [← hs1, Heap.size_push, Heap.size_push]
  have hgx : hp1.get? (hp0.objs.size + 1) = some (instObj C hp0.objs.size) := by rw [← hs1]; heap_get
  have hgd : hp1.get? hp0.objs.size = some emptyDict := by rw [← hs1]; heap_get
  have hnn : ∀ b, hp0.objs.size ≤ b → hp0.get? b = none := fun b hb => by
    cases q : hp0.get? b with
    | none => rfl
    | some o => exact absurd (Heap.lt_size q) (Nat.not_lt.mpr hb)
  have hN : ∀ q ∈ [(hp0.objs.size + 1, instObj C hp0.objs.size), (hp0.objs.size, emptyDict)], hp1.get? q.1 = some q.2 ∧ hp0.get? q.1 = none := fun q hq => by
    rcases List.mem_cons.mp hq with rfl | hq
    · exact ⟨hgx, hnn _ (Nat.le_succ _)⟩
    · rw [List.mem_singleton.mp hq]; exact ⟨hgd, hnn _ (Nat.le_refl _)⟩
  clear hs1 hgx hgd
  have hdx : hp0.objs.size < hp0.objs.size + 1 := Nat.lt_succ_self _
  generalize hp0.objs.size + 1 = xI at hN hdx ⊢
  generalize hp0.objs.size = dI at hN hdx ⊢
  refine' enterM hk1 (Nat.le_trans (Nat.le_add_right _ 2) (Nat.le_of_eq hsz1.symm)) hN T.nolimit (hk1 _ _ b1) (codeRec_k r1 hk1) ?hroom ?hbind ?hloc ?_ ?c1 ?c2 ?c3 ?c4
  case hroom => exact Nat.le_of_ble_eq_true rfl
  case hbind => exact BindsTo.of_eq rfl
  case hloc => exact locs rfl
  case c1 => rfl
  case c2 => rfl
  case c3 => rfl
  case c4 => decide
  intro L' h₁ F' N'
  replace F' : Fr hp0 L' h₁ (fun y => List.lookup y [("obj", .str x tx), ("self", .ref xI)]) := F'
  clear hN b1 r1
  dsimp only [inB, inS]
  (try show wpAny _ _ _ _ _ _)
  (try k_fold)
  k_steps
  unfold Halt
  refine set_slot (ox' := kObj C dI (.str x tx)) F' U1 N' ⟨(N' _ (.head _)).1, rfl, rfl, (N' _ (.tail _ (.head _))).1⟩ U2.fs U2.po U2.tr U2.tm U2.sl (by decide) rfl rfl (by k_upd) fun h2 F2 N2 => ?_
  clear N' F'
  k_steps
  unfold InitBack
  dsimp only
  exact ⟨rfl, hret xI dI _ _ F2.keep (N2 _ (.head _)).2.2 (N2 _ (.head _)).1 (N2 _ (.tail _ (.head _))).1⟩
end
theorem rules_Km_3 : True := by
  k_with_none
  k_with "exec If" => (refine wpAny_If ?_)
  trivial
/-- what the comparing function makes of two texts -/
noncomputable def CmpDoes (w : World) (h : Heap) (f : Addr) : Prop :=
  ∀ (A : Around) (s : Shared) (x y : Str) (tx ty : Tok) (Q E : Value → Shared → Prop), Rdy w 500 A s.heap → (∀ b o, h.get? b = some o → s.heap.get? b = some o) →
    (∀ t h' tk', (∀ b o, s.heap.get? b = some o → h'.get? b = some o) → Q (.int (b2i (decide (y.cps.toList < x.cps.toList)) - b2i (decide (x.cps.toList < y.cps.toList))) t) { s with heap := h', toks := tk' }) → wpAny (MM w) A (call (.ref f) [.str x tx, .str y ty]) Q E s
section
theorem rules_Km_4 : True := by
  k_with_none
  k_with "exec If" => (refine wpAny_If ?_)
  k_with "getAttr ref" => ((k_here; (with_reducible rename Fr _ _ _ _ => F9); first | refine get_slot F9 U1 ⟨F9.keep _ _ ga, rfl, rfl, F9.keep _ _ gda⟩ U2.pg U2.ic U2.fo U2.sg U2.tk U2.sl rfl rfl ?_ | refine get_slot F9 U1 ⟨F9.keep _ _ gb, rfl, rfl, F9.keep _ _ gdb⟩ U2.pg U2.ic U2.fo U2.sg U2.tk U2.sl rfl rfl ?_))
  k_with "eval Call" => ((k_here; refine Call_Name rfl ?_))
  k_with "eval Name" => ((k_here; (with_reducible show wpAny _ _ (eval (Expr.Name (Str.ofString "mycmp") _) _) _ _ _); (with_reducible rename Fr _ _ _ _ => F9); refine wpAny_Name (wpAny_loadName_free rfl rfl rfl (hic _ F9.keep) ?_)))
  k_with "FnAt" => ((exact fnAt_keep (by k_asm) (by with_reducible assumption)))
  k_with "callWith ref" => ((k_here; k_dflt (refine' callWith_F ?k1 ?_; (case k1 => exact fnAt_keep (by k_asm) (by with_reducible assumption)); k_whole)))
  k_with "call ref" => ((refine Halt.out ?_))
  trivial
theorem k_lt {w : World} {A : Around} {s : Shared} {Q E : Value → Shared → Prop} (R : Rdy w 360 A s.heap) {C cl : Addr} {pm : Value} {K : Frag} {f1 f2 Md f : Addr} (U : KUse w s.heap C cl pm K f1 f2 Md) {oc : Obj} (gcl : s.heap.get? cl = some oc) (hcl : oc.data = .cell (some (.ref f))) (D : CmpDoes w s.heap f) (hf : FnAt f s.heap)
    {a b da db : Addr} {x y : Str} {tx ty : Tok} (ga : s.heap.get? a = some (kObj C da (.str x tx))) (gda : s.heap.get? da = some emptyDict) (gb : s.heap.get? b = some (kObj C db (.str y ty))) (gdb : s.heap.get? db = some emptyDict)
    (hret : ∀ h' tk', (∀ b o, s.heap.get? b = some o → h'.get? b = some o) → Q (.bool (decide (b2i (decide (y.cps.toList < x.cps.toList)) - b2i (decide (x.cps.toList < y.cps.toList)) < 0))) { s with heap := h', toks := tk' }) :
    wpAny (MM w) A (call (.ref f2) [.ref a, .ref b]) Q E s := by
  refine R.go ?_
  intro gd base fs p loose mean mg mb B X T
  dsimp only [MM]; revert X; k_fill; intro X
  obtain ⟨U1, U2, -, ⟨doc, c1, ctv, b1, r1⟩⟩ := U
  have hic : ∀ h' : Heap, (∀ b o, s.heap.get? b = some o → h'.get? b = some o) → h'.IsCell cl (some (.ref f)) := fun h' k => ⟨oc, k _ _ gcl, hcl⟩
  refine' wpAny_call (enterM (h₀ := s.heap) (news := []) (fun _ _ e => e) (Nat.le_refl _) (fun _ hp => nomatch hp) T.nolimit b1 r1 ?hroom ?hbind ?hloc ?_ ?c1 ?c2 ?c3 ?c4)
  case hroom => exact Nat.le_of_ble_eq_true rfl
  case hbind => exact BindsTo.of_eq rfl
  case hloc => exact locs rfl
  case c1 => rfl
  case c2 => rfl
  case c3 => rfl
  case c4 => decide
  intro L' h₁ F' N'
  replace F' : Fr s.heap L' h₁ (fun y => List.lookup y [("other", .ref b), ("self", .ref a)]) := F'
  clear b1 r1
  dsimp only [ltB, ltS]
  (try show wpAny _ _ _ _ _ _)
  (try k_fold)
  k_steps
  unfold Halt
  (with_reducible rename Fr _ _ _ _ => F9)
  refine D _ _ x y tx ty _ _ (Rdy.of_walk B F9 X T rfl rfl (Nat.le_of_ble_eq_true rfl) (Nat.le_of_ble_eq_true rfl) rfl) F9.keep ?_
  intro t h2 tk2 k2
  have F2 := fr_keep F9 k2
  have N2 := news_keep N' k2
  clear F9 N'
  generalize b2i (decide (y.cps.toList < x.cps.toList)) - b2i (decide (x.cps.toList < y.cps.toList)) = z at *
  k_steps
  exact hret _ _ F2.keep
end
end Km
section Kp
section
variable {O : KeyOrd} {κ : Nat → O.α} {N : Nat} {p : Array Nat} {s : Shared}
theorem rules_Kp_1 : True := by
  k_with_none
  k_with "exec If" => (refine wpAny_If ?_)
  trivial
/-- the key at a place -/
noncomputable def KP (O : KeyOrd) (κ : Nat → O.α) (p : Array Nat) (k : Nat) : O.α := κ (p.getD k 0)
theorem KP_congr {q : Array Nat} {i j : Nat} (h : p[i]? = q[j]?) : KP O κ p i = KP O κ q j := by
  unfold KP
  rw [Array.getD_eq_getD_getElem?, Array.getD_eq_getD_getElem?, h]
theorem KP_bubble {src d : Nat} (hs : src < p.size) (hd : d ≤ src) (k : Nat) :
    KP O κ (bubble p src d) k = if k = src - d then KP O κ p src else if src - d < k ∧ k ≤ src then KP O κ p (k - 1) else KP O κ p k := by
  have e := getElem?_bubble hs d hd k
  by_cases h1 : k = src - d
  · rw [if_pos h1] at e ⊢; exact KP_congr e
  · rw [if_neg h1] at e ⊢
    by_cases h2 : src - d < k ∧ k ≤ src
    · rw [if_pos h2] at e ⊢; exact KP_congr e
    · rw [if_neg h2] at e ⊢; exact KP_congr e
theorem KP_rev {i j : Nat} (hj : j ≤ p.size) (k : Nat) : KP O κ (kas_rev p i j) k = if i ≤ k ∧ k < j then KP O κ p (i + j - 1 - k) else KP O κ p k := by
  have e := getElem?_mirror_all (i := i) hj k
  by_cases h1 : i ≤ k ∧ k < j
  · rw [if_pos h1] at e ⊢; exact KP_congr e
  · rw [if_neg h1] at e ⊢; exact KP_congr e
theorem KP_rev_eq {i j : Nat} (hj : j ≤ p.size) (heq : ∀ k, i ≤ k → k < j → KP O κ p k = KP O κ p (j - 1)) (k : Nat) : KP O κ (kas_rev p i j) k = KP O κ p k := by
  rw [KP_rev hj]
  split
  · rw [heq _ (by omega) (by omega), heq k (by omega) (by omega)]
  · rfl
noncomputable def Srt (O : KeyOrd) (κ : Nat → O.α) (p : Array Nat) (k : Nat) : Prop := ∀ i j, i ≤ j → j < k → O.kle (KP O κ p i) (KP O κ p j)
noncomputable def Nin (O : KeyOrd) (κ : Nat → O.α) (p : Array Nat) (k : Nat) : Prop := ∀ i j, i ≤ j → j < k → O.kle (KP O κ p j) (KP O κ p i)
/-- the numbers below N in some order -/
noncomputable def Pm (N : Nat) (p : Array Nat) : Prop := p.Perm (List.toArray (List.range N))
theorem Pm.size (h : Pm N p) : p.size = N := by
  have := Array.Perm.size_eq h
  simpa using this
theorem Pm.lt (h : Pm N p) {i : Nat} (hi : i < N) : p.getD i 0 < N := by
  have e : p.getD i 0 = p[i]'(by rw [h.size]; exact hi) := by simp [Array.getD, h.size, hi]
  rw [e]
  have := (Array.perm_iff_toList_perm.mp h).mem_iff.mp (show p[i]'(by rw [h.size]; exact hi) ∈ p.toList by simp)
  simpa using this
theorem Pm.rev (h : Pm N p) (i j : Nat) : Pm N (kas_rev p i j) := (mirror_perm _ _ _ _).trans h
theorem Pm.bub (h : Pm N p) (i j : Nat) : Pm N (bubble p i j) := (bubble_perm _ _ _).trans h
/-- a question that the order answers -/
noncomputable def asked (O : KeyOrd) (κ : Nat → O.α) (N : Nat) (i j : Nat) (C : Bool → Shared → Prop) (s : Shared) : Prop := i < N ∧ j < N ∧ C (O.blt (κ i) (κ j)) s
theorem Srt.snoc {n : Nat} (h1 : 1 ≤ n) (hs : Srt O κ p n) (h : O.kle (KP O κ p (n - 1)) (KP O κ p n)) : Srt O κ p (n + 1) := by
  intro i j hij hj
  by_cases hjx : j < n
  · exact hs i j hij hjx
  · obtain rfl : j = n := by omega
    by_cases hi' : i = j
    · subst hi'; exact KeyOrd.kle_refl _
    · exact KeyOrd.kle_trans (hs i (j - 1) (by omega) (by omega)) h
theorem Nin.snoc {n : Nat} (h1 : 1 ≤ n) (hs : Nin O κ p n) (h : O.kle (KP O κ p n) (KP O κ p (n - 1))) : Nin O κ p (n + 1) := by
  intro i j hij hj
  by_cases hjx : j < n
  · exact hs i j hij hjx
  · obtain rfl : j = n := by omega
    by_cases hi' : i = j
    · subst hi'; exact KeyOrd.kle_refl _
    · exact KeyOrd.kle_trans h (hs i (j - 1) (by omega) (by omega))
theorem ar1 {n f N : Nat} (h : n + (f + 1) ≤ N) : n < N := Nat.lt_of_lt_of_le (Nat.lt_add_of_pos_right (Nat.succ_pos f)) h
theorem ar2 {n f N : Nat} (h : n + (f + 1) ≤ N) : n - 1 < N := Nat.lt_of_le_of_lt (Nat.sub_le n 1) (ar1 h)
theorem ar3 {n f N : Nat} (h : n + (f + 1) ≤ N) : n + 1 + f ≤ N := Nat.le_trans (Nat.le_of_eq (Nat.add_right_comm n 1 f)) h
theorem ar6 {m n f : Nat} (h : m ≤ n + 1 + f) : m ≤ n + (f + 1) := Nat.le_trans h (Nat.le_of_eq (Nat.add_right_comm n 1 f))
theorem asc_W (hp : Pm N p) {Q : Nat → Shared → Prop} : ∀ (f n : Nat), 1 ≤ n → n + f ≤ N → Srt O κ p n → (∀ m, n ≤ m → m ≤ n + f → Srt O κ p m → (m = n + f ∨ O.klt (KP O κ p m) (KP O κ p (m - 1))) → Q m s) → (kas_asc p f n).kasWp (asked O κ N) Q s
  | 0, n, _, _, hs, h => h n (Nat.le_refl _) (Nat.le_refl _) hs (.inl rfl)
  | f + 1, n, h1, hn, hs, h => by
    refine ⟨hp.lt (ar1 hn), hp.lt (ar2 hn), ?_⟩
    cases hless : O.blt (κ (p.getD n 0)) (κ (p.getD (n - 1) 0)) with
    | true => exact h n (Nat.le_refl _) (Nat.le_add_right _ _) hs (.inr hless)
    | false => exact asc_W hp f (n + 1) (Nat.le_add_left 1 n) (ar3 hn) (hs.snoc h1 hless) fun m a b c e => h m (Nat.le_of_succ_le a) (ar6 b) c (e.imp (fun q => q.trans (Nat.add_right_comm n 1 f)) id)
theorem desc_W {Q : Array Nat × Nat × Nat → Shared → Prop} : ∀ (f : Nat) (p : Array Nat) (n q : Nat), Pm N p → 1 ≤ n → n + f ≤ N → Nin O κ p n → q + 1 ≤ n → (∀ i, n - (q + 1) ≤ i → i < n → KP O κ p i = KP O κ p (n - 1)) →
    (∀ p' m q', Pm N p' → n ≤ m → m ≤ n + f → Nin O κ p' m → q' + 1 ≤ m → (∀ i, m - (q' + 1) ≤ i → i < m → KP O κ p' i = KP O κ p' (m - 1)) → Q (p', m, q') s) → (kas_desc f p n q).kasWp (asked O κ N) Q s
  | 0, p, n, q, hp, _, _, hs, hq, he, h => h p n q hp (Nat.le_refl _) (Nat.le_refl _) hs hq he
  | f + 1, p, n, q, hp, h1, hn, hs, hq, he, h => by
    refine ⟨hp.lt (ar1 hn), hp.lt (ar2 hn), ?_⟩
    cases hless : O.blt (κ (p.getD n 0)) (κ (p.getD (n - 1) 0)) with
    | true =>
      show KasT.kasWp _ (if q > 0 then kas_desc f (kas_rev p (n - (q + 1)) n) (n + 1) 0 else kas_desc f p (n + 1) 0) Q s
      have hs1 := hs.snoc h1 (KeyOrd.kle_of_klt hless)
      have one : ∀ p' : Array Nat, ∀ i, n + 1 - (0 + 1) ≤ i → i < n + 1 → KP O κ p' i = KP O κ p' (n + 1 - 1) := fun p' i a b => by congr 1; omega
      split
      · have hnz : n ≤ p.size := hp.size ▸ Nat.le_of_lt (ar1 hn)
        refine desc_W f _ (n + 1) 0 (hp.rev _ _) (Nat.le_add_left 1 n) (ar3 hn) (fun i j hij hj => ?_) (Nat.le_add_left 1 n) (one _) fun p' m q' a b c d e g => h p' m q' a (Nat.le_of_succ_le b) (ar6 c) d e g
        rw [KP_rev_eq hnz he, KP_rev_eq hnz he]
        exact hs1 i j hij hj
      · exact desc_W f p (n + 1) 0 hp (Nat.le_add_left 1 n) (ar3 hn) hs1 (Nat.le_add_left 1 n) (one _) fun p' m q' a b c d e g => h p' m q' a (Nat.le_of_succ_le b) (ar6 c) d e g
    | false =>
      refine ⟨hp.lt (ar2 hn), hp.lt (ar1 hn), ?_⟩
      cases hlarger : O.blt (κ (p.getD (n - 1) 0)) (κ (p.getD n 0)) with
      | true => exact h p n q hp (Nat.le_refl _) (Nat.le_add_right _ _) hs hq he
      | false =>
        have heqx : KP O κ p n = KP O κ p (n - 1) := KeyOrd.kle_antisymm hlarger hless
        refine desc_W f p (n + 1) (q + 1) hp (Nat.le_add_left 1 n) (ar3 hn) (hs.snoc h1 hlarger) (Nat.succ_le_succ hq) (fun i a b => ?_) fun p' m q' a b c d e g => h p' m q' a (Nat.le_of_succ_le b) (ar6 c) d e g
        rw [Nat.add_sub_cancel]
        by_cases hix : i = n
        · subst hix; rfl
        · rw [heqx]; exact he i (by omega) (by omega)
theorem tail3_W {n : Nat} (hp : Pm N p) (h1 : 1 ≤ n) (hn : n ≤ N) (hs : Nin O κ p n) {Q : Nat × Array Nat → Shared → Prop} (h : ∀ m p', Pm N p' → 1 ≤ m → m ≤ N → Srt O κ p' m → Q (m, p') s) : (kas_tail3 n N p).kasWp (asked O κ N) Q s := by
  unfold kas_tail3
  rw [KasT.kasWp_bind]
  have hz : n ≤ p.size := hp.size ▸ hn
  refine asc_W (hp.rev _ _) _ n h1 (by clear hz; omega) (fun i j hij hj => ?_) fun m a b c e => h m _ (hp.rev _ _) (Nat.le_trans h1 a) (by clear e hz; omega) c
  rw [KP_rev hz, KP_rev hz, if_pos ⟨Nat.zero_le _, Nat.lt_of_le_of_lt hij hj⟩, if_pos ⟨Nat.zero_le _, hj⟩]
  clear hn hz h1
  exact hs _ _ (by omega) (by omega)
theorem descPart_W {n : Nat} (hp : Pm N p) (hn : n + 1 ≤ N) (hs : Nin O κ p (n + 1)) {Q : Nat × Array Nat → Shared → Prop} (h : ∀ m p', Pm N p' → 1 ≤ m → m ≤ N → Srt O κ p' m → Q (m, p') s) : (kas_descPart n N p).kasWp (asked O κ N) Q s := by
  unfold kas_descPart
  rw [KasT.kasWp_bind]
  refine desc_W _ p (n + 1) 0 hp (by omega) (by omega) hs (by omega) (fun i a b => by congr 1; omega) fun p' m q' hp' a b hs' hq he => ?_
  have hmN : m ≤ N := by omega
  have hz : m ≤ p'.size := hp'.size ▸ hmN
  have hm1 : 1 ≤ m := Nat.le_trans (Nat.succ_le_succ (Nat.zero_le _)) hq
  dsimp only
  split
  · refine tail3_W (hp'.rev _ _) hm1 hmN (fun i j hij hj => ?_) h
    rw [KP_rev_eq hz he, KP_rev_eq hz he]
    exact hs' i j hij hj
  · exact tail3_W hp' hm1 hmN hs' h
theorem count_W (hp : Pm N p) (h1 : 1 ≤ N) {Q : Nat × Array Nat → Shared → Prop} (h : ∀ m p', Pm N p' → 1 ≤ m → m ≤ N → Srt O κ p' m → Q (m, p') s) : (kas_count N p).kasWp (asked O κ N) Q s := by
  unfold kas_count
  rw [KasT.kasWp_bind]
  have hz := hp.size
  refine asc_W hp _ 1 (Nat.le_refl _) (by omega) (fun i j hij hj => by
    obtain rfl : i = j := (by omega)
    exact KeyOrd.kle_refl _) fun n hn1 hn2 hsn hor => ?_
  have hnN : n ≤ N := by clear hor hz; omega
  by_cases hnn : n = N
  · rw [if_pos (by simpa using hnn)]
    exact h n p hp hn1 (by omega) hsn
  · rw [if_neg (by simpa using hnn)]
    have hlt : O.klt (KP O κ p n) (KP O κ p (n - 1)) := hor.resolve_left (fun q => hnn (by clear hz; omega))
    clear hor hn2
    have hn1N : n + 1 ≤ N := by clear hz; omega
    have hnz : n ≤ p.size := hz ▸ hnN
    clear hz
    by_cases hgt : n > 1
    · rw [if_pos hgt]
      refine ⟨hp.lt h1, hp.lt (by omega), ?_⟩
      cases hrose : O.blt (κ (p.getD 0 0)) (κ (p.getD (n - 1) 0)) with
      | true => exact h n p hp hn1 hnN hsn
      | false =>
        have hall : ∀ k, 0 ≤ k → k < n → KP O κ p k = KP O κ p (n - 1) := fun k _ hk =>
          KeyOrd.kle_antisymm (hsn k (n - 1) (by omega) (by omega)) (KeyOrd.kle_trans hrose (hsn 0 k (by omega) hk))
        refine descPart_W (hp.rev _ _) hn1N (fun i j hij hj => ?_) h
        rw [KP_rev_eq hnz hall, KP_rev_eq hnz hall]
        clear hn1N hnz hnN h1
        by_cases hjn : j < n
        · rw [hall i (Nat.zero_le _) (Nat.lt_of_le_of_lt hij hjn), hall j (Nat.zero_le _) hjn]; exact KeyOrd.kle_refl _
        · obtain rfl : j = n := by omega
          by_cases hi' : i = j
          · subst hi'; exact KeyOrd.kle_refl _
          · rw [hall i (Nat.zero_le _) (Nat.lt_of_le_of_ne hij hi')]; exact KeyOrd.kle_of_klt hlt
    · rw [if_neg hgt]
      obtain rfl : n = 1 := by omega
      refine descPart_W hp hn1N (fun i j hij hj => ?_) h
      clear hn1N hnz hnN h1
      by_cases hi' : i = j
      · subst hi'; exact KeyOrd.kle_refl _
      · obtain rfl : i = 0 := by omega
        obtain rfl : j = 1 := by omega
        exact KeyOrd.kle_of_klt hlt
theorem mid_of {l r : Nat} (h : l < r) : l ≤ (l + r) / 2 ∧ (l + r) / 2 < r := by omega
theorem place_W {k : Nat} (hp : Pm N p) (hk : k < N) (hs : Srt O κ p k) {Q : Nat → Shared → Prop} : ∀ (f l r : Nat), l ≤ r → r ≤ k → r - l ≤ f → (∀ i, i < l → O.kle (KP O κ p i) (KP O κ p k)) → (∀ i, r ≤ i → i < k → O.klt (KP O κ p k) (KP O κ p i)) →
    (∀ l, l ≤ k → (∀ i, i < l → O.kle (KP O κ p i) (KP O κ p k)) → (∀ i, l ≤ i → i < k → O.klt (KP O κ p k) (KP O κ p i)) → Q l s) → (kas_place p k f l r).kasWp (asked O κ N) Q s
  | 0, l, r, hlr, hrk, hf, hlo, hhi, h => by
    obtain rfl : l = r := by omega
    exact h l hrk hlo hhi
  | f + 1, l, r, hlr, hrk, hf, hlo, hhi, h => by
    unfold kas_place
    by_cases hge : l ≥ r
    · rw [if_pos hge]
      obtain rfl : l = r := by omega
      exact h l hrk hlo hhi
    · rw [if_neg hge]
      obtain ⟨m1, m2⟩ := mid_of (Nat.lt_of_not_le hge)
      generalize (l + r) / 2 = mid at *
      have m3 := Nat.lt_of_lt_of_le m2 hrk
      refine ⟨hp.lt hk, hp.lt (Nat.lt_trans m3 hk), ?_⟩
      cases hless : O.blt (κ (p.getD k 0)) (κ (p.getD mid 0)) with
      | true => exact place_W hp hk hs f l mid m1 (Nat.le_of_lt m3) (Nat.le_of_lt_succ (Nat.lt_of_lt_of_le (Nat.sub_lt_sub_right m1 m2) hf)) hlo (fun i a b => KeyOrd.klt_of_klt_of_kle hless (hs _ _ a b)) h
      | false => exact place_W hp hk hs f (mid + 1) r m2 hrk (Nat.le_trans (Nat.sub_le_sub_left (Nat.succ_le_succ m1) r) (by rw [Nat.sub_succ]; exact Nat.pred_le_pred hf)) (fun i a => KeyOrd.kle_trans (hs i mid (Nat.le_of_lt_succ a) m3) hless) hhi h
theorem bin_W {Q : Array Nat → Shared → Prop} : ∀ (f k : Nat) (p : Array Nat), Pm N p → k + f = N → Srt O κ p k → (∀ p', Pm N p' → Srt O κ p' N → Q p' s) → (kas_bin f p k).kasWp (asked O κ N) Q s
  | 0, k, p, hp, hk, hs, h => h p hp (by rw [← hk]; exact hs)
  | f + 1, k, p, hp, hk, hs, h => by
    unfold kas_bin
    rw [KasT.kasWp_bind]
    refine place_W hp (by omega) hs k 0 k (by omega) (by omega) (by omega) (fun i a => by omega) (fun i a b => by omega) fun l hl hlo hhi => ?_
    refine bin_W f (k + 1) _ (hp.bub _ _) (by omega) (fun i j hij hj => ?_) h
    have hz := hp.size
    rw [KP_bubble (by omega) (by omega), KP_bubble (by omega) (by omega)]
    rw [show k - (k - l) = l by omega]
    clear hz hk
    have hjk := Nat.le_of_lt_succ hj
    rcases Nat.lt_trichotomy j l with h2 | rfl | h2
    · have h1 := Nat.lt_of_le_of_lt hij h2
      rw [if_neg (Nat.ne_of_lt h1), if_neg (fun q => Nat.lt_asymm q.1 h1), if_neg (Nat.ne_of_lt h2), if_neg (fun q => Nat.lt_asymm q.1 h2)]
      exact hs _ _ hij (Nat.lt_of_lt_of_le h2 hl)
    · rw [if_pos rfl]
      rcases Nat.lt_or_eq_of_le hij with h1 | rfl
      · rw [if_neg (Nat.ne_of_lt h1), if_neg (fun q => Nat.lt_asymm q.1 h1)]
        exact hlo _ h1
      · rw [if_pos rfl]; exact KeyOrd.kle_refl _
    · have h3 : j - 1 < k := by omega
      have h4 : l ≤ j - 1 := Nat.le_sub_one_of_lt h2
      rw [if_neg (Nat.ne_of_gt h2), if_pos (show l < j ∧ j ≤ k from ⟨h2, hjk⟩)]
      rcases Nat.lt_trichotomy i l with h1 | rfl | h1
      · rw [if_neg (Nat.ne_of_lt h1), if_neg (fun q => Nat.lt_asymm q.1 h1)]
        exact hs _ _ (Nat.le_trans (Nat.le_of_lt h1) h4) h3
      · rw [if_pos rfl]; exact KeyOrd.kle_of_klt (hhi _ h4 h3)
      · rw [if_neg (Nat.ne_of_gt h1), if_pos (show l < i ∧ i ≤ k from ⟨h1, Nat.le_trans hij hjk⟩)]
        exact hs _ _ (Nat.sub_le_sub_right hij 1) h3
theorem sort_W (h1 : 1 ≤ N) {Q : Array Nat → Shared → Prop} (h : ∀ p, Pm N p → Srt O κ p N → Q p s) : (kas_sort N).kasWp (asked O κ N) Q s := by
  unfold kas_sort
  rw [KasT.kasWp_bind]
  refine count_W (Array.Perm.refl _) h1 fun m p' hp hm1 hm2 hs => ?_
  dsimp only
  split
  · rw [show max m 1 = m by omega]
    exact bin_W _ m p' hp (by omega) hs h
  · obtain rfl : m = N := by omega
    exact h p' hp hs
end
end Kp
section Srt
theorem rules_Srt_1 : True := by
  k_with_none
  k_with "exec If" => (refine wpAny_If ?_)
  trivial
theorem Rdy.keeps {w : World} {n : Nat} {A : Around} {h h' : Heap} (R : Rdy w n A h) (k : ∀ b o, h.get? b = some o → h'.get? b = some o) : Rdy w n A h' := by
  obtain ⟨⟨base, fs, B⟩, X, ⟨p, loose, mean, mg, mb, T⟩, d, u, hn⟩ := R
  exact ⟨⟨base, fs, B.stack, fun b o e => k _ _ (B.stays b o e), B.frames.of_keeps fun b o e _ => ⟨o, k _ _ e, rfl⟩⟩, X.keeps k, ⟨p, loose, mean, mg, mb, T.keeps k⟩, d, u, hn⟩
theorem Rdy.in1 {w : World} {n m : Nat} {A : Around} {h : Heap} (R : Rdy w n A h) (hm : n + 1 ≤ m) : Rdy w m A.in1 h :=
  ⟨let ⟨base, fs, B⟩ := R.below; ⟨base, fs, B.in1⟩, R.frag, R.top, Nat.le_trans R.dep (Nat.le_of_succ_le hm), Nat.le_trans (Nat.succ_le_succ R.unt) hm, R.hnd⟩
theorem Rdy.up {w : World} {n m : Nat} {A : Around} {h : Heap} (R : Rdy w n A h) (hm : n ≤ m) : Rdy w m A h := ⟨R.below, R.frag, R.top, Nat.le_trans R.dep hm, Nat.le_trans R.unt hm, R.hnd⟩
theorem KUse.keeps {w : World} {h h' : Heap} {C cl : Addr} {pm : Value} {K : Frag} {f1 f2 Md : Addr} (U : KUse w h C cl pm K f1 f2 Md) (k : ∀ b o, h.get? b = some o → h'.get? b = some o) : KUse w h' C cl pm K f1 f2 Md :=
  ⟨U.kin.keeps k, U.ks, let ⟨a, b, c, e, r⟩ := U.m1; ⟨a, b, c, k _ _ e, r.keeps k⟩, let ⟨a, b, c, e, r⟩ := U.m2; ⟨a, b, c, k _ _ e, r.keeps k⟩⟩
/-- what the sort wants of the class K and its function -/
structure SortCx (w : World) (h : Heap) (C cl f : Addr) (pm : Value) (K : Frag) (f1 f2 Md : Addr) (oc : Obj) : Prop where
  u : KUse w h C cl pm K f1 f2 Md
  gc : h.get? cl = some oc
  dc : oc.data = .cell (some (.ref f))
  cmp : CmpDoes w h f
  fn : FnAt f h
theorem SortCx.keeps {w : World} {h h' : Heap} {C cl f : Addr} {pm : Value} {K : Frag} {f1 f2 Md : Addr} {oc : Obj} (X : SortCx w h C cl f pm K f1 f2 Md oc) (k : ∀ b o, h.get? b = some o → h'.get? b = some o) : SortCx w h' C cl f pm K f1 f2 Md oc :=
  ⟨X.u.keeps k, k _ _ X.gc, X.dc, fun A s x y tx ty Q E R kk hr => X.cmp A s x y tx ty Q E R (fun b o e => kk b o (k b o e)) hr, let ⟨a, b, c, d, e⟩ := X.fn; ⟨a, b, c, d, k _ _ e⟩⟩
/-- an object of K that bears a text -/
noncomputable def KeyAt (C : Addr) (hb : Heap) (v : Value) (x : Str) : Prop := ∃ a d t, v = .ref a ∧ hb.get? a = some (kObj C d (.str x t)) ∧ hb.get? d = some emptyDict
theorem KeyAt.keeps {C : Addr} {h h' : Heap} {v : Value} {x : Str} (H : KeyAt C h v x) (k : ∀ b o, h.get? b = some o → h'.get? b = some o) : KeyAt C h' v x := let ⟨a, d, t, e, r, q⟩ := H; ⟨a, d, t, e, k _ _ r, k _ _ q⟩
noncomputable abbrev ksO (vs : Array Value) (c : Nat) : Obj := seqObj "list" vs c
section
variable {w : World} {A : Around} {hb h : Heap} {g : Array GenState} {d : Drawn} {tk : Nat} {os : OsState} {C cl f kS a : Addr} {pm : Value} {K : Frag} {f1 f2 Md : Addr} {oc oS oa : Obj}
theorem srt_make {E : Value → Shared → Prop} {x : Str} {tx : Tok} {Q : Value → Shared → Prop} (R : Rdy w 500 A hb) (X : SortCx w hb C cl f pm K f1 f2 Md oc) (T : Two hb kS a oS oa h) (dS : Nat.beq 1 (dkind oS) = false) (dA : Nat.beq 1 (dkind oa) = false)
    (hq : ∀ v hb' h' tk', (∀ b o, hb.get? b = some o → hb'.get? b = some o) → Two hb' kS a oS oa h' → KeyAt C hb' v x → Q v ⟨h', g, d, tk', os⟩) :
    wpAny (MM w) A (call (.ref C) [.str x tx]) Q E ⟨h, g, d, tk, os⟩ := by
  refine k_make (R.keeps T.keep) (X.u.keeps T.keep) x tx fun ad dx h' tk' k n0 ga gd => ?_
  have T' := T.more k
  refine hq _ _ h' tk' (T.visible k) T'.base ⟨ad, dx, tx, rfl, T.fresh n0 ga, hideAll_get _ gd fun q => ?_⟩
  rcases List.mem_cons.mp q with q | q
  · exact ne_kind gd T'.gn dS q
  · exact ne_kind gd T'.gC dA (List.mem_singleton.mp q)
theorem srt_lt {E : Value → Shared → Prop} {u v : Value} {x y : Str} {Q : Bool → Shared → Prop} (R : Rdy w 350 A hb) (X : SortCx w hb C cl f pm K f1 f2 Md oc) (T : Two hb kS a oS oa h) (hu : KeyAt C hb u x) (hv : KeyAt C hb v y)
    (hq : ∀ h' tk', Two hb kS a oS oa h' → Q (decide (x.cps.toList < y.cps.toList)) ⟨h', g, d, tk', os⟩) :
    wpAny (MM w) A (keyLt' oneType' u v) Q E ⟨h, g, d, tk, os⟩ := by
  obtain ⟨ad, da, tx, rfl, ga, gda⟩ := hu
  obtain ⟨bd, db, ty, rfl, gb, gdb⟩ := hv
  have k := T.keep
  rw [keyLt'_oneType, oneLt'_eq]
  simp only [if_true]
  refine wpAny_bind (wpAny_cRoomFor (Nat.lt_of_le_of_lt R.unt (Nat.le_of_ble_eq_true rfl)) ?_)
  refine wpAny_bind (ifBound_K (od := some emptyDict) (X.u.kin.keeps k) ⟨k _ _ ga, rfl, rfl, k _ _ gda⟩ X.u.ks.fl X.u.ks.t2 ?_)
  refine k_lt ((R.up (Nat.le_of_ble_eq_true rfl)).keeps k) (X.u.keeps k) (k _ _ X.gc) X.dc (X.keeps k).cmp (X.keeps k).fn (k _ _ ga) (k _ _ gda) (k _ _ gb) (k _ _ gdb) fun h' tk' k' => ?_
  have e : decide (b2i (decide (y.cps.toList < x.cps.toList)) - b2i (decide (x.cps.toList < y.cps.toList)) < 0) = decide (x.cps.toList < y.cps.toList) := by
    by_cases h1 : y.cps.toList < x.cps.toList
    · rw [decide_eq_true h1, decide_eq_false (List.lt_asymm h1)]; rfl
    · rw [decide_eq_false h1]
      by_cases h2 : x.cps.toList < y.cps.toList
      · rw [decide_eq_true h2]; rfl
      · rw [decide_eq_false h2]; rfl
  rw [e]
  exact wpAny_truthy_bool (hq _ _ (T.more k'))
end
theorem ask_run {α : Type} {O : KeyOrd} {κ : Nat → O.α} {N : Nat} {cmp : Nat → Nat → (Bool → Shared → Prop) → Shared → Prop} (J : Shared → Prop) (hc : ∀ i j (D : Bool → Shared → Prop) s, J s → i < N → j < N → (∀ s', J s' → D (O.blt (κ i) (κ j)) s') → cmp i j D s) {Q : α → Shared → Prop} {Q0 : α → Prop} {s0 : Shared}
    (hq : ∀ a s', Q0 a → J s' → Q a s') : ∀ (t : KasT α) (s : Shared), t.kasWp (asked O κ N) (fun a _ => Q0 a) s0 → J s → t.kasWp cmp Q s
  | .ret a, s, hw, hJ => hq a s hw hJ
  | .ask i j k, s, hw, hJ => hc i j _ s hJ hw.1 hw.2.1 fun s' hJ' => ask_run J hc hq (k _) s' hw.2.2 hJ'
section
variable {w : World} {A : Around} {hb h : Heap} {g : Array GenState} {d : Drawn} {tk : Nat} {os : OsState} {C cl f kS a : Addr} {pm : Value} {K : Frag} {f1 f2 Md : Addr} {oc : Obj} {E : Value → Shared → Prop} {P : PySem.Fin → Shared → Prop}
theorem srt_fold {vs : List Value} {xs : List Str} {e1 : Nat} {body : Value → PUnit → Sem (ForInStep PUnit)} {Q : PUnit → Shared → Prop} (hbody : ∀ x, body x ⟨⟩ = (do
      match ← (call (.ref C) [x]).attempt with
      | .ok k => Builtin.List.listUpdate (.ref kS) (·.push k)
      | .error e =>
        rule "list.sort.key-raised"
        let made ← Builtin.List.listItems (.ref kS)
        Builtin.List.listUpdate (.ref kS) fun _ => #[]
        letGo made.toList.reverse [e]
        Builtin.List.listUpdate (.ref a) fun _ => vs.toArray; throw e
      pure (.yield ⟨⟩)))
    (R : Rdy w 345 A hb) (X : SortCx w hb C cl f pm K f1 f2 Md oc) (T : Two hb kS a (ksO #[] 0) (ksO #[] e1) h) (hi : StrsAre vs xs) (h64 : vs.length < 64)
    (hq : ∀ hb' h' tk' kA c, (∀ b o, hb.get? b = some o → hb'.get? b = some o) → Two hb' kS a (ksO kA c) (ksO #[] e1) h' → kA.size = xs.length → (∀ (i : Nat) (k : Value) (x : Str), kA[i]? = some k → xs[i]? = some x → KeyAt C hb' k x) → Q ⟨⟩ ⟨h', g, d, tk', os⟩) :
    wpAny (MM w) A (forIn vs PUnit.unit body) Q E ⟨h, g, d, tk, os⟩ := by
  refine ksk_fold (fun i s' => ∃ hb' h' tk' kA c, s' = ⟨h', g, d, tk', os⟩ ∧ (∀ b o, hb.get? b = some o → hb'.get? b = some o) ∧ Two hb' kS a (ksO kA c) (ksO #[] e1) h' ∧ kA.size = i ∧ (∀ (i : Nat) (k : Value) (x : Str), kA[i]? = some k → xs[i]? = some x → KeyAt C hb' k x)) vs 0 _
    ⟨hb, h, tk, #[], 0, rfl, fun _ _ e => e, T, rfl, fun i k x e => by simp at e⟩ ?step ?done
  case step =>
    rintro j v s' hv ⟨hb', h', tk', kA, c, rfl, kb, T', hz, hk⟩
    simp only [Nat.zero_add] at hz ⊢
    obtain ⟨x, t, rfl, hx⟩ := StrsAre.item hi j v hv
    have hj : j < vs.length := (List.getElem?_eq_some_iff.mp hv).1
    rw [hbody]
    refine wpAny_bind (wpAny_attempt (srt_make ((R.up (Nat.le_of_ble_eq_true rfl)).keeps kb) (X.keeps kb) T' rfl rfl fun v2 hb2 h2 tk2 kb2 T2 ka => ?_))
    refine wpAny_bind (listUpdate_at T2.gn rfl ?_ (by rw [sizeLine_eq]; omega) (Nat.le_trans (Nat.le_of_eq (Array.size_push ..)) (by rw [sizeLine_eq]; omega)))
    have T3 := T2.setN (Obj.mapSeq (·.push v2)) rfl
    refine wpAny_pure ⟨rfl, hb2, _, _, kA.push v2, _, rfl, fun b o e => kb2 _ _ (kb _ _ e), T3, by rw [Array.size_push, hz], fun i k y e1 e2 => ?_⟩
    rw [Array.getElem?_push] at e1
    split at e1
    · rename_i q
      cases e1
      rw [q, hz, hx] at e2
      cases e2
      exact ka
    · exact (hk i k y e1 e2).keeps kb2
  case done =>
    rintro s' ⟨hb', h', tk', kA, c, rfl, kb, T', hz, hk⟩
    exact hq hb' h' tk' kA c kb T' (by rw [hz, ← StrsAre.len_eq hi]; omega) hk
/-- texts in rising order -/
noncomputable def Rising (ys : List Str) : Prop := ys.Pairwise fun a b => ¬ b.cps.toList < a.cps.toList
theorem srt_end {vs : List Value} {xs : List Str} {e1 : Nat} {kA : Array Value} {c : Nat} (R : Rdy w 345 A hb) (X : SortCx w hb C cl f pm K f1 f2 Md oc) (T : Two hb kS a (ksO kA c) (ksO #[] e1) h) (hi : StrsAre vs xs) (h2 : 2 ≤ vs.length) (h64 : vs.length < 64)
    (hz : kA.size = xs.length) (hk : ∀ (i : Nat) (k : Value) (x : Str), kA[i]? = some k → xs[i]? = some x → KeyAt C hb k x)
    (hq : ∀ hb' h' tk' out ys c c', (∀ b o, hb.get? b = some o → hb'.get? b = some o) → Two hb' kS a (ksO #[] c) (ksO out c') h' → StrsAre out.toList ys → ys.Perm xs → Rising ys → P (.done (.ret .none)) ⟨h', g, d, tk', os⟩) :
    wpAny (MM w) A (ksk_end a false vs.toArray e1 (.ref kS) kA) P E ⟨h, g, d, tk, os⟩ := by
  have hl := StrsAre.len_eq hi
  have hzz : (kA.zip vs.toArray).size = vs.length := by rw [Array.size_zip, hz, List.size_toArray, ← hl, Nat.min_self]
  have keyAt : ∀ i, i < vs.length → ∃ x t, kas_item (kA.zip vs.toArray) i = (kA.getD i .none, .str x t) ∧ vs[i]? = some (.str x t) ∧ xs[i]? = some x ∧ KeyAt C hb (kA.getD i .none) x := fun i hlt => by
    obtain ⟨x, t, e, hx⟩ := StrsAre.item hi i _ (List.getElem?_eq_getElem hlt)
    have hlk : i < kA.size := by omega
    refine ⟨x, t, ?_, by rw [List.getElem?_eq_getElem hlt, e], hx, hk i _ x ?_ hx⟩
    · unfold kas_item
      rw [Array.getD_eq_getD_getElem?, Array.getElem?_eq_getElem (by rw [hzz]; exact hlt), Option.getD_some, Array.getElem_zip, Array.getD_eq_getD_getElem?, Array.getElem?_eq_getElem hlk, Option.getD_some]
      simp only [List.getElem_toArray, e]
    · rw [Array.getD_eq_getD_getElem?, Array.getElem?_eq_getElem hlk, Option.getD_some]
  unfold ksk_end
  dsimp only
  rw [if_neg Bool.false_ne_true, if_neg (by rw [List.size_toArray]; omega), if_neg (by rw [List.size_toArray]; omega)]
  refine wpAny_bind ?_
  rw [show kA = kA.toList.toArray by simp]
  refine kas_kind (T := .ref C) (by rw [Array.length_toList]; omega) (fun v hv => ?_) (by rfl) (by simp) ?_
  · obtain ⟨i, hlt, rfl⟩ := List.getElem_of_mem hv
    rw [Array.length_toList] at hlt
    obtain ⟨x, t, _, _, _, ad, da, t', e, ga, _⟩ := keyAt i (by omega)
    have e2 : kA.toList[i] = .ref ad := by
      rw [Array.getD_eq_getD_getElem?, Array.getElem?_eq_getElem hlt, Option.getD_some] at e
      rw [Array.getElem_toList]; exact e
    rw [e2]
    exact (Looks.ld (T.keep _ _ ga)).andThen .now
  rw [show kA.toList.toArray = kA by simp]
  rw [if_neg Bool.false_ne_true]
  have est : SortSt.mk' oneType' (kA.zip vs.toArray) #[] 7 none = kas_st oneType' (kA.zip vs.toArray) (List.toArray (List.range vs.length)) := by
    have e := kas_range (kA.zip vs.toArray)
    rw [hzz] at e
    show SortSt.mk' oneType' _ #[] 7 none = SortSt.mk' oneType' ((List.toArray (List.range vs.length)).map (kas_item _)) #[] 7 none
    rw [e]
  rw [est]
  refine wpAny_bind (wpAny_mono (kas_runs (E := E) (Q := fun _ st' s' => ∃ p : Array Nat, arrOf st' = p.map (kas_item (kA.zip vs.toArray)) ∧ failedOf st' = none ∧ (Pm vs.length p ∧ Srt strKind.toKeyOrd (fun i => (xs.getD i ⟨#[]⟩).cps.toList) p vs.length) ∧ ∃ h' tk', s' = ⟨h', g, d, tk', os⟩ ∧ Two hb kS a (ksO kA c) (ksO #[] e1) h')
    (G := fun p s' => (Pm vs.length p ∧ Srt strKind.toKeyOrd (fun i => (xs.getD i ⟨#[]⟩).cps.toList) p vs.length) ∧ ∃ h' tk', s' = ⟨h', g, d, tk', os⟩ ∧ Two hb kS a (ksO kA c) (ksO #[] e1) h')
    h2 h64 (fun p' st' s' _ a2 a3 a4 => ⟨p', a2, a3, a4.1, a4.2⟩) ?_) ?_ fun _ _ e => e)
  · refine ask_run (O := strKind.toKeyOrd) (κ := fun i => (xs.getD i ⟨#[]⟩).cps.toList) (N := vs.length) (fun s' => ∃ h' tk', s' = ⟨h', g, d, tk', os⟩ ∧ Two hb kS a (ksO kA c) (ksO #[] e1) h') (fun i j D s' hJ hi' hj' hD => ?_)
      (Q0 := fun p => Pm vs.length p ∧ Srt strKind.toKeyOrd (fun i => (xs.getD i ⟨#[]⟩).cps.toList) p vs.length) (s0 := ⟨h, g, d, tk, os⟩) (fun p s' hp hJ => ⟨hp, hJ⟩) _ _ (sort_W (by omega) fun p a b => ⟨a, b⟩) ⟨h, tk, rfl, T⟩
    obtain ⟨h', tk', rfl, T'⟩ := hJ
    obtain ⟨x, t, ex, _, hx, kx⟩ := keyAt i hi'
    obtain ⟨y, u, ey, _, hy, ky⟩ := keyAt j hj'
    unfold kas_cmp
    rw [ex, ey]
    refine srt_lt (R.up (Nat.le_of_ble_eq_true rfl)) X T' kx ky fun h2 tk2 T2 => ?_
    have z := hD ⟨h2, g, d, tk2, os⟩ ⟨h2, tk2, rfl, T2⟩
    rw [List.getD_eq_getElem?_getD, List.getD_eq_getElem?_getD, hx, hy] at z
    exact z
  rintro ⟨⟨⟩, st'⟩ s' ⟨p, har, hf, ⟨hp, hs⟩, h', tk', rfl, T'⟩
  dsimp only
  have hps := hp.size
  unfold ksk_tail
  dsimp only
  refine wpAny_bind (listUpdate_at T'.gn rfl ?_ (by rw [sizeLine_eq]; omega) (Nat.zero_le _))
  have T1 := T'.setN (Obj.mapSeq fun _ => #[]) rfl
  refine wpAny_bind (wpAny_letGo ?_)
  refine wpAny_bind (seqEpoch_at T1.gC rfl ?_)
  refine wpAny_bind (listUpdate_at T1.gC rfl ?_ (Nat.zero_le _) (by rw [if_neg Bool.false_ne_true, har, Array.size_map, Array.size_map, hps, sizeLine_eq]; omega))
  have T2 := T1.setC (Obj.mapSeq fun _ => (arrOf st').map (·.2)) rfl
  rw [hf]
  simp only [bne_self_eq_false, Bool.false_eq_true, if_false]
  refine wpAny_pure (hq hb _ _ ((arrOf st').map (fun x : Keyed => x.2)) (p.toList.map fun i => xs.getD i ⟨#[]⟩) _ _ (fun _ _ e => e) T2 ?_ ?_ ?_)
  · rw [har, Array.map_map, Array.toList_map]
    have : ∀ l : List Nat, (∀ i ∈ l, i < vs.length) → StrsAre (l.map ((fun x => x.2) ∘ kas_item (kA.zip vs.toArray))) (l.map fun i => xs.getD i ⟨#[]⟩) := fun l => by
      induction l with
      | nil => exact fun _ => .nil
      | cons i l ih =>
        intro hl
        obtain ⟨x, t, ex, _, hx, _⟩ := keyAt i (hl i (.head _))
        rw [List.map_cons, List.map_cons, Function.comp, ex, List.getD_eq_getElem?_getD, hx]
        exact .cons _ _ (ih fun j hj => hl j (.tail _ hj))
    refine this _ fun i hi' => ?_
    simpa using (Array.perm_iff_toList_perm.mp hp).mem_iff.mp hi'
  · have e : (List.range vs.length).map (fun i => xs.getD i ⟨#[]⟩) = xs := by
      refine List.ext_getElem? fun i => ?_
      rw [List.getElem?_map]
      by_cases q : i < vs.length
      · rw [List.getElem?_range q, Option.map_some, List.getD_eq_getElem?_getD, List.getElem?_eq_getElem (by omega), Option.getD_some]
      · rw [List.getElem?_eq_none (by simp; omega), List.getElem?_eq_none (by omega)]; rfl
    have z := (Array.perm_iff_toList_perm.mp hp).map fun i => xs.getD i ⟨#[]⟩
    rw [show (List.toArray (List.range vs.length)).toList = List.range vs.length from rfl, e] at z
    exact z
  · unfold Rising
    rw [List.pairwise_map, List.pairwise_iff_getElem]
    intro i j hi' hj' hij
    rw [Array.length_toList] at hi' hj'
    have z := hs i j (Nat.le_of_lt hij) (by omega)
    unfold KeyOrd.kle KP at z
    rw [Array.getD_eq_getD_getElem?, Array.getD_eq_getD_getElem?, Array.getElem?_eq_getElem hi', Array.getElem?_eq_getElem hj', Option.getD_some, Option.getD_some] at z
    rw [Array.getElem_toList, Array.getElem_toList]
    exact of_decide_eq_false z
theorem srt_tree {vs : List Value} {xs : List Str} {n : Nat} (h0 : Heap) (R : Rdy w 340 A h0) (X : SortCx w h0 C cl f pm K f1 f2 Md oc) (k0 : ∀ b o, h0.get? b = some o → h.get? b = some o) (ha0 : h0.get? a = none) (ho : h.get? a = some (ksO vs.toArray n)) (hi : StrsAre vs xs) (h2 : 2 ≤ vs.length) (h64 : vs.length < 64)
    (hq : ∀ h' tk' out ys c, (∀ b o, h0.get? b = some o → h'.get? b = some o) → h'.get? a = some (ksO out c) → StrsAre out.toList ys → ys.Perm xs → Rising ys → P (.done (.ret .none)) ⟨h', g, d, tk', os⟩) :
    wpAny (MM w) A (ksk_tree a (.ref C) false) P E ⟨h, g, d, tk, os⟩ := by
  obtain ⟨e1, ho1⟩ : ∃ e1, (h.update a (Obj.mapSeq fun _ => (#[] : Array Value))).get? a = some (ksO #[] e1) := ⟨_, get?_update_seq ho fun _ => #[]⟩
  have nea : ∀ b o, h0.get? b = some o → b ≠ a := fun b o e q => by rw [q, ha0] at e; cases e
  have k1 : ∀ b o, h0.get? b = some o → (h.update a (Obj.mapSeq fun _ => (#[] : Array Value))).get? b = some o := fun b o e => (Heap.get?_update_other h _ (Ne.symm (nea b o e))).trans (k0 b o e)
  generalize hH : h.update a (Obj.mapSeq fun _ => (#[] : Array Value)) = H at *
  unfold ksk_tree
  refine wpAny_bind (listItems_at ho rfl ?_)
  refine wpAny_bind (listUpdate_at ho rfl ?_ (by rw [List.size_toArray, sizeLine_eq]; omega) (Nat.zero_le _))
  rw [hH]
  refine wpAny_bind (seqEpoch_at ho1 rfl ?_)
  refine wpAny_bind (wpAny_newTuple ?_ (by show vs.length ≤ _; rw [sizeLine_eq]; omega))
  refine wpAny_bind (wpAny_newList ?_ (Nat.zero_le _))
  refine wpAny_holding ?_
  generalize hkS : (H.push _).objs.size = kS
  generalize hH2 : (H.push _).push _ = H2
  have up : ∀ b o, H.get? b = some o → H2.get? b = some o := fun b o e => hH2 ▸ Heap.get?_push_of_some _ (Heap.get?_push_of_some _ e)
  have gS : H2.get? kS = some (ksO #[] 0) := by rw [← hH2, ← hkS]; exact Heap.get?_push_size _ rfl
  have ltS : ∀ b o, H.get? b = some o → b ≠ kS := fun b o e q => by
    have := Heap.lt_size e
    rw [q, ← hkS, size_push'] at this
    exact absurd (Nat.lt_of_succ_lt this) (Nat.lt_irrefl _)
  have vis : ∀ b o, h0.get? b = some o → (hideAll H2 [kS, a]).get? b = some o := fun b o e => hideAll_get _ (up _ _ (k1 b o e)) fun q => by
    rcases List.mem_cons.mp q with q | q
    · exact ltS b o (k1 b o e) q
    · exact nea b o e (List.mem_singleton.mp q)
  have T : Two (hideAll H2 [kS, a]) kS a (ksO #[] 0) (ksO #[] e1) H2 := ⟨fun b o e => of_hideAll _ e, gS, up _ _ ho1, (ltS a _ ho1).symm, hideAll_none _ (.head _), hideAll_none _ (.tail _ (.head _))⟩
  unfold ksk_rest
  refine wpAny_bind (wpAny_rule ?_)
  rw [← Array.forIn_toList]
  refine wpAny_bind (srt_fold (fun _ => rfl) ((R.keeps vis).up (Nat.le_of_ble_eq_true rfl)) (X.keeps vis) T hi h64 fun hb2 h2 tk2 kA c kb T2 hz hk => ?_)
  refine wpAny_bind (listItems_at T2.gn rfl ?_)
  refine srt_end (((R.keeps vis).keeps kb).up (Nat.le_of_ble_eq_true rfl)) ((X.keeps vis).keeps kb) T2 hi (by assumption) h64 hz hk fun hb3 h3 tk3 out ys c1 c2 kb3 T3 hS hp hr => ?_
  exact hq h3 tk3 out ys c2 (fun b o e => T3.keep _ _ (kb3 _ _ (kb _ _ (vis b o e)))) T3.gC hS hp hr
end
theorem sorted_K {w : World} {A : Around} {E Q : Value → Shared → Prop} {s : Shared} {C cl f l : Addr} {pm : Value} {K : Frag} {f1 f2 Md : Addr} {oc : Obj} {vs : List Value} {xs : List Str} (R : Rdy w 320 A s.heap) (X : SortCx w s.heap C cl f pm K f1 f2 Md oc) (hl : s.heap.IsList l vs.toArray) (hi : StrsAre vs xs) (h2 : 2 ≤ vs.length) (h64 : vs.length < 64)
    (hret : ∀ D h' tk' out ys c, (∀ b o, s.heap.get? b = some o → h'.get? b = some o) → s.heap.get? D = none → h'.get? D = some (ksO out c) → StrsAre out.toList ys → ys.Perm xs → Rising ys → Q (.ref D) { s with heap := h', toks := tk' }) :
    wpAny (MM w) A (call (.builtin "sorted") [.ref l] [(Str.ofString "key", .ref C)]) Q E s := by
  refine call_function_entry_kw kind_sorted plain_sorted entry_sorted (ksk_s1 _ _) ?_
  unfold Builtin.«sorted»
  refine wpAny_bind (m := checkCount "sorted" 1 1 _) (wpAny_pure ?_)
  refine wpAny_bind (collect_list hl ?_ (by rw [sizeLine_eq]; omega))
  refine wpAny_bind (wpAny_newList ?_ (by rw [sizeLine_eq]; omega))
  have hsz : ((s.heap.push (seqObj "list" #[] 0)).update s.heap.objs.size (Obj.mapSeq (· ++ vs.toArray))).objs.size = s.heap.objs.size + 1 := by
    rw [Heap.size_update, size_push']
  have hoL : (((s.heap.push (seqObj "list" #[] 0)).update s.heap.objs.size (Obj.mapSeq (· ++ vs.toArray))).push (seqObj "list" vs.toArray 0)).get? (s.heap.objs.size + 1) = some (ksO vs.toArray 0) := by
    rw [← hsz]; exact Heap.get?_push_size _ rfl
  have keep : ∀ b o, s.heap.get? b = some o → (((s.heap.push (seqObj "list" #[] 0)).update s.heap.objs.size (Obj.mapSeq (· ++ vs.toArray))).push (seqObj "list" vs.toArray 0)).get? b = some o := fun b o q => by
    have hlt : b < s.heap.objs.size := Heap.lt_size q
    rw [Heap.get?_push_ne _ _ _ (by rw [hsz]; exact Nat.ne_of_lt (Nat.lt_succ_of_lt hlt)), Heap.get?_update_ne _ _ _ _ (Nat.ne_of_lt hlt), Heap.get?_push_ne _ _ _ (Nat.ne_of_lt hlt)]
    exact q
  show wpAny _ _ _ _ _ { s with heap := ((s.heap.push (seqObj "list" #[] 0)).update s.heap.objs.size (Obj.mapSeq (· ++ vs.toArray))).push (seqObj "list" vs.toArray 0) }
  rw [hsz]
  have na : s.heap.get? (s.heap.objs.size + 1) = none := Heap.get?_none_of_le (Nat.le_succ _)
  generalize s.heap.objs.size + 1 = a at *
  generalize ((s.heap.push (seqObj "list" #[] 0)).update s.heap.objs.size (Obj.mapSeq (· ++ vs.toArray))).push (seqObj "list" vs.toArray 0) = H at *
  refine wpAny_bind (wpAny_holding (wpAny_call_entry_kw slot_list_sort ⟨_, hoL, rfl⟩ entry_list_sort ?body (ksk_l1 _ _)))
  rw [ksk_t1]
  refine srt_tree s.heap ((R.in1 (m := 321) (Nat.le_refl _)).in1 (m := 340) (by decide)) X keep na hoL hi h2 h64 fun h' tk' out ys c k ga hS hp hr => ⟨_, rfl, wpAny_pure ⟨_, rfl, hret a h' tk' out ys c k na ga hS hp hr⟩⟩
end Srt
section Rw
theorem rules_Rw_1 : True := by
  k_with_none
  k_with "exec If" => (refine wpAny_If ?_)
  trivial
noncomputable def menuL : List Int := [0, 10, 62, 251, 255]
/-- all rows that _law_row gives -/
noncomputable def allRows : List (List Int) := (menuL.map fun a => [a]) ++ (menuL.flatMap fun a => menuL.map fun b => [a, b]) ++ (menuL.flatMap fun a => menuL.flatMap fun b => menuL.map fun c => [a, b, c])
theorem menu_mem (i k : Int) (h0 : 0 ≤ i) (h5 : i < 5) : menuAt i k ∈ menuL := by
  have : i = 0 ∨ i = 1 ∨ i = 2 ∨ i = 3 ∨ i = 4 := by omega
  rcases this with rfl | rfl | rfl | rfl | rfl <;> simp [menuAt, menuL]
theorem menu_mod (a k : Int) : menuAt (a.fmod 5) k ∈ menuL := menu_mem _ _ (Int.fmod_nonneg_of_pos _ (by decide)) (Int.fmod_lt_of_pos _ (by decide))
theorem all1 {a : Int} (ha : a ∈ menuL) : [a] ∈ allRows := List.mem_append_left _ (List.mem_append_left _ (List.mem_map.mpr ⟨a, ha, rfl⟩))
theorem all2 {a b : Int} (ha : a ∈ menuL) (hb : b ∈ menuL) : [a, b] ∈ allRows := List.mem_append_left _ (List.mem_append_right _ (List.mem_flatMap.mpr ⟨a, ha, List.mem_map.mpr ⟨b, hb, rfl⟩⟩))
theorem all3 {a b c : Int} (ha : a ∈ menuL) (hb : b ∈ menuL) (hc : c ∈ menuL) : [a, b, c] ∈ allRows := List.mem_append_right _ (List.mem_flatMap.mpr ⟨a, ha, List.mem_flatMap.mpr ⟨b, hb, List.mem_map.mpr ⟨c, hc, rfl⟩⟩⟩)
theorem rowF_mem (x : Int) : rowF x ∈ allRows := by
  have h0 := Int.fmod_nonneg_of_pos x (b := 3) (by decide)
  have h3 := Int.fmod_lt_of_pos x (b := 3) (by decide)
  unfold rowF
  have : x.fmod 3 = 0 ∨ x.fmod 3 = 1 ∨ x.fmod 3 = 2 := by omega
  rcases this with e | e | e <;> rw [e]
  · exact all1 (menu_mod _ _)
  · exact all2 (menu_mod _ _) (menu_mod _ _)
  · exact all3 (menu_mod _ _) (menu_mod _ _) (menu_mod _ _)
theorem rows_all {P : List Int → Bool} (h : allRows.all P = true) {r : List Int} (hr : r ∈ allRows) : P r = true := List.all_eq_true.mp h r hr
theorem all_len {r : List Int} (hr : r ∈ allRows) : 1 ≤ r.length ∧ r.length ≤ 3 := by
  have := rows_all (P := fun r => decide (1 ≤ r.length ∧ r.length ≤ 3)) (by decide +kernel) hr
  exact of_decide_eq_true this
theorem all_oct {r : List Int} (hr : r ∈ allRows) : ∀ o ∈ r, 0 ≤ o ∧ o < 256 := by
  have := rows_all (P := fun r => decide (∀ o ∈ r, 0 ≤ o ∧ o < 256)) (by decide +kernel) hr
  exact of_decide_eq_true this
end Rw
section La
theorem rules_La_1 : True := by
  k_with_none
  k_with "exec If" => (refine wpAny_If ?_)
  trivial
noncomputable abbrev lawSc : Scope := by
  refine' (?g : ∀ l : Scope, sS (sA pB 53) = l → Scope) _ ?h
  case g => exact fun l _ => l
  all_goals try (conv => lhs; whnf)
noncomputable abbrev lawE (L : Addr) : Env := envOfC "law" lawSc L 312 (.ref 311)
noncomputable abbrev lw0 : Stmt := by
  refine' (?g : ∀ l : Stmt, sA lawS 0 = l → Stmt) _ ?h
  case g => exact fun l _ => l
  all_goals try (conv => lhs; whnf)
noncomputable def lcE (s : Stmt) : Expr := (eK ((sK s).1.headD e0)).1.headD e0
noncomputable def lcC (s : Stmt) : Scope := (eK ((sK s).1.headD e0)).2.1
noncomputable abbrev lw0E : Expr := by
  refine' (?g : ∀ l : Expr, lcE (sA lawS 0) = l → Expr) _ ?h
  case g => exact fun l _ => l
  all_goals try (conv => lhs; whnf)
noncomputable abbrev lw0C : Scope := by
  refine' (?g : ∀ l : Scope, lcC (sA lawS 0) = l → Scope) _ ?h
  case g => exact fun l _ => l
  all_goals try (conv => lhs; whnf)
noncomputable abbrev AL (fs : List Env) (gd : Option (List Code)) : Around := Around.mk none 310 (some fs) gd 310
noncomputable abbrev lsC (ys : List Value) (c : Nat) : Obj := { cls := .type "list", data := .seq ys.toArray c }
/-- lists of ints that stand in the ledger -/
noncomputable def RowsIn (S : List (Addr × Obj)) (vs : List Value) (rs : List (List Int)) : Prop := vs.length = rs.length ∧ ∀ (i : Nat) (r : List Int), rs[i]? = some r → ∃ D ys c, vs[i]? = some (Value.ref D) ∧ (D, lsC ys c) ∈ S ∧ IntsAre ys r
theorem RowsIn.nil {S : List (Addr × Obj)} : RowsIn S [] [] := ⟨rfl, fun i r e => nomatch e⟩
theorem RowsIn.mono {S S' : List (Addr × Obj)} {vs : List Value} {rs : List (List Int)} (h : RowsIn S vs rs) (k : ∀ p ∈ S, p ∈ S') : RowsIn S' vs rs :=
  ⟨h.1, fun i r e => let ⟨D, ys, n, a, b, c⟩ := h.2 i r e; ⟨D, ys, n, a, k _ b, c⟩⟩
theorem RowsIn.snoc {S : List (Addr × Obj)} {vs ys : List Value} {rs : List (List Int)} {D : Addr} {c : Nat} {r : List Int} (h : RowsIn S vs rs) (hm : (D, lsC ys c) ∈ S) (hi : IntsAre ys r) : RowsIn S (vs ++ [Value.ref D]) (rs ++ [r]) := by
  refine ⟨by rw [List.length_append, List.length_append, h.1]; rfl, fun i q e => ?_⟩
  by_cases hl : i < rs.length
  · rw [List.getElem?_append_left hl] at e
    rw [List.getElem?_append_left (h.1 ▸ hl)]
    exact h.2 i q e
  · rw [List.getElem?_append_right (Nat.le_of_not_lt hl)] at e
    have h0 : i - rs.length = 0 := by
      have := (List.getElem?_eq_some_iff.mp e).1
      rw [List.length_singleton] at this; omega
    rw [h0] at e
    cases e
    rw [List.getElem?_append_right (by have := h.1; omega), h.1, h0]
    exact ⟨D, ys, c, rfl, hm, hi⟩
theorem compEnd_more {h₀ h h' : Heap} {L I C D : Addr} {m : Str → Option Value} {s₁ : Shared} {oI oC oD : Obj} {S : List (Addr × Obj) → Prop} {rest : Value → List (Addr × Obj) → Prop} {y : Value} {tk : Nat} {news nw : List (Addr × Obj)}
    (F : Fr h₀ L h m) (N : News h₀ L h ((I, oI) :: (C, oC) :: (D, oD) :: news)) (off : LCg.Off3 I C D news) (k : ∀ b o, h.get? b = some o → h'.get? b = some o)
    (fresh : ∀ p ∈ nw, h.get? p.1 = none ∧ h'.get? p.1 = some p.2) (hS : S (nw ++ news)) (r : rest y (nw ++ news)) :
    LCg.CompEnd h₀ L m s₁ I oI C oC D oD S rest y { s₁ with heap := h', toks := tk } := by
  have ne : ∀ p ∈ nw, ∀ a o, h.get? a = some o → p.1 ≠ a := fun p hp a o e q => by
    have := (fresh p hp).1; rw [q, e] at this; cases this
  have gone : ∀ p ∈ nw, p.1 ≠ L ∧ h₀.get? p.1 = none := fun p hp => by
    constructor
    · obtain ⟨oL, es, ep, hL, _⟩ := F.ns
      exact ne p hp _ _ hL
    · cases q : h₀.get? p.1 with
      | none => rfl
      | some o => exact absurd rfl (ne p hp _ _ (F.keep _ _ q))
  refine ⟨h', tk, nw ++ news, rfl, fr_keep F k, fun p hp => ?_, LCg.Off3.of fun p hp => ?_, hS, r⟩
  · have old : ∀ p ∈ (I, oI) :: (C, oC) :: (D, oD) :: news, h'.get? p.1 = some p.2 ∧ p.1 ≠ L ∧ h₀.get? p.1 = none := fun p hp => ⟨k _ _ (N p hp).1, (N p hp).2⟩
    rcases List.mem_cons.mp hp with rfl | hp
    · exact old _ (.head _)
    rcases List.mem_cons.mp hp with rfl | hp
    · exact old _ (.tail _ (.head _))
    rcases List.mem_cons.mp hp with rfl | hp
    · exact old _ (.tail _ (.tail _ (.head _)))
    rcases List.mem_append.mp hp with hp | hp
    · exact ⟨(fresh p hp).2, gone p hp⟩
    · exact old _ (.tail _ (.tail _ (.tail _ hp)))
  · rcases List.mem_append.mp hp with hp | hp
    · exact ⟨ne p hp _ _ (N _ (.head _)).1, ne p hp _ _ (N _ (.tail _ (.head _))).1, ne p hp _ _ (N _ (.tail _ (.tail _ (.head _)))).1⟩
    · exact off.mem p hp
set_option pp.maxSteps 6000
section
theorem rules_La_2 : True := by
  k_with_none
  k_with "exec If" => (refine wpAny_If ?_)
  k_with "exec Assign cons ListComp" => ((k_here; k_dflt (refine LCg.Assign_ListComp_U (F₀ := by k_asm) (by rfl) (by with_unfolding_all rfl) (by rfl) (by decide) (by rfl) (by decide) (by rfl) (by rfl) (by rfl) ?_)))
  k_with "CompSrc" => (refine Halt.out ?_)
  k_with "eval Name" => ((k_here; k_dflt (refine' ldE ?k1 ?k2 ?_ (by rfl) (by rfl) (by decide); (case k1 => k_asm); (case k2 => ((repeat (first | with_reducible assumption | (with_reducible exact upd_here) | (with_reducible apply upd_there; (focus (decide))))); done)); k_whole)))
  k_with "call ref" => ((k_here; (with_reducible show wpAny _ _ (call (Value.ref 287) [Value.int _ _]) _ _ _); k_dflt (refine' row_spec (Rdy.of_walk ?B ?F ?X ?T rfl rfl (Nat.le_of_ble_eq_true rfl) (Nat.le_of_ble_eq_true rfl) rfl) _ _ ?_; (case F => k_asm); (case B => k_asm); (case X => k_asm); (case T => k_asm); k_whole)))
  trivial
theorem law0_src {w : World} {s : Shared} {g : Heap} {base : Heap} {fs : List Env} {gd : Option (List Code)} {L : Addr} {m : Str → Option Value} {news : List (Addr × Obj)} {p : Program} {loose : List Str} {mean : ExcName → Option Value} {mg mb : Str → Option Value}
    (B : Below (AL fs gd) base fs g) (X : (KF w.params).In g) (T : Top p loose mean mg mb g) (S0 : List (Addr × Obj) → Prop) (Fin : List Value → List (Addr × Obj) → Prop)
    (vs : List Value) (ns : List Int) (hi : IntsAre vs ns) (hS : ∀ pre, S0 (pre ++ news)) (fin : ∀ pre ys, RowsIn pre ys (ns.map rowF) → Fin ys (pre ++ news)) :
    LCg.CompRest Challenge.rw_qh0024_01.row.prog w ((AL fs gd).deeper (lawE L)) g L m (lawE L) lw0E "x" lw0C [] s S0 (fun i v => vs.toArray[i]? = some v) Fin vs.toArray.size 0 [] news := by
  revert X; k_fill; intro X
  unfold lw0E lw0C
  refine comp_ind (Γ := fun i ys nw => ∃ pre, nw = pre ++ news ∧ RowsIn pre ys ((ns.take i).map rowF)) ?T ?fin _ 0 [] _ (Nat.zero_add _) ⟨[], rfl, .nil⟩
  case T =>
    intro s0 i ys nw v I oI C oC D m₂ h tk E' hin hP hΓ hC hx F N off ne
    obtain ⟨pre, rfl, hR⟩ := hΓ
    obtain ⟨o, t, rfl, ho⟩ := IntsAre.at hi _ _ (by simpa using hP)
    have hS2 := fun q => hS (q :: pre)
    generalize hN : pre ++ news = nn at N off
    k_steps
    rename_i D9 ys9 h9 tk9 hk9 hn9 hs9 hi9
    subst hN
    refine compEnd_more (nw := [(D9, LCg.lst ys9)]) F N off hk9 (fun p hp => by rw [List.mem_singleton.mp hp]; exact ⟨hn9, hs9⟩) (hS2 _) ⟨(D9, LCg.lst ys9) :: pre, rfl, ?_⟩
    rw [take_snoc ho, List.map_append]
    exact (hR.mono fun p hp => .tail _ hp).snoc (.head _) hi9
  case fin =>
    rintro ys nw ⟨pre, rfl, hR⟩
    rw [List.size_toArray, IntsAre.length hi, List.take_length] at hR
    exact fin pre ys hR
theorem law0 {w : World} {s : Shared} {Q : Flow → Shared → Prop} {E : Value → Shared → Prop} {g : Heap} {base : Heap} {fs : List Env} {gd : Option (List Code)} {L : Addr} {m : Str → Option Value} {news : List (Addr × Obj)} {p : Program} {loose : List Str} {mean : ExcName → Option Value} {mg mb : Str → Option Value}
    (B : Below (AL fs gd) base fs g) (X : (KF w.params).In g) (T : Top p loose mean mg mb g) (F : Fr g L s.heap m) (N : News g L s.heap news)
    (l : Addr) (vs : List Value) (ns : List Int) (hl : g.IsList l vs.toArray) (hi : IntsAre vs ns) (hm : m "script" = some (.ref l)) (hlen : ns.length ≤ 63)
    (hret : ∀ D ys nw h' tk, Fr g L h' (upd m "rows" (.ref D)) → News g L h' ((D, LCg.lst ys) :: nw ++ news) → RowsIn nw ys ((ns.take 5 ++ [35, 11, 96, 62, 8]).map rowF) → Q .next { s with heap := h', toks := tk }) :
    wpAny (MM w) ((AL fs gd).deeper (lawE L)) (exec lw0 (lawE L)) Q E s := by
  rcases s with ⟨hp, gs, dr, tk0, os⟩
  dsimp only at F N hret
  dsimp only [MM]; revert X; k_fill; intro X
  unfold lw0
  k_steps
  unfold Halt
  (with_reducible rename Fr _ _ _ _ => F1)
  (with_reducible rename News _ _ _ _ => N1)
  (with_reducible rename IntsAre _ (_ ++ _) => hi1)
  refine LCg.CompSrc.ledger (by rfl) F1 N1 (.head _) ?_ ?_
  · rw [List.size_toArray, IntsAre.length hi1, List.length_append, List.length_take, sizeLine_eq]; show min 5 ns.length + 5 ≤ _; omega
  intro g'
  refine law0_src B X T _ _ _ _ hi1 (fun pre => .inr ⟨_, List.mem_append_right _ (.head _), rfl, _, rfl⟩) fun pre ys hR D h tk F2 N2 _ => ?_
  refine hret D ys pre h tk F2 (fun q hq => N2 q ?_) hR
  rcases List.mem_cons.mp hq with rfl | hq
  · exact .head _
  rcases List.mem_append.mp hq with hq | hq
  · exact .tail _ (List.mem_append_left _ hq)
  · exact .tail _ (List.mem_append_right _ (.tail _ (.tail _ (.tail _ hq))))
end
end La
section Lb
section
theorem rules_Lb_1 : True := by
  k_with_none
  k_with "exec If" => (refine wpAny_If ?_)
  trivial
noncomputable abbrev lw1 : Stmt := by
  refine' (?g : ∀ l : Stmt, sA lawS 1 = l → Stmt) _ ?h
  case g => exact fun l _ => l
  all_goals try (conv => lhs; whnf)
noncomputable abbrev lw1E : Expr := by
  refine' (?g : ∀ l : Expr, lcE (sA lawS 1) = l → Expr) _ ?h
  case g => exact fun l _ => l
  all_goals try (conv => lhs; whnf)
noncomputable abbrev lw1C : Scope := by
  refine' (?g : ∀ l : Scope, lcC (sA lawS 1) = l → Scope) _ ?h
  case g => exact fun l _ => l
  all_goals try (conv => lhs; whnf)
noncomputable abbrev OffA (a : Addr) (S : List (Addr × Obj)) : Prop := ∀ p ∈ S, p.1 ≠ a
/-- a code's table in the ledger, with the code that it tells -/
noncomputable def TabL (P : Addr) (line col : Int) (q : Str) (ps : Array Value) (pre : List (Addr × Obj)) : Prop :=
  (ps = #[] ∧ pre = []) ∨ ∃ c' oc vs t, ps = #[rawInt line, rawInt col, .ref c'] ∧ pre = [(c', oc)] ∧ oc.data = .fields vs ∧ vs[1]? = some (.str q t) ∧ c' ≠ P
theorem TabL.tab {P L : Addr} {line col : Int} {q : Str} {ps : Array Value} {pre S : List (Addr × Obj)} {g h : Heap} (x : TabL P line col q ps pre) (N : News g L h S) (hp : (P, tabObj ps) ∈ S) (hs : ∀ p ∈ pre, p ∈ S) : TabS P line col q h := by
  rcases x with ⟨rfl, rfl⟩ | ⟨c', oc, vs, t, rfl, rfl, hd, hv, hne⟩
  · exact .inl (N _ hp).1
  · exact .inr ⟨c', (N _ hp).1, codeRec_news N (hs _ (.head _)) hd hv, hne⟩
/-- the end of a turn in which a code's table may have grown -/
theorem compEnd_tab {h₀ h h' : Heap} {L I C D P : Addr} {m : Str → Option Value} {s₁ : Shared} {oI oC oD : Obj} {S : List (Addr × Obj) → Prop} {rest : Value → List (Addr × Obj) → Prop} {y : Value} {tk : Nat} {news pre : List (Addr × Obj)} {ps : Array Value} {line col : Int} {q : Str}
    (F : Fr h₀ L h m) (N : News h₀ L h ((I, oI) :: (C, oC) :: (D, oD) :: (pre ++ (P, tabObj ps) :: news))) (off : LCg.Off3 I C D (pre ++ (P, tabObj ps) :: news)) (hP : OffA P news) (x : TabL P line col q ps pre)
    (k : ∀ b o, b ≠ P → h.get? b = some o → h'.get? b = some o) (G : TabG P line col q h h')
    (hS : ∀ pre ps, S (pre ++ (P, tabObj ps) :: news)) (r : ∀ ps' pre', TabL P line col q ps' pre' → rest y (pre' ++ (P, tabObj ps') :: news)) :
    LCg.CompEnd h₀ L m s₁ I oI C oC D oD S rest y { s₁ with heap := h', toks := tk } := by
  have hPm : (P, tabObj ps) ∈ (I, oI) :: (C, oC) :: (D, oD) :: (pre ++ (P, tabObj ps) :: news) := .tail _ (.tail _ (.tail _ (List.mem_append_right _ (.head _))))
  have hPg := N _ hPm
  have oP := off.mem _ (List.mem_append_right _ (.head _))
  have F' : Fr h₀ L h' m := LCg.fr_but F (fun b o hb e => k b o (fun q => hb (List.mem_singleton.mpr q)) e) (Ne.symm hPg.2.1) hPg.2.2
  have old : ∀ p ∈ (I, oI) :: (C, oC) :: (D, oD) :: (pre ++ (P, tabObj ps) :: news), p.1 ≠ P → h'.get? p.1 = some p.2 ∧ p.1 ≠ L ∧ h₀.get? p.1 = none := fun p hp hn => ⟨k _ _ hn (N p hp).1, (N p hp).2⟩
  have fin : ∀ ps' pre', h'.get? P = some (tabObj ps') → (∀ p ∈ pre', h'.get? p.1 = some p.2 ∧ p.1 ≠ L ∧ h₀.get? p.1 = none) → LCg.Off3 I C D pre' → TabL P line col q ps' pre' →
      LCg.CompEnd h₀ L m s₁ I oI C oC D oD S rest y { s₁ with heap := h', toks := tk } := fun ps' pre' e hpre hoff hx => by
    refine ⟨h', tk, pre' ++ (P, tabObj ps') :: news, rfl, F', fun p hp => ?_, LCg.Off3.of fun p hp => ?_, hS _ _, r _ _ hx⟩
    · rcases List.mem_cons.mp hp with rfl | hp
      · exact old _ (.head _) (Ne.symm oP.1)
      rcases List.mem_cons.mp hp with rfl | hp
      · exact old _ (.tail _ (.head _)) (Ne.symm oP.2.1)
      rcases List.mem_cons.mp hp with rfl | hp
      · exact old _ (.tail _ (.tail _ (.head _))) (Ne.symm oP.2.2)
      rcases List.mem_append.mp hp with hp | hp
      · exact hpre p hp
      rcases List.mem_cons.mp hp with rfl | hp
      · exact ⟨e, hPg.2⟩
      · exact old _ (.tail _ (.tail _ (.tail _ (List.mem_append_right _ (.tail _ hp))))) (hP p hp)
    · rcases List.mem_append.mp hp with hp | hp
      · exact hoff.mem p hp
      rcases List.mem_cons.mp hp with rfl | hp
      · exact oP
      · exact off.mem p (List.mem_append_right _ (.tail _ hp))
  rcases G with ⟨ps₁, e1, e2⟩ | ⟨e1, c', oc, vs, t, g1, g2, g3, g4, g5⟩
  · rw [hPg.1] at e1
    have e3 : tabObj ps = tabObj ps₁ := Option.some.inj e1
    refine fin ps pre (e3 ▸ e2) (fun p hp => old p (.tail _ (.tail _ (.tail _ (List.mem_append_left _ hp)))) ?_) (LCg.Off3.of fun p hp => off.mem p (List.mem_append_left _ hp)) x
    rcases x with ⟨_, rfl⟩ | ⟨_, _, _, _, _, rfl, _, _, hn⟩
    · cases hp
    · rw [List.mem_singleton.mp hp]; exact hn
  · have ne : ∀ a o, h.get? a = some o → c' ≠ a := fun a o e q => by rw [q, e] at g1; cases g1
    refine fin _ [(c', oc)] g5 (fun p hp => ?_) (LCg.Off3.of fun p hp => ?_) (.inr ⟨c', oc, vs, t, rfl, rfl, g3, g4, ne _ _ hPg.1⟩)
    · rw [List.mem_singleton.mp hp]
      refine ⟨g2, ?_, ?_⟩
      · obtain ⟨oL, es, ep, hL, _⟩ := F.ns
        exact ne _ _ hL
      · cases q : h₀.get? c' with
        | none => rfl
        | some o => exact absurd rfl (ne _ _ (F.keep _ _ q))
    · rw [List.mem_singleton.mp hp]
      exact ⟨ne _ _ (N _ (.head _)).1, ne _ _ (N _ (.tail _ (.head _))).1, ne _ _ (N _ (.tail _ (.tail _ (.head _)))).1⟩
end
section
set_option pp.maxSteps 6000
theorem rules_Lb_2 : True := by
  k_with_none
  k_with "exec If" => (refine wpAny_If ?_)
  k_with "exec Assign cons ListComp" => ((k_here; k_dflt (refine LCg.Assign_ListComp_U (F₀ := by k_asm) (by rfl) (by with_unfolding_all rfl) (by rfl) (by decide) (by rfl) (by decide) (by rfl) (by rfl) (by rfl) ?_)))
  k_with "CompSrc" => (refine Halt.out ?_)
  k_with "eval Name" => ((k_here; k_dflt (refine' ldE ?k1 ?k2 ?_ (by rfl) (by rfl) (by decide); (case k1 => k_asm); (case k2 => ((repeat (first | with_reducible assumption | (with_reducible exact upd_here) | (with_reducible apply upd_there; (focus (decide))))); done)); k_whole)))
  k_with "call ref" => ((k_here; (with_reducible show wpAny _ _ (call (Value.ref 292) [Value.ref _]) _ _ _); refine Halt.out ?_))
  trivial
noncomputable abbrev lamQ : Str := "_law_module.<locals>.<lambda>"
theorem law1_src {w : World} {s : Shared} {g : Heap} {base : Heap} {fs : List Env} {gd : Option (List Code)} {L : Addr} {m : Str → Option Value} {news : List (Addr × Obj)} {p : Program} {loose : List Str} {mean : ExcName → Option Value} {mg mb : Str → Option Value}
    (B : Below (AL fs gd) base fs g) (X : (KF w.params).In g) (T : Top p loose mean mg mb g) (S0 : List (Addr × Obj) → Prop) (Fin : List Value → List (Addr × Obj) → Prop)
    (vs : List Value) (rs : List (List Int)) (hr : RowsIn news vs rs) (ha : ∀ r ∈ rs, r ∈ allRows) (hoff : OffA 289 news) (hS : ∀ pre ps, S0 (pre ++ (289, tabObj ps) :: news))
    (fin : ∀ pre ps ys, TabL 289 368 18 lamQ ps pre → StrsAre ys (rs.map modF) → Fin ys (pre ++ (289, tabObj ps) :: news)) :
    LCg.CompRest Challenge.rw_qh0024_01.row.prog w ((AL fs gd).deeper (lawE L)) g L m (lawE L) lw1E "row" lw1C [] s S0 (fun i v => vs.toArray[i]? = some v) Fin vs.toArray.size 0 [] ((289, tabObj #[]) :: news) := by
  revert X; k_fill; intro X
  unfold lw1E lw1C
  refine comp_ind (Γ := fun i ys nw => ∃ pre ps, nw = pre ++ (289, tabObj ps) :: news ∧ TabL 289 368 18 lamQ ps pre ∧ StrsAre ys ((rs.take i).map modF)) ?T ?fin _ 0 [] _ (Nat.zero_add _) ⟨[], _, rfl, .inl ⟨rfl, rfl⟩, .nil⟩
  case T =>
    intro s0 i ys nw v I oI C oC D m₂ h tk E' hin hP hΓ hC hx F N off ne
    obtain ⟨pre, ps, rfl, hx1, hR⟩ := hΓ
    replace hP : vs[i]? = some v := by simpa using hP
    obtain ⟨r, hri⟩ : ∃ r, rs[i]? = some r := by
      have := (List.getElem?_eq_some_iff.mp hP).1
      exact ⟨_, List.getElem?_eq_getElem (hr.1 ▸ this)⟩
    obtain ⟨Dr, yr, cr, hv, hm, hi⟩ := hr.2 i r hri
    rw [hP] at hv
    obtain rfl := Option.some.inj hv
    have har := ha r (List.mem_of_getElem? hri)
    have hl := News.isList N (.tail _ (.tail _ (.tail _ (List.mem_append_right _ (.tail _ hm)))))
    have ht := hx1.tab N (.tail _ (.tail _ (.tail _ (List.mem_append_right _ (.head _))))) (fun p hp => .tail _ (.tail _ (.tail _ (List.mem_append_left _ hp))))
    generalize hN : pre ++ (289, tabObj ps) :: news = nn at N off
    k_steps
    unfold Halt
    refine mod_spec (Rdy.of_walk B F X T rfl rfl (Nat.le_of_ble_eq_true rfl) (Nat.le_of_ble_eq_true rfl) rfl) _ _ _ hl hi (all_oct har) (all_len har).1 (all_len har).2 ht fun t h' tk' hk hG => ?_
    subst hN
    refine compEnd_tab F N off hoff hx1 hk hG hS fun ps' pre' hx' => ⟨pre', ps', rfl, hx', ?_⟩
    rw [take_snoc hri, List.map_append]
    exact StrsAre.append' hR (.cons _ _ .nil)
  case fin =>
    rintro ys nw ⟨pre, ps, rfl, hx1, hR⟩
    rw [List.size_toArray, hr.1, List.take_length] at hR
    exact fin pre ps ys hx1 hR
theorem law1 {w : World} {s : Shared} {Q : Flow → Shared → Prop} {E : Value → Shared → Prop} {g : Heap} {base : Heap} {fs : List Env} {gd : Option (List Code)} {L : Addr} {m : Str → Option Value} {news : List (Addr × Obj)} {p : Program} {loose : List Str} {mean : ExcName → Option Value} {mg mb : Str → Option Value}
    (B : Below (AL fs gd) base fs g) (X : (KF w.params).In g) (T : Top p loose mean mg mb g) (F : Fr g L s.heap m) (N : News g L s.heap ((289, tabObj #[]) :: news))
    (l : Addr) (vs : List Value) (rs : List (List Int)) (hm : m "rows" = some (.ref l)) (hl : (l, LCg.lst vs) ∈ news) (hr : RowsIn news vs rs) (ha : ∀ r ∈ rs, r ∈ allRows) (hoff : OffA 289 news) (hlen : rs.length ≤ 10)
    (hret : ∀ D ys ps pre h' tk, Fr g L h' (upd m "modules" (.ref D)) → News g L h' ((D, LCg.lst ys) :: (pre ++ (289, tabObj ps) :: news)) → TabL 289 368 18 lamQ ps pre → StrsAre ys (rs.map modF) → Q .next { s with heap := h', toks := tk }) :
    wpAny (MM w) ((AL fs gd).deeper (lawE L)) (exec lw1 (lawE L)) Q E s := by
  rcases s with ⟨hp, gs, dr, tk0, os⟩
  dsimp only at F N hret
  dsimp only [MM]; revert X; k_fill; intro X
  unfold lw1
  k_steps
  unfold Halt
  refine LCg.CompSrc.ledger (by rfl) F N (.tail _ hl) ?_ ?_
  · rw [List.size_toArray, hr.1, sizeLine_eq]; omega
  intro g'
  refine law1_src B X T _ _ _ _ hr ha hoff (fun pre ps => .inr ⟨_, List.mem_append_right _ (.tail _ hl), rfl, _, rfl⟩) fun pre ps ys hx hR D h tk F2 N2 _ => ?_
  exact hret D ys ps pre h tk F2 N2 hx hR
end
end Lb
section Lc
section
theorem rules_Lc_1 : True := by
  k_with_none
  k_with "exec If" => (refine wpAny_If ?_)
  trivial
noncomputable abbrev lw2 : Stmt := by
  refine' (?g : ∀ l : Stmt, sA lawS 2 = l → Stmt) _ ?h
  case g => exact fun l _ => l
  all_goals try (conv => lhs; whnf)
/-- the list comprehension a comparison's right side is -/
noncomputable def cmpR (s : Expr) : Expr := (eK s).1.getD 1 e0
noncomputable def lcEe (s : Expr) : Expr := (eK s).1.headD e0
noncomputable def lcCe (s : Expr) : Scope := (eK s).2.1
noncomputable abbrev lw2C : Scope := by
  refine' (?g : ∀ l : Scope, lcCe (cmpR (ifE (sA lawS 2))) = l → Scope) _ ?h
  case g => exact fun l _ => l
  all_goals try (conv => lhs; whnf)
end
theorem plain_ok {r : List Int} (hr : r ∈ allRows) : PyData.strOk (plainF r) = true := rows_all (P := fun r => PyData.strOk (plainF r)) (by decide +kernel) hr
theorem mod_plain {r : List Int} (hr : r ∈ allRows) : modF r = plainF r := by
  have := rows_all (P := fun r => decide (modF r = plainF r)) (by decide +kernel) hr
  exact of_decide_eq_true this
section
open PyProof.V
noncomputable def TxOk (ns : List Str) : Prop := ∀ x ∈ ns, PyData.strOk x = true
theorem tx_lay : ∀ ns : List Str, TxOk ns → PyData.canLayAll0 (ns.map PyData.str) = true
  | [], _ => rfl
  | a :: r, h => by simp [PyData.canLayAll0, PyData.canLay0, tx_lay r (fun x hx => h x (.tail _ hx)), h a (.head _)]
theorem tx_depth : ∀ ns : List Str, PyData.depthAll (ns.map PyData.str) = 0
  | [] => rfl
  | _ :: r => by simp [PyData.depthAll, PyData.depth, tx_depth r]
theorem tx_shaped (ns : List Str) (h : TxOk ns) : SeqAt.shaped (.list (ns.map PyData.str)) = true := by
  simp [SeqAt.shaped, PyData.canLay0, PyData.depth, tx_lay ns h, tx_depth]
theorem tx_all : ∀ ns ms : List Str, PySem.Spec.sameAll (ns.map PyData.str) (ms.map PyData.str) = decide (ns = ms)
  | [], [] => by simp [PySem.Spec.sameAll]
  | [], _ :: _ => by simp [PySem.Spec.sameAll]
  | _ :: _, [] => by simp [PySem.Spec.sameAll]
  | a :: r, b :: t => by
    simp only [List.map_cons, PySem.Spec.sameAll, PySem.Spec.same, tx_all r t]
    by_cases h : a = b <;> by_cases h' : r = t <;> simp [h, h']
theorem tx_same (ns ms : List Str) : PySem.Spec.same (.list (ns.map PyData.str)) (.list (ms.map PyData.str)) = decide (ns = ms) := by
  simp only [PySem.Spec.same]; exact tx_all ns ms
theorem tx_carried : ∀ {vs : List Value} {ns : List Str}, StrsAre vs ns → CarriedAll vs (ns.map PyData.str)
  | _, _, .nil => .nil
  | _, _, .cons _ t r => .cons (.str _ t) (tx_carried r)
variable {prog : Program} {w : World} {A : Around} {E : Value → Shared → Prop} {s : Shared} {a b : Addr} {xs ys : List Value} {ns ms : List Str} {Q : Value → Shared → Prop}
theorem eq_texts (ha : s.heap.IsList a xs.toArray) (hb : s.heap.IsList b ys.toArray) (hi : StrsAre xs ns) (hj : StrsAre ys ms) (o1 : TxOk ns) (o2 : TxOk ms) (hu : A.units + 64 < cLine) (h : Q (.bool (decide (ns = ms))) s) :
    wpAny (model prog w) A (compareOp .Eq (.ref a) (.ref b)) Q E s :=
  eq_dataH_same (reads_newData ha (tx_carried hi)) (reads_newData hb (tx_carried hj)) (tx_shaped _ o1) (tx_shaped _ o2) hu (SeqAt.noMix_of_shape (.list .str) rfl _ _ (list_map_has fun _ => rfl) (list_map_has fun _ => rfl)) (by rw [tx_same]; exact h)
theorem ne_texts (ha : s.heap.IsList a xs.toArray) (hb : s.heap.IsList b ys.toArray) (hi : StrsAre xs ns) (hj : StrsAre ys ms) (o1 : TxOk ns) (o2 : TxOk ms) (hu : A.units + 64 < cLine) (h : Q (.bool (!decide (ns = ms))) s) :
    wpAny (model prog w) A (compareOp .NotEq (.ref a) (.ref b)) Q E s :=
  ne_dataH_same (reads_newData ha (tx_carried hi)) (reads_newData hb (tx_carried hj)) (tx_shaped _ o1) (tx_shaped _ o2) hu (SeqAt.noMix_of_shape (.list .str) rfl _ _ (list_map_has fun _ => rfl) (list_map_has fun _ => rfl)) (by rw [tx_same]; exact h)
end
section
set_option pp.maxSteps 6000
theorem rules_Lc_2 : True := by
  k_with_none
  k_with "exec If" => (refine wpAny_If ?_)
  k_with "eval ListComp" => ((k_here; k_dflt (refine LCg.ListComp_U (F₀ := by k_asm) (by first | rfl | with_unfolding_all rfl) (by decide) (by rfl) (by decide) (by rfl) ?_)))
  k_with "CompSrc" => (refine Halt.out ?_)
  k_with "eval Name" => ((k_here; k_dflt (refine' ldE ?k1 ?k2 ?_ (by rfl) (by rfl) (by decide); (case k1 => k_asm); (case k2 => ((repeat (first | with_reducible assumption | (with_reducible exact upd_here) | (with_reducible apply upd_there; (focus (decide))))); done)); k_whole)))
  k_with "call ref" => ((k_here; (with_reducible show wpAny _ _ (call (Value.ref 297) [Value.ref _]) _ _ _); refine Halt.out ?_))
  trivial
theorem law2_src {w : World} {s : Shared} {g : Heap} {base : Heap} {fs : List Env} {gd : Option (List Code)} {L : Addr} {m : Str → Option Value} {news : List (Addr × Obj)} {p : Program} {loose : List Str} {mean : ExcName → Option Value} {mg mb : Str → Option Value} {p1 p2 p3 : Pos}
    (B : Below (AL fs gd) base fs g) (X : (KF w.params).In g) (T : Top p loose mean mg mb g) (S0 : List (Addr × Obj) → Prop) (Fin : List Value → List (Addr × Obj) → Prop)
    (vs : List Value) (rs : List (List Int)) (hr : RowsIn news vs rs) (ha : ∀ r ∈ rs, r ∈ allRows) (hS : S0 news)
    (fin : ∀ ys, StrsAre ys (rs.map plainF) → Fin ys news) :
    LCg.CompRest Challenge.rw_qh0024_01.row.prog w ((AL fs gd).deeper (lawE L)) g L m (lawE L) (.Call (.Name "_law_plain" p1) [.Name "row" p2] [] p3) "row" lw2C [] s S0 (fun i v => vs.toArray[i]? = some v) Fin vs.toArray.size 0 [] news := by
  revert X; k_fill; intro X
  unfold lw2C
  refine comp_ind (Γ := fun i ys nw => nw = news ∧ StrsAre ys ((rs.take i).map plainF)) ?T ?fin _ 0 [] _ (Nat.zero_add _) ⟨rfl, .nil⟩
  case T =>
    intro s0 i ys nw v I oI C oC D m₂ h tk E' hin hP hΓ hC hx F N off ne
    obtain ⟨rfl, hR⟩ := hΓ
    replace hP : vs[i]? = some v := by simpa using hP
    obtain ⟨r, hri⟩ : ∃ r, rs[i]? = some r := by
      have := (List.getElem?_eq_some_iff.mp hP).1
      exact ⟨_, List.getElem?_eq_getElem (hr.1 ▸ this)⟩
    obtain ⟨Dr, yr, cr, hv, hm, hi⟩ := hr.2 i r hri
    rw [hP] at hv
    obtain rfl := Option.some.inj hv
    have har := ha r (List.mem_of_getElem? hri)
    have hl := News.isList N (.tail _ (.tail _ (.tail _ hm)))
    k_steps
    unfold Halt
    refine plain_spec (Rdy.of_walk B F X T rfl rfl (Nat.le_of_ble_eq_true rfl) (Nat.le_of_ble_eq_true rfl) rfl) _ _ _ hl hi (all_oct har) (all_len har).2 fun t h' tk' hk => ?_
    refine compEnd_same (fr_keep F hk) (news_keep N hk) off hS ⟨rfl, ?_⟩
    rw [take_snoc hri, List.map_append]
    exact StrsAre.append' hR (.cons _ _ .nil)
  case fin =>
    rintro ys nw ⟨rfl, hR⟩
    rw [List.size_toArray, hr.1, List.take_length] at hR
    exact fin ys hR
theorem law2 {w : World} {s : Shared} {Q : Flow → Shared → Prop} {E : Value → Shared → Prop} {g : Heap} {base : Heap} {fs : List Env} {gd : Option (List Code)} {L : Addr} {m : Str → Option Value} {news : List (Addr × Obj)} {p : Program} {loose : List Str} {mean : ExcName → Option Value} {mg mb : Str → Option Value}
    (B : Below (AL fs gd) base fs g) (X : (KF w.params).In g) (T : Top p loose mean mg mb g) (F : Fr g L s.heap m) (N : News g L s.heap news)
    (l lm : Addr) (vs ms : List Value) (rs : List (List Int)) (hm : m "rows" = some (.ref l)) (hl : (l, LCg.lst vs) ∈ news) (hmm : m "modules" = some (.ref lm)) (hlm : (lm, LCg.lst ms) ∈ news) (hms : StrsAre ms (rs.map plainF)) (hr : RowsIn news vs rs) (ha : ∀ r ∈ rs, r ∈ allRows) (hlen : rs.length ≤ 10)
    (hret : ∀ h' tk, Fr g L h' m → News g L h' news → Q .next { s with heap := h', toks := tk }) :
    wpAny (MM w) ((AL fs gd).deeper (lawE L)) (exec lw2 (lawE L)) Q E s := by
  rcases s with ⟨hp, gs, dr, tk0, os⟩
  dsimp only at F N hret
  dsimp only [MM]; revert X; k_fill; intro X
  unfold lw2
  k_steps
  unfold Halt
  refine LCg.CompSrc.ledger (by rfl) F N hl ?_ ?_
  · rw [List.size_toArray, hr.1, sizeLine_eq]; omega
  intro g'
  refine law2_src B X T _ _ _ _ hr ha (.inr ⟨_, hl, rfl, _, rfl⟩) fun ys hR D h tk F2 N2 _ => ?_
  dsimp only
  have hok : TxOk (rs.map plainF) := fun x hx => by
    obtain ⟨r, hr1, rfl⟩ := List.mem_map.mp hx
    exact plain_ok (ha r hr1)
  refine ne_texts (News.isList N2 (.tail _ hlm)) (News.isList N2 (.head _)) hms hR hok hok (Nat.le_of_ble_eq_true rfl) ?_
  rw [decide_eq_true rfl]
  k_steps
  exact hret _ _ F2 (news_tail N2)
end
end Lc
section Ld
section
theorem rules_Ld_1 : True := by
  k_with_none
  k_with "exec If" => (refine wpAny_If ?_)
  trivial
noncomputable abbrev lw3 : Stmt := by
  refine' (?g : ∀ l : Stmt, sA lawS 3 = l → Stmt) _ ?h
  case g => exact fun l _ => l
  all_goals try (conv => lhs; whnf)
noncomputable def binL (s : Expr) : Expr := (eK s).1.headD e0
noncomputable def subV (s : Expr) : Expr := (eK s).1.headD e0
noncomputable def asgV (s : Stmt) : Expr := (sK s).1.headD e0
noncomputable abbrev lw3C : Scope := by
  refine' (?g : ∀ l : Scope, lcCe (subV (binL (asgV (sA lawS 3)))) = l → Scope) _ ?h
  case g => exact fun l _ => l
  all_goals try (conv => lhs; whnf)
/-- a slice of a list -/
noncomputable def pickL {α : Type} (l : List α) (lo hi st : Option Int) : List α :=
  (sliceRange (sliceBounds lo hi st l.length).1 (sliceBounds lo hi st l.length).2.1 (sliceBounds lo hi st l.length).2.2).filterMap (l[·]?)
theorem pick_toList (vs : List Value) (lo hi st : Option Int) : (slicePick vs.toArray lo hi st).toList = pickL vs lo hi st := by
  simp [slicePick, pickL]
theorem RowsIn.cons {S : List (Addr × Obj)} {vs ys : List Value} {rs : List (List Int)} {D : Addr} {c : Nat} {r : List Int} (hm : (D, lsC ys c) ∈ S) (hi : IntsAre ys r) (h : RowsIn S vs rs) : RowsIn S (Value.ref D :: vs) (r :: rs) := by
  refine ⟨by rw [List.length_cons, List.length_cons, h.1], fun i q e => ?_⟩
  cases i with
  | zero => cases e; exact ⟨D, ys, c, rfl, hm, hi⟩
  | succ i => exact h.2 i q e
theorem RowsIn.places {S : List (Addr × Obj)} {vs : List Value} {rs : List (List Int)} (h : RowsIn S vs rs) : ∀ js : List Nat, RowsIn S (js.filterMap (vs[·]?)) (js.filterMap (rs[·]?))
  | [] => .nil
  | j :: js => by
    have ih := RowsIn.places h js
    cases hn : rs[j]? with
    | some r =>
      obtain ⟨D, ys, c, hv, hm, hi⟩ := h.2 j r hn
      simp only [List.filterMap_cons, hn, hv]
      exact ih.cons hm hi
    | none =>
      have hv : vs[j]? = none := by
        rw [List.getElem?_eq_none_iff] at hn ⊢
        rw [h.1]; exact hn
      simp only [List.filterMap_cons, hn, hv]
      exact ih
theorem RowsIn.pick {S : List (Addr × Obj)} {vs : List Value} {rs : List (List Int)} (h : RowsIn S vs rs) (lo hi st : Option Int) : RowsIn S (pickL vs lo hi st) (pickL rs lo hi st) := by
  unfold pickL
  rw [h.1]
  exact h.places _
theorem pick_le {α : Type} (l : List α) (lo hi st : Option Int) : (pickL l lo hi st).length ≤ l.length := by
  have h := slicePick_size_le (l.map fun _ => Value.none).toArray lo hi st
  rw [← Array.length_toList, pick_toList, List.size_toArray, List.length_map] at h
  have h2 : (pickL (l.map fun _ => Value.none) lo hi st).length = (pickL l lo hi st).length := by
    unfold pickL
    rw [List.length_map]
    generalize sliceRange _ _ _ = js
    induction js with
    | nil => rfl
    | cons j js ih =>
      rw [List.filterMap_cons, List.filterMap_cons, List.getElem?_map]
      cases l[j]? with
      | none => exact ih
      | some a => exact congrArg (· + 1) ih
  rw [← h2]
  exact h
theorem pick_mem {α : Type} {l : List α} {lo hi st : Option Int} {a : α} (h : a ∈ pickL l lo hi st) : a ∈ l := by
  obtain ⟨i, _, e⟩ := List.mem_filterMap.mp h
  exact List.mem_of_getElem? e
theorem compEnd_k {h₀ h' : Heap} {L I C D D9 : Addr} {m : Str → Option Value} {s₁ : Shared} {oI oC oD o9 : Obj} {S : List (Addr × Obj) → Prop} {rest : Value → List (Addr × Obj) → Prop} {y : Value} {tk : Nat} {news : List (Addr × Obj)}
    (F : Fr h₀ L h' m) (N : News h₀ L h' ((D9, o9) :: (I, oI) :: (C, oC) :: (D, oD) :: news)) (off : LCg.Off3 I C D news) (ne : D9 ≠ I ∧ D9 ≠ C ∧ D9 ≠ D) (hS : S ((D9, o9) :: news)) (r : rest y ((D9, o9) :: news)) :
    LCg.CompEnd h₀ L m s₁ I oI C oC D oD S rest y { s₁ with heap := h', toks := tk } := by
  refine ⟨h', tk, (D9, o9) :: news, rfl, F, fun p hp => N p ?_, ⟨ne, off⟩, hS, r⟩
  rcases List.mem_cons.mp hp with rfl | hp
  · exact .tail _ (.head _)
  rcases List.mem_cons.mp hp with rfl | hp
  · exact .tail _ (.tail _ (.head _))
  rcases List.mem_cons.mp hp with rfl | hp
  · exact .tail _ (.tail _ (.tail _ (.head _)))
  rcases List.mem_cons.mp hp with rfl | hp
  · exact .head _
  · exact .tail _ (.tail _ (.tail _ (.tail _ hp)))
end
section
set_option pp.maxSteps 6000
theorem rules_Ld_2 : True := by
  k_with_none
  k_with "exec If" => (refine wpAny_If ?_)
  k_with "eval ListComp" => ((k_here; k_dflt (refine LCg.ListComp_U (F₀ := by k_asm) (by first | rfl | with_unfolding_all rfl) (by decide) (by rfl) (by decide) (by rfl) ?_)))
  k_with "CompSrc" => (refine Halt.out ?_)
  k_with "subscriptTail" => (refine Halt.out ?_)
  k_with "eval Name" => ((k_here; k_dflt (refine' ldE ?k1 ?k2 ?_ (by rfl) (by rfl) (by decide); (case k1 => k_asm); (case k2 => ((repeat (first | with_reducible assumption | (with_reducible exact upd_here) | (with_reducible apply upd_there; (focus (decide))))); done)); k_whole)))
  trivial
theorem law3_src {w : World} {s : Shared} {g : Heap} {base : Heap} {fs : List Env} {gd : Option (List Code)} {L : Addr} {m : Str → Option Value} {news : List (Addr × Obj)} {p : Program} {loose : List Str} {mean : ExcName → Option Value} {mg mb : Str → Option Value} {k : Int} {p1 p2 p3 p4 : Pos}
    (B : Below (AL fs gd) base fs g) (X : (KF w.params).In g) (T : Top p loose mean mg mb g) (S0 : List (Addr × Obj) → Prop) (Fin : List Value → List (Addr × Obj) → Prop) (hk : 0 ≤ k)
    (vs : List Value) (rs : List (List Int)) (hr : RowsIn news vs rs) (ha : ∀ r ∈ rs, r ∈ allRows) (hS : ∀ pre, S0 (pre ++ news)) (fin : ∀ pre ys, RowsIn pre ys (rs.map (·.take k.toNat)) → Fin ys (pre ++ news)) :
    LCg.CompRest Challenge.rw_qh0024_01.row.prog w ((AL fs gd).deeper (lawE L)) g L m (lawE L) (.Subscript (.Name "row" p1) (.Slice none (some (.Constant (.int k) 0 p2)) none p3) p4) "row" lw3C [] s S0 (fun i v => vs.toArray[i]? = some v) Fin vs.toArray.size 0 [] news := by
  revert X; k_fill; intro X
  unfold lw3C
  refine comp_ind (Γ := fun i ys nw => ∃ pre, nw = pre ++ news ∧ RowsIn pre ys ((rs.take i).map (·.take k.toNat))) ?T ?fin _ 0 [] _ (Nat.zero_add _) ⟨[], rfl, .nil⟩
  case T =>
    intro s0 i ys nw v I oI C oC D m₂ h tk E' hin hP hΓ hC hx F N off ne
    obtain ⟨pre, rfl, hR⟩ := hΓ
    replace hP : vs[i]? = some v := by simpa using hP
    obtain ⟨r, hri⟩ : ∃ r, rs[i]? = some r := by
      have := (List.getElem?_eq_some_iff.mp hP).1
      exact ⟨_, List.getElem?_eq_getElem (hr.1 ▸ this)⟩
    obtain ⟨Dr, yr, cr, hv, hm, hi⟩ := hr.2 i r hri
    rw [hP] at hv
    obtain rfl := Option.some.inj hv
    have har := ha r (List.mem_of_getElem? hri)
    have hl3 := (all_len har).2
    have hS2 := fun q => hS (q :: pre)
    have hmm : (Dr, lsC yr cr) ∈ pre ++ news := List.mem_append_right _ hm
    generalize hN : pre ++ news = nn at N off hmm
    k_steps
    unfold Halt
    refine kmk_slice F N (News.isList N (.tail _ (.tail _ (.tail _ hmm)))) .none (.int _ _) (fun D9 h9 F9 N9 l9 => ?_) (by with_unfolding_all rfl) (by intro _; with_unfolding_all rfl) ?_
    · subst hN
      have n1 := Nat.ne_of_gt (l9 _ (.head _))
      have n2 := Nat.ne_of_gt (l9 _ (.tail _ (.head _)))
      have n3 := Nat.ne_of_gt (l9 _ (.tail _ (.tail _ (.head _))))
      have hw := kmk_upto hi hk
      refine compEnd_k (o9 := lsC (slicePick yr.toArray none (some k) none).toList 0) F9 N9 off ⟨n1, n2, n3⟩ (hS2 _) ⟨_ :: pre, rfl, ?_⟩
      rw [take_snoc hri, List.map_append]
      exact (hR.mono fun p hp => .tail _ hp).snoc (.head _) hw
    · rw [List.size_toArray, hi.length, sizeLine_eq]; omega
  case fin =>
    rintro ys nw ⟨pre, rfl, hR⟩
    rw [List.size_toArray, hr.1, List.take_length] at hR
    exact fin pre ys hR
/-- the comprehension over each third row -/
theorem law3_part {w : World} {s : Shared} {Q E : Value → Shared → Prop} {g : Heap} {base : Heap} {fs : List Env} {gd : Option (List Code)} {L : Addr} {m : Str → Option Value} {news : List (Addr × Obj)} {p : Program} {loose : List Str} {mean : ExcName → Option Value} {mg mb : Str → Option Value} {k : Int} {p1 p2 p3 p4 p5 p6 p7 p8 p9 p10 : Pos}
    (B : Below (AL fs gd) base fs g) (X : (KF w.params).In g) (T : Top p loose mean mg mb g) (F : Fr g L s.heap m) (N : News g L s.heap news) (hk : 0 ≤ k)
    (l : Addr) (vs : List Value) (c : Nat) (rs : List (List Int)) (hm : m "rows" = some (.ref l)) (hl : (l, lsC vs c) ∈ news) (hr : RowsIn news vs rs) (ha : ∀ r ∈ rs, r ∈ allRows) (hlen : rs.length ≤ 10)
    (hret : ∀ D ys nw h' tk, Fr g L h' m → News g L h' ((D, LCg.lst ys) :: nw ++ news) → RowsIn nw ys ((pickL rs none none (some 3)).map (·.take k.toNat)) → Q (.ref D) { s with heap := h', toks := tk }) :
    wpAny (MM w) ((AL fs gd).deeper (lawE L)) (eval (.ListComp (.Subscript (.Name "row" p1) (.Slice none (some (.Constant (.int k) 0 p2)) none p3) p4) [⟨.Name "row" p5, .Subscript (.Name "rows" p6) (.Slice none none (some (.Constant (.int 3) 0 p7)) p8) p9, [], 0⟩] lw3C p10) (lawE L)) Q E s := by
  rcases s with ⟨hp, gs, dr, tk0, os⟩
  dsimp only at F N hret
  dsimp only [MM]; revert X; k_fill; intro X
  unfold lw3C
  k_steps
  unfold Halt
  refine kmk_slice3_lit F N (News.isList N hl) .none .none (.int _ _) (by decide) (pick_toList _ _ _ _) (fun D1 h1 F1 N1 l1 => ?_) (by with_unfolding_all rfl) (by intro _; with_unfolding_all rfl) ?_
  · refine LCg.CompSrc.ledger (by rfl) F1 N1 (.head _) ?_ ?_
    · rw [List.size_toArray, (hr.pick _ _ _).1, sizeLine_eq]
      exact Nat.le_trans (pick_le _ _ _ _) (Nat.le_trans hlen (by decide))
    intro g'
    refine law3_src B X T _ _ hk _ _ ((hr.pick none none (some 3)).mono fun p hp => .tail _ hp) (fun r hr => ha r (pick_mem hr)) (fun pre => .inr ⟨_, List.mem_append_right _ (.head _), rfl, _, rfl⟩) fun pre ys hR D h tk F2 N2 o2 => ?_
    refine hret D ys pre h tk F2 (fun q hq => N2 q ?_) hR
    · rcases List.mem_cons.mp hq with rfl | hq
      · exact .head _
      rcases List.mem_append.mp hq with hq | hq
      · exact .tail _ (List.mem_append_left _ hq)
      · exact .tail _ (List.mem_append_right _ (.tail _ hq))
  · rw [List.size_toArray, hr.1, sizeLine_eq]; omega
theorem rules_Ld_3 : True := by
  k_with_none
  k_with "exec If" => (refine wpAny_If ?_)
  k_with "eval ListComp" => ((k_here; k_dflt (refine LCg.ListComp_U (F₀ := by k_asm) (by first | rfl | with_unfolding_all rfl) (by decide) (by rfl) (by decide) (by rfl) ?_)))
  k_with "CompSrc" => (refine Halt.out ?_)
  k_with "subscriptTail" => (refine Halt.out ?_)
  k_with "eval Name" => ((k_here; k_dflt (refine' ldE ?k1 ?k2 ?_ (by rfl) (by rfl) (by decide); (case k1 => k_asm); (case k2 => ((repeat (first | with_reducible assumption | (with_reducible exact upd_here) | (with_reducible apply upd_there; (focus (decide))))); done)); k_whole)))
  k_with "eval ListComp" => (refine Halt.out ?_)
  trivial
/-- the rows whose modules are left out -/
noncomputable def leftF (rs : List (List Int)) : List (List Int) :=
  pickL ((pickL rs none none (some 3)).map (·.take 1)) (some (-1)) none none ++ pickL ((pickL rs none none (some 3)).map (·.take 2)) none (some (-1)) none
theorem take_all {r : List Int} (hr : r ∈ allRows) : r.take 1 ∈ allRows ∧ r.take 2 ∈ allRows := by
  have := rows_all (P := fun r => decide (r.take 1 ∈ allRows ∧ r.take 2 ∈ allRows)) (by decide +kernel) hr
  exact of_decide_eq_true this
theorem leftF_all {rs : List (List Int)} (ha : ∀ r ∈ rs, r ∈ allRows) : ∀ r ∈ leftF rs, r ∈ allRows := fun r hr => by
  rcases List.mem_append.mp hr with hr | hr
  · obtain ⟨q, hq, rfl⟩ := List.mem_map.mp (pick_mem hr)
    exact (take_all (ha q (pick_mem hq))).1
  · obtain ⟨q, hq, rfl⟩ := List.mem_map.mp (pick_mem hr)
    exact (take_all (ha q (pick_mem hq))).2
theorem f2_rows {S : List (Addr × Obj)} {vs vs' : List Value} {rs rs' : List (List Int)} (h : RowsIn S vs rs) (h' : RowsIn S vs' rs') : RowsIn S (vs ++ vs') (rs ++ rs') := by
  refine ⟨by rw [List.length_append, List.length_append, h.1, h'.1], fun i q e => ?_⟩
  by_cases hl : i < rs.length
  · rw [List.getElem?_append_left hl] at e
    rw [List.getElem?_append_left (h.1 ▸ hl)]
    exact h.2 i q e
  · rw [List.getElem?_append_right (Nat.le_of_not_lt hl)] at e
    rw [List.getElem?_append_right (by have := h.1; omega), h.1]
    exact h'.2 _ q e
theorem law3 {w : World} {s : Shared} {Q : Flow → Shared → Prop} {E : Value → Shared → Prop} {g : Heap} {base : Heap} {fs : List Env} {gd : Option (List Code)} {L : Addr} {m : Str → Option Value} {news : List (Addr × Obj)} {p : Program} {loose : List Str} {mean : ExcName → Option Value} {mg mb : Str → Option Value}
    (B : Below (AL fs gd) base fs g) (X : (KF w.params).In g) (T : Top p loose mean mg mb g) (F : Fr g L s.heap m) (N : News g L s.heap news)
    (l : Addr) (vs : List Value) (c : Nat) (rs : List (List Int)) (hm : m "rows" = some (.ref l)) (hl : (l, lsC vs c) ∈ news) (hr : RowsIn news vs rs) (ha : ∀ r ∈ rs, r ∈ allRows) (hlen : rs.length ≤ 10)
    (hret : ∀ D ys nw h' tk, Fr g L h' (upd m "out" (.ref D)) → News g L h' ((D, lsC ys 0) :: nw ++ news) → RowsIn nw ys (leftF rs) → Q .next { s with heap := h', toks := tk }) :
    wpAny (MM w) ((AL fs gd).deeper (lawE L)) (exec lw3 (lawE L)) Q E s := by
  rcases s with ⟨hp, gs, dr, tk0, os⟩
  dsimp only at F N hret
  dsimp only [MM]; revert X; k_fill; intro X
  unfold lw3
  k_steps
  unfold Halt
  refine law3_part B X T F N (by decide) l vs c rs hm hl hr ha hlen fun D1 ys1 nw1 h1 tk1 F1 N1 R1 => ?_
  dsimp only
  k_steps
  unfold Halt
  refine kba_turn (value' := PySem.Expr.Name (PySem.Str.ofString "_") ⟨0, 0, 0, 0⟩) (fun _ => rfl) ?_
  refine kmk_slice F1 N1 (News.isList N1 (.head _)) (.int _ _) .none (fun D2 h2 F2 N2 l2 => ?_) (by with_unfolding_all rfl) (by intro _; with_unfolding_all rfl) ?_
  · dsimp only
    k_steps
    unfold Halt
    refine law3_part B X T F2 N2 (by decide) l vs c rs hm (.tail _ (.tail _ (List.mem_append_right _ hl))) (hr.mono fun p hp => .tail _ (.tail _ (List.mem_append_right _ hp))) ha hlen fun D3 ys3 nw3 h3 tk3 F3 N3 R3 => ?_
    dsimp only
    k_steps
    unfold Halt
    refine kba_turn (value' := PySem.Expr.Name (PySem.Str.ofString "_") ⟨0, 0, 0, 0⟩) (fun _ => rfl) ?_
    refine kmk_slice F3 N3 (News.isList N3 (.head _)) .none (.int _ _) (fun D4 h4 F4 N4 l4 => ?_) (by with_unfolding_all rfl) (by intro _; with_unfolding_all rfl) ?_
    · dsimp only
      k_steps
      have e2 : (D2, W.listOf (slicePick ys1.toArray (some (-1)) none none) 0) ∈ (D4, W.listOf (slicePick ys3.toArray none (some (-1)) none) 0) :: ((D3, LCg.lst ys3) :: nw3 ++ (D2, W.listOf (slicePick ys1.toArray (some (-1)) none none) 0) :: ((D1, LCg.lst ys1) :: nw1 ++ news)) :=
        .tail _ (.tail _ (List.mem_append_right _ (.head _)))
      have z1 := R1.pick (some (-1)) none none
      have z3 := R3.pick none (some (-1)) none
      have le : ∀ (k : Nat) (lo hi : Option Int), (pickL ((pickL rs none none (some 3)).map (·.take k)) lo hi none).length ≤ 10 := fun k lo hi =>
        Nat.le_trans (pick_le _ _ _ _) (by rw [List.length_map]; exact Nat.le_trans (pick_le _ _ _ _) hlen)
      refine kmk_add_lit F4 N4 (News.isList N4 e2) (News.isList N4 (.head _)) rfl (fun D5 h5 F5 N5 _ => ?_) ?_
      · rw [pick_toList, pick_toList] at N5
        refine stLocN F5 N5 fun h6 F6 N6 => ?_
        refine hret D5 _ (nw3 ++ nw1) h6 _ F6 (fun q hq => N6 q ?_) (f2_rows (z1.mono fun p hp => List.mem_append_right _ hp) (z3.mono fun p hp => List.mem_append_left _ hp))
        rcases List.mem_cons.mp hq with rfl | hq
        · exact .head _
        rcases List.mem_append.mp hq with hq | hq
        · rcases List.mem_append.mp hq with hq | hq
          · exact .tail _ (.tail _ (.tail _ (List.mem_append_left _ hq)))
          · exact .tail _ (.tail _ (.tail _ (List.mem_append_right _ (.tail _ (.tail _ (List.mem_append_left _ hq))))))
        · exact .tail _ (.tail _ (.tail _ (List.mem_append_right _ (.tail _ (.tail _ (List.mem_append_right _ hq))))))
      · rw [pick_toList, pick_toList, z1.1, z3.1, sizeLine_eq]
        have h1 := le (Int.toNat 1) (some (-1)) none
        have h2 := le (Int.toNat 2) none (some (-1))
        omega
    · rw [List.size_toArray, R3.1, List.length_map, sizeLine_eq]
      exact Nat.le_trans (pick_le _ _ _ _) (Nat.le_trans hlen (by decide))
  · rw [List.size_toArray, R1.1, List.length_map, sizeLine_eq]
    exact Nat.le_trans (pick_le _ _ _ _) (Nat.le_trans hlen (by decide))
end
end Ld
section Le
section
theorem rules_Le_1 : True := by
  k_with_none
  k_with "exec If" => (refine wpAny_If ?_)
  trivial
noncomputable abbrev lw4 : Stmt := by
  refine' (?g : ∀ l : Stmt, sA lawS 4 = l → Stmt) _ ?h
  case g => exact fun l _ => l
  all_goals try (conv => lhs; whnf)
end
section
set_option pp.maxSteps 6000
theorem rules_Le_2 : True := by
  k_with_none
  k_with "exec If" => (refine wpAny_If ?_)
  k_with "eval ListComp" => ((k_here; k_dflt (refine LCg.ListComp_U (F₀ := by k_asm) (by first | rfl | with_unfolding_all rfl) (by decide) (by rfl) (by decide) (by rfl) ?_)))
  k_with "CompSrc" => (refine Halt.out ?_)
  k_with "call ref" => (refine Halt.out ?_)
  k_with "eval Name" => ((k_here; k_dflt (refine' ldE ?k1 ?k2 ?_ (by rfl) (by rfl) (by decide); (case k1 => k_asm); (case k2 => ((repeat (first | with_reducible assumption | (with_reducible exact upd_here) | (with_reducible apply upd_there; (focus (decide))))); done)); k_whole)))
  trivial
/-- an _Ignore in the ledger, but for what it has told -/
structure IgnL (w : World) (ms : List Str) (x dx st ds ig : Addr) (S : List (Addr × Obj)) : Prop where
  ix : (x, instObj 117 dx) ∈ S
  id : ∃ t1 t2 t3, (dx, igDict w st ds ig t1 t2 t3 3) ∈ S
  is : ∃ so ys, (st, so) ∈ S ∧ StrSet w (setLed w) so ys ∧ ys.length ≤ 1000 ∧ ∀ y, y ∈ ys ↔ y ∈ ms
  il : (ds, W.listOf #[] 0) ∈ S
  lo : (ig == sysModules) = false
  lt : dx < x ∧ x < st ∧ st < ds ∧ ds < ig
theorem IgnL.mono {w : World} {ms : List Str} {x dx st ds ig : Addr} {S S' : List (Addr × Obj)} (I : IgnL w ms x dx st ds ig S) (k : ∀ p ∈ S, p ∈ S') : IgnL w ms x dx st ds ig S' :=
  ⟨k _ I.ix, let ⟨a, b, c, h⟩ := I.id; ⟨a, b, c, k _ h⟩, let ⟨a, b, h, r⟩ := I.is; ⟨a, b, k _ h, r⟩, k _ I.il, I.lo, I.lt⟩
theorem IgnL.at {w : World} {f : Str → Int} {n : Nat} {as ms : List Str} {x dx st ds ig L : Addr} {oi : Obj} {S : List (Addr × Obj)} {g h : Heap} (I : IgnL w ms x dx st ds ig S) (t : IgTold w f n as oi) (N : News g L h S) (hi : (ig, oi) ∈ S) : IgnAt w f n as ms x dx st ds ig h :=
  ⟨(N _ I.ix).1, let ⟨a, b, c, h⟩ := I.id; ⟨a, b, c, (N _ h).1⟩, let ⟨a, b, h, r⟩ := I.is; ⟨a, b, (N _ h).1, r⟩, (N _ I.il).1, ⟨oi, (N _ hi).1, t⟩, I.lo, I.lt⟩
theorem news_mores {g h h' : Heap} {L : Addr} {m : Str → Option Value} {news nw : List (Addr × Obj)} (F : Fr g L h m) (N : News g L h news) (k : ∀ b o, h.get? b = some o → h'.get? b = some o) (hn : ∀ p ∈ nw, h.get? p.1 = none ∧ h'.get? p.1 = some p.2) : News g L h' (nw ++ news) := by
  intro p hp
  rcases List.mem_append.mp hp with hp | hp
  · exact news_more F N k (hn p hp).1 (hn p hp).2 p (.head _)
  · exact news_keep N k p hp
/-- a new _Ignore goes into the ledger -/
theorem ign_led {w : World} {f : Str → Int} {n : Nat} {as ms : List Str} {x dx st ds ig : Addr} {g h h' : Heap} {L : Addr} {m : Str → Option Value} {news : List (Addr × Obj)} (F : Fr g L h m) (N : News g L h news) (k : ∀ b o, h.get? b = some o → h'.get? b = some o)
    (hn : ∀ a ∈ [x, dx, st, ds, ig], h.get? a = none) (I : IgnAt w f n as ms x dx st ds ig h') :
    ∃ oi nw, News g L h' ((ig, oi) :: (nw ++ news)) ∧ IgnL w ms x dx st ds ig nw ∧ IgTold w f n as oi ∧ OffA ig (nw ++ news) ∧ (∀ p ∈ nw, h.get? p.1 = none) := by
  obtain ⟨hx, ⟨t1, t2, t3, hdx⟩, ⟨so, ys, hst, hSS, hlen, hmem⟩, hds, ⟨oi, hig, ht⟩, lo, lt1, lt2, lt3, lt4⟩ := I
  have hnn : ∀ p ∈ [(x, instObj 117 dx), (dx, igDict w st ds ig t1 t2 t3 3), (st, so), (ds, W.listOf #[] 0)], (h.get? p.1 = none ∧ h'.get? p.1 = some p.2) ∧ p.1 ≠ ig := by
    intro p hp
    simp only [List.mem_cons, List.not_mem_nil, or_false] at hp
    rcases hp with rfl | rfl | rfl | rfl
    · exact ⟨⟨hn _ (by simp), hx⟩, Nat.ne_of_lt (Nat.lt_trans lt2 (Nat.lt_trans lt3 lt4))⟩
    · exact ⟨⟨hn _ (by simp), hdx⟩, Nat.ne_of_lt (Nat.lt_trans lt1 (Nat.lt_trans lt2 (Nat.lt_trans lt3 lt4)))⟩
    · exact ⟨⟨hn _ (by simp), hst⟩, Nat.ne_of_lt (Nat.lt_trans lt3 lt4)⟩
    · exact ⟨⟨hn _ (by simp), hds⟩, Nat.ne_of_lt lt4⟩
  refine ⟨oi, _, ?_, ⟨.head _, ⟨t1, t2, t3, .tail _ (.head _)⟩, ⟨so, ys, .tail _ (.tail _ (.head _)), hSS, hlen, hmem⟩, .tail _ (.tail _ (.tail _ (.head _))), lo, lt1, lt2, lt3, lt4⟩, ht, fun p hp => ?_, fun p hp => (hnn p hp).1.1⟩
  · refine news_mores (nw := (ig, oi) :: _) F N k fun p hp => ?_
    rcases List.mem_cons.mp hp with rfl | hp
    · exact ⟨hn _ (by simp), hig⟩
    · exact (hnn p hp).1
  · rcases List.mem_append.mp hp with hp | hp
    · exact (hnn p hp).2
    · intro q
      have := (N p hp).1
      rw [q, hn _ (by simp)] at this; cases this
theorem law4 {w : World} {s : Shared} {Q : Flow → Shared → Prop} {E : Value → Shared → Prop} {g : Heap} {base : Heap} {fs : List Env} {gd : Option (List Code)} {L : Addr} {m : Str → Option Value} {news : List (Addr × Obj)} {p : Program} {loose : List Str} {mean : ExcName → Option Value} {mg mb : Str → Option Value}
    (B : Below (AL fs gd) base fs g) (X : (KF w.params).In g) (T : Top p loose mean mg mb g) (F : Fr g L s.heap m) (N : News g L s.heap news)
    (l : Addr) (vs : List Value) (c : Nat) (rs : List (List Int)) (hm : m "out" = some (.ref l)) (hl : (l, lsC vs c) ∈ news) (hr : RowsIn news vs rs) (ha : ∀ r ∈ rs, r ∈ allRows) (hlen : rs.length ≤ 10) (h1 : 1 ≤ rs.length) (f1 f2 : Str → Int) (hf1 : f1 (Str.ofString "<string>") = 1) (hf2 : f2 (Str.ofString "<string>") = 1)
    (hret : ∀ x1 dx1 st1 ds1 ig1 x2 dx2 st2 ds2 ig2 o1 o2 nw h' tk, Fr g L h' (upd (upd m "other" (.ref x2)) "ignore" (.ref x1)) → News g L h' ((ig1, o1) :: (ig2, o2) :: (nw ++ news)) → IgnL w (rs.map plainF) x1 dx1 st1 ds1 ig1 nw → IgnL w (rs.map plainF) x2 dx2 st2 ds2 ig2 nw → IgTold w f1 1 [] o1 → IgTold w f2 1 [] o2 →
      OffA ig1 (nw ++ news) → OffA ig2 (nw ++ news) → ig1 ≠ ig2 → Q .next { s with heap := h', toks := tk }) :
    wpAny (MM w) ((AL fs gd).deeper (lawE L)) (exec lw4 (lawE L)) Q E s := by
  rcases s with ⟨hp, gs, dr, tk0, os⟩
  dsimp only at F N hret
  dsimp only [MM]; revert X; k_fill; intro X
  unfold lw4
  k_steps
  unfold Halt
  refine LCg.CompSrc.ledger (by rfl) F N hl ?_ ?_
  · rw [List.size_toArray, hr.1, sizeLine_eq]; omega
  intro g'
  refine law2_src B X T _ _ _ _ hr ha (.inr ⟨_, hl, rfl, _, rfl⟩) fun ys hR D h tk F2 N2 _ => ?_
  dsimp only
  k_steps
  unfold Halt
  refine ign_new (Rdy.of_walk B F2 X T rfl rfl (Nat.le_of_ble_eq_true rfl) (Nat.le_of_ble_eq_true rfl) rfl) _ _ _ (News.isList N2 (.head _)) hR (by rw [List.length_map]; exact h1) (by rw [List.length_map]; omega) f1 hf1 fun x1 dx1 st1 ds1 ig1 h3 tk3 k3 n3 I3 => ?_
  have F3 := fr_keep F2 k3
  obtain ⟨o1, nw1, N3, J1, t1, off1, fr1⟩ := ign_led F2 N2 k3 n3 I3
  clear I3
  dsimp only
  k_steps
  unfold Halt
  have hl3 : (l, lsC vs c) ∈ (ig1, o1) :: (nw1 ++ (D, LCg.lst ys) :: news) := .tail _ (List.mem_append_right _ (.tail _ hl))
  have hr3 : RowsIn ((ig1, o1) :: (nw1 ++ (D, LCg.lst ys) :: news)) vs rs := hr.mono fun p hp => .tail _ (List.mem_append_right _ (.tail _ hp))
  refine LCg.CompSrc.ledger (by rfl) F3 N3 hl3 ?_ ?_
  · rw [List.size_toArray, hr.1, sizeLine_eq]; omega
  intro g3
  refine law2_src B X T _ _ _ _ hr3 ha (.inr ⟨_, hl3, rfl, _, rfl⟩) fun ys4 hR4 D4 h4 tk4 F4 N4 _ => ?_
  dsimp only
  k_steps
  unfold Halt
  refine ign_newK (Rdy.of_walk B F4 X T rfl rfl (Nat.le_of_ble_eq_true rfl) (Nat.le_of_ble_eq_true rfl) rfl) _ _ _ (News.isList N4 (.head _)) hR4 (by rw [List.length_map]; exact h1) (by rw [List.length_map]; omega) f2 hf2 fun x2 dx2 st2 ds2 ig2 h5 tk5 k5 n5 I5 => ?_
  have F5 := fr_keep F4 k5
  obtain ⟨o2, nw2, N5, J2, t2, off2, fr2⟩ := ign_led F4 N4 k5 n5 I5
  have a1 := (N4 (ig1, o1) (.tail _ (.head _))).1
  clear I5
  dsimp only
  k_steps
  (with_reducible rename Fr _ _ _ _ => F6)
  (with_reducible rename News _ _ _ _ => N6)
  refine hret x1 dx1 st1 ds1 ig1 x2 dx2 st2 ds2 ig2 o1 o2 (nw1 ++ nw2) _ _ F6 (fun q hq => N6 q ?_) (J1.mono fun p hp => List.mem_append_left _ hp) (J2.mono fun p hp => List.mem_append_right _ hp) t1 t2 (fun p hp => ?_) (fun p hp => ?_) (off2 _ (List.mem_append_right _ (.tail _ (.head _))))
  · rcases List.mem_cons.mp hq with rfl | hq
    · exact .tail _ (.tail _ (List.mem_append_right _ (.tail _ (.head _))))
    rcases List.mem_cons.mp hq with rfl | hq
    · exact .tail _ (.head _)
    rcases List.mem_append.mp hq with hq | hq
    · rcases List.mem_append.mp hq with hq | hq
      · exact .tail _ (.tail _ (List.mem_append_right _ (.tail _ (.tail _ (List.mem_append_left _ hq)))))
      · exact .tail _ (.tail _ (List.mem_append_left _ hq))
    · exact .tail _ (.tail _ (List.mem_append_right _ (.tail _ (.tail _ (List.mem_append_right _ (.tail _ hq))))))
  · rcases List.mem_append.mp hp with hp | hp
    · rcases List.mem_append.mp hp with hp | hp
      · exact off1 p (List.mem_append_left _ hp)
      · intro q
        have e := fr2 p hp
        rw [q, a1] at e
        cases e
    · exact off1 p (List.mem_append_right _ (.tail _ hp))
  · rcases List.mem_append.mp hp with hp | hp
    · rcases List.mem_append.mp hp with hp | hp
      · exact off2 p (List.mem_append_right _ (.tail _ (.tail _ (List.mem_append_left _ hp))))
      · exact off2 p (List.mem_append_left _ hp)
    · exact off2 p (List.mem_append_right _ (.tail _ (.tail _ (List.mem_append_right _ (.tail _ hp)))))
end
end Le
local macro_rules | `(tactic| k_mem) => `(tactic| k_extra "mem")
section Lf
section
theorem rules_Lf_1 : True := by
  k_with_none
  k_with "exec If" => (refine wpAny_If ?_)
  k_with "mem" => ((first | exact List.Mem.head _ | (with_reducible_and_instances assumption) | exact List.mem_append_right _ (by with_reducible assumption) | (refine' List.Mem.tail _ ?_; k_mem)))
  trivial
noncomputable abbrev lamQL : Str := "law.<locals>.<lambda>"
/-- law's table of codes: what stands in it is in the ledger -/
noncomputable def TabOk (ps : Array Value) (S : List (Addr × Obj)) : Prop := TriplesOk ps.toList ∧ ∀ pos v, codeAmong pos ps.toList = some v → ∃ c' oc vs t, v = .ref c' ∧ (c', oc) ∈ S ∧ oc.data = .fields vs ∧ vs[1]? = some (.str lamQL t)
theorem TabOk.nil {S : List (Addr × Obj)} : TabOk #[] S := ⟨trivial, fun pos v e => nomatch e⟩
theorem TabOk.mono {ps : Array Value} {S S' : List (Addr × Obj)} (x : TabOk ps S) (k : ∀ p ∈ S, p ∈ S') : TabOk ps S' := ⟨x.1, fun pos v e => let ⟨c', oc, vs, t, a, b, r⟩ := x.2 pos v e; ⟨c', oc, vs, t, a, k _ b, r⟩⟩
theorem among_snoc {pos : Pos} {a b : Int} {c v : Value} (l : List Value) (h : TriplesOk l) (e : codeAmong pos (l ++ [rawInt a, rawInt b, c]) = some v) : codeAmong pos l = some v ∨ v = c := by
  fun_induction TriplesOk l with
  | case1 =>
    simp only [List.nil_append, codeAmong, rawInt] at e
    split at e
    · exact .inr (Option.some.inj e).symm
    · cases e
  | case2 a' t b' u x rest ih =>
    simp only [List.cons_append, codeAmong] at e ⊢
    split at e
    · rename_i hc
      rw [if_pos hc]
      exact .inl e
    · rename_i hc
      rw [if_neg hc]
      exact ih h e
  | case3 l h1 h2 => exact h.elim
theorem TabOk.snoc {ps : Array Value} {S : List (Addr × Obj)} {a b : Int} {c' : Addr} {oc : Obj} {vs : Array Value} {t : Tok} (x : TabOk ps S) (hm : (c', oc) ∈ S) (hd : oc.data = .fields vs) (hv : vs[1]? = some (.str lamQL t)) : TabOk (ps ++ #[rawInt a, rawInt b, .ref c']) S := by
  have e : (ps ++ #[rawInt a, rawInt b, Value.ref c']).toList = ps.toList ++ [rawInt a, rawInt b, .ref c'] := by simp
  refine ⟨by rw [e]; exact TriplesOk_snoc _ _ _ _ x.1, fun pos v q => ?_⟩
  rw [e] at q
  rcases among_snoc _ x.1 q with q | rfl
  · exact x.2 pos v q
  · exact ⟨c', oc, vs, t, rfl, hm, hd, hv⟩
theorem updF_head {P : Addr} {o : Obj} {S : List (Addr × Obj)} (h : OffA P S) : UpdF P o ((P, o) :: S) (fun x => (P, x) :: S) := UpdF.head h
end
section
variable {w : World} {A : Around} {E : Value → Shared → Prop} {s : Shared} {g : Heap} {L : Addr} {m mg mb : Str → Option Value} {S R : List (Addr × Obj)} {p : Program} {loose : List Str} {mean : ExcName → Option Value} {ps : Array Value} {Q : Value → Shared → Prop}
/-- a lambda of law's: its code is made, or found -/
theorem lamL {params : Arguments} {body : Expr} {scope : Scope} {pos : Pos} (F : Fr g L s.heap m) (N : News g L s.heap ((309, tabObj ps) :: R)) (X : (KF w.params).In g) (T : Top p loose mean mg mb g) (x : TabOk ps S) (sub : ∀ p ∈ S, p ∈ R) (off : OffA 309 R)
    (h : ∀ f c' pm ctv nw ps' h' tk, Fr g L h' m → News g L h' ((309, tabObj ps') :: (nw ++ R)) → TabOk ps' (nw ++ S) → OffA 309 (nw ++ R) → (∀ p ∈ nw, ∀ q ∈ R, q.1 < p.1) →
      (f, kla_obj "<lambda>" lamQL params body scope [] pm c' ctv) ∈ nw → (∃ oc vs t, (c', oc) ∈ nw ++ S ∧ oc.data = .fields vs ∧ vs[1]? = some (.str lamQL t)) → Q (.ref f) { s with heap := h', toks := tk })
    (hcl : closureFor scope (lawE L) = pure []) (hdef : defaultsOf params (lawE L) = ([], [])) :
    wpAny (MM w) A (eval (.Lambda params body scope pos) (lawE L)) Q E s := by
  have C : CodeHd g 311 309 := codeHd_of_K X (by kernel_rfl)
  refine kla_eval hdef ?_
  cases q : codeAmong pos ps.toList with
  | none =>
    refine kla_nest F N T C rfl (updF_head off) x.1 q hcl fun f c' oc vs t ctv h' tk F' N' hd hv hlt hcf => ?_
    have b1 : ∀ p ∈ R, p.1 < c' := fun p hp => hlt p (.tail _ hp)
    have b2 : 309 < c' := hlt _ (.head _)
    refine h f c' ((mg "__name__").getD .none) ctv [(f, kla_obj "<lambda>" lamQL params body scope [] ((mg "__name__").getD .none) c' ctv), (c', oc)] (ps ++ #[rawInt pos.line, rawInt pos.col, .ref c']) h' tk F' (fun p hp => N' p ?_) ((x.mono fun p hp => .tail _ (.tail _ hp)).snoc (.tail _ (.head _)) hd hv) (fun p hp => ?_) ?_ (.head _) ⟨oc, vs, t, .tail _ (.head _), hd, hv⟩
    · rcases List.mem_cons.mp hp with rfl | hp
      · exact .tail _ (.tail _ (.head _))
      rcases List.mem_cons.mp hp with rfl | hp
      · exact .head _
      rcases List.mem_cons.mp hp with rfl | hp
      · exact .tail _ (.head _)
      · exact .tail _ (.tail _ (.tail _ hp))
    · rcases List.mem_cons.mp hp with rfl | hp
      · exact Nat.ne_of_gt (Nat.lt_trans b2 hcf)
      rcases List.mem_cons.mp hp with rfl | hp
      · exact Nat.ne_of_gt b2
      · exact off p hp
    · intro p hp q hq
      rcases List.mem_cons.mp hp with rfl | hp
      · exact Nat.lt_trans (b1 q hq) hcf
      · rw [List.mem_singleton.mp hp]; exact b1 q hq
  | some v =>
    obtain ⟨c', oc, vs, t, rfl, hm, hd, hv⟩ := x.2 pos v q
    refine kla_hit F N T C rfl (.head _) x.1 q hcl fun f ctv h' tk F' N' hlt => ?_
    refine h f c' ((mg "__name__").getD .none) ctv [(f, kla_obj "<lambda>" lamQL params body scope [] ((mg "__name__").getD .none) c' ctv)] ps h' tk F' (fun p hp => N' p ?_) (x.mono fun p hp => .tail _ hp) (fun p hp => ?_) ?_ (.head _) ⟨oc, vs, t, .tail _ hm, hd, hv⟩
    · rcases List.mem_cons.mp hp with rfl | hp
      · exact .tail _ (.head _)
      rcases List.mem_cons.mp hp with rfl | hp
      · exact .head _
      · exact .tail _ (.tail _ hp)
    · rcases List.mem_cons.mp hp with rfl | hp
      · exact Nat.ne_of_gt (hlt _ (.head _))
      · exact off p hp
    · intro p hp q hq
      rw [List.mem_singleton.mp hp]; exact hlt q (.tail _ hq)
end
end Lf
section Lg
section
theorem rules_Lg_1 : True := by
  k_with_none
  k_with "exec If" => (refine wpAny_If ?_)
  k_with "mem" => ((first | exact List.Mem.head _ | (with_reducible_and_instances assumption) | exact List.mem_append_right _ (by with_reducible assumption) | (refine' List.Mem.tail _ ?_; k_mem)))
  trivial
/-- what _modname gives of a text, as a thing to decide -/
noncomputable def namedB (x y : Str) : Bool := decide (x.length ≤ 1000) && ((decide (Txt.rfind (baseF x) (Str.ofString "/") + 1 < Txt.rfind (baseF x) (Str.ofString ".")) && decide (Txt.slice (baseF x) (some (Txt.rfind (baseF x) (Str.ofString "/") + 1)) (some (Txt.rfind (baseF x) (Str.ofString "/") + 1 + 1)) ≠ Str.ofString ".") && decide (Txt.slice (baseF x) none (some (Txt.rfind (baseF x) (Str.ofString "."))) = y)) ||
  (decide (¬ (Txt.rfind (baseF x) (Str.ofString "/") < Txt.rfind (baseF x) (Str.ofString "."))) && decide (baseF x = y)))
theorem named_of {w : World} {x y : Str} (h : namedB x y = true) : Named w x y := by
  unfold namedB at h
  simp only [Bool.and_eq_true, Bool.or_eq_true, decide_eq_true_eq] at h
  rcases h with ⟨h0, ⟨⟨h1, h2⟩, h3⟩ | ⟨h1, h2⟩⟩
  · exact named_dot h0 h1 h2 h3
  · exact named_plain h0 h1 h2
noncomputable def stepR (r : List Int) : List Int := r.take (max (r.length - 1) 1)
noncomputable def fileF (r : List Int) : Str := Str.ofString "/d.e/" ++ plainF r ++ Str.ofString ".py"
theorem fold_last {p : Nat → Bool} {k : Nat} : ∀ {n : Nat}, k < n → p k = true → (∀ i, k < i → i < n → p i = false) → (List.range n).foldl (fun acc i => if p i = true then some i else acc) none = some k
  | n + 1, h, hk, hn => by
    rw [List.range_succ, List.foldl_append, List.foldl_cons, List.foldl_nil]
    by_cases e : k = n
    · rw [← e, if_pos hk]
    · rw [if_neg (by rw [hn n (by omega) (by omega)]; exact Bool.false_ne_true)]
      exact fold_last (by omega) hk fun i a b => hn i a (by omega)
theorem fold_none {p : Nat → Bool} : ∀ {n : Nat}, (∀ i, i < n → p i = false) → (List.range n).foldl (fun acc i => if p i = true then some i else acc) (none : Option Nat) = none
  | 0, _ => rfl
  | n + 1, hn => by
    rw [List.range_succ, List.foldl_append, List.foldl_cons, List.foldl_nil, if_neg (by rw [hn n (by omega)]; exact Bool.false_ne_true)]
    exact fold_none fun i a => hn i (by omega)
theorem last_fold (s sub : Str) (hi : Nat) : Builtin.Str.lastOccurrence s sub 0 hi = (List.range (hi + 1)).foldl (fun acc i => if (decide (i + sub.length ≤ hi) && Builtin.Str.subAt s sub i) = true then some i else acc) none := by
  unfold Builtin.Str.lastOccurrence
  have e : (fun (i : Nat) (last : Option Nat) => (if (decide (i + sub.length ≤ hi) && Builtin.Str.subAt s sub i) = true then (pure (ForInStep.yield (some i)) : Id _) else pure (ForInStep.yield last))) = fun i last => pure (ForInStep.yield (if (decide (i + sub.length ≤ hi) && Builtin.Str.subAt s sub i) = true then some i else last)) := by
    funext i last
    split <;> rfl
  show (forIn [0 : hi + 1] (none : Option Nat) fun i last => (if (decide (i + sub.length ≤ hi) && Builtin.Str.subAt s sub i) = true then (pure (ForInStep.yield (some i)) : Id _) else pure (ForInStep.yield last))) = _
  rw [Std.Legacy.Range.forIn_eq_forIn_range']
  rw [e, List.forIn_pure_yield_eq_foldl]
  rw [show Std.Legacy.Range.size [0 : hi + 1] = hi + 1 by simp [Std.Legacy.Range.size], ← List.range_eq_range']
  rfl
theorem at_list {x d : Str} {c i : Nat} (hd : d.cps = #[c]) : (decide (i + d.length ≤ x.length) && Builtin.Str.subAt x d i) = decide (x.cps.toList[i]? = some c) := by
  have hl : d.length = 1 := by show d.cps.size = 1; rw [hd]; rfl
  have hx : x.length = x.cps.toList.length := rfl
  unfold Builtin.Str.subAt
  rw [hl, hd, Bool.eq_iff_iff, Bool.and_eq_true, decide_eq_true_iff, decide_eq_true_iff, beq_iff_eq, ← Array.toList_inj, Array.toList_extract, List.extract_eq_take_drop, hx, Nat.add_sub_cancel_left]
  generalize x.cps.toList = l
  constructor
  · rintro ⟨_, h2⟩
    have := congrArg (·[0]?) h2
    simpa [List.getElem?_take, List.getElem?_drop] using this
  · intro h
    have hi := (List.getElem?_eq_some_iff.mp h).1
    refine ⟨hi, ?_⟩
    rw [List.drop_eq_getElem_cons hi, List.take_succ_cons, List.take_zero, (List.getElem?_eq_some_iff.mp h).2]
theorem rfind_at {x d : Str} {a b : List Nat} {c : Nat} (hd : d.cps = #[c]) (hx : x.cps.toList = a ++ c :: b) (hb : c ∉ b) : Txt.rfind x d = (a.length : Int) := by
  unfold Txt.rfind
  rw [last_fold]
  simp only [at_list hd]
  rw [fold_last (p := fun i => decide (x.cps.toList[i]? = some c)) (k := a.length)]
  · show a.length < x.cps.toList.length + 1
    rw [hx, List.length_append, List.length_cons]; omega
  · rw [hx]; simp
  · intro i h1 _
    refine decide_eq_false fun e => ?_
    rw [hx, List.getElem?_append_right (Nat.le_of_lt h1), show i - a.length = (i - a.length - 1) + 1 from (Nat.succ_pred_eq_of_pos (Nat.sub_pos_of_lt h1)).symm, List.getElem?_cons_succ] at e
    exact hb (List.mem_of_getElem? e)
theorem rfind_no {x d : Str} {c : Nat} (hd : d.cps = #[c]) (hx : c ∉ x.cps.toList) : Txt.rfind x d = -1 := by
  unfold Txt.rfind
  rw [last_fold]
  simp only [at_list hd]
  rw [fold_none (p := fun i => decide (x.cps.toList[i]? = some c)) fun i _ => decide_eq_false fun e => hx (List.mem_of_getElem? e)]
theorem cut_list {x : Str} {l u : Option Int} {a b : Nat} (hl : Builtin.Str.strSliceIndices l u 1 x.length = Builtin.Str.strSliceIndices (some (a : Int)) (some (b : Int)) 1 x.length) (hab : a ≤ b) (hb : b ≤ x.length) : (Txt.slice x l u).cps.toList = (x.cps.toList.drop a).take (b - a) := by
  have hx : x.length = x.cps.toList.length := rfl
  unfold Txt.slice
  rw [hl]
  split
  · rename_i h
    rw [StrLaws.strSliceIndices_plain hab hb] at h
    have h2 : b - a = x.length := by simpa using h
    have h0 : a = 0 := by omega
    subst h0
    rw [h2, List.drop_zero, hx, List.take_length]
  · exact StrLaws.sliced_plain x hab hb
theorem slice_drop {x : Str} {n : Nat} (h : n ≤ x.length) : (Txt.slice x (some (n : Int)) none).cps.toList = x.cps.toList.drop n := by
  rw [cut_list (a := n) (b := x.length) ?_ h (Nat.le_refl _)]
  · exact List.take_of_length_le (by rw [List.length_drop]; exact Nat.le_refl _)
  · simp [Builtin.Str.strSliceIndices]
    congr 1
    rw [if_neg (by omega)]; omega
theorem slice_take {x : Str} {n : Nat} (h : n ≤ x.length) : (Txt.slice x none (some (n : Int))).cps.toList = x.cps.toList.take n := by
  rw [cut_list (a := 0) (b := n) ?_ (Nat.zero_le _) h]
  · rw [List.drop_zero, Nat.sub_zero]
  · simp [Builtin.Str.strSliceIndices]
    congr 1
theorem slash : (Str.ofString "/").cps = #[47] := by decide +kernel
theorem point : (Str.ofString ".").cps = #[46] := by decide +kernel
theorem len_list (x : Str) : x.length = x.cps.toList.length := rfl
theorem ext_list {x y : Str} (h : x.cps.toList = y.cps.toList) : x = y := by
  cases x; cases y
  dsimp only at h
  rw [Array.toList_inj.mp h]
theorem base_after {x : Str} {a b : List Nat} (hx : x.cps.toList = a ++ 47 :: b) (hb : 47 ∉ b) : (baseF x).cps.toList = b := by
  unfold baseF
  rw [rfind_at slash hx hb]
  rw [show ((a.length : Int) + 1) = ((a.length + 1 : Nat) : Int) from rfl, slice_drop (by rw [len_list, hx, List.length_append, List.length_cons]; omega), hx]
  simp
theorem base_self {x : Str} (hx : 47 ∉ x.cps.toList) : (baseF x).cps.toList = x.cps.toList := by
  unfold baseF
  rw [rfind_no slash hx]
  rw [show ((-1 : Int) + 1) = ((0 : Nat) : Int) from rfl, slice_drop (Nat.zero_le _), List.drop_zero]
theorem named_dotB {x y : Str} {Y e : List Nat} (hl : x.length ≤ 1000) (hb : (baseF x).cps.toList = Y ++ 46 :: e) (he : 46 ∉ e) (hs : 47 ∉ Y ++ 46 :: e) (hY : ∃ c l, Y = c :: l ∧ c ≠ 46) (hy : y.cps.toList = Y) : namedB x y = true := by
  obtain ⟨c, l, rfl, hc⟩ := hY
  have r1 : Txt.rfind (baseF x) (Str.ofString "/") = -1 := rfind_no slash (by rw [hb]; exact hs)
  have r2 : Txt.rfind (baseF x) (Str.ofString ".") = (((c :: l).length : Nat) : Int) := rfind_at point hb he
  have hbl : (baseF x).length = (c :: l).length + (e.length + 1) := by rw [len_list, hb, List.length_append, List.length_cons (a := 46)]
  unfold namedB
  rw [r1, r2]
  have s1 : Txt.slice (baseF x) (some (-1 + 1)) (some (-1 + 1 + 1)) ≠ Str.ofString "." := fun q => by
    have h2 := cut_list (x := baseF x) (l := some (-1 + 1)) (u := some (-1 + 1 + 1)) (a := 0) (b := 1) (by rw [show (-1 + 1 : Int) = ((0 : Nat) : Int) from rfl, show (((0 : Nat) : Int) + 1) = ((1 : Nat) : Int) from rfl]) (Nat.zero_le _) (by rw [hbl]; omega)
    rw [q, point, hb] at h2
    exact hc (List.cons.inj h2).1.symm
  have s2 : Txt.slice (baseF x) none (some (((c :: l).length : Nat) : Int)) = y := ext_list (by
    rw [slice_take (by rw [hbl]; omega), hb, hy, List.take_left'  rfl])
  rw [decide_eq_true hl, decide_eq_true (show (-1 : Int) + 1 < (((c :: l).length : Nat) : Int) by rw [List.length_cons]; omega), decide_eq_true s1, decide_eq_true s2]
  rfl
theorem named_plainB {x y : Str} (hl : x.length ≤ 1000) (h1 : 46 ∉ (baseF x).cps.toList) (h2 : 47 ∉ (baseF x).cps.toList) (hy : (baseF x).cps.toList = y.cps.toList) : namedB x y = true := by
  unfold namedB
  rw [rfind_no slash h2, rfind_no point h1, decide_eq_true hl, decide_eq_true (ext_list hy), decide_eq_true (show ¬ ((-1 : Int) < -1) by decide), Bool.and_true, Bool.or_true, Bool.true_and]
noncomputable def codes (x : Str) : List Nat := x.cps.toList
theorem codes_app (x y : Str) : (x ++ y).cps.toList = codes x ++ codes y := Array.toList_append
theorem tab_file : (allRows.all fun r => (fun P : List Nat => !(P.contains 47) && (P.headD 46 != 46) && decide (P.length ≤ 20)) (codes (plainF r))) = true := by decide +kernel
theorem tab_step : (allRows.all fun r => (fun P Y : List Nat => (!(P.contains 47) && (Y.headD 46 != 46) && decide (P.length ≤ 20)) && ((P == Y && !(P.contains 46)) || (P == Y ++ 46 :: P.drop (Y.length + 1) && !((P.drop (Y.length + 1)).contains 46)))) (codes (plainF r)) (codes (plainF (stepR r)))) = true := by decide +kernel
theorem head_ne {P : List Nat} (h : (P.headD 46 != 46) = true) : ∃ c l, P = c :: l ∧ c ≠ 46 := by
  cases P with
  | nil => cases h
  | cons c l => exact ⟨c, l, rfl, by simpa using h⟩
theorem not_has {l : List Nat} {c : Nat} (h : (!(l.contains c)) = true) : c ∉ l := by simpa using h
theorem file_B {r : List Int} (hr : r ∈ allRows) : namedB (fileF r) (plainF r) = true := by
  have h := List.all_eq_true.mp tab_file r hr
  dsimp only at h
  rw [Bool.and_eq_true, Bool.and_eq_true, decide_eq_true_iff] at h
  obtain ⟨⟨h1, h2⟩, h3⟩ := h
  have h1 := not_has h1
  have e : (fileF r).cps.toList = [47, 100, 46, 101] ++ 47 :: (codes (plainF r) ++ 46 :: [112, 121]) := by
    show ((Str.ofString "/d.e/" ++ plainF r) ++ Str.ofString ".py").cps.toList = _
    rw [codes_app, codes, codes_app, show codes (Str.ofString "/d.e/") = [47, 100, 46, 101, 47] by decide +kernel, show codes (Str.ofString ".py") = [46, 112, 121] by decide +kernel]
    simp
  have hn : 47 ∉ codes (plainF r) ++ 46 :: [112, 121] := by simp [h1]
  refine named_dotB ?_ (base_after e hn) (by decide) hn (head_ne h2) rfl
  rw [len_list, e]
  simp only [List.length_append, List.length_cons, List.length_nil]
  omega
theorem step_B {r : List Int} (hr : r ∈ allRows) : namedB (plainF r) (plainF (stepR r)) = true := by
  have h := List.all_eq_true.mp tab_step r hr
  dsimp only at h
  rw [Bool.and_eq_true, Bool.and_eq_true, Bool.and_eq_true, decide_eq_true_iff, Bool.or_eq_true, Bool.and_eq_true, Bool.and_eq_true, beq_iff_eq, beq_iff_eq] at h
  obtain ⟨⟨⟨h1, h2⟩, h3⟩, h4⟩ := h
  have h1 := not_has h1
  have hl : (plainF r).length ≤ 1000 := Nat.le_trans h3 (by decide)
  have hb := base_self (x := plainF r) h1
  rcases h4 with ⟨e, h5⟩ | ⟨e, h5⟩
  · exact named_plainB hl (by rw [hb]; exact not_has h5) (by rw [hb]; exact h1) (hb.trans e)
  · have e' : (baseF (plainF r)).cps.toList = _ := hb.trans e
    exact named_dotB hl e' (not_has h5) (e ▸ h1) (head_ne h2) rfl
theorem name_file {w : World} {r : List Int} (hr : r ∈ allRows) : Named w (fileF r) (plainF r) := named_of (file_B hr)
theorem name_step {w : World} {r : List Int} (hr : r ∈ allRows) : Named w (plainF r) (plainF (stepR r)) := named_of (step_B hr)
theorem plain_len {r : List Int} (hr : r ∈ allRows) : (plainF r).length ≤ 20 := by
  have := rows_all (P := fun r => decide ((plainF r).length ≤ 20)) (by decide +kernel) hr
  exact of_decide_eq_true this
noncomputable def tB (i : Nat) : Stmt := sA (forB (sA lawS 5)) i
noncomputable abbrev lt1 : Stmt := by
  refine' (?g : ∀ l : Stmt, tB 0 = l → Stmt) _ ?h
  case g => exact fun l _ => l
  all_goals try (conv => lhs; whnf)
end
section
set_option pp.maxSteps 6000
theorem rules_Lg_2 : True := by
  k_with_none
  k_with "exec If" => (refine wpAny_If ?_)
  k_with "mem" => ((first | exact List.Mem.head _ | (with_reducible_and_instances assumption) | exact List.mem_append_right _ (by with_reducible assumption) | (refine' List.Mem.tail _ ?_; k_mem)))
  k_with "eval Name" => ((k_here; k_dflt (refine' ldE ?k1 ?k2 ?_ (by rfl) (by rfl) (by decide); (case k1 => k_asm); (case k2 => ((repeat (first | with_reducible assumption | (with_reducible exact upd_here) | (with_reducible apply upd_there; (focus (decide))))); done)); k_whole)))
  k_with "call ref" => ((k_here; (with_reducible show wpAny _ _ (call (Value.ref 128) [Value.str _ _]) _ _ _); refine Halt.out ?_))
  trivial
theorem turn1 {w : World} {s : Shared} {Q : Flow → Shared → Prop} {E : Value → Shared → Prop} {g : Heap} {base : Heap} {fs : List Env} {gd : Option (List Code)} {L : Addr} {m : Str → Option Value} {news : List (Addr × Obj)} {p : Program} {loose : List Str} {mean : ExcName → Option Value} {mg mb : Str → Option Value}
    (B : Below (AL fs gd) base fs g) (X : (KF w.params).In g) (T : Top p loose mean mg mb g) (F : Fr g L s.heap m) (N : News g L s.heap news)
    (r : List Int) (t : Tok) (hr : r ∈ allRows) (hm : m "module" = some (.str (plainF r) t))
    (hret : ∀ h' tk, Fr g L h' m → News g L h' news → Q .next { s with heap := h', toks := tk }) :
    wpAny (MM w) ((AL fs gd).deeper (lawE L)) (exec lt1 (lawE L)) Q E s := by
  rcases s with ⟨hp, gs, dr, tk0, os⟩
  dsimp only at F N hret
  have hlen := plain_len hr
  dsimp only [MM]; revert X; k_fill; intro X
  unfold lt1
  k_steps
  unfold Halt
  refine named_call (name_file hr) (Rdy.of_walk B F X T rfl rfl (Nat.le_of_ble_eq_true rfl) (Nat.le_of_ble_eq_true rfl) rfl) fun t9 h9 tk9 hk9 => ?_
  have F9 := fr_keep F hk9
  have N9 := news_keep N hk9
  clear F N
  dsimp only
  k_steps
  · rename_i hne
    exact absurd hne (by simp)
  · exact hret _ _ F9 N9
end
end Lg
section Lh
section
theorem rules_Lh_1 : True := by
  k_with_none
  k_with "exec If" => (refine wpAny_If ?_)
  k_with "mem" => ((first | exact List.Mem.head _ | (with_reducible_and_instances assumption) | exact List.mem_append_right _ (by with_reducible assumption) | (refine' List.Mem.tail _ ?_; k_mem)))
  trivial
noncomputable abbrev lt2 : Stmt := by
  refine' (?g : ∀ l : Stmt, tB 1 = l → Stmt) _ ?h
  case g => exact fun l _ => l
  all_goals try (conv => lhs; whnf)
theorem all_menu {r : List Int} (hr : r ∈ allRows) : ∀ o ∈ r, o ∈ menuL := of_decide_eq_true (rows_all (P := fun r => decide (∀ o ∈ r, o ∈ menuL)) (by decide +kernel) hr)
theorem split_plain {r : List Int} (hr : r ∈ allRows) : Txt.split (plainF r) (Str.ofString ".") = r.map octF := of_decide_eq_true (rows_all (P := fun r => decide (Txt.split (plainF r) (Str.ofString ".") = r.map octF)) (by decide +kernel) hr)
noncomputable def byF (r : List Int) : List UInt8 := r.map fun n => n.toNat.toUInt8
theorem hex_menu {w : World} {o : Int} (ho : o ∈ menuL) : HexOf w (octF o) o.toNat.toUInt8 := by
  simp only [menuL, List.mem_cons, List.not_mem_nil, or_false] at ho
  rcases ho with rfl | rfl | rfl | rfl | rfl
  · exact ⟨by decide +kernel, by decide +kernel, 48, 48, by decide +kernel, re_00 w, by decide +kernel, by decide +kernel, by decide +kernel⟩
  · exact ⟨by decide +kernel, by decide +kernel, 48, 65, by decide +kernel, re_0A w, by decide +kernel, by decide +kernel, by decide +kernel⟩
  · exact ⟨by decide +kernel, by decide +kernel, 51, 69, by decide +kernel, re_3E w, by decide +kernel, by decide +kernel, by decide +kernel⟩
  · exact ⟨by decide +kernel, by decide +kernel, 70, 66, by decide +kernel, re_FB w, by decide +kernel, by decide +kernel, by decide +kernel⟩
  · exact ⟨by decide +kernel, by decide +kernel, 70, 70, by decide +kernel, re_FF w, by decide +kernel, by decide +kernel, by decide +kernel⟩
theorem mem_sub {S R nw : List (Addr × Obj)} {p : Addr × Obj} (sub : ∀ p ∈ S, p ∈ R) (h : p ∈ nw ++ S) : p ∈ nw ++ R := by
  rcases List.mem_append.mp h with h | h
  · exact List.mem_append_left _ h
  · exact List.mem_append_right _ (sub _ h)
theorem take_by {ls : List Value} {r : List Int} (h : StrsAre ls (r.map octF)) : (byF r).take ls.length = byF r := by
  rw [StrsAre.len_eq h, List.length_map]
  exact List.take_of_length_le (Nat.le_of_eq (List.length_map ..))
theorem hex_row {w : World} {r : List Int} (hr : r ∈ allRows) : ∀ (i : Nat) (p : Str), (r.map octF)[i]? = some p → ∃ o, (byF r)[i]? = some o ∧ HexOf w p o := fun i p e => by
  rw [List.getElem?_map] at e
  cases q : r[i]? with
  | none => rw [q] at e; cases e
  | some o =>
    rw [q] at e
    cases e
    exact ⟨_, by unfold byF; rw [List.getElem?_map, q]; rfl, hex_menu (all_menu hr o (List.mem_of_getElem? q))⟩
theorem ne_same_bytes {prog : Program} {w : World} {A : Around} {E : Value → Shared → Prop} {s : Shared} {x : Array UInt8} {t u : Tok} {Q : Value → Shared → Prop} (h : Q (.bool false) s) : wpAny (model prog w) A (compareOp .NotEq (.bytes x t) (.bytes x u)) Q E s :=
  ne_bytes (by rw [bne_self_eq_false]; exact h)
theorem ne_same_str {prog : Program} {w : World} {A : Around} {E : Value → Shared → Prop} {s : Shared} {x : Str} {t u : Tok} {Q : Value → Shared → Prop} (h : Q (.bool false) s) : wpAny (model prog w) A (compareOp .NotEq (.str x t) (.str x u)) Q E s :=
  ne_str (by rw [bne_self_eq_false]; exact h)
theorem ldRow {M : Model} {A : Around} {E : Value → Shared → Prop} {s : Shared} {h₀ : Heap} {L : Addr} {pos : Pos} {o : Obj} {v : Value} {news : List (Addr × Obj)} {Q : Value → Shared → Prop} (N : News h₀ L s.heap news) (hm : (L + 1, o) ∈ news) (hd : o.data = .cell (some v)) (h : Q v s) :
    wpAny M A (eval (.Name "row" pos) (lawE L)) Q E s := ldCN N (by rfl) hm hd h (by rfl) (by rfl) (by decide)
end
section
set_option pp.maxSteps 6000
theorem rules_Lh_2 : True := by
  k_with_none
  k_with "exec If" => (refine wpAny_If ?_)
  k_with "mem" => ((first | exact List.Mem.head _ | (with_reducible_and_instances assumption) | exact List.mem_append_right _ (by with_reducible assumption) | (refine' List.Mem.tail _ ?_; k_mem)))
  k_with "eval Name" => ((k_here; k_dflt (refine' ldE ?k1 ?k2 ?_ (by rfl) (by rfl) (by decide); (case k1 => k_asm); (case k2 => ((repeat (first | with_reducible assumption | (with_reducible exact upd_here) | (with_reducible apply upd_there; (focus (decide))))); done)); k_whole)))
  k_with "eval Name" => ((k_here; (with_reducible rename Obj.data _ = Data.cell (some _) => hrow); refine ldRow (by k_asm) (by k_mem) hrow ?_))
  k_with "call type:bytes" => (refine Halt.out ?_)
  k_with "eval Lambda" => (refine Halt.out ?_)
  k_with "call ref" => ((k_here; (with_reducible show wpAny _ _ (call (Value.ref 282) _) _ _ _); refine Halt.out ?_))
  trivial
theorem turn2 {w : World} {s : Shared} {Q : Flow → Shared → Prop} {E : Value → Shared → Prop} {g : Heap} {base : Heap} {fs : List Env} {gd : Option (List Code)} {L : Addr} {m : Str → Option Value} {S R : List (Addr × Obj)} {p : Program} {loose : List Str} {mean : ExcName → Option Value} {mg mb : Str → Option Value} {ps : Array Value} {rc : Obj}
    (B : Below (AL fs gd) base fs g) (X : (KF w.params).In g) (T : Top p loose mean mg mb g) (F : Fr g L s.heap m) (N : News g L s.heap ((309, tabObj ps) :: R)) (x : TabOk ps S) (sub : ∀ p ∈ S, p ∈ R) (off : OffA 309 R)
    (r : List Int) (t : Tok) (hr : r ∈ allRows) (hm : m "module" = some (.str (plainF r) t)) (hc : (L + 1, rc) ∈ R) (hrc : rc.data = .cell (some (.ref Dr))) (hD : (Dr, lsC yr cr) ∈ R) (hyr : IntsAre yr r)
    (hret : ∀ nw ps' h' tk, Fr g L h' m → News g L h' ((309, tabObj ps') :: (nw ++ R)) → TabOk ps' (nw ++ S) → OffA 309 (nw ++ R) → (∀ p ∈ nw, ∀ q ∈ R, q.1 < p.1) → Q .next { s with heap := h', toks := tk }) :
    wpAny (MM w) ((AL fs gd).deeper (lawE L)) (exec lt2 (lawE L)) Q E s := by
  rcases s with ⟨hp, gs, dr, tk0, os⟩
  dsimp only at F N hret
  have hlen := plain_len hr
  dsimp only [MM]; revert X; k_fill; intro X
  unfold lt2
  k_steps
  unfold Halt
  refine lamL (hcl := by rfl) (hdef := by rfl) F N X T x sub off fun f c' pm ctv nw ps' h1 tk1 F1 N1 x1 off1 lt1 hf ⟨oc, vc, tc, hcm, hcd, hcv⟩ => ?_
  clear F N
  dsimp only
  k_steps
  unfold Halt
  (with_reducible rename Fr _ _ _ _ => F2)
  (with_reducible rename News _ _ _ _ => N2)
  (with_reducible rename StrsAre _ _ => hst)
  (with_reducible rename Heap.IsList _ _ _ => hsl)
  (with_reducible rename List.map _ _ = Txt.split _ _ => hsp)
  rw [hsp, split_plain hr] at hst
  have hcd2 := codeRec_news N2 (.tail _ (.tail _ (mem_sub sub hcm))) hcd hcv
  refine reduce2 (Rdy.of_walk B F2 X T rfl rfl (Nat.le_of_ble_eq_true rfl) (Nat.le_of_ble_eq_true rfl) rfl) _ _ _ _ _ hsl ⟨_, _, _, _, (N2 _ (.tail _ (.tail _ (List.mem_append_left _ hf)))).1⟩ _ (lam2_do (N2 _ (.tail _ (.tail _ (List.mem_append_left _ hf)))).1 hcd2 hst (hex_row hr) (by unfold byF; rw [List.length_map]; have := (all_len hr).2; omega)) ⟨_, rfl⟩ fun v h3 tk3 k3 hv => ?_
  obtain ⟨t3, rfl⟩ := hv
  have F3 := fr_keep F2 k3
  have N3 := news_keep N2 k3
  rw [take_by hst]
  clear F2 N2
  dsimp only
  k_steps
  unfold Halt
  refine bytes_K F3 N3 (News.isList N3 (.tail _ (.tail _ (List.mem_append_right _ hD)))) hyr (all_oct hr) (by rw [hyr.length, sizeLine_eq]; have := (all_len hr).2; omega) rfl fun h4 t4 k4 F4 N4 _ => ?_
  refine ne_same_bytes ?_
  clear F3 N3
  dsimp only
  k_steps
  exact hret nw ps' _ _ F4 (fun q hq => N4 q (.tail _ hq)) x1 off1 lt1
end
end Lh
section Li
section
variable {w : World} {A : Around} {E : Value → Shared → Prop} {s : Shared} {h₀ : Heap} {m : Str → Option Value} {news : List (Addr × Obj)}
theorem rules_Li_1 : True := by
  k_with_none
  k_with "exec If" => (refine wpAny_If ?_)
  k_with "mem" => ((first | exact List.Mem.head _ | (with_reducible_and_instances assumption) | exact List.mem_append_right _ (by with_reducible assumption) | (refine' List.Mem.tail _ ?_; k_mem)))
  trivial
/-- a loop over range(n) -/
theorem loop_range {env : Env} {x : Str} {body : List Stmt} {Q : Flow → Shared → Prop} {r : Addr} {n : Nat} {t0 u0 v0 : Tok} (J : Nat → (Str → Option Value) → List (Addr × Obj) → Prop) (hh : A.handled = none)
    (F : Fr h₀ env.locals s.heap m) (N : News h₀ env.locals s.heap news) (h0 : J 0 m news) (hr : IsRange s.heap r 0 (n : Int) 1 t0 u0 v0) (hsm : Builtin.Range.small 0 (n : Int) 1 = true) (hn : Builtin.Range.rangeSize 0 (n : Int) 1 = (n : Int))
    (turn : ∀ i t m₁ nw I oI h tk, i < n → J i m₁ nw → (∀ p ∈ nw, @Ne Nat p.1 I) → Fr h₀ env.locals h (fun y => if y = x then some (.int (i : Int) t) else m₁ y) → News h₀ env.locals h ((I, oI) :: nw) →
      wpAny (MM w) A (execs body env) (TurnEndC h₀ env.locals I oI (J (i + 1)) (fun v s' => Q (.ret v) s') { s with heap := h, toks := tk }) E { s with heap := h, toks := tk })
    (done : ∀ m₁ nw h tk, J n m₁ nw → Fr h₀ env.locals h m₁ → News h₀ env.locals h nw → Q .next { s with heap := h, toks := tk }) :
    wpAny (MM w) A (pyIter (.ref r)) (fun it s₂ => LoopAtV PG w A h₀ env x body Q E it s₂) E s := by
  refine wpAny_pyIter_range hr hsm ?_
  have W := LCg.range_walks (prog := PG) (w := w) (I := s.heap.objs.size) hh 0 n
  have hnI : ∀ q ∈ news, q.1 ∉ [s.heap.objs.size] := fun q hq h => by
    rw [List.mem_singleton] at h
    have := Heap.lt_size (N q hq).1
    rw [h] at this
    exact absurd this (Nat.lt_irrefl _)
  have hkp : ∀ b' o, s.heap.get? b' = some o → (s.heap.push { cls := .type "range_iterator", data := .fields #[rawInt 0, rawInt (Builtin.Range.rangeSize 0 (n : Int) 1), rawInt 1] }).get? b' = some o := fun b' o e => Heap.get?_push_of_some _ e
  have hIn : h₀.get? s.heap.objs.size = none := by
    cases q : h₀.get? s.heap.objs.size with
    | none => rfl
    | some o => exact absurd (Heap.lt_size (F.keep _ o q)) (Nat.lt_irrefl _)
  refine ⟨s.heap.objs.size, [s.heap.objs.size], [s.heap.objs.size], n, _, _, m, news, J, rfl, W, ?_, ?_, hnI, ?_, fr_keep F hkp, news_keep N hkp, h0, ?_, ?_⟩
  · intro h
    have := F.ns.lt
    rw [List.mem_singleton.mp h] at this; exact Nat.lt_irrefl _ this
  · intro b' hb
    rw [List.mem_singleton.mp hb]
    exact hIn
  · show IsRangeIter _ _ _ _ _
    rw [hn]; simpa using Heap.get?_push_size _ rfl
  · rintro i v m₁ news₁ _ own ⟨h₁, tk₁, rfl⟩ hi ⟨u, rfl⟩ hJ hna hof hog hoa hSt F₁ N₁
    obtain ⟨oI, hoI⟩ : ∃ oI, h₁.get? s.heap.objs.size = some oI := ⟨_, hSt⟩
    have hmI := hoa s.heap.objs.size (.head _) hIn oI hoI
    have hown : ∀ p ∈ own, p = (s.heap.objs.size, oI) := fun p hp => by
      have h1 := hof p hp
      rw [List.mem_singleton] at h1
      have h2 := hog p hp
      rw [h1, hoI] at h2
      obtain ⟨a, b'⟩ := p
      dsimp only at h1 h2
      rw [h1, Option.some.inj h2]
    have N₂ : News h₀ env.locals h₁ ((s.heap.objs.size, oI) :: news₁) := fun q hq => by
      rcases List.mem_cons.mp hq with rfl | hq
      · exact N₁ _ (List.mem_append_left _ hmI)
      · exact N₁ _ (List.mem_append_right _ hq)
    rw [Int.zero_add] at F₁
    refine wpAny_mono (turn i u m₁ news₁ s.heap.objs.size oI h₁ tk₁ hi hJ (fun p hp e => hna p hp (by rw [e]; exact .head _)) F₁ N₂) (fun fl s₃ q => ?_) fun _ _ e => e
    have fin : (∃ h' tk m' nw, s₃ = { s with heap := h', toks := tk } ∧ Fr h₀ env.locals h' m' ∧ News h₀ env.locals h' ((s.heap.objs.size, oI) :: nw) ∧ (∀ p ∈ nw, @Ne Nat p.1 s.heap.objs.size) ∧ J (i + 1) m' nw) → LoopStepU h₀ env.locals [s.heap.objs.size] own (J (i + 1)) { s with heap := h₁, toks := tk₁ } .next s₃ := by
      rintro ⟨h', tk, m', nw, rfl, F', N', hne, hJ'⟩
      refine ⟨rfl, h', tk, m', nw, rfl, F', fun p hp => ?_, fun p hp e => hne p hp (List.mem_singleton.mp e), hJ'⟩
      rcases List.mem_append.mp hp with hp | hp
      · rw [hown p hp]; exact N' _ (.head _)
      · exact N' _ (.tail _ hp)
    cases fl with
    | ret v => exact .ret q
    | next => exact .next (fin q)
    | cont => exact .cont (fin q)
    | brk => exact q.elim
  · intro h' tk m' news' F' N' _ hJ
    exact done m' news' h' tk hJ F' N'
end
section
noncomputable abbrev lt3 : Stmt := by
  refine' (?g : ∀ l : Stmt, tB 2 = l → Stmt) _ ?h
  case g => exact fun l _ => l
  all_goals try (conv => lhs; whnf)
noncomputable abbrev lt3B : List Stmt := by
  refine' (?g : ∀ l : List Stmt, forB (tB 2) = l → List Stmt) _ ?h
  case g => exact fun l _ => l
  all_goals try (conv => lhs; whnf)
noncomputable def dropF (r : List Int) (j : Nat) : List Int := r.take (max (r.length - j) 1)
theorem take_row {r : List Int} (hr : r ∈ allRows) {k : Nat} (hk : 1 ≤ k) : r.take k ∈ allRows := by
  rcases Nat.lt_or_ge k 3 with h | h
  · have : k = 1 ∨ k = 2 := by omega
    rcases this with rfl | rfl
    · exact (take_all hr).1
    · exact (take_all hr).2
  · rw [List.take_of_length_le (Nat.le_trans (all_len hr).2 h)]; exact hr
theorem drop_zero {r : List Int} (hr : r ∈ allRows) : dropF r 0 = r := by
  unfold dropF
  exact List.take_of_length_le (by omega)
theorem drop_nat {n j : Nat} (h : 1 ≤ n) : min (max (min (max (n - j) 1) n - 1) 1) (max (n - j) 1) = max (n - (j + 1)) 1 := by
  by_cases hj : j + 1 < n
  · have e1 : max (n - j) 1 = n - j := Nat.max_eq_left (by omega)
    have e3 : max (n - j - 1) 1 = n - j - 1 := Nat.max_eq_left (by omega)
    rw [e1, Nat.min_eq_left (Nat.sub_le n j), e3, Nat.min_eq_left (Nat.sub_le _ 1), ← Nat.sub_sub, e3]
  · rw [show max (n - j) 1 = 1 from Nat.max_eq_right (by omega), show max (n - (j + 1)) 1 = 1 from Nat.max_eq_right (by omega), Nat.min_eq_left h]
    rfl
theorem drop_step {r : List Int} (hr : r ∈ allRows) (j : Nat) : stepR (dropF r j) = dropF r (j + 1) := by
  unfold stepR dropF
  rw [List.take_take, List.length_take, drop_nat (all_len hr).1]
theorem name_chain {w : World} {r : List Int} (hr : r ∈ allRows) (j : Nat) : Named w (plainF (dropF r j)) (plainF (dropF r (j + 1))) := by
  rw [← drop_step hr j]
  exact name_step (take_row hr (by omega))
theorem drop_if {r : List Int} {z i : Nat} (hz : r.length = z) (hi : i < 4) : r.take (if 1 > (z : Int) - (i : Int) then (1 : Int) else (z : Int) - (i : Int)).toNat = dropF r i := by
  unfold dropF
  rw [hz]
  congr 1
  by_cases h : z ≤ i
  · rw [if_pos (by omega), Nat.sub_eq_zero_of_le h]; rfl
  · rw [if_neg (by omega), Int.toNat_sub, Nat.max_eq_left (by omega)]
theorem lam3_all {w : World} {h : Heap} {f c' : Addr} {pm ctv : Value} {q : Str} (ho : h.get? f = some (kla_obj "<lambda>" q lam3A lam3B lam3S [] pm c' ctv)) (hcd : h.CodeRec (.ref c') q)
    {xs : Nat → Str} (hxs : ∀ i, Named w (xs i) (xs (i + 1))) : FnDoes w h f (fun i v => ∃ t, v = .int (i : Int) t) (fun i a => ∃ t, a = .str (xs i) t) :=
  fun A s i a v Q E R hk hP hJ hret => lam3_do ho hcd (n := i + 1) (fun j _ => hxs j) A s i a v Q E R hk ⟨Nat.lt_succ_self i, hP⟩ hJ hret
end
section
set_option pp.maxSteps 6000
theorem rules_Li_2 : True := by
  k_with_none
  k_with "exec If" => (refine wpAny_If ?_)
  k_with "mem" => ((first | exact List.Mem.head _ | (with_reducible_and_instances assumption) | exact List.mem_append_right _ (by with_reducible assumption) | (refine' List.Mem.tail _ ?_; k_mem)))
  k_with "eval Name" => ((k_here; k_dflt (refine' ldE ?k1 ?k2 ?_ (by rfl) (by rfl) (by decide); (case k1 => k_asm); (case k2 => ((repeat (first | with_reducible assumption | (with_reducible exact upd_here) | (with_reducible apply upd_there; (focus (decide))))); done)); k_whole)))
  k_with "eval Name" => ((k_here; (with_reducible rename Obj.data _ = Data.cell (some _) => hrow); refine ldRow (by k_asm) (by k_mem) hrow ?_))
  k_with "eval Lambda" => (refine Halt.out ?_)
  k_with "call ref" => ((k_here; (with_reducible show wpAny _ _ (call (Value.ref 282) _) _ _ _); refine Halt.out ?_))
  k_with "call ref" => ((k_here; (with_reducible show wpAny _ _ (call (Value.ref 297) _) _ _ _); refine Halt.out ?_))
  trivial
theorem turn3_body {w : World} {s : Shared} {Q : Flow → Shared → Prop} {E : Value → Shared → Prop} {g : Heap} {base : Heap} {fs : List Env} {gd : Option (List Code)} {L Dr : Addr} {m : Str → Option Value} {S R : List (Addr × Obj)} {p : Program} {loose : List Str} {mean : ExcName → Option Value} {mg mb : Str → Option Value} {ps : Array Value} {rc : Obj} {yr : List Value} {cr : Nat}
    (B : Below (AL fs gd) base fs g) (X : (KF w.params).In g) (T : Top p loose mean mg mb g) (F : Fr g L s.heap m) (N : News g L s.heap ((309, tabObj ps) :: R)) (x : TabOk ps S) (sub : ∀ p ∈ S, p ∈ R) (off : OffA 309 R)
    (r : List Int) (t ti : Tok) (hr : r ∈ allRows) (hm : m "module" = some (.str (plainF r) t)) (hc : (L + 1, rc) ∈ R) (hrc : rc.data = .cell (some (.ref Dr))) (hD : (Dr, lsC yr cr) ∈ R) (hyr : IntsAre yr r) (i : Nat) (hi : i < 4) (hmi : m "turns" = some (.int (i : Int) ti))
    (hret : ∀ nw ps' h' tk, Fr g L h' m → News g L h' ((309, tabObj ps') :: (nw ++ R)) → TabOk ps' (nw ++ S) → OffA 309 (nw ++ R) → (∀ p ∈ nw, ∀ q ∈ R, q.1 < p.1) → Q .next { s with heap := h', toks := tk }) :
    wpAny (MM w) ((AL fs gd).deeper (lawE L)) (execs lt3B (lawE L)) Q E s := by
  rcases s with ⟨hp, gs, dr, tk0, os⟩
  dsimp only at F N hret
  have hlen := plain_len hr
  dsimp only [MM]; revert X; k_fill; intro X
  unfold lt3B
  k_steps
  unfold Halt
  refine lamL (hcl := by rfl) (hdef := by rfl) F N X T x sub off fun f c' pm ctv nw ps' h1 tk1 F1 N1 x1 off1 lt1 hf ⟨oc, vc, tc, hcm, hcd, hcv⟩ => ?_
  clear F N
  dsimp only
  k_steps
  unfold Halt
  (with_reducible rename Fr _ _ _ _ => F2)
  (with_reducible rename News _ _ _ _ => N2)
  rename IsRange _ _ _ _ _ _ _ _ => hrg
  have hfo := (N2 _ (.tail _ (List.mem_append_left _ hf))).1
  refine reduce3 (Rdy.of_walk B F2 X T rfl rfl (Nat.le_of_ble_eq_true rfl) (Nat.le_of_ble_eq_true rfl) rfl) _ _ _ _ i _ _ _ hrg (by omega) ⟨_, _, _, _, hfo⟩ _ (lam3_all hfo (codeRec_news N2 (.tail _ (mem_sub sub hcm)) hcd hcv) (xs := fun j => plainF (dropF r j)) (name_chain hr)) ⟨_, by rw [drop_zero hr]⟩ fun v h3 tk3 k3 hv => ?_
  obtain ⟨t3, rfl⟩ := hv
  have F3 := fr_keep F2 k3
  have N3 := news_keep N2 k3
  clear F2 N2 hfo
  have hl3 := all_len hr
  have hly := hyr.length
  have hD3 : (Dr, lsC yr cr) ∈ nw ++ R := List.mem_append_right _ hD
  dsimp only
  k_steps
  refine call_len_list (News.isList N3 (.tail _ hD3)) (by rw [List.size_toArray, hly]; omega) ?_
  rw [List.size_toArray, hly]
  generalize hz : r.length = z at *
  k_steps
  unfold Halt
  (with_reducible rename Fr _ _ _ _ => F4)
  (with_reducible rename News _ _ _ _ => N4)
  (with_reducible rename IntsAre _ (List.take _ _) => hI4)
  rw [drop_if hz hi] at hI4
  have hra := take_row hr (show 1 ≤ max (r.length - i) 1 by omega)
  refine plain_spec (Rdy.of_walk B F4 X T rfl rfl (Nat.le_of_ble_eq_true rfl) (Nat.le_of_ble_eq_true rfl) rfl) _ _ _ (News.isList N4 (.head _)) hI4 (all_oct hra) (all_len hra).2 fun t5 h5 tk5 k5 => ?_
  have F5 := fr_keep F4 k5
  have N5 := news_keep N4 k5
  clear F4 N4
  refine ne_same_str ?_
  dsimp only
  k_steps
  exact hret nw ps' _ _ F5 (fun q hq => N5 q (.tail _ hq)) x1 off1 lt1
theorem rules_Li_3 : True := by
  k_with_none
  k_with "exec If" => (refine wpAny_If ?_)
  k_with "mem" => ((first | exact List.Mem.head _ | (with_reducible_and_instances assumption) | exact List.mem_append_right _ (by with_reducible assumption) | (refine' List.Mem.tail _ ?_; k_mem)))
  k_with "eval Name" => ((k_here; k_dflt (refine' ldE ?k1 ?k2 ?_ (by rfl) (by rfl) (by decide); (case k1 => k_asm); (case k2 => ((repeat (first | with_reducible assumption | (with_reducible exact upd_here) | (with_reducible apply upd_there; (focus (decide))))); done)); k_whole)))
  k_with "eval Name" => ((k_here; (with_reducible rename Obj.data _ = Data.cell (some _) => hrow); refine ldRow (by k_asm) (by k_mem) hrow ?_))
  k_with "eval Lambda" => (refine Halt.out ?_)
  k_with "call ref" => ((k_here; (with_reducible show wpAny _ _ (call (Value.ref 282) _) _ _ _); refine Halt.out ?_))
  k_with "call ref" => ((k_here; (with_reducible show wpAny _ _ (call (Value.ref 297) _) _ _ _); refine Halt.out ?_))
  k_with "pyIter ref" => (refine Halt.out ?_)
  trivial
/-- what the inner loop keeps -/
noncomputable def Turn3J (m : Str → Option Value) (S R : List (Addr × Obj)) (m' : Str → Option Value) (l : List (Addr × Obj)) : Prop :=
  (∀ y, y ≠ (Str.ofString "turns") → m' y = m y) ∧ ∃ ps nw, l = (309, tabObj ps) :: (nw ++ R) ∧ TabOk ps (nw ++ S) ∧ OffA 309 (nw ++ R) ∧ ∀ p ∈ nw, ∀ q ∈ R, q.1 < p.1
theorem turn3 {w : World} {s : Shared} {Q : Flow → Shared → Prop} {E : Value → Shared → Prop} {g : Heap} {base : Heap} {fs : List Env} {gd : Option (List Code)} {L Dr : Addr} {m : Str → Option Value} {S R : List (Addr × Obj)} {p : Program} {loose : List Str} {mean : ExcName → Option Value} {mg mb : Str → Option Value} {ps : Array Value} {rc : Obj} {yr : List Value} {cr : Nat}
    (B : Below (AL fs gd) base fs g) (X : (KF w.params).In g) (T : Top p loose mean mg mb g) (F : Fr g L s.heap m) (N : News g L s.heap ((309, tabObj ps) :: R)) (x : TabOk ps S) (sub : ∀ p ∈ S, p ∈ R) (off : OffA 309 R)
    (r : List Int) (t : Tok) (hr : r ∈ allRows) (hm : m "module" = some (.str (plainF r) t)) (hc : (L + 1, rc) ∈ R) (hrc : rc.data = .cell (some (.ref Dr))) (hD : (Dr, lsC yr cr) ∈ R) (hyr : IntsAre yr r) (hE : PassesOwn (MM w) ((AL fs gd).deeper (lawE L)) (lawE L) E)
    (hret : ∀ m' nw ps' h' tk, (∀ y, y ≠ (Str.ofString "turns") → m' y = m y) → Fr g L h' m' → News g L h' ((309, tabObj ps') :: (nw ++ R)) → TabOk ps' (nw ++ S) → OffA 309 (nw ++ R) → (∀ p ∈ nw, ∀ q ∈ R, q.1 < p.1) → Q .next { s with heap := h', toks := tk }) :
    wpAny (MM w) ((AL fs gd).deeper (lawE L)) (exec lt3 (lawE L)) Q E s := by
  rcases s with ⟨hp, gs, dr, tk0, os⟩
  dsimp only at F N hret
  unfold lt3
  refine For_invV g (by rfl) (by rfl) ?_ (by intro _; rfl) hE
  have X' := X
  have N' := N
  revert X; k_fill; intro X
  k_steps
  unfold Halt
  (with_reducible rename Fr _ _ _ _ => F2)
  (with_reducible rename News _ _ _ _ => N2)
  rename IsRange _ _ _ _ _ _ _ _ => hrg
  refine loop_range (n := 4) (fun _ => Turn3J m S R) rfl F2 N2 ⟨fun _ _ => rfl, ps, [], rfl, x, off, fun p hp => nomatch hp⟩ hrg rfl rfl (fun i t1 m₁ nw I oI h tk hi hJ hne F3 N3 => ?_) fun m₁ nw h tk hJ F3 N3 => ?_
  · obtain ⟨hmm, ps1, nw1, rfl, x1, off1, lt1⟩ := hJ
    have hm3 : (fun y => if y = Str.ofString "turns" then some (Value.int (i : Int) t1) else m₁ y) (Str.ofString "module") = some (.str (plainF r) t) := by
      show (if Str.ofString "module" = Str.ofString "turns" then some (Value.int (i : Int) t1) else m₁ (Str.ofString "module")) = _
      rw [if_neg (by decide), hmm _ (by decide)]; exact hm
    refine turn3_body (S := nw1 ++ S) (R := (I, oI) :: (nw1 ++ R)) B X T F3 (fun q hq => N3 q ?_) x1 (fun p hp => .tail _ (mem_sub sub hp)) (fun p hp => ?_) r t t1 hr hm3 (.tail _ (List.mem_append_right _ hc)) hrc (.tail _ (List.mem_append_right _ hD)) hyr i hi (if_pos rfl) fun nw2 ps2 h2 tk2 F4 N4 x2 off2 lt2 => ?_
    · rcases List.mem_cons.mp hq with rfl | hq
      · exact .tail _ (.head _)
      rcases List.mem_cons.mp hq with rfl | hq
      · exact .head _
      · exact .tail _ (.tail _ hq)
    · rcases List.mem_cons.mp hp with rfl | hp
      · exact Ne.symm (hne _ (.head _))
      · exact off1 p hp
    · refine ⟨h2, tk2, _, (309, tabObj ps2) :: ((nw2 ++ nw1) ++ R), rfl, F4, fun q hq => N4 q ?_, fun q hq => ?_, fun y hy => ?_, ps2, nw2 ++ nw1, rfl, ?_, fun p hp => ?_, fun p hp q hq => ?_⟩
      · rcases List.mem_cons.mp hq with rfl | hq
        · exact .tail _ (List.mem_append_right _ (.head _))
        rcases List.mem_cons.mp hq with rfl | hq
        · exact .head _
        rw [List.append_assoc] at hq
        rcases List.mem_append.mp hq with hq | hq
        · exact .tail _ (List.mem_append_left _ hq)
        · exact .tail _ (List.mem_append_right _ (.tail _ hq))
      · rcases List.mem_cons.mp hq with rfl | hq
        · exact hne (309, tabObj ps1) (.head _)
        rw [List.append_assoc] at hq
        rcases List.mem_append.mp hq with hq | hq
        · exact Nat.ne_of_gt (lt2 q hq _ (.head _))
        · exact hne _ (.tail _ hq)
      · show (if y = Str.ofString "turns" then some (Value.int (i : Int) t1) else m₁ y) = m y
        rw [if_neg hy, hmm y hy]
      · rw [List.append_assoc]; exact x2
      · rw [List.append_assoc] at hp
        rcases List.mem_append.mp hp with hp | hp
        · exact off2 p (List.mem_append_left _ hp)
        · exact off1 p hp
      · rcases List.mem_append.mp hp with hp | hp
        · exact lt2 p hp q (.tail _ (List.mem_append_right _ hq))
        · exact lt1 p hp q hq
  · obtain ⟨hmm, ps1, nw1, rfl, x1, off1, lt1⟩ := hJ
    exact hret m₁ nw1 ps1 h tk hmm F3 N3 x1 off1 lt1
end
end Li
section Lj
section
theorem rules_Lj_1 : True := by
  k_with_none
  k_with "exec If" => (refine wpAny_If ?_)
  k_with "mem" => ((first | exact List.Mem.head _ | (with_reducible_and_instances assumption) | exact List.mem_append_right _ (by with_reducible assumption) | (refine' List.Mem.tail _ ?_; k_mem)))
  trivial
noncomputable abbrev lt4 : Stmt := by
  refine' (?g : ∀ l : Stmt, tB 3 = l → Stmt) _ ?h
  case g => exact fun l _ => l
  all_goals try (conv => lhs; whnf)
noncomputable def ifxT (s : Expr) : Expr := (eK s).1.headD e0
noncomputable def lcTe (s : Expr) : Expr := (eK s).1.getD 1 e0
noncomputable abbrev lt4C : Scope := by
  refine' (?g : ∀ l : Scope, lcCe (cmpE (ifxT (asgV (tB 3)))) = l → Scope) _ ?h
  case g => exact fun l _ => l
  all_goals try (conv => lhs; whnf)
noncomputable abbrev lt4E : Expr := by
  refine' (?g : ∀ l : Expr, lcEe (cmpE (ifxT (asgV (tB 3)))) = l → Expr) _ ?h
  case g => exact fun l _ => l
  all_goals try (conv => lhs; whnf)
noncomputable abbrev lt4T : Expr := by
  refine' (?g : ∀ l : Expr, lcTe (cmpE (ifxT (asgV (tB 3)))) = l → Expr) _ ?h
  case g => exact fun l _ => l
  all_goals try (conv => lhs; whnf)
end
section
theorem ldRowF {M : Model} {A : Around} {E : Value → Shared → Prop} {s : Shared} {L C : Addr} {pos : Pos} {v : Value} {Q : Value → Shared → Prop} (hv : s.heap.IsCell (L + 1) (some v)) (h : Q v s) :
    wpAny M A (eval (.Name "row" pos) (compEnvC lt4C [("row", L + 1)] C (lawE L))) Q E s := ldCellK (by rfl) hv h (by rfl) (by rfl) (by decide)
end
section
set_option pp.maxSteps 6000
theorem rules_Lj_2 : True := by
  k_with_none
  k_with "exec If" => (refine wpAny_If ?_)
  k_with "mem" => ((first | exact List.Mem.head _ | (with_reducible_and_instances assumption) | exact List.mem_append_right _ (by with_reducible assumption) | (refine' List.Mem.tail _ ?_; k_mem)))
  k_with "eval Name" => ((k_here; (with_reducible show wpAny _ _ (eval (Expr.Name _ _) (compEnvC _ _ _ _)) _ _ _); refine ldRowF (by with_reducible assumption) ?_))
  k_with "call builtin:len" => (refine Halt.out ?_)
  k_with "compareOp Eq ref ref" => (refine Halt.out ?_)
  k_with "subscriptTail Name Slice ref ref" => (refine Halt.out ?_)
  trivial
theorem turn4_src {w : World} {s : Shared} {g : Heap} {base : Heap} {fs : List Env} {gd : Option (List Code)} {L Dr : Addr} {m : Str → Option Value} {news : List (Addr × Obj)} {p : Program} {loose : List Str} {mean : ExcName → Option Value} {mg mb : Str → Option Value} {rc : Obj} {yr : List Value} {cr : Nat}
    (B : Below (AL fs gd) base fs g) (X : (KF w.params).In g) (T : Top p loose mean mg mb g) (S0 : List (Addr × Obj) → Prop) (Fin : List Value → List (Addr × Obj) → Prop) (r : List Int) (hra : r ∈ allRows) (hc : (L + 1, rc) ∈ news) (hrc : rc.data = .cell (some (.ref Dr))) (hD : (Dr, lsC yr cr) ∈ news) (hyr : IntsAre yr r)
    (vs : List Value) (rs : List (List Int)) (hr : RowsIn news vs rs) (ha : ∀ r ∈ rs, r ∈ allRows) (hS : S0 news)
    (fin : ∀ ys, RowsIn news ys (rs.filter fun b => decide (r.take b.length = b)) → Fin ys news) :
    LCt.CompRestT Challenge.rw_qh0024_01.row.prog w ((AL fs gd).deeper (lawE L)) g L m (lawE L) lt4T lt4E "begin" lt4C [("row", L + 1)] s S0 (fun i v => vs.toArray[i]? = some v) Fin vs.toArray.size 0 [] news := by
  revert X; k_fill; intro X
  unfold lt4T lt4E lt4C
  refine compT_ind (Γ := fun i ys nw => nw = news ∧ RowsIn news ys ((rs.take i).filter fun b => decide (r.take b.length = b))) ?T ?fin _ 0 [] _ (Nat.zero_add _) ⟨rfl, .nil⟩
  case T =>
    intro s0 i ys nw v I oI C oC D m₂ h tk E' hin hP hΓ hC hx F N off ne
    obtain ⟨rfl, hR⟩ := hΓ
    replace hP : vs[i]? = some v := by simpa using hP
    obtain ⟨b, hri⟩ : ∃ r, rs[i]? = some r := by
      have := (List.getElem?_eq_some_iff.mp hP).1
      exact ⟨_, List.getElem?_eq_getElem (hr.1 ▸ this)⟩
    obtain ⟨Db, yb, cb, hv, hmb, hib⟩ := hr.2 i b hri
    rw [hP] at hv
    obtain rfl := Option.some.inj hv
    have hbl := all_len (ha b (List.mem_of_getElem? hri))
    have hrl := all_len hra
    have hcl : h.IsCell (L + 1) (some (.ref Dr)) := ⟨rc, (N _ (.tail _ (.tail _ (.tail _ hc)))).1, hrc⟩
    k_steps
    unfold Halt
    refine call_len_list (News.isList N (.tail _ (.tail _ (.tail _ hmb)))) (by rw [List.size_toArray, hib.length]; omega) ?_
    rw [List.size_toArray, hib.length]
    k_steps
    unfold Halt
    refine kmk_slice F N (News.isList N (.tail _ (.tail _ (.tail _ hD)))) .none (.int _ _) (fun D9 h9 F9 N9 l9 => ?_) (by with_unfolding_all rfl) (by intro _; with_unfolding_all rfl) ?_
    · have hw := kmk_upto hyr (Int.natCast_nonneg b.length)
      rw [Int.toNat_natCast] at hw
      have htk : rs.take (i + 1) = rs.take i ++ [b] := take_snoc hri
      clear F N
      dsimp only
      k_steps
      unfold Halt
      refine ke_eq_ints (xs := (slicePick yr.toArray none (some (b.length : Int)) none).toList) (News.isList N9 (.head _)) (News.isList N9 (.tail _ (.tail _ (.tail _ (.tail _ hmb))))) hw hib (Nat.le_of_ble_eq_true rfl) ?_
      cases hle : decide (r.take b.length = b)
      · k_steps
        refine compEnd_same F9 (news_tail N9) off hS ⟨rfl, ?_⟩
        rw [htk, List.filter_append, List.filter_cons, if_neg (by rw [hle]; exact Bool.false_ne_true), List.filter_nil, List.append_nil]
        exact hR
      · k_steps
        refine compEnd_same F9 (news_tail N9) off hS ⟨rfl, ?_⟩
        rw [htk, List.filter_append, List.filter_cons, if_pos hle, List.filter_nil]
        exact hR.snoc hmb hib
    · rw [List.size_toArray, hyr.length, sizeLine_eq]; omega
  case fin =>
    rintro ys nw ⟨rfl, hR⟩
    rw [List.size_toArray, hr.1, List.take_length] at hR
    exact fin ys hR
end
section
set_option pp.maxSteps 6000
theorem rules_Lj_3 : True := by
  k_with_none
  k_with "exec If" => (refine wpAny_If ?_)
  k_with "mem" => ((first | exact List.Mem.head _ | (with_reducible_and_instances assumption) | exact List.mem_append_right _ (by with_reducible assumption) | (refine' List.Mem.tail _ ?_; k_mem)))
  k_with "eval Name" => ((k_here; k_dflt (refine' ldE ?k1 ?k2 ?_ (by rfl) (by rfl) (by decide); (case k1 => k_asm); (case k2 => ((repeat (first | with_reducible assumption | (with_reducible exact upd_here) | (with_reducible apply upd_there; (focus (decide))))); done)); k_whole)))
  k_with "eval ListComp" => ((k_here; k_dflt (refine LCt.ListComp_T (F₀ := by k_asm) (by with_unfolding_all rfl) (by decide) (by rfl) (by decide) (by rfl) ?_)))
  k_with "CompSrcT" => (refine Halt.out ?_)
  k_with "compareOp NotEq ref ref" => (refine Halt.out ?_)
  trivial
theorem RowsIn.uncons {S : List (Addr × Obj)} {v : Value} {vs : List Value} {r : List Int} {rs : List (List Int)} (h : RowsIn S (v :: vs) (r :: rs)) : (∃ D ys c, v = .ref D ∧ (D, lsC ys c) ∈ S ∧ IntsAre ys r) ∧ RowsIn S vs rs := by
  refine ⟨?_, Nat.succ.inj h.1, fun i q e => h.2 (i + 1) q e⟩
  obtain ⟨D, ys, c, a, b⟩ := h.2 0 r rfl
  exact ⟨D, ys, c, Option.some.inj a, b⟩
noncomputable def rowD (r : List Int) : PyData := .list (r.map PyData.int)
theorem RowsIn.reads {g h : Heap} {L : Addr} {S : List (Addr × Obj)} (N : News g L h S) : ∀ {vs : List Value} {rs : List (List Int)}, RowsIn S vs rs → ∃ as, ReadsAll h vs (rs.map rowD) as
  | [], [], _ => ⟨_, .nil⟩
  | [], _ :: _, x => nomatch x.1
  | _ :: _, [], x => nomatch x.1
  | v :: vs, r :: rs, x => by
    obtain ⟨⟨D, ys, c, rfl, hm, hi⟩, x2⟩ := x.uncons
    obtain ⟨as, ih⟩ := RowsIn.reads N x2
    exact ⟨_, .cons (reads_newData (News.isList N hm) (ke_carried hi)) ih⟩
theorem rowD_lay : ∀ rs : List (List Int), PyData.canLayAll0 (rs.map rowD) = true
  | [] => rfl
  | r :: rs => by simp [PyData.canLayAll0, PyData.canLay0, rowD, ke_canLayAll0, rowD_lay rs]
theorem rowD_depth : ∀ rs : List (List Int), PyData.depthAll (rs.map rowD) ≤ 1
  | [] => Nat.zero_le _
  | r :: rs => by
    have := rowD_depth rs
    simp [PyData.depthAll, PyData.depth, rowD, ke_depthAll]
    omega
theorem ne_nil {prog : Program} {w : World} {A : Around} {E : Value → Shared → Prop} {s : Shared} {g : Heap} {L a b : Addr} {S : List (Addr × Obj)} {c d : Nat} {vs : List Value} {rs : List (List Int)} {Q : Value → Shared → Prop} (N : News g L s.heap S) (ha : (a, lsC vs c) ∈ S) (hb : (b, lsC [] d) ∈ S) (hr : RowsIn S vs rs)
    (hu : A.units + 64 < cLine) (h : Q (.bool (!rs.isEmpty)) s) : wpAny (model prog w) A (compareOp .NotEq (.ref a) (.ref b)) Q E s := by
  obtain ⟨as, hR⟩ := hr.reads N
  refine ne_dataH (da := .list (rs.map rowD)) (db := .list []) (reads_list_at (N _ ha).1 rfl rfl hR) (reads_list_at (N _ hb).1 rfl rfl .nil) ?_ rfl hu ?_
  · have h1 := rowD_depth rs
    simp [SeqAt.shaped, PyData.canLay0, PyData.depth, rowD_lay]
    omega
  · have : PyData.eqv (.list (rs.map rowD)) (.list []) = rs.isEmpty := by cases rs <;> simp [PyData.eqv, PyData.eqvAll]
    rw [this]
    exact h
/-- whether a row begins as one that is left out -/
noncomputable def dueF (os : List (List Int)) (r : List Int) : Int := if (os.filter fun b => decide (r.take b.length = b)).isEmpty then 0 else 1
theorem turn4 {w : World} {s : Shared} {Q : Flow → Shared → Prop} {E : Value → Shared → Prop} {g : Heap} {base : Heap} {fs : List Env} {gd : Option (List Code)} {L Dr lo : Addr} {m : Str → Option Value} {R : List (Addr × Obj)} {p : Program} {loose : List Str} {mean : ExcName → Option Value} {mg mb : Str → Option Value} {rc : Obj} {yr vo : List Value} {cr co : Nat} {os : List (List Int)}
    (B : Below (AL fs gd) base fs g) (X : (KF w.params).In g) (T : Top p loose mean mg mb g) (F : Fr g L s.heap m) (N : News g L s.heap R)
    (r : List Int) (hr : r ∈ allRows) (hm : m "out" = some (.ref lo)) (hlo : (lo, lsC vo co) ∈ R) (hos : RowsIn R vo os) (hoa : ∀ r ∈ os, r ∈ allRows) (hol : os.length ≤ 10) (hc : (L + 1, rc) ∈ R) (hrc : rc.data = .cell (some (.ref Dr))) (hD : (Dr, lsC yr cr) ∈ R) (hyr : IntsAre yr r)
    (hret : ∀ t h' tk, Fr g L h' (upd m "due" (.int (dueF os r) t)) → News g L h' R → Q .next { s with heap := h', toks := tk }) :
    wpAny (MM w) ((AL fs gd).deeper (lawE L)) (exec lt4 (lawE L)) Q E s := by
  rcases s with ⟨hp, gs, dr, tk0, oss⟩
  dsimp only at F N hret
  dsimp only [MM]; revert X; k_fill; intro X
  unfold lt4
  k_steps
  unfold Halt
  refine LCt.CompSrcT.ledger (by rfl) F N hlo ?_ ?_
  · rw [List.size_toArray, hos.1, sizeLine_eq]; omega
  intro g'
  refine turn4_src B X T _ _ r hr hc hrc hD hyr _ _ hos hoa (.inr ⟨_, hlo, rfl, _, rfl⟩) fun ys hR D h tk F2 N2 _ => ?_
  clear F N
  dsimp only
  k_steps
  unfold Halt
  (with_reducible rename Fr _ _ _ _ => F3)
  (with_reducible rename News _ _ _ _ => N3)
  refine ne_nil N3 (.tail _ (.head _)) (.head _) (hR.mono fun p hp => .tail _ (.tail _ hp)) (Nat.le_of_ble_eq_true rfl) ?_
  cases hq : (os.filter fun b => decide (r.take b.length = b)).isEmpty
  · have hd : dueF os r = 1 := by unfold dueF; rw [hq]; rfl
    rw [hd] at hret
    k_steps
    (with_reducible rename Fr _ _ _ _ => F4)
    (with_reducible rename News _ _ _ _ => N4)
    exact hret _ _ _ F4 fun q hq => N4 q (.tail _ (.tail _ hq))
  · have hd : dueF os r = 0 := by unfold dueF; rw [hq]; rfl
    rw [hd] at hret
    k_steps
    (with_reducible rename Fr _ _ _ _ => F4)
    (with_reducible rename News _ _ _ _ => N4)
    exact hret _ _ _ F4 fun q hq => N4 q (.tail _ (.tail _ hq))
end
end Lj
section Lk
section
theorem rules_Lk_1 : True := by
  k_with_none
  k_with "exec If" => (refine wpAny_If ?_)
  k_with "mem" => ((first | exact List.Mem.head _ | (with_reducible_and_instances assumption) | exact List.mem_append_right _ (by with_reducible assumption) | (refine' List.Mem.tail _ ?_; k_mem)))
  trivial
noncomputable abbrev lt5 : Stmt := by
  refine' (?g : ∀ l : Stmt, tB 4 = l → Stmt) _ ?h
  case g => exact fun l _ => l
  all_goals try (conv => lhs; whnf)
end
section
set_option pp.maxSteps 6000
theorem rules_Lk_2 : True := by
  k_with_none
  k_with "exec If" => (refine wpAny_If ?_)
  k_with "mem" => ((first | exact List.Mem.head _ | (with_reducible_and_instances assumption) | exact List.mem_append_right _ (by with_reducible assumption) | (refine' List.Mem.tail _ ?_; k_mem)))
  k_with "eval Name" => ((k_here; k_dflt (refine' ldE ?k1 ?k2 ?_ (by rfl) (by rfl) (by decide); (case k1 => k_asm); (case k2 => ((repeat (first | with_reducible assumption | (with_reducible exact upd_here) | (with_reducible apply upd_there; (focus (decide))))); done)); k_whole)))
  k_with "call ref" => (refine Halt.out ?_)
  trivial
theorem fr_hide {g h : Heap} {L : Addr} {m : Str → Option Value} {l : List Addr} (F : Fr g L h m) (hl : ∀ a ∈ l, a ≠ L ∧ g.get? a = none) : Fr g L (hideAll h l) m :=
  ⟨F.ns.at' fun o e => hideAll_get _ e fun q => (hl _ q).1 rfl, fun b o e => hideAll_get _ (F.keep b o e) (fun q => by rw [(hl _ q).2] at e; cases e), F.above⟩
/-- _Ignore.names over the ledger -/
theorem names_led {w : World} {s : Shared} {Q E : Value → Shared → Prop} {g : Heap} {base : Heap} {fs : List Env} {gd : Option (List Code)} {L x dx st ds ig : Addr} {m : Str → Option Value} {R : List (Addr × Obj)} {p : Program} {loose : List Str} {mean : ExcName → Option Value} {mg mb : Str → Option Value} {o : Obj} {f : Str → Int} {ms as : List Str} {n : Nat}
    (B : Below (AL fs gd) base fs g) (X : (KF w.params).In g) (T : Top p loose mean mg mb g) (F : Fr g L s.heap m) (N : News g L s.heap ((ig, o) :: R)) (J : IgnL w ms x dx st ds ig R) (t : IgTold w f n as o) (off : OffA ig R) (hn : n ≤ 1000) (fn : Value) (b : Bool) (tx : Str) (tm : Tok)
    (hfn : (fn = .none ∧ b = true) ∨ (∃ t, fn = .str (Str.ofString "/x.py") t) ∧ b = false) (hout : tx ∈ as ∨ outI ms b tx = f tx) (hml : ∀ y ∈ ms, y.length ≤ 1000)
    (hret : ∀ t o' h' tk' d', Fr g L h' m → News g L h' ((ig, o') :: R) → IgTold w f (n + 1) (tx :: as) o' → Q (.int (f tx) t) { s with heap := h', toks := tk', drawn := d' }) :
    wpAny (MM w) ((AL fs gd).deeper (lawE L)) (call (.ref 114) [.ref x, fn, .str tx tm]) Q E s := by
  have hI := (J.mono fun p hp => List.Mem.tail (ig, o) hp).at t N (.head _)
  have hid : ∀ a ∈ [ig, x, dx, st, ds], a ≠ L ∧ g.get? a = none := by
    obtain ⟨i1, ⟨_, _, _, i2⟩, ⟨_, _, i3, _⟩, i4, _⟩ := J
    intro a ha
    simp only [List.mem_cons, List.not_mem_nil, or_false] at ha
    rcases ha with rfl | rfl | rfl | rfl | rfl
    · exact (N _ (.head _)).2
    · exact (N _ (.tail _ i1)).2
    · exact (N _ (.tail _ i2)).2
    · exact (N _ (.tail _ i3)).2
    · exact (N _ (.tail _ i4)).2
  refine names_spec (Rdy.of_walk B (fr_hide F hid) X T rfl rfl (Nat.le_of_ble_eq_true rfl) (Nat.le_of_ble_eq_true rfl) rfl) hI hn fn b tx tm hfn hout hml fun t' h' tk' d' hk hI' => ?_
  obtain ⟨_, _, _, _, ⟨o', ho', ht'⟩, _, _⟩ := hI'
  have nL := (hid ig (.head _)).1
  have nG := (hid ig (.head _)).2
  refine hret t' o' h' tk' d' ⟨F.ns.at' fun o e => hk _ o (Ne.symm nL) e, fun b o e => hk b o (fun q => by rw [q, nG] at e; cases e) (F.keep b o e), F.above⟩ (fun q hq => ?_) ht'
  rcases List.mem_cons.mp hq with rfl | hq
  · exact ⟨ho', nL, nG⟩
  · exact ⟨hk _ _ (off q hq) (N q (.tail _ hq)).1, (N q (.tail _ hq)).2⟩
theorem turn5 {w : World} {s : Shared} {Q : Flow → Shared → Prop} {E : Value → Shared → Prop} {g : Heap} {base : Heap} {fs : List Env} {gd : Option (List Code)} {L x1 dx1 st1 ds1 ig1 x2 dx2 st2 ds2 ig2 : Addr} {m : Str → Option Value} {R : List (Addr × Obj)} {p : Program} {loose : List Str} {mean : ExcName → Option Value} {mg mb : Str → Option Value} {o1 o2 : Obj} {f1 f2 : Str → Int} {ms as1 as2 : List Str} {n1 n2 : Nat}
    (B : Below (AL fs gd) base fs g) (X : (KF w.params).In g) (T : Top p loose mean mg mb g) (F : Fr g L s.heap m) (N : News g L s.heap ((ig1, o1) :: (ig2, o2) :: R))
    (J1 : IgnL w ms x1 dx1 st1 ds1 ig1 R) (J2 : IgnL w ms x2 dx2 st2 ds2 ig2 R) (t1 : IgTold w f1 n1 as1 o1) (t2 : IgTold w f2 n2 as2 o2) (off1 : OffA ig1 R) (off2 : OffA ig2 R) (off12 : ig1 ≠ ig2)
    (r : List Int) (t td : Tok) (due : Int) (hr : r ∈ allRows) (hm : m "module" = some (.str (plainF r) t)) (hmd : m "due" = some (.int due td)) (hm1 : m "ignore" = some (.ref x1)) (hm2 : m "other" = some (.ref x2))
    (hn1 : n1 ≤ 900) (hn2 : n2 ≤ 900) (hml : ∀ y ∈ ms, y.length ≤ 1000) (hf1 : outI ms false (plainF r) = f1 (plainF r)) (hdue : f1 (plainF r) = due) (hf2 : outI ms true (plainF r) = f2 (plainF r)) (hone : f2 (plainF r) = 1)
    (hret : ∀ o1' o2' as1' as2' h' tk d', Fr g L h' m → News g L h' ((ig1, o1') :: (ig2, o2') :: R) → IgTold w f1 (n1 + 2) as1' o1' → IgTold w f2 (n2 + 1) as2' o2' → Q .next { s with heap := h', toks := tk, drawn := d' }) :
    wpAny (MM w) ((AL fs gd).deeper (lawE L)) (exec lt5 (lawE L)) Q E s := by
  rcases s with ⟨hp, gs, dr, tk0, os⟩
  dsimp only at F N hret
  subst hdue
  obtain ⟨ix1, ⟨ta1, tb1, tc1, hd1⟩, is1⟩ := id J1
  obtain ⟨ix2, ⟨ta2, tb2, tc2, hd2⟩, is2⟩ := id J2
  dsimp only [MM]; revert X; k_fill; intro X
  unfold lt5
  k_steps
  unfold Halt
  refine names_led (R := (ig2, o2) :: R) B X T F N (J1.mono fun p hp => .tail _ hp) t1 (fun p hp => ?_) (by omega) _ false _ _ (.inr ⟨⟨_, rfl⟩, rfl⟩) (.inr hf1) hml fun ta oa ha tka da Fa Na ta1 => ?_
  · rcases List.mem_cons.mp hp with rfl | hp
    · exact Ne.symm off12
    · exact off1 p hp
  clear F N
  dsimp only
  k_steps
  unfold Halt
  refine names_led (R := (ig2, o2) :: R) B X T Fa Na (J1.mono fun p hp => .tail _ hp) ta1 (fun p hp => ?_) (by omega) _ true _ _ (.inl ⟨rfl, rfl⟩) (.inl (.head _)) hml fun tb ob hb tkb db Fb Nb tb1 => ?_
  · rcases List.mem_cons.mp hp with rfl | hp
    · exact Ne.symm off12
    · exact off1 p hp
  clear Fa Na
  dsimp only
  k_steps
  unfold Halt
  (with_reducible rename Fr _ _ _ _ => Fc)
  (with_reducible rename News _ _ _ _ => Nc)
  refine names_led (o := o2) (R := (ig1, ob) :: R) B X T Fc (fun q hq => Nc q ?_) (J2.mono fun p hp => .tail _ hp) t2 (fun p hp => ?_) (by omega) _ true _ _ (.inl ⟨rfl, rfl⟩) (.inr hf2) hml fun tc oc hc tkc dc Fd Nd tc1 => ?_
  · rcases List.mem_cons.mp hq with rfl | hq
    · exact .tail _ (.tail _ (.tail _ (.head _)))
    rcases List.mem_cons.mp hq with rfl | hq
    · exact .tail _ (.tail _ (.head _))
    · exact .tail _ (.tail _ (.tail _ (.tail _ hq)))
  · rcases List.mem_cons.mp hp with rfl | hp
    · exact off12
    · exact off2 p hp
  rw [hone]
  clear Fc Nc
  dsimp only
  k_steps
  refine hret ob oc _ _ _ _ _ Fd (fun q hq => Nd q ?_) tb1 tc1
  rcases List.mem_cons.mp hq with rfl | hq
  · exact .tail _ (.head _)
  rcases List.mem_cons.mp hq with rfl | hq
  · exact .head _
  · exact .tail _ (.tail _ hq)
end
end Lk
section Ll
section
theorem rules_Ll_1 : True := by
  k_with_none
  k_with "exec If" => (refine wpAny_If ?_)
  k_with "mem" => ((first | exact List.Mem.head _ | (with_reducible_and_instances assumption) | exact List.mem_append_right _ (by with_reducible assumption) | (refine' List.Mem.tail _ ?_; k_mem)))
  trivial
noncomputable abbrev lt6 : Stmt := by
  refine' (?g : ∀ l : Stmt, tB 5 = l → Stmt) _ ?h
  case g => exact fun l _ => l
  all_goals try (conv => lhs; whnf)
end
section
set_option pp.maxSteps 6000
theorem rules_Ll_2 : True := by
  k_with_none
  k_with "exec If" => (refine wpAny_If ?_)
  k_with "mem" => ((first | exact List.Mem.head _ | (with_reducible_and_instances assumption) | exact List.mem_append_right _ (by with_reducible assumption) | (refine' List.Mem.tail _ ?_; k_mem)))
  k_with "eval Name" => ((k_here; k_dflt (refine' ldE ?k1 ?k2 ?_ (by rfl) (by rfl) (by decide); (case k1 => k_asm); (case k2 => ((repeat (first | with_reducible assumption | (with_reducible exact upd_here) | (with_reducible apply upd_there; (focus (decide))))); done)); k_whole)))
  k_with "eval Name" => ((k_here; (with_reducible rename Obj.data _ = Data.cell (some _) => hrow); refine ldRow (by k_asm) (by k_mem) hrow ?_))
  k_with "call ref" => ((k_here; (with_reducible show wpAny _ _ (call (Value.ref 302) _) _ _ _); refine Halt.out ?_))
  trivial
theorem turn6 {w : World} {s : Shared} {Q : Flow → Shared → Prop} {E : Value → Shared → Prop} {g : Heap} {base : Heap} {fs : List Env} {gd : Option (List Code)} {L Dr : Addr} {m : Str → Option Value} {R : List (Addr × Obj)} {p : Program} {loose : List Str} {mean : ExcName → Option Value} {mg mb : Str → Option Value} {rc : Obj} {yr : List Value} {cr : Nat}
    (B : Below (AL fs gd) base fs g) (X : (KF w.params).In g) (T : Top p loose mean mg mb g) (F : Fr g L s.heap m) (N : News g L s.heap R)
    (r : List Int) (hr : r ∈ allRows) (hc : (L + 1, rc) ∈ R) (hrc : rc.data = .cell (some (.ref Dr))) (hD : (Dr, lsC yr cr) ∈ R) (hyr : IntsAre yr r)
    (hret : ∀ ta tb h' tk, Fr g L h' (upd (upd m "safe" (.str (sixF r (Str.ofString "-_")) tb)) "text" (.str (sixF r (Str.ofString "+/")) ta)) → News g L h' R → Q .next { s with heap := h', toks := tk }) :
    wpAny (MM w) ((AL fs gd).deeper (lawE L)) (exec lt6 (lawE L)) Q E s := by
  rcases s with ⟨hp, gs, dr, tk0, os⟩
  dsimp only at F N hret
  dsimp only [MM]; revert X; k_fill; intro X
  unfold lt6
  k_steps
  unfold Halt
  refine sixes_all (Rdy.of_walk B F X T rfl rfl (Nat.le_of_ble_eq_true rfl) (Nat.le_of_ble_eq_true rfl) rfl) _ _ _ (News.isList N hD) hyr (all_oct hr) (all_len hr).1 (all_len hr).2 _ _ (by decide +kernel) fun ta ha tka ka => ?_
  have Fa := fr_keep F ka
  have Na := news_keep N ka
  clear F N
  dsimp only
  k_steps
  unfold Halt
  refine sixes_all (Rdy.of_walk B Fa X T rfl rfl (Nat.le_of_ble_eq_true rfl) (Nat.le_of_ble_eq_true rfl) rfl) _ _ _ (News.isList Na hD) hyr (all_oct hr) (all_len hr).1 (all_len hr).2 _ _ (by decide +kernel) fun tb hb tkb kb => ?_
  have Fb := fr_keep Fa kb
  have Nb := news_keep Na kb
  clear Fa Na
  dsimp only
  k_steps
  (with_reducible rename Fr _ _ _ _ => Fc)
  (with_reducible rename News _ _ _ _ => Nc)
  exact hret _ _ _ _ Fc (news_tail Nc)
end
end Ll
section Lm
section
theorem rules_Lm_1 : True := by
  k_with_none
  k_with "exec If" => (refine wpAny_If ?_)
  k_with "mem" => ((first | exact List.Mem.head _ | (with_reducible_and_instances assumption) | exact List.mem_append_right _ (by with_reducible assumption) | (refine' List.Mem.tail _ ?_; k_mem)))
  trivial
theorem eqAt_bytes {A : Around} {s : Shared} (b : Array UInt8) (t u : Tok) : SeqAt.EqAt A s (.bytes b t) (.bytes b u) true := fun prog w E Q h => PySem.W.eqBool_bytes (by rw [decide_eq_true rfl]; exact h)
/-- two lists of the same two bytes -/
theorem ne_two_bytes {prog : Program} {w : World} {A : Around} {E : Value → Shared → Prop} {s : Shared} {l l2 : Addr} {b c : Array UInt8} {t u t' u' : Tok} {Q : Value → Shared → Prop} (hl : s.heap.IsList l #[.bytes b t, .bytes c u]) (hl2 : s.heap.IsList l2 #[.bytes b t', .bytes c u'])
    (hu : A.units < cLine) (h : Q (.bool false) s) : wpAny (model prog w) A (compareOp .NotEq (.ref l) (.ref l2)) Q E s := by
  refine SeqAt.RcNeAt.lists (e := fun _ => true) hl hl2 rfl hu (fun j h1 h2 => ?_) prog w E Q h
  have : j = 0 ∨ j = 1 := by
    have : j < 2 := h1
    omega
  rcases this with rfl | rfl
  · exact eqAt_bytes b t t'
  · exact eqAt_bytes c u u'
noncomputable def asc (x : Str) : Array UInt8 := x.cps.map fun c => c.toUInt8
noncomputable abbrev safeF (r : List Int) : Str := sixF r (Str.ofString "-_")
noncomputable abbrev textF (r : List Int) : Str := sixF r (Str.ofString "+/")
noncomputable def encN (n : Nat) : Nat := bif n == 43 then 45 else bif n == 47 then 95 else n
noncomputable def decN (n : Nat) : Nat := bif n == 45 then 43 else bif n == 95 then 47 else n
theorem tab_six : (allRows.all fun r => (fun T S : List Nat => T.all (Nat.blt · 128) && S.all (Nat.blt · 128) && T.length == 4 && S.length == 4 && T.map encN == S && S.map decN == T) (codes (textF r)) (codes (safeF r))) = true := by decide +kernel
theorem six_B {r : List Int} (hr : r ∈ allRows) : ((∀ c ∈ codes (textF r), c < 128) ∧ (∀ c ∈ codes (safeF r), c < 128)) ∧ ((codes (textF r)).length = 4 ∧ (codes (safeF r)).length = 4) ∧ (codes (textF r)).map encN = codes (safeF r) ∧ (codes (safeF r)).map decN = codes (textF r) := by
  have h := List.all_eq_true.mp tab_six r hr
  dsimp only at h
  simp only [Bool.and_eq_true, beq_iff_eq, List.all_eq_true, Nat.blt_eq] at h
  obtain ⟨⟨⟨⟨⟨h1, h2⟩, h3⟩, h4⟩, h5⟩, h6⟩ := h
  exact ⟨⟨h1, h2⟩, ⟨h3, h4⟩, h5, h6⟩
/-- a table that turns letters below 128 by f -/
theorem tr_asc {tab : Array UInt8} {f : Nat → Nat} (h : (List.range 128).all (fun n => tab.getD n n.toUInt8 == (f n).toUInt8) = true) {x y : Str} (hx : ∀ c ∈ codes x, c < 128) (e : (codes x).map f = codes y) : trF tab (asc x) = asc y := by
  refine Array.toList_inj.mp ?_
  have e2 : (asc y).toList = (codes y).map (fun c => c.toUInt8) := Array.toList_map
  have e1 : (asc x).toList = (codes x).map (fun c => c.toUInt8) := Array.toList_map
  rw [e2, ← e]
  unfold trF
  rw [Array.toList_map, Array.toList_filter, e1, show ∀ l : List UInt8, l.filter (fun c => !(#[] : Array UInt8).contains c) = l from fun l => List.filter_eq_self.mpr fun a _ => by simp, List.map_map, List.map_map]
  refine List.map_congr_left fun c hc => ?_
  have hc := hx c hc
  have := eq_of_beq (List.all_eq_true.mp h c (List.mem_range.mpr hc))
  show tab.getD c.toUInt8.toNat c.toUInt8 = (f c).toUInt8
  rw [show c.toUInt8.toNat = c from Nat.mod_eq_of_lt (Nat.lt_trans hc (by decide)), this]
theorem six_enc {r : List Int} (hr : r ∈ allRows) : b64F (byF r) = asc (sixF r (Str.ofString "+/")) := of_decide_eq_true (rows_all (P := fun r => decide (b64F (byF r) = asc (textF r))) (by decide +kernel) hr)
theorem six_url {r : List Int} (hr : r ∈ allRows) : trF encTab (b64F (byF r)) = asc (sixF r (Str.ofString "-_")) := by rw [six_enc hr]; exact tr_asc (by decide +kernel) (six_B hr).1.1 (six_B hr).2.2.1
theorem tr_safe {r : List Int} (hr : r ∈ allRows) : trF decTab (asc (safeF r)) = asc (textF r) := tr_asc (by decide +kernel) (six_B hr).1.2 (six_B hr).2.2.2
theorem six_asc {r : List Int} (hr : r ∈ allRows) : (∀ c ∈ (sixF r (Str.ofString "+/")).cps, c < 128) ∧ (∀ c ∈ (sixF r (Str.ofString "-_")).cps, c < 128) := ⟨fun c hc => (six_B hr).1.1 c (Array.mem_toList_iff.mpr hc), fun c hc => (six_B hr).1.2 c (Array.mem_toList_iff.mpr hc)⟩
theorem six_four {r : List Int} (hr : r ∈ allRows) : (sixF r (Str.ofString "+/")).length = 4 ∧ (sixF r (Str.ofString "-_")).length = 4 := (six_B hr).2.1
noncomputable abbrev lt7 : Stmt := by
  refine' (?g : ∀ l : Stmt, tB 6 = l → Stmt) _ ?h
  case g => exact fun l _ => l
  all_goals try (conv => lhs; whnf)
end
section
set_option pp.maxSteps 6000
theorem rules_Lm_2 : True := by
  k_with_none
  k_with "exec If" => (refine wpAny_If ?_)
  k_with "mem" => ((first | exact List.Mem.head _ | (with_reducible_and_instances assumption) | exact List.mem_append_right _ (by with_reducible assumption) | (refine' List.Mem.tail _ ?_; k_mem)))
  k_with "eval Name" => ((k_here; k_dflt (refine' ldE ?k1 ?k2 ?_ (by rfl) (by rfl) (by decide); (case k1 => k_asm); (case k2 => ((repeat (first | with_reducible assumption | (with_reducible exact upd_here) | (with_reducible apply upd_there; (focus (decide))))); done)); k_whole)))
  k_with "eval Name" => ((k_here; (with_reducible rename Obj.data _ = Data.cell (some _) => hrow); refine ldRow (by k_asm) (by k_mem) hrow ?_))
  k_with "call ref" => (refine Halt.out ?_)
  k_with "call type:bytes" => (refine Halt.out ?_)
  k_with "getMethod str" => (((with_reducible show wpAny _ _ (getMethod (Value.str _ _) (Str.ofString "encode") _) _ _ _); refine meth_encode ?_))
  k_with "call builtin:str.encode" => ((refine call_encode (by with_reducible assumption) (by omega) (by rw [sizeLine_eq]; omega) ?_; intro te))
  k_with "compareOp NotEq ref ref" => (refine Halt.out ?_)
  trivial
theorem turn7 {w : World} {s : Shared} {Q : Flow → Shared → Prop} {E : Value → Shared → Prop} {g : Heap} {base : Heap} {fs : List Env} {gd : Option (List Code)} {L Dr : Addr} {m : Str → Option Value} {R : List (Addr × Obj)} {p : Program} {loose : List Str} {mean : ExcName → Option Value} {mg mb : Str → Option Value} {rc : Obj} {yr : List Value} {cr : Nat}
    (B : Below (AL fs gd) base fs g) (X : (KF w.params).In g) (T : Top p loose mean mg mb g) (F : Fr g L s.heap m) (N : News g L s.heap R)
    (r : List Int) (ta tb : Tok) (hr : r ∈ allRows) (hc : (L + 1, rc) ∈ R) (hrc : rc.data = .cell (some (.ref Dr))) (hD : (Dr, lsC yr cr) ∈ R) (hyr : IntsAre yr r) (hmt : m "text" = some (.str (sixF r (Str.ofString "+/")) ta)) (hms : m "safe" = some (.str (sixF r (Str.ofString "-_")) tb))
    (hret : ∀ h' tk, Fr g L h' m → News g L h' R → Q .next { s with heap := h', toks := tk }) :
    wpAny (MM w) ((AL fs gd).deeper (lawE L)) (exec lt7 (lawE L)) Q E s := by
  rcases s with ⟨hp, gs, dr, tk0, os⟩
  dsimp only at F N hret
  have hl := all_len hr
  obtain ⟨q1, q2⟩ := six_asc hr
  obtain ⟨q3, q4⟩ := six_four hr
  have hbl : (byF r).length = r.length := List.length_map ..
  dsimp only [MM]; revert X; k_fill; intro X
  unfold lt7
  k_steps
  unfold Halt
  refine bytes_K F N (News.isList N hD) hyr (all_oct hr) (by rw [hyr.length, sizeLine_eq]; omega) rfl fun h1 t1 k1 F1 N1 _ => ?_
  clear F N
  dsimp only
  k_steps
  unfold Halt
  refine b64e_spec (Rdy.of_walk B F1 X T rfl rfl (Nat.le_of_ble_eq_true rfl) (Nat.le_of_ble_eq_true rfl) rfl) (byF r) _ (by omega) (by omega) fun t2 h2 tk2 k2 => ?_
  have F2 := fr_keep F1 k2
  have N2 := news_keep N1 k2
  clear F1 N1
  rw [six_enc hr]
  dsimp only
  k_steps
  unfold Halt
  refine bytes_K F2 N2 (News.isList N2 hD) hyr (all_oct hr) (by rw [hyr.length, sizeLine_eq]; omega) rfl fun h3 t3 k3 F3 N3 _ => ?_
  clear F2 N2
  dsimp only
  k_steps
  unfold Halt
  refine b64u_spec (Rdy.of_walk B F3 X T rfl rfl (Nat.le_of_ble_eq_true rfl) (Nat.le_of_ble_eq_true rfl) rfl) (byF r) _ (by omega) (by omega) fun t4 h4 tk4 k4 => ?_
  have F4 := fr_keep F3 k4
  have N4 := news_keep N3 k4
  clear F3 N3
  rw [six_url hr]
  dsimp only
  k_steps
  unfold Halt
  (with_reducible rename Fr _ _ _ _ => F5)
  (with_reducible rename News _ _ _ _ => N5)
  refine ne_two_bytes (News.isList N5 (.tail _ (.head _))) (News.isList N5 (.head _)) (Nat.le_of_ble_eq_true rfl) ?_
  k_steps
  exact hret _ _ F5 (news_tail (news_tail N5))
end
end Lm
section Ln
section
theorem rules_Ln_1 : True := by
  k_with_none
  k_with "exec If" => (refine wpAny_If ?_)
  k_with "mem" => ((first | exact List.Mem.head _ | (with_reducible_and_instances assumption) | exact List.mem_append_right _ (by with_reducible assumption) | (refine' List.Mem.tail _ ?_; k_mem)))
  trivial
theorem tab_safe : (allRows.all fun r => (fun S : List Nat => !(S.contains 47) && !(S.contains 46) && (S.headD 46 != 46) && decide (S.length ≤ 20)) (codes (safeF r))) = true := by decide +kernel
theorem safe_B {r : List Int} (hr : r ∈ allRows) : namedB (safeF r ++ Str.ofString ".py") (safeF r) = true ∧ namedB (safeF r) (safeF r) = true := by
  have h := List.all_eq_true.mp tab_safe r hr
  dsimp only at h
  rw [Bool.and_eq_true, Bool.and_eq_true, Bool.and_eq_true, decide_eq_true_iff] at h
  obtain ⟨⟨⟨h1, h4⟩, h2⟩, h3⟩ := h
  have h1 := not_has h1
  have h4 := not_has h4
  have e : (safeF r ++ Str.ofString ".py").cps.toList = codes (safeF r) ++ 46 :: [112, 121] := by
    rw [codes_app, show codes (Str.ofString ".py") = [46, 112, 121] by decide +kernel]
  have hn : 47 ∉ codes (safeF r) ++ 46 :: [112, 121] := by simp [h1]
  have hb := base_self (x := safeF r) h1
  refine ⟨named_dotB ?_ ((base_self (by rw [e]; exact hn)).trans e) (by decide) hn (head_ne h2) rfl, named_plainB (Nat.le_trans h3 (by decide)) (by rw [hb]; exact h4) (by rw [hb]; exact h1) hb⟩
  rw [len_list, e]
  simp only [List.length_append, List.length_cons, List.length_nil]
  omega
theorem name_safe {w : World} {r : List Int} (hr : r ∈ allRows) : Named w (safeF r ++ Str.ofString ".py") (safeF r) := named_of (safe_B hr).1
theorem name_safe0 {w : World} {r : List Int} (hr : r ∈ allRows) : Named w (safeF r) (safeF r) := named_of (safe_B hr).2
/-- what stands behind the last stroke -/
noncomputable def lastF (x : Str) : Str := (Txt.split x (Str.ofString "/")).getD ((Txt.split x (Str.ofString "/")).length - 1) (Str.ofString "")
theorem tab_text : (allRows.all fun r => (fun W Z : List Nat => !(Z.contains 47) && !(Z.contains 46) && (W == W.take (W.length - Z.length - 1) ++ 47 :: Z) && decide (W.length ≤ 20)) ([47, 100, 46, 101, 47] ++ codes (textF r)) (codes (lastF (textF r)))) = true := by decide +kernel
theorem text_B {r : List Int} (hr : r ∈ allRows) : namedB (Str.ofString "/d.e/" ++ textF r ++ Str.ofString "_.py") (lastF (textF r) ++ Str.ofString "_") = true := by
  have h := List.all_eq_true.mp tab_text r hr
  dsimp only at h
  rw [Bool.and_eq_true, Bool.and_eq_true, Bool.and_eq_true, decide_eq_true_iff, beq_iff_eq] at h
  obtain ⟨⟨⟨h1, h4⟩, h2⟩, h3⟩ := h
  have h1 := not_has h1
  have h4 := not_has h4
  generalize hZ : codes (lastF (textF r)) = Z at h1 h2 h4
  have e : (Str.ofString "/d.e/" ++ textF r ++ Str.ofString "_.py").cps.toList = ([47, 100, 46, 101, 47] ++ codes (textF r)) ++ [95, 46, 112, 121] := by
    rw [codes_app, codes, codes_app, show codes (Str.ofString "/d.e/") = [47, 100, 46, 101, 47] by decide +kernel, show codes (Str.ofString "_.py") = [95, 46, 112, 121] by decide +kernel]
  have el : (Str.ofString "/d.e/" ++ textF r ++ Str.ofString "_.py").length ≤ 1000 := by
    rw [len_list, e, List.length_append]
    exact Nat.le_trans (Nat.add_le_add_right h3 _) (by decide)
  generalize [47, 100, 46, 101, 47] ++ codes (textF r) = W at e h2
  have e2 : (Str.ofString "/d.e/" ++ textF r ++ Str.ofString "_.py").cps.toList = W.take (W.length - Z.length - 1) ++ 47 :: ((Z ++ [95]) ++ 46 :: [112, 121]) := by
    rw [e]
    conv => lhs; rw [h2]
    simp
  have hn : 47 ∉ (Z ++ [95]) ++ 46 :: [112, 121] := by simp [h1]
  refine named_dotB el (base_after e2 hn) (by decide) hn ?_ ?_
  · cases Z with
    | nil => exact ⟨95, [], rfl, by decide⟩
    | cons c l => exact ⟨c, l ++ [95], rfl, fun q => h4 (q ▸ .head _)⟩
  · rw [codes_app, hZ]; rfl
theorem name_text {w : World} {r : List Int} (hr : r ∈ allRows) : Named w (Str.ofString "/d.e/" ++ textF r ++ Str.ofString "_.py") (lastF (textF r) ++ Str.ofString "_") := named_of (text_B hr)
theorem last_of {x y : Str} {l : List (Str × Tok)} (h1 : l.map (fun x => x.1) = Txt.split x (Str.ofString "/")) (h2 : (l.map (fun x => x.1))[(-1 + (l.length : Int)).toNat]? = some y) : y = lastF x := by
  unfold lastF
  rw [← h1, List.length_map, List.getD_eq_getElem?_getD, show l.length - 1 = (-1 + (l.length : Int)).toNat from by rw [Int.add_comm, ← Int.sub_eq_add_neg]; exact (Int.toNat_sub l.length 1).symm, h2]
  rfl
noncomputable abbrev decP (v : Array UInt8) (i : Nat) (c : UInt8) : Prop := (((c.toNat : Nat) : Int) = 61 ∧ 2 ≤ (dfold ((KBw.bInts v).take i)).q ∧ (dfold ((KBw.bInts v).take i)).q + (dfold ((KBw.bInts v).take i)).p + 1 ≤ 4) ∨ (((c.toNat : Nat) : Int) ≠ 61 ∧ b64v ((c.toNat : Nat) : Int) < 64 ∧ (dfold ((KBw.bInts v).take i)).p = 0 ∧ 0 ≤ (dfold ((KBw.bInts v).take i)).l ∧ (dfold ((KBw.bInts v).take i)).l < 64)
noncomputable abbrev decOk (v : Array UInt8) (b : List UInt8) : Prop := v.size = 4 ∧ (∀ i ∈ List.range 4, decP v i (v.getD i 0)) ∧ ((dfold (KBw.bInts v)).q ≠ 1 ∧ ((dfold (KBw.bInts v)).q = 0 ∨ 4 ≤ (dfold (KBw.bInts v)).q + (dfold (KBw.bInts v)).p)) ∧ (∀ o ∈ (dfold (KBw.bInts v)).o, 0 ≤ o ∧ o < 256) ∧ (dfold (KBw.bInts v)).o.length ≤ 3 ∧ (dfold (KBw.bInts v)).o.map (fun o => o.toNat.toUInt8) = b
theorem dec_ok {r : List Int} (hr : r ∈ allRows) : decOk (asc (textF r)) (byF r) := of_decide_eq_true (rows_all (P := fun r => decide (decOk (asc (textF r)) (byF r))) (by decide +kernel) hr)
theorem dec_row {w : World} {A : Around} {s : Shared} {Q E : Value → Shared → Prop} (R : Rdy w 400 A s.heap) {r : List Int} (hr : r ∈ allRows) (tx : Tok)
    (hret : ∀ t h' tk', (∀ b o, s.heap.get? b = some o → h'.get? b = some o) → Q (.bytes (byF r).toArray t) { s with heap := h', toks := tk' }) :
    wpAny (MM w) A (call (.ref 251) [.str (safeF r) tx]) Q E s := by
  obtain ⟨h1, h2, h3, h4, h5, h6⟩ := dec_ok hr
  refine b64d_spec R (safeF r) tx (asc (textF r)) (dfold (KBw.bInts (asc (textF r)))) (six_asc hr).2 (six_four hr).2 (tr_safe hr) h1 (fun i c e => ?_) rfl h3 h4 h5 ?_
  · have hi : i < 4 := by
      rcases Nat.lt_or_ge i 4 with h | h
      · exact h
      · rw [Array.getElem?_eq_none (by omega)] at e; cases e
    have := h2 i (List.mem_range.mpr hi)
    rw [Array.getD_eq_getD_getElem?, e] at this
    exact this
  · intro t h' tk' k
    rw [h6]
    exact hret t h' tk' k
noncomputable abbrev lt8 : Stmt := by
  refine' (?g : ∀ l : Stmt, tB 7 = l → Stmt) _ ?h
  case g => exact fun l _ => l
  all_goals try (conv => lhs; whnf)
end
section
set_option pp.maxSteps 6000
theorem rules_Ln_2 : True := by
  k_with_none
  k_with "exec If" => (refine wpAny_If ?_)
  k_with "mem" => ((first | exact List.Mem.head _ | (with_reducible_and_instances assumption) | exact List.mem_append_right _ (by with_reducible assumption) | (refine' List.Mem.tail _ ?_; k_mem)))
  k_with "eval Name" => ((k_here; k_dflt (refine' ldE ?k1 ?k2 ?_ (by rfl) (by rfl) (by decide); (case k1 => k_asm); (case k2 => ((repeat (first | with_reducible assumption | (with_reducible exact upd_here) | (with_reducible apply upd_there; (focus (decide))))); done)); k_whole)))
  k_with "eval Name" => ((k_here; (with_reducible rename Obj.data _ = Data.cell (some _) => hrow); refine ldRow (by k_asm) (by k_mem) hrow ?_))
  k_with "call ref" => (refine Halt.out ?_)
  k_with "call type:bytes" => (refine Halt.out ?_)
  k_with "compareOp NotEq str str" => ((refine ne_same_str ?_))
  trivial
theorem turn8 {w : World} {s : Shared} {Q : Flow → Shared → Prop} {E : Value → Shared → Prop} {g : Heap} {base : Heap} {fs : List Env} {gd : Option (List Code)} {L Dr : Addr} {m : Str → Option Value} {R : List (Addr × Obj)} {p : Program} {loose : List Str} {mean : ExcName → Option Value} {mg mb : Str → Option Value} {rc : Obj} {yr : List Value} {cr : Nat}
    (B : Below (AL fs gd) base fs g) (X : (KF w.params).In g) (T : Top p loose mean mg mb g) (F : Fr g L s.heap m) (N : News g L s.heap R)
    (r : List Int) (ta tb : Tok) (hr : r ∈ allRows) (hc : (L + 1, rc) ∈ R) (hrc : rc.data = .cell (some (.ref Dr))) (hD : (Dr, lsC yr cr) ∈ R) (hyr : IntsAre yr r) (hmt : m "text" = some (.str (textF r) ta)) (hms : m "safe" = some (.str (safeF r) tb))
    (hret : ∀ h' tk, Fr g L h' m → News g L h' R → Q .next { s with heap := h', toks := tk }) :
    wpAny (MM w) ((AL fs gd).deeper (lawE L)) (exec lt8 (lawE L)) Q E s := by
  rcases s with ⟨hp, gs, dr, tk0, os⟩
  dsimp only at F N hret
  have hl := all_len hr
  obtain ⟨q3, q4⟩ := six_four hr
  have hlt : (textF r).length ≤ 20 := by show (sixF r (Str.ofString "+/")).length ≤ 20; omega
  have hls : (safeF r).length ≤ 20 := by show (sixF r (Str.ofString "-_")).length ≤ 20; omega
  have hnm := name_text (w := w) hr
  have hn2 := name_safe (w := w) hr
  have hn3 := name_safe0 (w := w) hr
  have hdec := fun (A : Around) (s : Shared) (Q E : Value → Shared → Prop) (R : Rdy w 400 A s.heap) => dec_row (Q := Q) (E := E) R hr
  generalize textF r = tx at *
  generalize safeF r = sx at *
  dsimp only [MM]; revert X; k_fill; intro X
  unfold lt8
  k_steps
  unfold Halt
  refine named_call hnm (Rdy.of_walk B F X T rfl rfl (Nat.le_of_ble_eq_true rfl) (Nat.le_of_ble_eq_true rfl) rfl) fun t1 h1 tk1 k1 => ?_
  have F1 := fr_keep F k1
  have N1 := news_keep N k1
  clear F N
  dsimp only
  k_steps
  rename_i hy
  rename List.map _ _ = Txt.split _ _ => hsp
  rename ∀ a ∈ List.map _ _, _ => hle
  have hyl := Nat.le_trans (hle _ (List.mem_of_getElem? hy)) hlt
  obtain rfl := last_of hsp hy
  clear hy hle hsp
  dsimp only
  k_steps
  unfold Halt
  (with_reducible rename Fr _ _ _ _ => F2)
  (with_reducible rename News _ _ _ _ => N2)
  refine named_call hn2 (Rdy.of_walk B F2 X T rfl rfl (Nat.le_of_ble_eq_true rfl) (Nat.le_of_ble_eq_true rfl) rfl) fun t3 h3 tk3 k3 => ?_
  have F3 := fr_keep F2 k3
  have N3 := news_keep N2 k3
  clear F2 N2
  dsimp only
  k_steps
  unfold Halt
  refine named_call hn3 (Rdy.of_walk B F3 X T rfl rfl (Nat.le_of_ble_eq_true rfl) (Nat.le_of_ble_eq_true rfl) rfl) fun t4 h4 tk4 k4 => ?_
  have F4 := fr_keep F3 k4
  have N4 := news_keep N3 k4
  clear F3 N3
  dsimp only
  k_steps
  unfold Halt
  refine hdec _ _ _ _ (Rdy.of_walk B F4 X T rfl rfl (Nat.le_of_ble_eq_true rfl) (Nat.le_of_ble_eq_true rfl) rfl) _ fun t5 h5 tk5 k5 => ?_
  have F5 := fr_keep F4 k5
  have N5 := news_keep N4 k5
  clear F4 N4
  dsimp only
  k_steps
  unfold Halt
  refine bytes_K F5 N5 (News.isList N5 (.tail _ hD)) hyr (all_oct hr) (by rw [hyr.length, sizeLine_eq]; omega) rfl fun h6 t6 k6 F6 N6 _ => ?_
  refine ne_same_bytes ?_
  clear F5 N5
  dsimp only
  k_steps
  exact hret _ _ F6 (news_tail N6)
end
end Ln
section Lo
section
theorem rules_Lo_1 : True := by
  k_with_none
  k_with "exec If" => (refine wpAny_If ?_)
  k_with "mem" => ((first | exact List.Mem.head _ | (with_reducible_and_instances assumption) | exact List.mem_append_right _ (by with_reducible assumption) | (refine' List.Mem.tail _ ?_; k_mem)))
  trivial
/-- the body of law's loop -/
noncomputable abbrev lwB : List Stmt := [lt1, lt2, lt3, lt4, lt5, lt6, lt7, lt8]
theorem law_body {w : World} {s : Shared} {Q : Flow → Shared → Prop} {E : Value → Shared → Prop} {g : Heap} {base : Heap} {fs : List Env} {gd : Option (List Code)} {L Dr lo x1 dx1 st1 ds1 ig1 x2 dx2 st2 ds2 ig2 : Addr} {m : Str → Option Value} {S R : List (Addr × Obj)} {p : Program} {loose : List Str} {mean : ExcName → Option Value} {mg mb : Str → Option Value} {ps : Array Value} {rc o1 o2 : Obj} {yr vo : List Value} {cr co : Nat} {os : List (List Int)} {f1 f2 : Str → Int} {ms as1 as2 : List Str} {n1 n2 : Nat}
    (B : Below (AL fs gd) base fs g) (X : (KF w.params).In g) (T : Top p loose mean mg mb g) (hE : PassesOwn (MM w) ((AL fs gd).deeper (lawE L)) (lawE L) E) (F : Fr g L s.heap m) (N : News g L s.heap ((309, tabObj ps) :: (ig1, o1) :: (ig2, o2) :: R))
    (x : TabOk ps S) (sub : ∀ p ∈ S, p ∈ R) (off : OffA 309 ((ig1, o1) :: (ig2, o2) :: R))
    (J1 : IgnL w ms x1 dx1 st1 ds1 ig1 R) (J2 : IgnL w ms x2 dx2 st2 ds2 ig2 R) (t1 : IgTold w f1 n1 as1 o1) (t2 : IgTold w f2 n2 as2 o2) (off1 : OffA ig1 R) (off2 : OffA ig2 R) (off12 : ig1 ≠ ig2)
    (r : List Int) (t : Tok) (hr : r ∈ allRows) (hm : m "module" = some (.str (plainF r) t)) (hm1 : m "ignore" = some (.ref x1)) (hm2 : m "other" = some (.ref x2)) (hmo : m "out" = some (.ref lo))
    (hlo : (lo, lsC vo co) ∈ R) (hos : RowsIn R vo os) (hoa : ∀ r ∈ os, r ∈ allRows) (hol : os.length ≤ 10) (hc : (L + 1, rc) ∈ R) (hrc : rc.data = .cell (some (.ref Dr))) (hD : (Dr, lsC yr cr) ∈ R) (hyr : IntsAre yr r)
    (hn1 : n1 ≤ 900) (hn2 : n2 ≤ 900) (hml : ∀ y ∈ ms, y.length ≤ 1000) (hf1 : outI ms false (plainF r) = f1 (plainF r)) (hdue : f1 (plainF r) = dueF os r) (hf2 : outI ms true (plainF r) = f2 (plainF r)) (hone : f2 (plainF r) = 1)
    (hret : ∀ m' nw ps' o1' o2' as1' as2' h' tk d', (∀ y, y ≠ Str.ofString "turns" → y ≠ Str.ofString "due" → y ≠ Str.ofString "text" → y ≠ Str.ofString "safe" → m' y = m y) → Fr g L h' m' → News g L h' ((309, tabObj ps') :: (ig1, o1') :: (ig2, o2') :: (nw ++ R)) →
      TabOk ps' (nw ++ S) → (∀ p ∈ nw, p.1 ≠ 309 ∧ ∀ q ∈ (ig1, o1) :: (ig2, o2) :: R, q.1 < p.1) → IgTold w f1 (n1 + 2) as1' o1' → IgTold w f2 (n2 + 1) as2' o2' → Q .next { s with heap := h', toks := tk, drawn := d' }) :
    wpAny (MM w) ((AL fs gd).deeper (lawE L)) (execs lwB (lawE L)) Q E s := by
  rcases s with ⟨hp, gs, dr, tk0, oss⟩
  dsimp only at F N hret
  have c1 : ∀ p ∈ R, p ∈ (ig1, o1) :: (ig2, o2) :: R := fun p hp => .tail _ (.tail _ hp)
  refine wpAny_execs_cons (turn1 B X T F N r t hr hm fun h1 k1 F1 N1 => ?_)
  refine wpAny_execs_cons (turn2 B X T F1 N1 x (fun p hp => c1 p (sub p hp)) off r t hr hm (c1 _ hc) hrc (c1 _ hD) hyr fun nw2 ps2 h2 k2 F2 N2 x2 off2' lt2 => ?_)
  have c2 : ∀ p ∈ R, p ∈ nw2 ++ (ig1, o1) :: (ig2, o2) :: R := fun p hp => List.mem_append_right _ (c1 p hp)
  refine wpAny_execs_cons (turn3 B X T F2 N2 x2 (fun p hp => ?_) off2' r t hr hm (c2 _ hc) hrc (c2 _ hD) hyr hE fun m3 nw3 ps3 h3 k3 e3 F3 N3 x3 off3 lt3 => ?_)
  · rcases List.mem_append.mp hp with hp | hp
    · exact List.mem_append_left _ hp
    · exact c2 _ (sub p hp)
  have c3 : ∀ p ∈ R, p ∈ (309, tabObj ps3) :: (nw3 ++ (nw2 ++ (ig1, o1) :: (ig2, o2) :: R)) := fun p hp => .tail _ (List.mem_append_right _ (c2 p hp))
  refine wpAny_execs_cons (turn4 B X T F3 N3 r hr (by rw [e3 _ (by decide)]; exact hmo) (c3 _ hlo) (hos.mono c3) hoa hol (c3 _ hc) hrc (c3 _ hD) hyr fun td h4 k4 F4 N4 => ?_)
  have a309 : ig1 ≠ 309 ∧ ig2 ≠ 309 := ⟨off (ig1, o1) (.head _), off (ig2, o2) (.tail _ (.head _))⟩
  have m1 : (ig1, o1) ∈ nw2 ++ (ig1, o1) :: (ig2, o2) :: R := List.mem_append_right _ (.head _)
  have m2 : (ig2, o2) ∈ nw2 ++ (ig1, o1) :: (ig2, o2) :: R := List.mem_append_right _ (.tail _ (.head _))
  have k5 : ∀ p ∈ R, p ∈ (309, tabObj ps3) :: (nw3 ++ (nw2 ++ R)) := fun p hp => .tail _ (List.mem_append_right _ (List.mem_append_right _ hp))
  refine wpAny_execs_cons (turn5 (R := (309, tabObj ps3) :: (nw3 ++ (nw2 ++ R))) B X T F4 (fun q hq => N4 q ?_) (J1.mono k5) (J2.mono k5) t1 t2 (fun p hp => ?_) (fun p hp => ?_) off12 r t td (dueF os r) hr
    (upd_there (by decide) ((e3 _ (by decide)).trans hm)) upd_here (upd_there (by decide) ((e3 _ (by decide)).trans hm1)) (upd_there (by decide) ((e3 _ (by decide)).trans hm2)) hn1 hn2 hml hf1 hdue hf2 hone fun o1' o2' as1' as2' h5 tk5 d5 F5 N5 t1' t2' => ?_)
  · rcases List.mem_cons.mp hq with rfl | hq
    · exact .tail _ (List.mem_append_right _ m1)
    rcases List.mem_cons.mp hq with rfl | hq
    · exact .tail _ (List.mem_append_right _ m2)
    rcases List.mem_cons.mp hq with rfl | hq
    · exact .head _
    rcases List.mem_append.mp hq with hq | hq
    · exact .tail _ (List.mem_append_left _ hq)
    rcases List.mem_append.mp hq with hq | hq
    · exact .tail _ (List.mem_append_right _ (List.mem_append_left _ hq))
    · exact c3 _ hq
  · rcases List.mem_cons.mp hp with rfl | hp
    · exact Ne.symm a309.1
    rcases List.mem_append.mp hp with hp | hp
    · exact Nat.ne_of_gt (lt3 p hp _ m1)
    rcases List.mem_append.mp hp with hp | hp
    · exact Nat.ne_of_gt (lt2 p hp _ (.head _))
    · exact off1 p hp
  · rcases List.mem_cons.mp hp with rfl | hp
    · exact Ne.symm a309.2
    rcases List.mem_append.mp hp with hp | hp
    · exact Nat.ne_of_gt (lt3 p hp _ m2)
    rcases List.mem_append.mp hp with hp | hp
    · exact Nat.ne_of_gt (lt2 p hp _ (.tail _ (.head _)))
    · exact off2 p hp
  have k6 : ∀ p ∈ R, p ∈ (ig1, o1') :: (ig2, o2') :: (309, tabObj ps3) :: (nw3 ++ (nw2 ++ R)) := fun p hp => .tail _ (.tail _ (k5 p hp))
  refine wpAny_execs_cons (turn6 B X T F5 N5 r hr (k6 _ hc) hrc (k6 _ hD) hyr fun ta tb h6 tk6 F6 N6 => ?_)
  refine wpAny_execs_cons (turn7 B X T F6 N6 r ta tb hr (k6 _ hc) hrc (k6 _ hD) hyr upd_here (upd_there (by decide) upd_here) fun h7 tk7 F7 N7 => ?_)
  refine wpAny_execs_cons (turn8 B X T F7 N7 r ta tb hr (k6 _ hc) hrc (k6 _ hD) hyr upd_here (upd_there (by decide) upd_here) fun h8 tk8 F8 N8 => ?_)
  refine wpAny_execs_nil (hret _ (nw3 ++ nw2) ps3 o1' o2' as1' as2' h8 tk8 d5 (fun y y1 y2 y3 y4 => ?_) F8 (fun q hq => N8 q ?_) (by rw [List.append_assoc]; exact x3) (fun p hp => ⟨?_, fun q hq => ?_⟩) t1' t2')
  · unfold upd
    rw [if_neg y3, if_neg y4, if_neg y2, e3 y y1]
  · rcases List.mem_cons.mp hq with rfl | hq
    · exact .tail _ (.tail _ (.head _))
    rcases List.mem_cons.mp hq with rfl | hq
    · exact .head _
    rcases List.mem_cons.mp hq with rfl | hq
    · exact .tail _ (.head _)
    · rw [List.append_assoc] at hq
      exact .tail _ (.tail _ (.tail _ hq))
  · rcases List.mem_append.mp hp with hp | hp
    · exact off3 p (List.mem_append_left _ hp)
    · exact off2' p (List.mem_append_left _ hp)
  · rcases List.mem_append.mp hp with hp | hp
    · exact lt3 p hp q (List.mem_append_right _ hq)
    · exact lt2 p hp q hq
end
end Lo
section Lp
section
variable {prog : Program} {w : World} {A : Around} {E : Value → Shared → Prop} {s : Shared} {env : Env} {h₀ : Heap} {target : Expr} {body : List Stmt} {Q : Flow → Shared → Prop}
theorem rules_Lp_1 : True := by
  k_with_none
  k_with "exec If" => (refine wpAny_If ?_)
  k_with "mem" => ((first | exact List.Mem.head _ | (with_reducible_and_instances assumption) | exact List.mem_append_right _ (by with_reducible assumption) | (refine' List.Mem.tail _ ?_; k_mem)))
  trivial
/-- what a turn leaves; what was drawn may have changed -/
noncomputable def StepD (h₀ : Heap) (L : Addr) (wr : List Addr) (own : List (Addr × Obj)) (J : (Str → Option Value) → List (Addr × Obj) → Prop) (s₁ : Shared) (Qr : Value → Shared → Prop) (fl : Flow) (s₂ : Shared) : Prop :=
  match fl with
  | .ret v => Qr v s₂
  | .brk => False
  | _ => ∃ h' tk d m' nw, s₂ = { s₁ with heap := h', toks := tk, drawn := d } ∧ Fr h₀ L h' m' ∧ News h₀ L h' (own ++ nw) ∧ (∀ p ∈ nw, p.1 ∉ wr) ∧ J m' nw
theorem loopD {R : Result → Shared → Prop} {I : Addr} {fp wr : List Addr} {n : Nat} {P Md : Nat → Value → Heap → Prop} {St : Nat → Heap → Prop} {m : Str → Option Value} {news : List (Addr × Obj)} (W : KTurns prog w A target I fp wr n P Md St)
    (hLf : env.locals ∉ fp) (hwr : ∀ b ∈ wr, h₀.get? b = none) (hnw : ∀ p ∈ news, p.1 ∉ wr) (hst : St 0 s.heap) (F : Fr h₀ env.locals s.heap m) (N : News h₀ env.locals s.heap news)
    (J : Nat → (Str → Option Value) → List (Addr × Obj) → Prop) (h0 : J 0 m news)
    (step : ∀ i v m₁ news₁ h₁ tk₁ d₁ own, i < n → P i v h₁ → J i m₁ news₁ → (∀ p ∈ news₁, p.1 ∉ wr) → (∀ p ∈ own, p.1 ∈ fp) → (∀ b ∈ fp, h₀.get? b = none → ∀ o, h₁.get? b = some o → (b, o) ∈ own) → St (i + 1) h₁ → Fr h₀ env.locals h₁ m₁ → News h₀ env.locals h₁ (own ++ news₁) →
      wpAny (model prog w) A (assign target env v) (fun _ s₂ => wpAny (model prog w) A (execs body env)
        (StepD h₀ env.locals wr own (J (i + 1)) s (fun v s' => R (.ok (.ret v)) s')) (notedBy (model prog w) A env fun e s' => R (.error e) s') s₂) (notedBy (model prog w) A env fun e s' => R (.error e) s') { s with heap := h₁, toks := tk₁, drawn := d₁ })
    (hR : ∀ h' tk d m' news', Fr h₀ env.locals h' m' → News h₀ env.locals h' news' → J n m' news' → R (.ok .next) { s with heap := h', toks := tk, drawn := d }) :
    codeAny (model prog w) A (.forLoop target (.ref I) body [] env) R s := by
  have hLw : env.locals ∉ wr := fun h => hLf (W.sub _ h)
  have old : ∀ b o, h₀.get? b = some o → b ∉ wr := fun b o e hb => by rw [hwr b hb] at e; cases e
  refine codeAny_forLoop_any
    (fun k s' => ∃ h' tk d m' news' i, s' = { s with heap := h', toks := tk, drawn := d } ∧ St i h' ∧ Fr h₀ env.locals h' m' ∧ News h₀ env.locals h' news' ∧ (∀ p ∈ news', p.1 ∉ wr) ∧ J i m' news' ∧ i ≤ n ∧ k = n + 1 - i) ?_ (n + 1)
    ⟨s.heap, s.toks, s.drawn, m, news, 0, rfl, hst, F, N, hnw, h0, Nat.zero_le _, rfl⟩
  rintro k s' ⟨h', tk, d, m', news', i, rfl, hst', F', N', hnw', hJ, hi, rfl⟩
  have next : ∀ h₁ : Heap, (∀ b o, b ∉ wr → h'.get? b = some o → h₁.get? b = some o) → Fr h₀ env.locals h₁ m' ∧ News h₀ env.locals h₁ news' := fun h₁ hk₁ =>
    ⟨⟨F'.ns.at' fun o e => hk₁ _ o hLw e, fun b o e => hk₁ b o (old b o e) (F'.keep b o e), F'.above⟩, fun p hp => ⟨hk₁ _ _ (hnw' p hp) (N' p hp).1, (N' p hp).2⟩⟩
  by_cases hlt : i < n
  · refine W.item i _ _ _ hlt hst' fun v h₁ tk₁ hMd hk₁ => ?_
    refine W.go i v _ _ _ hMd fun h₂ hP hst₂ hk₂ => ?_
    obtain ⟨F₂, N₂⟩ := next h₂ fun b o hb x => hk₂ b o hb (hk₁ b o hb x)
    have Nown : News h₀ env.locals h₂ (PyProof.Rows.ownOf h₀ fp h₂) := news_ownOf hLf
    have goOn : ∀ fl s₃, fl = Flow.next ∨ fl = Flow.cont → (∃ h' tk d m' nw, s₃ = { s with heap := h', toks := tk, drawn := d } ∧ Fr h₀ env.locals h' m' ∧ News h₀ env.locals h' (PyProof.Rows.ownOf h₀ fp h₂ ++ nw) ∧ (∀ p ∈ nw, p.1 ∉ wr) ∧ J (i + 1) m' nw) →
        ∃ k, k < n + 1 - i ∧ ∃ h' tk d m' news' i, s₃ = { s with heap := h', toks := tk, drawn := d } ∧ St i h' ∧ Fr h₀ env.locals h' m' ∧ News h₀ env.locals h' news' ∧ (∀ p ∈ news', p.1 ∉ wr) ∧ J i m' news' ∧ i ≤ n ∧ k = n + 1 - i := by
      rintro fl s₃ _ ⟨h₃', tk₃, d₃, m₂, news₂, rfl, F₃, N₃, ha₃, hJ₃⟩
      refine ⟨n + 1 - (i + 1), by omega, h₃', tk₃, d₃, m₂, news₂, i + 1, rfl, ?_, F₃, N₃.right, ha₃, hJ₃, hlt, rfl⟩
      refine W.frame _ _ _ hst₂ fun b hb o e => ?_
      cases hn : h₀.get? b with
      | some o₀ =>
        have : o₀ = o := by have q := F₂.keep b o₀ hn; rw [e] at q; exact (Option.some.inj q).symm
        exact this ▸ F₃.keep b o₀ hn
      | none => exact (N₃ _ (List.mem_append_left _ (mem_ownOf hb hn e))).1
    refine wpAny_mono (step i v m' news' h₂ tk₁ d (PyProof.Rows.ownOf h₀ fp h₂) hlt hP hJ hnw' ownOf_sub (fun b hb hn o e => mem_ownOf hb hn e) hst₂ F₂ (Nown.append N₂)) (fun _ s₂ h₂' => wpAny_mono h₂' (fun f s₃ h₃ => ?_) fun _ _ e => e) fun _ _ e => e
    cases f with
    | ret v => exact h₃
    | brk => exact h₃.elim
    | cont => exact goOn .cont s₃ (.inr rfl) h₃
    | next => exact goOn .next s₃ (.inl rfl) h₃
  · have hin : i = n := by omega
    subst hin
    refine W.done _ _ _ hst' fun h₁ tk₁ hk₁ => wpAny_execs_nil ?_
    obtain ⟨F₁, N₁⟩ := next h₁ hk₁
    exact hR h₁ tk₁ d m' news' F₁ N₁ hJ
/-- the addresses that a walk over zip(l1, l2) looks at, and those it writes -/
noncomputable def zipFp (I l1 l2 : Addr) : List Addr := [I + 4, I + 2, I + 3, I, I + 1, l1, l2]
noncomputable def zipWr (I : Addr) : List Addr := [I + 4, I + 3, I, I + 1]
theorem zipD {elts : List Expr} {k : Nat} {pos : Pos} {l1 l2 : Addr} {xs ys : List Value} {n1 n2 : Nat} {m₀ : Str → Option Value} {news : List (Addr × Obj)} (hh : A.handled = none) (F : Fr h₀ env.locals s.heap m₀) (N : News h₀ env.locals s.heap news) (hm1 : (l1, lsC xs n1) ∈ news) (hm2 : (l2, lsC ys n2) ∈ news) (hlen : ys.length = xs.length)
    (hE : PassesOwn (model prog w) A env E) (J : Nat → (Str → Option Value) → List (Addr × Obj) → Prop) (h0 : J 0 m₀ news)
    (step : ∀ (I : Addr) i x y T m₁ news₁ h₁ tk₁ d₁ own, (∀ p ∈ news, p.1 < I) → xs[i]? = some x → ys[i]? = some y → h₁.IsTuple T #[x, y] → J i m₁ news₁ → (∀ p ∈ news₁, p.1 ∉ zipWr I) → (∀ p ∈ own, p.1 ∈ zipFp I l1 l2) → (∀ b ∈ zipWr I, ∃ o, (b, o) ∈ own) →
      Fr h₀ env.locals h₁ m₁ → News h₀ env.locals h₁ (own ++ news₁) →
      wpAny (model prog w) A (assign (.Tuple elts k pos) env (.ref T)) (fun _ s₂ => wpAny (model prog w) A (execs body env) (StepD h₀ env.locals (zipWr I) own (J (i + 1)) s (fun v s' => Q (.ret v) s')) E s₂) E { s with heap := h₁, toks := tk₁, drawn := d₁ })
    (hQ : ∀ h' tk d m' news', Fr h₀ env.locals h' m' → News h₀ env.locals h' news' → J xs.length m' news' → Q .next { s with heap := h', toks := tk, drawn := d }) :
    wpAny (model prog w) A (call (.type "zip") [.ref l1, .ref l2]) (fun xv s₁ => wpAny (model prog w) A (pyIter xv) (fun it s₂ =>
      codeAny (model prog w) A (.forLoop (.Tuple elts k pos) it body [] env) (fun r s' => match r with | .ok f => Q f s' | .error e => cameBackBy (model prog w) A env E e s') s₂) E s₁) E s := by
  have hax1 := N _ hm1
  have hax2 := N _ hm2
  have hl1 : s.heap.IsList l1 xs.toArray := News.isList N hm1
  have hl2 : s.heap.IsList l2 ys.toArray := News.isList N hm2
  have hlt1 : l1 < s.heap.objs.size := Heap.lt_size hax1.1
  have hlt2 : l2 < s.heap.objs.size := Heap.lt_size hax2.1
  have hLs : env.locals < s.heap.objs.size := F.ns.lt
  have D : ZipApart (s.heap.objs.size + 4) (s.heap.objs.size + 2) (s.heap.objs.size + 3) s.heap.objs.size (s.heap.objs.size + 1) l1 l2 := ktu_apart _ _ _ hlt1 hlt2
  have hmin : min xs.toArray.size ys.toArray.size = xs.length := by rw [List.size_toArray, List.size_toArray, hlen, Nat.min_self]
  refine call_zip_2 hl1 hl2 fun h' hz hTI hTO hi1 hi2 hsz hk => ?_
  refine wpAny_pyIter_zip hz ?_
  have isNew : ∀ b ∈ zipWr s.heap.objs.size, s.heap.objs.size ≤ b := fun b hb => by
    simp only [zipWr, List.mem_cons, List.not_mem_nil, or_false] at hb
    rcases hb with rfl | rfl | rfl | rfl <;> first | exact Nat.le_add_right _ _ | exact Nat.le_refl _
  refine loopD (s := { s with heap := h' }) (R := fun r s' => match r with | .ok f => Q f s' | .error e => cameBackBy (model prog w) A env E e s') (KTurns.ofWalksU (WalksT.zip2 hh _ _ _ _ _ _ _ D xs.toArray ys.toArray).toU) (fun hb => ?_) (fun b hb => ktu_new F (isNew b hb)) (fun p hp hb => absurd (Heap.lt_size (N p hp).1) (Nat.not_lt.mpr (isNew _ hb)))
    ⟨hz, hTI, ⟨_, _, hTO⟩, hi1, hi2, hl1.at fun o e => hk l1 o e, hl2.at fun o e => hk l2 o e⟩ (F.keeps hk) (N.grown hk) J h0 ?_ fun h₂ tk d m' news' F' N' hJ => hQ h₂ tk d m' news' F' N' (hmin ▸ hJ)
  · have hb' : env.locals = s.heap.objs.size + 4 ∨ env.locals = s.heap.objs.size + 2 ∨ env.locals = s.heap.objs.size + 3 ∨ env.locals = s.heap.objs.size ∨ env.locals = s.heap.objs.size + 1 ∨ env.locals = l1 ∨ env.locals = l2 := by simpa using hb
    rcases hb' with e | e | e | e | e | e | e
    · exact ktu_ne 4 hLs e
    · exact ktu_ne 2 hLs e
    · exact ktu_ne 3 hLs e
    · exact Nat.ne_of_lt hLs e
    · exact ktu_ne 1 hLs e
    · exact hax1.2.1 e.symm
    · exact hax2.2.1 e.symm
  · rintro i v m₁ news₁ h₁ tk₁ d₁ own hi ⟨T, vals, rfl, ⟨x, y, hx, hy, rfl⟩, hT⟩ hJ hnw hof hall hst F₁ N₁
    refine wpAny_mono (step s.heap.objs.size i x y T m₁ news₁ h₁ tk₁ d₁ own (fun p hp => Heap.lt_size (N p hp).1) (by simpa using hx) (by simpa using hy) hT hJ hnw hof (fun b hb => ?_) F₁ N₁) (fun _ _ q => wpAny_passesOwn hE q) hE
    obtain ⟨hz', hTI', ⟨a, c, hTO'⟩, ⟨p1, hp1, _⟩, ⟨p2, hp2, _⟩, _⟩ := hst
    have hn := ktu_new F (isNew b hb)
    simp only [zipWr, List.mem_cons, List.not_mem_nil, or_false] at hb
    rcases hb with rfl | rfl | rfl | rfl
    · exact ⟨_, hall _ (by simp) hn _ hz'⟩
    · exact ⟨_, hall _ (by simp) hn _ hTO'⟩
    · exact ⟨_, hall _ (by simp) hn _ hp1⟩
    · exact ⟨_, hall _ (by simp) hn _ hp2⟩
end
end Lp
section Lq
section
theorem rules_Lq_1 : True := by
  k_with_none
  k_with "exec If" => (refine wpAny_If ?_)
  k_with "mem" => ((first | exact List.Mem.head _ | (with_reducible_and_instances assumption) | exact List.mem_append_right _ (by with_reducible assumption) | (refine' List.Mem.tail _ ?_; k_mem)))
  trivial
noncomputable abbrev lw5 : Stmt := by
  refine' (?g : ∀ l : Stmt, sA lawS 5 = l → Stmt) _ ?h
  case g => exact fun l _ => l
  all_goals try (conv => lhs; whnf)
noncomputable def forT (s : Stmt) : Expr := (sK s).1.headD e0
noncomputable abbrev lw5T : Expr := by
  refine' (?g : ∀ l : Expr, forT (sA lawS 5) = l → Expr) _ ?h
  case g => exact fun l _ => l
  all_goals try (conv => lhs; whnf)
end
section
set_option pp.maxSteps 6000
theorem rules_Lq_2 : True := by
  k_with_none
  k_with "exec If" => (refine wpAny_If ?_)
  k_with "mem" => ((first | exact List.Mem.head _ | (with_reducible_and_instances assumption) | exact List.mem_append_right _ (by with_reducible assumption) | (refine' List.Mem.tail _ ?_; k_mem)))
  k_with "eval Name" => ((k_here; k_dflt (refine' ldE ?k1 ?k2 ?_ (by rfl) (by rfl) (by decide); (case k1 => k_asm); (case k2 => ((repeat (first | with_reducible assumption | (with_reducible exact upd_here) | (with_reducible apply upd_there; (focus (decide))))); done)); k_whole)))
  k_with "call type:zip" => (refine Halt.out ?_)
  k_with "storeName" => (refine Halt.out ?_)
  trivial
theorem law5_let {w : World} {s : Shared} {Q : Unit → Shared → Prop} {E : Value → Shared → Prop} {g : Heap} {base : Heap} {fs : List Env} {gd : Option (List Code)} {L T' : Addr} {m : Str → Option Value} {own rest : List (Addr × Obj)} {p : Program} {loose : List Str} {mean : ExcName → Option Value} {mg mb : Str → Option Value} {rc : Obj} {ov : Option Value} {x y : Value}
    (B : Below (AL fs gd) base fs g) (X : (KF w.params).In g) (T : Top p loose mean mg mb g) (F : Fr g L s.heap m) (N : News g L s.heap (own ++ (L + 1, rc) :: rest)) (hT : s.heap.IsTuple T' #[x, y]) (hrc : rc.data = .cell ov) (hw : ∀ p ∈ own, p.1 ≠ L + 1) (hr : ∀ p ∈ rest, p.1 ≠ L + 1)
    (hret : ∀ h' tk rc', Fr g L h' (upd m "module" y) → News g L h' (own ++ (L + 1, rc') :: rest) → rc'.data = .cell (some x) → Q () { s with heap := h', toks := tk }) :
    wpAny (MM w) ((AL fs gd).deeper (lawE L)) (assign lw5T (lawE L) (.ref T')) Q E s := by
  rcases s with ⟨hp, gs, dr, tk0, os⟩
  dsimp only at F N hT hret
  dsimp only [MM]; revert X; k_fill; intro X
  unfold lw5T
  k_steps
  unfold Halt
  (with_reducible rename Fr _ _ _ _ => F1)
  (with_reducible rename News _ _ _ _ => N1)
  refine stCN F1 N1 (by rfl) hrc hw hr (fun h2 rc' F2 N2 hd2 => ?_) (by rfl) (by rfl)
  clear F1 N1
  dsimp only
  k_steps
  unfold Halt
  refine stLocN F2 N2 (fun h3 F3 N3 => ?_) (by rfl) (by rfl)
  dsimp only
  k_steps
  exact hret h3 _ rc' F3 N3 hd2
end
section
theorem rules_Lq_3 : True := by
  k_with_none
  k_with "exec If" => (refine wpAny_If ?_)
  k_with "mem" => ((first | exact List.Mem.head _ | (with_reducible_and_instances assumption) | exact List.mem_append_right _ (by with_reducible assumption) | (refine' List.Mem.tail _ ?_; k_mem)))
  trivial
/-- what law's loop keeps -/
noncomputable def Law5J (w : World) (f1 f2 : Str → Int) (L ig1 ig2 : Addr) (m : Str → Option Value) (S R : List (Addr × Obj)) (i : Nat) (m' : Str → Option Value) (l : List (Addr × Obj)) : Prop :=
  ∃ nw ps o1 o2 as1 as2 rc ov, l = (L + 1, rc) :: (309, tabObj ps) :: (ig1, o1) :: (ig2, o2) :: (nw ++ R) ∧ rc.data = .cell ov ∧ TabOk ps (nw ++ S) ∧ IgTold w f1 (1 + 2 * i) as1 o1 ∧ IgTold w f2 (1 + i) as2 o2 ∧
    (∀ p ∈ nw, p.1 ≠ 309 ∧ p.1 ≠ ig1 ∧ p.1 ≠ ig2 ∧ p.1 ≠ L + 1) ∧ ∀ y, y ≠ Str.ofString "turns" → y ≠ Str.ofString "due" → y ≠ Str.ofString "text" → y ≠ Str.ofString "safe" → y ≠ Str.ofString "module" → m' y = m y
theorem zip_off {I l1 l2 a : Addr} {own : List (Addr × Obj)} (hof : ∀ p ∈ own, p.1 ∈ zipFp I l1 l2) (h : a < I) (h1 : l1 ≠ a) (h2 : l2 ≠ a) : ∀ p ∈ own, p.1 ≠ a := fun p hp e => by
  have hb := hof p hp
  rw [e] at hb
  simp only [zipFp, List.mem_cons, List.not_mem_nil, or_false] at hb
  rcases hb with e | e | e | e | e | e | e
  · exact ktu_ne 4 h e
  · exact ktu_ne 2 h e
  · exact ktu_ne 3 h e
  · exact Nat.ne_of_lt h e
  · exact ktu_ne 1 h e
  · exact h1 e.symm
  · exact h2 e.symm
end
section
set_option pp.maxSteps 6000
theorem rules_Lq_4 : True := by
  k_with_none
  k_with "exec If" => (refine wpAny_If ?_)
  k_with "mem" => ((first | exact List.Mem.head _ | (with_reducible_and_instances assumption) | exact List.mem_append_right _ (by with_reducible assumption) | (refine' List.Mem.tail _ ?_; k_mem)))
  k_with "eval Name" => ((k_here; k_dflt (refine' ldE ?k1 ?k2 ?_ (by rfl) (by rfl) (by decide); (case k1 => k_asm); (case k2 => ((repeat (first | with_reducible assumption | (with_reducible exact upd_here) | (with_reducible apply upd_there; (focus (decide))))); done)); k_whole)))
  k_with "call type:zip" => (refine Halt.out ?_)
  trivial
theorem law5 {w : World} {s : Shared} {Q : Flow → Shared → Prop} {E : Value → Shared → Prop} {g : Heap} {base : Heap} {fs : List Env} {gd : Option (List Code)} {L lr lm lo x1 dx1 st1 ds1 ig1 x2 dx2 st2 ds2 ig2 : Addr} {m : Str → Option Value} {S R : List (Addr × Obj)} {p : Program} {loose : List Str} {mean : ExcName → Option Value} {mg mb : Str → Option Value} {rc o1 o2 : Obj} {ov : Option Value} {vs mv vo : List Value} {cv cm co : Nat} {rs os : List (List Int)} {f1 f2 : Str → Int} {ms : List Str}
    (B : Below (AL fs gd) base fs g) (X : (KF w.params).In g) (T : Top p loose mean mg mb g) (hE : PassesOwn (MM w) ((AL fs gd).deeper (lawE L)) (lawE L) E) (F : Fr g L s.heap m) (N : News g L s.heap ((L + 1, rc) :: (309, tabObj #[]) :: (ig1, o1) :: (ig2, o2) :: R)) (hrc : rc.data = .cell ov)
    (sub : ∀ p ∈ S, p ∈ R) (offT : OffA 309 R) (off1 : OffA ig1 R) (off2 : OffA ig2 R) (offL : OffA (L + 1) R) (d1 : 309 ≠ L + 1) (d2 : ig1 ≠ L + 1) (d3 : ig2 ≠ L + 1) (d4 : ig1 ≠ 309) (d5 : ig2 ≠ 309) (d6 : ig1 ≠ ig2)
    (J1 : IgnL w ms x1 dx1 st1 ds1 ig1 R) (J2 : IgnL w ms x2 dx2 st2 ds2 ig2 R) (t1 : IgTold w f1 1 [] o1) (t2 : IgTold w f2 1 [] o2)
    (hmr : m "rows" = some (.ref lr)) (hmm : m "modules" = some (.ref lm)) (hm1 : m "ignore" = some (.ref x1)) (hm2 : m "other" = some (.ref x2)) (hmo : m "out" = some (.ref lo))
    (hlr : (lr, lsC vs cv) ∈ R) (hlm : (lm, lsC mv cm) ∈ R) (hlo : (lo, lsC vo co) ∈ R) (hrs : RowsIn R vs rs) (hms : StrsAre mv (rs.map plainF)) (hos : RowsIn R vo os) (ha : ∀ r ∈ rs, r ∈ allRows) (hoa : ∀ r ∈ os, r ∈ allRows) (hol : os.length ≤ 10) (hlen : rs.length ≤ 10)
    (hml : ∀ y ∈ ms, y.length ≤ 1000) (hf1 : ∀ r ∈ rs, outI ms false (plainF r) = f1 (plainF r)) (hdue : ∀ r ∈ rs, f1 (plainF r) = dueF os r) (hf2 : ∀ r ∈ rs, outI ms true (plainF r) = f2 (plainF r)) (hone : ∀ r ∈ rs, f2 (plainF r) = 1)
    (hret : ∀ m' l h' tk d', Law5J w f1 f2 L ig1 ig2 m S R rs.length m' l → Fr g L h' m' → News g L h' l → Q .next { s with heap := h', toks := tk, drawn := d' }) :
    wpAny (MM w) ((AL fs gd).deeper (lawE L)) (exec lw5 (lawE L)) Q E s := by
  rcases s with ⟨hp, gs, dr, tk0, oss⟩
  dsimp only at F N hret
  have c0 : ∀ p ∈ R, p ∈ (L + 1, rc) :: (309, tabObj #[]) :: (ig1, o1) :: (ig2, o2) :: R := fun p hp => .tail _ (.tail _ (.tail _ (.tail _ hp)))
  unfold lw5
  refine wpAny_For ?_ (by intro _; rfl)
  have X' := X
  have F' := F
  have N' := N
  revert X; k_fill; intro X
  k_steps
  unfold Halt
  have hvl : mv.length = vs.length := by rw [StrsAre.len_eq hms, List.length_map, hrs.1]
  refine zipD (s := ⟨hp, gs, dr, tk0, oss⟩) rfl F' N' (c0 _ hlr) (c0 _ hlm) hvl hE (Law5J w f1 f2 L ig1 ig2 m S R) ⟨[], #[], o1, o2, [], [], rc, ov, rfl, hrc, .nil, t1, t2, (fun p hp => nomatch hp), fun _ _ _ _ _ _ => rfl⟩ ?_ fun h' tk d m' l F2 N2 hJ => hret m' l h' tk d (hrs.1 ▸ hJ) F2 N2
  intro I i x y T2 m₁ news₁ h₁ tk₁ d₁ own hI hx hy hT hJ hnw hof hall F1 N1
  clear F N F' N' t1 t2 hrc
  have i1 : L + 1 < I := hI (L + 1, rc) (.head _)
  have i2 : 309 < I := hI (309, tabObj #[]) (.tail _ (.head _))
  have i3 : ig1 < I := hI (ig1, o1) (.tail _ (.tail _ (.head _)))
  have i4 : ig2 < I := hI (ig2, o2) (.tail _ (.tail _ (.tail _ (.head _))))
  clear hI c0
  obtain ⟨nw, ps, p1, p2, as1, as2, rc1, ov1, rfl, hrc1, htab, t1, t2, hnwf, hme⟩ := hJ
  have oL := zip_off hof i1 (offL _ hlr) (offL _ hlm)
  have oT := zip_off hof i2 (offT _ hlr) (offT _ hlm)
  have oA := zip_off hof i3 (off1 _ hlr) (off1 _ hlm)
  have oB := zip_off hof i4 (off2 _ hlr) (off2 _ hlm)
  obtain ⟨r, hri⟩ : ∃ r, rs[i]? = some r := by
    have := (List.getElem?_eq_some_iff.mp hx).1
    exact ⟨_, List.getElem?_eq_getElem (hrs.1 ▸ this)⟩
  have hi10 : i < 10 := Nat.lt_of_lt_of_le (List.getElem?_eq_some_iff.mp hri).1 hlen
  have hrm := List.mem_of_getElem? hri
  obtain ⟨Dr, yr, cr, hv, hDr, hyr⟩ := hrs.2 i r hri
  rw [hx] at hv
  obtain rfl := Option.some.inj hv
  obtain ⟨tx, ty, rfl, htx⟩ := strs_at hms hy
  rw [List.getElem?_map, hri] at htx
  obtain rfl : plainF r = tx := Option.some.inj htx
  refine law5_let B X' T F1 N1 hT hrc1 oL (fun q hq => ?_) fun h2 tk2 rc2 F2 N2 hrc2 => ?_
  · rcases List.mem_cons.mp hq with rfl | hq
    · exact d1
    rcases List.mem_cons.mp hq with rfl | hq
    · exact d2
    rcases List.mem_cons.mp hq with rfl | hq
    · exact d3
    rcases List.mem_append.mp hq with hq | hq
    · exact (hnwf q hq).2.2.2
    · exact offL q hq
  have cR : ∀ p ∈ R, p ∈ (L + 1, rc2) :: (own ++ (nw ++ R)) := fun p hp => .tail _ (List.mem_append_right _ (List.mem_append_right _ hp))
  have offs : ∀ a, (L + 1 ≠ a) → (∀ p ∈ own, p.1 ≠ a) → (∀ p ∈ nw, p.1 ≠ a) → OffA a R → OffA a ((L + 1, rc2) :: (own ++ (nw ++ R))) := fun a h1 h2 h3 h4 p hp => by
    rcases List.mem_cons.mp hp with rfl | hp
    · exact h1
    rcases List.mem_append.mp hp with hp | hp
    · exact h2 p hp
    rcases List.mem_append.mp hp with hp | hp
    · exact h3 p hp
    · exact h4 p hp
  have offT' := offs 309 (Ne.symm d1) oT (fun p hp => (hnwf p hp).1) offT
  have ms5 : ∀ z, z ≠ Str.ofString "turns" → z ≠ Str.ofString "due" → z ≠ Str.ofString "text" → z ≠ Str.ofString "safe" → z ≠ Str.ofString "module" → ∀ u, m z = some u → upd m₁ (Str.ofString "module") (.str (plainF r) ty) z = some u := fun z a b c d e u hu => upd_there e ((hme z a b c d e).trans hu)
  refine law_body (S := nw ++ S) (R := (L + 1, rc2) :: (own ++ (nw ++ R))) B X' T hE F2 (fun q hq => N2 q ?_) htab (fun q hq => ?_) (fun q hq => ?_) (J1.mono cR) (J2.mono cR) t1 t2 (offs ig1 (Ne.symm d2) oA (fun p hp => (hnwf p hp).2.1) off1) (offs ig2 (Ne.symm d3) oB (fun p hp => (hnwf p hp).2.2.1) off2) d6
    r ty (ha r hrm) upd_here (ms5 _ (by decide) (by decide) (by decide) (by decide) (by decide) _ hm1) (ms5 _ (by decide) (by decide) (by decide) (by decide) (by decide) _ hm2) (ms5 _ (by decide) (by decide) (by decide) (by decide) (by decide) _ hmo)
    (cR _ hlo) (hos.mono cR) hoa hol (.head _) hrc2 (cR _ hDr) hyr (by omega) (by omega) hml (hf1 r hrm) (hdue r hrm) (hf2 r hrm) (hone r hrm) fun m3 nw3 ps3 o3 o4 as3 as4 h3 tk3 d3' e3 F3 N3 x3 lt3 t3 t4 => ?_
  · rcases List.mem_cons.mp hq with rfl | hq
    · exact List.mem_append_right _ (.tail _ (.head _))
    rcases List.mem_cons.mp hq with rfl | hq
    · exact List.mem_append_right _ (.tail _ (.tail _ (.head _)))
    rcases List.mem_cons.mp hq with rfl | hq
    · exact List.mem_append_right _ (.tail _ (.tail _ (.tail _ (.head _))))
    rcases List.mem_cons.mp hq with rfl | hq
    · exact List.mem_append_right _ (.head _)
    rcases List.mem_append.mp hq with hq | hq
    · exact List.mem_append_left _ hq
    · exact List.mem_append_right _ (.tail _ (.tail _ (.tail _ (.tail _ hq))))
  · rcases List.mem_append.mp hq with hq | hq
    · exact .tail _ (List.mem_append_right _ (List.mem_append_left _ hq))
    · exact cR _ (sub _ hq)
  · rcases List.mem_cons.mp hq with rfl | hq
    · exact d4
    rcases List.mem_cons.mp hq with rfl | hq
    · exact d5
    · exact offT' q hq
  have above : ∀ p ∈ nw3, ∀ q ∈ (L + 1, rc2) :: (own ++ (nw ++ R)), q.1 < p.1 := fun p hp q hq => (lt3 p hp).2 q (.tail _ (.tail _ hq))
  refine ⟨h3, tk3, d3', m3, (L + 1, rc2) :: (309, tabObj ps3) :: (ig1, o3) :: (ig2, o4) :: ((nw3 ++ nw) ++ R), rfl, F3, fun q hq => N3 q ?_, fun q hq hb => ?_, nw3 ++ nw, ps3, o3, o4, as3, as4, rc2, _, rfl, hrc2, ?_, ?_, ?_, fun q hq => ?_, fun z a b c d e => ?_⟩
  · rcases List.mem_append.mp hq with hq | hq
    · exact .tail _ (.tail _ (.tail _ (List.mem_append_right _ (.tail _ (List.mem_append_left _ hq)))))
    rcases List.mem_cons.mp hq with rfl | hq
    · exact .tail _ (.tail _ (.tail _ (List.mem_append_right _ (.head _))))
    rcases List.mem_cons.mp hq with rfl | hq
    · exact .head _
    rcases List.mem_cons.mp hq with rfl | hq
    · exact .tail _ (.head _)
    rcases List.mem_cons.mp hq with rfl | hq
    · exact .tail _ (.tail _ (.head _))
    rw [List.append_assoc] at hq
    rcases List.mem_append.mp hq with hq | hq
    · exact .tail _ (.tail _ (.tail _ (List.mem_append_left _ hq)))
    · exact .tail _ (.tail _ (.tail _ (List.mem_append_right _ (.tail _ (List.mem_append_right _ hq)))))
  · rcases List.mem_cons.mp hq with rfl | hq
    · exact hnw (L + 1, rc1) (.head _) hb
    rcases List.mem_cons.mp hq with rfl | hq
    · exact hnw (309, tabObj ps) (.tail _ (.head _)) hb
    rcases List.mem_cons.mp hq with rfl | hq
    · exact hnw (ig1, p1) (.tail _ (.tail _ (.head _))) hb
    rcases List.mem_cons.mp hq with rfl | hq
    · exact hnw (ig2, p2) (.tail _ (.tail _ (.tail _ (.head _)))) hb
    rw [List.append_assoc] at hq
    rcases List.mem_append.mp hq with hq | hq
    · obtain ⟨o, ho⟩ := hall _ hb
      exact Nat.lt_irrefl q.1 (above q hq (q.1, o) (.tail _ (List.mem_append_left _ ho)))
    · exact hnw q (.tail _ (.tail _ (.tail _ (.tail _ hq)))) hb
  · rw [List.append_assoc]; exact x3
  · exact t3
  · exact t4
  · rcases List.mem_append.mp hq with hq | hq
    · exact ⟨(lt3 q hq).1, Nat.ne_of_gt ((lt3 q hq).2 (ig1, p1) (.head _)), Nat.ne_of_gt ((lt3 q hq).2 (ig2, p2) (.tail _ (.head _))), Nat.ne_of_gt (above q hq _ (.head _))⟩
    · exact hnwf q hq
  · rw [e3 z a b c d]
    exact (if_neg e).trans (hme z a b c d e)
end
end Lq
section Lr
section
theorem rules_Lr_1 : True := by
  k_with_none
  k_with "exec If" => (refine wpAny_If ?_)
  k_with "mem" => ((first | exact List.Mem.head _ | (with_reducible_and_instances assumption) | exact List.mem_append_right _ (by with_reducible assumption) | (refine' List.Mem.tail _ ?_; k_mem)))
  trivial
noncomputable abbrev lw6 : Stmt := by
  refine' (?g : ∀ l : Stmt, sA lawS 6 = l → Stmt) _ ?h
  case g => exact fun l _ => l
  all_goals try (conv => lhs; whnf)
end
section
theorem rows_is {g h : Heap} {L : Addr} {S : List (Addr × Obj)} (N : News g L h S) : ∀ {vs : List Value} {rs : List (List Int)}, RowsIn S vs rs → ∀ p ∈ vs.zip rs, RowIs h p
  | [], _, _ => fun p hp => by simp at hp
  | _ :: _, [], x => nomatch x.1
  | v :: vs, r :: rs, x => fun p hp => by
    obtain ⟨⟨D, ys, c, rfl, hm, hi⟩, x2⟩ := x.uncons
    rcases List.mem_cons.mp hp with rfl | hp
    · exact ⟨D, ys, rfl, News.isList N hm, hi⟩
    · exact rows_is N x2 p hp
theorem compSrc_any {prog : Program} {w : World} {A : Around} {h₀ : Heap} {L ax : Addr} {m : Str → Option Value} {env : Env} {elt : Expr} {x : Str} {scope : Scope} {cl : List (Str × Addr)} {Fin : Shared → List Value → List (Addr × Obj) → Prop} {its : Array Value} {news : List (Addr × Obj)} {s₁ : Shared}
    (hh : A.handled = none) (F : Fr h₀ L s₁.heap m) (N : News h₀ L s₁.heap news) (hl : s₁.heap.IsList ax its) (hsz : its.size ≤ sizeLine)
    (h : ∀ news', (∀ p ∈ news, p ∈ news') → LCg.SrcAt h₀ ax its news' → ∀ g, LCg.CompRest prog w A h₀ L m env elt x scope cl { s₁ with heap := g } (LCg.SrcAt h₀ ax its) (fun i v => its[i]? = some v) (Fin { s₁ with heap := g }) its.size 0 [] news') :
    LCg.CompSrc prog w A h₀ L m env elt x scope cl Fin (.ref ax) s₁ := by
  obtain ⟨o, ho, hc, n, hd⟩ := hl
  cases q : h₀.get? ax with
  | some o' =>
    have e := F.keep _ _ q
    rw [ho] at e
    obtain rfl := Option.some.inj e
    have hs : LCg.SrcAt h₀ ax its news := .inl ⟨o, q, hc, n, hd⟩
    exact .inl ⟨ax, its, news, rfl, hh, F, N, hs, hsz, fun _ ⟨g, e⟩ => e ▸ h news (fun _ hp => hp) hs g⟩
  | none =>
    have hL : ax ≠ L := fun e => by
      obtain ⟨oL, es, ep, h1, h2, _⟩ := F.ns
      rw [e, h1] at ho
      rw [Option.some.inj ho, hd] at h2
      cases h2
    have hs : LCg.SrcAt h₀ ax its ((ax, o) :: news) := .inr ⟨o, .head _, hc, n, hd⟩
    refine .inl ⟨ax, its, (ax, o) :: news, rfl, hh, F, fun p hp => ?_, hs, hsz, fun _ ⟨g, e⟩ => e ▸ h _ (fun _ hp => .tail _ hp) hs g⟩
    rcases List.mem_cons.mp hp with rfl | hp
    · exact ⟨ho, hL, q⟩
    · exact N p hp
theorem rows_zip {S : List (Addr × Obj)} {vs : List Value} {rs : List (List Int)} (h : RowsIn S vs rs) : ∀ l : List (Value × List Int), (∀ p ∈ l, p ∈ vs.zip rs) → RowsIn S (l.map (·.1)) (l.map (·.2))
  | [], _ => .nil
  | q :: l, hq => by
    have ih := rows_zip h l fun p hp => hq p (.tail _ hp)
    obtain ⟨i, hi⟩ := List.mem_iff_getElem?.mp (hq q (.head _))
    rw [List.getElem?_zip_eq_some] at hi
    obtain ⟨D, ys, c, e, hm, hys⟩ := h.2 i q.2 hi.2
    have e1 : q.1 = .ref D := Option.some.inj (hi.1.symm.trans e)
    rw [List.map_cons, List.map_cons, e1]
    exact ih.cons hm hys
end
section
set_option pp.maxSteps 6000
theorem rules_Lr_2 : True := by
  k_with_none
  k_with "exec If" => (refine wpAny_If ?_)
  k_with "mem" => ((first | exact List.Mem.head _ | (with_reducible_and_instances assumption) | exact List.mem_append_right _ (by with_reducible assumption) | (refine' List.Mem.tail _ ?_; k_mem)))
  k_with "eval ListComp" => ((k_here; k_dflt (refine LCg.ListComp_U (F₀ := by k_asm) (by first | rfl | with_unfolding_all rfl) (by decide) (by rfl) (by decide) (by rfl) ?_)))
  k_with "eval Name" => ((k_here; k_dflt (refine' ldE ?k1 ?k2 ?_ (by rfl) (by rfl) (by decide); (case k1 => k_asm); (case k2 => ((repeat (first | with_reducible assumption | (with_reducible exact upd_here) | (with_reducible apply upd_there; (focus (decide))))); done)); k_whole)))
  k_with "eval Lambda" => (refine Halt.out ?_)
  k_with "call ref" => (refine Halt.out ?_)
  k_with "call builtin:sorted" => (refine Halt.out ?_)
  trivial
theorem law6 {w : World} {s : Shared} {Q : Flow → Shared → Prop} {E : Value → Shared → Prop} {g : Heap} {base : Heap} {fs : List Env} {gd : Option (List Code)} {L lr lm : Addr} {m : Str → Option Value} {S R : List (Addr × Obj)} {p : Program} {loose : List Str} {mean : ExcName → Option Value} {mg mb : Str → Option Value} {ps : Array Value} {vs mv : List Value} {cv cm : Nat} {rs : List (List Int)}
    (B : Below (AL fs gd) base fs g) (X : (KF w.params).In g) (T : Top p loose mean mg mb g) (F : Fr g L s.heap m) (N : News g L s.heap ((309, tabObj ps) :: (268, tabObj #[]) :: R)) (x : TabOk ps S) (sub : ∀ p ∈ S, p ∈ R) (off : OffA 309 ((268, tabObj #[]) :: R)) (off8 : OffA 268 R)
    (hmr : m "rows" = some (.ref lr)) (hmm : m "modules" = some (.ref lm)) (hlr : (lr, lsC vs cv) ∈ R) (hlm : (lm, lsC mv cm) ∈ R) (hrs : RowsIn R vs rs) (hms : StrsAre mv (rs.map plainF)) (ha : ∀ r ∈ rs, r ∈ allRows) (hlen : rs.length ≤ 10) (h2 : 2 ≤ rs.length)
    (hsort : ∀ ys : List Str, ys.Perm (rs.map plainF) → Rising ys → ys = (((vs.zip rs).foldl insR []).map (·.2)).map plainF)
    (hret : ∀ h' tk ps' p8, Fr g L h' m → News g L h' ((309, tabObj ps') :: (268, tabObj p8) :: R) → Q (.ret (.bool true)) { s with heap := h', toks := tk }) :
    wpAny (MM w) ((AL fs gd).deeper (lawE L)) (exec lw6 (lawE L)) Q E s := by
  rcases s with ⟨hp, gs, dr, tk0, oss⟩
  dsimp only at F N hret
  dsimp only [MM]; revert X; k_fill; intro X
  unfold lw6
  k_steps
  unfold Halt
  refine lamL (hcl := by rfl) (hdef := by rfl) F N X T x (fun p hp => .tail _ (sub p hp)) off fun f c' pm ctv nw ps' h1 tk1 F1 N1 x1 off1 lt1 hf ⟨oc, vc, tc, hcm, hcd, hcv⟩ => ?_
  clear F N
  dsimp only
  k_steps
  unfold Halt
  have e8 := N1 (268, tabObj #[]) (.tail _ (List.mem_append_right _ (.head _)))
  refine ck_spec (Rdy.of_walk B F1 X T rfl rfl (Nat.le_of_ble_eq_true rfl) (Nat.le_of_ble_eq_true rfl) rfl) f e8.1 fun C n cl ob h2 tk2 k2 hKC hcl hob ⟨p8, g8⟩ => ?_
  have F2 : Fr g L h2 m := LCg.fr_but F1 (fun b o hb e => k2 b o (fun q => hb (List.mem_singleton.mpr q)) e) (Ne.symm e8.2.1) e8.2.2
  have N2 : News g L h2 ((309, tabObj ps') :: (nw ++ (268, tabObj p8) :: R)) := fun q hq => by
    by_cases hq8 : q = (268, tabObj p8)
    · rw [hq8]; exact ⟨g8, e8.2⟩
    have hne : q.1 ≠ 268 ∧ q ∈ (309, tabObj ps') :: (nw ++ (268, tabObj #[]) :: R) := by
      rcases List.mem_cons.mp hq with rfl | hq
      · exact ⟨show (309 : Nat) ≠ 268 from by decide, .head _⟩
      rcases List.mem_append.mp hq with hq | hq
      · exact ⟨Nat.ne_of_gt (lt1 q hq _ (.head _)), .tail _ (List.mem_append_left _ hq)⟩
      rcases List.mem_cons.mp hq with rfl | hq
      · exact absurd rfl hq8
      · exact ⟨off8 q hq, .tail _ (List.mem_append_right _ (.tail _ hq))⟩
    exact ⟨k2 _ _ hne.1 (N1 q hne.2).1, (N1 q hne.2).2⟩
  have hfo := (N2 _ (.tail _ (List.mem_append_left _ hf))).1
  replace sub : ∀ p ∈ S, p ∈ (268, tabObj p8) :: R := fun p hp => .tail _ (sub p hp)
  replace hlr : (lr, lsC vs cv) ∈ (268, tabObj p8) :: R := .tail _ hlr
  replace hlm : (lm, lsC mv cm) ∈ (268, tabObj p8) :: R := .tail _ hlm
  replace hrs : RowsIn ((268, tabObj p8) :: R) vs rs := hrs.mono fun p hp => .tail _ hp
  have hcm2 : (c', oc) ∈ (309, tabObj ps') :: (nw ++ (268, tabObj p8) :: R) := .tail _ (mem_sub sub hcm)
  have hcr := codeRec_news N2 hcm2 hcd hcv
  obtain ⟨K2, f1, f2, Md, U⟩ := hKC.use
  have SX : SortCx w h2 C cl f _ K2 f1 f2 Md ob := ⟨U, hcl, hob, fun A s x y tx ty Q E R kk hr => lam4_do hfo hcr R kk x y tx ty hr, ⟨_, _, _, _, hfo⟩⟩
  have hml : mv.length = rs.length := by rw [StrsAre.len_eq hms, List.length_map]
  clear F1 N1
  dsimp only
  k_steps
  unfold Halt
  refine sorted_K (Rdy.of_walk B F2 X T rfl rfl (Nat.le_of_ble_eq_true rfl) (Nat.le_of_ble_eq_true rfl) rfl) SX (News.isList N2 (.tail _ (List.mem_append_right _ hlm))) hms (by omega) (by omega) fun D h3 tk3 out ys c k3 hn3 hD3 hys hperm hris => ?_
  have F3 := fr_keep F2 k3
  have N3 := news_more F2 N2 k3 hn3 hD3
  clear F2 N2 SX
  dsimp only
  k_steps
  unfold Halt
  have hr3 : RowsIn ((D, ksO out c) :: (309, tabObj ps') :: (nw ++ (268, tabObj p8) :: R)) vs rs := hrs.mono fun p hp => .tail _ (.tail _ (List.mem_append_right _ hp))
  have hz : (vs.zip rs).map (·.1) = vs := List.map_fst_zip (Nat.le_of_eq hrs.1)
  refine ris_spec (Rdy.of_walk B F3 X T rfl rfl (Nat.le_of_ble_eq_true rfl) (Nat.le_of_ble_eq_true rfl) rfl) lr (vs.zip rs) (by rw [hz]; exact News.isList N3 (.tail _ (.tail _ (List.mem_append_right _ hlr)))) (rows_is N3 hr3) (by rw [List.length_zip, hrs.1]; omega) fun D4 h4 tk4 k4 hl4 => ?_
  have F4 := fr_keep F3 k4
  have N4 := news_keep N3 k4
  clear F3 N3
  have hfm : ∀ p ∈ (vs.zip rs).foldl insR [], p ∈ vs.zip rs := fun p hp => (fold_mem _ _ _ hp).resolve_left fun q => nomatch q
  have hfl : ((vs.zip rs).foldl insR []).length ≤ 10 := by rw [fold_len, List.length_zip, hrs.1]; simp only [List.length_nil]; omega
  have hs2 := hsort ys hperm hris
  have hok : TxOk ys := fun z hz => by
    obtain ⟨r, hr1, rfl⟩ := List.mem_map.mp (hperm.mem_iff.mp hz)
    exact plain_ok (ha r hr1)
  generalize (vs.zip rs).foldl insR [] = fo at hl4 hfm hfl hs2
  dsimp only
  refine compSrc_any rfl F4 N4 hl4 (by rw [List.size_toArray, List.length_map, sizeLine_eq]; omega) fun news' hsub hsrc g' => ?_
  refine law2_src B X T _ _ _ _ ((rows_zip hr3 fo hfm).mono hsub) (fun r hr => ?_) hsrc fun ys2 hR2 D5 h5 tk5 F5 N5 _ => ?_
  · obtain ⟨q, hq, rfl⟩ := List.mem_map.mp hr
    exact ha _ (List.of_mem_zip (hfm q hq)).2
  dsimp only
  rw [← hs2] at hR2
  refine eq_texts (xs := out.toList) (by rw [Array.toArray_toList]; exact News.isList N5 (.tail _ (hsub _ (.head _)))) (News.isList N5 (.head _)) hys hR2 hok hok (Nat.le_of_ble_eq_true rfl) ?_
  rw [decide_eq_true rfl]
  k_steps
  exact hret _ _ ps' p8 F5 fun q hq => N5 q (.tail _ (hsub _ (.tail _ (by
    rcases List.mem_cons.mp hq with rfl | hq
    · exact .head _
    · exact .tail _ (List.mem_append_right _ hq)))))
end
end Lr
section Ps
section
theorem rules_Ps_1 : True := by
  k_with_none
  k_with "exec If" => (refine wpAny_If ?_)
  trivial
theorem leL_trans : ∀ {a b c : List Int}, leL a b = true → leL b c = true → leL a c = true
  | [], _, _, _, _ => rfl
  | _ :: _, [], _, h, _ => by cases h
  | _ :: _, _ :: _, [], _, h => by cases h
  | x :: xs, y :: ys, z :: zs, h1, h2 => by
    unfold leL at h1 h2 ⊢
    by_cases e1 : x = y
    · subst e1
      rw [if_pos rfl] at h1
      by_cases e2 : x = z
      · subst e2
        rw [if_pos rfl] at h2 ⊢
        exact leL_trans h1 h2
      · rw [if_neg e2] at h2 ⊢
        exact h2
    · rw [if_neg e1] at h1
      have h1 := of_decide_eq_true h1
      by_cases e2 : y = z
      · subst e2
        rw [if_neg e1]
        exact decide_eq_true h1
      · rw [if_neg e2] at h2
        have h2 := of_decide_eq_true h2
        have : x ≠ z := by omega
        rw [if_neg this]
        exact decide_eq_true (by omega)
theorem leL_total : ∀ (a b : List Int), leL a b = false → leL b a = true
  | [], _, h => by cases h
  | _ :: _, [], _ => rfl
  | x :: xs, y :: ys, h => by
    unfold leL at h ⊢
    by_cases e : x = y
    · subst e
      rw [if_pos rfl] at h ⊢
      exact leL_total xs ys h
    · rw [if_neg e] at h
      rw [if_neg (Ne.symm e)]
      have := of_decide_eq_false h
      exact decide_eq_true (by omega)
noncomputable abbrev leR (a b : Value × List Int) : Prop := leL a.2 b.2 = true
theorem ins_split {p : Value × List Int} : ∀ {tl : List (Value × List Int)}, tl.Pairwise leR → (∀ o ∈ tl.take (tl.filter fun o => leL o.2 p.2).length, leL o.2 p.2 = true) ∧ (∀ o ∈ tl.drop (tl.filter fun o => leL o.2 p.2).length, leL o.2 p.2 = false)
  | [], _ => ⟨(fun _ h => nomatch h), (fun _ h => nomatch h)⟩
  | a :: t, h => by
    obtain ⟨h1, h2⟩ := List.pairwise_cons.mp h
    obtain ⟨i1, i2⟩ := ins_split (p := p) h2
    cases e : leL a.2 p.2 with
    | true =>
      rw [List.filter_cons, if_pos e, List.length_cons, List.take_succ_cons, List.drop_succ_cons]
      refine ⟨fun o ho => ?_, i2⟩
      rcases List.mem_cons.mp ho with rfl | ho
      · exact e
      · exact i1 o ho
    | false =>
      have hf : ∀ o ∈ t, leL o.2 p.2 = false := fun o ho => by
        cases q : leL o.2 p.2 with
        | false => rfl
        | true => rw [leL_trans (h1 o ho) q] at e; cases e
      have hn : (t.filter fun o => leL o.2 p.2) = [] := List.filter_eq_nil_iff.mpr fun o ho => by rw [hf o ho]; exact Bool.false_ne_true
      rw [List.filter_cons, if_neg (by rw [e]; exact Bool.false_ne_true), hn, List.length_nil, List.take_zero, List.drop_zero]
      refine ⟨(fun _ h => nomatch h), fun o ho => ?_⟩
      rcases List.mem_cons.mp ho with rfl | ho
      · exact e
      · exact hf o ho
theorem ins_sorted {p : Value × List Int} {tl : List (Value × List Int)} (h : tl.Pairwise leR) : (insR tl p).Pairwise leR := by
  obtain ⟨i1, i2⟩ := ins_split (p := p) h
  unfold insR
  rw [List.append_assoc]
  refine List.pairwise_append.mpr ⟨h.sublist (List.take_sublist _ _), List.pairwise_append.mpr ⟨List.pairwise_singleton _ _, h.sublist (List.drop_sublist _ _), fun a ha b hb => ?_⟩, fun a ha b hb => ?_⟩
  · rw [List.mem_singleton.mp ha]
    exact leL_total _ _ (i2 b hb)
  · rcases List.mem_append.mp hb with hb | hb
    · rw [List.mem_singleton.mp hb]
      exact i1 a ha
    · have := List.take_append_drop (tl.filter fun o => leL o.2 p.2).length tl
      rw [← this] at h
      exact (List.pairwise_append.mp h).2.2 a ha b hb
theorem fold_sorted : ∀ (ps acc : List (Value × List Int)), acc.Pairwise leR → (ps.foldl insR acc).Pairwise leR
  | [], _, h => h
  | p :: ps, acc, h => fold_sorted ps _ (ins_sorted h)
theorem ins_perm (tl : List (Value × List Int)) (p : Value × List Int) : (insR tl p).Perm (p :: tl) := by
  unfold insR
  rw [List.append_assoc]
  refine List.perm_middle.trans ?_
  show (p :: (tl.take _ ++ tl.drop _)).Perm (p :: tl)
  rw [List.take_append_drop]
theorem fold_perm : ∀ (ps acc : List (Value × List Int)), (ps.foldl insR acc).Perm (ps ++ acc)
  | [], _ => .refl _
  | p :: ps, acc => (fold_perm ps _).trans (((ins_perm acc p).append_left ps).trans List.perm_middle)
noncomputable def tabT : List (List Int × List Nat) := allRows.map fun r => (r, (plainF r).cps.toList)
theorem tab_mono : (tabT.all fun a => tabT.all fun b => !leL a.1 b.1 || decide (¬ b.2 < a.2)) = true := by decide +kernel
theorem text_mono {a b : List Int} (ha : a ∈ allRows) (hb : b ∈ allRows) (h : leL a b = true) : ¬ (plainF b).cps.toList < (plainF a).cps.toList := by
  have h1 := List.all_eq_true.mp (List.all_eq_true.mp tab_mono _ (List.mem_map.mpr ⟨a, ha, rfl⟩)) _ (List.mem_map.mpr ⟨b, hb, rfl⟩)
  dsimp only at h1
  rw [h] at h1
  exact of_decide_eq_true h1
theorem str_anti {a b : Str} (h1 : ¬ b.cps.toList < a.cps.toList) (h2 : ¬ a.cps.toList < b.cps.toList) : a = b := by
  have e : a.cps.toList = b.cps.toList := List.le_antisymm h1 h2
  cases a; cases b
  dsimp only at e
  rw [Array.toList_inj.mp e]
theorem sorted_rows {vs : List Value} {rs : List (List Int)} (hl : vs.length = rs.length) (ha : ∀ r ∈ rs, r ∈ allRows) (ys : List Str) (hp : ys.Perm (rs.map plainF)) (hr : Rising ys) : ys = (((vs.zip rs).foldl insR []).map (·.2)).map plainF := by
  have hs := fold_sorted (vs.zip rs) [] .nil
  have hq := fold_perm (vs.zip rs) []
  rw [List.append_nil] at hq
  have hz : (vs.zip rs).map (·.2) = rs := List.map_snd_zip (Nat.le_of_eq hl.symm)
  have hm : ∀ p ∈ (vs.zip rs).foldl insR [], p.2 ∈ allRows := fun p hp => ha _ (List.of_mem_zip (hq.mem_iff.mp hp)).2
  have hq2 : ((((vs.zip rs).foldl insR []).map (·.2)).map plainF).Perm (rs.map plainF) := by
    have := (hq.map (·.2)).map plainF
    rwa [hz] at this
  refine List.Perm.eq_of_pairwise (le := fun a b : Str => ¬ b.cps.toList < a.cps.toList) (fun a b _ _ h1 h2 => str_anti h1 h2) hr ?_ (hp.trans hq2.symm)
  rw [List.map_map]
  refine List.pairwise_map.mpr ?_
  exact hs.imp_of_mem fun {a b} h1 h2 h => text_mono (hm a h1) (hm b h2) h
end
end Ps
section Pt
section
theorem rules_Pt_1 : True := by
  k_with_none
  k_with "exec If" => (refine wpAny_If ?_)
  trivial
theorem app_list (x y : Str) : (x ++ y).cps.toList = x.cps.toList ++ y.cps.toList := Array.toList_append
theorem str_ext {x y : Str} (h : x.cps.toList = y.cps.toList) : x = y := by
  cases x; cases y
  dsimp only at h
  rw [Array.toList_inj.mp h]
theorem starts_list (x y : Str) : PySem.Txt.startswith x y = decide (y.cps.toList <+: x.cps.toList) := by
  unfold PySem.Txt.startswith Builtin.Str.subAt
  have e : (x.cps.extract 0 (0 + y.length) == y.cps) = decide (x.cps.toList.take y.length = y.cps.toList) := by
    rw [Bool.eq_iff_iff, beq_iff_eq, decide_eq_true_iff, ← Array.toList_inj, Array.toList_extract, List.extract_eq_take_drop, List.drop_zero, Nat.zero_add, Nat.sub_zero]
  have hl : y.length = y.cps.toList.length := rfl
  have hx : x.length = x.cps.toList.length := rfl
  rw [e, Bool.eq_iff_iff, Bool.and_eq_true, decide_eq_true_iff, decide_eq_true_iff, decide_eq_true_iff, List.prefix_iff_eq_take, hl, hx, Nat.zero_add]
  refine ⟨fun q => q.2.symm, fun q => ⟨?_, q.symm⟩⟩
  rw [q, List.length_take]
  exact Nat.min_le_right _ _
theorem tab_due : (tabT.all fun a => (tabT.take 30).all fun b => (a.2 == b.2 || (b.2 ++ [46]).isPrefixOf a.2) == (a.1.take b.1.length == b.1)) = true := by decide +kernel
theorem tab_pre : (allRows.all fun r => decide (r.take 1 ∈ allRows.take 30) && decide (r.take 2 ∈ allRows.take 30)) = true := by decide +kernel
theorem tab_txt : (tabT.all fun a => a.2.head? != some 60 && decide (a.2.length ≤ 8)) = true := by decide +kernel
theorem left_short {rs : List (List Int)} (ha : ∀ r ∈ rs, r ∈ allRows) : ∀ r ∈ leftF rs, r ∈ allRows.take 30 := fun r hr => by
  have k : ∀ q ∈ rs, q.take 1 ∈ allRows.take 30 ∧ q.take 2 ∈ allRows.take 30 := fun q hq => by
    have := List.all_eq_true.mp tab_pre q (ha q hq)
    rw [Bool.and_eq_true, decide_eq_true_iff, decide_eq_true_iff] at this
    exact this
  rcases List.mem_append.mp hr with hr | hr
  · obtain ⟨q, hq, rfl⟩ := List.mem_map.mp (pick_mem hr)
    exact (k q (pick_mem hq)).1
  · obtain ⟨q, hq, rfl⟩ := List.mem_map.mp (pick_mem hr)
    exact (k q (pick_mem hq)).2
theorem tabT_take : tabT.take 30 = (allRows.take 30).map fun r => (r, (plainF r).cps.toList) := List.map_take.symm
theorem pair_due {a b : List Int} (ha : a ∈ allRows) (hb : b ∈ allRows.take 30) : (plainF a = plainF b ∨ PySem.Txt.startswith (plainF a) (plainF b ++ Str.ofString ".") = true) ↔ a.take b.length = b := by
  have h1 := List.all_eq_true.mp (List.all_eq_true.mp tab_due (a, (plainF a).cps.toList) (List.mem_map.mpr ⟨a, ha, rfl⟩)) (b, (plainF b).cps.toList) (tabT_take ▸ List.mem_map.mpr ⟨b, hb, rfl⟩)
  dsimp only at h1
  rw [beq_iff_eq, Bool.eq_iff_iff, Bool.or_eq_true, beq_iff_eq, beq_iff_eq, List.isPrefixOf_iff_prefix] at h1
  rw [starts_list, decide_eq_true_iff, app_list, ← h1]
  exact ⟨fun q => q.imp (fun q => by rw [q]) id, fun q => q.imp str_ext id⟩
theorem outI_due {rs : List (List Int)} (ha : ∀ r ∈ rs, r ∈ allRows) {r : List Int} (hr : r ∈ allRows) : outI ((leftF rs).map plainF) false (plainF r) = dueF (leftF rs) r := by
  have hs := left_short ha
  unfold outI dueF
  by_cases h : ∃ b ∈ leftF rs, r.take b.length = b
  · obtain ⟨b, hb, e⟩ := h
    have h2 := (pair_due hr (hs b hb)).mpr e
    rw [if_pos, if_neg]
    · intro q
      rw [List.isEmpty_iff, List.filter_eq_nil_iff] at q
      exact q b hb (decide_eq_true e)
    · rw [Bool.or_false, Bool.or_eq_true, decide_eq_true_iff, List.any_eq_true]
      rcases h2 with h2 | h2
      · exact .inl (List.mem_map.mpr ⟨b, hb, h2.symm⟩)
      · exact .inr ⟨_, List.mem_map.mpr ⟨b, hb, rfl⟩, h2⟩
  · rw [if_neg, if_pos]
    · rw [List.isEmpty_iff, List.filter_eq_nil_iff]
      exact fun b hb q => h ⟨b, hb, of_decide_eq_true q⟩
    · rw [Bool.or_false, Bool.or_eq_true, decide_eq_true_iff, List.any_eq_true]
      rintro (q | ⟨y, hy, q⟩)
      · obtain ⟨b, hb, e⟩ := List.mem_map.mp q
        exact h ⟨b, hb, (pair_due hr (hs b hb)).mp (.inl e.symm)⟩
      · obtain ⟨b, hb, rfl⟩ := List.mem_map.mp hy
        exact h ⟨b, hb, (pair_due hr (hs b hb)).mp (.inr q)⟩
theorem plain_txt {r : List Int} (hr : r ∈ allRows) : plainF r ≠ Str.ofString "<string>" ∧ (plainF r).length ≤ 8 := by
  have h1 := List.all_eq_true.mp tab_txt (r, (plainF r).cps.toList) (List.mem_map.mpr ⟨r, hr, rfl⟩)
  dsimp only at h1
  rw [Bool.and_eq_true, decide_eq_true_iff, bne_iff_ne] at h1
  refine ⟨fun e => h1.1 ?_, h1.2⟩
  rw [e]; rfl
end
end Pt
section Lt
section
theorem rules_Lt_1 : True := by
  k_with_none
  k_with "exec If" => (refine wpAny_If ?_)
  k_with "mem" => ((first | exact List.Mem.head _ | (with_reducible_and_instances assumption) | exact List.mem_append_right _ (by with_reducible assumption) | (refine' List.Mem.tail _ ?_; k_mem)))
  trivial
/-- an object that is neither a cell nor a code's table -/
noncomputable def Tame (o : Obj) : Prop := (∀ v, o.data ≠ .cell v) ∧ ∀ vs, o.data ≠ .fields vs
noncomputable def offF (Ps : List Addr) (S : List (Addr × Obj)) : List (Addr × Obj) := S.filter fun p => decide (p.1 ∉ Ps)
theorem offF_off {Ps : List Addr} {S : List (Addr × Obj)} {P : Addr} (h : P ∈ Ps) : OffA P (offF Ps S) := fun p hp e => by
  have := of_decide_eq_true (List.mem_filter.mp hp).2
  rw [e] at this; exact this h
theorem offF_sub {Ps : List Addr} {S : List (Addr × Obj)} : ∀ p ∈ offF Ps S, p ∈ S := fun p hp => (List.mem_filter.mp hp).1
theorem offF_mem {Ps : List Addr} {S : List (Addr × Obj)} {p : Addr × Obj} (h : p ∈ S) (hn : p.1 ∉ Ps) : p ∈ offF Ps S := List.mem_filter.mpr ⟨h, decide_eq_true hn⟩
theorem tame_ne {h : Heap} {a P : Addr} {o oP : Obj} (e : h.get? a = some o) (t : Tame o) (eP : h.get? P = some oP) (hP : ¬ Tame oP) : a ≠ P := fun q => by
  subst q
  rw [e] at eP
  exact hP (Option.some.inj eP ▸ t)
theorem tame_list {ys : List Value} {c : Nat} : Tame (lsC ys c) := ⟨(fun _ q => nomatch q), (fun _ q => nomatch q)⟩
theorem wild_tab {ps : Array Value} : ¬ Tame (tabObj ps) := fun q => q.2 _ rfl
theorem wild_cell {o : Obj} {v : Option Value} (h : o.data = .cell v) : ¬ Tame o := fun q => q.1 _ h
theorem RowsIn.tame {S S' : List (Addr × Obj)} {vs : List Value} {rs : List (List Int)} (h : RowsIn S vs rs) (k : ∀ p ∈ S, Tame p.2 → p ∈ S') : RowsIn S' vs rs :=
  ⟨h.1, fun i r e => let ⟨D, ys, n, a, b, c⟩ := h.2 i r e; ⟨D, ys, n, a, k _ b tame_list, c⟩⟩
theorem IgnL.tame {w : World} {ms : List Str} {x dx st ds ig : Addr} {S S' : List (Addr × Obj)} (I : IgnL w ms x dx st ds ig S) (k : ∀ p ∈ S, Tame p.2 → p ∈ S') : IgnL w ms x dx st ds ig S' :=
  ⟨k _ I.ix ⟨(fun _ q => nomatch q), (fun _ q => nomatch q)⟩, let ⟨a, b, c, h⟩ := I.id; ⟨a, b, c, k _ h ⟨(fun _ q => nomatch q), (fun _ q => nomatch q)⟩⟩,
    let ⟨a, b, h, r, r2⟩ := I.is; ⟨a, b, k _ h (let ⟨es, ep, t, e, _⟩ := r.ex; by rw [e]; exact ⟨(fun _ q => nomatch q), (fun _ q => nomatch q)⟩), r, r2⟩, k _ I.il ⟨(fun _ q => nomatch q), (fun _ q => nomatch q)⟩, I.lo, I.lt⟩
theorem TabOk.filt {ps : Array Value} {S S' : List (Addr × Obj)} (x : TabOk ps S) (k : ∀ p ∈ S, p.2 ≠ tabObj #[] → p ∈ S') : TabOk ps S' :=
  ⟨x.1, fun pos v e => let ⟨c', oc, vs, t, a, b, d, r⟩ := x.2 pos v e; ⟨c', oc, vs, t, a, k _ b (fun q => by
    rw [show oc = tabObj #[] from q] at d
    obtain rfl : #[] = vs := Data.fields.inj d
    cases r), d, r⟩⟩
/-- what an _Ignore of law's says -/
noncomputable def tellF (ms : List Str) (b : Bool) (x : Str) : Int := open Classical in if x = Str.ofString "<string>" then 1 else outI ms b x
theorem tell_str {ms : List Str} {b : Bool} : tellF ms b (Str.ofString "<string>") = 1 := if_pos rfl
theorem tell_row {ms : List Str} {b : Bool} {r : List Int} (hr : r ∈ allRows) : outI ms b (plainF r) = tellF ms b (plainF r) := (if_neg (plain_txt hr).1).symm
end
section
theorem pick_map {α β : Type} (f : α → β) (l : List α) (lo hi st : Option Int) : (pickL (l.map f) lo hi st).length = (pickL l lo hi st).length := by
  unfold pickL
  rw [List.length_map]
  generalize sliceRange _ _ _ = js
  induction js with
  | nil => rfl
  | cons j js ih =>
    rw [List.filterMap_cons, List.filterMap_cons, List.getElem?_map]
    cases l[j]? with
    | none => exact ih
    | some a => exact congrArg (· + 1) ih
theorem pick_rep {α : Type} (l : List α) (lo hi st : Option Int) : (pickL l lo hi st).length = (pickL (List.replicate l.length ()) lo hi st).length := by
  rw [← pick_map (fun _ => ()) l, List.map_const']
noncomputable def leftN (n : Nat) : Nat :=
  (pickL (List.replicate (pickL (List.replicate n ()) none none (some 3)).length ()) (some (-1)) none none).length + (pickL (List.replicate (pickL (List.replicate n ()) none none (some 3)).length ()) none (some (-1)) none).length
theorem leftN_ok : ∀ n : Fin 11, 5 ≤ n.1 → 1 ≤ leftN n.1 ∧ leftN n.1 ≤ 10 := by decide +kernel
theorem left_len {rs : List (List Int)} (h5 : 5 ≤ rs.length) (h10 : rs.length ≤ 10) : 1 ≤ (leftF rs).length ∧ (leftF rs).length ≤ 10 := by
  have e : (leftF rs).length = leftN rs.length := by
    unfold leftF leftN
    rw [List.length_append, pick_map, pick_map, pick_rep (pickL rs none none (some 3)), pick_rep (pickL rs none none (some 3)), pick_rep rs]
  rw [e]
  exact leftN_ok ⟨rs.length, Nat.lt_succ_of_le h10⟩ h5
end
section
theorem law_all {w : World} {s : Shared} {Q : Flow → Shared → Prop} {E : Value → Shared → Prop} {g : Heap} {base : Heap} {fs : List Env} {gd : Option (List Code)} {L : Addr} {m : Str → Option Value} {p : Program} {loose : List Str} {mean : ExcName → Option Value} {mg mb : Str → Option Value} {rc : Obj} {ov : Option Value}
    (B : Below (AL fs gd) base fs g) (X : (KF w.params).In g) (T : Top p loose mean mg mb g) (hE : PassesOwn (MM w) ((AL fs gd).deeper (lawE L)) (lawE L) E) (F : Fr g L s.heap m) (N : News g L s.heap [(289, tabObj #[]), (268, tabObj #[]), (309, tabObj #[]), (L + 1, rc)]) (hrc : rc.data = .cell ov)
    (l : Addr) (vs : List Value) (ns : List Int) (hl : g.IsList l vs.toArray) (hi : IntsAre vs ns) (hm : m "script" = some (.ref l)) (hlen : ns.length ≤ 63)
    (hret : ∀ m' h' tk d p1 p2 p3, Fr g L h' m' → News g L h' [(289, tabObj p1), (268, tabObj p2), (309, tabObj p3)] → Q (.ret (.bool true)) { s with heap := h', toks := tk, drawn := d }) :
    wpAny (MM w) ((AL fs gd).deeper (lawE L)) (execs [lw0, lw1, lw2, lw3, lw4, lw5, lw6] (lawE L)) Q E s := by
  rcases s with ⟨hp, gs, dr, tk0, oss⟩
  dsimp only at F N hret
  have hne : ∀ P ∈ [289, 268, 309], L + 1 ≠ P := fun P hP q => by
    have a := (N (L + 1, rc) (.tail _ (.tail _ (.tail _ (.head _))))).1
    have b : hp.get? P = some (tabObj #[]) := by
      rcases List.mem_cons.mp hP with rfl | hP
      · exact (N (289, _) (.head _)).1
      rcases List.mem_cons.mp hP with rfl | hP
      · exact (N (268, _) (.tail _ (.head _))).1
      rw [List.mem_singleton.mp hP]
      exact (N (309, _) (.tail _ (.tail _ (.head _)))).1
    dsimp only at a
    rw [q, b] at a
    rw [← Option.some.inj a] at hrc
    cases hrc
  refine wpAny_execs_cons (law0 B X T F N l vs ns hl hi hm hlen fun D0 y0 nw0 h0 k0 F0 N0 R0 => ?_)
  generalize hrs : (ns.take 5 ++ [35, 11, 96, 62, 8]).map rowF = rs at R0
  have ha : ∀ r ∈ rs, r ∈ allRows := fun r hr => by
    rw [← hrs] at hr
    obtain ⟨x, _, rfl⟩ := List.mem_map.mp hr
    exact rowF_mem x
  have hl10 : rs.length ≤ 10 := by
    rw [← hrs, List.length_map, List.length_append, List.length_take]; simp only [List.length_cons, List.length_nil]; omega
  have hl5 : 5 ≤ rs.length := by
    rw [← hrs, List.length_map, List.length_append]; simp only [List.length_cons, List.length_nil]; omega
  clear hrs hl hi hm hlen
  have e289 := (N0 (289, tabObj #[]) (List.mem_append_right _ (.head _))).1
  obtain ⟨R, hR⟩ : ∃ R, R = (D0, LCg.lst y0) :: (offF [289] nw0 ++ [(268, tabObj #[]), (309, tabObj #[]), (L + 1, rc)]) := ⟨_, rfl⟩
  have R1 : RowsIn R y0 rs := hR ▸ R0.tame fun p hp t => .tail _ (List.mem_append_left _ (offF_mem hp fun q => tame_ne (N0 p (.tail _ (List.mem_append_left _ hp))).1 t e289 wild_tab (List.mem_singleton.mp q)))
  have b0 : (D0, LCg.lst y0) ∈ R := hR ▸ .head _
  have b8 : (268, tabObj #[]) ∈ R := hR ▸ .tail _ (List.mem_append_right _ (.head _))
  have b9 : (309, tabObj #[]) ∈ R := hR ▸ .tail _ (List.mem_append_right _ (.tail _ (.head _)))
  have bL : (L + 1, rc) ∈ R := hR ▸ .tail _ (List.mem_append_right _ (.tail _ (.tail _ (.head _))))
  have N0' : News g L h0 ((289, tabObj #[]) :: R) := fun q hq => N0 q (by
    subst hR
    rcases List.mem_cons.mp hq with rfl | hq
    · exact List.mem_append_right _ (.head _)
    rcases List.mem_cons.mp hq with rfl | hq
    · exact .head _
    rcases List.mem_append.mp hq with hq | hq
    · exact .tail _ (List.mem_append_left _ (offF_sub q hq))
    · exact List.mem_append_right _ (.tail _ hq))
  have o289 : OffA 289 R := fun q hq => by
    subst hR
    rcases List.mem_cons.mp hq with rfl | hq
    · exact tame_ne (N0 (D0, LCg.lst y0) (.head _)).1 tame_list e289 wild_tab
    rcases List.mem_append.mp hq with hq | hq
    · exact offF_off (.head _) q hq
    rcases List.mem_cons.mp hq with rfl | hq
    · exact show (268 : Nat) ≠ 289 from by decide
    rcases List.mem_cons.mp hq with rfl | hq
    · exact show (309 : Nat) ≠ 289 from by decide
    rw [List.mem_singleton.mp hq]
    exact hne 289 (.head _)
  clear hR R0 N0 e289
  refine wpAny_execs_cons (law1 B X T F0 N0' D0 y0 rs upd_here b0 R1 ha o289 hl10 fun D1 y1 p1 pre1 h1 k1 F1 N1 _ S1 => ?_)
  clear N0'
  rw [show rs.map modF = rs.map plainF from List.map_congr_left fun r hr => mod_plain (ha r hr)] at S1
  obtain ⟨R2, hR2⟩ : ∃ R2, R2 = (D1, LCg.lst y1) :: (pre1 ++ (289, tabObj p1) :: R) := ⟨_, rfl⟩
  rw [← hR2] at N1
  have c1 : (D1, LCg.lst y1) ∈ R2 := hR2 ▸ .head _
  have c9 : (289, tabObj p1) ∈ R2 := hR2 ▸ .tail _ (List.mem_append_right _ (.head _))
  have cR : ∀ p ∈ R, p ∈ R2 := fun p hp => hR2 ▸ .tail _ (List.mem_append_right _ (.tail _ hp))
  clear hR2
  refine wpAny_execs_cons (law2 B X T F1 N1 D0 D1 y0 y1 rs (upd_there (by decide) upd_here) (cR _ b0) upd_here c1 S1 (R1.mono cR) ha hl10 fun h2 k2 F2 N2 => ?_)
  refine wpAny_execs_cons (law3 B X T F2 N2 D0 y0 _ rs (upd_there (by decide) upd_here) (cR _ b0) (R1.mono cR) ha hl10 fun D3 y3 nw3 h3 k3 F3 N3 R3 => ?_)
  obtain ⟨R4, hR4⟩ : ∃ R4, R4 = (D3, lsC y3 0) :: nw3 ++ R2 := ⟨_, rfl⟩
  rw [← hR4] at N3
  have d3 : (D3, lsC y3 0) ∈ R4 := hR4 ▸ .head _
  have dR : ∀ p ∈ R2, p ∈ R4 := fun p hp => hR4 ▸ List.mem_append_right _ hp
  replace R3 : RowsIn R4 y3 (leftF rs) := R3.mono fun p hp => hR4 ▸ .tail _ (List.mem_append_left _ hp)
  clear hR4 N1 N2
  have hol := left_len hl5 hl10
  refine wpAny_execs_cons (law4 B X T F3 N3 D3 y3 0 (leftF rs) upd_here d3 R3 (leftF_all ha) hol.2 hol.1 (tellF ((leftF rs).map plainF) false) (tellF ((leftF rs).map plainF) true) tell_str tell_str fun x1 dx1 st1 ds1 ig1 x2 dx2 st2 ds2 ig2 o1 o2 nw4 h4 k4 F4 N4 I1 I2 t1 t2 off1 off2 d12 => ?_)
  have eR : ∀ p ∈ R, p ∈ nw4 ++ R4 := fun p hp => List.mem_append_right _ (dR _ (cR _ hp))
  have m4 : ∀ p ∈ nw4 ++ R4, h4.get? p.1 = some p.2 := fun p hp => (N4 p (.tail _ (.tail _ hp))).1
  obtain ⟨R5, hR5⟩ : ∃ R5, R5 = (268, tabObj #[]) :: (289, tabObj p1) :: offF [L + 1, 309] (nw4 ++ R4) := ⟨_, rfl⟩
  have s5 : ∀ p ∈ R5, p ∈ nw4 ++ R4 := fun p hp => by
    subst hR5
    rcases List.mem_cons.mp hp with rfl | hp
    · exact eR _ b8
    rcases List.mem_cons.mp hp with rfl | hp
    · exact List.mem_append_right _ (dR _ c9)
    · exact offF_sub p hp
  have kk : ∀ p ∈ nw4 ++ R4, Tame p.2 → p ∈ R5 := fun p hp t => hR5 ▸ .tail _ (.tail _ (offF_mem hp fun q => by
    rcases List.mem_cons.mp q with q | q
    · exact tame_ne (m4 p hp) t (m4 _ (eR _ bL)) (wild_cell hrc) q
    · exact tame_ne (m4 p hp) t (m4 _ (eR _ b9)) wild_tab (List.mem_singleton.mp q)))
  have oT : OffA 309 R5 := fun p hp => by
    subst hR5
    rcases List.mem_cons.mp hp with rfl | hp
    · exact show (268 : Nat) ≠ 309 from by decide
    rcases List.mem_cons.mp hp with rfl | hp
    · exact show (289 : Nat) ≠ 309 from by decide
    · exact offF_off (.tail _ (.head _)) p hp
  have oL : OffA (L + 1) R5 := fun p hp => by
    subst hR5
    rcases List.mem_cons.mp hp with rfl | hp
    · exact Ne.symm (hne 268 (.tail _ (.head _)))
    rcases List.mem_cons.mp hp with rfl | hp
    · exact Ne.symm (hne 289 (.head _))
    · exact offF_off (.head _) p hp
  have f8 : (268, tabObj #[]) ∈ R5 := hR5 ▸ .head _
  have f9 : (289, tabObj p1) ∈ R5 := hR5 ▸ .tail _ (.head _)
  clear hR5
  have f0 := kk _ (eR _ b0) tame_list
  have f1 := kk _ (List.mem_append_right _ (dR _ c1)) tame_list
  have f3 := kk _ (List.mem_append_right _ d3) tame_list
  have q0 : RowsIn R5 y0 rs := R1.tame fun p hp t => kk p (eR p hp) t
  have q3 : RowsIn R5 y3 (leftF rs) := R3.tame fun p hp t => kk p (List.mem_append_right _ hp) t
  refine wpAny_execs_cons (law5 (S := []) (R := R5) B X T hE F4 (fun q hq => N4 q ?_) hrc (fun p hp => nomatch hp) oT (fun p hp => off1 p (s5 p hp)) (fun p hp => off2 p (s5 p hp)) oL (Ne.symm (hne 309 (.tail _ (.tail _ (.head _))))) (Ne.symm (off1 _ (eR _ bL))) (Ne.symm (off2 _ (eR _ bL))) (Ne.symm (off1 _ (eR _ b9))) (Ne.symm (off2 _ (eR _ b9))) d12
    (I1.tame fun p hp t => kk p (List.mem_append_left _ hp) t) (I2.tame fun p hp t => kk p (List.mem_append_left _ hp) t) t1 t2
    (upd_there (by decide) (upd_there (by decide) (upd_there (by decide) (upd_there (by decide) upd_here)))) (upd_there (by decide) (upd_there (by decide) (upd_there (by decide) upd_here))) upd_here (upd_there (by decide) upd_here) (upd_there (by decide) (upd_there (by decide) upd_here))
    f0 f1 f3 q0 S1 q3 ha (leftF_all ha) hol.2 hl10 (fun y hy => ?_) (fun r hr => tell_row (ha r hr)) (fun r hr => (tell_row (ha r hr)).symm.trans (outI_due ha (ha r hr))) (fun r hr => tell_row (ha r hr)) (fun r hr => (tell_row (ha r hr)).symm.trans (if_pos (Bool.or_true _)))
    fun m5 l5 h5 k5 d5 hJ F5 N5 => ?_)
  · rcases List.mem_cons.mp hq with rfl | hq
    · exact .tail _ (.tail _ (eR _ bL))
    rcases List.mem_cons.mp hq with rfl | hq
    · exact .tail _ (.tail _ (eR _ b9))
    rcases List.mem_cons.mp hq with rfl | hq
    · exact .head _
    rcases List.mem_cons.mp hq with rfl | hq
    · exact .tail _ (.head _)
    · exact .tail _ (.tail _ (s5 q hq))
  · obtain ⟨r, hr, rfl⟩ := List.mem_map.mp hy
    exact Nat.le_trans (plain_txt (leftF_all ha r hr)).2 (by decide)
  obtain ⟨nw, ps, o1', o2', as1, as2, rc', ov', rfl, -, htab, -, -, hoff, hme⟩ := hJ
  have j5 : ∀ p ∈ nw ++ R5, h5.get? p.1 = some p.2 := fun p hp => (N5 p (.tail _ (.tail _ (.tail _ (.tail _ hp))))).1
  have g8 := j5 _ (List.mem_append_right _ f8)
  have g9 := (N5 (309, tabObj ps) (.tail _ (.head _))).1
  have k6 : ∀ p ∈ R5, Tame p.2 → p ∈ (289, tabObj p1) :: offF [309, 268] (nw ++ R5) := fun p hp t => .tail _ (offF_mem (List.mem_append_right _ hp) fun q => by
    rcases List.mem_cons.mp q with q | q
    · exact tame_ne (j5 p (List.mem_append_right _ hp)) t g9 wild_tab q
    · exact tame_ne (j5 p (List.mem_append_right _ hp)) t g8 wild_tab (List.mem_singleton.mp q))
  have n5 : ∀ z u, z ≠ Str.ofString "turns" → z ≠ Str.ofString "due" → z ≠ Str.ofString "text" → z ≠ Str.ofString "safe" → z ≠ Str.ofString "module" → _ → m5 z = some u := fun z u a b c d e hu => (hme z a b c d e).trans hu
  refine wpAny_execs_cons (law6 (S := offF [309, 268] nw) (R := (289, tabObj p1) :: offF [309, 268] (nw ++ R5)) B X T F5 (fun q hq => N5 q ?_) (htab.filt fun p hp hn => ?_) (fun p hp => .tail _ (offF_mem (List.mem_append_left _ (offF_sub p hp)) (of_decide_eq_true (List.mem_filter.mp hp).2))) (fun q hq => ?_) (fun q hq => ?_)
    (n5 _ _ (by decide) (by decide) (by decide) (by decide) (by decide) (upd_there (by decide) (upd_there (by decide) (upd_there (by decide) (upd_there (by decide) upd_here))))) (n5 _ _ (by decide) (by decide) (by decide) (by decide) (by decide) (upd_there (by decide) (upd_there (by decide) (upd_there (by decide) upd_here))))
    (k6 _ f0 tame_list) (k6 _ f1 tame_list) (q0.tame k6) S1 ha hl10 (Nat.le_trans (by decide) hl5) (fun ys hp hr => sorted_rows q0.1 ha ys hp hr) fun h6 k6 p9 p8 F6 N6 => ?_)
  · rcases List.mem_cons.mp hq with rfl | hq
    · exact .tail _ (.head _)
    rcases List.mem_cons.mp hq with rfl | hq
    · exact .tail _ (.tail _ (.tail _ (.tail _ (List.mem_append_right _ f8))))
    rcases List.mem_cons.mp hq with rfl | hq
    · exact .tail _ (.tail _ (.tail _ (.tail _ (List.mem_append_right _ f9))))
    · exact .tail _ (.tail _ (.tail _ (.tail _ (offF_sub q hq))))
  · rw [List.append_nil] at hp
    refine offF_mem hp fun q => ?_
    rcases List.mem_cons.mp q with q | q
    · exact (hoff p hp).1 q
    · have := j5 p (List.mem_append_left _ hp)
      rw [List.mem_singleton.mp q, g8] at this
      exact hn (Option.some.inj this).symm
  · rcases List.mem_cons.mp hq with rfl | hq
    · exact show (268 : Nat) ≠ 309 from by decide
    rcases List.mem_cons.mp hq with rfl | hq
    · exact show (289 : Nat) ≠ 309 from by decide
    · exact offF_off (.head _) q hq
  · rcases List.mem_cons.mp hq with rfl | hq
    · exact show (289 : Nat) ≠ 268 from by decide
    · exact offF_off (.tail _ (.head _)) q hq
  refine hret m5 h6 k6 d5 p1 p8 p9 F6 fun q hq => N6 q ?_
  rcases List.mem_cons.mp hq with rfl | hq
  · exact .tail _ (.tail _ (.head _))
  rcases List.mem_cons.mp hq with rfl | hq
  · exact .tail _ (.head _)
  · rw [List.mem_singleton.mp hq]; exact .head _
end
section
/-- the call of law -/
theorem law_spec {w : World} {A : Around} {s : Shared} {Q E : Value → Shared → Prop} (R : Rdy w 310 A s.heap) (t1 : s.heap.get? 289 = some (tabObj #[])) (t2 : s.heap.get? 268 = some (tabObj #[])) (t3 : s.heap.get? 309 = some (tabObj #[])) (l : Addr) (vs : List Value) (ns : List Int) (hl : s.heap.IsList l vs.toArray) (hi : IntsAre vs ns) (hlen : ns.length ≤ 63)
    (hret : ∀ h' tk d, OldK s.heap h' → Q (.bool true) { s with heap := h', toks := tk, drawn := d }) :
    wpAny (MM w) A (call (.ref 312) [.ref l]) Q E s := by
  refine R.go ?_
  intro gd base fs p loose mean mg mb B X T
  have X' := X
  dsimp only [MM]; revert X; k_fill; intro X
  refine' wpAny_call (enterC B X T ?ho ?hcd ?hroom ?hbind ?hkind ?hnd ?_ ?c1 ?c2 ?c3)
  case ho => k_is
  case hcd => k_is
  case hroom => exact Nat.le_of_ble_eq_true rfl
  case hbind => first | exact BindsTo.of_eq rfl | exact binds_K (by k_in) rfl (by k_is) rfl rfl rfl
  case hkind => rfl
  case hnd => decide
  case c1 => rfl
  case c2 => rfl
  case c3 => rfl
  intro L' h₁ tk₁ cells F' N' Y'
  obtain ⟨o', hE', d1'⟩ := CellsAre.one Y'
  subst hE'; clear Y'
  replace d1' : o'.data = .cell none := d1'
  clear X
  have u2 : (hid s.heap 289).get? 268 = some (tabObj #[]) := hid_ne t2 (by decide)
  have u3 : (hid (hid s.heap 289) 268).get? 309 = some (tabObj #[]) := hid_ne (hid_ne t3 (by decide)) (by decide)
  have F1 := hid_fr (P := 309) (hid_fr (P := 268) (hid_fr (P := 289) F'))
  have N1 := hid_news u3 (hid_fr (P := 268) (hid_fr (P := 289) F')) (hid_news u2 (hid_fr (P := 289) F') (hid_news t1 F' N'))
  have B1 := hid_below u3 (hid_below u2 (hid_below t1 B))
  have X1 := hid_K u3 (hid_K u2 (hid_K t1 X'))
  have T1 := hid_top u3 (hid_top u2 (hid_top t1 T))
  have l1 := hid_list u3 (hid_list u2 (hid_list t1 hl))
  show wpAny _ _ (execs [lw0, lw1, lw2, lw3, lw4, lw5, lw6] (lawE L')) _ _ _
  refine law_all B1 X1 T1 (by passes_own) F1 (fun q hq => N1 q ?_) d1' l vs ns l1 hi rfl hlen fun m' h' tk d p1 p2 p3 F2 N2 => ?_
  · simp only [List.mem_cons, List.not_mem_nil, or_false] at hq
    rcases hq with rfl | rfl | rfl | rfl
    · exact .tail _ (.head _)
    · exact .tail _ (.tail _ (.head _))
    · exact .tail _ (.tail _ (.tail _ (.head _)))
    · exact .head _
  refine hret h' tk d ?_
  have g1 := (N2 (289, tabObj p1) (.head _)).1
  have g2 := (N2 (268, tabObj p2) (.tail _ (.head _))).1
  have g3 := (N2 (309, tabObj p3) (.tail _ (.tail _ (.head _)))).1
  have k : ∀ b o, b ≠ 289 → b ≠ 268 → b ≠ 309 → s.heap.get? b = some o → h'.get? b = some o := fun b o n1 n2 n3 e => F2.keep b o (hid_ne (hid_ne (hid_ne e n1) n2) n3)
  have c1 : isCodeTable s.heap 289 := ((codeHd_of_K (c := 291) X' (by kernel_rfl)).tab t1).isCodeTable
  have c2 : isCodeTable s.heap 268 := ((codeHd_of_K (c := 272) X' (by kernel_rfl)).tab t2).isCodeTable
  have c3 : isCodeTable s.heap 309 := ((codeHd_of_K (c := 311) X' (by kernel_rfl)).tab t3).isCodeTable
  have grow : ∀ (P : Addr) ps, isCodeTable s.heap P → s.heap.get? P = some (tabObj #[]) → h'.get? P = some (tabObj ps) → ∀ o, s.heap.get? P = some o → asItWas s.heap h' P o := fun P ps c t t' o e => by
    rw [t] at e
    obtain rfl := Option.some.inj e
    exact .inr (.inl ⟨c, rfl, #[], ps, rfl, by rw [Array.empty_append]; exact t'⟩)
  refine ⟨fun b o e => ?_, fun b o e => ?_⟩
  · by_cases n1 : b = 289
    · subst n1; exact grow _ _ c1 t1 g1 o e
    by_cases n2 : b = 268
    · subst n2; exact grow _ _ c2 t2 g2 o e
    by_cases n3 : b = 309
    · subst n3; exact grow _ _ c3 t3 g3 o e
    exact .inl (k b o n1 n2 n3 e)
  · by_cases n1 : b = 289
    · subst n1; exact ⟨_, g1⟩
    by_cases n2 : b = 268
    · subst n2; exact ⟨_, g2⟩
    by_cases n3 : b = 309
    · subst n3; exact ⟨_, g3⟩
    exact ⟨_, k b o n1 n2 n3 e⟩
end
end Lt
section Fn
section
theorem rules_Fn_1 : True := by
  k_with_none
  k_with "exec If" => (refine wpAny_If ?_)
  trivial
theorem good_end {cl : Str → Option Addr} {mean : ExcName → Option Value} {args : List WData} {s₁ s' : Shared} (hO : OldK s₁.heap s'.heap) (ho : s'.os = s₁.os) (hg : s'.gens = #[]) : GoodWG PySem.Challenge.rw_qh0024_01.row.claim cl mean args s₁ (.ok (.ret (.bool true))) s' :=
  ⟨.inl ⟨_, .bool true, [], rfl, fun _ => rfl, .bool _, by wrow_post, fun _ => ⟨List.nodup_nil, fun _ h => nomatch h⟩⟩, hO, ho, AllBare.of_eq hg⟩
theorem holds : PySem.Challenge.rw_qh0024_01.Holds := by
  refine holds_law said0 fun said => ?_
  refine holds_open (q := qv) (loose := Lo) (Xt := Xs) (XP := XL qv []) (Yf := Hook.obs HK) (Ya := Hook.val HK) (YP := Hook.says HK) (N := 3702) ?hl (Hook.of HK) (Hook.keeps HK) (fun s e => xl_of s (Bool.and_eq_true_iff.mp e).1) XL.keeps (by rfl) (by rfl) (by rfl) (fun s e => recFacts_of (Bool.and_eq_true_iff.mp e).2) (by rfl) (by first | assumption | decide +kernel) (by decide +kernel) ⟨rfl, rfl, rfl, rfl, rfl, by decide +kernel⟩ ?hw ?hc
  case hl => exact left
  case hw => exact ⟨[.list []], by decide +kernel, by decide +kernel⟩
  intro w s₀ s₁ mg mb G Y fa o pm cd doc dV kV ho hd hcd hD hmg hg args vals as hpre hlay hrd hwl hlo
  clear ho hd hcd hD
  have X := km_in_of Y
  have tabs := km_tabs_of Y
  refine Ground.open G ?_
  intro T B D TE TW
  clear D TE TW
  wrow_args hpre hlay hrd hwl hlo
  have e1 : mg (Str.ofString "law") = some (.ref fa) := hmg
  have e2 : mg (Str.ofString "law") = some (.ref 312) := mg_of X T.g (by kernel_rfl)
  clear hmg
  rw [e2] at e1
  obtain rfl : 312 = fa := Value.ref.inj (Option.some.inj e1)
  (with_reducible rename Heap.IsList _ _ _ => hL)
  (with_reducible rename IntsAre _ _ => hI)
  show wpAny (MM w) callerA (call (.ref 312) [.ref _]) _ _ _
  refine law_spec ⟨⟨s₁.heap, [], below_caller _⟩, X, ⟨_, _, _, _, _, T⟩, by decide, by decide, rfl⟩ (tabs 289 (by decide)) (tabs 268 (by decide)) (tabs 309 (by decide)) _ _ _ hL hI (by omega) fun h' tk d hO => ?_
  exact good_end hO rfl hg
end
end Fn
end Mine
theorem PySem.Challenge.cw_qh0024_01_holds : PySem.Challenge.rw_qh0024_01.Holds := by
  exact Mine.holds
