import PyProof.Rows.All
import Wide.All
import OpenK.AllK
import Wide.FinOn
import Wide.WTab
import PySem.Challenge.RW_bc0032_01
open PySem PySem.W PyProof.Rows PySem.Calls
set_option Elab.async false
set_option maxRecDepth 100000
set_option maxHeartbeats 8000000
set_option compiler.extract_closed false
namespace Mine
/- the text's own parts, by projection -/
noncomputable def stmAt (i : Nat) (l : List Stmt) : Stmt := match l.drop i with
  | s :: _ => s
  | _ => .Pass ⟨0, 0, 0, 0⟩
noncomputable def fnP : Stmt → Arguments
  | .FunctionDef _ p _ _ _ _ _ _ _ _ => p
  | _ => default
noncomputable def fnB : Stmt → List Stmt
  | .FunctionDef _ _ b _ _ _ _ _ _ _ => b
  | _ => []
noncomputable def fnS : Stmt → Scope
  | .FunctionDef _ _ _ _ _ _ s _ _ _ => s
  | _ => default
noncomputable def fnPos : Stmt → Pos
  | .FunctionDef _ _ _ _ _ _ _ _ _ p => p
  | _ => ⟨0, 0, 0, 0⟩
noncomputable def clB : Stmt → List Stmt
  | .ClassDef _ _ _ b _ _ _ _ _ _ _ => b
  | _ => []
noncomputable abbrev st0 : Stmt := by
  refine' (fun (x : Stmt) (_ : stmAt 0 PySem.Challenge.pw_bc0032_01.main.body = x) => x) _ ?h
  case h => (conv => lhs; whnf)
noncomputable abbrev st2 : Stmt := by
  refine' (fun (x : Stmt) (_ : stmAt 2 PySem.Challenge.pw_bc0032_01.main.body = x) => x) _ ?h
  case h => (conv => lhs; whnf)
noncomputable abbrev st3 : Stmt := by
  refine' (fun (x : Stmt) (_ : stmAt 3 PySem.Challenge.pw_bc0032_01.main.body = x) => x) _ ?h
  case h => (conv => lhs; whnf)
noncomputable abbrev st4 : Stmt := by
  refine' (fun (x : Stmt) (_ : stmAt 4 PySem.Challenge.pw_bc0032_01.main.body = x) => x) _ ?h
  case h => (conv => lhs; whnf)
noncomputable abbrev st5 : Stmt := by
  refine' (fun (x : Stmt) (_ : stmAt 5 PySem.Challenge.pw_bc0032_01.main.body = x) => x) _ ?h
  case h => (conv => lhs; whnf)
noncomputable abbrev st7 : Stmt := by
  refine' (fun (x : Stmt) (_ : stmAt 7 PySem.Challenge.pw_bc0032_01.main.body = x) => x) _ ?h
  case h => (conv => lhs; whnf)
noncomputable abbrev st9 : Stmt := by
  refine' (fun (x : Stmt) (_ : stmAt 9 PySem.Challenge.pw_bc0032_01.main.body = x) => x) _ ?h
  case h => (conv => lhs; whnf)
noncomputable abbrev st10 : Stmt := by
  refine' (fun (x : Stmt) (_ : stmAt 10 PySem.Challenge.pw_bc0032_01.main.body = x) => x) _ ?h
  case h => (conv => lhs; whnf)
noncomputable abbrev st12 : Stmt := by
  refine' (fun (x : Stmt) (_ : stmAt 12 PySem.Challenge.pw_bc0032_01.main.body = x) => x) _ ?h
  case h => (conv => lhs; whnf)
noncomputable abbrev st13 : Stmt := by
  refine' (fun (x : Stmt) (_ : stmAt 13 PySem.Challenge.pw_bc0032_01.main.body = x) => x) _ ?h
  case h => (conv => lhs; whnf)
noncomputable abbrev st14 : Stmt := by
  refine' (fun (x : Stmt) (_ : stmAt 14 PySem.Challenge.pw_bc0032_01.main.body = x) => x) _ ?h
  case h => (conv => lhs; whnf)
noncomputable abbrev st16 : Stmt := by
  refine' (fun (x : Stmt) (_ : stmAt 16 PySem.Challenge.pw_bc0032_01.main.body = x) => x) _ ?h
  case h => (conv => lhs; whnf)
noncomputable abbrev st17 : Stmt := by
  refine' (fun (x : Stmt) (_ : stmAt 17 PySem.Challenge.pw_bc0032_01.main.body = x) => x) _ ?h
  case h => (conv => lhs; whnf)
noncomputable abbrev st18 : Stmt := by
  refine' (fun (x : Stmt) (_ : stmAt 18 PySem.Challenge.pw_bc0032_01.main.body = x) => x) _ ?h
  case h => (conv => lhs; whnf)
noncomputable abbrev st19 : Stmt := by
  refine' (fun (x : Stmt) (_ : stmAt 19 PySem.Challenge.pw_bc0032_01.main.body = x) => x) _ ?h
  case h => (conv => lhs; whnf)
noncomputable abbrev fp__wall : Arguments := by
  refine' (fun (x : Arguments) (_ : fnP st0 = x) => x) _ ?h
  case h => (conv => lhs; whnf)
noncomputable abbrev fb__wall : List Stmt := by
  refine' (fun (x : List Stmt) (_ : fnB st0 = x) => x) _ ?h
  case h => (conv => lhs; whnf)
noncomputable abbrev fs__wall : Scope := by
  refine' (fun (x : Scope) (_ : fnS st0 = x) => x) _ ?h
  case h => (conv => lhs; whnf)
noncomputable abbrev fp_Hash32 : Arguments := by
  refine' (fun (x : Arguments) (_ : fnP st2 = x) => x) _ ?h
  case h => (conv => lhs; whnf)
noncomputable abbrev fb_Hash32 : List Stmt := by
  refine' (fun (x : List Stmt) (_ : fnB st2 = x) => x) _ ?h
  case h => (conv => lhs; whnf)
noncomputable abbrev fs_Hash32 : Scope := by
  refine' (fun (x : Scope) (_ : fnS st2 = x) => x) _ ?h
  case h => (conv => lhs; whnf)
noncomputable abbrev fp_cast : Arguments := by
  refine' (fun (x : Arguments) (_ : fnP st3 = x) => x) _ ?h
  case h => (conv => lhs; whnf)
noncomputable abbrev fb_cast : List Stmt := by
  refine' (fun (x : List Stmt) (_ : fnB st3 = x) => x) _ ?h
  case h => (conv => lhs; whnf)
noncomputable abbrev fs_cast : Scope := by
  refine' (fun (x : Scope) (_ : fnS st3 = x) => x) _ ?h
  case h => (conv => lhs; whnf)
noncomputable abbrev fp_to_int : Arguments := by
  refine' (fun (x : Arguments) (_ : fnP st4 = x) => x) _ ?h
  case h => (conv => lhs; whnf)
noncomputable abbrev fb_to_int : List Stmt := by
  refine' (fun (x : List Stmt) (_ : fnB st4 = x) => x) _ ?h
  case h => (conv => lhs; whnf)
noncomputable abbrev fs_to_int : Scope := by
  refine' (fun (x : Scope) (_ : fnS st4 = x) => x) _ ?h
  case h => (conv => lhs; whnf)
noncomputable abbrev fp_validate_is_bytes : Arguments := by
  refine' (fun (x : Arguments) (_ : fnP st9 = x) => x) _ ?h
  case h => (conv => lhs; whnf)
noncomputable abbrev fb_validate_is_bytes : List Stmt := by
  refine' (fun (x : List Stmt) (_ : fnB st9 = x) => x) _ ?h
  case h => (conv => lhs; whnf)
noncomputable abbrev fs_validate_is_bytes : Scope := by
  refine' (fun (x : Scope) (_ : fnS st9 = x) => x) _ ?h
  case h => (conv => lhs; whnf)
noncomputable abbrev fp_validate_length : Arguments := by
  refine' (fun (x : Arguments) (_ : fnP st10 = x) => x) _ ?h
  case h => (conv => lhs; whnf)
noncomputable abbrev fb_validate_length : List Stmt := by
  refine' (fun (x : List Stmt) (_ : fnB st10 = x) => x) _ ?h
  case h => (conv => lhs; whnf)
noncomputable abbrev fs_validate_length : Scope := by
  refine' (fun (x : Scope) (_ : fnS st10 = x) => x) _ ?h
  case h => (conv => lhs; whnf)
noncomputable abbrev fp_calc_root : Arguments := by
  refine' (fun (x : Arguments) (_ : fnP st12 = x) => x) _ ?h
  case h => (conv => lhs; whnf)
noncomputable abbrev fb_calc_root : List Stmt := by
  refine' (fun (x : List Stmt) (_ : fnB st12 = x) => x) _ ?h
  case h => (conv => lhs; whnf)
noncomputable abbrev fs_calc_root : Scope := by
  refine' (fun (x : Scope) (_ : fnS st12 = x) => x) _ ?h
  case h => (conv => lhs; whnf)
noncomputable abbrev fp__law_keys : Arguments := by
  refine' (fun (x : Arguments) (_ : fnP st16 = x) => x) _ ?h
  case h => (conv => lhs; whnf)
noncomputable abbrev fb__law_keys : List Stmt := by
  refine' (fun (x : List Stmt) (_ : fnB st16 = x) => x) _ ?h
  case h => (conv => lhs; whnf)
noncomputable abbrev fs__law_keys : Scope := by
  refine' (fun (x : Scope) (_ : fnS st16 = x) => x) _ ?h
  case h => (conv => lhs; whnf)
noncomputable abbrev fp__law_defaults : Arguments := by
  refine' (fun (x : Arguments) (_ : fnP st17 = x) => x) _ ?h
  case h => (conv => lhs; whnf)
noncomputable abbrev fb__law_defaults : List Stmt := by
  refine' (fun (x : List Stmt) (_ : fnB st17 = x) => x) _ ?h
  case h => (conv => lhs; whnf)
noncomputable abbrev fs__law_defaults : Scope := by
  refine' (fun (x : Scope) (_ : fnS st17 = x) => x) _ ?h
  case h => (conv => lhs; whnf)
noncomputable abbrev fp__law_deed : Arguments := by
  refine' (fun (x : Arguments) (_ : fnP st18 = x) => x) _ ?h
  case h => (conv => lhs; whnf)
noncomputable abbrev fb__law_deed : List Stmt := by
  refine' (fun (x : List Stmt) (_ : fnB st18 = x) => x) _ ?h
  case h => (conv => lhs; whnf)
noncomputable abbrev fs__law_deed : Scope := by
  refine' (fun (x : Scope) (_ : fnS st18 = x) => x) _ ?h
  case h => (conv => lhs; whnf)
noncomputable abbrev fp_law : Arguments := by
  refine' (fun (x : Arguments) (_ : fnP st19 = x) => x) _ ?h
  case h => (conv => lhs; whnf)
noncomputable abbrev fb_law : List Stmt := by
  refine' (fun (x : List Stmt) (_ : fnB st19 = x) => x) _ ?h
  case h => (conv => lhs; whnf)
noncomputable abbrev fs_law : Scope := by
  refine' (fun (x : Scope) (_ : fnS st19 = x) => x) _ ?h
  case h => (conv => lhs; whnf)
noncomputable abbrev fp_SparseMerkleProof___init__ : Arguments := by
  refine' (fun (x : Arguments) (_ : fnP (stmAt 0 (clB st13)) = x) => x) _ ?h
  case h => (conv => lhs; whnf)
noncomputable abbrev fb_SparseMerkleProof___init__ : List Stmt := by
  refine' (fun (x : List Stmt) (_ : fnB (stmAt 0 (clB st13)) = x) => x) _ ?h
  case h => (conv => lhs; whnf)
noncomputable abbrev fs_SparseMerkleProof___init__ : Scope := by
  refine' (fun (x : Scope) (_ : fnS (stmAt 0 (clB st13)) = x) => x) _ ?h
  case h => (conv => lhs; whnf)
noncomputable abbrev fp_SparseMerkleProof_key : Arguments := by
  refine' (fun (x : Arguments) (_ : fnP (stmAt 1 (clB st13)) = x) => x) _ ?h
  case h => (conv => lhs; whnf)
noncomputable abbrev fb_SparseMerkleProof_key : List Stmt := by
  refine' (fun (x : List Stmt) (_ : fnB (stmAt 1 (clB st13)) = x) => x) _ ?h
  case h => (conv => lhs; whnf)
noncomputable abbrev fs_SparseMerkleProof_key : Scope := by
  refine' (fun (x : Scope) (_ : fnS (stmAt 1 (clB st13)) = x) => x) _ ?h
  case h => (conv => lhs; whnf)
noncomputable abbrev fp_SparseMerkleProof_value : Arguments := by
  refine' (fun (x : Arguments) (_ : fnP (stmAt 2 (clB st13)) = x) => x) _ ?h
  case h => (conv => lhs; whnf)
noncomputable abbrev fb_SparseMerkleProof_value : List Stmt := by
  refine' (fun (x : List Stmt) (_ : fnB (stmAt 2 (clB st13)) = x) => x) _ ?h
  case h => (conv => lhs; whnf)
noncomputable abbrev fs_SparseMerkleProof_value : Scope := by
  refine' (fun (x : Scope) (_ : fnS (stmAt 2 (clB st13)) = x) => x) _ ?h
  case h => (conv => lhs; whnf)
noncomputable abbrev fp_SparseMerkleProof_branch : Arguments := by
  refine' (fun (x : Arguments) (_ : fnP (stmAt 3 (clB st13)) = x) => x) _ ?h
  case h => (conv => lhs; whnf)
noncomputable abbrev fb_SparseMerkleProof_branch : List Stmt := by
  refine' (fun (x : List Stmt) (_ : fnB (stmAt 3 (clB st13)) = x) => x) _ ?h
  case h => (conv => lhs; whnf)
noncomputable abbrev fs_SparseMerkleProof_branch : Scope := by
  refine' (fun (x : Scope) (_ : fnS (stmAt 3 (clB st13)) = x) => x) _ ?h
  case h => (conv => lhs; whnf)
noncomputable abbrev fp_SparseMerkleProof_root_hash : Arguments := by
  refine' (fun (x : Arguments) (_ : fnP (stmAt 4 (clB st13)) = x) => x) _ ?h
  case h => (conv => lhs; whnf)
noncomputable abbrev fb_SparseMerkleProof_root_hash : List Stmt := by
  refine' (fun (x : List Stmt) (_ : fnB (stmAt 4 (clB st13)) = x) => x) _ ?h
  case h => (conv => lhs; whnf)
noncomputable abbrev fs_SparseMerkleProof_root_hash : Scope := by
  refine' (fun (x : Scope) (_ : fnS (stmAt 4 (clB st13)) = x) => x) _ ?h
  case h => (conv => lhs; whnf)
noncomputable abbrev fp_SparseMerkleProof_update : Arguments := by
  refine' (fun (x : Arguments) (_ : fnP (stmAt 5 (clB st13)) = x) => x) _ ?h
  case h => (conv => lhs; whnf)
noncomputable abbrev fb_SparseMerkleProof_update : List Stmt := by
  refine' (fun (x : List Stmt) (_ : fnB (stmAt 5 (clB st13)) = x) => x) _ ?h
  case h => (conv => lhs; whnf)
noncomputable abbrev fs_SparseMerkleProof_update : Scope := by
  refine' (fun (x : Scope) (_ : fnS (stmAt 5 (clB st13)) = x) => x) _ ?h
  case h => (conv => lhs; whnf)
noncomputable abbrev fp_SparseMerkleTree___init__ : Arguments := by
  refine' (fun (x : Arguments) (_ : fnP (stmAt 0 (clB st14)) = x) => x) _ ?h
  case h => (conv => lhs; whnf)
noncomputable abbrev fb_SparseMerkleTree___init__ : List Stmt := by
  refine' (fun (x : List Stmt) (_ : fnB (stmAt 0 (clB st14)) = x) => x) _ ?h
  case h => (conv => lhs; whnf)
noncomputable abbrev fs_SparseMerkleTree___init__ : Scope := by
  refine' (fun (x : Scope) (_ : fnS (stmAt 0 (clB st14)) = x) => x) _ ?h
  case h => (conv => lhs; whnf)
noncomputable abbrev fp_SparseMerkleTree_from_db : Arguments := by
  refine' (fun (x : Arguments) (_ : fnP (stmAt 1 (clB st14)) = x) => x) _ ?h
  case h => (conv => lhs; whnf)
noncomputable abbrev fb_SparseMerkleTree_from_db : List Stmt := by
  refine' (fun (x : List Stmt) (_ : fnB (stmAt 1 (clB st14)) = x) => x) _ ?h
  case h => (conv => lhs; whnf)
noncomputable abbrev fs_SparseMerkleTree_from_db : Scope := by
  refine' (fun (x : Scope) (_ : fnS (stmAt 1 (clB st14)) = x) => x) _ ?h
  case h => (conv => lhs; whnf)
noncomputable abbrev fp_SparseMerkleTree_get : Arguments := by
  refine' (fun (x : Arguments) (_ : fnP (stmAt 2 (clB st14)) = x) => x) _ ?h
  case h => (conv => lhs; whnf)
noncomputable abbrev fb_SparseMerkleTree_get : List Stmt := by
  refine' (fun (x : List Stmt) (_ : fnB (stmAt 2 (clB st14)) = x) => x) _ ?h
  case h => (conv => lhs; whnf)
noncomputable abbrev fs_SparseMerkleTree_get : Scope := by
  refine' (fun (x : Scope) (_ : fnS (stmAt 2 (clB st14)) = x) => x) _ ?h
  case h => (conv => lhs; whnf)
noncomputable abbrev fp_SparseMerkleTree_branch : Arguments := by
  refine' (fun (x : Arguments) (_ : fnP (stmAt 3 (clB st14)) = x) => x) _ ?h
  case h => (conv => lhs; whnf)
noncomputable abbrev fb_SparseMerkleTree_branch : List Stmt := by
  refine' (fun (x : List Stmt) (_ : fnB (stmAt 3 (clB st14)) = x) => x) _ ?h
  case h => (conv => lhs; whnf)
noncomputable abbrev fs_SparseMerkleTree_branch : Scope := by
  refine' (fun (x : Scope) (_ : fnS (stmAt 3 (clB st14)) = x) => x) _ ?h
  case h => (conv => lhs; whnf)
noncomputable abbrev fp_SparseMerkleTree__get : Arguments := by
  refine' (fun (x : Arguments) (_ : fnP (stmAt 4 (clB st14)) = x) => x) _ ?h
  case h => (conv => lhs; whnf)
noncomputable abbrev fb_SparseMerkleTree__get : List Stmt := by
  refine' (fun (x : List Stmt) (_ : fnB (stmAt 4 (clB st14)) = x) => x) _ ?h
  case h => (conv => lhs; whnf)
noncomputable abbrev fs_SparseMerkleTree__get : Scope := by
  refine' (fun (x : Scope) (_ : fnS (stmAt 4 (clB st14)) = x) => x) _ ?h
  case h => (conv => lhs; whnf)
noncomputable abbrev fp_SparseMerkleTree_set : Arguments := by
  refine' (fun (x : Arguments) (_ : fnP (stmAt 5 (clB st14)) = x) => x) _ ?h
  case h => (conv => lhs; whnf)
noncomputable abbrev fb_SparseMerkleTree_set : List Stmt := by
  refine' (fun (x : List Stmt) (_ : fnB (stmAt 5 (clB st14)) = x) => x) _ ?h
  case h => (conv => lhs; whnf)
noncomputable abbrev fs_SparseMerkleTree_set : Scope := by
  refine' (fun (x : Scope) (_ : fnS (stmAt 5 (clB st14)) = x) => x) _ ?h
  case h => (conv => lhs; whnf)
noncomputable abbrev fp_SparseMerkleTree_exists : Arguments := by
  refine' (fun (x : Arguments) (_ : fnP (stmAt 6 (clB st14)) = x) => x) _ ?h
  case h => (conv => lhs; whnf)
noncomputable abbrev fb_SparseMerkleTree_exists : List Stmt := by
  refine' (fun (x : List Stmt) (_ : fnB (stmAt 6 (clB st14)) = x) => x) _ ?h
  case h => (conv => lhs; whnf)
noncomputable abbrev fs_SparseMerkleTree_exists : Scope := by
  refine' (fun (x : Scope) (_ : fnS (stmAt 6 (clB st14)) = x) => x) _ ?h
  case h => (conv => lhs; whnf)
noncomputable abbrev fp_SparseMerkleTree_delete : Arguments := by
  refine' (fun (x : Arguments) (_ : fnP (stmAt 7 (clB st14)) = x) => x) _ ?h
  case h => (conv => lhs; whnf)
noncomputable abbrev fb_SparseMerkleTree_delete : List Stmt := by
  refine' (fun (x : List Stmt) (_ : fnB (stmAt 7 (clB st14)) = x) => x) _ ?h
  case h => (conv => lhs; whnf)
noncomputable abbrev fs_SparseMerkleTree_delete : Scope := by
  refine' (fun (x : Scope) (_ : fnS (stmAt 7 (clB st14)) = x) => x) _ ?h
  case h => (conv => lhs; whnf)
noncomputable abbrev fp_SparseMerkleTree___getitem__ : Arguments := by
  refine' (fun (x : Arguments) (_ : fnP (stmAt 8 (clB st14)) = x) => x) _ ?h
  case h => (conv => lhs; whnf)
noncomputable abbrev fb_SparseMerkleTree___getitem__ : List Stmt := by
  refine' (fun (x : List Stmt) (_ : fnB (stmAt 8 (clB st14)) = x) => x) _ ?h
  case h => (conv => lhs; whnf)
noncomputable abbrev fs_SparseMerkleTree___getitem__ : Scope := by
  refine' (fun (x : Scope) (_ : fnS (stmAt 8 (clB st14)) = x) => x) _ ?h
  case h => (conv => lhs; whnf)
noncomputable abbrev fp_SparseMerkleTree___setitem__ : Arguments := by
  refine' (fun (x : Arguments) (_ : fnP (stmAt 9 (clB st14)) = x) => x) _ ?h
  case h => (conv => lhs; whnf)
noncomputable abbrev fb_SparseMerkleTree___setitem__ : List Stmt := by
  refine' (fun (x : List Stmt) (_ : fnB (stmAt 9 (clB st14)) = x) => x) _ ?h
  case h => (conv => lhs; whnf)
noncomputable abbrev fs_SparseMerkleTree___setitem__ : Scope := by
  refine' (fun (x : Scope) (_ : fnS (stmAt 9 (clB st14)) = x) => x) _ ?h
  case h => (conv => lhs; whnf)
noncomputable abbrev fp_SparseMerkleTree___delitem__ : Arguments := by
  refine' (fun (x : Arguments) (_ : fnP (stmAt 10 (clB st14)) = x) => x) _ ?h
  case h => (conv => lhs; whnf)
noncomputable abbrev fb_SparseMerkleTree___delitem__ : List Stmt := by
  refine' (fun (x : List Stmt) (_ : fnB (stmAt 10 (clB st14)) = x) => x) _ ?h
  case h => (conv => lhs; whnf)
noncomputable abbrev fs_SparseMerkleTree___delitem__ : Scope := by
  refine' (fun (x : Scope) (_ : fnS (stmAt 10 (clB st14)) = x) => x) _ ?h
  case h => (conv => lhs; whnf)
noncomputable abbrev fp_SparseMerkleTree___contains__ : Arguments := by
  refine' (fun (x : Arguments) (_ : fnP (stmAt 11 (clB st14)) = x) => x) _ ?h
  case h => (conv => lhs; whnf)
noncomputable abbrev fb_SparseMerkleTree___contains__ : List Stmt := by
  refine' (fun (x : List Stmt) (_ : fnB (stmAt 11 (clB st14)) = x) => x) _ ?h
  case h => (conv => lhs; whnf)
noncomputable abbrev fs_SparseMerkleTree___contains__ : Scope := by
  refine' (fun (x : Scope) (_ : fnS (stmAt 11 (clB st14)) = x) => x) _ ?h
  case h => (conv => lhs; whnf)
noncomputable abbrev pos_law : Pos := by
  refine' (fun (x : Pos) (_ : fnPos st19 = x) => x) _ ?h
  case h => (conv => lhs; whnf)
noncomputable def K39 : PySem.Params → Frag := fun P => (((nat_lit 2), (PySem.Obj.mk PySem.Value.none none (PySem.Data.dict #[(PySem.DictEntry.mk (PySem.PyData.keyHash P (PySem.Str.ofString "type.__subclasses__.Exception.0")) (PySem.Value.str (PySem.Str.ofString "type.__subclasses__.Exception.0") 238) (PySem.Value.int 52 0)), (PySem.DictEntry.mk (PySem.PyData.keyHash P (PySem.Str.ofString "type.__subclasses__.Exception.n")) (PySem.Value.str (PySem.Str.ofString "type.__subclasses__.Exception.n") 239) (PySem.Value.int 1 0))] 2) #[])) :: ((nat_lit 3), (PySem.Obj.mk (PySem.Value.type "dict") none (PySem.Data.dict #[(PySem.DictEntry.mk (PySem.PyData.keyHash P (PySem.Str.ofString "__name__")) (PySem.Value.str (PySem.Str.ofString "__name__") 165) (PySem.Value.str (PySem.Str.ofString "law_bc0032_01") 527)), (PySem.DictEntry.mk (PySem.PyData.keyHash P (PySem.Str.ofString "__doc__")) (PySem.Value.str (PySem.Str.ofString "__doc__") 166) PySem.Value.none), (PySem.DictEntry.mk (PySem.PyData.keyHash P (PySem.Str.ofString "__package__")) (PySem.Value.str (PySem.Str.ofString "__package__") 167) PySem.Value.none), (PySem.DictEntry.mk (PySem.PyData.keyHash P (PySem.Str.ofString "__loader__")) (PySem.Value.str (PySem.Str.ofString "__loader__") 168) (PySem.Value.builtin "__main__.__loader__#opaque")), (PySem.DictEntry.mk (PySem.PyData.keyHash P (PySem.Str.ofString "__spec__")) (PySem.Value.str (PySem.Str.ofString "__spec__") 169) PySem.Value.none), (PySem.DictEntry.mk (PySem.PyData.keyHash P (PySem.Str.ofString "__annotations__")) (PySem.Value.str (PySem.Str.ofString "__annotations__") 170) (PySem.Value.ref 6)), (PySem.DictEntry.mk (PySem.PyData.keyHash P (PySem.Str.ofString "__builtins__")) (PySem.Value.str (PySem.Str.ofString "__builtins__") 171) (PySem.Value.ref 4)), (PySem.DictEntry.mk (PySem.PyData.keyHash P (PySem.Str.ofString "__file__")) (PySem.Value.str (PySem.Str.ofString "__file__") 173) (PySem.Value.str (PySem.Str.ofString "/claim/cut.py") 172)), (PySem.DictEntry.mk (PySem.PyData.keyHash P (PySem.Str.ofString "__cached__")) (PySem.Value.str (PySem.Str.ofString "__cached__") 174) PySem.Value.none), (PySem.DictEntry.mk (PySem.PyData.keyHash P (PySem.Str.ofString "_wall")) (PySem.Value.str (PySem.Str.ofString "_wall") 193) (PySem.Value.ref 21)), (PySem.DictEntry.mk (PySem.PyData.keyHash P (PySem.Str.ofString "Hash32")) (PySem.Value.str (PySem.Str.ofString "Hash32") 202) (PySem.Value.ref 28)), (PySem.DictEntry.mk (PySem.PyData.keyHash P (PySem.Str.ofString "cast")) (PySem.Value.str (PySem.Str.ofString "cast") 210) (PySem.Value.ref 35)), (PySem.DictEntry.mk (PySem.PyData.keyHash P (PySem.Str.ofString "to_int")) (PySem.Value.str (PySem.Str.ofString "to_int") 217) (PySem.Value.ref 42)), (PySem.DictEntry.mk (PySem.PyData.keyHash P (PySem.Str.ofString "BLANK_NODE")) (PySem.Value.str (PySem.Str.ofString "BLANK_NODE") 219) (PySem.Value.bytes #[] 218)), (PySem.DictEntry.mk (PySem.PyData.keyHash P (PySem.Str.ofString "ValidationError")) (PySem.Value.str (PySem.Str.ofString "ValidationError") 241) (PySem.Value.ref 52)), (PySem.DictEntry.mk (PySem.PyData.keyHash P (PySem.Str.ofString "validate_is_bytes")) (PySem.Value.str (PySem.Str.ofString "validate_is_bytes") 250) (PySem.Value.ref 62)), (PySem.DictEntry.mk (PySem.PyData.keyHash P (PySem.Str.ofString "validate_length")) (PySem.Value.str (PySem.Str.ofString "validate_length") 258) (PySem.Value.ref 69)), (PySem.DictEntry.mk (PySem.PyData.keyHash P (PySem.Str.ofString "calc_root")) (PySem.Value.str (PySem.Str.ofString "calc_root") 275) (PySem.Value.ref 76)), (PySem.DictEntry.mk (PySem.PyData.keyHash P (PySem.Str.ofString "SparseMerkleProof")) (PySem.Value.str (PySem.Str.ofString "SparseMerkleProof") 357) (PySem.Value.ref 132)), (PySem.DictEntry.mk (PySem.PyData.keyHash P (PySem.Str.ofString "SparseMerkleTree")) (PySem.Value.str (PySem.Str.ofString "SparseMerkleTree") 526) (PySem.Value.ref 235)), (PySem.DictEntry.mk (PySem.PyData.keyHash P (PySem.Str.ofString "_law_keys")) (PySem.Value.str (PySem.Str.ofString "_law_keys") 534) (PySem.Value.ref 246)), (PySem.DictEntry.mk (PySem.PyData.keyHash P (PySem.Str.ofString "_law_defaults")) (PySem.Value.str (PySem.Str.ofString "_law_defaults") 540) (PySem.Value.ref 253)), (PySem.DictEntry.mk (PySem.PyData.keyHash P (PySem.Str.ofString "_law_deed")) (PySem.Value.str (PySem.Str.ofString "_law_deed") 551) (PySem.Value.ref 260)), (PySem.DictEntry.mk (PySem.PyData.keyHash P (PySem.Str.ofString "law")) (PySem.Value.str (PySem.Str.ofString "law") 557) (PySem.Value.ref 265))] 24) #[])) :: ((nat_lit 15), (PySem.Obj.mk (PySem.Value.type "tuple") none (PySem.Data.seq #[] 0) #[])) :: ((nat_lit 17), (PySem.Obj.mk (PySem.Value.type "tuple") none (PySem.Data.seq #[(PySem.Value.str (PySem.Str.ofString "k") 190)] 0) #[])) :: ((nat_lit 18), (PySem.Obj.mk (PySem.Value.type "tuple") none (PySem.Data.seq #[] 0) #[])) :: ((nat_lit 20), (PySem.Obj.mk (PySem.Value.type "code") none (PySem.Data.fields #[(PySem.Value.str (PySem.Str.ofString "_wall") 187), (PySem.Value.str (PySem.Str.ofString "_wall") 188), (PySem.Value.str (PySem.Str.ofString "/claim/cut.py") 189), (PySem.Value.int 1 0), (PySem.Value.int 1 0), (PySem.Value.int 0 0), (PySem.Value.int 0 0), (PySem.Value.int 3 0), (PySem.Value.ref 15), (PySem.Value.bool Bool.true), (PySem.Value.int 181 0), (PySem.Value.ref 16), PySem.Value.none, (PySem.Value.ref 17), (PySem.Value.ref 18), (PySem.Value.ref 19), (PySem.Value.int 191 0), (PySem.Value.int 1 0), (PySem.Value.str (PySem.Str.ofString "/claim/cut.py") 192)]) #[])) :: ((nat_lit 21), (PySem.Obj.mk (PySem.Value.type "function") none (PySem.Data.func (PySem.FuncData.mk (PySem.Str.ofString "_wall") (PySem.Str.ofString "_wall") fp__wall (PySem.FuncBody.stmts fb__wall) fs__wall 3 [] PySem.Value.none PySem.Value.none PySem.Value.none (PySem.Value.str (PySem.Str.ofString "__main__") 164) none (PySem.Value.ref 20) PySem.Value.none 0)) #[])) :: ((nat_lit 22), (PySem.Obj.mk (PySem.Value.type "tuple") none (PySem.Data.seq #[] 0) #[])) :: ((nat_lit 24), (PySem.Obj.mk (PySem.Value.type "tuple") none (PySem.Data.seq #[(PySem.Value.str (PySem.Str.ofString "octets") 199)] 0) #[])) :: ((nat_lit 25), (PySem.Obj.mk (PySem.Value.type "tuple") none (PySem.Data.seq #[] 0) #[])) :: ((nat_lit 27), (PySem.Obj.mk (PySem.Value.type "code") none (PySem.Data.fields #[(PySem.Value.str (PySem.Str.ofString "Hash32") 196), (PySem.Value.str (PySem.Str.ofString "Hash32") 197), (PySem.Value.str (PySem.Str.ofString "/claim/cut.py") 198), (PySem.Value.int 5 0), (PySem.Value.int 1 0), (PySem.Value.int 0 0), (PySem.Value.int 0 0), (PySem.Value.int 3 0), (PySem.Value.ref 22), (PySem.Value.bool Bool.true), (PySem.Value.int 181 0), (PySem.Value.ref 23), PySem.Value.none, (PySem.Value.ref 24), (PySem.Value.ref 25), (PySem.Value.ref 26), (PySem.Value.int 200 0), (PySem.Value.int 5 0), (PySem.Value.str (PySem.Str.ofString "/claim/cut.py") 201)]) #[])) :: ((nat_lit 28), (PySem.Obj.mk (PySem.Value.type "function") none (PySem.Data.func (PySem.FuncData.mk (PySem.Str.ofString "Hash32") (PySem.Str.ofString "Hash32") fp_Hash32 (PySem.FuncBody.stmts fb_Hash32) fs_Hash32 3 [] PySem.Value.none PySem.Value.none PySem.Value.none (PySem.Value.str (PySem.Str.ofString "trie.others") 194) none (PySem.Value.ref 27) PySem.Value.none 0)) #[])) :: ((nat_lit 29), (PySem.Obj.mk (PySem.Value.type "tuple") none (PySem.Data.seq #[] 0) #[])) :: ((nat_lit 31), (PySem.Obj.mk (PySem.Value.type "tuple") none (PySem.Data.seq #[(PySem.Value.str (PySem.Str.ofString "kind") 206), (PySem.Value.str (PySem.Str.ofString "value") 207)] 0) #[])) :: ((nat_lit 32), (PySem.Obj.mk (PySem.Value.type "tuple") none (PySem.Data.seq #[] 0) #[])) :: ((nat_lit 34), (PySem.Obj.mk (PySem.Value.type "code") none (PySem.Data.fields #[(PySem.Value.str (PySem.Str.ofString "cast") 203), (PySem.Value.str (PySem.Str.ofString "cast") 204), (PySem.Value.str (PySem.Str.ofString "/claim/cut.py") 205), (PySem.Value.int 7 0), (PySem.Value.int 2 0), (PySem.Value.int 0 0), (PySem.Value.int 0 0), (PySem.Value.int 3 0), (PySem.Value.ref 29), (PySem.Value.bool Bool.true), (PySem.Value.int 181 0), (PySem.Value.ref 30), PySem.Value.none, (PySem.Value.ref 31), (PySem.Value.ref 32), (PySem.Value.ref 33), (PySem.Value.int 208 0), (PySem.Value.int 7 0), (PySem.Value.str (PySem.Str.ofString "/claim/cut.py") 209)]) #[])) :: ((nat_lit 35), (PySem.Obj.mk (PySem.Value.type "function") none (PySem.Data.func (PySem.FuncData.mk (PySem.Str.ofString "cast") (PySem.Str.ofString "cast") fp_cast (PySem.FuncBody.stmts fb_cast) fs_cast 3 [] PySem.Value.none PySem.Value.none PySem.Value.none (PySem.Value.str (PySem.Str.ofString "trie.others") 194) none (PySem.Value.ref 34) PySem.Value.none 0)) #[])) :: ((nat_lit 36), (PySem.Obj.mk (PySem.Value.type "tuple") none (PySem.Data.seq #[] 0) #[])) :: ((nat_lit 38), (PySem.Obj.mk (PySem.Value.type "tuple") none (PySem.Data.seq #[(PySem.Value.str (PySem.Str.ofString "octets") 214)] 0) #[])) :: ((nat_lit 39), (PySem.Obj.mk (PySem.Value.type "tuple") none (PySem.Data.seq #[] 0) #[])) :: ((nat_lit 41), (PySem.Obj.mk (PySem.Value.type "code") none (PySem.Data.fields #[(PySem.Value.str (PySem.Str.ofString "to_int") 211), (PySem.Value.str (PySem.Str.ofString "to_int") 212), (PySem.Value.str (PySem.Str.ofString "/claim/cut.py") 213), (PySem.Value.int 9 0), (PySem.Value.int 1 0), (PySem.Value.int 0 0), (PySem.Value.int 0 0), (PySem.Value.int 3 0), (PySem.Value.ref 36), (PySem.Value.bool Bool.true), (PySem.Value.int 181 0), (PySem.Value.ref 37), PySem.Value.none, (PySem.Value.ref 38), (PySem.Value.ref 39), (PySem.Value.ref 40), (PySem.Value.int 215 0), (PySem.Value.int 9 0), (PySem.Value.str (PySem.Str.ofString "/claim/cut.py") 216)]) #[])) :: ((nat_lit 42), (PySem.Obj.mk (PySem.Value.type "function") none (PySem.Data.func (PySem.FuncData.mk (PySem.Str.ofString "to_int") (PySem.Str.ofString "to_int") fp_to_int (PySem.FuncBody.stmts fb_to_int) fs_to_int 3 [] PySem.Value.none PySem.Value.none PySem.Value.none (PySem.Value.str (PySem.Str.ofString "trie.others") 194) none (PySem.Value.ref 41) PySem.Value.none 0)) #[])) :: ((nat_lit 43), (PySem.Obj.mk (PySem.Value.type "tuple") none (PySem.Data.seq #[(PySem.Value.type "Exception")] 0) #[])) :: ((nat_lit 50), (PySem.Obj.mk (PySem.Value.type "tuple") none (PySem.Data.seq #[] 0) #[])) :: ((nat_lit 51), (PySem.Obj.mk (PySem.Value.type "dict") none (PySem.Data.dict #[(PySem.DictEntry.mk (PySem.PyData.keyHash P (PySem.Str.ofString "__module__")) (PySem.Value.str (PySem.Str.ofString "__module__") 229) (PySem.Value.str (PySem.Str.ofString "trie.exceptions") 220)), (PySem.DictEntry.mk (PySem.PyData.keyHash P (PySem.Str.ofString "__firstlineno__")) (PySem.Value.str (PySem.Str.ofString "__firstlineno__") 233) (PySem.Value.int 13 232)), (PySem.DictEntry.mk (PySem.PyData.keyHash P (PySem.Str.ofString "__static_attributes__")) (PySem.Value.str (PySem.Str.ofString "__static_attributes__") 234) (PySem.Value.ref 50)), (PySem.DictEntry.mk (PySem.PyData.keyHash P (PySem.Str.ofString "__weakref__")) (PySem.Value.str (PySem.Str.ofString "__weakref__") 236) (PySem.Value.ref 53)), (PySem.DictEntry.mk (PySem.PyData.keyHash P (PySem.Str.ofString "__doc__")) (PySem.Value.str (PySem.Str.ofString "__doc__") 237) PySem.Value.none)] 3) #[])) :: ((nat_lit 52), (PySem.Obj.mk (PySem.Value.type "type") none (PySem.Data.cls (PySem.ClassData.mk (PySem.Str.ofString "ValidationError") [(PySem.Value.type "Exception")] [(PySem.Value.ref 52), (PySem.Value.type "Exception"), (PySem.Value.type "BaseException"), (PySem.Value.type "object")] 51 (PySem.Str.ofString "ValidationError") Bool.true [] [] Bool.false none Bool.false)) #[(some (PySem.Value.ref 43)), none, (some (PySem.Value.str (PySem.Str.ofString "ValidationError") 222)), (some (PySem.Value.str (PySem.Str.ofString "ValidationError") 230)), (some (PySem.Value.builtin "Exception.__new__")), (some (PySem.Value.bool Bool.true))])) :: ((nat_lit 53), (PySem.Obj.mk (PySem.Value.type "getset_descriptor") none (PySem.Data.fields #[(PySem.Value.str (PySem.Str.ofString "__weakref__") 235), (PySem.Value.ref 52), (PySem.Value.builtin "ExceptionGroup.__weakref__"), PySem.Value.none]) #[])) :: ((nat_lit 56), (PySem.Obj.mk (PySem.Value.type "tuple") none (PySem.Data.seq #[] 0) #[])) :: ((nat_lit 58), (PySem.Obj.mk (PySem.Value.type "tuple") none (PySem.Data.seq #[(PySem.Value.str (PySem.Str.ofString "value") 247)] 0) #[])) :: ((nat_lit 59), (PySem.Obj.mk (PySem.Value.type "tuple") none (PySem.Data.seq #[] 0) #[])) :: ((nat_lit 61), (PySem.Obj.mk (PySem.Value.type "code") none (PySem.Data.fields #[(PySem.Value.str (PySem.Str.ofString "validate_is_bytes") 244), (PySem.Value.str (PySem.Str.ofString "validate_is_bytes") 245), (PySem.Value.str (PySem.Str.ofString "/claim/cut.py") 246), (PySem.Value.int 16 0), (PySem.Value.int 1 0), (PySem.Value.int 0 0), (PySem.Value.int 0 0), (PySem.Value.int 3 0), (PySem.Value.ref 56), (PySem.Value.bool Bool.true), (PySem.Value.int 181 0), (PySem.Value.ref 57), PySem.Value.none, (PySem.Value.ref 58), (PySem.Value.ref 59), (PySem.Value.ref 60), (PySem.Value.int 248 0), (PySem.Value.int 16 0), (PySem.Value.str (PySem.Str.ofString "/claim/cut.py") 249)]) #[])) :: ((nat_lit 62), (PySem.Obj.mk (PySem.Value.type "function") none (PySem.Data.func (PySem.FuncData.mk (PySem.Str.ofString "validate_is_bytes") (PySem.Str.ofString "validate_is_bytes") fp_validate_is_bytes (PySem.FuncBody.stmts fb_validate_is_bytes) fs_validate_is_bytes 3 [] PySem.Value.none PySem.Value.none PySem.Value.none (PySem.Value.str (PySem.Str.ofString "trie.validation") 242) none (PySem.Value.ref 61) PySem.Value.none 0)) #[])) :: ((nat_lit 63), (PySem.Obj.mk (PySem.Value.type "tuple") none (PySem.Data.seq #[] 0) #[])) :: ((nat_lit 65), (PySem.Obj.mk (PySem.Value.type "tuple") none (PySem.Data.seq #[(PySem.Value.str (PySem.Str.ofString "value") 254), (PySem.Value.str (PySem.Str.ofString "length") 255)] 0) #[])) :: ((nat_lit 66), (PySem.Obj.mk (PySem.Value.type "tuple") none (PySem.Data.seq #[] 0) #[])) :: ((nat_lit 68), (PySem.Obj.mk (PySem.Value.type "code") none (PySem.Data.fields #[(PySem.Value.str (PySem.Str.ofString "validate_length") 251), (PySem.Value.str (PySem.Str.ofString "validate_length") 252), (PySem.Value.str (PySem.Str.ofString "/claim/cut.py") 253), (PySem.Value.int 19 0), (PySem.Value.int 2 0), (PySem.Value.int 0 0), (PySem.Value.int 0 0), (PySem.Value.int 3 0), (PySem.Value.ref 63), (PySem.Value.bool Bool.true), (PySem.Value.int 181 0), (PySem.Value.ref 64), PySem.Value.none, (PySem.Value.ref 65), (PySem.Value.ref 66), (PySem.Value.ref 67), (PySem.Value.int 256 0), (PySem.Value.int 19 0), (PySem.Value.str (PySem.Str.ofString "/claim/cut.py") 257)]) #[])) :: ((nat_lit 69), (PySem.Obj.mk (PySem.Value.type "function") none (PySem.Data.func (PySem.FuncData.mk (PySem.Str.ofString "validate_length") (PySem.Str.ofString "validate_length") fp_validate_length (PySem.FuncBody.stmts fb_validate_length) fs_validate_length 3 [] PySem.Value.none PySem.Value.none PySem.Value.none (PySem.Value.str (PySem.Str.ofString "trie.validation") 242) none (PySem.Value.ref 68) PySem.Value.none 0)) #[])) :: ((nat_lit 70), (PySem.Obj.mk (PySem.Value.type "tuple") none (PySem.Data.seq #[] 0) #[])) :: ((nat_lit 72), (PySem.Obj.mk (PySem.Value.type "tuple") none (PySem.Data.seq #[(PySem.Value.str (PySem.Str.ofString "key") 264), (PySem.Value.str (PySem.Str.ofString "value") 265), (PySem.Value.str (PySem.Str.ofString "branch") 266), (PySem.Value.str (PySem.Str.ofString "hash_of") 267), (PySem.Value.str (PySem.Str.ofString "keccak") 268), (PySem.Value.str (PySem.Str.ofString "path") 269), (PySem.Value.str (PySem.Str.ofString "target_bit") 270), (PySem.Value.str (PySem.Str.ofString "node_hash") 271), (PySem.Value.str (PySem.Str.ofString "sibling_node") 272)] 0) #[])) :: ((nat_lit 73), (PySem.Obj.mk (PySem.Value.type "tuple") none (PySem.Data.seq #[] 0) #[])) :: ((nat_lit 75), (PySem.Obj.mk (PySem.Value.type "code") none (PySem.Data.fields #[(PySem.Value.str (PySem.Str.ofString "calc_root") 261), (PySem.Value.str (PySem.Str.ofString "calc_root") 262), (PySem.Value.str (PySem.Str.ofString "/claim/cut.py") 263), (PySem.Value.int 23 0), (PySem.Value.int 4 0), (PySem.Value.int 0 0), (PySem.Value.int 0 0), (PySem.Value.int 3 0), (PySem.Value.ref 70), (PySem.Value.bool Bool.true), (PySem.Value.int 181 0), (PySem.Value.ref 71), PySem.Value.none, (PySem.Value.ref 72), (PySem.Value.ref 73), (PySem.Value.ref 74), (PySem.Value.int 273 0), (PySem.Value.int 23 0), (PySem.Value.str (PySem.Str.ofString "/claim/cut.py") 274)]) #[])) :: ((nat_lit 76), (PySem.Obj.mk (PySem.Value.type "function") none (PySem.Data.func (PySem.FuncData.mk (PySem.Str.ofString "calc_root") (PySem.Str.ofString "calc_root") fp_calc_root (PySem.FuncBody.stmts fb_calc_root) fs_calc_root 3 [] PySem.Value.none PySem.Value.none PySem.Value.none (PySem.Value.str (PySem.Str.ofString "trie.smt") 259) none (PySem.Value.ref 75) PySem.Value.none 0)) #[])) :: ((nat_lit 84), (PySem.Obj.mk (PySem.Value.type "tuple") none (PySem.Data.seq #[] 0) #[])) :: ((nat_lit 86), (PySem.Obj.mk (PySem.Value.type "tuple") none (PySem.Data.seq #[(PySem.Value.str (PySem.Str.ofString "self") 291), (PySem.Value.str (PySem.Str.ofString "key") 292), (PySem.Value.str (PySem.Str.ofString "value") 293), (PySem.Value.str (PySem.Str.ofString "branch") 294), (PySem.Value.str (PySem.Str.ofString "hash_of") 295)] 0) #[])) :: ((nat_lit 87), (PySem.Obj.mk (PySem.Value.type "tuple") none (PySem.Data.seq #[] 0) #[])) :: ((nat_lit 89), (PySem.Obj.mk (PySem.Value.type "code") none (PySem.Data.fields #[(PySem.Value.str (PySem.Str.ofString "__init__") 288), (PySem.Value.str (PySem.Str.ofString "SparseMerkleProof.__init__") 289), (PySem.Value.str (PySem.Str.ofString "/claim/cut.py") 290), (PySem.Value.int 40 0), (PySem.Value.int 5 0), (PySem.Value.int 0 0), (PySem.Value.int 0 0), (PySem.Value.int 3 0), (PySem.Value.ref 84), (PySem.Value.bool Bool.true), (PySem.Value.int 181 0), (PySem.Value.ref 85), PySem.Value.none, (PySem.Value.ref 86), (PySem.Value.ref 87), (PySem.Value.ref 88), (PySem.Value.int 296 0), (PySem.Value.int 40 0), (PySem.Value.str (PySem.Str.ofString "/claim/cut.py") 297)]) #[])) :: ((nat_lit 90), (PySem.Obj.mk (PySem.Value.type "function") none (PySem.Data.func (PySem.FuncData.mk (PySem.Str.ofString "__init__") (PySem.Str.ofString "SparseMerkleProof.__init__") fp_SparseMerkleProof___init__ (PySem.FuncBody.stmts fb_SparseMerkleProof___init__) fs_SparseMerkleProof___init__ 3 [] PySem.Value.none PySem.Value.none PySem.Value.none (PySem.Value.str (PySem.Str.ofString "trie.smt") 259) none (PySem.Value.ref 89) PySem.Value.none 0)) #[])) :: ((nat_lit 91), (PySem.Obj.mk (PySem.Value.type "tuple") none (PySem.Data.seq #[] 0) #[])) :: ((nat_lit 93), (PySem.Obj.mk (PySem.Value.type "tuple") none (PySem.Data.seq #[(PySem.Value.str (PySem.Str.ofString "self") 302)] 0) #[])) :: ((nat_lit 94), (PySem.Obj.mk (PySem.Value.type "tuple") none (PySem.Data.seq #[] 0) #[])) :: ((nat_lit 96), (PySem.Obj.mk (PySem.Value.type "code") none (PySem.Data.fields #[(PySem.Value.str (PySem.Str.ofString "key") 299), (PySem.Value.str (PySem.Str.ofString "SparseMerkleProof.key") 300), (PySem.Value.str (PySem.Str.ofString "/claim/cut.py") 301), (PySem.Value.int 51 0), (PySem.Value.int 1 0), (PySem.Value.int 0 0), (PySem.Value.int 0 0), (PySem.Value.int 3 0), (PySem.Value.ref 91), (PySem.Value.bool Bool.true), (PySem.Value.int 181 0), (PySem.Value.ref 92), PySem.Value.none, (PySem.Value.ref 93), (PySem.Value.ref 94), (PySem.Value.ref 95), (PySem.Value.int 303 0), (PySem.Value.int 51 0), (PySem.Value.str (PySem.Str.ofString "/claim/cut.py") 304)]) #[])) :: ((nat_lit 97), (PySem.Obj.mk (PySem.Value.type "function") none (PySem.Data.func (PySem.FuncData.mk (PySem.Str.ofString "key") (PySem.Str.ofString "SparseMerkleProof.key") fp_SparseMerkleProof_key (PySem.FuncBody.stmts fb_SparseMerkleProof_key) fs_SparseMerkleProof_key 3 [] PySem.Value.none PySem.Value.none PySem.Value.none (PySem.Value.str (PySem.Str.ofString "trie.smt") 259) none (PySem.Value.ref 96) PySem.Value.none 0)) #[])) :: ((nat_lit 98), (PySem.Obj.mk (PySem.Value.type "property") none (PySem.Data.fields #[(PySem.Value.ref 97), PySem.Value.none, PySem.Value.none, PySem.Value.none, (PySem.Value.str (PySem.Str.ofString "key") 306), (PySem.Value.bool Bool.false)]) #[])) :: ((nat_lit 99), (PySem.Obj.mk (PySem.Value.type "tuple") none (PySem.Data.seq #[] 0) #[])) :: ((nat_lit 101), (PySem.Obj.mk (PySem.Value.type "tuple") none (PySem.Data.seq #[(PySem.Value.str (PySem.Str.ofString "self") 310)] 0) #[])) :: ((nat_lit 102), (PySem.Obj.mk (PySem.Value.type "tuple") none (PySem.Data.seq #[] 0) #[])) :: ((nat_lit 104), (PySem.Obj.mk (PySem.Value.type "code") none (PySem.Data.fields #[(PySem.Value.str (PySem.Str.ofString "value") 307), (PySem.Value.str (PySem.Str.ofString "SparseMerkleProof.value") 308), (PySem.Value.str (PySem.Str.ofString "/claim/cut.py") 309), (PySem.Value.int 55 0), (PySem.Value.int 1 0), (PySem.Value.int 0 0), (PySem.Value.int 0 0), (PySem.Value.int 3 0), (PySem.Value.ref 99), (PySem.Value.bool Bool.true), (PySem.Value.int 181 0), (PySem.Value.ref 100), PySem.Value.none, (PySem.Value.ref 101), (PySem.Value.ref 102), (PySem.Value.ref 103), (PySem.Value.int 311 0), (PySem.Value.int 55 0), (PySem.Value.str (PySem.Str.ofString "/claim/cut.py") 312)]) #[])) :: ((nat_lit 105), (PySem.Obj.mk (PySem.Value.type "function") none (PySem.Data.func (PySem.FuncData.mk (PySem.Str.ofString "value") (PySem.Str.ofString "SparseMerkleProof.value") fp_SparseMerkleProof_value (PySem.FuncBody.stmts fb_SparseMerkleProof_value) fs_SparseMerkleProof_value 3 [] PySem.Value.none PySem.Value.none PySem.Value.none (PySem.Value.str (PySem.Str.ofString "trie.smt") 259) none (PySem.Value.ref 104) PySem.Value.none 0)) #[])) :: ((nat_lit 106), (PySem.Obj.mk (PySem.Value.type "property") none (PySem.Data.fields #[(PySem.Value.ref 105), PySem.Value.none, PySem.Value.none, PySem.Value.none, (PySem.Value.str (PySem.Str.ofString "value") 314), (PySem.Value.bool Bool.false)]) #[])) :: ((nat_lit 107), (PySem.Obj.mk (PySem.Value.type "tuple") none (PySem.Data.seq #[] 0) #[])) :: ((nat_lit 109), (PySem.Obj.mk (PySem.Value.type "tuple") none (PySem.Data.seq #[(PySem.Value.str (PySem.Str.ofString "self") 318)] 0) #[])) :: ((nat_lit 110), (PySem.Obj.mk (PySem.Value.type "tuple") none (PySem.Data.seq #[] 0) #[])) :: ((nat_lit 112), (PySem.Obj.mk (PySem.Value.type "code") none (PySem.Data.fields #[(PySem.Value.str (PySem.Str.ofString "branch") 315), (PySem.Value.str (PySem.Str.ofString "SparseMerkleProof.branch") 316), (PySem.Value.str (PySem.Str.ofString "/claim/cut.py") 317), (PySem.Value.int 59 0), (PySem.Value.int 1 0), (PySem.Value.int 0 0), (PySem.Value.int 0 0), (PySem.Value.int 3 0), (PySem.Value.ref 107), (PySem.Value.bool Bool.true), (PySem.Value.int 181 0), (PySem.Value.ref 108), PySem.Value.none, (PySem.Value.ref 109), (PySem.Value.ref 110), (PySem.Value.ref 111), (PySem.Value.int 319 0), (PySem.Value.int 59 0), (PySem.Value.str (PySem.Str.ofString "/claim/cut.py") 320)]) #[])) :: ((nat_lit 113), (PySem.Obj.mk (PySem.Value.type "function") none (PySem.Data.func (PySem.FuncData.mk (PySem.Str.ofString "branch") (PySem.Str.ofString "SparseMerkleProof.branch") fp_SparseMerkleProof_branch (PySem.FuncBody.stmts fb_SparseMerkleProof_branch) fs_SparseMerkleProof_branch 3 [] PySem.Value.none PySem.Value.none PySem.Value.none (PySem.Value.str (PySem.Str.ofString "trie.smt") 259) none (PySem.Value.ref 112) PySem.Value.none 0)) #[])) :: ((nat_lit 114), (PySem.Obj.mk (PySem.Value.type "property") none (PySem.Data.fields #[(PySem.Value.ref 113), PySem.Value.none, PySem.Value.none, PySem.Value.none, (PySem.Value.str (PySem.Str.ofString "branch") 322), (PySem.Value.bool Bool.false)]) #[])) :: ((nat_lit 115), (PySem.Obj.mk (PySem.Value.type "tuple") none (PySem.Data.seq #[] 0) #[])) :: ((nat_lit 117), (PySem.Obj.mk (PySem.Value.type "tuple") none (PySem.Data.seq #[(PySem.Value.str (PySem.Str.ofString "self") 326)] 0) #[])) :: ((nat_lit 118), (PySem.Obj.mk (PySem.Value.type "tuple") none (PySem.Data.seq #[] 0) #[])) :: ((nat_lit 120), (PySem.Obj.mk (PySem.Value.type "code") none (PySem.Data.fields #[(PySem.Value.str (PySem.Str.ofString "root_hash") 323), (PySem.Value.str (PySem.Str.ofString "SparseMerkleProof.root_hash") 324), (PySem.Value.str (PySem.Str.ofString "/claim/cut.py") 325), (PySem.Value.int 63 0), (PySem.Value.int 1 0), (PySem.Value.int 0 0), (PySem.Value.int 0 0), (PySem.Value.int 3 0), (PySem.Value.ref 115), (PySem.Value.bool Bool.true), (PySem.Value.int 181 0), (PySem.Value.ref 116), PySem.Value.none, (PySem.Value.ref 117), (PySem.Value.ref 118), (PySem.Value.ref 119), (PySem.Value.int 327 0), (PySem.Value.int 63 0), (PySem.Value.str (PySem.Str.ofString "/claim/cut.py") 328)]) #[])) :: ((nat_lit 121), (PySem.Obj.mk (PySem.Value.type "function") none (PySem.Data.func (PySem.FuncData.mk (PySem.Str.ofString "root_hash") (PySem.Str.ofString "SparseMerkleProof.root_hash") fp_SparseMerkleProof_root_hash (PySem.FuncBody.stmts fb_SparseMerkleProof_root_hash) fs_SparseMerkleProof_root_hash 3 [] PySem.Value.none PySem.Value.none PySem.Value.none (PySem.Value.str (PySem.Str.ofString "trie.smt") 259) none (PySem.Value.ref 120) PySem.Value.none 0)) #[])) :: ((nat_lit 122), (PySem.Obj.mk (PySem.Value.type "property") none (PySem.Data.fields #[(PySem.Value.ref 121), PySem.Value.none, PySem.Value.none, PySem.Value.none, (PySem.Value.str (PySem.Str.ofString "root_hash") 330), (PySem.Value.bool Bool.false)]) #[])) :: ((nat_lit 123), (PySem.Obj.mk (PySem.Value.type "tuple") none (PySem.Data.seq #[] 0) #[])) :: ((nat_lit 125), (PySem.Obj.mk (PySem.Value.type "tuple") none (PySem.Data.seq #[(PySem.Value.str (PySem.Str.ofString "self") 334), (PySem.Value.str (PySem.Str.ofString "key") 335), (PySem.Value.str (PySem.Str.ofString "value") 336), (PySem.Value.str (PySem.Str.ofString "node_updates") 337), (PySem.Value.str (PySem.Str.ofString "path_diff") 338), (PySem.Value.str (PySem.Str.ofString "bit") 339), (PySem.Value.str (PySem.Str.ofString "branch_point") 340)] 0) #[])) :: ((nat_lit 126), (PySem.Obj.mk (PySem.Value.type "tuple") none (PySem.Data.seq #[] 0) #[])) :: ((nat_lit 128), (PySem.Obj.mk (PySem.Value.type "code") none (PySem.Data.fields #[(PySem.Value.str (PySem.Str.ofString "update") 331), (PySem.Value.str (PySem.Str.ofString "SparseMerkleProof.update") 332), (PySem.Value.str (PySem.Str.ofString "/claim/cut.py") 333), (PySem.Value.int 67 0), (PySem.Value.int 4 0), (PySem.Value.int 0 0), (PySem.Value.int 0 0), (PySem.Value.int 3 0), (PySem.Value.ref 123), (PySem.Value.bool Bool.true), (PySem.Value.int 181 0), (PySem.Value.ref 124), PySem.Value.none, (PySem.Value.ref 125), (PySem.Value.ref 126), (PySem.Value.ref 127), (PySem.Value.int 341 0), (PySem.Value.int 67 0), (PySem.Value.str (PySem.Str.ofString "/claim/cut.py") 342)]) #[])) :: ((nat_lit 129), (PySem.Obj.mk (PySem.Value.type "function") none (PySem.Data.func (PySem.FuncData.mk (PySem.Str.ofString "update") (PySem.Str.ofString "SparseMerkleProof.update") fp_SparseMerkleProof_update (PySem.FuncBody.stmts fb_SparseMerkleProof_update) fs_SparseMerkleProof_update 3 [] PySem.Value.none PySem.Value.none PySem.Value.none (PySem.Value.str (PySem.Str.ofString "trie.smt") 259) none (PySem.Value.ref 128) PySem.Value.none 0)) #[])) :: ((nat_lit 130), (PySem.Obj.mk (PySem.Value.type "tuple") none (PySem.Data.seq #[(PySem.Value.str (PySem.Str.ofString "_branch") 344), (PySem.Value.str (PySem.Str.ofString "_branch_size") 345), (PySem.Value.str (PySem.Str.ofString "_key") 346), (PySem.Value.str (PySem.Str.ofString "_key_size") 347), (PySem.Value.str (PySem.Str.ofString "_value") 348), (PySem.Value.str (PySem.Str.ofString "hash_of") 349)] 0) #[])) :: ((nat_lit 131), (PySem.Obj.mk (PySem.Value.type "dict") none (PySem.Data.dict #[(PySem.DictEntry.mk (PySem.PyData.keyHash P (PySem.Str.ofString "__module__")) (PySem.Value.str (PySem.Str.ofString "__module__") 283) (PySem.Value.str (PySem.Str.ofString "trie.smt") 259)), (PySem.DictEntry.mk (PySem.PyData.keyHash P (PySem.Str.ofString "__firstlineno__")) (PySem.Value.str (PySem.Str.ofString "__firstlineno__") 287) (PySem.Value.int 38 286)), (PySem.DictEntry.mk (PySem.PyData.keyHash P (PySem.Str.ofString "__init__")) (PySem.Value.str (PySem.Str.ofString "__init__") 298) (PySem.Value.ref 90)), (PySem.DictEntry.mk (PySem.PyData.keyHash P (PySem.Str.ofString "key")) (PySem.Value.str (PySem.Str.ofString "key") 306) (PySem.Value.ref 98)), (PySem.DictEntry.mk (PySem.PyData.keyHash P (PySem.Str.ofString "value")) (PySem.Value.str (PySem.Str.ofString "value") 314) (PySem.Value.ref 106)), (PySem.DictEntry.mk (PySem.PyData.keyHash P (PySem.Str.ofString "branch")) (PySem.Value.str (PySem.Str.ofString "branch") 322) (PySem.Value.ref 114)), (PySem.DictEntry.mk (PySem.PyData.keyHash P (PySem.Str.ofString "root_hash")) (PySem.Value.str (PySem.Str.ofString "root_hash") 330) (PySem.Value.ref 122)), (PySem.DictEntry.mk (PySem.PyData.keyHash P (PySem.Str.ofString "update")) (PySem.Value.str (PySem.Str.ofString "update") 343) (PySem.Value.ref 129)), (PySem.DictEntry.mk (PySem.PyData.keyHash P (PySem.Str.ofString "__static_attributes__")) (PySem.Value.str (PySem.Str.ofString "__static_attributes__") 350) (PySem.Value.ref 130)), (PySem.DictEntry.mk (PySem.PyData.keyHash P (PySem.Str.ofString "__dict__")) (PySem.Value.str (PySem.Str.ofString "__dict__") 352) (PySem.Value.ref 133)), (PySem.DictEntry.mk (PySem.PyData.keyHash P (PySem.Str.ofString "__weakref__")) (PySem.Value.str (PySem.Str.ofString "__weakref__") 354) (PySem.Value.ref 134)), (PySem.DictEntry.mk (PySem.PyData.keyHash P (PySem.Str.ofString "__doc__")) (PySem.Value.str (PySem.Str.ofString "__doc__") 355) PySem.Value.none)] 4) #[])) :: ((nat_lit 132), (PySem.Obj.mk (PySem.Value.type "type") none (PySem.Data.cls (PySem.ClassData.mk (PySem.Str.ofString "SparseMerkleProof") [(PySem.Value.type "object")] [(PySem.Value.ref 132), (PySem.Value.type "object")] 131 (PySem.Str.ofString "SparseMerkleProof") Bool.true [] [] Bool.false none Bool.false)) #[none, none, (some (PySem.Value.str (PySem.Str.ofString "SparseMerkleProof") 276)), (some (PySem.Value.str (PySem.Str.ofString "SparseMerkleProof") 284)), (some (PySem.Value.builtin "object.__new__")), (some (PySem.Value.bool Bool.true))])) :: ((nat_lit 133), (PySem.Obj.mk (PySem.Value.type "getset_descriptor") none (PySem.Data.fields #[(PySem.Value.str (PySem.Str.ofString "__dict__") 351), (PySem.Value.ref 132), (PySem.Value.builtin "function.__dict__"), (PySem.Value.builtin "function.__dict__#set")]) #[])) :: ((nat_lit 134), (PySem.Obj.mk (PySem.Value.type "getset_descriptor") none (PySem.Data.fields #[(PySem.Value.str (PySem.Str.ofString "__weakref__") 353), (PySem.Value.ref 132), (PySem.Value.builtin "ExceptionGroup.__weakref__"), PySem.Value.none]) #[])) :: ((nat_lit 144), (PySem.Obj.mk (PySem.Value.type "tuple") none (PySem.Data.seq #[(PySem.Value.int 32 370), (PySem.Value.bytes #[] 218)] 0) #[])) :: ((nat_lit 145), (PySem.Obj.mk (PySem.Value.type "tuple") none (PySem.Data.seq #[] 0) #[])) :: ((nat_lit 147), (PySem.Obj.mk (PySem.Value.type "tuple") none (PySem.Data.seq #[(PySem.Value.str (PySem.Str.ofString "self") 374), (PySem.Value.str (PySem.Str.ofString "hash_of") 375), (PySem.Value.str (PySem.Str.ofString "key_size") 376), (PySem.Value.str (PySem.Str.ofString "default") 377), (PySem.Value.str (PySem.Str.ofString "keccak") 378), (PySem.Value.str (PySem.Str.ofString "node") 379), (PySem.Value.str (PySem.Str.ofString "_") 380), (PySem.Value.str (PySem.Str.ofString "node_hash") 381)] 0) #[])) :: ((nat_lit 148), (PySem.Obj.mk (PySem.Value.type "tuple") none (PySem.Data.seq #[] 0) #[])) :: ((nat_lit 150), (PySem.Obj.mk (PySem.Value.type "code") none (PySem.Data.fields #[(PySem.Value.str (PySem.Str.ofString "__init__") 371), (PySem.Value.str (PySem.Str.ofString "SparseMerkleTree.__init__") 372), (PySem.Value.str (PySem.Str.ofString "/claim/cut.py") 373), (PySem.Value.int 83 0), (PySem.Value.int 4 0), (PySem.Value.int 0 0), (PySem.Value.int 0 0), (PySem.Value.int 3 0), (PySem.Value.ref 145), (PySem.Value.bool Bool.true), (PySem.Value.int 181 0), (PySem.Value.ref 146), PySem.Value.none, (PySem.Value.ref 147), (PySem.Value.ref 148), (PySem.Value.ref 149), (PySem.Value.int 382 0), (PySem.Value.int 83 0), (PySem.Value.str (PySem.Str.ofString "/claim/cut.py") 383)]) #[])) :: ((nat_lit 151), (PySem.Obj.mk (PySem.Value.type "function") none (PySem.Data.func (PySem.FuncData.mk (PySem.Str.ofString "__init__") (PySem.Str.ofString "SparseMerkleTree.__init__") fp_SparseMerkleTree___init__ (PySem.FuncBody.stmts fb_SparseMerkleTree___init__) fs_SparseMerkleTree___init__ 3 [] (PySem.Value.ref 144) PySem.Value.none PySem.Value.none (PySem.Value.str (PySem.Str.ofString "trie.smt") 259) none (PySem.Value.ref 150) PySem.Value.none 0)) #[])) :: ((nat_lit 152), (PySem.Obj.mk (PySem.Value.type "tuple") none (PySem.Data.seq #[(PySem.Value.int 32 385), (PySem.Value.bytes #[] 218)] 0) #[])) :: ((nat_lit 153), (PySem.Obj.mk (PySem.Value.type "tuple") none (PySem.Data.seq #[] 0) #[])) :: ((nat_lit 155), (PySem.Obj.mk (PySem.Value.type "tuple") none (PySem.Data.seq #[(PySem.Value.str (PySem.Str.ofString "cls") 389), (PySem.Value.str (PySem.Str.ofString "db") 390), (PySem.Value.str (PySem.Str.ofString "root_hash") 391), (PySem.Value.str (PySem.Str.ofString "hash_of") 392), (PySem.Value.str (PySem.Str.ofString "key_size") 393), (PySem.Value.str (PySem.Str.ofString "default") 394)] 0) #[])) :: ((nat_lit 156), (PySem.Obj.mk (PySem.Value.type "tuple") none (PySem.Data.seq #[] 0) #[])) :: ((nat_lit 158), (PySem.Obj.mk (PySem.Value.type "code") none (PySem.Data.fields #[(PySem.Value.str (PySem.Str.ofString "from_db") 386), (PySem.Value.str (PySem.Str.ofString "SparseMerkleTree.from_db") 387), (PySem.Value.str (PySem.Str.ofString "/claim/cut.py") 388), (PySem.Value.int 100 0), (PySem.Value.int 6 0), (PySem.Value.int 0 0), (PySem.Value.int 0 0), (PySem.Value.int 3 0), (PySem.Value.ref 153), (PySem.Value.bool Bool.true), (PySem.Value.int 181 0), (PySem.Value.ref 154), PySem.Value.none, (PySem.Value.ref 155), (PySem.Value.ref 156), (PySem.Value.ref 157), (PySem.Value.int 395 0), (PySem.Value.int 100 0), (PySem.Value.str (PySem.Str.ofString "/claim/cut.py") 396)]) #[])) :: ((nat_lit 159), (PySem.Obj.mk (PySem.Value.type "function") none (PySem.Data.func (PySem.FuncData.mk (PySem.Str.ofString "from_db") (PySem.Str.ofString "SparseMerkleTree.from_db") fp_SparseMerkleTree_from_db (PySem.FuncBody.stmts fb_SparseMerkleTree_from_db) fs_SparseMerkleTree_from_db 3 [] (PySem.Value.ref 152) PySem.Value.none PySem.Value.none (PySem.Value.str (PySem.Str.ofString "trie.smt") 259) (some 162) (PySem.Value.ref 158) PySem.Value.none 0)) #[])) :: ((nat_lit 160), (PySem.Obj.mk (PySem.Value.type "dict") none (PySem.Data.dict #[(PySem.DictEntry.mk (PySem.PyData.keyHash P (PySem.Str.ofString "__module__")) (PySem.Value.str (PySem.Str.ofString "__module__") 398) (PySem.Value.str (PySem.Str.ofString "trie.smt") 259)), (PySem.DictEntry.mk (PySem.PyData.keyHash P (PySem.Str.ofString "__name__")) (PySem.Value.str (PySem.Str.ofString "__name__") 401) (PySem.Value.str (PySem.Str.ofString "from_db") 400)), (PySem.DictEntry.mk (PySem.PyData.keyHash P (PySem.Str.ofString "__qualname__")) (PySem.Value.str (PySem.Str.ofString "__qualname__") 404) (PySem.Value.str (PySem.Str.ofString "SparseMerkleTree.from_db") 403)), (PySem.DictEntry.mk (PySem.PyData.keyHash P (PySem.Str.ofString "__doc__")) (PySem.Value.str (PySem.Str.ofString "__doc__") 406) PySem.Value.none), (PySem.DictEntry.mk (PySem.PyData.keyHash P (PySem.Str.ofString "__annotations__")) (PySem.Value.str (PySem.Str.ofString "__annotations__") 408) (PySem.Value.ref 162))] 5) #[])) :: ((nat_lit 161), (PySem.Obj.mk (PySem.Value.type "classmethod") (some 160) (PySem.Data.fields #[(PySem.Value.ref 159), (PySem.Value.bool Bool.false)]) #[])) :: ((nat_lit 162), (PySem.Obj.mk (PySem.Value.type "dict") none (PySem.Data.dict #[] 0) #[])) :: ((nat_lit 163), (PySem.Obj.mk (PySem.Value.type "tuple") none (PySem.Data.seq #[] 0) #[])) :: ((nat_lit 165), (PySem.Obj.mk (PySem.Value.type "tuple") none (PySem.Data.seq #[(PySem.Value.str (PySem.Str.ofString "self") 413), (PySem.Value.str (PySem.Str.ofString "key") 414), (PySem.Value.str (PySem.Str.ofString "value") 415), (PySem.Value.str (PySem.Str.ofString "_") 416)] 0) #[])) :: ((nat_lit 166), (PySem.Obj.mk (PySem.Value.type "tuple") none (PySem.Data.seq #[] 0) #[])) :: ((nat_lit 168), (PySem.Obj.mk (PySem.Value.type "code") none (PySem.Data.fields #[(PySem.Value.str (PySem.Str.ofString "get") 410), (PySem.Value.str (PySem.Str.ofString "SparseMerkleTree.get") 411), (PySem.Value.str (PySem.Str.ofString "/claim/cut.py") 412), (PySem.Value.int 104 0), (PySem.Value.int 2 0), (PySem.Value.int 0 0), (PySem.Value.int 0 0), (PySem.Value.int 3 0), (PySem.Value.ref 163), (PySem.Value.bool Bool.true), (PySem.Value.int 181 0), (PySem.Value.ref 164), PySem.Value.none, (PySem.Value.ref 165), (PySem.Value.ref 166), (PySem.Value.ref 167), (PySem.Value.int 417 0), (PySem.Value.int 104 0), (PySem.Value.str (PySem.Str.ofString "/claim/cut.py") 418)]) #[])) :: ((nat_lit 169), (PySem.Obj.mk (PySem.Value.type "function") none (PySem.Data.func (PySem.FuncData.mk (PySem.Str.ofString "get") (PySem.Str.ofString "SparseMerkleTree.get") fp_SparseMerkleTree_get (PySem.FuncBody.stmts fb_SparseMerkleTree_get) fs_SparseMerkleTree_get 3 [] PySem.Value.none PySem.Value.none PySem.Value.none (PySem.Value.str (PySem.Str.ofString "trie.smt") 259) none (PySem.Value.ref 168) PySem.Value.none 0)) #[])) :: ((nat_lit 170), (PySem.Obj.mk (PySem.Value.type "tuple") none (PySem.Data.seq #[] 0) #[])) :: ((nat_lit 172), (PySem.Obj.mk (PySem.Value.type "tuple") none (PySem.Data.seq #[(PySem.Value.str (PySem.Str.ofString "self") 423), (PySem.Value.str (PySem.Str.ofString "key") 424), (PySem.Value.str (PySem.Str.ofString "value") 425), (PySem.Value.str (PySem.Str.ofString "branch") 426)] 0) #[])) :: ((nat_lit 173), (PySem.Obj.mk (PySem.Value.type "tuple") none (PySem.Data.seq #[] 0) #[])) :: ((nat_lit 175), (PySem.Obj.mk (PySem.Value.type "code") none (PySem.Data.fields #[(PySem.Value.str (PySem.Str.ofString "branch") 420), (PySem.Value.str (PySem.Str.ofString "SparseMerkleTree.branch") 421), (PySem.Value.str (PySem.Str.ofString "/claim/cut.py") 422), (PySem.Value.int 110 0), (PySem.Value.int 2 0), (PySem.Value.int 0 0), (PySem.Value.int 0 0), (PySem.Value.int 3 0), (PySem.Value.ref 170), (PySem.Value.bool Bool.true), (PySem.Value.int 181 0), (PySem.Value.ref 171), PySem.Value.none, (PySem.Value.ref 172), (PySem.Value.ref 173), (PySem.Value.ref 174), (PySem.Value.int 427 0), (PySem.Value.int 110 0), (PySem.Value.str (PySem.Str.ofString "/claim/cut.py") 428)]) #[])) :: ((nat_lit 176), (PySem.Obj.mk (PySem.Value.type "function") none (PySem.Data.func (PySem.FuncData.mk (PySem.Str.ofString "branch") (PySem.Str.ofString "SparseMerkleTree.branch") fp_SparseMerkleTree_branch (PySem.FuncBody.stmts fb_SparseMerkleTree_branch) fs_SparseMerkleTree_branch 3 [] PySem.Value.none PySem.Value.none PySem.Value.none (PySem.Value.str (PySem.Str.ofString "trie.smt") 259) none (PySem.Value.ref 175) PySem.Value.none 0)) #[])) :: ((nat_lit 177), (PySem.Obj.mk (PySem.Value.type "tuple") none (PySem.Data.seq #[] 0) #[])) :: ((nat_lit 179), (PySem.Obj.mk (PySem.Value.type "tuple") none (PySem.Data.seq #[(PySem.Value.str (PySem.Str.ofString "self") 433), (PySem.Value.str (PySem.Str.ofString "key") 434), (PySem.Value.str (PySem.Str.ofString "branch") 435), (PySem.Value.str (PySem.Str.ofString "target_bit") 436), (PySem.Value.str (PySem.Str.ofString "path") 437), (PySem.Value.str (PySem.Str.ofString "node_hash") 438), (PySem.Value.str (PySem.Str.ofString "_") 439), (PySem.Value.str (PySem.Str.ofString "node") 440), (PySem.Value.str (PySem.Str.ofString "left") 441), (PySem.Value.str (PySem.Str.ofString "right") 442)] 0) #[])) :: ((nat_lit 180), (PySem.Obj.mk (PySem.Value.type "tuple") none (PySem.Data.seq #[] 0) #[])) :: ((nat_lit 182), (PySem.Obj.mk (PySem.Value.type "code") none (PySem.Data.fields #[(PySem.Value.str (PySem.Str.ofString "_get") 430), (PySem.Value.str (PySem.Str.ofString "SparseMerkleTree._get") 431), (PySem.Value.str (PySem.Str.ofString "/claim/cut.py") 432), (PySem.Value.int 116 0), (PySem.Value.int 2 0), (PySem.Value.int 0 0), (PySem.Value.int 0 0), (PySem.Value.int 3 0), (PySem.Value.ref 177), (PySem.Value.bool Bool.true), (PySem.Value.int 181 0), (PySem.Value.ref 178), PySem.Value.none, (PySem.Value.ref 179), (PySem.Value.ref 180), (PySem.Value.ref 181), (PySem.Value.int 443 0), (PySem.Value.int 116 0), (PySem.Value.str (PySem.Str.ofString "/claim/cut.py") 444)]) #[])) :: ((nat_lit 183), (PySem.Obj.mk (PySem.Value.type "function") none (PySem.Data.func (PySem.FuncData.mk (PySem.Str.ofString "_get") (PySem.Str.ofString "SparseMerkleTree._get") fp_SparseMerkleTree__get (PySem.FuncBody.stmts fb_SparseMerkleTree__get) fs_SparseMerkleTree__get 3 [] PySem.Value.none PySem.Value.none PySem.Value.none (PySem.Value.str (PySem.Str.ofString "trie.smt") 259) none (PySem.Value.ref 182) PySem.Value.none 0)) #[])) :: ((nat_lit 184), (PySem.Obj.mk (PySem.Value.type "tuple") none (PySem.Data.seq #[] 0) #[])) :: ((nat_lit 186), (PySem.Obj.mk (PySem.Value.type "tuple") none (PySem.Data.seq #[(PySem.Value.str (PySem.Str.ofString "self") 449), (PySem.Value.str (PySem.Str.ofString "key") 450), (PySem.Value.str (PySem.Str.ofString "value") 451), (PySem.Value.str (PySem.Str.ofString "keccak") 452), (PySem.Value.str (PySem.Str.ofString "path") 453), (PySem.Value.str (PySem.Str.ofString "node") 454), (PySem.Value.str (PySem.Str.ofString "_") 455), (PySem.Value.str (PySem.Str.ofString "branch") 456), (PySem.Value.str (PySem.Str.ofString "proof_update") 457), (PySem.Value.str (PySem.Str.ofString "target_bit") 458), (PySem.Value.str (PySem.Str.ofString "sibling_node") 459), (PySem.Value.str (PySem.Str.ofString "node_hash") 460)] 0) #[])) :: ((nat_lit 187), (PySem.Obj.mk (PySem.Value.type "tuple") none (PySem.Data.seq #[] 0) #[])) :: ((nat_lit 189), (PySem.Obj.mk (PySem.Value.type "code") none (PySem.Data.fields #[(PySem.Value.str (PySem.Str.ofString "set") 446), (PySem.Value.str (PySem.Str.ofString "SparseMerkleTree.set") 447), (PySem.Value.str (PySem.Str.ofString "/claim/cut.py") 448), (PySem.Value.int 135 0), (PySem.Value.int 3 0), (PySem.Value.int 0 0), (PySem.Value.int 0 0), (PySem.Value.int 3 0), (PySem.Value.ref 184), (PySem.Value.bool Bool.true), (PySem.Value.int 181 0), (PySem.Value.ref 185), PySem.Value.none, (PySem.Value.ref 186), (PySem.Value.ref 187), (PySem.Value.ref 188), (PySem.Value.int 461 0), (PySem.Value.int 135 0), (PySem.Value.str (PySem.Str.ofString "/claim/cut.py") 462)]) #[])) :: ((nat_lit 190), (PySem.Obj.mk (PySem.Value.type "function") none (PySem.Data.func (PySem.FuncData.mk (PySem.Str.ofString "set") (PySem.Str.ofString "SparseMerkleTree.set") fp_SparseMerkleTree_set (PySem.FuncBody.stmts fb_SparseMerkleTree_set) fs_SparseMerkleTree_set 3 [] PySem.Value.none PySem.Value.none PySem.Value.none (PySem.Value.str (PySem.Str.ofString "trie.smt") 259) none (PySem.Value.ref 189) PySem.Value.none 0)) #[])) :: ((nat_lit 191), (PySem.Obj.mk (PySem.Value.type "tuple") none (PySem.Data.seq #[] 0) #[])) :: ((nat_lit 193), (PySem.Obj.mk (PySem.Value.type "tuple") none (PySem.Data.seq #[(PySem.Value.str (PySem.Str.ofString "self") 467), (PySem.Value.str (PySem.Str.ofString "key") 468)] 0) #[])) :: ((nat_lit 194), (PySem.Obj.mk (PySem.Value.type "tuple") none (PySem.Data.seq #[] 0) #[])) :: ((nat_lit 196), (PySem.Obj.mk (PySem.Value.type "code") none (PySem.Data.fields #[(PySem.Value.str (PySem.Str.ofString "exists") 464), (PySem.Value.str (PySem.Str.ofString "SparseMerkleTree.exists") 465), (PySem.Value.str (PySem.Str.ofString "/claim/cut.py") 466), (PySem.Value.int 158 0), (PySem.Value.int 2 0), (PySem.Value.int 0 0), (PySem.Value.int 0 0), (PySem.Value.int 3 0), (PySem.Value.ref 191), (PySem.Value.bool Bool.true), (PySem.Value.int 181 0), (PySem.Value.ref 192), PySem.Value.none, (PySem.Value.ref 193), (PySem.Value.ref 194), (PySem.Value.ref 195), (PySem.Value.int 469 0), (PySem.Value.int 158 0), (PySem.Value.str (PySem.Str.ofString "/claim/cut.py") 470)]) #[])) :: ((nat_lit 197), (PySem.Obj.mk (PySem.Value.type "function") none (PySem.Data.func (PySem.FuncData.mk (PySem.Str.ofString "exists") (PySem.Str.ofString "SparseMerkleTree.exists") fp_SparseMerkleTree_exists (PySem.FuncBody.stmts fb_SparseMerkleTree_exists) fs_SparseMerkleTree_exists 3 [] PySem.Value.none PySem.Value.none PySem.Value.none (PySem.Value.str (PySem.Str.ofString "trie.smt") 259) none (PySem.Value.ref 196) PySem.Value.none 0)) #[])) :: ((nat_lit 198), (PySem.Obj.mk (PySem.Value.type "tuple") none (PySem.Data.seq #[] 0) #[])) :: ((nat_lit 200), (PySem.Obj.mk (PySem.Value.type "tuple") none (PySem.Data.seq #[(PySem.Value.str (PySem.Str.ofString "self") 475), (PySem.Value.str (PySem.Str.ofString "key") 476)] 0) #[])) :: ((nat_lit 201), (PySem.Obj.mk (PySem.Value.type "tuple") none (PySem.Data.seq #[] 0) #[])) :: ((nat_lit 203), (PySem.Obj.mk (PySem.Value.type "code") none (PySem.Data.fields #[(PySem.Value.str (PySem.Str.ofString "delete") 472), (PySem.Value.str (PySem.Str.ofString "SparseMerkleTree.delete") 473), (PySem.Value.str (PySem.Str.ofString "/claim/cut.py") 474), (PySem.Value.int 167 0), (PySem.Value.int 2 0), (PySem.Value.int 0 0), (PySem.Value.int 0 0), (PySem.Value.int 3 0), (PySem.Value.ref 198), (PySem.Value.bool Bool.true), (PySem.Value.int 181 0), (PySem.Value.ref 199), PySem.Value.none, (PySem.Value.ref 200), (PySem.Value.ref 201), (PySem.Value.ref 202), (PySem.Value.int 477 0), (PySem.Value.int 167 0), (PySem.Value.str (PySem.Str.ofString "/claim/cut.py") 478)]) #[])) :: ((nat_lit 204), (PySem.Obj.mk (PySem.Value.type "function") none (PySem.Data.func (PySem.FuncData.mk (PySem.Str.ofString "delete") (PySem.Str.ofString "SparseMerkleTree.delete") fp_SparseMerkleTree_delete (PySem.FuncBody.stmts fb_SparseMerkleTree_delete) fs_SparseMerkleTree_delete 3 [] PySem.Value.none PySem.Value.none PySem.Value.none (PySem.Value.str (PySem.Str.ofString "trie.smt") 259) none (PySem.Value.ref 203) PySem.Value.none 0)) #[])) :: ((nat_lit 205), (PySem.Obj.mk (PySem.Value.type "tuple") none (PySem.Data.seq #[] 0) #[])) :: ((nat_lit 207), (PySem.Obj.mk (PySem.Value.type "tuple") none (PySem.Data.seq #[(PySem.Value.str (PySem.Str.ofString "self") 483), (PySem.Value.str (PySem.Str.ofString "key") 484)] 0) #[])) :: ((nat_lit 208), (PySem.Obj.mk (PySem.Value.type "tuple") none (PySem.Data.seq #[] 0) #[])) :: ((nat_lit 210), (PySem.Obj.mk (PySem.Value.type "code") none (PySem.Data.fields #[(PySem.Value.str (PySem.Str.ofString "__getitem__") 480), (PySem.Value.str (PySem.Str.ofString "SparseMerkleTree.__getitem__") 481), (PySem.Value.str (PySem.Str.ofString "/claim/cut.py") 482), (PySem.Value.int 172 0), (PySem.Value.int 2 0), (PySem.Value.int 0 0), (PySem.Value.int 0 0), (PySem.Value.int 3 0), (PySem.Value.ref 205), (PySem.Value.bool Bool.true), (PySem.Value.int 181 0), (PySem.Value.ref 206), PySem.Value.none, (PySem.Value.ref 207), (PySem.Value.ref 208), (PySem.Value.ref 209), (PySem.Value.int 485 0), (PySem.Value.int 172 0), (PySem.Value.str (PySem.Str.ofString "/claim/cut.py") 486)]) #[])) :: ((nat_lit 211), (PySem.Obj.mk (PySem.Value.type "function") none (PySem.Data.func (PySem.FuncData.mk (PySem.Str.ofString "__getitem__") (PySem.Str.ofString "SparseMerkleTree.__getitem__") fp_SparseMerkleTree___getitem__ (PySem.FuncBody.stmts fb_SparseMerkleTree___getitem__) fs_SparseMerkleTree___getitem__ 3 [] PySem.Value.none PySem.Value.none PySem.Value.none (PySem.Value.str (PySem.Str.ofString "trie.smt") 259) none (PySem.Value.ref 210) PySem.Value.none 0)) #[])) :: ((nat_lit 212), (PySem.Obj.mk (PySem.Value.type "tuple") none (PySem.Data.seq #[] 0) #[])) :: ((nat_lit 214), (PySem.Obj.mk (PySem.Value.type "tuple") none (PySem.Data.seq #[(PySem.Value.str (PySem.Str.ofString "self") 491), (PySem.Value.str (PySem.Str.ofString "key") 492), (PySem.Value.str (PySem.Str.ofString "value") 493)] 0) #[])) :: ((nat_lit 215), (PySem.Obj.mk (PySem.Value.type "tuple") none (PySem.Data.seq #[] 0) #[])) :: ((nat_lit 217), (PySem.Obj.mk (PySem.Value.type "code") none (PySem.Data.fields #[(PySem.Value.str (PySem.Str.ofString "__setitem__") 488), (PySem.Value.str (PySem.Str.ofString "SparseMerkleTree.__setitem__") 489), (PySem.Value.str (PySem.Str.ofString "/claim/cut.py") 490), (PySem.Value.int 175 0), (PySem.Value.int 3 0), (PySem.Value.int 0 0), (PySem.Value.int 0 0), (PySem.Value.int 3 0), (PySem.Value.ref 212), (PySem.Value.bool Bool.true), (PySem.Value.int 181 0), (PySem.Value.ref 213), PySem.Value.none, (PySem.Value.ref 214), (PySem.Value.ref 215), (PySem.Value.ref 216), (PySem.Value.int 494 0), (PySem.Value.int 175 0), (PySem.Value.str (PySem.Str.ofString "/claim/cut.py") 495)]) #[])) :: ((nat_lit 218), (PySem.Obj.mk (PySem.Value.type "function") none (PySem.Data.func (PySem.FuncData.mk (PySem.Str.ofString "__setitem__") (PySem.Str.ofString "SparseMerkleTree.__setitem__") fp_SparseMerkleTree___setitem__ (PySem.FuncBody.stmts fb_SparseMerkleTree___setitem__) fs_SparseMerkleTree___setitem__ 3 [] PySem.Value.none PySem.Value.none PySem.Value.none (PySem.Value.str (PySem.Str.ofString "trie.smt") 259) none (PySem.Value.ref 217) PySem.Value.none 0)) #[])) :: ((nat_lit 219), (PySem.Obj.mk (PySem.Value.type "tuple") none (PySem.Data.seq #[] 0) #[])) :: ((nat_lit 221), (PySem.Obj.mk (PySem.Value.type "tuple") none (PySem.Data.seq #[(PySem.Value.str (PySem.Str.ofString "self") 500), (PySem.Value.str (PySem.Str.ofString "key") 501)] 0) #[])) :: ((nat_lit 222), (PySem.Obj.mk (PySem.Value.type "tuple") none (PySem.Data.seq #[] 0) #[])) :: ((nat_lit 224), (PySem.Obj.mk (PySem.Value.type "code") none (PySem.Data.fields #[(PySem.Value.str (PySem.Str.ofString "__delitem__") 497), (PySem.Value.str (PySem.Str.ofString "SparseMerkleTree.__delitem__") 498), (PySem.Value.str (PySem.Str.ofString "/claim/cut.py") 499), (PySem.Value.int 178 0), (PySem.Value.int 2 0), (PySem.Value.int 0 0), (PySem.Value.int 0 0), (PySem.Value.int 3 0), (PySem.Value.ref 219), (PySem.Value.bool Bool.true), (PySem.Value.int 181 0), (PySem.Value.ref 220), PySem.Value.none, (PySem.Value.ref 221), (PySem.Value.ref 222), (PySem.Value.ref 223), (PySem.Value.int 502 0), (PySem.Value.int 178 0), (PySem.Value.str (PySem.Str.ofString "/claim/cut.py") 503)]) #[])) :: ((nat_lit 225), (PySem.Obj.mk (PySem.Value.type "function") none (PySem.Data.func (PySem.FuncData.mk (PySem.Str.ofString "__delitem__") (PySem.Str.ofString "SparseMerkleTree.__delitem__") fp_SparseMerkleTree___delitem__ (PySem.FuncBody.stmts fb_SparseMerkleTree___delitem__) fs_SparseMerkleTree___delitem__ 3 [] PySem.Value.none PySem.Value.none PySem.Value.none (PySem.Value.str (PySem.Str.ofString "trie.smt") 259) none (PySem.Value.ref 224) PySem.Value.none 0)) #[])) :: ((nat_lit 226), (PySem.Obj.mk (PySem.Value.type "tuple") none (PySem.Data.seq #[] 0) #[])) :: ((nat_lit 228), (PySem.Obj.mk (PySem.Value.type "tuple") none (PySem.Data.seq #[(PySem.Value.str (PySem.Str.ofString "self") 508), (PySem.Value.str (PySem.Str.ofString "key") 509)] 0) #[])) :: ((nat_lit 229), (PySem.Obj.mk (PySem.Value.type "tuple") none (PySem.Data.seq #[] 0) #[])) :: ((nat_lit 231), (PySem.Obj.mk (PySem.Value.type "code") none (PySem.Data.fields #[(PySem.Value.str (PySem.Str.ofString "__contains__") 505), (PySem.Value.str (PySem.Str.ofString "SparseMerkleTree.__contains__") 506), (PySem.Value.str (PySem.Str.ofString "/claim/cut.py") 507), (PySem.Value.int 181 0), (PySem.Value.int 2 0), (PySem.Value.int 0 0), (PySem.Value.int 0 0), (PySem.Value.int 3 0), (PySem.Value.ref 226), (PySem.Value.bool Bool.true), (PySem.Value.int 181 0), (PySem.Value.ref 227), PySem.Value.none, (PySem.Value.ref 228), (PySem.Value.ref 229), (PySem.Value.ref 230), (PySem.Value.int 510 0), (PySem.Value.int 181 0), (PySem.Value.str (PySem.Str.ofString "/claim/cut.py") 511)]) #[])) :: ((nat_lit 232), (PySem.Obj.mk (PySem.Value.type "function") none (PySem.Data.func (PySem.FuncData.mk (PySem.Str.ofString "__contains__") (PySem.Str.ofString "SparseMerkleTree.__contains__") fp_SparseMerkleTree___contains__ (PySem.FuncBody.stmts fb_SparseMerkleTree___contains__) fs_SparseMerkleTree___contains__ 3 [] PySem.Value.none PySem.Value.none PySem.Value.none (PySem.Value.str (PySem.Str.ofString "trie.smt") 259) none (PySem.Value.ref 231) PySem.Value.none 0)) #[])) :: ((nat_lit 233), (PySem.Obj.mk (PySem.Value.type "tuple") none (PySem.Data.seq #[(PySem.Value.str (PySem.Str.ofString "_default") 513), (PySem.Value.str (PySem.Str.ofString "_key_size") 514), (PySem.Value.str (PySem.Str.ofString "db") 515), (PySem.Value.str (PySem.Str.ofString "depth") 516), (PySem.Value.str (PySem.Str.ofString "hash_of") 517), (PySem.Value.str (PySem.Str.ofString "root_hash") 518)] 0) #[])) :: ((nat_lit 234), (PySem.Obj.mk (PySem.Value.type "dict") none (PySem.Data.dict #[(PySem.DictEntry.mk (PySem.PyData.keyHash P (PySem.Str.ofString "__module__")) (PySem.Value.str (PySem.Str.ofString "__module__") 365) (PySem.Value.str (PySem.Str.ofString "trie.smt") 259)), (PySem.DictEntry.mk (PySem.PyData.keyHash P (PySem.Str.ofString "__firstlineno__")) (PySem.Value.str (PySem.Str.ofString "__firstlineno__") 369) (PySem.Value.int 81 368)), (PySem.DictEntry.mk (PySem.PyData.keyHash P (PySem.Str.ofString "__init__")) (PySem.Value.str (PySem.Str.ofString "__init__") 384) (PySem.Value.ref 151)), (PySem.DictEntry.mk (PySem.PyData.keyHash P (PySem.Str.ofString "from_db")) (PySem.Value.str (PySem.Str.ofString "from_db") 409) (PySem.Value.ref 161)), (PySem.DictEntry.mk (PySem.PyData.keyHash P (PySem.Str.ofString "get")) (PySem.Value.str (PySem.Str.ofString "get") 419) (PySem.Value.ref 169)), (PySem.DictEntry.mk (PySem.PyData.keyHash P (PySem.Str.ofString "branch")) (PySem.Value.str (PySem.Str.ofString "branch") 429) (PySem.Value.ref 176)), (PySem.DictEntry.mk (PySem.PyData.keyHash P (PySem.Str.ofString "_get")) (PySem.Value.str (PySem.Str.ofString "_get") 445) (PySem.Value.ref 183)), (PySem.DictEntry.mk (PySem.PyData.keyHash P (PySem.Str.ofString "set")) (PySem.Value.str (PySem.Str.ofString "set") 463) (PySem.Value.ref 190)), (PySem.DictEntry.mk (PySem.PyData.keyHash P (PySem.Str.ofString "exists")) (PySem.Value.str (PySem.Str.ofString "exists") 471) (PySem.Value.ref 197)), (PySem.DictEntry.mk (PySem.PyData.keyHash P (PySem.Str.ofString "delete")) (PySem.Value.str (PySem.Str.ofString "delete") 479) (PySem.Value.ref 204)), (PySem.DictEntry.mk (PySem.PyData.keyHash P (PySem.Str.ofString "__getitem__")) (PySem.Value.str (PySem.Str.ofString "__getitem__") 487) (PySem.Value.ref 211)), (PySem.DictEntry.mk (PySem.PyData.keyHash P (PySem.Str.ofString "__setitem__")) (PySem.Value.str (PySem.Str.ofString "__setitem__") 496) (PySem.Value.ref 218)), (PySem.DictEntry.mk (PySem.PyData.keyHash P (PySem.Str.ofString "__delitem__")) (PySem.Value.str (PySem.Str.ofString "__delitem__") 504) (PySem.Value.ref 225)), (PySem.DictEntry.mk (PySem.PyData.keyHash P (PySem.Str.ofString "__contains__")) (PySem.Value.str (PySem.Str.ofString "__contains__") 512) (PySem.Value.ref 232)), (PySem.DictEntry.mk (PySem.PyData.keyHash P (PySem.Str.ofString "__static_attributes__")) (PySem.Value.str (PySem.Str.ofString "__static_attributes__") 519) (PySem.Value.ref 233)), (PySem.DictEntry.mk (PySem.PyData.keyHash P (PySem.Str.ofString "__dict__")) (PySem.Value.str (PySem.Str.ofString "__dict__") 521) (PySem.Value.ref 236)), (PySem.DictEntry.mk (PySem.PyData.keyHash P (PySem.Str.ofString "__weakref__")) (PySem.Value.str (PySem.Str.ofString "__weakref__") 523) (PySem.Value.ref 237)), (PySem.DictEntry.mk (PySem.PyData.keyHash P (PySem.Str.ofString "__doc__")) (PySem.Value.str (PySem.Str.ofString "__doc__") 524) PySem.Value.none)] 4) #[])) :: ((nat_lit 235), (PySem.Obj.mk (PySem.Value.type "type") none (PySem.Data.cls (PySem.ClassData.mk (PySem.Str.ofString "SparseMerkleTree") [(PySem.Value.type "object")] [(PySem.Value.ref 235), (PySem.Value.type "object")] 234 (PySem.Str.ofString "SparseMerkleTree") Bool.true [] [] Bool.false none Bool.false)) #[none, none, (some (PySem.Value.str (PySem.Str.ofString "SparseMerkleTree") 358)), (some (PySem.Value.str (PySem.Str.ofString "SparseMerkleTree") 366)), (some (PySem.Value.builtin "object.__new__")), (some (PySem.Value.bool Bool.true))])) :: ((nat_lit 236), (PySem.Obj.mk (PySem.Value.type "getset_descriptor") none (PySem.Data.fields #[(PySem.Value.str (PySem.Str.ofString "__dict__") 520), (PySem.Value.ref 235), (PySem.Value.builtin "function.__dict__"), (PySem.Value.builtin "function.__dict__#set")]) #[])) :: ((nat_lit 237), (PySem.Obj.mk (PySem.Value.type "getset_descriptor") none (PySem.Data.fields #[(PySem.Value.str (PySem.Str.ofString "__weakref__") 522), (PySem.Value.ref 235), (PySem.Value.builtin "ExceptionGroup.__weakref__"), PySem.Value.none]) #[])) :: ((nat_lit 240), (PySem.Obj.mk (PySem.Value.type "tuple") none (PySem.Data.seq #[] 0) #[])) :: ((nat_lit 242), (PySem.Obj.mk (PySem.Value.type "tuple") none (PySem.Data.seq #[] 0) #[])) :: ((nat_lit 243), (PySem.Obj.mk (PySem.Value.type "tuple") none (PySem.Data.seq #[] 0) #[])) :: ((nat_lit 245), (PySem.Obj.mk (PySem.Value.type "code") none (PySem.Data.fields #[(PySem.Value.str (PySem.Str.ofString "_law_keys") 529), (PySem.Value.str (PySem.Str.ofString "_law_keys") 530), (PySem.Value.str (PySem.Str.ofString "/claim/cut.py") 531), (PySem.Value.int 184 0), (PySem.Value.int 0 0), (PySem.Value.int 0 0), (PySem.Value.int 0 0), (PySem.Value.int 3 0), (PySem.Value.ref 240), (PySem.Value.bool Bool.true), (PySem.Value.int 181 0), (PySem.Value.ref 241), PySem.Value.none, (PySem.Value.ref 242), (PySem.Value.ref 243), (PySem.Value.ref 244), (PySem.Value.int 532 0), (PySem.Value.int 184 0), (PySem.Value.str (PySem.Str.ofString "/claim/cut.py") 533)]) #[])) :: ((nat_lit 246), (PySem.Obj.mk (PySem.Value.type "function") none (PySem.Data.func (PySem.FuncData.mk (PySem.Str.ofString "_law_keys") (PySem.Str.ofString "_law_keys") fp__law_keys (PySem.FuncBody.stmts fb__law_keys) fs__law_keys 3 [] PySem.Value.none PySem.Value.none PySem.Value.none (PySem.Value.str (PySem.Str.ofString "law_bc0032_01") 527) none (PySem.Value.ref 245) PySem.Value.none 0)) #[])) :: ((nat_lit 247), (PySem.Obj.mk (PySem.Value.type "tuple") none (PySem.Data.seq #[] 0) #[])) :: ((nat_lit 249), (PySem.Obj.mk (PySem.Value.type "tuple") none (PySem.Data.seq #[] 0) #[])) :: ((nat_lit 250), (PySem.Obj.mk (PySem.Value.type "tuple") none (PySem.Data.seq #[] 0) #[])) :: ((nat_lit 252), (PySem.Obj.mk (PySem.Value.type "code") none (PySem.Data.fields #[(PySem.Value.str (PySem.Str.ofString "_law_defaults") 535), (PySem.Value.str (PySem.Str.ofString "_law_defaults") 536), (PySem.Value.str (PySem.Str.ofString "/claim/cut.py") 537), (PySem.Value.int 186 0), (PySem.Value.int 0 0), (PySem.Value.int 0 0), (PySem.Value.int 0 0), (PySem.Value.int 3 0), (PySem.Value.ref 247), (PySem.Value.bool Bool.true), (PySem.Value.int 181 0), (PySem.Value.ref 248), PySem.Value.none, (PySem.Value.ref 249), (PySem.Value.ref 250), (PySem.Value.ref 251), (PySem.Value.int 538 0), (PySem.Value.int 186 0), (PySem.Value.str (PySem.Str.ofString "/claim/cut.py") 539)]) #[])) :: ((nat_lit 253), (PySem.Obj.mk (PySem.Value.type "function") none (PySem.Data.func (PySem.FuncData.mk (PySem.Str.ofString "_law_defaults") (PySem.Str.ofString "_law_defaults") fp__law_defaults (PySem.FuncBody.stmts fb__law_defaults) fs__law_defaults 3 [] PySem.Value.none PySem.Value.none PySem.Value.none (PySem.Value.str (PySem.Str.ofString "law_bc0032_01") 527) none (PySem.Value.ref 252) PySem.Value.none 0)) #[])) :: ((nat_lit 254), (PySem.Obj.mk (PySem.Value.type "tuple") none (PySem.Data.seq #[] 0) #[])) :: ((nat_lit 256), (PySem.Obj.mk (PySem.Value.type "tuple") none (PySem.Data.seq #[(PySem.Value.str (PySem.Str.ofString "tree") 544), (PySem.Value.str (PySem.Str.ofString "plain") 545), (PySem.Value.str (PySem.Str.ofString "cell") 546), (PySem.Value.str (PySem.Str.ofString "number") 547), (PySem.Value.str (PySem.Str.ofString "value") 548)] 0) #[])) :: ((nat_lit 257), (PySem.Obj.mk (PySem.Value.type "tuple") none (PySem.Data.seq #[] 0) #[])) :: ((nat_lit 259), (PySem.Obj.mk (PySem.Value.type "code") none (PySem.Data.fields #[(PySem.Value.str (PySem.Str.ofString "_law_deed") 541), (PySem.Value.str (PySem.Str.ofString "_law_deed") 542), (PySem.Value.str (PySem.Str.ofString "/claim/cut.py") 543), (PySem.Value.int 188 0), (PySem.Value.int 3 0), (PySem.Value.int 0 0), (PySem.Value.int 0 0), (PySem.Value.int 3 0), (PySem.Value.ref 254), (PySem.Value.bool Bool.true), (PySem.Value.int 181 0), (PySem.Value.ref 255), PySem.Value.none, (PySem.Value.ref 256), (PySem.Value.ref 257), (PySem.Value.ref 258), (PySem.Value.int 549 0), (PySem.Value.int 188 0), (PySem.Value.str (PySem.Str.ofString "/claim/cut.py") 550)]) #[])) :: ((nat_lit 260), (PySem.Obj.mk (PySem.Value.type "function") none (PySem.Data.func (PySem.FuncData.mk (PySem.Str.ofString "_law_deed") (PySem.Str.ofString "_law_deed") fp__law_deed (PySem.FuncBody.stmts fb__law_deed) fs__law_deed 3 [] PySem.Value.none PySem.Value.none PySem.Value.none (PySem.Value.str (PySem.Str.ofString "law_bc0032_01") 527) none (PySem.Value.ref 259) PySem.Value.none 0)) #[])) :: ((nat_lit 261), (PySem.Obj.mk (PySem.Value.type "tuple") none (PySem.Data.seq #[] 0) #[])) :: ((nat_lit 264), (PySem.Obj.mk (PySem.Value.type "code") none (PySem.Data.fields #[(PySem.Value.str (PySem.Str.ofString "law") 552), (PySem.Value.str (PySem.Str.ofString "law") 553), (PySem.Value.str (PySem.Str.ofString "/claim/cut.py") 554), (PySem.Value.int 196 0), (PySem.Value.int 1 0), (PySem.Value.int 0 0), (PySem.Value.int 0 0), (PySem.Value.int 3 0), (PySem.Value.ref 261), (PySem.Value.bool Bool.true), (PySem.Value.int 181 0), (PySem.Value.ref 262), PySem.Value.none, PySem.Value.none, PySem.Value.none, (PySem.Value.ref 263), (PySem.Value.int 555 0), (PySem.Value.int 196 0), (PySem.Value.str (PySem.Str.ofString "/claim/cut.py") 556)]) #[])) :: ((nat_lit 265), (PySem.Obj.mk (PySem.Value.type "function") none (PySem.Data.func (PySem.FuncData.mk (PySem.Str.ofString "law") (PySem.Str.ofString "law") fp_law (PySem.FuncBody.stmts fb_law) fs_law 3 [] PySem.Value.none PySem.Value.none PySem.Value.none (PySem.Value.str (PySem.Str.ofString "law_bc0032_01") 527) none (PySem.Value.ref 264) PySem.Value.none 0)) #[])) :: [])
noncomputable def view39 : Program := { PySem.Challenge.pw_bc0032_01 with main := { PySem.Challenge.pw_bc0032_01.main with body := [st0, st2, st3, st4, st5, st7, st9, st10, st12, st13, st14, st16, st17, st18, st19] } }
theorem asK : ∀ P, [2, 3, 15, 17, 18, 20, 21, 22, 24, 25, 27, 28, 29, 31, 32, 34, 35, 36, 38, 39, 41, 42, 43, 50, 51, 52, 53, 56, 58, 59, 61, 62, 63, 65, 66, 68, 69, 70, 72, 73, 75, 76, 84, 86, 87, 89, 90, 91, 93, 94, 96, 97, 98, 99, 101, 102, 104, 105, 106, 107, 109, 110, 112, 113, 114, 115, 117, 118, 120, 121, 122, 123, 125, 126, 128, 129, 130, 131, 132, 133, 134, 144, 145, 147, 148, 150, 151, 152, 153, 155, 156, 158, 159, 160, 161, 162, 163, 165, 166, 168, 169, 170, 172, 173, 175, 176, 177, 179, 180, 182, 183, 184, 186, 187, 189, 190, 191, 193, 194, 196, 197, 198, 200, 201, 203, 204, 205, 207, 208, 210, 211, 212, 214, 215, 217, 218, 219, 221, 222, 224, 225, 226, 228, 229, 231, 232, 233, 234, 235, 236, 237, 240, 242, 243, 245, 246, 247, 249, 250, 252, 253, 254, 256, 257, 259, 260, 261, 264, 265] = (K39 P).map (·.1) := fun _ => by kernel_rfl
noncomputable abbrev HK : Hook := kmHook K39 [2, 3, 15, 17, 18, 20, 21, 22, 24, 25, 27, 28, 29, 31, 32, 34, 35, 36, 38, 39, 41, 42, 43, 50, 51, 52, 53, 56, 58, 59, 61, 62, 63, 65, 66, 68, 69, 70, 72, 73, 75, 76, 84, 86, 87, 89, 90, 91, 93, 94, 96, 97, 98, 99, 101, 102, 104, 105, 106, 107, 109, 110, 112, 113, 114, 115, 117, 118, 120, 121, 122, 123, 125, 126, 128, 129, 130, 131, 132, 133, 134, 144, 145, 147, 148, 150, 151, 152, 153, 155, 156, 158, 159, 160, 161, 162, 163, 165, 166, 168, 169, 170, 172, 173, 175, 176, 177, 179, 180, 182, 183, 184, 186, 187, 189, 190, 191, 193, 194, 196, 197, 198, 200, 201, 203, 204, 205, 207, 208, 210, 211, 212, 214, 215, 217, 218, 219, 221, 222, 224, 225, 226, 228, 229, 231, 232, 233, 234, 235, 236, 237, 240, 242, 243, 245, 246, 247, 249, 250, 252, 253, 254, 256, 257, 259, 260, 261, 264, 265] asK [262]
noncomputable abbrev looseK : List Str := [Str.ofString "SparseMerkleProof", Str.ofString "SparseMerkleTree"]
noncomputable def o_43 (P : PySem.Params) : PySem.Obj := (Obj.mk (Value.type "tuple") none (Data.seq #[] 0) #[])
noncomputable def o_44 (P : PySem.Params) : PySem.Obj := (Obj.mk Value.none none (Data.fields #[]) #[])
noncomputable def o_45 (P : PySem.Params) : PySem.Obj := (Obj.mk (Value.type "code") none (Data.fields #[(Value.str (Str.ofString "<module>") 182), (Value.str (Str.ofString "<module>") 183), (Value.str (Str.ofString "/claim/cut.py") 184), (Value.int 1 0), (Value.int 0 0), (Value.int 0 0), (Value.int 0 0), (Value.int 0 0), (Value.ref 11), (Value.bool Bool.false), (Value.int 181 0), (Value.ref 12), Value.none, Value.none, Value.none, Value.none, (Value.int 185 0), (Value.int 1 0), (Value.str (Str.ofString "/claim/cut.py") 186)]) #[])
noncomputable def o_46 (P : PySem.Params) : PySem.Obj := (Obj.mk (Value.type "frame") none Data.plain #[(some (Value.ref 13)), (some (Value.ref 3)), (some (Value.ref 3)), none, (some (Value.str (Str.ofString "__main__") 164)), none, (some (Value.ref 0))])
noncomputable def o_50 (P : PySem.Params) : PySem.Obj := (Obj.mk (Value.type "dict") none (Data.dict #[(DictEntry.mk (PyData.keyHash P (Str.ofString "__name__")) (Value.str (Str.ofString "__name__") 165) (Value.str (Str.ofString "trie.validation") 242)), (DictEntry.mk (PyData.keyHash P (Str.ofString "__doc__")) (Value.str (Str.ofString "__doc__") 166) Value.none), (DictEntry.mk (PyData.keyHash P (Str.ofString "__package__")) (Value.str (Str.ofString "__package__") 167) Value.none), (DictEntry.mk (PyData.keyHash P (Str.ofString "__loader__")) (Value.str (Str.ofString "__loader__") 168) (Value.builtin "__main__.__loader__#opaque")), (DictEntry.mk (PyData.keyHash P (Str.ofString "__spec__")) (Value.str (Str.ofString "__spec__") 169) Value.none), (DictEntry.mk (PyData.keyHash P (Str.ofString "__annotations__")) (Value.str (Str.ofString "__annotations__") 170) (Value.ref 6)), (DictEntry.mk (PyData.keyHash P (Str.ofString "__builtins__")) (Value.str (Str.ofString "__builtins__") 171) (Value.ref 4)), (DictEntry.mk (PyData.keyHash P (Str.ofString "__file__")) (Value.str (Str.ofString "__file__") 173) (Value.str (Str.ofString "/claim/cut.py") 172)), (DictEntry.mk (PyData.keyHash P (Str.ofString "__cached__")) (Value.str (Str.ofString "__cached__") 174) Value.none), (DictEntry.mk (PyData.keyHash P (Str.ofString "_wall")) (Value.str (Str.ofString "_wall") 193) (Value.ref 21)), (DictEntry.mk (PyData.keyHash P (Str.ofString "Hash32")) (Value.str (Str.ofString "Hash32") 202) (Value.ref 28)), (DictEntry.mk (PyData.keyHash P (Str.ofString "cast")) (Value.str (Str.ofString "cast") 210) (Value.ref 35)), (DictEntry.mk (PyData.keyHash P (Str.ofString "to_int")) (Value.str (Str.ofString "to_int") 217) (Value.ref 42)), (DictEntry.mk (PyData.keyHash P (Str.ofString "BLANK_NODE")) (Value.str (Str.ofString "BLANK_NODE") 219) (Value.bytes #[] 218)), (DictEntry.mk (PyData.keyHash P (Str.ofString "ValidationError")) (Value.str (Str.ofString "ValidationError") 241) (Value.ref 52)), (DictEntry.mk (PyData.keyHash P (Str.ofString "validate_is_bytes")) (Value.str (Str.ofString "validate_is_bytes") 250) (Value.ref 62))] 16) #[])
noncomputable def o_52 (P : PySem.Params) : PySem.Obj := (Obj.mk (Value.type "tuple") none (Data.seq #[] 0) #[])
noncomputable def o_68 (P : PySem.Params) : PySem.Obj := (Obj.mk (Value.type "tuple") none (Data.seq #[(Value.str (Str.ofString "kind") 206), (Value.str (Str.ofString "value") 207)] 0) #[])
noncomputable def o_84 (P : PySem.Params) : PySem.Obj := (Obj.mk Value.none none (Data.fields #[]) #[])
noncomputable def o_60 (P : PySem.Params) : PySem.Obj := (Obj.mk Value.none none (Data.fields #[]) #[])
noncomputable def o_76 (P : PySem.Params) : PySem.Obj := (Obj.mk (Value.type "tuple") none (Data.seq #[] 0) #[])
noncomputable def o_92 (P : PySem.Params) : PySem.Obj := (Obj.mk (Value.type "builtin_function_or_method") none (Data.fields #[(Value.builtin "object.__init_subclass__"), (Value.ref 52)]) #[])
noncomputable def o_56 (P : PySem.Params) : PySem.Obj := (Obj.mk Value.none none (Data.func (PySem.FuncData.mk (Str.ofString "_wall") (Str.ofString "_wall") fp__wall (PySem.FuncBody.stmts fb__wall) fs__wall 0 [] Value.none Value.none Value.none Value.none none Value.none Value.none 0)) #[])
noncomputable def o_72 (P : PySem.Params) : PySem.Obj := (Obj.mk (Value.type "function") none (Data.func (PySem.FuncData.mk (Str.ofString "cast") (Str.ofString "cast") fp_cast (PySem.FuncBody.stmts fb_cast) fs_cast 3 [] Value.none Value.none Value.none (Value.str (Str.ofString "trie.others") 194) none (Value.ref 34) Value.none 0)) #[])
noncomputable def o_88 (P : PySem.Params) : PySem.Obj := (Obj.mk (Value.type "dict") none (Data.dict #[(DictEntry.mk (PyData.keyHash P (Str.ofString "__module__")) (Value.str (Str.ofString "__module__") 229) (Value.str (Str.ofString "trie.exceptions") 220)), (DictEntry.mk (PyData.keyHash P (Str.ofString "__firstlineno__")) (Value.str (Str.ofString "__firstlineno__") 233) (Value.int 13 232)), (DictEntry.mk (PyData.keyHash P (Str.ofString "__static_attributes__")) (Value.str (Str.ofString "__static_attributes__") 234) (Value.ref 50)), (DictEntry.mk (PyData.keyHash P (Str.ofString "__weakref__")) (Value.str (Str.ofString "__weakref__") 236) (Value.ref 53)), (DictEntry.mk (PyData.keyHash P (Str.ofString "__doc__")) (Value.str (Str.ofString "__doc__") 237) Value.none)] 3) #[])
noncomputable def o_64 (P : PySem.Params) : PySem.Obj := (Obj.mk (Value.type "code") none (Data.fields #[(Value.str (Str.ofString "Hash32") 196), (Value.str (Str.ofString "Hash32") 197), (Value.str (Str.ofString "/claim/cut.py") 198), (Value.int 5 0), (Value.int 1 0), (Value.int 0 0), (Value.int 0 0), (Value.int 3 0), (Value.ref 22), (Value.bool Bool.true), (Value.int 181 0), (Value.ref 23), Value.none, (Value.ref 24), (Value.ref 25), (Value.ref 26), (Value.int 200 0), (Value.int 5 0), (Value.str (Str.ofString "/claim/cut.py") 201)]) #[])
noncomputable def o_80 (P : PySem.Params) : PySem.Obj := (Obj.mk (Value.type "tuple") none (Data.seq #[(Value.type "Exception")] 0) #[])
noncomputable def o_96 (P : PySem.Params) : PySem.Obj := (Obj.mk (Value.type "tuple") none (Data.seq #[] 0) #[])
noncomputable def o_54 (P : PySem.Params) : PySem.Obj := (Obj.mk (Value.type "tuple") none (Data.seq #[(Value.str (Str.ofString "k") 190)] 0) #[])
noncomputable def o_70 (P : PySem.Params) : PySem.Obj := (Obj.mk Value.none none (Data.func (PySem.FuncData.mk (Str.ofString "cast") (Str.ofString "cast") fp_cast (PySem.FuncBody.stmts fb_cast) fs_cast 0 [] Value.none Value.none Value.none Value.none none Value.none Value.none 0)) #[])
noncomputable def o_86 (P : PySem.Params) : PySem.Obj := (Obj.mk (Value.type "frame") none Data.plain #[(some (Value.ref 48)), (some (Value.ref 3)), (some (Value.ref 45)), none, (some (Value.str (Str.ofString "trie.exceptions") 220)), none, (some (Value.ref 0))])
noncomputable def o_62 (P : PySem.Params) : PySem.Obj := (Obj.mk (Value.type "tuple") none (Data.seq #[] 0) #[])
noncomputable def o_78 (P : PySem.Params) : PySem.Obj := (Obj.mk (Value.type "code") none (Data.fields #[(Value.str (Str.ofString "to_int") 211), (Value.str (Str.ofString "to_int") 212), (Value.str (Str.ofString "/claim/cut.py") 213), (Value.int 9 0), (Value.int 1 0), (Value.int 0 0), (Value.int 0 0), (Value.int 3 0), (Value.ref 36), (Value.bool Bool.true), (Value.int 181 0), (Value.ref 37), Value.none, (Value.ref 38), (Value.ref 39), (Value.ref 40), (Value.int 215 0), (Value.int 9 0), (Value.str (Str.ofString "/claim/cut.py") 216)]) #[])
noncomputable def o_94 (P : PySem.Params) : PySem.Obj := (Obj.mk Value.none none (Data.fields #[]) #[])
noncomputable def o_58 (P : PySem.Params) : PySem.Obj := (Obj.mk (Value.type "function") none (Data.func (PySem.FuncData.mk (Str.ofString "_wall") (Str.ofString "_wall") fp__wall (PySem.FuncBody.stmts fb__wall) fs__wall 3 [] Value.none Value.none Value.none (Value.str (Str.ofString "__main__") 164) none (Value.ref 20) Value.none 0)) #[])
noncomputable def o_74 (P : PySem.Params) : PySem.Obj := (Obj.mk Value.none none (Data.fields #[]) #[])
noncomputable def o_90 (P : PySem.Params) : PySem.Obj := (Obj.mk (Value.type "getset_descriptor") none (Data.fields #[(Value.str (Str.ofString "__weakref__") 235), (Value.ref 52), (Value.builtin "ExceptionGroup.__weakref__"), Value.none]) #[])
noncomputable def o_66 (P : PySem.Params) : PySem.Obj := (Obj.mk (Value.type "tuple") none (Data.seq #[] 0) #[])
noncomputable def o_82 (P : PySem.Params) : PySem.Obj := (Obj.mk (Value.type "dict") none (Data.dict #[(DictEntry.mk (PyData.keyHash P (Str.ofString "__module__")) (Value.str (Str.ofString "__module__") 229) (Value.str (Str.ofString "trie.exceptions") 220)), (DictEntry.mk (PyData.keyHash P (Str.ofString "__qualname__")) (Value.str (Str.ofString "__qualname__") 231) (Value.str (Str.ofString "ValidationError") 230)), (DictEntry.mk (PyData.keyHash P (Str.ofString "__firstlineno__")) (Value.str (Str.ofString "__firstlineno__") 233) (Value.int 13 232)), (DictEntry.mk (PyData.keyHash P (Str.ofString "__static_attributes__")) (Value.str (Str.ofString "__static_attributes__") 234) (Value.ref 50))] 4) #[])
noncomputable def o_98 (P : PySem.Params) : PySem.Obj := (Obj.mk (Value.type "code") none (Data.fields #[(Value.str (Str.ofString "validate_is_bytes") 244), (Value.str (Str.ofString "validate_is_bytes") 245), (Value.str (Str.ofString "/claim/cut.py") 246), (Value.int 16 0), (Value.int 1 0), (Value.int 0 0), (Value.int 0 0), (Value.int 3 0), (Value.ref 56), (Value.bool Bool.true), (Value.int 181 0), (Value.ref 57), Value.none, (Value.ref 58), (Value.ref 59), (Value.ref 60), (Value.int 248 0), (Value.int 16 0), (Value.str (Str.ofString "/claim/cut.py") 249)]) #[])
noncomputable def o_49 (P : PySem.Params) : PySem.Obj := (Obj.mk Value.none none (Data.dict #[(DictEntry.mk (PyData.keyHash P (Str.ofString "type.__subclasses__.Exception.0")) (Value.str (Str.ofString "type.__subclasses__.Exception.0") 238) (Value.int 52 0)), (DictEntry.mk (PyData.keyHash P (Str.ofString "type.__subclasses__.Exception.n")) (Value.str (Str.ofString "type.__subclasses__.Exception.n") 239) (Value.int 1 0))] 2) #[])
noncomputable def o_53 (P : PySem.Params) : PySem.Obj := (Obj.mk Value.none none (Data.fields #[]) #[])
noncomputable def o_69 (P : PySem.Params) : PySem.Obj := (Obj.mk (Value.type "tuple") none (Data.seq #[] 0) #[])
noncomputable def o_85 (P : PySem.Params) : PySem.Obj := (Obj.mk (Value.type "code") none (Data.fields #[(Value.str (Str.ofString "ValidationError") 224), (Value.str (Str.ofString "ValidationError") 225), (Value.str (Str.ofString "/claim/cut.py") 226), (Value.int 13 0), (Value.int 0 0), (Value.int 0 0), (Value.int 0 0), (Value.int 0 0), (Value.ref 46), (Value.bool Bool.false), (Value.int 181 0), (Value.ref 47), Value.none, Value.none, Value.none, Value.none, (Value.int 227 0), (Value.int 13 0), (Value.str (Str.ofString "/claim/cut.py") 228)]) #[])
noncomputable def o_61 (P : PySem.Params) : PySem.Obj := (Obj.mk (Value.type "tuple") none (Data.seq #[(Value.str (Str.ofString "octets") 199)] 0) #[])
noncomputable def o_77 (P : PySem.Params) : PySem.Obj := (Obj.mk Value.none none (Data.func (PySem.FuncData.mk (Str.ofString "to_int") (Str.ofString "to_int") fp_to_int (PySem.FuncBody.stmts fb_to_int) fs_to_int 0 [] Value.none Value.none Value.none Value.none none Value.none Value.none 0)) #[])
noncomputable def o_93 (P : PySem.Params) : PySem.Obj := (Obj.mk (Value.type "tuple") none (Data.seq #[] 0) #[])
noncomputable def o_51 (P : PySem.Params) : PySem.Obj := (Obj.mk Value.none none (Data.fields #[(Value.int 1 0), (Value.int 0 0), (Value.ref 20), (Value.int 5 0), (Value.int 0 0), (Value.ref 27), (Value.int 7 0), (Value.int 0 0), (Value.ref 34), (Value.int 9 0), (Value.int 0 0), (Value.ref 41), (Value.int 13 0), (Value.int 0 0), (Value.ref 48), (Value.int 16 0), (Value.int 0 0), (Value.ref 61)]) #[])
noncomputable def o_57 (P : PySem.Params) : PySem.Obj := (Obj.mk (Value.type "code") none (Data.fields #[(Value.str (Str.ofString "_wall") 187), (Value.str (Str.ofString "_wall") 188), (Value.str (Str.ofString "/claim/cut.py") 189), (Value.int 1 0), (Value.int 1 0), (Value.int 0 0), (Value.int 0 0), (Value.int 3 0), (Value.ref 15), (Value.bool Bool.true), (Value.int 181 0), (Value.ref 16), Value.none, (Value.ref 17), (Value.ref 18), (Value.ref 19), (Value.int 191 0), (Value.int 1 0), (Value.str (Str.ofString "/claim/cut.py") 192)]) #[])
noncomputable def o_73 (P : PySem.Params) : PySem.Obj := (Obj.mk (Value.type "tuple") none (Data.seq #[] 0) #[])
noncomputable def o_89 (P : PySem.Params) : PySem.Obj := (Obj.mk (Value.type "type") none (Data.cls (PySem.ClassData.mk (Str.ofString "ValidationError") [(Value.type "Exception")] [(Value.ref 52), (Value.type "Exception"), (Value.type "BaseException"), (Value.type "object")] 51 (Str.ofString "ValidationError") Bool.true [] [] Bool.false none Bool.false)) #[(some (Value.ref 43)), none, (some (Value.str (Str.ofString "ValidationError") 222)), (some (Value.str (Str.ofString "ValidationError") 230)), (some (Value.builtin "Exception.__new__")), (some (Value.bool Bool.true))])
noncomputable def o_65 (P : PySem.Params) : PySem.Obj := (Obj.mk (Value.type "function") none (Data.func (PySem.FuncData.mk (Str.ofString "Hash32") (Str.ofString "Hash32") fp_Hash32 (PySem.FuncBody.stmts fb_Hash32) fs_Hash32 3 [] Value.none Value.none Value.none (Value.str (Str.ofString "trie.others") 194) none (Value.ref 27) Value.none 0)) #[])
noncomputable def o_81 (P : PySem.Params) : PySem.Obj := (Obj.mk (Value.type "builtin_function_or_method") none (Data.fields #[(Value.builtin "type.__prepare__"), (Value.type "type")]) #[])
noncomputable def o_97 (P : PySem.Params) : PySem.Obj := (Obj.mk Value.none none (Data.func (PySem.FuncData.mk (Str.ofString "validate_is_bytes") (Str.ofString "validate_is_bytes") fp_validate_is_bytes (PySem.FuncBody.stmts fb_validate_is_bytes) fs_validate_is_bytes 0 [] Value.none Value.none Value.none Value.none none Value.none Value.none 0)) #[])
noncomputable def o_55 (P : PySem.Params) : PySem.Obj := (Obj.mk (Value.type "tuple") none (Data.seq #[] 0) #[])
noncomputable def o_71 (P : PySem.Params) : PySem.Obj := (Obj.mk (Value.type "code") none (Data.fields #[(Value.str (Str.ofString "cast") 203), (Value.str (Str.ofString "cast") 204), (Value.str (Str.ofString "/claim/cut.py") 205), (Value.int 7 0), (Value.int 2 0), (Value.int 0 0), (Value.int 0 0), (Value.int 3 0), (Value.ref 29), (Value.bool Bool.true), (Value.int 181 0), (Value.ref 30), Value.none, (Value.ref 31), (Value.ref 32), (Value.ref 33), (Value.int 208 0), (Value.int 7 0), (Value.str (Str.ofString "/claim/cut.py") 209)]) #[])
noncomputable def o_87 (P : PySem.Params) : PySem.Obj := (Obj.mk (Value.type "tuple") none (Data.seq #[] 0) #[])
noncomputable def o_63 (P : PySem.Params) : PySem.Obj := (Obj.mk Value.none none (Data.func (PySem.FuncData.mk (Str.ofString "Hash32") (Str.ofString "Hash32") fp_Hash32 (PySem.FuncBody.stmts fb_Hash32) fs_Hash32 0 [] Value.none Value.none Value.none Value.none none Value.none Value.none 0)) #[])
noncomputable def o_79 (P : PySem.Params) : PySem.Obj := (Obj.mk (Value.type "function") none (Data.func (PySem.FuncData.mk (Str.ofString "to_int") (Str.ofString "to_int") fp_to_int (PySem.FuncBody.stmts fb_to_int) fs_to_int 3 [] Value.none Value.none Value.none (Value.str (Str.ofString "trie.others") 194) none (Value.ref 41) Value.none 0)) #[])
noncomputable def o_95 (P : PySem.Params) : PySem.Obj := (Obj.mk (Value.type "tuple") none (Data.seq #[(Value.str (Str.ofString "value") 247)] 0) #[])
noncomputable def o_59 (P : PySem.Params) : PySem.Obj := (Obj.mk (Value.type "tuple") none (Data.seq #[] 0) #[])
noncomputable def o_75 (P : PySem.Params) : PySem.Obj := (Obj.mk (Value.type "tuple") none (Data.seq #[(Value.str (Str.ofString "octets") 214)] 0) #[])
noncomputable def o_91 (P : PySem.Params) : PySem.Obj := (Obj.mk (Value.type "super") none (Data.fields #[(Value.ref 52), (Value.ref 52), (Value.ref 52)]) #[])
noncomputable def o_67 (P : PySem.Params) : PySem.Obj := (Obj.mk Value.none none (Data.fields #[]) #[])
noncomputable def o_83 (P : PySem.Params) : PySem.Obj := (Obj.mk (Value.type "tuple") none (Data.seq #[] 0) #[])
noncomputable def o_99 (P : PySem.Params) : PySem.Obj := (Obj.mk (Value.type "function") none (Data.func (PySem.FuncData.mk (Str.ofString "validate_is_bytes") (Str.ofString "validate_is_bytes") fp_validate_is_bytes (PySem.FuncBody.stmts fb_validate_is_bytes) fs_validate_is_bytes 3 [] Value.none Value.none Value.none (Value.str (Str.ofString "trie.validation") 242) none (Value.ref 61) Value.none 0)) #[])
noncomputable def o_100 (P : PySem.Params) : PySem.Obj := (Obj.mk (Value.type "dict") none (Data.dict #[(DictEntry.mk (PyData.keyHash P (Str.ofString "__name__")) (Value.str (Str.ofString "__name__") 165) (Value.str (Str.ofString "trie.smt") 259)), (DictEntry.mk (PyData.keyHash P (Str.ofString "__doc__")) (Value.str (Str.ofString "__doc__") 166) Value.none), (DictEntry.mk (PyData.keyHash P (Str.ofString "__package__")) (Value.str (Str.ofString "__package__") 167) Value.none), (DictEntry.mk (PyData.keyHash P (Str.ofString "__loader__")) (Value.str (Str.ofString "__loader__") 168) (Value.builtin "__main__.__loader__#opaque")), (DictEntry.mk (PyData.keyHash P (Str.ofString "__spec__")) (Value.str (Str.ofString "__spec__") 169) Value.none), (DictEntry.mk (PyData.keyHash P (Str.ofString "__annotations__")) (Value.str (Str.ofString "__annotations__") 170) (Value.ref 6)), (DictEntry.mk (PyData.keyHash P (Str.ofString "__builtins__")) (Value.str (Str.ofString "__builtins__") 171) (Value.ref 4)), (DictEntry.mk (PyData.keyHash P (Str.ofString "__file__")) (Value.str (Str.ofString "__file__") 173) (Value.str (Str.ofString "/claim/cut.py") 172)), (DictEntry.mk (PyData.keyHash P (Str.ofString "__cached__")) (Value.str (Str.ofString "__cached__") 174) Value.none), (DictEntry.mk (PyData.keyHash P (Str.ofString "_wall")) (Value.str (Str.ofString "_wall") 193) (Value.ref 21)), (DictEntry.mk (PyData.keyHash P (Str.ofString "Hash32")) (Value.str (Str.ofString "Hash32") 202) (Value.ref 28)), (DictEntry.mk (PyData.keyHash P (Str.ofString "cast")) (Value.str (Str.ofString "cast") 210) (Value.ref 35)), (DictEntry.mk (PyData.keyHash P (Str.ofString "to_int")) (Value.str (Str.ofString "to_int") 217) (Value.ref 42)), (DictEntry.mk (PyData.keyHash P (Str.ofString "BLANK_NODE")) (Value.str (Str.ofString "BLANK_NODE") 219) (Value.bytes #[] 218)), (DictEntry.mk (PyData.keyHash P (Str.ofString "ValidationError")) (Value.str (Str.ofString "ValidationError") 241) (Value.ref 52)), (DictEntry.mk (PyData.keyHash P (Str.ofString "validate_is_bytes")) (Value.str (Str.ofString "validate_is_bytes") 250) (Value.ref 62)), (DictEntry.mk (PyData.keyHash P (Str.ofString "validate_length")) (Value.str (Str.ofString "validate_length") 258) (Value.ref 69)), (DictEntry.mk (PyData.keyHash P (Str.ofString "calc_root")) (Value.str (Str.ofString "calc_root") 275) (Value.ref 76))] 18) #[])
noncomputable def o_102 (P : PySem.Params) : PySem.Obj := (Obj.mk (Value.type "tuple") none (Data.seq #[] 0) #[])
noncomputable def o_110 (P : PySem.Params) : PySem.Obj := (Obj.mk Value.none none (Data.fields #[]) #[])
noncomputable def o_106 (P : PySem.Params) : PySem.Obj := (Obj.mk Value.none none (Data.func (PySem.FuncData.mk (Str.ofString "validate_length") (Str.ofString "validate_length") fp_validate_length (PySem.FuncBody.stmts fb_validate_length) fs_validate_length 0 [] Value.none Value.none Value.none Value.none none Value.none Value.none 0)) #[])
noncomputable def o_114 (P : PySem.Params) : PySem.Obj := (Obj.mk (Value.type "code") none (Data.fields #[(Value.str (Str.ofString "calc_root") 261), (Value.str (Str.ofString "calc_root") 262), (Value.str (Str.ofString "/claim/cut.py") 263), (Value.int 23 0), (Value.int 4 0), (Value.int 0 0), (Value.int 0 0), (Value.int 3 0), (Value.ref 70), (Value.bool Bool.true), (Value.int 181 0), (Value.ref 71), Value.none, (Value.ref 72), (Value.ref 73), (Value.ref 74), (Value.int 273 0), (Value.int 23 0), (Value.str (Str.ofString "/claim/cut.py") 274)]) #[])
noncomputable def o_104 (P : PySem.Params) : PySem.Obj := (Obj.mk (Value.type "tuple") none (Data.seq #[(Value.str (Str.ofString "value") 254), (Value.str (Str.ofString "length") 255)] 0) #[])
noncomputable def o_112 (P : PySem.Params) : PySem.Obj := (Obj.mk (Value.type "tuple") none (Data.seq #[] 0) #[])
noncomputable def o_108 (P : PySem.Params) : PySem.Obj := (Obj.mk (Value.type "function") none (Data.func (PySem.FuncData.mk (Str.ofString "validate_length") (Str.ofString "validate_length") fp_validate_length (PySem.FuncBody.stmts fb_validate_length) fs_validate_length 3 [] Value.none Value.none Value.none (Value.str (Str.ofString "trie.validation") 242) none (Value.ref 68) Value.none 0)) #[])
noncomputable def o_103 (P : PySem.Params) : PySem.Obj := (Obj.mk Value.none none (Data.fields #[]) #[])
noncomputable def o_111 (P : PySem.Params) : PySem.Obj := (Obj.mk (Value.type "tuple") none (Data.seq #[(Value.str (Str.ofString "key") 264), (Value.str (Str.ofString "value") 265), (Value.str (Str.ofString "branch") 266), (Value.str (Str.ofString "hash_of") 267), (Value.str (Str.ofString "keccak") 268), (Value.str (Str.ofString "path") 269), (Value.str (Str.ofString "target_bit") 270), (Value.str (Str.ofString "node_hash") 271), (Value.str (Str.ofString "sibling_node") 272)] 0) #[])
noncomputable def o_101 (P : PySem.Params) : PySem.Obj := (Obj.mk Value.none none (Data.fields #[(Value.int 1 0), (Value.int 0 0), (Value.ref 20), (Value.int 5 0), (Value.int 0 0), (Value.ref 27), (Value.int 7 0), (Value.int 0 0), (Value.ref 34), (Value.int 9 0), (Value.int 0 0), (Value.ref 41), (Value.int 13 0), (Value.int 0 0), (Value.ref 48), (Value.int 16 0), (Value.int 0 0), (Value.ref 61), (Value.int 19 0), (Value.int 0 0), (Value.ref 68), (Value.int 23 0), (Value.int 0 0), (Value.ref 75)]) #[])
noncomputable def o_107 (P : PySem.Params) : PySem.Obj := (Obj.mk (Value.type "code") none (Data.fields #[(Value.str (Str.ofString "validate_length") 251), (Value.str (Str.ofString "validate_length") 252), (Value.str (Str.ofString "/claim/cut.py") 253), (Value.int 19 0), (Value.int 2 0), (Value.int 0 0), (Value.int 0 0), (Value.int 3 0), (Value.ref 63), (Value.bool Bool.true), (Value.int 181 0), (Value.ref 64), Value.none, (Value.ref 65), (Value.ref 66), (Value.ref 67), (Value.int 256 0), (Value.int 19 0), (Value.str (Str.ofString "/claim/cut.py") 257)]) #[])
noncomputable def o_115 (P : PySem.Params) : PySem.Obj := (Obj.mk (Value.type "function") none (Data.func (PySem.FuncData.mk (Str.ofString "calc_root") (Str.ofString "calc_root") fp_calc_root (PySem.FuncBody.stmts fb_calc_root) fs_calc_root 3 [] Value.none Value.none Value.none (Value.str (Str.ofString "trie.smt") 259) none (Value.ref 75) Value.none 0)) #[])
noncomputable def o_105 (P : PySem.Params) : PySem.Obj := (Obj.mk (Value.type "tuple") none (Data.seq #[] 0) #[])
noncomputable def o_113 (P : PySem.Params) : PySem.Obj := (Obj.mk Value.none none (Data.func (PySem.FuncData.mk (Str.ofString "calc_root") (Str.ofString "calc_root") fp_calc_root (PySem.FuncBody.stmts fb_calc_root) fs_calc_root 0 [] Value.none Value.none Value.none Value.none none Value.none Value.none 0)) #[])
noncomputable def o_109 (P : PySem.Params) : PySem.Obj := (Obj.mk (Value.type "tuple") none (Data.seq #[] 0) #[])
noncomputable def o_116 (P : PySem.Params) : PySem.Obj := (Obj.mk (Value.type "dict") none (Data.dict #[(DictEntry.mk (PyData.keyHash P (Str.ofString "__name__")) (Value.str (Str.ofString "__name__") 165) (Value.str (Str.ofString "trie.smt") 259)), (DictEntry.mk (PyData.keyHash P (Str.ofString "__doc__")) (Value.str (Str.ofString "__doc__") 166) Value.none), (DictEntry.mk (PyData.keyHash P (Str.ofString "__package__")) (Value.str (Str.ofString "__package__") 167) Value.none), (DictEntry.mk (PyData.keyHash P (Str.ofString "__loader__")) (Value.str (Str.ofString "__loader__") 168) (Value.builtin "__main__.__loader__#opaque")), (DictEntry.mk (PyData.keyHash P (Str.ofString "__spec__")) (Value.str (Str.ofString "__spec__") 169) Value.none), (DictEntry.mk (PyData.keyHash P (Str.ofString "__annotations__")) (Value.str (Str.ofString "__annotations__") 170) (Value.ref 6)), (DictEntry.mk (PyData.keyHash P (Str.ofString "__builtins__")) (Value.str (Str.ofString "__builtins__") 171) (Value.ref 4)), (DictEntry.mk (PyData.keyHash P (Str.ofString "__file__")) (Value.str (Str.ofString "__file__") 173) (Value.str (Str.ofString "/claim/cut.py") 172)), (DictEntry.mk (PyData.keyHash P (Str.ofString "__cached__")) (Value.str (Str.ofString "__cached__") 174) Value.none), (DictEntry.mk (PyData.keyHash P (Str.ofString "_wall")) (Value.str (Str.ofString "_wall") 193) (Value.ref 21)), (DictEntry.mk (PyData.keyHash P (Str.ofString "Hash32")) (Value.str (Str.ofString "Hash32") 202) (Value.ref 28)), (DictEntry.mk (PyData.keyHash P (Str.ofString "cast")) (Value.str (Str.ofString "cast") 210) (Value.ref 35)), (DictEntry.mk (PyData.keyHash P (Str.ofString "to_int")) (Value.str (Str.ofString "to_int") 217) (Value.ref 42)), (DictEntry.mk (PyData.keyHash P (Str.ofString "BLANK_NODE")) (Value.str (Str.ofString "BLANK_NODE") 219) (Value.bytes #[] 218)), (DictEntry.mk (PyData.keyHash P (Str.ofString "ValidationError")) (Value.str (Str.ofString "ValidationError") 241) (Value.ref 52)), (DictEntry.mk (PyData.keyHash P (Str.ofString "validate_is_bytes")) (Value.str (Str.ofString "validate_is_bytes") 250) (Value.ref 62)), (DictEntry.mk (PyData.keyHash P (Str.ofString "validate_length")) (Value.str (Str.ofString "validate_length") 258) (Value.ref 69)), (DictEntry.mk (PyData.keyHash P (Str.ofString "calc_root")) (Value.str (Str.ofString "calc_root") 275) (Value.ref 76)), (DictEntry.mk (PyData.keyHash P (Str.ofString "SparseMerkleProof")) (Value.str (Str.ofString "SparseMerkleProof") 357) (Value.ref 132))] 19) #[])
noncomputable def o_168 (P : PySem.Params) : PySem.Obj := (Obj.mk Value.none none (Data.func (PySem.FuncData.mk (Str.ofString "update") (Str.ofString "SparseMerkleProof.update") fp_SparseMerkleProof_update (PySem.FuncBody.stmts fb_SparseMerkleProof_update) fs_SparseMerkleProof_update 0 [] Value.none Value.none Value.none Value.none none Value.none Value.none 0)) #[])
noncomputable def o_136 (P : PySem.Params) : PySem.Obj := (Obj.mk Value.none none (Data.func (PySem.FuncData.mk (Str.ofString "key") (Str.ofString "SparseMerkleProof.key") fp_SparseMerkleProof_key (PySem.FuncBody.stmts fb_SparseMerkleProof_key) fs_SparseMerkleProof_key 0 [] Value.none Value.none Value.none Value.none none Value.none Value.none 0)) #[])
noncomputable def o_120 (P : PySem.Params) : PySem.Obj := (Obj.mk (Value.type "dict") none (Data.dict #[(DictEntry.mk (PyData.keyHash P (Str.ofString "__module__")) (Value.str (Str.ofString "__module__") 283) (Value.str (Str.ofString "trie.smt") 259)), (DictEntry.mk (PyData.keyHash P (Str.ofString "__qualname__")) (Value.str (Str.ofString "__qualname__") 285) (Value.str (Str.ofString "SparseMerkleProof") 284)), (DictEntry.mk (PyData.keyHash P (Str.ofString "__firstlineno__")) (Value.str (Str.ofString "__firstlineno__") 287) (Value.int 38 286)), (DictEntry.mk (PyData.keyHash P (Str.ofString "__init__")) (Value.str (Str.ofString "__init__") 298) (Value.ref 90)), (DictEntry.mk (PyData.keyHash P (Str.ofString "key")) (Value.str (Str.ofString "key") 306) (Value.ref 98)), (DictEntry.mk (PyData.keyHash P (Str.ofString "value")) (Value.str (Str.ofString "value") 314) (Value.ref 106)), (DictEntry.mk (PyData.keyHash P (Str.ofString "branch")) (Value.str (Str.ofString "branch") 322) (Value.ref 114)), (DictEntry.mk (PyData.keyHash P (Str.ofString "root_hash")) (Value.str (Str.ofString "root_hash") 330) (Value.ref 122)), (DictEntry.mk (PyData.keyHash P (Str.ofString "update")) (Value.str (Str.ofString "update") 343) (Value.ref 129)), (DictEntry.mk (PyData.keyHash P (Str.ofString "__static_attributes__")) (Value.str (Str.ofString "__static_attributes__") 350) (Value.ref 130))] 10) #[])
noncomputable def o_152 (P : PySem.Params) : PySem.Obj := (Obj.mk Value.none none (Data.func (PySem.FuncData.mk (Str.ofString "branch") (Str.ofString "SparseMerkleProof.branch") fp_SparseMerkleProof_branch (PySem.FuncBody.stmts fb_SparseMerkleProof_branch) fs_SparseMerkleProof_branch 0 [] Value.none Value.none Value.none Value.none none Value.none Value.none 0)) #[])
noncomputable def o_176 (P : PySem.Params) : PySem.Obj := (Obj.mk (Value.type "super") none (Data.fields #[(Value.ref 132), (Value.ref 132), (Value.ref 132)]) #[])
noncomputable def o_144 (P : PySem.Params) : PySem.Obj := (Obj.mk Value.none none (Data.func (PySem.FuncData.mk (Str.ofString "value") (Str.ofString "SparseMerkleProof.value") fp_SparseMerkleProof_value (PySem.FuncBody.stmts fb_SparseMerkleProof_value) fs_SparseMerkleProof_value 0 [] Value.none Value.none Value.none Value.none none Value.none Value.none 0)) #[])
noncomputable def o_128 (P : PySem.Params) : PySem.Obj := (Obj.mk (Value.type "tuple") none (Data.seq #[] 0) #[])
noncomputable def o_160 (P : PySem.Params) : PySem.Obj := (Obj.mk Value.none none (Data.func (PySem.FuncData.mk (Str.ofString "root_hash") (Str.ofString "SparseMerkleProof.root_hash") fp_SparseMerkleProof_root_hash (PySem.FuncBody.stmts fb_SparseMerkleProof_root_hash) fs_SparseMerkleProof_root_hash 0 [] Value.none Value.none Value.none Value.none none Value.none Value.none 0)) #[])
noncomputable def o_172 (P : PySem.Params) : PySem.Obj := (Obj.mk (Value.type "dict") none (Data.dict #[(DictEntry.mk (PyData.keyHash P (Str.ofString "__module__")) (Value.str (Str.ofString "__module__") 283) (Value.str (Str.ofString "trie.smt") 259)), (DictEntry.mk (PyData.keyHash P (Str.ofString "__firstlineno__")) (Value.str (Str.ofString "__firstlineno__") 287) (Value.int 38 286)), (DictEntry.mk (PyData.keyHash P (Str.ofString "__init__")) (Value.str (Str.ofString "__init__") 298) (Value.ref 90)), (DictEntry.mk (PyData.keyHash P (Str.ofString "key")) (Value.str (Str.ofString "key") 306) (Value.ref 98)), (DictEntry.mk (PyData.keyHash P (Str.ofString "value")) (Value.str (Str.ofString "value") 314) (Value.ref 106)), (DictEntry.mk (PyData.keyHash P (Str.ofString "branch")) (Value.str (Str.ofString "branch") 322) (Value.ref 114)), (DictEntry.mk (PyData.keyHash P (Str.ofString "root_hash")) (Value.str (Str.ofString "root_hash") 330) (Value.ref 122)), (DictEntry.mk (PyData.keyHash P (Str.ofString "update")) (Value.str (Str.ofString "update") 343) (Value.ref 129)), (DictEntry.mk (PyData.keyHash P (Str.ofString "__static_attributes__")) (Value.str (Str.ofString "__static_attributes__") 350) (Value.ref 130)), (DictEntry.mk (PyData.keyHash P (Str.ofString "__dict__")) (Value.str (Str.ofString "__dict__") 352) (Value.ref 133)), (DictEntry.mk (PyData.keyHash P (Str.ofString "__weakref__")) (Value.str (Str.ofString "__weakref__") 354) (Value.ref 134)), (DictEntry.mk (PyData.keyHash P (Str.ofString "__doc__")) (Value.str (Str.ofString "__doc__") 355) Value.none)] 4) #[])
noncomputable def o_140 (P : PySem.Params) : PySem.Obj := (Obj.mk (Value.type "tuple") none (Data.seq #[] 0) #[])
noncomputable def o_124 (P : PySem.Params) : PySem.Obj := (Obj.mk (Value.type "frame") none Data.plain #[(some (Value.ref 82)), (some (Value.ref 3)), (some (Value.ref 79)), none, (some (Value.str (Str.ofString "trie.smt") 259)), none, (some (Value.ref 0))])
noncomputable def o_156 (P : PySem.Params) : PySem.Obj := (Obj.mk (Value.type "tuple") none (Data.seq #[] 0) #[])
noncomputable def o_148 (P : PySem.Params) : PySem.Obj := (Obj.mk (Value.type "tuple") none (Data.seq #[] 0) #[])
noncomputable def o_132 (P : PySem.Params) : PySem.Obj := (Obj.mk (Value.type "tuple") none (Data.seq #[] 0) #[])
noncomputable def o_164 (P : PySem.Params) : PySem.Obj := (Obj.mk (Value.type "tuple") none (Data.seq #[] 0) #[])
noncomputable def o_170 (P : PySem.Params) : PySem.Obj := (Obj.mk (Value.type "function") none (Data.func (PySem.FuncData.mk (Str.ofString "update") (Str.ofString "SparseMerkleProof.update") fp_SparseMerkleProof_update (PySem.FuncBody.stmts fb_SparseMerkleProof_update) fs_SparseMerkleProof_update 3 [] Value.none Value.none Value.none (Value.str (Str.ofString "trie.smt") 259) none (Value.ref 128) Value.none 0)) #[])
noncomputable def o_138 (P : PySem.Params) : PySem.Obj := (Obj.mk (Value.type "function") none (Data.func (PySem.FuncData.mk (Str.ofString "key") (Str.ofString "SparseMerkleProof.key") fp_SparseMerkleProof_key (PySem.FuncBody.stmts fb_SparseMerkleProof_key) fs_SparseMerkleProof_key 3 [] Value.none Value.none Value.none (Value.str (Str.ofString "trie.smt") 259) none (Value.ref 96) Value.none 0)) #[])
noncomputable def o_122 (P : PySem.Params) : PySem.Obj := (Obj.mk Value.none none (Data.fields #[(Value.int 40 0), (Value.int 4 0), (Value.ref 89), (Value.int 52 0), (Value.int 4 0), (Value.ref 96), (Value.int 56 0), (Value.int 4 0), (Value.ref 104), (Value.int 60 0), (Value.int 4 0), (Value.ref 112), (Value.int 64 0), (Value.int 4 0), (Value.ref 120), (Value.int 67 0), (Value.int 4 0), (Value.ref 128)]) #[])
noncomputable def o_154 (P : PySem.Params) : PySem.Obj := (Obj.mk (Value.type "function") none (Data.func (PySem.FuncData.mk (Str.ofString "branch") (Str.ofString "SparseMerkleProof.branch") fp_SparseMerkleProof_branch (PySem.FuncBody.stmts fb_SparseMerkleProof_branch) fs_SparseMerkleProof_branch 3 [] Value.none Value.none Value.none (Value.str (Str.ofString "trie.smt") 259) none (Value.ref 112) Value.none 0)) #[])
noncomputable def o_146 (P : PySem.Params) : PySem.Obj := (Obj.mk (Value.type "function") none (Data.func (PySem.FuncData.mk (Str.ofString "value") (Str.ofString "SparseMerkleProof.value") fp_SparseMerkleProof_value (PySem.FuncBody.stmts fb_SparseMerkleProof_value) fs_SparseMerkleProof_value 3 [] Value.none Value.none Value.none (Value.str (Str.ofString "trie.smt") 259) none (Value.ref 104) Value.none 0)) #[])
noncomputable def o_130 (P : PySem.Params) : PySem.Obj := (Obj.mk (Value.type "code") none (Data.fields #[(Value.str (Str.ofString "__init__") 288), (Value.str (Str.ofString "SparseMerkleProof.__init__") 289), (Value.str (Str.ofString "/claim/cut.py") 290), (Value.int 40 0), (Value.int 5 0), (Value.int 0 0), (Value.int 0 0), (Value.int 3 0), (Value.ref 84), (Value.bool Bool.true), (Value.int 181 0), (Value.ref 85), Value.none, (Value.ref 86), (Value.ref 87), (Value.ref 88), (Value.int 296 0), (Value.int 40 0), (Value.str (Str.ofString "/claim/cut.py") 297)]) #[])
noncomputable def o_162 (P : PySem.Params) : PySem.Obj := (Obj.mk (Value.type "function") none (Data.func (PySem.FuncData.mk (Str.ofString "root_hash") (Str.ofString "SparseMerkleProof.root_hash") fp_SparseMerkleProof_root_hash (PySem.FuncBody.stmts fb_SparseMerkleProof_root_hash) fs_SparseMerkleProof_root_hash 3 [] Value.none Value.none Value.none (Value.str (Str.ofString "trie.smt") 259) none (Value.ref 120) Value.none 0)) #[])
noncomputable def o_174 (P : PySem.Params) : PySem.Obj := (Obj.mk (Value.type "getset_descriptor") none (Data.fields #[(Value.str (Str.ofString "__dict__") 351), (Value.ref 132), (Value.builtin "function.__dict__"), (Value.builtin "function.__dict__#set")]) #[])
noncomputable def o_142 (P : PySem.Params) : PySem.Obj := (Obj.mk (Value.type "tuple") none (Data.seq #[(Value.str (Str.ofString "self") 310)] 0) #[])
noncomputable def o_126 (P : PySem.Params) : PySem.Obj := (Obj.mk Value.none none (Data.fields #[]) #[])
noncomputable def o_158 (P : PySem.Params) : PySem.Obj := (Obj.mk (Value.type "tuple") none (Data.seq #[(Value.str (Str.ofString "self") 326)] 0) #[])
noncomputable def o_118 (P : PySem.Params) : PySem.Obj := (Obj.mk (Value.type "tuple") none (Data.seq #[] 0) #[])
noncomputable def o_150 (P : PySem.Params) : PySem.Obj := (Obj.mk (Value.type "tuple") none (Data.seq #[(Value.str (Str.ofString "self") 318)] 0) #[])
noncomputable def o_134 (P : PySem.Params) : PySem.Obj := (Obj.mk (Value.type "tuple") none (Data.seq #[(Value.str (Str.ofString "self") 302)] 0) #[])
noncomputable def o_166 (P : PySem.Params) : PySem.Obj := (Obj.mk (Value.type "tuple") none (Data.seq #[(Value.str (Str.ofString "self") 334), (Value.str (Str.ofString "key") 335), (Value.str (Str.ofString "value") 336), (Value.str (Str.ofString "node_updates") 337), (Value.str (Str.ofString "path_diff") 338), (Value.str (Str.ofString "bit") 339), (Value.str (Str.ofString "branch_point") 340)] 0) #[])
noncomputable def o_169 (P : PySem.Params) : PySem.Obj := (Obj.mk (Value.type "code") none (Data.fields #[(Value.str (Str.ofString "update") 331), (Value.str (Str.ofString "SparseMerkleProof.update") 332), (Value.str (Str.ofString "/claim/cut.py") 333), (Value.int 67 0), (Value.int 4 0), (Value.int 0 0), (Value.int 0 0), (Value.int 3 0), (Value.ref 123), (Value.bool Bool.true), (Value.int 181 0), (Value.ref 124), Value.none, (Value.ref 125), (Value.ref 126), (Value.ref 127), (Value.int 341 0), (Value.int 67 0), (Value.str (Str.ofString "/claim/cut.py") 342)]) #[])
noncomputable def o_137 (P : PySem.Params) : PySem.Obj := (Obj.mk (Value.type "code") none (Data.fields #[(Value.str (Str.ofString "key") 299), (Value.str (Str.ofString "SparseMerkleProof.key") 300), (Value.str (Str.ofString "/claim/cut.py") 301), (Value.int 51 0), (Value.int 1 0), (Value.int 0 0), (Value.int 0 0), (Value.int 3 0), (Value.ref 91), (Value.bool Bool.true), (Value.int 181 0), (Value.ref 92), Value.none, (Value.ref 93), (Value.ref 94), (Value.ref 95), (Value.int 303 0), (Value.int 51 0), (Value.str (Str.ofString "/claim/cut.py") 304)]) #[])
noncomputable def o_121 (P : PySem.Params) : PySem.Obj := (Obj.mk (Value.type "tuple") none (Data.seq #[] 0) #[])
noncomputable def o_153 (P : PySem.Params) : PySem.Obj := (Obj.mk (Value.type "code") none (Data.fields #[(Value.str (Str.ofString "branch") 315), (Value.str (Str.ofString "SparseMerkleProof.branch") 316), (Value.str (Str.ofString "/claim/cut.py") 317), (Value.int 59 0), (Value.int 1 0), (Value.int 0 0), (Value.int 0 0), (Value.int 3 0), (Value.ref 107), (Value.bool Bool.true), (Value.int 181 0), (Value.ref 108), Value.none, (Value.ref 109), (Value.ref 110), (Value.ref 111), (Value.int 319 0), (Value.int 59 0), (Value.str (Str.ofString "/claim/cut.py") 320)]) #[])
noncomputable def o_177 (P : PySem.Params) : PySem.Obj := (Obj.mk (Value.type "builtin_function_or_method") none (Data.fields #[(Value.builtin "object.__init_subclass__"), (Value.ref 132)]) #[])
noncomputable def o_145 (P : PySem.Params) : PySem.Obj := (Obj.mk (Value.type "code") none (Data.fields #[(Value.str (Str.ofString "value") 307), (Value.str (Str.ofString "SparseMerkleProof.value") 308), (Value.str (Str.ofString "/claim/cut.py") 309), (Value.int 55 0), (Value.int 1 0), (Value.int 0 0), (Value.int 0 0), (Value.int 3 0), (Value.ref 99), (Value.bool Bool.true), (Value.int 181 0), (Value.ref 100), Value.none, (Value.ref 101), (Value.ref 102), (Value.ref 103), (Value.int 311 0), (Value.int 55 0), (Value.str (Str.ofString "/claim/cut.py") 312)]) #[])
noncomputable def o_129 (P : PySem.Params) : PySem.Obj := (Obj.mk Value.none none (Data.func (PySem.FuncData.mk (Str.ofString "__init__") (Str.ofString "SparseMerkleProof.__init__") fp_SparseMerkleProof___init__ (PySem.FuncBody.stmts fb_SparseMerkleProof___init__) fs_SparseMerkleProof___init__ 0 [] Value.none Value.none Value.none Value.none none Value.none Value.none 0)) #[])
noncomputable def o_161 (P : PySem.Params) : PySem.Obj := (Obj.mk (Value.type "code") none (Data.fields #[(Value.str (Str.ofString "root_hash") 323), (Value.str (Str.ofString "SparseMerkleProof.root_hash") 324), (Value.str (Str.ofString "/claim/cut.py") 325), (Value.int 63 0), (Value.int 1 0), (Value.int 0 0), (Value.int 0 0), (Value.int 3 0), (Value.ref 115), (Value.bool Bool.true), (Value.int 181 0), (Value.ref 116), Value.none, (Value.ref 117), (Value.ref 118), (Value.ref 119), (Value.int 327 0), (Value.int 63 0), (Value.str (Str.ofString "/claim/cut.py") 328)]) #[])
noncomputable def o_117 (P : PySem.Params) : PySem.Obj := (Obj.mk Value.none none (Data.fields #[(Value.int 1 0), (Value.int 0 0), (Value.ref 20), (Value.int 5 0), (Value.int 0 0), (Value.ref 27), (Value.int 7 0), (Value.int 0 0), (Value.ref 34), (Value.int 9 0), (Value.int 0 0), (Value.ref 41), (Value.int 13 0), (Value.int 0 0), (Value.ref 48), (Value.int 16 0), (Value.int 0 0), (Value.ref 61), (Value.int 19 0), (Value.int 0 0), (Value.ref 68), (Value.int 23 0), (Value.int 0 0), (Value.ref 75), (Value.int 38 0), (Value.int 0 0), (Value.ref 82)]) #[])
noncomputable def o_173 (P : PySem.Params) : PySem.Obj := (Obj.mk (Value.type "type") none (Data.cls (PySem.ClassData.mk (Str.ofString "SparseMerkleProof") [(Value.type "object")] [(Value.ref 132), (Value.type "object")] 131 (Str.ofString "SparseMerkleProof") Bool.true [] [] Bool.false none Bool.false)) #[none, none, (some (Value.str (Str.ofString "SparseMerkleProof") 276)), (some (Value.str (Str.ofString "SparseMerkleProof") 284)), (some (Value.builtin "object.__new__")), (some (Value.bool Bool.true))])
noncomputable def o_141 (P : PySem.Params) : PySem.Obj := (Obj.mk Value.none none (Data.fields #[]) #[])
noncomputable def o_125 (P : PySem.Params) : PySem.Obj := (Obj.mk (Value.type "tuple") none (Data.seq #[] 0) #[])
noncomputable def o_157 (P : PySem.Params) : PySem.Obj := (Obj.mk Value.none none (Data.fields #[]) #[])
noncomputable def o_149 (P : PySem.Params) : PySem.Obj := (Obj.mk Value.none none (Data.fields #[]) #[])
noncomputable def o_133 (P : PySem.Params) : PySem.Obj := (Obj.mk Value.none none (Data.fields #[]) #[])
noncomputable def o_165 (P : PySem.Params) : PySem.Obj := (Obj.mk Value.none none (Data.fields #[]) #[])
noncomputable def o_171 (P : PySem.Params) : PySem.Obj := (Obj.mk (Value.type "tuple") none (Data.seq #[(Value.str (Str.ofString "_branch") 344), (Value.str (Str.ofString "_branch_size") 345), (Value.str (Str.ofString "_key") 346), (Value.str (Str.ofString "_key_size") 347), (Value.str (Str.ofString "_value") 348), (Value.str (Str.ofString "hash_of") 349)] 0) #[])
noncomputable def o_139 (P : PySem.Params) : PySem.Obj := (Obj.mk (Value.type "property") none (Data.fields #[(Value.ref 97), Value.none, Value.none, Value.none, (Value.str (Str.ofString "key") 306), (Value.bool Bool.false)]) #[])
noncomputable def o_123 (P : PySem.Params) : PySem.Obj := (Obj.mk (Value.type "code") none (Data.fields #[(Value.str (Str.ofString "SparseMerkleProof") 278), (Value.str (Str.ofString "SparseMerkleProof") 279), (Value.str (Str.ofString "/claim/cut.py") 280), (Value.int 38 0), (Value.int 0 0), (Value.int 0 0), (Value.int 0 0), (Value.int 0 0), (Value.ref 80), (Value.bool Bool.false), (Value.int 181 0), (Value.ref 81), Value.none, Value.none, Value.none, Value.none, (Value.int 281 0), (Value.int 38 0), (Value.str (Str.ofString "/claim/cut.py") 282)]) #[])
noncomputable def o_155 (P : PySem.Params) : PySem.Obj := (Obj.mk (Value.type "property") none (Data.fields #[(Value.ref 113), Value.none, Value.none, Value.none, (Value.str (Str.ofString "branch") 322), (Value.bool Bool.false)]) #[])
noncomputable def o_147 (P : PySem.Params) : PySem.Obj := (Obj.mk (Value.type "property") none (Data.fields #[(Value.ref 105), Value.none, Value.none, Value.none, (Value.str (Str.ofString "value") 314), (Value.bool Bool.false)]) #[])
noncomputable def o_131 (P : PySem.Params) : PySem.Obj := (Obj.mk (Value.type "function") none (Data.func (PySem.FuncData.mk (Str.ofString "__init__") (Str.ofString "SparseMerkleProof.__init__") fp_SparseMerkleProof___init__ (PySem.FuncBody.stmts fb_SparseMerkleProof___init__) fs_SparseMerkleProof___init__ 3 [] Value.none Value.none Value.none (Value.str (Str.ofString "trie.smt") 259) none (Value.ref 89) Value.none 0)) #[])
noncomputable def o_163 (P : PySem.Params) : PySem.Obj := (Obj.mk (Value.type "property") none (Data.fields #[(Value.ref 121), Value.none, Value.none, Value.none, (Value.str (Str.ofString "root_hash") 330), (Value.bool Bool.false)]) #[])
noncomputable def o_175 (P : PySem.Params) : PySem.Obj := (Obj.mk (Value.type "getset_descriptor") none (Data.fields #[(Value.str (Str.ofString "__weakref__") 353), (Value.ref 132), (Value.builtin "ExceptionGroup.__weakref__"), Value.none]) #[])
noncomputable def o_143 (P : PySem.Params) : PySem.Obj := (Obj.mk (Value.type "tuple") none (Data.seq #[] 0) #[])
noncomputable def o_127 (P : PySem.Params) : PySem.Obj := (Obj.mk (Value.type "tuple") none (Data.seq #[(Value.str (Str.ofString "self") 291), (Value.str (Str.ofString "key") 292), (Value.str (Str.ofString "value") 293), (Value.str (Str.ofString "branch") 294), (Value.str (Str.ofString "hash_of") 295)] 0) #[])
noncomputable def o_159 (P : PySem.Params) : PySem.Obj := (Obj.mk (Value.type "tuple") none (Data.seq #[] 0) #[])
noncomputable def o_119 (P : PySem.Params) : PySem.Obj := (Obj.mk (Value.type "builtin_function_or_method") none (Data.fields #[(Value.builtin "type.__prepare__"), (Value.type "type")]) #[])
noncomputable def o_151 (P : PySem.Params) : PySem.Obj := (Obj.mk (Value.type "tuple") none (Data.seq #[] 0) #[])
noncomputable def o_135 (P : PySem.Params) : PySem.Obj := (Obj.mk (Value.type "tuple") none (Data.seq #[] 0) #[])
noncomputable def o_167 (P : PySem.Params) : PySem.Obj := (Obj.mk (Value.type "tuple") none (Data.seq #[] 0) #[])
noncomputable def o_228 (P : PySem.Params) : PySem.Obj := (Obj.mk (Value.type "dict") none (Data.dict #[(DictEntry.mk (PyData.keyHash P (Str.ofString "__name__")) (Value.str (Str.ofString "__name__") 165) (Value.str (Str.ofString "trie.smt") 259)), (DictEntry.mk (PyData.keyHash P (Str.ofString "__doc__")) (Value.str (Str.ofString "__doc__") 166) Value.none), (DictEntry.mk (PyData.keyHash P (Str.ofString "__package__")) (Value.str (Str.ofString "__package__") 167) Value.none), (DictEntry.mk (PyData.keyHash P (Str.ofString "__loader__")) (Value.str (Str.ofString "__loader__") 168) (Value.builtin "__main__.__loader__#opaque")), (DictEntry.mk (PyData.keyHash P (Str.ofString "__spec__")) (Value.str (Str.ofString "__spec__") 169) Value.none), (DictEntry.mk (PyData.keyHash P (Str.ofString "__annotations__")) (Value.str (Str.ofString "__annotations__") 170) (Value.ref 6)), (DictEntry.mk (PyData.keyHash P (Str.ofString "__builtins__")) (Value.str (Str.ofString "__builtins__") 171) (Value.ref 4)), (DictEntry.mk (PyData.keyHash P (Str.ofString "__file__")) (Value.str (Str.ofString "__file__") 173) (Value.str (Str.ofString "/claim/cut.py") 172)), (DictEntry.mk (PyData.keyHash P (Str.ofString "__cached__")) (Value.str (Str.ofString "__cached__") 174) Value.none), (DictEntry.mk (PyData.keyHash P (Str.ofString "_wall")) (Value.str (Str.ofString "_wall") 193) (Value.ref 21)), (DictEntry.mk (PyData.keyHash P (Str.ofString "Hash32")) (Value.str (Str.ofString "Hash32") 202) (Value.ref 28)), (DictEntry.mk (PyData.keyHash P (Str.ofString "cast")) (Value.str (Str.ofString "cast") 210) (Value.ref 35)), (DictEntry.mk (PyData.keyHash P (Str.ofString "to_int")) (Value.str (Str.ofString "to_int") 217) (Value.ref 42)), (DictEntry.mk (PyData.keyHash P (Str.ofString "BLANK_NODE")) (Value.str (Str.ofString "BLANK_NODE") 219) (Value.bytes #[] 218)), (DictEntry.mk (PyData.keyHash P (Str.ofString "ValidationError")) (Value.str (Str.ofString "ValidationError") 241) (Value.ref 52)), (DictEntry.mk (PyData.keyHash P (Str.ofString "validate_is_bytes")) (Value.str (Str.ofString "validate_is_bytes") 250) (Value.ref 62)), (DictEntry.mk (PyData.keyHash P (Str.ofString "validate_length")) (Value.str (Str.ofString "validate_length") 258) (Value.ref 69)), (DictEntry.mk (PyData.keyHash P (Str.ofString "calc_root")) (Value.str (Str.ofString "calc_root") 275) (Value.ref 76)), (DictEntry.mk (PyData.keyHash P (Str.ofString "SparseMerkleProof")) (Value.str (Str.ofString "SparseMerkleProof") 357) (Value.ref 132)), (DictEntry.mk (PyData.keyHash P (Str.ofString "SparseMerkleTree")) (Value.str (Str.ofString "SparseMerkleTree") 526) (Value.ref 235))] 20) #[])
noncomputable def o_284 (P : PySem.Params) : PySem.Obj := (Obj.mk (Value.type "tuple") none (Data.seq #[] 0) #[])
noncomputable def o_252 (P : PySem.Params) : PySem.Obj := (Obj.mk (Value.type "function") none (Data.func (PySem.FuncData.mk (Str.ofString "from_db") (Str.ofString "SparseMerkleTree.from_db") fp_SparseMerkleTree_from_db (PySem.FuncBody.stmts fb_SparseMerkleTree_from_db) fs_SparseMerkleTree_from_db 3 [] (Value.ref 152) Value.none Value.none (Value.str (Str.ofString "trie.smt") 259) (some 162) (Value.ref 158) Value.none 0)) #[])
noncomputable def o_316 (P : PySem.Params) : PySem.Obj := (Obj.mk Value.none none (Data.func (PySem.FuncData.mk (Str.ofString "__delitem__") (Str.ofString "SparseMerkleTree.__delitem__") fp_SparseMerkleTree___delitem__ (PySem.FuncBody.stmts fb_SparseMerkleTree___delitem__) fs_SparseMerkleTree___delitem__ 0 [] Value.none Value.none Value.none Value.none none Value.none Value.none 0)) #[])
noncomputable def o_236 (P : PySem.Params) : PySem.Obj := (Obj.mk (Value.type "frame") none Data.plain #[(some (Value.ref 142)), (some (Value.ref 3)), (some (Value.ref 139)), none, (some (Value.str (Str.ofString "trie.smt") 259)), none, (some (Value.ref 0))])
noncomputable def o_300 (P : PySem.Params) : PySem.Obj := (Obj.mk (Value.type "tuple") none (Data.seq #[(Value.str (Str.ofString "self") 483), (Value.str (Str.ofString "key") 484)] 0) #[])
noncomputable def o_268 (P : PySem.Params) : PySem.Obj := (Obj.mk (Value.type "code") none (Data.fields #[(Value.str (Str.ofString "branch") 420), (Value.str (Str.ofString "SparseMerkleTree.branch") 421), (Value.str (Str.ofString "/claim/cut.py") 422), (Value.int 110 0), (Value.int 2 0), (Value.int 0 0), (Value.int 0 0), (Value.int 3 0), (Value.ref 170), (Value.bool Bool.true), (Value.int 181 0), (Value.ref 171), Value.none, (Value.ref 172), (Value.ref 173), (Value.ref 174), (Value.int 427 0), (Value.int 110 0), (Value.str (Str.ofString "/claim/cut.py") 428)]) #[])
noncomputable def o_332 (P : PySem.Params) : PySem.Obj := (Obj.mk (Value.type "builtin_function_or_method") none (Data.fields #[(Value.builtin "object.__init_subclass__"), (Value.ref 235)]) #[])
noncomputable def o_292 (P : PySem.Params) : PySem.Obj := (Obj.mk Value.none none (Data.fields #[]) #[])
noncomputable def o_260 (P : PySem.Params) : PySem.Obj := (Obj.mk Value.none none (Data.func (PySem.FuncData.mk (Str.ofString "get") (Str.ofString "SparseMerkleTree.get") fp_SparseMerkleTree_get (PySem.FuncBody.stmts fb_SparseMerkleTree_get) fs_SparseMerkleTree_get 0 [] Value.none Value.none Value.none Value.none none Value.none Value.none 0)) #[])
noncomputable def o_324 (P : PySem.Params) : PySem.Obj := (Obj.mk (Value.type "code") none (Data.fields #[(Value.str (Str.ofString "__contains__") 505), (Value.str (Str.ofString "SparseMerkleTree.__contains__") 506), (Value.str (Str.ofString "/claim/cut.py") 507), (Value.int 181 0), (Value.int 2 0), (Value.int 0 0), (Value.int 0 0), (Value.int 3 0), (Value.ref 226), (Value.bool Bool.true), (Value.int 181 0), (Value.ref 227), Value.none, (Value.ref 228), (Value.ref 229), (Value.ref 230), (Value.int 510 0), (Value.int 181 0), (Value.str (Str.ofString "/claim/cut.py") 511)]) #[])
noncomputable def o_244 (P : PySem.Params) : PySem.Obj := (Obj.mk (Value.type "function") none (Data.func (PySem.FuncData.mk (Str.ofString "__init__") (Str.ofString "SparseMerkleTree.__init__") fp_SparseMerkleTree___init__ (PySem.FuncBody.stmts fb_SparseMerkleTree___init__) fs_SparseMerkleTree___init__ 3 [] (Value.ref 144) Value.none Value.none (Value.str (Str.ofString "trie.smt") 259) none (Value.ref 150) Value.none 0)) #[])
noncomputable def o_308 (P : PySem.Params) : PySem.Obj := (Obj.mk (Value.type "tuple") none (Data.seq #[] 0) #[])
noncomputable def o_276 (P : PySem.Params) : PySem.Obj := (Obj.mk (Value.type "function") none (Data.func (PySem.FuncData.mk (Str.ofString "_get") (Str.ofString "SparseMerkleTree._get") fp_SparseMerkleTree__get (PySem.FuncBody.stmts fb_SparseMerkleTree__get) fs_SparseMerkleTree__get 3 [] Value.none Value.none Value.none (Value.str (Str.ofString "trie.smt") 259) none (Value.ref 182) Value.none 0)) #[])
noncomputable def o_288 (P : PySem.Params) : PySem.Obj := (Obj.mk Value.none none (Data.func (PySem.FuncData.mk (Str.ofString "exists") (Str.ofString "SparseMerkleTree.exists") fp_SparseMerkleTree_exists (PySem.FuncBody.stmts fb_SparseMerkleTree_exists) fs_SparseMerkleTree_exists 0 [] Value.none Value.none Value.none Value.none none Value.none Value.none 0)) #[])
noncomputable def o_256 (P : PySem.Params) : PySem.Obj := (Obj.mk (Value.type "tuple") none (Data.seq #[] 0) #[])
noncomputable def o_320 (P : PySem.Params) : PySem.Obj := (Obj.mk Value.none none (Data.fields #[]) #[])
noncomputable def o_240 (P : PySem.Params) : PySem.Obj := (Obj.mk (Value.type "tuple") none (Data.seq #[(Value.str (Str.ofString "self") 374), (Value.str (Str.ofString "hash_of") 375), (Value.str (Str.ofString "key_size") 376), (Value.str (Str.ofString "default") 377), (Value.str (Str.ofString "keccak") 378), (Value.str (Str.ofString "node") 379), (Value.str (Str.ofString "_") 380), (Value.str (Str.ofString "node_hash") 381)] 0) #[])
noncomputable def o_304 (P : PySem.Params) : PySem.Obj := (Obj.mk (Value.type "function") none (Data.func (PySem.FuncData.mk (Str.ofString "__getitem__") (Str.ofString "SparseMerkleTree.__getitem__") fp_SparseMerkleTree___getitem__ (PySem.FuncBody.stmts fb_SparseMerkleTree___getitem__) fs_SparseMerkleTree___getitem__ 3 [] Value.none Value.none Value.none (Value.str (Str.ofString "trie.smt") 259) none (Value.ref 210) Value.none 0)) #[])
noncomputable def o_272 (P : PySem.Params) : PySem.Obj := (Obj.mk (Value.type "tuple") none (Data.seq #[(Value.str (Str.ofString "self") 433), (Value.str (Str.ofString "key") 434), (Value.str (Str.ofString "branch") 435), (Value.str (Str.ofString "target_bit") 436), (Value.str (Str.ofString "path") 437), (Value.str (Str.ofString "node_hash") 438), (Value.str (Str.ofString "_") 439), (Value.str (Str.ofString "node") 440), (Value.str (Str.ofString "left") 441), (Value.str (Str.ofString "right") 442)] 0) #[])
noncomputable def o_232 (P : PySem.Params) : PySem.Obj := (Obj.mk (Value.type "dict") none (Data.dict #[(DictEntry.mk (PyData.keyHash P (Str.ofString "__module__")) (Value.str (Str.ofString "__module__") 365) (Value.str (Str.ofString "trie.smt") 259)), (DictEntry.mk (PyData.keyHash P (Str.ofString "__qualname__")) (Value.str (Str.ofString "__qualname__") 367) (Value.str (Str.ofString "SparseMerkleTree") 366)), (DictEntry.mk (PyData.keyHash P (Str.ofString "__firstlineno__")) (Value.str (Str.ofString "__firstlineno__") 369) (Value.int 81 368)), (DictEntry.mk (PyData.keyHash P (Str.ofString "__init__")) (Value.str (Str.ofString "__init__") 384) (Value.ref 151)), (DictEntry.mk (PyData.keyHash P (Str.ofString "from_db")) (Value.str (Str.ofString "from_db") 409) (Value.ref 161)), (DictEntry.mk (PyData.keyHash P (Str.ofString "get")) (Value.str (Str.ofString "get") 419) (Value.ref 169)), (DictEntry.mk (PyData.keyHash P (Str.ofString "branch")) (Value.str (Str.ofString "branch") 429) (Value.ref 176)), (DictEntry.mk (PyData.keyHash P (Str.ofString "_get")) (Value.str (Str.ofString "_get") 445) (Value.ref 183)), (DictEntry.mk (PyData.keyHash P (Str.ofString "set")) (Value.str (Str.ofString "set") 463) (Value.ref 190)), (DictEntry.mk (PyData.keyHash P (Str.ofString "exists")) (Value.str (Str.ofString "exists") 471) (Value.ref 197)), (DictEntry.mk (PyData.keyHash P (Str.ofString "delete")) (Value.str (Str.ofString "delete") 479) (Value.ref 204)), (DictEntry.mk (PyData.keyHash P (Str.ofString "__getitem__")) (Value.str (Str.ofString "__getitem__") 487) (Value.ref 211)), (DictEntry.mk (PyData.keyHash P (Str.ofString "__setitem__")) (Value.str (Str.ofString "__setitem__") 496) (Value.ref 218)), (DictEntry.mk (PyData.keyHash P (Str.ofString "__delitem__")) (Value.str (Str.ofString "__delitem__") 504) (Value.ref 225)), (DictEntry.mk (PyData.keyHash P (Str.ofString "__contains__")) (Value.str (Str.ofString "__contains__") 512) (Value.ref 232)), (DictEntry.mk (PyData.keyHash P (Str.ofString "__static_attributes__")) (Value.str (Str.ofString "__static_attributes__") 519) (Value.ref 233))] 16) #[])
noncomputable def o_296 (P : PySem.Params) : PySem.Obj := (Obj.mk (Value.type "code") none (Data.fields #[(Value.str (Str.ofString "delete") 472), (Value.str (Str.ofString "SparseMerkleTree.delete") 473), (Value.str (Str.ofString "/claim/cut.py") 474), (Value.int 167 0), (Value.int 2 0), (Value.int 0 0), (Value.int 0 0), (Value.int 3 0), (Value.ref 198), (Value.bool Bool.true), (Value.int 181 0), (Value.ref 199), Value.none, (Value.ref 200), (Value.ref 201), (Value.ref 202), (Value.int 477 0), (Value.int 167 0), (Value.str (Str.ofString "/claim/cut.py") 478)]) #[])
noncomputable def o_264 (P : PySem.Params) : PySem.Obj := (Obj.mk Value.none none (Data.fields #[]) #[])
noncomputable def o_328 (P : PySem.Params) : PySem.Obj := (Obj.mk (Value.type "type") none (Data.cls (PySem.ClassData.mk (Str.ofString "SparseMerkleTree") [(Value.type "object")] [(Value.ref 235), (Value.type "object")] 234 (Str.ofString "SparseMerkleTree") Bool.true [] [] Bool.false none Bool.false)) #[none, none, (some (Value.str (Str.ofString "SparseMerkleTree") 358)), (some (Value.str (Str.ofString "SparseMerkleTree") 366)), (some (Value.builtin "object.__new__")), (some (Value.bool Bool.true))])
noncomputable def o_248 (P : PySem.Params) : PySem.Obj := (Obj.mk (Value.type "tuple") none (Data.seq #[(Value.str (Str.ofString "cls") 389), (Value.str (Str.ofString "db") 390), (Value.str (Str.ofString "root_hash") 391), (Value.str (Str.ofString "hash_of") 392), (Value.str (Str.ofString "key_size") 393), (Value.str (Str.ofString "default") 394)] 0) #[])
noncomputable def o_312 (P : PySem.Params) : PySem.Obj := (Obj.mk (Value.type "tuple") none (Data.seq #[] 0) #[])
noncomputable def o_280 (P : PySem.Params) : PySem.Obj := (Obj.mk (Value.type "tuple") none (Data.seq #[] 0) #[])
noncomputable def o_286 (P : PySem.Params) : PySem.Obj := (Obj.mk (Value.type "tuple") none (Data.seq #[(Value.str (Str.ofString "self") 467), (Value.str (Str.ofString "key") 468)] 0) #[])
noncomputable def o_254 (P : PySem.Params) : PySem.Obj := (Obj.mk (Value.type "classmethod") (some 160) (Data.fields #[(Value.ref 159), (Value.bool Bool.false)]) #[])
noncomputable def o_318 (P : PySem.Params) : PySem.Obj := (Obj.mk (Value.type "function") none (Data.func (PySem.FuncData.mk (Str.ofString "__delitem__") (Str.ofString "SparseMerkleTree.__delitem__") fp_SparseMerkleTree___delitem__ (PySem.FuncBody.stmts fb_SparseMerkleTree___delitem__) fs_SparseMerkleTree___delitem__ 3 [] Value.none Value.none Value.none (Value.str (Str.ofString "trie.smt") 259) none (Value.ref 224) Value.none 0)) #[])
noncomputable def o_238 (P : PySem.Params) : PySem.Obj := (Obj.mk (Value.type "tuple") none (Data.seq #[] 0) #[])
noncomputable def o_302 (P : PySem.Params) : PySem.Obj := (Obj.mk Value.none none (Data.func (PySem.FuncData.mk (Str.ofString "__getitem__") (Str.ofString "SparseMerkleTree.__getitem__") fp_SparseMerkleTree___getitem__ (PySem.FuncBody.stmts fb_SparseMerkleTree___getitem__) fs_SparseMerkleTree___getitem__ 0 [] Value.none Value.none Value.none Value.none none Value.none Value.none 0)) #[])
noncomputable def o_270 (P : PySem.Params) : PySem.Obj := (Obj.mk (Value.type "tuple") none (Data.seq #[] 0) #[])
noncomputable def o_230 (P : PySem.Params) : PySem.Obj := (Obj.mk (Value.type "tuple") none (Data.seq #[] 0) #[])
noncomputable def o_294 (P : PySem.Params) : PySem.Obj := (Obj.mk (Value.type "tuple") none (Data.seq #[] 0) #[])
noncomputable def o_262 (P : PySem.Params) : PySem.Obj := (Obj.mk (Value.type "function") none (Data.func (PySem.FuncData.mk (Str.ofString "get") (Str.ofString "SparseMerkleTree.get") fp_SparseMerkleTree_get (PySem.FuncBody.stmts fb_SparseMerkleTree_get) fs_SparseMerkleTree_get 3 [] Value.none Value.none Value.none (Value.str (Str.ofString "trie.smt") 259) none (Value.ref 168) Value.none 0)) #[])
noncomputable def o_326 (P : PySem.Params) : PySem.Obj := (Obj.mk (Value.type "tuple") none (Data.seq #[(Value.str (Str.ofString "_default") 513), (Value.str (Str.ofString "_key_size") 514), (Value.str (Str.ofString "db") 515), (Value.str (Str.ofString "depth") 516), (Value.str (Str.ofString "hash_of") 517), (Value.str (Str.ofString "root_hash") 518)] 0) #[])
noncomputable def o_246 (P : PySem.Params) : PySem.Obj := (Obj.mk (Value.type "tuple") none (Data.seq #[] 0) #[])
noncomputable def o_310 (P : PySem.Params) : PySem.Obj := (Obj.mk (Value.type "code") none (Data.fields #[(Value.str (Str.ofString "__setitem__") 488), (Value.str (Str.ofString "SparseMerkleTree.__setitem__") 489), (Value.str (Str.ofString "/claim/cut.py") 490), (Value.int 175 0), (Value.int 3 0), (Value.int 0 0), (Value.int 0 0), (Value.int 3 0), (Value.ref 212), (Value.bool Bool.true), (Value.int 181 0), (Value.ref 213), Value.none, (Value.ref 214), (Value.ref 215), (Value.ref 216), (Value.int 494 0), (Value.int 175 0), (Value.str (Str.ofString "/claim/cut.py") 495)]) #[])
noncomputable def o_278 (P : PySem.Params) : PySem.Obj := (Obj.mk Value.none none (Data.fields #[]) #[])
noncomputable def o_290 (P : PySem.Params) : PySem.Obj := (Obj.mk (Value.type "function") none (Data.func (PySem.FuncData.mk (Str.ofString "exists") (Str.ofString "SparseMerkleTree.exists") fp_SparseMerkleTree_exists (PySem.FuncBody.stmts fb_SparseMerkleTree_exists) fs_SparseMerkleTree_exists 3 [] Value.none Value.none Value.none (Value.str (Str.ofString "trie.smt") 259) none (Value.ref 196) Value.none 0)) #[])
noncomputable def o_258 (P : PySem.Params) : PySem.Obj := (Obj.mk (Value.type "tuple") none (Data.seq #[(Value.str (Str.ofString "self") 413), (Value.str (Str.ofString "key") 414), (Value.str (Str.ofString "value") 415), (Value.str (Str.ofString "_") 416)] 0) #[])
noncomputable def o_322 (P : PySem.Params) : PySem.Obj := (Obj.mk (Value.type "tuple") none (Data.seq #[] 0) #[])
noncomputable def o_242 (P : PySem.Params) : PySem.Obj := (Obj.mk Value.none none (Data.func (PySem.FuncData.mk (Str.ofString "__init__") (Str.ofString "SparseMerkleTree.__init__") fp_SparseMerkleTree___init__ (PySem.FuncBody.stmts fb_SparseMerkleTree___init__) fs_SparseMerkleTree___init__ 0 [] Value.none Value.none Value.none Value.none none Value.none Value.none 0)) #[])
noncomputable def o_306 (P : PySem.Params) : PySem.Obj := (Obj.mk Value.none none (Data.fields #[]) #[])
noncomputable def o_274 (P : PySem.Params) : PySem.Obj := (Obj.mk Value.none none (Data.func (PySem.FuncData.mk (Str.ofString "_get") (Str.ofString "SparseMerkleTree._get") fp_SparseMerkleTree__get (PySem.FuncBody.stmts fb_SparseMerkleTree__get) fs_SparseMerkleTree__get 0 [] Value.none Value.none Value.none Value.none none Value.none Value.none 0)) #[])
noncomputable def o_234 (P : PySem.Params) : PySem.Obj := (Obj.mk Value.none none (Data.fields #[(Value.int 83 0), (Value.int 4 0), (Value.ref 150), (Value.int 101 0), (Value.int 4 0), (Value.ref 158), (Value.int 104 0), (Value.int 4 0), (Value.ref 168), (Value.int 110 0), (Value.int 4 0), (Value.ref 175), (Value.int 116 0), (Value.int 4 0), (Value.ref 182), (Value.int 135 0), (Value.int 4 0), (Value.ref 189), (Value.int 158 0), (Value.int 4 0), (Value.ref 196), (Value.int 167 0), (Value.int 4 0), (Value.ref 203), (Value.int 172 0), (Value.int 4 0), (Value.ref 210), (Value.int 175 0), (Value.int 4 0), (Value.ref 217), (Value.int 178 0), (Value.int 4 0), (Value.ref 224), (Value.int 181 0), (Value.int 4 0), (Value.ref 231)]) #[])
noncomputable def o_298 (P : PySem.Params) : PySem.Obj := (Obj.mk (Value.type "tuple") none (Data.seq #[] 0) #[])
noncomputable def o_266 (P : PySem.Params) : PySem.Obj := (Obj.mk (Value.type "tuple") none (Data.seq #[] 0) #[])
noncomputable def o_330 (P : PySem.Params) : PySem.Obj := (Obj.mk (Value.type "getset_descriptor") none (Data.fields #[(Value.str (Str.ofString "__weakref__") 522), (Value.ref 235), (Value.builtin "ExceptionGroup.__weakref__"), Value.none]) #[])
noncomputable def o_250 (P : PySem.Params) : PySem.Obj := (Obj.mk Value.none none (Data.func (PySem.FuncData.mk (Str.ofString "from_db") (Str.ofString "SparseMerkleTree.from_db") fp_SparseMerkleTree_from_db (PySem.FuncBody.stmts fb_SparseMerkleTree_from_db) fs_SparseMerkleTree_from_db 0 [] Value.none Value.none Value.none Value.none none Value.none Value.none 0)) #[])
noncomputable def o_314 (P : PySem.Params) : PySem.Obj := (Obj.mk (Value.type "tuple") none (Data.seq #[(Value.str (Str.ofString "self") 500), (Value.str (Str.ofString "key") 501)] 0) #[])
noncomputable def o_282 (P : PySem.Params) : PySem.Obj := (Obj.mk (Value.type "code") none (Data.fields #[(Value.str (Str.ofString "set") 446), (Value.str (Str.ofString "SparseMerkleTree.set") 447), (Value.str (Str.ofString "/claim/cut.py") 448), (Value.int 135 0), (Value.int 3 0), (Value.int 0 0), (Value.int 0 0), (Value.int 3 0), (Value.ref 184), (Value.bool Bool.true), (Value.int 181 0), (Value.ref 185), Value.none, (Value.ref 186), (Value.ref 187), (Value.ref 188), (Value.int 461 0), (Value.int 135 0), (Value.str (Str.ofString "/claim/cut.py") 462)]) #[])
noncomputable def o_285 (P : PySem.Params) : PySem.Obj := (Obj.mk Value.none none (Data.fields #[]) #[])
noncomputable def o_253 (P : PySem.Params) : PySem.Obj := (Obj.mk (Value.type "dict") none (Data.dict #[(DictEntry.mk (PyData.keyHash P (Str.ofString "__module__")) (Value.str (Str.ofString "__module__") 398) (Value.str (Str.ofString "trie.smt") 259)), (DictEntry.mk (PyData.keyHash P (Str.ofString "__name__")) (Value.str (Str.ofString "__name__") 401) (Value.str (Str.ofString "from_db") 400)), (DictEntry.mk (PyData.keyHash P (Str.ofString "__qualname__")) (Value.str (Str.ofString "__qualname__") 404) (Value.str (Str.ofString "SparseMerkleTree.from_db") 403)), (DictEntry.mk (PyData.keyHash P (Str.ofString "__doc__")) (Value.str (Str.ofString "__doc__") 406) Value.none), (DictEntry.mk (PyData.keyHash P (Str.ofString "__annotations__")) (Value.str (Str.ofString "__annotations__") 408) (Value.ref 162))] 5) #[])
noncomputable def o_317 (P : PySem.Params) : PySem.Obj := (Obj.mk (Value.type "code") none (Data.fields #[(Value.str (Str.ofString "__delitem__") 497), (Value.str (Str.ofString "SparseMerkleTree.__delitem__") 498), (Value.str (Str.ofString "/claim/cut.py") 499), (Value.int 178 0), (Value.int 2 0), (Value.int 0 0), (Value.int 0 0), (Value.int 3 0), (Value.ref 219), (Value.bool Bool.true), (Value.int 181 0), (Value.ref 220), Value.none, (Value.ref 221), (Value.ref 222), (Value.ref 223), (Value.int 502 0), (Value.int 178 0), (Value.str (Str.ofString "/claim/cut.py") 503)]) #[])
noncomputable def o_237 (P : PySem.Params) : PySem.Obj := (Obj.mk (Value.type "tuple") none (Data.seq #[(Value.int 32 370), (Value.bytes #[] 218)] 0) #[])
noncomputable def o_301 (P : PySem.Params) : PySem.Obj := (Obj.mk (Value.type "tuple") none (Data.seq #[] 0) #[])
noncomputable def o_269 (P : PySem.Params) : PySem.Obj := (Obj.mk (Value.type "function") none (Data.func (PySem.FuncData.mk (Str.ofString "branch") (Str.ofString "SparseMerkleTree.branch") fp_SparseMerkleTree_branch (PySem.FuncBody.stmts fb_SparseMerkleTree_branch) fs_SparseMerkleTree_branch 3 [] Value.none Value.none Value.none (Value.str (Str.ofString "trie.smt") 259) none (Value.ref 175) Value.none 0)) #[])
noncomputable def o_293 (P : PySem.Params) : PySem.Obj := (Obj.mk (Value.type "tuple") none (Data.seq #[(Value.str (Str.ofString "self") 475), (Value.str (Str.ofString "key") 476)] 0) #[])
noncomputable def o_261 (P : PySem.Params) : PySem.Obj := (Obj.mk (Value.type "code") none (Data.fields #[(Value.str (Str.ofString "get") 410), (Value.str (Str.ofString "SparseMerkleTree.get") 411), (Value.str (Str.ofString "/claim/cut.py") 412), (Value.int 104 0), (Value.int 2 0), (Value.int 0 0), (Value.int 0 0), (Value.int 3 0), (Value.ref 163), (Value.bool Bool.true), (Value.int 181 0), (Value.ref 164), Value.none, (Value.ref 165), (Value.ref 166), (Value.ref 167), (Value.int 417 0), (Value.int 104 0), (Value.str (Str.ofString "/claim/cut.py") 418)]) #[])
noncomputable def o_325 (P : PySem.Params) : PySem.Obj := (Obj.mk (Value.type "function") none (Data.func (PySem.FuncData.mk (Str.ofString "__contains__") (Str.ofString "SparseMerkleTree.__contains__") fp_SparseMerkleTree___contains__ (PySem.FuncBody.stmts fb_SparseMerkleTree___contains__) fs_SparseMerkleTree___contains__ 3 [] Value.none Value.none Value.none (Value.str (Str.ofString "trie.smt") 259) none (Value.ref 231) Value.none 0)) #[])
noncomputable def o_245 (P : PySem.Params) : PySem.Obj := (Obj.mk (Value.type "tuple") none (Data.seq #[(Value.int 32 385), (Value.bytes #[] 218)] 0) #[])
noncomputable def o_309 (P : PySem.Params) : PySem.Obj := (Obj.mk Value.none none (Data.func (PySem.FuncData.mk (Str.ofString "__setitem__") (Str.ofString "SparseMerkleTree.__setitem__") fp_SparseMerkleTree___setitem__ (PySem.FuncBody.stmts fb_SparseMerkleTree___setitem__) fs_SparseMerkleTree___setitem__ 0 [] Value.none Value.none Value.none Value.none none Value.none Value.none 0)) #[])
noncomputable def o_277 (P : PySem.Params) : PySem.Obj := (Obj.mk (Value.type "tuple") none (Data.seq #[] 0) #[])
noncomputable def o_229 (P : PySem.Params) : PySem.Obj := (Obj.mk Value.none none (Data.fields #[(Value.int 1 0), (Value.int 0 0), (Value.ref 20), (Value.int 5 0), (Value.int 0 0), (Value.ref 27), (Value.int 7 0), (Value.int 0 0), (Value.ref 34), (Value.int 9 0), (Value.int 0 0), (Value.ref 41), (Value.int 13 0), (Value.int 0 0), (Value.ref 48), (Value.int 16 0), (Value.int 0 0), (Value.ref 61), (Value.int 19 0), (Value.int 0 0), (Value.ref 68), (Value.int 23 0), (Value.int 0 0), (Value.ref 75), (Value.int 38 0), (Value.int 0 0), (Value.ref 82), (Value.int 81 0), (Value.int 0 0), (Value.ref 142)]) #[])
noncomputable def o_289 (P : PySem.Params) : PySem.Obj := (Obj.mk (Value.type "code") none (Data.fields #[(Value.str (Str.ofString "exists") 464), (Value.str (Str.ofString "SparseMerkleTree.exists") 465), (Value.str (Str.ofString "/claim/cut.py") 466), (Value.int 158 0), (Value.int 2 0), (Value.int 0 0), (Value.int 0 0), (Value.int 3 0), (Value.ref 191), (Value.bool Bool.true), (Value.int 181 0), (Value.ref 192), Value.none, (Value.ref 193), (Value.ref 194), (Value.ref 195), (Value.int 469 0), (Value.int 158 0), (Value.str (Str.ofString "/claim/cut.py") 470)]) #[])
noncomputable def o_257 (P : PySem.Params) : PySem.Obj := (Obj.mk Value.none none (Data.fields #[]) #[])
noncomputable def o_321 (P : PySem.Params) : PySem.Obj := (Obj.mk (Value.type "tuple") none (Data.seq #[(Value.str (Str.ofString "self") 508), (Value.str (Str.ofString "key") 509)] 0) #[])
noncomputable def o_241 (P : PySem.Params) : PySem.Obj := (Obj.mk (Value.type "tuple") none (Data.seq #[] 0) #[])
noncomputable def o_305 (P : PySem.Params) : PySem.Obj := (Obj.mk (Value.type "tuple") none (Data.seq #[] 0) #[])
noncomputable def o_273 (P : PySem.Params) : PySem.Obj := (Obj.mk (Value.type "tuple") none (Data.seq #[] 0) #[])
noncomputable def o_233 (P : PySem.Params) : PySem.Obj := (Obj.mk (Value.type "tuple") none (Data.seq #[] 0) #[])
noncomputable def o_297 (P : PySem.Params) : PySem.Obj := (Obj.mk (Value.type "function") none (Data.func (PySem.FuncData.mk (Str.ofString "delete") (Str.ofString "SparseMerkleTree.delete") fp_SparseMerkleTree_delete (PySem.FuncBody.stmts fb_SparseMerkleTree_delete) fs_SparseMerkleTree_delete 3 [] Value.none Value.none Value.none (Value.str (Str.ofString "trie.smt") 259) none (Value.ref 203) Value.none 0)) #[])
noncomputable def o_265 (P : PySem.Params) : PySem.Obj := (Obj.mk (Value.type "tuple") none (Data.seq #[(Value.str (Str.ofString "self") 423), (Value.str (Str.ofString "key") 424), (Value.str (Str.ofString "value") 425), (Value.str (Str.ofString "branch") 426)] 0) #[])
noncomputable def o_329 (P : PySem.Params) : PySem.Obj := (Obj.mk (Value.type "getset_descriptor") none (Data.fields #[(Value.str (Str.ofString "__dict__") 520), (Value.ref 235), (Value.builtin "function.__dict__"), (Value.builtin "function.__dict__#set")]) #[])
noncomputable def o_249 (P : PySem.Params) : PySem.Obj := (Obj.mk (Value.type "tuple") none (Data.seq #[] 0) #[])
noncomputable def o_313 (P : PySem.Params) : PySem.Obj := (Obj.mk Value.none none (Data.fields #[]) #[])
noncomputable def o_281 (P : PySem.Params) : PySem.Obj := (Obj.mk Value.none none (Data.func (PySem.FuncData.mk (Str.ofString "set") (Str.ofString "SparseMerkleTree.set") fp_SparseMerkleTree_set (PySem.FuncBody.stmts fb_SparseMerkleTree_set) fs_SparseMerkleTree_set 0 [] Value.none Value.none Value.none Value.none none Value.none Value.none 0)) #[])
noncomputable def o_287 (P : PySem.Params) : PySem.Obj := (Obj.mk (Value.type "tuple") none (Data.seq #[] 0) #[])
noncomputable def o_255 (P : PySem.Params) : PySem.Obj := (Obj.mk (Value.type "dict") none (Data.dict #[] 0) #[])
noncomputable def o_319 (P : PySem.Params) : PySem.Obj := (Obj.mk (Value.type "tuple") none (Data.seq #[] 0) #[])
noncomputable def o_239 (P : PySem.Params) : PySem.Obj := (Obj.mk Value.none none (Data.fields #[]) #[])
noncomputable def o_303 (P : PySem.Params) : PySem.Obj := (Obj.mk (Value.type "code") none (Data.fields #[(Value.str (Str.ofString "__getitem__") 480), (Value.str (Str.ofString "SparseMerkleTree.__getitem__") 481), (Value.str (Str.ofString "/claim/cut.py") 482), (Value.int 172 0), (Value.int 2 0), (Value.int 0 0), (Value.int 0 0), (Value.int 3 0), (Value.ref 205), (Value.bool Bool.true), (Value.int 181 0), (Value.ref 206), Value.none, (Value.ref 207), (Value.ref 208), (Value.ref 209), (Value.int 485 0), (Value.int 172 0), (Value.str (Str.ofString "/claim/cut.py") 486)]) #[])
noncomputable def o_271 (P : PySem.Params) : PySem.Obj := (Obj.mk Value.none none (Data.fields #[]) #[])
noncomputable def o_231 (P : PySem.Params) : PySem.Obj := (Obj.mk (Value.type "builtin_function_or_method") none (Data.fields #[(Value.builtin "type.__prepare__"), (Value.type "type")]) #[])
noncomputable def o_295 (P : PySem.Params) : PySem.Obj := (Obj.mk Value.none none (Data.func (PySem.FuncData.mk (Str.ofString "delete") (Str.ofString "SparseMerkleTree.delete") fp_SparseMerkleTree_delete (PySem.FuncBody.stmts fb_SparseMerkleTree_delete) fs_SparseMerkleTree_delete 0 [] Value.none Value.none Value.none Value.none none Value.none Value.none 0)) #[])
noncomputable def o_263 (P : PySem.Params) : PySem.Obj := (Obj.mk (Value.type "tuple") none (Data.seq #[] 0) #[])
noncomputable def o_327 (P : PySem.Params) : PySem.Obj := (Obj.mk (Value.type "dict") none (Data.dict #[(DictEntry.mk (PyData.keyHash P (Str.ofString "__module__")) (Value.str (Str.ofString "__module__") 365) (Value.str (Str.ofString "trie.smt") 259)), (DictEntry.mk (PyData.keyHash P (Str.ofString "__firstlineno__")) (Value.str (Str.ofString "__firstlineno__") 369) (Value.int 81 368)), (DictEntry.mk (PyData.keyHash P (Str.ofString "__init__")) (Value.str (Str.ofString "__init__") 384) (Value.ref 151)), (DictEntry.mk (PyData.keyHash P (Str.ofString "from_db")) (Value.str (Str.ofString "from_db") 409) (Value.ref 161)), (DictEntry.mk (PyData.keyHash P (Str.ofString "get")) (Value.str (Str.ofString "get") 419) (Value.ref 169)), (DictEntry.mk (PyData.keyHash P (Str.ofString "branch")) (Value.str (Str.ofString "branch") 429) (Value.ref 176)), (DictEntry.mk (PyData.keyHash P (Str.ofString "_get")) (Value.str (Str.ofString "_get") 445) (Value.ref 183)), (DictEntry.mk (PyData.keyHash P (Str.ofString "set")) (Value.str (Str.ofString "set") 463) (Value.ref 190)), (DictEntry.mk (PyData.keyHash P (Str.ofString "exists")) (Value.str (Str.ofString "exists") 471) (Value.ref 197)), (DictEntry.mk (PyData.keyHash P (Str.ofString "delete")) (Value.str (Str.ofString "delete") 479) (Value.ref 204)), (DictEntry.mk (PyData.keyHash P (Str.ofString "__getitem__")) (Value.str (Str.ofString "__getitem__") 487) (Value.ref 211)), (DictEntry.mk (PyData.keyHash P (Str.ofString "__setitem__")) (Value.str (Str.ofString "__setitem__") 496) (Value.ref 218)), (DictEntry.mk (PyData.keyHash P (Str.ofString "__delitem__")) (Value.str (Str.ofString "__delitem__") 504) (Value.ref 225)), (DictEntry.mk (PyData.keyHash P (Str.ofString "__contains__")) (Value.str (Str.ofString "__contains__") 512) (Value.ref 232)), (DictEntry.mk (PyData.keyHash P (Str.ofString "__static_attributes__")) (Value.str (Str.ofString "__static_attributes__") 519) (Value.ref 233)), (DictEntry.mk (PyData.keyHash P (Str.ofString "__dict__")) (Value.str (Str.ofString "__dict__") 521) (Value.ref 236)), (DictEntry.mk (PyData.keyHash P (Str.ofString "__weakref__")) (Value.str (Str.ofString "__weakref__") 523) (Value.ref 237)), (DictEntry.mk (PyData.keyHash P (Str.ofString "__doc__")) (Value.str (Str.ofString "__doc__") 524) Value.none)] 4) #[])
noncomputable def o_247 (P : PySem.Params) : PySem.Obj := (Obj.mk Value.none none (Data.fields #[]) #[])
noncomputable def o_311 (P : PySem.Params) : PySem.Obj := (Obj.mk (Value.type "function") none (Data.func (PySem.FuncData.mk (Str.ofString "__setitem__") (Str.ofString "SparseMerkleTree.__setitem__") fp_SparseMerkleTree___setitem__ (PySem.FuncBody.stmts fb_SparseMerkleTree___setitem__) fs_SparseMerkleTree___setitem__ 3 [] Value.none Value.none Value.none (Value.str (Str.ofString "trie.smt") 259) none (Value.ref 217) Value.none 0)) #[])
noncomputable def o_279 (P : PySem.Params) : PySem.Obj := (Obj.mk (Value.type "tuple") none (Data.seq #[(Value.str (Str.ofString "self") 449), (Value.str (Str.ofString "key") 450), (Value.str (Str.ofString "value") 451), (Value.str (Str.ofString "keccak") 452), (Value.str (Str.ofString "path") 453), (Value.str (Str.ofString "node") 454), (Value.str (Str.ofString "_") 455), (Value.str (Str.ofString "branch") 456), (Value.str (Str.ofString "proof_update") 457), (Value.str (Str.ofString "target_bit") 458), (Value.str (Str.ofString "sibling_node") 459), (Value.str (Str.ofString "node_hash") 460)] 0) #[])
noncomputable def o_291 (P : PySem.Params) : PySem.Obj := (Obj.mk (Value.type "tuple") none (Data.seq #[] 0) #[])
noncomputable def o_259 (P : PySem.Params) : PySem.Obj := (Obj.mk (Value.type "tuple") none (Data.seq #[] 0) #[])
noncomputable def o_323 (P : PySem.Params) : PySem.Obj := (Obj.mk Value.none none (Data.func (PySem.FuncData.mk (Str.ofString "__contains__") (Str.ofString "SparseMerkleTree.__contains__") fp_SparseMerkleTree___contains__ (PySem.FuncBody.stmts fb_SparseMerkleTree___contains__) fs_SparseMerkleTree___contains__ 0 [] Value.none Value.none Value.none Value.none none Value.none Value.none 0)) #[])
noncomputable def o_243 (P : PySem.Params) : PySem.Obj := (Obj.mk (Value.type "code") none (Data.fields #[(Value.str (Str.ofString "__init__") 371), (Value.str (Str.ofString "SparseMerkleTree.__init__") 372), (Value.str (Str.ofString "/claim/cut.py") 373), (Value.int 83 0), (Value.int 4 0), (Value.int 0 0), (Value.int 0 0), (Value.int 3 0), (Value.ref 145), (Value.bool Bool.true), (Value.int 181 0), (Value.ref 146), Value.none, (Value.ref 147), (Value.ref 148), (Value.ref 149), (Value.int 382 0), (Value.int 83 0), (Value.str (Str.ofString "/claim/cut.py") 383)]) #[])
noncomputable def o_307 (P : PySem.Params) : PySem.Obj := (Obj.mk (Value.type "tuple") none (Data.seq #[(Value.str (Str.ofString "self") 491), (Value.str (Str.ofString "key") 492), (Value.str (Str.ofString "value") 493)] 0) #[])
noncomputable def o_275 (P : PySem.Params) : PySem.Obj := (Obj.mk (Value.type "code") none (Data.fields #[(Value.str (Str.ofString "_get") 430), (Value.str (Str.ofString "SparseMerkleTree._get") 431), (Value.str (Str.ofString "/claim/cut.py") 432), (Value.int 116 0), (Value.int 2 0), (Value.int 0 0), (Value.int 0 0), (Value.int 3 0), (Value.ref 177), (Value.bool Bool.true), (Value.int 181 0), (Value.ref 178), Value.none, (Value.ref 179), (Value.ref 180), (Value.ref 181), (Value.int 443 0), (Value.int 116 0), (Value.str (Str.ofString "/claim/cut.py") 444)]) #[])
noncomputable def o_235 (P : PySem.Params) : PySem.Obj := (Obj.mk (Value.type "code") none (Data.fields #[(Value.str (Str.ofString "SparseMerkleTree") 360), (Value.str (Str.ofString "SparseMerkleTree") 361), (Value.str (Str.ofString "/claim/cut.py") 362), (Value.int 81 0), (Value.int 0 0), (Value.int 0 0), (Value.int 0 0), (Value.int 0 0), (Value.ref 140), (Value.bool Bool.false), (Value.int 181 0), (Value.ref 141), Value.none, Value.none, Value.none, Value.none, (Value.int 363 0), (Value.int 81 0), (Value.str (Str.ofString "/claim/cut.py") 364)]) #[])
noncomputable def o_299 (P : PySem.Params) : PySem.Obj := (Obj.mk Value.none none (Data.fields #[]) #[])
noncomputable def o_267 (P : PySem.Params) : PySem.Obj := (Obj.mk Value.none none (Data.func (PySem.FuncData.mk (Str.ofString "branch") (Str.ofString "SparseMerkleTree.branch") fp_SparseMerkleTree_branch (PySem.FuncBody.stmts fb_SparseMerkleTree_branch) fs_SparseMerkleTree_branch 0 [] Value.none Value.none Value.none Value.none none Value.none Value.none 0)) #[])
noncomputable def o_331 (P : PySem.Params) : PySem.Obj := (Obj.mk (Value.type "super") none (Data.fields #[(Value.ref 235), (Value.ref 235), (Value.ref 235)]) #[])
noncomputable def o_251 (P : PySem.Params) : PySem.Obj := (Obj.mk (Value.type "code") none (Data.fields #[(Value.str (Str.ofString "from_db") 386), (Value.str (Str.ofString "SparseMerkleTree.from_db") 387), (Value.str (Str.ofString "/claim/cut.py") 388), (Value.int 100 0), (Value.int 6 0), (Value.int 0 0), (Value.int 0 0), (Value.int 3 0), (Value.ref 153), (Value.bool Bool.true), (Value.int 181 0), (Value.ref 154), Value.none, (Value.ref 155), (Value.ref 156), (Value.ref 157), (Value.int 395 0), (Value.int 100 0), (Value.str (Str.ofString "/claim/cut.py") 396)]) #[])
noncomputable def o_315 (P : PySem.Params) : PySem.Obj := (Obj.mk (Value.type "tuple") none (Data.seq #[] 0) #[])
noncomputable def o_283 (P : PySem.Params) : PySem.Obj := (Obj.mk (Value.type "function") none (Data.func (PySem.FuncData.mk (Str.ofString "set") (Str.ofString "SparseMerkleTree.set") fp_SparseMerkleTree_set (PySem.FuncBody.stmts fb_SparseMerkleTree_set) fs_SparseMerkleTree_set 3 [] Value.none Value.none Value.none (Value.str (Str.ofString "trie.smt") 259) none (Value.ref 189) Value.none 0)) #[])
noncomputable def o_386 (P : PySem.Params) : PySem.Obj := (Obj.mk (Value.type "dict") none (Data.dict #[(DictEntry.mk (PyData.keyHash P (Str.ofString "__name__")) (Value.str (Str.ofString "__name__") 165) (Value.str (Str.ofString "law_bc0032_01") 527)), (DictEntry.mk (PyData.keyHash P (Str.ofString "__doc__")) (Value.str (Str.ofString "__doc__") 166) Value.none), (DictEntry.mk (PyData.keyHash P (Str.ofString "__package__")) (Value.str (Str.ofString "__package__") 167) Value.none), (DictEntry.mk (PyData.keyHash P (Str.ofString "__loader__")) (Value.str (Str.ofString "__loader__") 168) (Value.builtin "__main__.__loader__#opaque")), (DictEntry.mk (PyData.keyHash P (Str.ofString "__spec__")) (Value.str (Str.ofString "__spec__") 169) Value.none), (DictEntry.mk (PyData.keyHash P (Str.ofString "__annotations__")) (Value.str (Str.ofString "__annotations__") 170) (Value.ref 6)), (DictEntry.mk (PyData.keyHash P (Str.ofString "__builtins__")) (Value.str (Str.ofString "__builtins__") 171) (Value.ref 4)), (DictEntry.mk (PyData.keyHash P (Str.ofString "__file__")) (Value.str (Str.ofString "__file__") 173) (Value.str (Str.ofString "/claim/cut.py") 172)), (DictEntry.mk (PyData.keyHash P (Str.ofString "__cached__")) (Value.str (Str.ofString "__cached__") 174) Value.none), (DictEntry.mk (PyData.keyHash P (Str.ofString "_wall")) (Value.str (Str.ofString "_wall") 193) (Value.ref 21)), (DictEntry.mk (PyData.keyHash P (Str.ofString "Hash32")) (Value.str (Str.ofString "Hash32") 202) (Value.ref 28)), (DictEntry.mk (PyData.keyHash P (Str.ofString "cast")) (Value.str (Str.ofString "cast") 210) (Value.ref 35)), (DictEntry.mk (PyData.keyHash P (Str.ofString "to_int")) (Value.str (Str.ofString "to_int") 217) (Value.ref 42)), (DictEntry.mk (PyData.keyHash P (Str.ofString "BLANK_NODE")) (Value.str (Str.ofString "BLANK_NODE") 219) (Value.bytes #[] 218)), (DictEntry.mk (PyData.keyHash P (Str.ofString "ValidationError")) (Value.str (Str.ofString "ValidationError") 241) (Value.ref 52)), (DictEntry.mk (PyData.keyHash P (Str.ofString "validate_is_bytes")) (Value.str (Str.ofString "validate_is_bytes") 250) (Value.ref 62)), (DictEntry.mk (PyData.keyHash P (Str.ofString "validate_length")) (Value.str (Str.ofString "validate_length") 258) (Value.ref 69)), (DictEntry.mk (PyData.keyHash P (Str.ofString "calc_root")) (Value.str (Str.ofString "calc_root") 275) (Value.ref 76)), (DictEntry.mk (PyData.keyHash P (Str.ofString "SparseMerkleProof")) (Value.str (Str.ofString "SparseMerkleProof") 357) (Value.ref 132)), (DictEntry.mk (PyData.keyHash P (Str.ofString "SparseMerkleTree")) (Value.str (Str.ofString "SparseMerkleTree") 526) (Value.ref 235)), (DictEntry.mk (PyData.keyHash P (Str.ofString "_law_keys")) (Value.str (Str.ofString "_law_keys") 534) (Value.ref 246)), (DictEntry.mk (PyData.keyHash P (Str.ofString "_law_defaults")) (Value.str (Str.ofString "_law_defaults") 540) (Value.ref 253)), (DictEntry.mk (PyData.keyHash P (Str.ofString "_law_deed")) (Value.str (Str.ofString "_law_deed") 551) (Value.ref 260)), (DictEntry.mk (PyData.keyHash P (Str.ofString "law")) (Value.str (Str.ofString "law") 557) (Value.ref 265))] 24) #[])
noncomputable def o_403 (P : PySem.Params) : PySem.Obj := (Obj.mk Value.none none (Data.fields #[]) #[])
noncomputable def o_411 (P : PySem.Params) : PySem.Obj := (Obj.mk Value.none none (Data.func (PySem.FuncData.mk (Str.ofString "law") (Str.ofString "law") fp_law (PySem.FuncBody.stmts fb_law) fs_law 0 [] Value.none Value.none Value.none Value.none none Value.none Value.none 0)) #[])
noncomputable def o_395 (P : PySem.Params) : PySem.Obj := (Obj.mk (Value.type "tuple") none (Data.seq #[] 0) #[])
noncomputable def o_407 (P : PySem.Params) : PySem.Obj := (Obj.mk (Value.type "code") none (Data.fields #[(Value.str (Str.ofString "_law_deed") 541), (Value.str (Str.ofString "_law_deed") 542), (Value.str (Str.ofString "/claim/cut.py") 543), (Value.int 188 0), (Value.int 3 0), (Value.int 0 0), (Value.int 0 0), (Value.int 3 0), (Value.ref 254), (Value.bool Bool.true), (Value.int 181 0), (Value.ref 255), Value.none, (Value.ref 256), (Value.ref 257), (Value.ref 258), (Value.int 549 0), (Value.int 188 0), (Value.str (Str.ofString "/claim/cut.py") 550)]) #[])
noncomputable def o_391 (P : PySem.Params) : PySem.Obj := (Obj.mk (Value.type "tuple") none (Data.seq #[] 0) #[])
noncomputable def o_399 (P : PySem.Params) : PySem.Obj := (Obj.mk Value.none none (Data.func (PySem.FuncData.mk (Str.ofString "_law_defaults") (Str.ofString "_law_defaults") fp__law_defaults (PySem.FuncBody.stmts fb__law_defaults) fs__law_defaults 0 [] Value.none Value.none Value.none Value.none none Value.none Value.none 0)) #[])
noncomputable def o_405 (P : PySem.Params) : PySem.Obj := (Obj.mk (Value.type "tuple") none (Data.seq #[] 0) #[])
noncomputable def o_389 (P : PySem.Params) : PySem.Obj := (Obj.mk Value.none none (Data.fields #[]) #[])
noncomputable def o_413 (P : PySem.Params) : PySem.Obj := (Obj.mk (Value.type "function") none (Data.func (PySem.FuncData.mk (Str.ofString "law") (Str.ofString "law") fp_law (PySem.FuncBody.stmts fb_law) fs_law 3 [] Value.none Value.none Value.none (Value.str (Str.ofString "law_bc0032_01") 527) none (Value.ref 264) Value.none 0)) #[])
noncomputable def o_397 (P : PySem.Params) : PySem.Obj := (Obj.mk (Value.type "tuple") none (Data.seq #[] 0) #[])
noncomputable def o_409 (P : PySem.Params) : PySem.Obj := (Obj.mk (Value.type "tuple") none (Data.seq #[] 0) #[])
noncomputable def o_393 (P : PySem.Params) : PySem.Obj := (Obj.mk (Value.type "code") none (Data.fields #[(Value.str (Str.ofString "_law_keys") 529), (Value.str (Str.ofString "_law_keys") 530), (Value.str (Str.ofString "/claim/cut.py") 531), (Value.int 184 0), (Value.int 0 0), (Value.int 0 0), (Value.int 0 0), (Value.int 3 0), (Value.ref 240), (Value.bool Bool.true), (Value.int 181 0), (Value.ref 241), Value.none, (Value.ref 242), (Value.ref 243), (Value.ref 244), (Value.int 532 0), (Value.int 184 0), (Value.str (Str.ofString "/claim/cut.py") 533)]) #[])
noncomputable def o_401 (P : PySem.Params) : PySem.Obj := (Obj.mk (Value.type "function") none (Data.func (PySem.FuncData.mk (Str.ofString "_law_defaults") (Str.ofString "_law_defaults") fp__law_defaults (PySem.FuncBody.stmts fb__law_defaults) fs__law_defaults 3 [] Value.none Value.none Value.none (Value.str (Str.ofString "law_bc0032_01") 527) none (Value.ref 252) Value.none 0)) #[])
noncomputable def o_404 (P : PySem.Params) : PySem.Obj := (Obj.mk (Value.type "tuple") none (Data.seq #[(Value.str (Str.ofString "tree") 544), (Value.str (Str.ofString "plain") 545), (Value.str (Str.ofString "cell") 546), (Value.str (Str.ofString "number") 547), (Value.str (Str.ofString "value") 548)] 0) #[])
noncomputable def o_388 (P : PySem.Params) : PySem.Obj := (Obj.mk (Value.type "tuple") none (Data.seq #[] 0) #[])
noncomputable def o_412 (P : PySem.Params) : PySem.Obj := (Obj.mk (Value.type "code") none (Data.fields #[(Value.str (Str.ofString "law") 552), (Value.str (Str.ofString "law") 553), (Value.str (Str.ofString "/claim/cut.py") 554), (Value.int 196 0), (Value.int 1 0), (Value.int 0 0), (Value.int 0 0), (Value.int 3 0), (Value.ref 261), (Value.bool Bool.true), (Value.int 181 0), (Value.ref 262), Value.none, Value.none, Value.none, (Value.ref 263), (Value.int 555 0), (Value.int 196 0), (Value.str (Str.ofString "/claim/cut.py") 556)]) #[])
noncomputable def o_396 (P : PySem.Params) : PySem.Obj := (Obj.mk Value.none none (Data.fields #[]) #[])
noncomputable def o_387 (P : PySem.Params) : PySem.Obj := (Obj.mk Value.none none (Data.fields #[(Value.int 1 0), (Value.int 0 0), (Value.ref 20), (Value.int 5 0), (Value.int 0 0), (Value.ref 27), (Value.int 7 0), (Value.int 0 0), (Value.ref 34), (Value.int 9 0), (Value.int 0 0), (Value.ref 41), (Value.int 13 0), (Value.int 0 0), (Value.ref 48), (Value.int 16 0), (Value.int 0 0), (Value.ref 61), (Value.int 19 0), (Value.int 0 0), (Value.ref 68), (Value.int 23 0), (Value.int 0 0), (Value.ref 75), (Value.int 38 0), (Value.int 0 0), (Value.ref 82), (Value.int 81 0), (Value.int 0 0), (Value.ref 142), (Value.int 184 0), (Value.int 0 0), (Value.ref 245), (Value.int 186 0), (Value.int 0 0), (Value.ref 252), (Value.int 188 0), (Value.int 0 0), (Value.ref 259), (Value.int 196 0), (Value.int 0 0), (Value.ref 264)]) #[])
noncomputable def o_408 (P : PySem.Params) : PySem.Obj := (Obj.mk (Value.type "function") none (Data.func (PySem.FuncData.mk (Str.ofString "_law_deed") (Str.ofString "_law_deed") fp__law_deed (PySem.FuncBody.stmts fb__law_deed) fs__law_deed 3 [] Value.none Value.none Value.none (Value.str (Str.ofString "law_bc0032_01") 527) none (Value.ref 259) Value.none 0)) #[])
noncomputable def o_392 (P : PySem.Params) : PySem.Obj := (Obj.mk Value.none none (Data.func (PySem.FuncData.mk (Str.ofString "_law_keys") (Str.ofString "_law_keys") fp__law_keys (PySem.FuncBody.stmts fb__law_keys) fs__law_keys 0 [] Value.none Value.none Value.none Value.none none Value.none Value.none 0)) #[])
noncomputable def o_400 (P : PySem.Params) : PySem.Obj := (Obj.mk (Value.type "code") none (Data.fields #[(Value.str (Str.ofString "_law_defaults") 535), (Value.str (Str.ofString "_law_defaults") 536), (Value.str (Str.ofString "/claim/cut.py") 537), (Value.int 186 0), (Value.int 0 0), (Value.int 0 0), (Value.int 0 0), (Value.int 3 0), (Value.ref 247), (Value.bool Bool.true), (Value.int 181 0), (Value.ref 248), Value.none, (Value.ref 249), (Value.ref 250), (Value.ref 251), (Value.int 538 0), (Value.int 186 0), (Value.str (Str.ofString "/claim/cut.py") 539)]) #[])
noncomputable def o_406 (P : PySem.Params) : PySem.Obj := (Obj.mk Value.none none (Data.func (PySem.FuncData.mk (Str.ofString "_law_deed") (Str.ofString "_law_deed") fp__law_deed (PySem.FuncBody.stmts fb__law_deed) fs__law_deed 0 [] Value.none Value.none Value.none Value.none none Value.none Value.none 0)) #[])
noncomputable def o_390 (P : PySem.Params) : PySem.Obj := (Obj.mk (Value.type "tuple") none (Data.seq #[] 0) #[])
noncomputable def o_398 (P : PySem.Params) : PySem.Obj := (Obj.mk (Value.type "tuple") none (Data.seq #[] 0) #[])
noncomputable def o_410 (P : PySem.Params) : PySem.Obj := (Obj.mk Value.none none (Data.fields #[]) #[])
noncomputable def o_394 (P : PySem.Params) : PySem.Obj := (Obj.mk (Value.type "function") none (Data.func (PySem.FuncData.mk (Str.ofString "_law_keys") (Str.ofString "_law_keys") fp__law_keys (PySem.FuncBody.stmts fb__law_keys) fs__law_keys 3 [] Value.none Value.none Value.none (Value.str (Str.ofString "law_bc0032_01") 527) none (Value.ref 245) Value.none 0)) #[])
noncomputable def o_402 (P : PySem.Params) : PySem.Obj := (Obj.mk (Value.type "tuple") none (Data.seq #[] 0) #[])
noncomputable def tree_47 (P : PySem.Params) : PySem.W.BT := (BT.node (boot_o_0 P) (BT.node (boot_o_1 P) (BT.node (boot_o_3 P) (BT.node (boot_o_7 P) BT.nil BT.nil) (BT.node (o_43 P) BT.nil BT.nil)) (BT.node (boot_o_5 P) (BT.node (boot_o_9 P) BT.nil BT.nil) (BT.node (o_45 P) BT.nil BT.nil))) (BT.node (boot_o_2 P) (BT.node (boot_o_4 P) (BT.node (boot_o_8 P) BT.nil BT.nil) (BT.node (o_44 P) BT.nil BT.nil)) (BT.node (boot_o_6 P) (BT.node (boot_o_10 P) BT.nil BT.nil) (BT.node (o_46 P) BT.nil BT.nil))))
noncomputable def tree_99 (P : PySem.Params) : PySem.W.BT := (BT.node (boot_o_0 P) (BT.node (boot_o_1 P) (BT.node (o_50 P) (BT.node (boot_o_7 P) (BT.node (o_52 P) (BT.node (o_68 P) BT.nil BT.nil) (BT.node (o_84 P) BT.nil BT.nil)) (BT.node (o_60 P) (BT.node (o_76 P) BT.nil BT.nil) (BT.node (o_92 P) BT.nil BT.nil))) (BT.node (o_43 P) (BT.node (o_56 P) (BT.node (o_72 P) BT.nil BT.nil) (BT.node (o_88 P) BT.nil BT.nil)) (BT.node (o_64 P) (BT.node (o_80 P) BT.nil BT.nil) (BT.node (o_96 P) BT.nil BT.nil)))) (BT.node (boot_o_5 P) (BT.node (boot_o_9 P) (BT.node (o_54 P) (BT.node (o_70 P) BT.nil BT.nil) (BT.node (o_86 P) BT.nil BT.nil)) (BT.node (o_62 P) (BT.node (o_78 P) BT.nil BT.nil) (BT.node (o_94 P) BT.nil BT.nil))) (BT.node (o_45 P) (BT.node (o_58 P) (BT.node (o_74 P) BT.nil BT.nil) (BT.node (o_90 P) BT.nil BT.nil)) (BT.node (o_66 P) (BT.node (o_82 P) BT.nil BT.nil) (BT.node (o_98 P) BT.nil BT.nil))))) (BT.node (o_49 P) (BT.node (boot_o_4 P) (BT.node (boot_o_8 P) (BT.node (o_53 P) (BT.node (o_69 P) BT.nil BT.nil) (BT.node (o_85 P) BT.nil BT.nil)) (BT.node (o_61 P) (BT.node (o_77 P) BT.nil BT.nil) (BT.node (o_93 P) BT.nil BT.nil))) (BT.node (o_51 P) (BT.node (o_57 P) (BT.node (o_73 P) BT.nil BT.nil) (BT.node (o_89 P) BT.nil BT.nil)) (BT.node (o_65 P) (BT.node (o_81 P) BT.nil BT.nil) (BT.node (o_97 P) BT.nil BT.nil)))) (BT.node (boot_o_6 P) (BT.node (boot_o_10 P) (BT.node (o_55 P) (BT.node (o_71 P) BT.nil BT.nil) (BT.node (o_87 P) BT.nil BT.nil)) (BT.node (o_63 P) (BT.node (o_79 P) BT.nil BT.nil) (BT.node (o_95 P) BT.nil BT.nil))) (BT.node (o_46 P) (BT.node (o_59 P) (BT.node (o_75 P) BT.nil BT.nil) (BT.node (o_91 P) BT.nil BT.nil)) (BT.node (o_67 P) (BT.node (o_83 P) BT.nil BT.nil) (BT.node (o_99 P) BT.nil BT.nil))))))
noncomputable def tree_115 (P : PySem.Params) : PySem.W.BT := (BT.node (boot_o_0 P) (BT.node (boot_o_1 P) (BT.node (o_100 P) (BT.node (boot_o_7 P) (BT.node (o_52 P) (BT.node (o_68 P) (BT.node (o_102 P) BT.nil BT.nil) BT.nil) (BT.node (o_84 P) BT.nil BT.nil)) (BT.node (o_60 P) (BT.node (o_76 P) (BT.node (o_110 P) BT.nil BT.nil) BT.nil) (BT.node (o_92 P) BT.nil BT.nil))) (BT.node (o_43 P) (BT.node (o_56 P) (BT.node (o_72 P) (BT.node (o_106 P) BT.nil BT.nil) BT.nil) (BT.node (o_88 P) BT.nil BT.nil)) (BT.node (o_64 P) (BT.node (o_80 P) (BT.node (o_114 P) BT.nil BT.nil) BT.nil) (BT.node (o_96 P) BT.nil BT.nil)))) (BT.node (boot_o_5 P) (BT.node (boot_o_9 P) (BT.node (o_54 P) (BT.node (o_70 P) (BT.node (o_104 P) BT.nil BT.nil) BT.nil) (BT.node (o_86 P) BT.nil BT.nil)) (BT.node (o_62 P) (BT.node (o_78 P) (BT.node (o_112 P) BT.nil BT.nil) BT.nil) (BT.node (o_94 P) BT.nil BT.nil))) (BT.node (o_45 P) (BT.node (o_58 P) (BT.node (o_74 P) (BT.node (o_108 P) BT.nil BT.nil) BT.nil) (BT.node (o_90 P) BT.nil BT.nil)) (BT.node (o_66 P) (BT.node (o_82 P) BT.nil BT.nil) (BT.node (o_98 P) BT.nil BT.nil))))) (BT.node (o_49 P) (BT.node (boot_o_4 P) (BT.node (boot_o_8 P) (BT.node (o_53 P) (BT.node (o_69 P) (BT.node (o_103 P) BT.nil BT.nil) BT.nil) (BT.node (o_85 P) BT.nil BT.nil)) (BT.node (o_61 P) (BT.node (o_77 P) (BT.node (o_111 P) BT.nil BT.nil) BT.nil) (BT.node (o_93 P) BT.nil BT.nil))) (BT.node (o_101 P) (BT.node (o_57 P) (BT.node (o_73 P) (BT.node (o_107 P) BT.nil BT.nil) BT.nil) (BT.node (o_89 P) BT.nil BT.nil)) (BT.node (o_65 P) (BT.node (o_81 P) (BT.node (o_115 P) BT.nil BT.nil) BT.nil) (BT.node (o_97 P) BT.nil BT.nil)))) (BT.node (boot_o_6 P) (BT.node (boot_o_10 P) (BT.node (o_55 P) (BT.node (o_71 P) (BT.node (o_105 P) BT.nil BT.nil) BT.nil) (BT.node (o_87 P) BT.nil BT.nil)) (BT.node (o_63 P) (BT.node (o_79 P) (BT.node (o_113 P) BT.nil BT.nil) BT.nil) (BT.node (o_95 P) BT.nil BT.nil))) (BT.node (o_46 P) (BT.node (o_59 P) (BT.node (o_75 P) (BT.node (o_109 P) BT.nil BT.nil) BT.nil) (BT.node (o_91 P) BT.nil BT.nil)) (BT.node (o_67 P) (BT.node (o_83 P) BT.nil BT.nil) (BT.node (o_99 P) BT.nil BT.nil))))))
noncomputable def tree_177 (P : PySem.Params) : PySem.W.BT := (BT.node (boot_o_0 P) (BT.node (boot_o_1 P) (BT.node (o_116 P) (BT.node (boot_o_7 P) (BT.node (o_52 P) (BT.node (o_68 P) (BT.node (o_102 P) (BT.node (o_168 P) BT.nil BT.nil) BT.nil) (BT.node (o_136 P) BT.nil BT.nil)) (BT.node (o_84 P) (BT.node (o_120 P) BT.nil BT.nil) (BT.node (o_152 P) BT.nil BT.nil))) (BT.node (o_60 P) (BT.node (o_76 P) (BT.node (o_110 P) (BT.node (o_176 P) BT.nil BT.nil) BT.nil) (BT.node (o_144 P) BT.nil BT.nil)) (BT.node (o_92 P) (BT.node (o_128 P) BT.nil BT.nil) (BT.node (o_160 P) BT.nil BT.nil)))) (BT.node (o_43 P) (BT.node (o_56 P) (BT.node (o_72 P) (BT.node (o_106 P) (BT.node (o_172 P) BT.nil BT.nil) BT.nil) (BT.node (o_140 P) BT.nil BT.nil)) (BT.node (o_88 P) (BT.node (o_124 P) BT.nil BT.nil) (BT.node (o_156 P) BT.nil BT.nil))) (BT.node (o_64 P) (BT.node (o_80 P) (BT.node (o_114 P) BT.nil BT.nil) (BT.node (o_148 P) BT.nil BT.nil)) (BT.node (o_96 P) (BT.node (o_132 P) BT.nil BT.nil) (BT.node (o_164 P) BT.nil BT.nil))))) (BT.node (boot_o_5 P) (BT.node (boot_o_9 P) (BT.node (o_54 P) (BT.node (o_70 P) (BT.node (o_104 P) (BT.node (o_170 P) BT.nil BT.nil) BT.nil) (BT.node (o_138 P) BT.nil BT.nil)) (BT.node (o_86 P) (BT.node (o_122 P) BT.nil BT.nil) (BT.node (o_154 P) BT.nil BT.nil))) (BT.node (o_62 P) (BT.node (o_78 P) (BT.node (o_112 P) BT.nil BT.nil) (BT.node (o_146 P) BT.nil BT.nil)) (BT.node (o_94 P) (BT.node (o_130 P) BT.nil BT.nil) (BT.node (o_162 P) BT.nil BT.nil)))) (BT.node (o_45 P) (BT.node (o_58 P) (BT.node (o_74 P) (BT.node (o_108 P) (BT.node (o_174 P) BT.nil BT.nil) BT.nil) (BT.node (o_142 P) BT.nil BT.nil)) (BT.node (o_90 P) (BT.node (o_126 P) BT.nil BT.nil) (BT.node (o_158 P) BT.nil BT.nil))) (BT.node (o_66 P) (BT.node (o_82 P) (BT.node (o_118 P) BT.nil BT.nil) (BT.node (o_150 P) BT.nil BT.nil)) (BT.node (o_98 P) (BT.node (o_134 P) BT.nil BT.nil) (BT.node (o_166 P) BT.nil BT.nil)))))) (BT.node (o_49 P) (BT.node (boot_o_4 P) (BT.node (boot_o_8 P) (BT.node (o_53 P) (BT.node (o_69 P) (BT.node (o_103 P) (BT.node (o_169 P) BT.nil BT.nil) BT.nil) (BT.node (o_137 P) BT.nil BT.nil)) (BT.node (o_85 P) (BT.node (o_121 P) BT.nil BT.nil) (BT.node (o_153 P) BT.nil BT.nil))) (BT.node (o_61 P) (BT.node (o_77 P) (BT.node (o_111 P) (BT.node (o_177 P) BT.nil BT.nil) BT.nil) (BT.node (o_145 P) BT.nil BT.nil)) (BT.node (o_93 P) (BT.node (o_129 P) BT.nil BT.nil) (BT.node (o_161 P) BT.nil BT.nil)))) (BT.node (o_117 P) (BT.node (o_57 P) (BT.node (o_73 P) (BT.node (o_107 P) (BT.node (o_173 P) BT.nil BT.nil) BT.nil) (BT.node (o_141 P) BT.nil BT.nil)) (BT.node (o_89 P) (BT.node (o_125 P) BT.nil BT.nil) (BT.node (o_157 P) BT.nil BT.nil))) (BT.node (o_65 P) (BT.node (o_81 P) (BT.node (o_115 P) BT.nil BT.nil) (BT.node (o_149 P) BT.nil BT.nil)) (BT.node (o_97 P) (BT.node (o_133 P) BT.nil BT.nil) (BT.node (o_165 P) BT.nil BT.nil))))) (BT.node (boot_o_6 P) (BT.node (boot_o_10 P) (BT.node (o_55 P) (BT.node (o_71 P) (BT.node (o_105 P) (BT.node (o_171 P) BT.nil BT.nil) BT.nil) (BT.node (o_139 P) BT.nil BT.nil)) (BT.node (o_87 P) (BT.node (o_123 P) BT.nil BT.nil) (BT.node (o_155 P) BT.nil BT.nil))) (BT.node (o_63 P) (BT.node (o_79 P) (BT.node (o_113 P) BT.nil BT.nil) (BT.node (o_147 P) BT.nil BT.nil)) (BT.node (o_95 P) (BT.node (o_131 P) BT.nil BT.nil) (BT.node (o_163 P) BT.nil BT.nil)))) (BT.node (o_46 P) (BT.node (o_59 P) (BT.node (o_75 P) (BT.node (o_109 P) (BT.node (o_175 P) BT.nil BT.nil) BT.nil) (BT.node (o_143 P) BT.nil BT.nil)) (BT.node (o_91 P) (BT.node (o_127 P) BT.nil BT.nil) (BT.node (o_159 P) BT.nil BT.nil))) (BT.node (o_67 P) (BT.node (o_83 P) (BT.node (o_119 P) BT.nil BT.nil) (BT.node (o_151 P) BT.nil BT.nil)) (BT.node (o_99 P) (BT.node (o_135 P) BT.nil BT.nil) (BT.node (o_167 P) BT.nil BT.nil)))))))
noncomputable def tree_332 (P : PySem.Params) : PySem.W.BT := (BT.node (boot_o_0 P) (BT.node (boot_o_1 P) (BT.node (o_228 P) (BT.node (boot_o_7 P) (BT.node (o_52 P) (BT.node (o_68 P) (BT.node (o_102 P) (BT.node (o_168 P) BT.nil BT.nil) (BT.node (o_284 P) BT.nil BT.nil)) (BT.node (o_136 P) (BT.node (o_252 P) BT.nil BT.nil) (BT.node (o_316 P) BT.nil BT.nil))) (BT.node (o_84 P) (BT.node (o_120 P) (BT.node (o_236 P) BT.nil BT.nil) (BT.node (o_300 P) BT.nil BT.nil)) (BT.node (o_152 P) (BT.node (o_268 P) BT.nil BT.nil) (BT.node (o_332 P) BT.nil BT.nil)))) (BT.node (o_60 P) (BT.node (o_76 P) (BT.node (o_110 P) (BT.node (o_176 P) BT.nil BT.nil) (BT.node (o_292 P) BT.nil BT.nil)) (BT.node (o_144 P) (BT.node (o_260 P) BT.nil BT.nil) (BT.node (o_324 P) BT.nil BT.nil))) (BT.node (o_92 P) (BT.node (o_128 P) (BT.node (o_244 P) BT.nil BT.nil) (BT.node (o_308 P) BT.nil BT.nil)) (BT.node (o_160 P) (BT.node (o_276 P) BT.nil BT.nil) BT.nil)))) (BT.node (o_43 P) (BT.node (o_56 P) (BT.node (o_72 P) (BT.node (o_106 P) (BT.node (o_172 P) BT.nil BT.nil) (BT.node (o_288 P) BT.nil BT.nil)) (BT.node (o_140 P) (BT.node (o_256 P) BT.nil BT.nil) (BT.node (o_320 P) BT.nil BT.nil))) (BT.node (o_88 P) (BT.node (o_124 P) (BT.node (o_240 P) BT.nil BT.nil) (BT.node (o_304 P) BT.nil BT.nil)) (BT.node (o_156 P) (BT.node (o_272 P) BT.nil BT.nil) BT.nil))) (BT.node (o_64 P) (BT.node (o_80 P) (BT.node (o_114 P) (BT.node (o_232 P) BT.nil BT.nil) (BT.node (o_296 P) BT.nil BT.nil)) (BT.node (o_148 P) (BT.node (o_264 P) BT.nil BT.nil) (BT.node (o_328 P) BT.nil BT.nil))) (BT.node (o_96 P) (BT.node (o_132 P) (BT.node (o_248 P) BT.nil BT.nil) (BT.node (o_312 P) BT.nil BT.nil)) (BT.node (o_164 P) (BT.node (o_280 P) BT.nil BT.nil) BT.nil))))) (BT.node (boot_o_5 P) (BT.node (boot_o_9 P) (BT.node (o_54 P) (BT.node (o_70 P) (BT.node (o_104 P) (BT.node (o_170 P) BT.nil BT.nil) (BT.node (o_286 P) BT.nil BT.nil)) (BT.node (o_138 P) (BT.node (o_254 P) BT.nil BT.nil) (BT.node (o_318 P) BT.nil BT.nil))) (BT.node (o_86 P) (BT.node (o_122 P) (BT.node (o_238 P) BT.nil BT.nil) (BT.node (o_302 P) BT.nil BT.nil)) (BT.node (o_154 P) (BT.node (o_270 P) BT.nil BT.nil) BT.nil))) (BT.node (o_62 P) (BT.node (o_78 P) (BT.node (o_112 P) (BT.node (o_230 P) BT.nil BT.nil) (BT.node (o_294 P) BT.nil BT.nil)) (BT.node (o_146 P) (BT.node (o_262 P) BT.nil BT.nil) (BT.node (o_326 P) BT.nil BT.nil))) (BT.node (o_94 P) (BT.node (o_130 P) (BT.node (o_246 P) BT.nil BT.nil) (BT.node (o_310 P) BT.nil BT.nil)) (BT.node (o_162 P) (BT.node (o_278 P) BT.nil BT.nil) BT.nil)))) (BT.node (o_45 P) (BT.node (o_58 P) (BT.node (o_74 P) (BT.node (o_108 P) (BT.node (o_174 P) BT.nil BT.nil) (BT.node (o_290 P) BT.nil BT.nil)) (BT.node (o_142 P) (BT.node (o_258 P) BT.nil BT.nil) (BT.node (o_322 P) BT.nil BT.nil))) (BT.node (o_90 P) (BT.node (o_126 P) (BT.node (o_242 P) BT.nil BT.nil) (BT.node (o_306 P) BT.nil BT.nil)) (BT.node (o_158 P) (BT.node (o_274 P) BT.nil BT.nil) BT.nil))) (BT.node (o_66 P) (BT.node (o_82 P) (BT.node (o_118 P) (BT.node (o_234 P) BT.nil BT.nil) (BT.node (o_298 P) BT.nil BT.nil)) (BT.node (o_150 P) (BT.node (o_266 P) BT.nil BT.nil) (BT.node (o_330 P) BT.nil BT.nil))) (BT.node (o_98 P) (BT.node (o_134 P) (BT.node (o_250 P) BT.nil BT.nil) (BT.node (o_314 P) BT.nil BT.nil)) (BT.node (o_166 P) (BT.node (o_282 P) BT.nil BT.nil) BT.nil)))))) (BT.node (o_49 P) (BT.node (boot_o_4 P) (BT.node (boot_o_8 P) (BT.node (o_53 P) (BT.node (o_69 P) (BT.node (o_103 P) (BT.node (o_169 P) BT.nil BT.nil) (BT.node (o_285 P) BT.nil BT.nil)) (BT.node (o_137 P) (BT.node (o_253 P) BT.nil BT.nil) (BT.node (o_317 P) BT.nil BT.nil))) (BT.node (o_85 P) (BT.node (o_121 P) (BT.node (o_237 P) BT.nil BT.nil) (BT.node (o_301 P) BT.nil BT.nil)) (BT.node (o_153 P) (BT.node (o_269 P) BT.nil BT.nil) BT.nil))) (BT.node (o_61 P) (BT.node (o_77 P) (BT.node (o_111 P) (BT.node (o_177 P) BT.nil BT.nil) (BT.node (o_293 P) BT.nil BT.nil)) (BT.node (o_145 P) (BT.node (o_261 P) BT.nil BT.nil) (BT.node (o_325 P) BT.nil BT.nil))) (BT.node (o_93 P) (BT.node (o_129 P) (BT.node (o_245 P) BT.nil BT.nil) (BT.node (o_309 P) BT.nil BT.nil)) (BT.node (o_161 P) (BT.node (o_277 P) BT.nil BT.nil) BT.nil)))) (BT.node (o_229 P) (BT.node (o_57 P) (BT.node (o_73 P) (BT.node (o_107 P) (BT.node (o_173 P) BT.nil BT.nil) (BT.node (o_289 P) BT.nil BT.nil)) (BT.node (o_141 P) (BT.node (o_257 P) BT.nil BT.nil) (BT.node (o_321 P) BT.nil BT.nil))) (BT.node (o_89 P) (BT.node (o_125 P) (BT.node (o_241 P) BT.nil BT.nil) (BT.node (o_305 P) BT.nil BT.nil)) (BT.node (o_157 P) (BT.node (o_273 P) BT.nil BT.nil) BT.nil))) (BT.node (o_65 P) (BT.node (o_81 P) (BT.node (o_115 P) (BT.node (o_233 P) BT.nil BT.nil) (BT.node (o_297 P) BT.nil BT.nil)) (BT.node (o_149 P) (BT.node (o_265 P) BT.nil BT.nil) (BT.node (o_329 P) BT.nil BT.nil))) (BT.node (o_97 P) (BT.node (o_133 P) (BT.node (o_249 P) BT.nil BT.nil) (BT.node (o_313 P) BT.nil BT.nil)) (BT.node (o_165 P) (BT.node (o_281 P) BT.nil BT.nil) BT.nil))))) (BT.node (boot_o_6 P) (BT.node (boot_o_10 P) (BT.node (o_55 P) (BT.node (o_71 P) (BT.node (o_105 P) (BT.node (o_171 P) BT.nil BT.nil) (BT.node (o_287 P) BT.nil BT.nil)) (BT.node (o_139 P) (BT.node (o_255 P) BT.nil BT.nil) (BT.node (o_319 P) BT.nil BT.nil))) (BT.node (o_87 P) (BT.node (o_123 P) (BT.node (o_239 P) BT.nil BT.nil) (BT.node (o_303 P) BT.nil BT.nil)) (BT.node (o_155 P) (BT.node (o_271 P) BT.nil BT.nil) BT.nil))) (BT.node (o_63 P) (BT.node (o_79 P) (BT.node (o_113 P) (BT.node (o_231 P) BT.nil BT.nil) (BT.node (o_295 P) BT.nil BT.nil)) (BT.node (o_147 P) (BT.node (o_263 P) BT.nil BT.nil) (BT.node (o_327 P) BT.nil BT.nil))) (BT.node (o_95 P) (BT.node (o_131 P) (BT.node (o_247 P) BT.nil BT.nil) (BT.node (o_311 P) BT.nil BT.nil)) (BT.node (o_163 P) (BT.node (o_279 P) BT.nil BT.nil) BT.nil)))) (BT.node (o_46 P) (BT.node (o_59 P) (BT.node (o_75 P) (BT.node (o_109 P) (BT.node (o_175 P) BT.nil BT.nil) (BT.node (o_291 P) BT.nil BT.nil)) (BT.node (o_143 P) (BT.node (o_259 P) BT.nil BT.nil) (BT.node (o_323 P) BT.nil BT.nil))) (BT.node (o_91 P) (BT.node (o_127 P) (BT.node (o_243 P) BT.nil BT.nil) (BT.node (o_307 P) BT.nil BT.nil)) (BT.node (o_159 P) (BT.node (o_275 P) BT.nil BT.nil) BT.nil))) (BT.node (o_67 P) (BT.node (o_83 P) (BT.node (o_119 P) (BT.node (o_235 P) BT.nil BT.nil) (BT.node (o_299 P) BT.nil BT.nil)) (BT.node (o_151 P) (BT.node (o_267 P) BT.nil BT.nil) (BT.node (o_331 P) BT.nil BT.nil))) (BT.node (o_99 P) (BT.node (o_135 P) (BT.node (o_251 P) BT.nil BT.nil) (BT.node (o_315 P) BT.nil BT.nil)) (BT.node (o_167 P) (BT.node (o_283 P) BT.nil BT.nil) BT.nil)))))))
noncomputable def tree_413 (P : PySem.Params) : PySem.W.BT := (BT.node (boot_o_0 P) (BT.node (boot_o_1 P) (BT.node (o_386 P) (BT.node (boot_o_7 P) (BT.node (o_52 P) (BT.node (o_68 P) (BT.node (o_102 P) (BT.node (o_168 P) (BT.node (o_403 P) BT.nil BT.nil) BT.nil) (BT.node (o_284 P) BT.nil BT.nil)) (BT.node (o_136 P) (BT.node (o_252 P) BT.nil BT.nil) (BT.node (o_316 P) BT.nil BT.nil))) (BT.node (o_84 P) (BT.node (o_120 P) (BT.node (o_236 P) BT.nil BT.nil) (BT.node (o_300 P) BT.nil BT.nil)) (BT.node (o_152 P) (BT.node (o_268 P) BT.nil BT.nil) (BT.node (o_332 P) BT.nil BT.nil)))) (BT.node (o_60 P) (BT.node (o_76 P) (BT.node (o_110 P) (BT.node (o_176 P) (BT.node (o_411 P) BT.nil BT.nil) BT.nil) (BT.node (o_292 P) BT.nil BT.nil)) (BT.node (o_144 P) (BT.node (o_260 P) BT.nil BT.nil) (BT.node (o_324 P) BT.nil BT.nil))) (BT.node (o_92 P) (BT.node (o_128 P) (BT.node (o_244 P) BT.nil BT.nil) (BT.node (o_308 P) BT.nil BT.nil)) (BT.node (o_160 P) (BT.node (o_276 P) BT.nil BT.nil) (BT.node (o_395 P) BT.nil BT.nil))))) (BT.node (o_43 P) (BT.node (o_56 P) (BT.node (o_72 P) (BT.node (o_106 P) (BT.node (o_172 P) (BT.node (o_407 P) BT.nil BT.nil) BT.nil) (BT.node (o_288 P) BT.nil BT.nil)) (BT.node (o_140 P) (BT.node (o_256 P) BT.nil BT.nil) (BT.node (o_320 P) BT.nil BT.nil))) (BT.node (o_88 P) (BT.node (o_124 P) (BT.node (o_240 P) BT.nil BT.nil) (BT.node (o_304 P) BT.nil BT.nil)) (BT.node (o_156 P) (BT.node (o_272 P) BT.nil BT.nil) (BT.node (o_391 P) BT.nil BT.nil)))) (BT.node (o_64 P) (BT.node (o_80 P) (BT.node (o_114 P) (BT.node (o_232 P) BT.nil BT.nil) (BT.node (o_296 P) BT.nil BT.nil)) (BT.node (o_148 P) (BT.node (o_264 P) BT.nil BT.nil) (BT.node (o_328 P) BT.nil BT.nil))) (BT.node (o_96 P) (BT.node (o_132 P) (BT.node (o_248 P) BT.nil BT.nil) (BT.node (o_312 P) BT.nil BT.nil)) (BT.node (o_164 P) (BT.node (o_280 P) BT.nil BT.nil) (BT.node (o_399 P) BT.nil BT.nil)))))) (BT.node (boot_o_5 P) (BT.node (boot_o_9 P) (BT.node (o_54 P) (BT.node (o_70 P) (BT.node (o_104 P) (BT.node (o_170 P) (BT.node (o_405 P) BT.nil BT.nil) BT.nil) (BT.node (o_286 P) BT.nil BT.nil)) (BT.node (o_138 P) (BT.node (o_254 P) BT.nil BT.nil) (BT.node (o_318 P) BT.nil BT.nil))) (BT.node (o_86 P) (BT.node (o_122 P) (BT.node (o_238 P) BT.nil BT.nil) (BT.node (o_302 P) BT.nil BT.nil)) (BT.node (o_154 P) (BT.node (o_270 P) BT.nil BT.nil) (BT.node (o_389 P) BT.nil BT.nil)))) (BT.node (o_62 P) (BT.node (o_78 P) (BT.node (o_112 P) (BT.node (o_230 P) (BT.node (o_413 P) BT.nil BT.nil) BT.nil) (BT.node (o_294 P) BT.nil BT.nil)) (BT.node (o_146 P) (BT.node (o_262 P) BT.nil BT.nil) (BT.node (o_326 P) BT.nil BT.nil))) (BT.node (o_94 P) (BT.node (o_130 P) (BT.node (o_246 P) BT.nil BT.nil) (BT.node (o_310 P) BT.nil BT.nil)) (BT.node (o_162 P) (BT.node (o_278 P) BT.nil BT.nil) (BT.node (o_397 P) BT.nil BT.nil))))) (BT.node (o_45 P) (BT.node (o_58 P) (BT.node (o_74 P) (BT.node (o_108 P) (BT.node (o_174 P) (BT.node (o_409 P) BT.nil BT.nil) BT.nil) (BT.node (o_290 P) BT.nil BT.nil)) (BT.node (o_142 P) (BT.node (o_258 P) BT.nil BT.nil) (BT.node (o_322 P) BT.nil BT.nil))) (BT.node (o_90 P) (BT.node (o_126 P) (BT.node (o_242 P) BT.nil BT.nil) (BT.node (o_306 P) BT.nil BT.nil)) (BT.node (o_158 P) (BT.node (o_274 P) BT.nil BT.nil) (BT.node (o_393 P) BT.nil BT.nil)))) (BT.node (o_66 P) (BT.node (o_82 P) (BT.node (o_118 P) (BT.node (o_234 P) BT.nil BT.nil) (BT.node (o_298 P) BT.nil BT.nil)) (BT.node (o_150 P) (BT.node (o_266 P) BT.nil BT.nil) (BT.node (o_330 P) BT.nil BT.nil))) (BT.node (o_98 P) (BT.node (o_134 P) (BT.node (o_250 P) BT.nil BT.nil) (BT.node (o_314 P) BT.nil BT.nil)) (BT.node (o_166 P) (BT.node (o_282 P) BT.nil BT.nil) (BT.node (o_401 P) BT.nil BT.nil))))))) (BT.node (o_49 P) (BT.node (boot_o_4 P) (BT.node (boot_o_8 P) (BT.node (o_53 P) (BT.node (o_69 P) (BT.node (o_103 P) (BT.node (o_169 P) (BT.node (o_404 P) BT.nil BT.nil) BT.nil) (BT.node (o_285 P) BT.nil BT.nil)) (BT.node (o_137 P) (BT.node (o_253 P) BT.nil BT.nil) (BT.node (o_317 P) BT.nil BT.nil))) (BT.node (o_85 P) (BT.node (o_121 P) (BT.node (o_237 P) BT.nil BT.nil) (BT.node (o_301 P) BT.nil BT.nil)) (BT.node (o_153 P) (BT.node (o_269 P) BT.nil BT.nil) (BT.node (o_388 P) BT.nil BT.nil)))) (BT.node (o_61 P) (BT.node (o_77 P) (BT.node (o_111 P) (BT.node (o_177 P) (BT.node (o_412 P) BT.nil BT.nil) BT.nil) (BT.node (o_293 P) BT.nil BT.nil)) (BT.node (o_145 P) (BT.node (o_261 P) BT.nil BT.nil) (BT.node (o_325 P) BT.nil BT.nil))) (BT.node (o_93 P) (BT.node (o_129 P) (BT.node (o_245 P) BT.nil BT.nil) (BT.node (o_309 P) BT.nil BT.nil)) (BT.node (o_161 P) (BT.node (o_277 P) BT.nil BT.nil) (BT.node (o_396 P) BT.nil BT.nil))))) (BT.node (o_387 P) (BT.node (o_57 P) (BT.node (o_73 P) (BT.node (o_107 P) (BT.node (o_173 P) (BT.node (o_408 P) BT.nil BT.nil) BT.nil) (BT.node (o_289 P) BT.nil BT.nil)) (BT.node (o_141 P) (BT.node (o_257 P) BT.nil BT.nil) (BT.node (o_321 P) BT.nil BT.nil))) (BT.node (o_89 P) (BT.node (o_125 P) (BT.node (o_241 P) BT.nil BT.nil) (BT.node (o_305 P) BT.nil BT.nil)) (BT.node (o_157 P) (BT.node (o_273 P) BT.nil BT.nil) (BT.node (o_392 P) BT.nil BT.nil)))) (BT.node (o_65 P) (BT.node (o_81 P) (BT.node (o_115 P) (BT.node (o_233 P) BT.nil BT.nil) (BT.node (o_297 P) BT.nil BT.nil)) (BT.node (o_149 P) (BT.node (o_265 P) BT.nil BT.nil) (BT.node (o_329 P) BT.nil BT.nil))) (BT.node (o_97 P) (BT.node (o_133 P) (BT.node (o_249 P) BT.nil BT.nil) (BT.node (o_313 P) BT.nil BT.nil)) (BT.node (o_165 P) (BT.node (o_281 P) BT.nil BT.nil) (BT.node (o_400 P) BT.nil BT.nil)))))) (BT.node (boot_o_6 P) (BT.node (boot_o_10 P) (BT.node (o_55 P) (BT.node (o_71 P) (BT.node (o_105 P) (BT.node (o_171 P) (BT.node (o_406 P) BT.nil BT.nil) BT.nil) (BT.node (o_287 P) BT.nil BT.nil)) (BT.node (o_139 P) (BT.node (o_255 P) BT.nil BT.nil) (BT.node (o_319 P) BT.nil BT.nil))) (BT.node (o_87 P) (BT.node (o_123 P) (BT.node (o_239 P) BT.nil BT.nil) (BT.node (o_303 P) BT.nil BT.nil)) (BT.node (o_155 P) (BT.node (o_271 P) BT.nil BT.nil) (BT.node (o_390 P) BT.nil BT.nil)))) (BT.node (o_63 P) (BT.node (o_79 P) (BT.node (o_113 P) (BT.node (o_231 P) BT.nil BT.nil) (BT.node (o_295 P) BT.nil BT.nil)) (BT.node (o_147 P) (BT.node (o_263 P) BT.nil BT.nil) (BT.node (o_327 P) BT.nil BT.nil))) (BT.node (o_95 P) (BT.node (o_131 P) (BT.node (o_247 P) BT.nil BT.nil) (BT.node (o_311 P) BT.nil BT.nil)) (BT.node (o_163 P) (BT.node (o_279 P) BT.nil BT.nil) (BT.node (o_398 P) BT.nil BT.nil))))) (BT.node (o_46 P) (BT.node (o_59 P) (BT.node (o_75 P) (BT.node (o_109 P) (BT.node (o_175 P) (BT.node (o_410 P) BT.nil BT.nil) BT.nil) (BT.node (o_291 P) BT.nil BT.nil)) (BT.node (o_143 P) (BT.node (o_259 P) BT.nil BT.nil) (BT.node (o_323 P) BT.nil BT.nil))) (BT.node (o_91 P) (BT.node (o_127 P) (BT.node (o_243 P) BT.nil BT.nil) (BT.node (o_307 P) BT.nil BT.nil)) (BT.node (o_159 P) (BT.node (o_275 P) BT.nil BT.nil) (BT.node (o_394 P) BT.nil BT.nil)))) (BT.node (o_67 P) (BT.node (o_83 P) (BT.node (o_119 P) (BT.node (o_235 P) BT.nil BT.nil) (BT.node (o_299 P) BT.nil BT.nil)) (BT.node (o_151 P) (BT.node (o_267 P) BT.nil BT.nil) (BT.node (o_331 P) BT.nil BT.nil))) (BT.node (o_99 P) (BT.node (o_135 P) (BT.node (o_251 P) BT.nil BT.nil) (BT.node (o_315 P) BT.nil BT.nil)) (BT.node (o_167 P) (BT.node (o_283 P) BT.nil BT.nil) (BT.node (o_402 P) BT.nil BT.nil))))))))
noncomputable def heap_46 (P : PySem.Params) : PySem.Heap := (PySem.Heap.mk (Array.mk [(boot_o_0 P), (boot_o_1 P), (boot_o_2 P), (boot_o_3 P), (boot_o_4 P), (boot_o_5 P), (boot_o_6 P), (boot_o_7 P), (boot_o_8 P), (boot_o_9 P), (boot_o_10 P), (o_43 P), (o_44 P), (o_45 P), (o_46 P)]) (PySem.Life.mk [] [] [] 0 [] [] Bool.false #[] [] 0 Bool.false Bool.false Bool.false 0 [2000, 10, 10] Bool.false 0 Bool.true [] [] 0 Bool.false))
noncomputable def heap_414 (P : PySem.Params) : PySem.Heap := (PySem.Heap.mk (Array.mk ((boot_o_0 P) :: (boot_o_1 P) :: (o_49 P) :: (o_386 P) :: (boot_o_4 P) :: (boot_o_5 P) :: (boot_o_6 P) :: (boot_o_7 P) :: (boot_o_8 P) :: (boot_o_9 P) :: (boot_o_10 P) :: (o_43 P) :: (o_387 P) :: (o_45 P) :: (o_46 P) :: (o_52 P) :: (o_53 P) :: (o_54 P) :: (o_55 P) :: (o_56 P) :: (o_57 P) :: (o_58 P) :: (o_59 P) :: (o_60 P) :: (o_61 P) :: (o_62 P) :: (o_63 P) :: (o_64 P) :: (o_65 P) :: (o_66 P) :: (o_67 P) :: (o_68 P) :: (o_69 P) :: (o_70 P) :: (o_71 P) :: (o_72 P) :: (o_73 P) :: (o_74 P) :: (o_75 P) :: (o_76 P) :: (o_77 P) :: (o_78 P) :: (o_79 P) :: (o_80 P) :: (o_81 P) :: (o_82 P) :: (o_83 P) :: (o_84 P) :: (o_85 P) :: (o_86 P) :: (o_87 P) :: (o_88 P) :: (o_89 P) :: (o_90 P) :: (o_91 P) :: (o_92 P) :: (o_93 P) :: (o_94 P) :: (o_95 P) :: (o_96 P) :: (o_97 P) :: (o_98 P) :: (o_99 P) :: (o_102 P) :: (o_103 P) :: (o_104 P) :: (o_105 P) :: (o_106 P) :: (o_107 P) :: (o_108 P) :: (o_109 P) :: (o_110 P) :: (o_111 P) :: (o_112 P) :: (o_113 P) :: (o_114 P) :: (o_115 P) :: (o_118 P) :: (o_119 P) :: (o_120 P) :: (o_121 P) :: (o_122 P) :: (o_123 P) :: (o_124 P) :: (o_125 P) :: (o_126 P) :: (o_127 P) :: (o_128 P) :: (o_129 P) :: (o_130 P) :: (o_131 P) :: (o_132 P) :: (o_133 P) :: (o_134 P) :: (o_135 P) :: (o_136 P) :: (o_137 P) :: (o_138 P) :: (o_139 P) :: (o_140 P) :: (o_141 P) :: (o_142 P) :: (o_143 P) :: (o_144 P) :: (o_145 P) :: (o_146 P) :: (o_147 P) :: (o_148 P) :: (o_149 P) :: (o_150 P) :: (o_151 P) :: (o_152 P) :: (o_153 P) :: (o_154 P) :: (o_155 P) :: (o_156 P) :: (o_157 P) :: (o_158 P) :: (o_159 P) :: (o_160 P) :: (o_161 P) :: (o_162 P) :: (o_163 P) :: (o_164 P) :: (o_165 P) :: (o_166 P) :: (o_167 P) :: (o_168 P) :: (o_169 P) :: (o_170 P) :: (o_171 P) :: (o_172 P) :: (o_173 P) :: (o_174 P) :: (o_175 P) :: (o_176 P) :: (o_177 P) :: (o_230 P) :: (o_231 P) :: (o_232 P) :: (o_233 P) :: (o_234 P) :: (o_235 P) :: (o_236 P) :: (o_237 P) :: (o_238 P) :: (o_239 P) :: (o_240 P) :: (o_241 P) :: (o_242 P) :: (o_243 P) :: (o_244 P) :: (o_245 P) :: (o_246 P) :: (o_247 P) :: (o_248 P) :: (o_249 P) :: (o_250 P) :: (o_251 P) :: (o_252 P) :: (o_253 P) :: (o_254 P) :: (o_255 P) :: (o_256 P) :: (o_257 P) :: (o_258 P) :: (o_259 P) :: (o_260 P) :: (o_261 P) :: (o_262 P) :: (o_263 P) :: (o_264 P) :: (o_265 P) :: (o_266 P) :: (o_267 P) :: (o_268 P) :: (o_269 P) :: (o_270 P) :: (o_271 P) :: (o_272 P) :: (o_273 P) :: (o_274 P) :: (o_275 P) :: (o_276 P) :: (o_277 P) :: (o_278 P) :: (o_279 P) :: (o_280 P) :: (o_281 P) :: (o_282 P) :: (o_283 P) :: (o_284 P) :: (o_285 P) :: (o_286 P) :: (o_287 P) :: (o_288 P) :: (o_289 P) :: (o_290 P) :: (o_291 P) :: (o_292 P) :: (o_293 P) :: (o_294 P) :: (o_295 P) :: (o_296 P) :: (o_297 P) :: (o_298 P) :: (o_299 P) :: (o_300 P) :: (o_301 P) :: (o_302 P) :: (o_303 P) :: (o_304 P) :: (o_305 P) :: (o_306 P) :: (o_307 P) :: (o_308 P) :: (o_309 P) :: (o_310 P) :: (o_311 P) :: (o_312 P) :: (o_313 P) :: (o_314 P) :: (o_315 P) :: (o_316 P) :: (o_317 P) :: (o_318 P) :: (o_319 P) :: (o_320 P) :: (o_321 P) :: (o_322 P) :: (o_323 P) :: (o_324 P) :: (o_325 P) :: (o_326 P) :: (o_327 P) :: (o_328 P) :: (o_329 P) :: (o_330 P) :: (o_331 P) :: (o_332 P) :: (o_388 P) :: (o_389 P) :: (o_390 P) :: (o_391 P) :: (o_392 P) :: (o_393 P) :: (o_394 P) :: (o_395 P) :: (o_396 P) :: (o_397 P) :: (o_398 P) :: (o_399 P) :: (o_400 P) :: (o_401 P) :: (o_402 P) :: (o_403 P) :: (o_404 P) :: (o_405 P) :: (o_406 P) :: (o_407 P) :: (o_408 P) :: (o_409 P) :: (o_410 P) :: (o_411 P) :: (o_412 P) :: (o_413 P) :: [])) (PySem.Life.mk [] [] [] 0 [] [] Bool.false #[] [] 0 Bool.false Bool.false Bool.false 0 [2000, 10, 10] Bool.false 0 Bool.true [] [] 0 Bool.false))
noncomputable abbrev pP : Program := PySem.Challenge.pw_bc0032_01
noncomputable def eP : Env := Env.mk (Module.scope (Program.main pP)) mainNs mainNs [] Str.empty none (Value.ref 13) (some 14) 0
noncomputable def cP : Code := Code.body (behindTheImports pP) eP
noncomputable def bA : List Stmt := ((behindTheImports pP).drop 0).take 10
noncomputable def bB : List Stmt := ((behindTheImports pP).drop 10).take 3
noncomputable def bC : List Stmt := ((behindTheImports pP).drop 13).take 1
noncomputable def bD : List Stmt := ((behindTheImports pP).drop 14).take 1
noncomputable def bE : List Stmt := ((behindTheImports pP).drop 15).take 5
theorem pre_ : ∀ (w : World) (os : OsState), topGo treeTable pP w 11 (some (.ref 6)) 12 ({ heap := boot_heap w.params, gens := #[], drawn := boot_drawn, toks := boot_toks, os := os } : Shared) (topStub pP)
    = some (({ heap := heap_46 w.params, gens := #[], drawn := boot_drawn, toks := 187, os := os } : Shared), { cur := denote treeTable cP, code := cP, pos := ⟨0, 0, 0, 0⟩, stack := [topFrame ⟨0, 0, 0, 0⟩] }) := by
  intro w os
  kernel_rfl
theorem blk_ : ∀ (w : World) (os : OsState), segRun treeTable pP w 11 (some (.ref 6)) 1 1 ({ heap := heap_46 w.params, gens := #[], drawn := boot_drawn, toks := 187, os := os } : Shared) (blockOf (behindTheImports pP) eP cP ⟨0, 0, 0, 0⟩ [topFrame ⟨0, 0, 0, 0⟩])
    = some (Flow.next, SharedT.abs ({ tree := tree_47 w.params, n := 15, life := { }, gens := #[], drawn := boot_drawn, toks := 187, os := os } : SharedT), cP, ⟨0, 0, 0, 0⟩) := by
  intro w os
  kernel_rfl
theorem pcA : ∀ (w : World) (os : OsState), segRunT treeTable pP w 11 (some (.ref 6)) 1 379 ({ tree := tree_47 w.params, n := 15, life := { }, gens := #[], drawn := boot_drawn, toks := 187, os := os } : SharedT) (piecesOf bA eP cP ⟨0, 0, 0, 0⟩ [topFrame ⟨0, 0, 0, 0⟩])
    = some (Flow.next, ({ tree := tree_99 w.params, n := 63, life := { }, gens := #[], drawn := boot_drawn, toks := 251, os := os } : SharedT), cP, ⟨16, 0, 18, 83⟩) := by
  intro w os
  first
    | (rw [Fast.te10110043849684766642, Fast.te14364793385576792824]; kernel_rfl)
    | kernel_rfl
theorem pcB : ∀ (w : World) (os : OsState), segRunT treeTable pP w 11 (some (.ref 6)) 1 80 ({ tree := tree_99 w.params, n := 63, life := { }, gens := #[], drawn := boot_drawn, toks := 251, os := os } : SharedT) (piecesOf bB eP cP ⟨16, 0, 18, 83⟩ [topFrame ⟨0, 0, 0, 0⟩])
    = some (Flow.next, ({ tree := tree_115 w.params, n := 77, life := { }, gens := #[], drawn := boot_drawn, toks := 276, os := os } : SharedT), cP, ⟨23, 0, 37, 34⟩) := by
  intro w os
  first
    | (rw [Fast.te10110043849684766642, Fast.te14364793385576792824]; kernel_rfl)
    | kernel_rfl
theorem pcC : ∀ (w : World) (os : OsState), segRunT treeTable pP w 11 (some (.ref 6)) 1 624 ({ tree := tree_115 w.params, n := 77, life := { }, gens := #[], drawn := boot_drawn, toks := 276, os := os } : SharedT) (piecesOf bC eP cP ⟨23, 0, 37, 34⟩ [topFrame ⟨0, 0, 0, 0⟩])
    = some (Flow.next, ({ tree := tree_177 w.params, n := 137, life := { }, gens := #[], drawn := boot_drawn, toks := 358, os := os } : SharedT), cP, ⟨38, 0, 80, 67⟩) := by
  intro w os
  first
    | (rw [Fast.te10110043849684766642, Fast.te14364793385576792824]; kernel_rfl)
    | kernel_rfl
theorem pcD : ∀ (w : World) (os : OsState), segRunT treeTable pP w 11 (some (.ref 6)) 1 757 ({ tree := tree_177 w.params, n := 137, life := { }, gens := #[], drawn := boot_drawn, toks := 358, os := os } : SharedT) (piecesOf bD eP cP ⟨38, 0, 80, 67⟩ [topFrame ⟨0, 0, 0, 0⟩])
    = some (Flow.next, ({ tree := tree_332 w.params, n := 240, life := { }, gens := #[], drawn := boot_drawn, toks := 527, os := os } : SharedT), cP, ⟨81, 0, 182, 31⟩) := by
  intro w os
  first
    | (rw [Fast.te10110043849684766642, Fast.te14364793385576792824]; kernel_rfl)
    | kernel_rfl
theorem pcE : ∀ (w : World) (os : OsState), segRunT treeTable pP w 11 (some (.ref 6)) 1 125 ({ tree := tree_332 w.params, n := 240, life := { }, gens := #[], drawn := boot_drawn, toks := 527, os := os } : SharedT) (piecesOf bE eP cP ⟨81, 0, 182, 31⟩ [topFrame ⟨0, 0, 0, 0⟩])
    = some (Flow.next, ({ tree := tree_413 w.params, n := 266, life := { }, gens := #[], drawn := boot_drawn, toks := 558, os := os } : SharedT), cP, ⟨196, 0, 238, 105⟩) := by
  intro w os
  first
    | (rw [Fast.te10110043849684766642, Fast.te14364793385576792824]; kernel_rfl)
    | kernel_rfl
theorem fin_ : ∀ (w : World) (os : OsState), topRun treeTable pP w 11 (some (.ref 6)) 2 (SharedT.abs ({ tree := tree_413 w.params, n := 266, life := { }, gens := #[], drawn := boot_drawn, toks := 558, os := os } : SharedT)) (restOf [] eP cP ⟨196, 0, 238, 105⟩ [topFrame ⟨0, 0, 0, 0⟩])
    = some ({ heap := heap_414 w.params, gens := #[], drawn := boot_drawn, toks := 558, os := os } : Shared) := by
  intro w os
  kernel_rfl
theorem bAB : behindTheImports pP = bA ++ (bB ++ (bC ++ (bD ++ (bE ++ [])))) := by kernel_rfl
theorem run_ (w : World) (os : OsState) : topRun treeTable pP w 11 (some (.ref 6)) (12 + (1 + (379 + (80 + (624 + (757 + (125 + 2))))))) ({ heap := boot_heap w.params, gens := #[], drawn := boot_drawn, toks := boot_toks, os := os } : Shared) (topStub pP) = some ({ heap := heap_414 w.params, gens := #[], drawn := boot_drawn, toks := 558, os := os } : Shared) := by
  refine go_top (pre_ w os) (piece_block (blk_ w os) ?_)
  rw [bAB]
  exact piece_app (segRun_of (pcA w os)) (piece_app (segRun_of (pcB w os)) (piece_app (segRun_of (pcC w os)) (piece_app (segRun_of (pcD w os)) (piece_app (segRun_of (pcE w os)) (fin_ w os)))))
theorem size_ (w : World) : ((boot_heap w.params).isNs mainGlobals && (#[] : Array GenState).size == 0, (boot_heap w.params).objs.size, (boot_heap w.params).nsMap mainGlobals (Str.ofString "__annotations__")) = (true, 11, some (Value.ref 6)) := by
  kernel_rfl
theorem hd (hc : WalkO view39 looseK (XL view39 []) (Hook.says (kmHook K39 [2, 3, 15, 17, 18, 20, 21, 22, 24, 25, 27, 28, 29, 31, 32, 34, 35, 36, 38, 39, 41, 42, 43, 50, 51, 52, 53, 56, 58, 59, 61, 62, 63, 65, 66, 68, 69, 70, 72, 73, 75, 76, 84, 86, 87, 89, 90, 91, 93, 94, 96, 97, 98, 99, 101, 102, 104, 105, 106, 107, 109, 110, 112, 113, 114, 115, 117, 118, 120, 121, 122, 123, 125, 126, 128, 129, 130, 131, 132, 133, 134, 144, 145, 147, 148, 150, 151, 152, 153, 155, 156, 158, 159, 160, 161, 162, 163, 165, 166, 168, 169, 170, 172, 173, 175, 176, 177, 179, 180, 182, 183, 184, 186, 187, 189, 190, 191, 193, 194, 196, 197, 198, 200, 201, 203, 204, 205, 207, 208, 210, 211, 212, 214, 215, 217, 218, 219, 221, 222, 224, 225, 226, 228, 229, 231, 232, 233, 234, 235, 236, 237, 240, 242, 243, 245, 246, 247, 249, 250, 252, 253, 254, 256, 257, 259, 260, 261, 264, 265] asK [262])) PySem.Challenge.rw_bc0032_01.row.toRowW ⟨Str.ofString "law", fp_law, fb_law, fs_law, pos_law⟩ [] fun f vs => PySem.call f vs) : PySem.Challenge.rw_bc0032_01.Holds := by
  w_on
  o_law
  refine holds_open (q := view39) (loose := looseK) (Xt := fun s => xlAt view39 [] s && recOk (RowW.records PySem.Challenge.rw_bc0032_01.row.toRowW) s) (XP := XL view39 []) (Yf := Hook.obs HK) (Ya := Hook.val HK) (YP := Hook.says HK) (N := 4040) ?hl (Hook.of HK) (Hook.keeps HK) (fun s e => xl_of s (Bool.and_eq_true_iff.mp e).1) XL.keeps (by rfl) (by rfl) (by rfl) (fun s e => recFacts_of (Bool.and_eq_true_iff.mp e).2) (by first | rfl) (by first | assumption | decide +kernel) (by decide +kernel) ⟨rfl, rfl, rfl, rfl, rfl, by decide +kernel⟩ ?hw hc
  case hw => w_witness2
  case hl =>
    refine LeftO.of_pieces (p := pP) (H₀ := boot_heap) (H₁ := heap_414) (gs₀ := #[]) (gs₁ := #[]) (d₀ := boot_drawn) (d₁ := boot_drawn) (k₀ := boot_toks) (k₁ := 558) (m₀ := 11) (ann := some (.ref 6)) (M := 12 + (1 + (379 + (80 + (624 + (757 + (125 + 2))))))) ?o ?s ?r ?l ?k
    case o => exact boot_open rfl (by decide) (fun _ => rfl)
    case s => exact size_
    case r => exact run_
    case l => decide
    case k =>
      intro w
      kernel_rfl
/-- every one of these addresses lies below d -/
structure LtAll (as : List Addr) (d : Addr) : Prop where
  all : ∀ a ∈ as, @LT.lt Nat _ a d
inductive Fsts : List (Addr × Obj) → List Addr → Prop
  | nil : Fsts [] []
  | cons {a : Addr} {o : Obj} {l : List (Addr × Obj)} {as : List Addr} : Fsts l as → Fsts ((a, o) :: l) (a :: as)
  | rest {l : List (Addr × Obj)} : Fsts l (l.map (·.1))
theorem Fsts.eq {l : List (Addr × Obj)} {as : List Addr} (h : Fsts l as) : l.map (·.1) = as := by
  induction h with
  | nil => rfl
  | cons _ ih => rw [List.map_cons, ih]
  | rest => rfl
theorem ltAll_of {l : List (Addr × Obj)} {d : Addr} {as : List Addr} (h : ∀ p ∈ l, p.1 < d) (e : Fsts l as) : LtAll as d :=
  ⟨fun _ ha => by rw [← e.eq] at ha; obtain ⟨p, hp, rfl⟩ := List.mem_map.mp ha; exact h p hp⟩
theorem LtAll.lt {as : List Addr} {a d : Addr} (h : LtAll as d) (m : a ∈ as) : @LT.lt Nat _ a d := h.all a m
theorem LtAll.ne {as : List Addr} {a d : Addr} (h : LtAll as d) (m : a ∈ as) : a ≠ d := Nat.ne_of_lt (h.all a m)
theorem LtAll.ne' {as : List Addr} {a d : Addr} (h : LtAll as d) (m : a ∈ as) : d ≠ a := Nat.ne_of_gt (h.all a m)
theorem LtAll.up {as : List Addr} {a b : Addr} (h : LtAll as a) (l : @LT.lt Nat _ a b) : LtAll (a :: as) b :=
  ⟨fun c hc => by rcases List.mem_cons.mp hc with rfl | hc; exact l; exact Nat.lt_trans (h.all c hc) l⟩
theorem LtAll.off {as : List Addr} {d : Addr} {l : List (Addr × Obj)} (h : LtAll as d) (e : as = l.map (·.1)) : ∀ p ∈ l, p.1 ≠ d := by
  subst e
  exact fun p hp => Nat.ne_of_lt (h.all _ (List.mem_map.mpr ⟨p, hp, rfl⟩))
/-- a rises along the list -/
noncomputable def Asc : List Addr → Prop
  | [] => True
  | [_] => True
  | [a, b] => @LT.lt Nat _ a b
  | a :: b :: c :: l => @LT.lt Nat _ a b ∧ Asc (b :: c :: l)
inductive Bef : Addr → Addr → List Addr → Prop
  | head {a b : Addr} {l : List Addr} : b ∈ l → Bef a b (a :: l)
  | tail {a b c : Addr} {l : List Addr} : Bef a b l → Bef a b (c :: l)
theorem Asc.tail {a : Addr} : ∀ {l : List Addr}, Asc (a :: l) → Asc l
  | [], _ => trivial
  | [_], _ => trivial
  | _ :: _ :: _, h => h.2
theorem Asc.first {a b : Addr} : ∀ {l : List Addr}, Asc (a :: b :: l) → @LT.lt Nat _ a b
  | [], h => h
  | _ :: _, h => h.1
theorem Asc.heads {b : Addr} : ∀ {l : List Addr} {a : Addr}, Asc (a :: l) → b ∈ l → @LT.lt Nat _ a b
  | c :: l, a, h, m => by
    rcases List.mem_cons.mp m with rfl | m
    · exact h.first
    · exact Nat.lt_trans h.first (Asc.heads h.tail m)
theorem Asc.lt {a b : Addr} {l : List Addr} (h : Asc l) (m : Bef a b l) : @LT.lt Nat _ a b := by
  induction m with
  | head m => exact h.heads m
  | tail _ ih => exact ih h.tail
inductive Apart (a b : Addr) : List Addr → Prop
  | hl {l : List Addr} : b ∈ l → Apart a b (a :: l)
  | hr {l : List Addr} : a ∈ l → Apart a b (b :: l)
  | tail {c : Addr} {l : List Addr} : Apart a b l → Apart a b (c :: l)
theorem Asc.ne {a b : Addr} {l : List Addr} (h : Asc l) (m : Apart a b l) : a ≠ b := by
  induction m with
  | hl m => exact Nat.ne_of_lt (h.heads m)
  | hr m => exact Nat.ne_of_gt (h.heads m)
  | tail _ ih => exact ih h.tail
theorem asc_cons {a b : Addr} {l : List Addr} (h : @LT.lt Nat _ a b) (r : Asc (b :: l)) : Asc (a :: b :: l) := match l, r with
  | [], _ => h
  | _ :: _, r => ⟨h, r⟩
theorem asc_one {a : Addr} : Asc [a] := trivial
theorem roomLe {n d k R : Nat} (h : d + n < R) (e : Nat.ble k n = true) : d + k < R := Nat.lt_of_le_of_lt (Nat.add_le_add_left (Nat.le_of_ble_eq_true e) d) h
/-- a parts from all of l -/
structure Out (a : Addr) (l : List Addr) : Prop where
  all : ∀ b ∈ l, a ≠ b
theorem Out.ne {a b : Addr} {l : List Addr} (x : Out a l) (h : b ∈ l) : a ≠ b := x.all b h
theorem Out.ne' {a b : Addr} {l : List Addr} (x : Out a l) (h : b ∈ l) : b ≠ a := Ne.symm (x.all b h)
theorem Out.sub {a : Addr} {l l' : List Addr} (x : Out a l) (h : ∀ b ∈ l', b ∈ l) : Out a l' := ⟨fun b hb => x.all b (h b hb)⟩
theorem Out.cons {a b : Addr} {l : List Addr} (h : a ≠ b) (x : Out a l) : Out a (b :: l) := ⟨List.forall_mem_cons.mpr ⟨h, x.all⟩⟩
theorem all_cons {a d : Addr} {o : Obj} {l : List (Addr × Obj)} (h : a ≠ d) (r : ∀ p ∈ l, p.1 ≠ d) : ∀ p ∈ (a, o) :: l, p.1 ≠ d := List.forall_mem_cons.mpr ⟨h, r⟩
theorem updF_tail {d a : Addr} {o q : Obj} {r : List (Addr × Obj)} {g : Obj → List (Addr × Obj)} (h : a ≠ d) (u : UpdF d o r g) : UpdF d o ((a, q) :: r) (fun o' => (a, q) :: g o') := .tail h u
theorem upd_tail {d a : Addr} {o o' q : Obj} {r r' : List (Addr × Obj)} (h : a ≠ d) (u : Upd d o o' r r') : Upd d o o' ((a, q) :: r) ((a, q) :: r') := .tail h u
theorem fillK (w : World) (h : Heap) (X : (K39 w.params).In h) : (K39 w.params).In h ∧ PySem.Challenge.rw_bc0032_01 = PySem.Challenge.rw_bc0032_01 := by
  w_top off
  k_fill
  exact ⟨X, rfl⟩
section sM1
noncomputable abbrev PG : Program := PySem.Challenge.rw_bc0032_01.row.prog


/- the text's own parts, by projection -/
noncomputable def lawBody : List Stmt := match PySem.Challenge.pw_bc0032_01.main.body.drop 19 with
  | .FunctionDef _ _ b _ _ _ _ _ _ _ :: _ => b
  | _ => []
noncomputable def nmParams : Arguments := match lawBody.drop 1 with
  | .FunctionDef _ a _ _ _ _ _ _ _ _ :: _ => a
  | _ => default
noncomputable def nmBody : List Stmt := match lawBody.drop 1 with
  | .FunctionDef _ _ b _ _ _ _ _ _ _ :: _ => b
  | _ => []
noncomputable def nmScope : Scope := match lawBody.drop 1 with
  | .FunctionDef _ _ _ _ _ _ s _ _ _ :: _ => s
  | _ => default

/-- f names octets by the dict d -/
noncomputable def NF (h : Heap) (f d : Addr) : Prop :=
  ∃ (q : Str) (doc pm : Value) (c cl : Addr) (ct : Value) (oc : Obj),
    h.get? f = some (fnMade (Str.ofString "name_of") q nmParams nmBody nmScope [(Str.ofString "names", cl)] doc pm c ct) ∧
    h.CodeRec (.ref c) q ∧ h.get? cl = some oc ∧ oc.data = .cell (some (.ref d))

theorem NF.keeps {h h' : Heap} {f d : Addr} (x : NF h f d) (k : ∀ b o, h.get? b = some o → h'.get? b = some o) : NF h' f d :=
  let ⟨q, doc, pm, c, cl, ct, oc, a, b, e, g⟩ := x
  ⟨q, doc, pm, c, cl, ct, oc, k _ _ a, b.keeps k, k _ _ e, g⟩

theorem NF.fnAt {h : Heap} {f d : Addr} (x : NF h f d) : FnAt f h :=
  let ⟨_, _, _, _, _, _, _, a, _⟩ := x
  ⟨_, _, _, _, a⟩
end sM1
section sM2
section
variable {prog : Program} {w : World} {A₀ A : Around} {s : Shared} {base h₀ : Heap} {outer : List Env} {L : Addr} {m : Str → Option Value} {env : Env} {news : List (Addr × Obj)} {K : Frag} {p : Program} {loose : List Str} {mean : ExcName → Option Value} {mg mb : Str → Option Value}
  {R : Result → Shared → Prop} {name qual : Str} {params : Arguments} {body : List Stmt} {scope : Scope} {cl : List (Str × Addr)} {dV kV doc pm cdv ct : Value} {an : Option Addr} {fo : Obj} {f : Addr} {args : Args} {binds : List (Str × Value)}

/-- into a def of any kind: the new ground keeps all that stood but the ledger's own objects -/
theorem enterX (B : Below A₀ base outer h₀) (F : Fr h₀ L s.heap m) (X : K.In h₀) (N : News h₀ L s.heap news) (T : Top p loose mean mg mb h₀) (hA : A.frames = some (env :: outer)) (hf : env.frame = some L) (hke : env.scope.kind = .function)
    (ho : s.heap.get? f = some fo) (hd : fo.data = .func (fnX name qual params body scope cl dV kV doc pm an cdv ct)) (hcd : s.heap.CodeRec cdv qual) (hroom : A.depth < recursionLimit)
    (hbind : BindsTo s (fnX name qual params body scope cl dV kV doc pm an cdv ct) args binds) (hloc : ∀ y ∈ binds, scope.names.lookup y.1 = some .local)
    (h : ∀ g L' h₁, Fr g L' h₁ (fun y => binds.reverse.lookup y) → News g L' h₁ news → Below A base (env :: outer) g → K.In g → Top p loose mean mg mb g →
      (∀ b o, s.heap.get? b = some o → b ∉ news.map (·.1) → g.get? b = some o) →
      wpAny (model prog w) (A.deeper (envX qual scope L' f cdv cl)) (execs body (envX qual scope L' f cdv cl))
        (fun fl s' => R (.ok (.ret (match fl with | .ret v => v | _ => .none))) s')
        (fun e s' => wpAny (model prog w) (A.deeper (envX qual scope L' f cdv cl)) (leaving (envX qual scope L' f cdv cl) e) (fun _ s'' => R (.error e) s'') (fun e' s'' => R (.error e') s'') s')
        { s with heap := h₁, toks := s.toks + binds.length })
    (hcell : ∀ x ∈ scope.names, x.2 ≠ .cell) (hco : scope.isCoroutine = false := by rfl) (hgen : scope.isGenerator = false := by rfl) (hk : scope.kind = .function := by rfl) : codeAny (model prog w) A (.call (.ref f) args) R s := by
  obtain ⟨FG, BG, st, _⟩ := groundX (R := R) B F N hA hf hke
  refine codeAny_call_def (fd := fnX name qual params body scope cl dV kV doc pm an cdv ct) (body := body) (binds := binds) hroom ho hd (T.nolimit.keeps F.keep) hcd rfl hbind hcell hloc (fun h₁ hns hk₁ => ?_) hco hgen hk
  exact h _ s.heap.objs.size h₁ ⟨hns, fun b o e => hk₁ b o (of_hideAll _ e), Nat.le_of_eq (hideAll_size _ _)⟩
    (fun p hp => ⟨hk₁ _ _ (N p hp).1, Nat.ne_of_lt (Heap.lt_size (N p hp).1), hideAll_none _ (List.mem_map_of_mem hp)⟩) BG (X.keeps st) (T.keeps st) (fun b o e hb => hideAll_get _ e hb)

theorem enterK {oc : Value} {od : Option Addr} {osl : Array (Option Value)} (B : Below A₀ base outer h₀) (F : Fr h₀ L s.heap m) (X : K.In h₀) (N : News h₀ L s.heap news) (T : Top p loose mean mg mb h₀) (hA : A.frames = some (env :: outer)) (hf : env.frame = some L) (hke : env.scope.kind = .function)
    (ho : K.lookup f = some ⟨oc, od, .func (fnOf name qual params body scope dV kV doc pm an cdv ct), osl⟩) (hcd : codeIn K cdv qual = true) (hroom : A.depth < recursionLimit)
    (hbind : BindsTo s (fnOf name qual params body scope dV kV doc pm an cdv ct) args binds) (hloc : ∀ y ∈ binds, scope.names.lookup y.1 = some .local)
    (h : ∀ g L' h₁, Fr g L' h₁ (fun y => binds.reverse.lookup y) → News g L' h₁ news → Below A base (env :: outer) g → K.In g → Top p loose mean mg mb g →
      (∀ b o, s.heap.get? b = some o → b ∉ news.map (·.1) → g.get? b = some o) →
      wpAny (model prog w) (A.deeper (envOf qual scope L' f cdv)) (execs body (envOf qual scope L' f cdv))
        (fun fl s' => R (.ok (.ret (match fl with | .ret v => v | _ => .none))) s')
        (fun e s' => wpAny (model prog w) (A.deeper (envOf qual scope L' f cdv)) (leaving (envOf qual scope L' f cdv) e) (fun _ s'' => R (.error e) s'') (fun e' s'' => R (.error e') s'') s')
        { s with heap := h₁, toks := s.toks + binds.length })
    (hcell : ∀ x ∈ scope.names, x.2 ≠ .cell) (hco : scope.isCoroutine = false) (hgen : scope.isGenerator = false) (hk : scope.kind = .function) : codeAny (model prog w) A (.call (.ref f) args) R s :=
  enterX (cl := []) B F X N T hA hf hke ((X.keeps F.keep) _ _ ho) rfl (codeRec_of (X.keeps F.keep) hcd) hroom hbind hloc h hcell hco hgen hk
end

/-- the caller's side: what stood stands, but for the turned -/
noncomputable def Kept (S : List Addr) (h h' : Heap) : Prop := ∀ b o, h.get? b = some o → b ∉ S → h'.get? b = some o

theorem Kept.fr {S : List Addr} {h₀ h h' : Heap} {L : Addr} {m : Str → Option Value} {news : List (Addr × Obj)} (k : Kept S h h') (F : Fr h₀ L h m) (N : News h₀ L h news) (hS : ∀ a ∈ S, a ∈ news.map (·.1)) : Fr h₀ L h' m := by
  have nS : ∀ a ∈ S, a ≠ L ∧ h₀.get? a = none := fun a ha => by
    obtain ⟨p, hp, rfl⟩ := List.mem_map.mp (hS a ha)
    exact (N p hp).2
  obtain ⟨o, es, ep, hL, r⟩ := F.ns
  refine ⟨⟨o, es, ep, k _ _ hL (fun q => (nS L q).1 rfl), r⟩, fun b x e => k _ _ (F.keep b x e) (fun q => ?_), F.above⟩
  rw [(nS b q).2] at e; cases e

/-- a ledger turned at S -/
inductive Moved (S : List (Addr × Obj)) : List (Addr × Obj) → List (Addr × Obj) → Prop
  | nil : Moved S [] []
  | keep {p : Addr × Obj} {r r' : List (Addr × Obj)} : (∀ q ∈ S, p.1 ≠ q.1) → Moved S r r' → Moved S (p :: r) (p :: r')
  | turn {a : Addr} {o o' : Obj} {r r' : List (Addr × Obj)} : (a, o') ∈ S → Moved S r r' → Moved S ((a, o) :: r) ((a, o') :: r')

theorem Kept.news {S : List (Addr × Obj)} {h₀ h h' : Heap} {L : Addr} {news news' : List (Addr × Obj)} (k : Kept (S.map (·.1)) h h') (hS : ∀ q ∈ S, h'.get? q.1 = some q.2) (M : Moved S news news') :
    News h₀ L h news → News h₀ L h' news' := by
  induction M with
  | nil => exact fun _ _ hp => nomatch hp
  | keep hn _ ih =>
    intro N p hp
    rcases List.mem_cons.mp hp with rfl | hp
    · have P := N p (.head _)
      refine ⟨k _ _ P.1 (fun q => ?_), P.2⟩
      obtain ⟨x, hx, e⟩ := List.mem_map.mp q
      exact hn x hx e.symm
    · exact ih (fun q hq => N q (.tail _ hq)) p hp
  | turn hm _ ih =>
    intro N p hp
    rcases List.mem_cons.mp hp with rfl | hp
    · exact ⟨hS _ hm, (N _ (.head _)).2⟩
    · exact ih (fun q hq => N q (.tail _ hq)) p hp

/- the i-th name: 32 octets -/
noncomputable def be32 (n : Nat) : List UInt8 := (KTBy.low (n : Int) 32).reverse
theorem be32_length (n : Nat) : (be32 n).length = 32 := by rw [be32, List.length_reverse, KTBy.low_length]
theorem little_inj : ∀ (k : Nat) (x y : Int), 0 ≤ x → 0 ≤ y → x < 256 ^ k → y < 256 ^ k → KTBy.little k x = KTBy.little k y → x = y
  | 0, x, y, hx, hy, h1, h2, _ => by
    rw [Int.pow_zero] at h1 h2
    omega
  | k + 1, x, y, hx, hy, h1, h2, h => by
    rw [Int.pow_succ] at h1 h2
    injection h with a b
    have := little_inj k (x / 256) (y / 256) (by omega) (by omega) (by omega) (by omega) b
    omega
theorem u8_ints_inj : ∀ (a b : List UInt8), a.map (fun c => ((c.toNat : Nat) : Int)) = b.map (fun c => ((c.toNat : Nat) : Int)) → a = b
  | [], [], _ => rfl
  | [], _ :: _, h => nomatch h
  | _ :: _, [], h => nomatch h
  | x :: a, y :: b, h => by
    injection h with h1 h2
    rw [u8_ints_inj a b h2]
    congr 1
    have h1' : ((x.toNat : Nat) : Int) = ((y.toNat : Nat) : Int) := h1
    exact UInt8.toNat_inj.mp (by omega)
theorem be32_inj {i j : Nat} (hi : i < 256 ^ 8) (hj : j < 256 ^ 8) (h : be32 i = be32 j) : i = j := by
  have e := List.reverse_inj.mp h
  have e2 := congrArg (fun l => l.map (fun c : UInt8 => ((c.toNat : Nat) : Int))) e
  have big : ∀ n : Nat, n < 256 ^ 8 → (n : Int) < 256 ^ 32 := fun n hn => by
    have : ((256 : Int) ^ 32) = 256 ^ 8 * 256 ^ 24 := by decide
    omega
  simp only [KTBy.low_ints (Int.natCast_nonneg i) (big i hi), KTBy.low_ints (Int.natCast_nonneg j) (big j hj), ← KTBy.little_eq] at e2
  have := little_inj 32 i j (Int.natCast_nonneg i) (Int.natCast_nonneg j) (big i hi) (big j hj) e2
  omega

/-- int.to_bytes at 32 octets -/
theorem to_bytes32 {prog : Program} {w : World} {A : Around} {E : Value → Shared → Prop} {s : Shared} {n : Nat} {t u v : Tok} {Q : Value → Shared → Prop} (h1 : n < 256 ^ 8)
    (h : ∀ t' k', Q (.bytes (be32 n).toArray t') { s with toks := k' }) :
    wpAny (model prog w) A (call (.builtin "int.to_bytes") [.int (n : Int) t, .int 32 u, .str (PySem.Str.ofString "big") v]) Q E s := by
  have hbits : Builtin.Int.intBits (n : Int) ≤ 64 := KTBy.bits_le (k := 8) (x := (n : Int)) rfl (Int.natCast_nonneg n) (by
    have e : ((256 : Int) ^ 8) = ((256 ^ 8 : Nat) : Int) := KTBy.p256 8
    omega)
  refine wpAny_call_entry KTBy.slot (typeIs_int s n t) KTBy.entry ?_ (KTBy.args _ _ _)
  show wpAny _ _ (Builtin.Int.intOfSelf (.int (n : Int) t) >>= fun y => _) _ _ s
  refine wpAny_bind (wpAny_of_eq (a := (n : Int)) rfl ?_)
  show wpAny _ _ (Builtin.Int.intBindNamed "to_bytes" ["length", "byteorder", "signed"] 0 2 [.int 32 u, .str (PySem.Str.ofString "big") v] [] >>= fun l => _) _ _ s
  refine wpAny_bind (wpAny_of_eq (a := [some (.int 32 u), some (.str (PySem.Str.ofString "big") v), none]) (by kernel_rfl) ?_)
  show wpAny _ _ (Builtin.Int.intIndex "int.to_bytes" (.int 32 u) >>= fun n => _) _ _ s
  refine wpAny_bind (wpAny_of_eq (a := (32 : Int)) rfl ?_)
  refine KTBy.if_not (by decide) ?_
  refine wpAny_bind (wpAny_of_eq (a := PySem.Str.ofString "big") (by kernel_rfl) ?_)
  refine wpAny_bind (wpAny_of_eq (a := false) rfl ?_)
  refine wpAny_bind (wpAny_of_eq (a := false) (by kernel_rfl) ?_)
  refine wpAny_ite_false (decide_eq_false (show ¬ ((32 : Int) < 0) by decide)) ?_
  refine wpAny_ite_false (decide_eq_false (show ¬ ((32 : Int) > 2 ^ 63 - 1 - 33) by decide)) ?_
  refine wpAny_ite_false (decide_eq_false (show ¬ ((32 : Int) > (sizeLine : Int)) by rw [sizeLine_eq]; decide)) ?_
  refine KTBy.if_not (by show (decide ((n : Int) < 0) && !false) = false; rw [decide_eq_false (show ¬ (n : Int) < 0 by omega)]; rfl) ?_
  refine KTBy.if_not (by show (_ && decide ((Builtin.Int.intBits (n : Int) : Int) > 8 * (32 : Int))) = false; rw [decide_eq_false (show ¬ ((Builtin.Int.intBits (n : Int) : Int) > 8 * (32 : Int)) by omega), Bool.and_false]) ?_
  refine wpAny_bind (wpAny_mkBytes (wpAny_pure ⟨_, rfl, h _ _⟩) (by show (List.reverse (KTBy.low (n : Int) 32)).length ≤ sizeLine; rw [List.length_reverse, KTBy.low_length, sizeLine_eq]; decide))
end sM2
section sM3
noncomputable abbrev BK (w : World) : KeyKind PG w (List UInt8) := PySem.W.bytesKind PG w
/-- the table of names: the i-th text's name is i + 1 -/
noncomputable def NamesObj (w : World) (o : Obj) (N : List (List UInt8)) : Prop :=
  ∃ kvs : List (List UInt8 × Value), o.IsDictOf (BK w) kvs ∧ kvs.map (·.1) = N ∧ ∀ (i : Nat) (kv : List UInt8 × Value), kvs[i]? = some kv → ∃ t, kv.2 = .bytes (be32 (i + 1)).toArray t
noncomputable def nameIn (N : List (List UInt8)) (x : List UInt8) : List UInt8 := be32 (@List.idxOf _ instBEqOfDecidableEq x N + 1)

section
variable {K : Type} [DecidableEq K]
theorem valueAt_none {kvs : List (K × Value)} {k : K} (h : k ∉ kvs.map (·.1)) : valueAt kvs k = none := by
  unfold valueAt
  have : kvs.find? (fun kv => decide (kv.1 = k)) = none := by
    rw [List.find?_eq_none]
    intro x hx e
    exact h (List.mem_map.mpr ⟨x, hx, of_decide_eq_true e⟩)
  rw [this]; rfl
theorem valueAt_mem {kvs : List (K × Value)} (hn : (kvs.map (·.1)).Nodup) {k : K} (h : k ∈ kvs.map (·.1)) : ∃ v, kvs[(kvs.map (·.1)).idxOf k]? = some (k, v) ∧ valueAt kvs k = some v := by
  have hlt := List.idxOf_lt_length_iff.mpr h
  have hget := List.getElem_idxOf hlt
  rw [List.getElem_map] at hget
  have hlt' : (kvs.map (·.1)).idxOf k < kvs.length := by simpa using hlt
  have e : kvs[(kvs.map (·.1)).idxOf k]? = some (k, kvs[(kvs.map (·.1)).idxOf k].2) := by
    rw [List.getElem?_eq_getElem hlt']
    exact congrArg some (Prod.ext hget rfl)
  exact ⟨_, e, valueAt_of_get hn e⟩
theorem idxOf_snoc {N : List K} {k : K} (h : k ∉ N) : (N ++ [k]).idxOf k = N.length := by
  rw [List.idxOf_append, if_neg h, List.idxOf_cons_self, Nat.zero_add]
theorem stored_new {kvs : List (K × Value)} {k : K} {v : Value} (h : k ∉ kvs.map (·.1)) : stored kvs k v = kvs ++ [(k, v)] := by
  unfold stored
  rw [if_neg]
  intro q
  obtain ⟨x, hx, e⟩ := List.any_eq_true.mp q
  exact h (List.mem_map.mpr ⟨x, hx, of_decide_eq_true e⟩)
theorem valueAt_stored (kvs : List (K × Value)) (k : K) (v : Value) (x : K) : valueAt (stored kvs k v) x = if x = k then some v else valueAt kvs x := by
  unfold stored
  split
  · rename_i h
    unfold valueAt
    induction kvs with
    | nil => simp at h
    | cons y r ih =>
      rw [List.map_cons, List.find?_cons, List.find?_cons]
      by_cases hy : y.1 = k
      · rw [if_pos hy]
        by_cases hx : x = k
        · have : decide (y.1 = x) = true := decide_eq_true (hy.trans hx.symm)
          simp [this, hx, hy]
        · have hyx : decide (y.1 = x) = false := decide_eq_false fun e => hx (e.symm.trans hy)
          simp only [hyx]
          rw [if_neg hx]
          clear ih h
          induction r with
          | nil => rfl
          | cons z r ih2 =>
            rw [List.map_cons, List.find?_cons, List.find?_cons]
            by_cases hz : z.1 = k
            · rw [if_pos hz]
              have hzx : decide (z.1 = x) = false := decide_eq_false fun e => hx (e.symm.trans hz)
              simp only [hzx]
              exact ih2
            · rw [if_neg hz]
              by_cases hzx : z.1 = x
              · simp [hzx]
              · simp only [decide_eq_false hzx]
                exact ih2
      · rw [if_neg hy]
        have h' : (r.any fun kv => decide (kv.1 = k)) = true := by
          rw [List.any_cons, decide_eq_false hy, Bool.false_or] at h
          exact h
        by_cases hyx : y.1 = x
        · simp only [hyx, decide_true]
          rw [if_neg (fun e => hy (hyx.trans e))]
        · simp only [decide_eq_false hyx]
          exact ih h'
  · rename_i h
    unfold valueAt
    rw [List.find?_append]
    by_cases hx : x = k
    · subst hx
      have : kvs.find? (fun kv => decide (kv.1 = x)) = none := by
        rw [List.find?_eq_none]
        intro y hy e
        exact h (List.any_eq_true.mpr ⟨y, hy, e⟩)
      simp [this]
    · rw [if_neg hx]
      cases hf : kvs.find? (fun kv => decide (kv.1 = x)) with
      | some y => rfl
      | none =>
        have : decide (k = x) = false := decide_eq_false fun e => hx e.symm
        simp [List.find?_cons, this]
end

section
variable {M : Model} {A : Around} {E : Value → Shared → Prop} {s : Shared} {h₀ : Heap} {L a : Addr} {m : Str → Option Value} {cn : Str} {cs : Scope} {ccd : Value} {cl : List (Str × Addr)} {x : Str} {pos : Pos} {v : Value} {Q : Value → Shared → Prop} {c : Addr} {o : Obj}
theorem nameX_base (F : Fr h₀ L s.heap m) (hc : cl.lookup x = some c) (hm : h₀.get? c = some o) (hd : o.data = .cell (some v)) (h : Q v s)
    (hk : cs.kind = .function) (hx : (envX cn cs L a ccd cl).kindOf x = some .free) (hb : (x == ("__debug__" : Str)) = false := by decide) (hn : (x == ("__classdict__" : Str)) = false := by decide) :
    wpAny M A (eval (.Name x pos) (envX cn cs L a ccd cl)) Q E s := wpAny_Name (wpAny_loadName_free hk hx hc ⟨o, F.keep _ _ hm, hd⟩ h hn) hb
end
section
variable {prog : Program} {w : World} {A : Around} {E : Value → Shared → Prop} {s : Shared} {h₀ : Heap} {L d : Addr} {m : Str → Option Value} {news : List (Addr × Obj)} {g : Obj → List (Addr × Obj)} {o : Obj} {kvs : List (List UInt8 × Value)} {k : List UInt8} {t : Tok} {v : Value}
theorem kb_notin_hit {Q : Value → Shared → Prop} (N : News h₀ L s.heap news) (hp : (d, o) ∈ news) (hd : o.IsDictOf (bytesKind prog w) kvs) (lo : (d == sysModules) = false) (hv : valueAt kvs k = some v) (h : Q (.bool false) { s with toks := s.toks + 1 }) :
    wpAny (model prog w) A (compareOp .NotIn (.bytes k.toArray t) (.ref d)) Q E s := wpAny_notIn_of (bytesKind_is prog w k t) lo (kda_dict N hp hd).mapOf (by rw [hv]; exact h)
theorem kb_notin_miss {Q : Value → Shared → Prop} (N : News h₀ L s.heap news) (hp : (d, o) ∈ news) (hd : o.IsDictOf (bytesKind prog w) kvs) (lo : (d == sysModules) = false) (hv : valueAt kvs k = none) (h : Q (.bool true) { s with toks := s.toks + 1 }) :
    wpAny (model prog w) A (compareOp .NotIn (.bytes k.toArray t) (.ref d)) Q E s := wpAny_notIn_of (bytesKind_is prog w k t) lo (kda_dict N hp hd).mapOf (by rw [hv]; exact h)
theorem to_bytes32' {x : Int} {u v : Tok} {Q : Value → Shared → Prop} (h0 : 0 ≤ x) (h1 : x < 18446744073709551616) (h : ∀ t' k', Q (.bytes (be32 x.toNat).toArray t') { s with toks := k' }) :
    wpAny (model prog w) A (call (.builtin "int.to_bytes") [.int x t, .int 32 u, .str (PySem.Str.ofString "big") v]) Q E s := by
  obtain ⟨n, rfl⟩ := Int.eq_ofNat_of_zero_le h0
  exact to_bytes32 (n := n) (by have e : (256 : Nat) ^ 8 = 18446744073709551616 := by decide
                                omega) h
end
end sM3
section walkA
local macro_rules | `(tactic| k_room) => `(tactic| ((try simp only [depth_deeper, depth_in1, depth_under_make]); (try dsimp only [ktrTop]); first | k_dflt (exact roomLe (by with_reducible assumption) rfl) | omega))
local macro_rules | `(tactic| lcg_off) => `(tactic| first | (apply Apart.hl; k_mem) | (apply Apart.hr; k_mem) | (apply Apart.tail; lcg_off))
local macro_rules | `(tactic| tlg_ne) => `(tactic| k_dflt (first | (apply Bef.head; k_mem) | (apply Bef.tail; tlg_ne) | with_reducible assumption | (refine LtAll.lt (by with_reducible assumption) ?_; k_mem) | (refine Asc.lt (by with_reducible assumption) ?_; tlg_ne) | omega))
local macro_rules | `(tactic| k_ne) => `(tactic| (refine neN ?_; k_dflt (first | with_reducible assumption | (refine LtAll.ne (by with_reducible assumption) ?_; k_mem) | (refine LtAll.ne' (by with_reducible assumption) ?_; k_mem) | (refine Asc.ne (by with_reducible assumption) ?_; lcg_off) | (refine Out.ne (by with_reducible assumption) ?_; k_memK) | (refine Out.ne' (by with_reducible assumption) ?_; k_memK) | ((try dsimp only); omega))))
local macro_rules | `(tactic| k_all) => `(tactic| first | exact List.forall_mem_nil _ | k_dflt (exact LtAll.off (by with_reducible assumption) (by rfl)) | (refine' all_cons ?a ?b; (case a => k_ne); (case b => k_all)))
local macro_rules | `(tactic| k_updF) => `(tactic| first | (refine' UpdF.head ?a; (case a => k_all)) | (refine' updF_tail ?a ?b; (case a => k_ne); (case b => k_updF)))
local macro_rules | `(tactic| k_upd) => `(tactic| first | (refine' Upd.head ?a; (case a => k_all)) | (refine' upd_tail ?a ?b; (case a => k_ne); (case b => k_upd)))
section walkB
local macro_rules | `(tactic| k_lt $h) => `(tactic| (replace $h := ltAll_of $h (by repeat' (first | exact Fsts.nil | apply Fsts.cons | exact Fsts.rest))))
section sM4
theorem name_of_spec {w : World} {dp un : Nat} {gd : Option (List Code)} {cn : Str} {cs : Scope} {a : Addr} {ccd : Value} {cl : List (Str × Addr)} {outer : List Env} {A₀ : Around} {base h₀ : Heap} {L : Addr} {m : Str → Option Value}
    {p : Program} {loose : List Str} {mean : ExcName → Option Value} {mg mb : Str → Option Value} {s : Shared} {f d : Addr} {o : Obj} {N : List (List UInt8)} {k : List UInt8} {t : Tok} {Q E : Value → Shared → Prop}
    (B : Below A₀ base outer h₀) (F : Fr h₀ L s.heap m) (X : (K39 w.params).In h₀) (T : Top p loose mean mg mb h₀) (hk : cs.kind = .function) (hdp : dp + 8 < recursionLimit)
    (nf : NF s.heap f d) (Nw : News h₀ L s.heap [(d, o)]) (lo : (d == sysModules) = false) (ho : NamesObj w o N) (hN : N.length < 100000)
    (ret : ∀ h' t' tk' o' N', Kept [d] s.heap h' → h'.get? d = some o' → NamesObj w o' N' → (N' = if k ∈ N then N else N ++ [k]) → Q (.bytes (nameIn N' k).toArray t') { s with heap := h', toks := tk' }) :
    wpAny (model PG w) (ktrTop dp un gd cn cs L a ccd cl outer) (call (.ref f) [.bytes k.toArray t]) Q E s := by
  obtain ⟨q, doc, pm, c, cel, ct, oc, hf, hcr, hcel, hcd⟩ := nf
  conv at hf in nmParams => whnf
  conv at hf in nmBody => whnf
  conv at hf in nmScope => whnf
  refine wpAny_call ?_
  refine enterX B F X Nw T rfl rfl hk hf rfl hcr (by show dp < recursionLimit; omega) (BindsTo.of_eq rfl) (locs rfl) (fun g L' h₁ F' N' B' X' T' kept => ?_) (by decide)
  obtain ⟨kvs, hdict, hkeys, hvals⟩ := ho
  have hf' := kept _ _ hf (by
    intro q; rw [List.mem_singleton.mp q] at hf
    have := (Nw _ (.head _)).1
    rw [hf] at this; obtain ⟨es, ep, he, hd, _⟩ := hdict
    injection this with e; subst e; cases hd)
  have hcel' := kept _ _ hcel (by
    intro q; rw [List.mem_singleton.mp q] at hcel
    have := (Nw _ (.head _)).1
    rw [hcel] at this; obtain ⟨es, ep, he, hd, _⟩ := hdict
    injection this with e; subst e; rw [hcd] at hd; cases hd)
  have hnd : (kvs.map (·.1)).Nodup := by obtain ⟨_, _, _, _, _, _, h⟩ := hdict; exact h
  have hlen : kvs.length < 100000 := by rw [← hkeys, List.length_map] at hN; exact hN
  subst hkeys
  try dsimp only
  by_cases hm : k ∈ kvs.map (·.1)
  · obtain ⟨v, hv1, hv⟩ := valueAt_mem hnd hm
    obtain ⟨tv, hvv⟩ := hvals _ _ hv1
    dsimp only at hvv
    subst hvv
    try k_fold
    repeat' (first | (k_here; (with_reducible show wpAny _ _ (subscriptTail _ _ (Value.ref _) (Value.bytes _ _)) _ _ _); k_dflt (refine' kda_item (knd := bytesKind _ _) ?r6N ?r6p ?r6d (bytesKind_is _ _ _ _) ?r6v ?_; (case r6N => k_asm); (case r6p => k_mem); (case r6d => k_asm); (case r6v => first | k_asm | exact (valueAt_stored _ _ _ _).trans (if_pos rfl)))) | (k_here; (with_reducible show wpAny _ _ (compareOp CmpOp.NotIn (Value.bytes _ _) (Value.ref _)) _ _ _); k_dflt (first | (refine' kb_notin_hit ?r2N ?r2p ?r2d ?r2l ?r2v ?_; (case r2N => k_asm); (case r2p => k_mem); (case r2d => k_asm); (case r2l => k_asm); (case r2v => k_asm); k_whole) | (refine' kb_notin_miss ?r2N ?r2p ?r2d ?r2l ?r2v ?_; (case r2N => k_asm); (case r2p => k_mem); (case r2d => k_asm); (case r2l => k_asm); (case r2v => k_asm); k_whole))) | (k_here; (with_reducible show wpAny _ _ (eval (Expr.Name _ _) _) _ _ _); k_dflt (refine' nameX_base ?r1F ?r1c ?r1m ?r1d ?_ ?r1a ?r1b; (case r1a => rfl); (case r1b => rfl); (case r1F => k_asm); (case r1c => rfl); (case r1m => k_asm); (case r1d => k_asm); k_whole)) | (k_unfold; (try dsimp only)) | walk1 | (dsimp only; walk1) | (leave1; (try dsimp only)))
    rename News g L' _ _ => NE
    rename Fr g L' _ _ => FE
    dsimp only
    have e1 : be32 (@List.idxOf _ instBEqOfDecidableEq k (List.map (fun x => x.1) kvs) + 1) = nameIn (kvs.map (·.1)) k := rfl
    rw [e1]
    with_reducible refine ret _ _ _ o (kvs.map (·.1)) ?a1 ?a2 ?a3 ?a4
    case a1 => exact (fun b ob e hb => FE.keep _ _ (kept _ _ e hb))
    case a2 => exact (NE _ (.head _)).1
    case a3 => exact ⟨kvs, hdict, rfl, hvals⟩
    case a4 => exact (if_pos hm).symm
  · have hv := valueAt_none (k := k) hm
    try k_fold
    repeat' (first | (k_here; (with_reducible show wpAny _ _ (subscriptTail _ _ (Value.ref _) (Value.bytes _ _)) _ _ _); k_dflt (refine' kda_item (knd := bytesKind _ _) ?r6N ?r6p ?r6d (bytesKind_is _ _ _ _) ?r6v ?_; (case r6N => k_asm); (case r6p => k_mem); (case r6d => k_asm); (case r6v => first | k_asm | exact (valueAt_stored _ _ _ _).trans (if_pos rfl)))) | (k_here; (with_reducible show wpAny _ _ (setItem (Value.ref _) (Value.bytes _ _) _) _ _ _); k_dflt (refine' kda_set (knd := bytesKind _ _) ?r5F ?r5N ?r5U ?r5d (bytesKind_is _ _ _ _) ?r5z ?_; (case r5F => k_asm); (case r5N => k_asm); (case r5U => k_updF); (case r5d => k_asm); (case r5z => (rw [sizeLine_eq]; omega))); intro h' o' F' N' hd'; (try dsimp only at N'); (try k_sweep)) | (k_here; (with_reducible show wpAny _ _ (call (Value.builtin "int.to_bytes") _) _ _ _); k_dflt (refine' to_bytes32' ?r4a ?r4b ?_; (case r4a => omega); (case r4b => omega)); intro _ _) | (k_here; (with_reducible show wpAny _ _ (call (Value.builtin "len") [Value.ref _]) _ _ _); k_dflt (refine' kda_len (knd := bytesKind _ _) ?r3N ?r3p ?r3d ?r3l ?r3z ?_; (case r3N => k_asm); (case r3p => k_mem); (case r3d => k_asm); (case r3l => k_asm); (case r3z => omega); k_whole)) | (k_here; (with_reducible show wpAny _ _ (compareOp CmpOp.NotIn (Value.bytes _ _) (Value.ref _)) _ _ _); k_dflt (first | (refine' kb_notin_hit ?r2N ?r2p ?r2d ?r2l ?r2v ?_; (case r2N => k_asm); (case r2p => k_mem); (case r2d => k_asm); (case r2l => k_asm); (case r2v => k_asm); k_whole) | (refine' kb_notin_miss ?r2N ?r2p ?r2d ?r2l ?r2v ?_; (case r2N => k_asm); (case r2p => k_mem); (case r2d => k_asm); (case r2l => k_asm); (case r2v => k_asm); k_whole))) | (k_here; (with_reducible show wpAny _ _ (eval (Expr.Name _ _) _) _ _ _); k_dflt (refine' nameX_base ?r1F ?r1c ?r1m ?r1d ?_ ?r1a ?r1b; (case r1a => rfl); (case r1b => rfl); (case r1F => k_asm); (case r1c => rfl); (case r1m => k_asm); (case r1d => k_asm); k_whole)) | (k_unfold; (try dsimp only)) | walk1 | (dsimp only; walk1) | (leave1; (try dsimp only)))
    rename News g L' _ _ => NE
    rename Fr g L' _ _ => FE
    rename Obj.IsDictOf _ _ (stored _ _ _) => hst
    rw [stored_new hm] at hst
    dsimp only
    have e : be32 ((kvs.length : Int) + 1).toNat = nameIn (kvs.map (·.1) ++ [k]) k := by
      unfold nameIn
      rw [idxOf_snoc hm, List.length_map]
      congr 1
    rw [e]
    with_reducible refine' ret _ _ _ ?bo (kvs.map (·.1) ++ [k]) ?b1 ?b2 ?b3 ?b4
    case b2 => exact (NE _ (.head _)).1
    case b1 => exact (fun b ob e hb => FE.keep _ _ (kept _ _ e hb))
    case b4 => exact (if_neg hm).symm
    refine ⟨_, hst, by rw [List.map_append]; rfl, fun i kv hi => ?_⟩
    rcases Nat.lt_or_ge i kvs.length with hlt | hge
    · rw [List.getElem?_append_left hlt] at hi
      exact hvals i kv hi
    · rw [List.getElem?_append_right hge] at hi
      have hi0 : i = kvs.length := by
        rcases Nat.eq_or_lt_of_le hge with h | h
        · exact h.symm
        · rw [List.getElem?_eq_none (by simp; omega)] at hi; cases hi
      subst hi0
      rw [Nat.sub_self] at hi
      cases hi
      exact ⟨_, by rw [show ((kvs.length : Int) + 1).toNat = kvs.length + 1 by omega]⟩
end sM4
section sM5
/-- a tree that the walk does not take -/
noncomputable def Halt (P : Prop) : Prop := P
theorem halt {P : Prop} (h : Halt P) : P := h
theorem haltInv {h₀ : Heap} {L : Addr} {J : (Str → Option Value) → List (Addr × Obj) → Prop} {own : List (Addr × Obj)} {adr : List Addr} {s₁ : Shared} {Q : Flow → Shared → Prop} {f : Flow} {s₂ : Shared} (h : Halt (InvPostN h₀ L J own adr s₁ Q f s₂)) : InvPostN h₀ L J own adr s₁ Q f s₂ := h

/-- values that are the given octets -/
inductive BytesAre : List Value → List (List UInt8) → Prop
  | nil : BytesAre [] []
  | cons {x : List UInt8} {t : Tok} {vs : List Value} {xs : List (List UInt8)} : BytesAre vs xs → BytesAre (.bytes x.toArray t :: vs) (x :: xs)
theorem BytesAre.snoc {vs : List Value} {xs : List (List UInt8)} {x : List UInt8} {t : Tok} (h : BytesAre vs xs) : BytesAre (vs ++ [.bytes x.toArray t]) (xs ++ [x]) := by
  induction h with
  | nil => exact .cons .nil
  | cons _ ih => exact .cons ih
theorem BytesAre.append {vs us : List Value} {xs ys : List (List UInt8)} (h : BytesAre vs xs) (h' : BytesAre us ys) : BytesAre (vs ++ us) (xs ++ ys) := by
  induction h with
  | nil => exact h'
  | cons _ ih => exact .cons ih
theorem BytesAre.reverse {vs : List Value} {xs : List (List UInt8)} (h : BytesAre vs xs) : BytesAre vs.reverse xs.reverse := by
  induction h with
  | nil => exact .nil
  | cons _ ih => rw [List.reverse_cons, List.reverse_cons]; exact ih.append (.cons .nil)
theorem BytesAre.length {vs : List Value} {xs : List (List UInt8)} (h : BytesAre vs xs) : vs.length = xs.length := by
  induction h with
  | nil => rfl
  | cons _ ih => rw [List.length_cons, List.length_cons, ih]
theorem BytesAre.at {vs : List Value} {xs : List (List UInt8)} (h : BytesAre vs xs) : ∀ {i : Nat} {x : List UInt8}, xs[i]? = some x → ∃ t, vs[i]? = some (.bytes x.toArray t) := by
  induction h with
  | nil => intro i x e; simp at e
  | cons h ih =>
    intro i x e
    cases i with
    | zero => simp only [List.getElem?_cons_zero, Option.some.injEq] at e; subst e; exact ⟨_, rfl⟩
    | succ i => exact ih (by simpa using e)

noncomputable abbrev tupObj (vs : List Value) : Obj := { cls := .type "tuple", data := .seq vs.toArray }

/-- a tree's own table of attributes -/
noncomputable abbrev treeAttrs (P : Params) (τ : Nat → Tok) (dflt root : List UInt8) (f db : Addr) : List DictEntry :=
  [⟨PyData.keyHash P (Str.ofString "_key_size"), .str (Str.ofString "_key_size") (τ 0), .int 1 (τ 1)⟩,
   ⟨PyData.keyHash P (Str.ofString "depth"), .str (Str.ofString "depth") (τ 2), .int 8 (τ 3)⟩,
   ⟨PyData.keyHash P (Str.ofString "_default"), .str (Str.ofString "_default") (τ 4), .bytes dflt.toArray (τ 5)⟩,
   ⟨PyData.keyHash P (Str.ofString "hash_of"), .str (Str.ofString "hash_of") (τ 6), .ref f⟩,
   ⟨PyData.keyHash P (Str.ofString "db"), .str (Str.ofString "db") (τ 7), .ref db⟩,
   ⟨PyData.keyHash P (Str.ofString "root_hash"), .str (Str.ofString "root_hash") (τ 8), .bytes root.toArray (τ 9)⟩]

/-- a frame's names, those that are known said outright -/
theorem Fr.known {h₀ h : Heap} {L : Addr} {m : Str → Option Value} (F : Fr h₀ L h m) (l : List (Str × Value)) (e : ∀ p ∈ l, m p.1 = some p.2) :
    Fr h₀ L h (fun y => match l.lookup y with | some v => some v | none => m y) := by
  have : (fun y => match l.lookup y with | some v => some v | none => m y) = m := by
    funext y
    split
    · rename_i v hv
      induction l with
      | nil => cases hv
      | cons p r ih =>
        rw [List.lookup_cons] at hv
        cases hb : y == p.1 with
        | true =>
          rw [hb] at hv
          cases hv
          rw [beq_iff_eq.mp hb]
          exact (e p (.head _)).symm
        | false =>
          rw [hb] at hv
          exact ih (fun q hq => e q (.tail _ hq)) hv
    · rfl
  rw [this]; exact F

theorem Fr.knownX {h₀ h : Heap} {L : Addr} {m : Str → Option Value} {x : Str} {v : Value} (F : Fr h₀ L h (fun y => if y = x then some v else m y)) (l : List (Str × Value)) (e : ∀ p ∈ l, m p.1 = some p.2) (hx : ∀ p ∈ l, p.1 ≠ x) :
    Fr h₀ L h (fun y => match l.lookup y with | some v => some v | none => if y = x then some v else m y) :=
  Fr.known F l fun p hp => by rw [if_neg (hx p hp)]; exact e p hp
theorem ne_lit {a b : Str} {v : Value} (h : a ≠ b) : (a, v).1 ≠ b := h
theorem drop1 {h₀ h : Heap} {L : Addr} {q : Addr × Obj} {r : List (Addr × Obj)} (N : News h₀ L h (q :: r)) : News h₀ L h r := fun p hp => N p (.tail _ hp)

section
variable {prog : Program} {w : World} {A : Around} {E : Value → Shared → Prop} {s : Shared} {env : Env} {h₀ : Heap} {x : Str} {body : List Stmt} {Q : Flow → Shared → Prop}
/-- a loop over a range from nought by what holds at its turns -/
theorem loop_range {r : Addr} {t₀ u₀ v₀ : Tok} {n : Nat} {m₀ : Str → Option Value} {news : List (Addr × Obj)} (J : Nat → (Str → Option Value) → List (Addr × Obj) → Prop)
    (hh : A.handled = none) (hr : IsRange s.heap r 0 (n : Int) 1 t₀ u₀ v₀) (hsmall : Builtin.Range.small 0 (n : Int) 1 = true) (hn : Builtin.Range.rangeSize 0 (n : Int) 1 = (n : Int)) (F : Fr h₀ env.locals s.heap m₀) (N : News h₀ env.locals s.heap news) (hj : J 0 m₀ news)
    (turn : ∀ (i : Nat) t m₁ news₁ h tk own, i < n → OwnOff own (news.map (·.1)) → J i m₁ news₁ → Fr h₀ env.locals h (fun y => if y = x then some (.int (i : Int) t) else m₁ y) → News h₀ env.locals h (news₁ ++ own) →
      wpAny (model prog w) A (execs body env) (InvPostN h₀ env.locals (J (i + 1)) own (news.map (·.1)) { s with heap := h, toks := tk } Q) E { s with heap := h, toks := tk })
    (done : ∀ m₁ news₁ h tk, J n m₁ news₁ → Fr h₀ env.locals h m₁ → News h₀ env.locals h news₁ → Q .next { s with heap := h, toks := tk }) :
    wpAny (model prog w) A (pyIter (.ref r)) (fun it s₂ => LoopAtV prog w A h₀ env x body Q E it s₂) E s := by
  refine wpAny_pyIter_range hr hsmall ?_
  have W : Walks prog w A s.heap.objs.size [s.heap.objs.size] [s.heap.objs.size] n (fun i v => i < n ∧ ∃ t, v = .int (0 + i * 1) t)
      (fun i h => IsRangeIter h s.heap.objs.size (0 + (i : Nat) * 1) ((n : Int) - (i : Nat)) 1) := (Walks.range hh _ 0 1 n).bound
  refine loop_invN J W ?_ ?_ ?_ ?_ (by show IsRangeIter _ _ _ _ _; rw [hn]; simpa using Heap.get?_push_size _ rfl) (F.push _) (fun p hp => ⟨Heap.get?_push_of_some _ (N p hp).1, (N p hp).2⟩) hj ?_ ?_
  · intro hm
    exact absurd F.ns.lt ((List.mem_singleton.mp hm) ▸ Nat.lt_irrefl _)
  · intro b hb
    rw [List.mem_singleton.mp hb]
    exact next_is_new F
  · intro p hp hI
    exact absurd (Heap.lt_size (N p hp).1) ((List.mem_singleton.mp hI) ▸ Nat.lt_irrefl _)
  · intro p hp hI
    exact absurd (Heap.lt_size (N p hp).1) ((List.mem_singleton.mp hI) ▸ Nat.lt_irrefl _)
  · rintro i v m₁ news₁ h tk own hin ⟨_, t, rfl⟩ _ hsep hJ F₁ N₁
    have e : (0 : Int) + (i : Int) * 1 = (i : Int) := by omega
    rw [e] at F₁
    exact turn i t m₁ news₁ h tk own hin hsep hJ F₁ N₁
  · exact done
end

theorem picked_lo {l r : List UInt8} (hl : l.length = 32) : KBy.picked (l ++ r).toArray none (some 32) = l.toArray := by
  rw [KBc.picked_eq]
  have e : clipAt (l ++ r).toArray.size 32 = 32 := by
    rw [show (32 : Int) = ((32 : Nat) : Int) from rfl, clipAt_nat, List.size_toArray, List.length_append]; omega
  simp only [Option.elim, e, List.drop_zero, Nat.sub_zero]
  congr 1
  rw [← hl, List.take_left']
  rfl
theorem picked_hi {l r : List UInt8} (hl : l.length = 32) : KBy.picked (l ++ r).toArray (some 32) none = r.toArray := by
  rw [KBc.picked_eq]
  have e : clipAt (l ++ r).toArray.size 32 = 32 := by
    rw [show (32 : Int) = ((32 : Nat) : Int) from rfl, clipAt_nat, List.size_toArray, List.length_append]; omega
  simp only [Option.elim, e]
  congr 1
  show List.take ((l ++ r).toArray.size - 32) (List.drop 32 (l ++ r)) = r
  rw [List.drop_left' hl, List.size_toArray, List.length_append, hl, List.take_of_length_le (by omega)]
section
variable {prog : Program} {w : World} {A : Around} {E : Value → Shared → Prop} {s : Shared} {value slice : PySem.Expr} {t u : Tok} {h₀ : Heap} {L : Addr} {m : PySem.Str → Option Value} {news : List (Addr × Obj)} {Q : Value → Shared → Prop} {l r : List UInt8}
theorem cut_lo (hF : Fr h₀ L s.heap m) (hN : News h₀ L s.heap news) (hl : l.length = 32) (hr : r.length = 32)
    (h : ∀ h' t' k, Fr h₀ L h' m → News h₀ L h' news → Q (.bytes l.toArray t') { s with heap := h', toks := k })
    (hs : subscripted slice false (.bytes (l ++ r).toArray t) (.ref s.heap.objs.size) = operate [.ref s.heap.objs.size, .bytes (l ++ r).toArray t] (getItem (.bytes (l ++ r).toArray t) (.ref s.heap.objs.size)) := by with_unfolding_all rfl)
    (ht : ∀ x, letTemporaryGo value (.bytes (l ++ r).toArray t) x = pure () := by intro _; with_unfolding_all rfl) :
    wpAny (model prog w) A (subscriptTail value slice (.bytes (l ++ r).toArray t) (.ref s.heap.objs.size)) Q E { s with heap := s.heap.push { cls := .type "slice", data := .fields #[.none, .int 32 u, .none] } } :=
  KBc.slice_K (lo := none) (hi := some 32) hF hN (KBw.ints_list (l ++ r)) (by constructor) (by constructor) (by rw [List.length_map, List.length_append]; omega)
    (fun h' t' k F' N' _ => by rw [picked_lo hl]; exact h h' t' k F' N') hs ht
theorem cut_hi (hF : Fr h₀ L s.heap m) (hN : News h₀ L s.heap news) (hl : l.length = 32) (hr : r.length = 32)
    (h : ∀ h' t' k, Fr h₀ L h' m → News h₀ L h' news → Q (.bytes r.toArray t') { s with heap := h', toks := k })
    (hs : subscripted slice false (.bytes (l ++ r).toArray t) (.ref s.heap.objs.size) = operate [.ref s.heap.objs.size, .bytes (l ++ r).toArray t] (getItem (.bytes (l ++ r).toArray t) (.ref s.heap.objs.size)) := by with_unfolding_all rfl)
    (ht : ∀ x, letTemporaryGo value (.bytes (l ++ r).toArray t) x = pure () := by intro _; with_unfolding_all rfl) :
    wpAny (model prog w) A (subscriptTail value slice (.bytes (l ++ r).toArray t) (.ref s.heap.objs.size)) Q E { s with heap := s.heap.push { cls := .type "slice", data := .fields #[.int 32 u, .none, .none] } } :=
  KBc.slice_K (lo := some 32) (hi := none) hF hN (KBw.ints_list (l ++ r)) (by constructor) (by constructor) (by rw [List.length_map, List.length_append]; omega)
    (fun h' t' k F' N' _ => by rw [picked_hi hl]; exact h h' t' k F' N') hs ht
end

/-- one octet's key -/
noncomputable def keyB (k : Nat) : List UInt8 := [k.toUInt8]
theorem keyB_ints {k : Nat} (h : k < 256) : KBw.bInts (keyB k).toArray = [(k : Int)] := by
  have e : (k.toUInt8).toNat = k := by
    show (UInt8.ofNat k).toNat = k
    rw [UInt8.toNat_ofNat']; omega
  show [(((k.toUInt8).toNat : Nat) : Int)] = [(k : Int)]
  rw [e]

/-- the mask of level i: 128, 64, .. 1, and behind the last one 0 -/
noncomputable def maskOf (i : Nat) : Int := if i < 8 then 2 ^ (7 - i) else 0
theorem maskOf_step {i : Nat} (h : i < 8) : (maskOf i).fdiv (2 ^ Int.toNat 1) = maskOf (i + 1) := by
  have : i = 0 ∨ i = 1 ∨ i = 2 ∨ i = 3 ∨ i = 4 ∨ i = 5 ∨ i = 6 ∨ i = 7 := by omega
  rcases this with rfl | rfl | rfl | rfl | rfl | rfl | rfl | rfl <;> decide
theorem bit_mask {i k : Nat} (h : i < 8) : Builtin.bitAnd (k : Int) (maskOf i) = ((k / 2 ^ (7 - i) % 2 : Nat) : Int) * 2 ^ (7 - i) := by
  unfold maskOf
  rw [if_pos h, kbt_bit, Int.natCast_emod, Int.natCast_ediv, Int.natCast_pow]
  rfl
theorem bit_one {i k : Nat} (h : i < 8) (hb : Builtin.bitAnd (k : Int) (maskOf i) ≠ 0) : k / 2 ^ (7 - i) % 2 = 1 := by
  rw [bit_mask h] at hb
  rcases Nat.mod_two_eq_zero_or_one (k / 2 ^ (7 - i)) with e | e
  · rw [e] at hb; exact absurd (by simp) hb
  · exact e
theorem bit_zero {i k : Nat} (h : i < 8) (hb : Builtin.bitAnd (k : Int) (maskOf i) = 0) : ¬ k / 2 ^ (7 - i) % 2 = 1 := by
  intro e
  rw [bit_mask h, e] at hb
  have := kbt_pos (7 - i)
  simp only [Int.natCast_one, Int.one_mul] at hb
  omega
theorem invEnd {h₀ h' : Heap} {L : Addr} {J : (Str → Option Value) → List (Addr × Obj) → Prop} {m' : Str → Option Value} {own : List (Addr × Obj)} {adr : List Addr} {s₁ : Shared} {tk : Nat} (junk nx : List (Addr × Obj)) (F : Fr h₀ L h' m') (N : News h₀ L h' (junk ++ (nx ++ own))) (ha : nx.map (·.1) = adr) (hj : J m' nx) :
    InvEndN h₀ L J own adr s₁ { s₁ with heap := h', toks := tk } :=
  InvEndN.intro F N hj ha (fun _ hp => List.mem_append_right _ (List.mem_append_left _ hp)) (fun _ hp => List.mem_append_right _ (List.mem_append_right _ hp))
/-- what a call leaves as it was -/
theorem kept_but {h g h' h₀ : Heap} {L : Addr} {led : List (Addr × Obj)} (S : List Addr) (kept : ∀ b o, h.get? b = some o → b ∉ led.map (·.1) → g.get? b = some o) (gk : ∀ b o, g.get? b = some o → h'.get? b = some o) (N0 : News h₀ L h led)
    (N1 : ∀ p ∈ led, p.1 ∉ S → h'.get? p.1 = some p.2) : Kept S h h' := fun b o e hb => by
  by_cases hm : b ∈ led.map (·.1)
  · obtain ⟨p, hp, rfl⟩ := List.mem_map.mp hm
    have := (N0 p hp).1
    rw [e] at this
    cases this
    exact N1 p hp hb
  · exact gk _ _ (kept _ _ e hm)
theorem fresh_of {h g : Heap} {led : List (Addr × Obj)} {D : Addr} (kept : ∀ b o, h.get? b = some o → b ∉ led.map (·.1) → g.get? b = some o) (hg : g.get? D = none) (hne : ∀ p ∈ led, D ≠ p.1) : h.get? D = none := by
  cases q : h.get? D with
  | none => rfl
  | some o =>
    have := kept D o q (fun hb => by
      obtain ⟨p, hp, e⟩ := List.mem_map.mp hb
      exact hne p hp e.symm)
    rw [hg] at this; cases this
/-- a new object's place -/
theorem place_ne {h : Heap} {a b : Addr} {o o' : Obj} (e : h.get? a = some o) (e' : h.get? b = some o') (hc : o.cls ≠ o'.cls) : a ≠ b := by
  rintro rfl
  rw [e] at e'
  cases e'
  exact hc rfl
end sM5
section sM6
noncomputable def JGet (P : Params) (x dx db f : Addr) (odb : Obj) (τ : Nat → Tok) (dflt : List UInt8) (nh sib : Nat → List UInt8) (k : Nat) (lb : Addr) (i : Nat) (m : Str → Option Value) (nx : List (Addr × Obj)) : Prop :=
  ∃ (bs : List Value) (n : Nat) (z zp : Int) (t1 t2 t3 : Tok), BytesAre bs ((List.range i).map sib) ∧ nx = [(lb, W.listOf bs.toArray n), (x, instObj 235 dx), (dx, dictOf (treeAttrs P τ dflt (nh 0) f db) 6), (db, odb)] ∧
    m (Str.ofString "node_hash") = some (.bytes (nh i).toArray t1) ∧ m (Str.ofString "path") = some (.int zp t2) ∧ m (Str.ofString "target_bit") = some (.int z t3) ∧ m (Str.ofString "branch") = some (.ref lb) ∧ m (Str.ofString "self") = some (.ref x) ∧ zp = k ∧ z = maskOf i

theorem get_spec {w : World} {dp un : Nat} {gd : Option (List Code)} {cn : Str} {cs : Scope} {a : Addr} {ccd : Value} {cl : List (Str × Addr)} {outer : List Env} {A₀ : Around} {base h₀ : Heap} {L : Addr} {m : Str → Option Value}
    {p : Program} {loose : List Str} {mean : ExcName → Option Value} {mg mb : Str → Option Value} {s : Shared} {Q E : Value → Shared → Prop}
    {x dx db f : Addr} {odb : Obj} {τ : Nat → Tok} {dflt : List UInt8} {kvs : List (List UInt8 × Value)} {nh sib : Nat → List UInt8} {v : List UInt8} {k : Nat} {t : Tok}
    (B : Below A₀ base outer h₀) (F : Fr h₀ L s.heap m) (X : (K39 w.params).In h₀) (T : Top p loose mean mg mb h₀) (hk : cs.kind = .function) (hdp : dp + 8 < recursionLimit)
    (Nw : News h₀ L s.heap [(x, instObj 235 dx), (dx, dictOf (treeAttrs w.params τ dflt (nh 0) f db) 6), (db, odb)]) (hdb : odb.IsDictOf (BK w) kvs) (hk8 : k < 256)
    (hs : ∀ i, i < 8 → ∃ l r t, valueAt kvs (nh i) = some (.bytes (l ++ r).toArray t) ∧ l.length = 32 ∧ r.length = 32 ∧ if k / 2 ^ (7 - i) % 2 = 1 then nh (i + 1) = r ∧ sib i = l else nh (i + 1) = l ∧ sib i = r)
    (he : ∃ t, valueAt kvs (nh 8) = some (.bytes v.toArray t))
    (ret : ∀ h' r br t' tk' vs, Kept [] s.heap h' → h'.get? r = some (tupObj [.bytes v.toArray t', .ref br]) → h'.get? br = some (tupObj vs) → BytesAre vs ((List.range 8).map sib) → s.heap.get? r = none → s.heap.get? br = none → r ≠ br → Q (.ref r) { s with heap := h', toks := tk' }) :
    wpAny (model PG w) (ktrTop dp un gd cn cs L a ccd cl outer) (call (.ref 183) [.ref x, .bytes (keyB k).toArray t]) Q E s := by
  have hkb := keyB_ints hk8
  refine wpAny_call ?_
  refine' enterK B F X Nw T rfl rfl hk ?ho ?hcd (by show dp < recursionLimit; omega) ?hb ?hl (fun g L' h₁ F' N' B' X' T' kept => ?_) ?hcell ?c1 ?c2 ?c3
  case ho => k_is
  case hcd => k_is
  case hb => exact BindsTo.of_eq rfl
  case hl => exact locs rfl
  case hcell => decide
  case c1 => rfl
  case c2 => rfl
  case c3 => rfl
  try dsimp only
  try k_fold
  repeat' (first | (k_here; (with_reducible show wpAny _ _ (pyIter (Value.ref _)) (fun it s₂ => LoopAtV _ _ _ _ _ _ _ _ _ it s₂) _ _); (refine halt ?_)) | (k_unfold; (try dsimp only)) | walk1 | (dsimp only; walk1) | (leave1; (try dsimp only)))
  rename_i hN tkN tN uN vN hR FR NR hkp
  refine' loop_range (n := 8) (JGet w.params x dx db f odb τ dflt nh sib k _) rfl hR (by decide) (by decide) FR (drop1 NR) ⟨[], _, _, _, _, _, _, .nil, rfl, rfl, rfl, rfl, rfl, rfl, by omega, by decide⟩ ?turn ?done
  case turn =>
    rintro i t m₁ news₁ h tk own hi hoff ⟨bs, n, z, zp, t1, t2, t3, hbs, rfl, e1, e2, e3, e4, e5, hzp, hz⟩ F1 N1
    have F2 := Fr.knownX F1 [(Str.ofString "node_hash", _), (Str.ofString "path", _), (Str.ofString "target_bit", _), (Str.ofString "branch", _), (Str.ofString "self", _)]
      (List.forall_mem_cons.mpr ⟨e1, List.forall_mem_cons.mpr ⟨e2, List.forall_mem_cons.mpr ⟨e3, List.forall_mem_cons.mpr ⟨e4, List.forall_mem_cons.mpr ⟨e5, List.forall_mem_nil _⟩⟩⟩⟩⟩)
      (List.forall_mem_cons.mpr ⟨ne_lit (by decide), List.forall_mem_cons.mpr ⟨ne_lit (by decide), List.forall_mem_cons.mpr ⟨ne_lit (by decide), List.forall_mem_cons.mpr ⟨ne_lit (by decide), List.forall_mem_cons.mpr ⟨ne_lit (by decide), List.forall_mem_nil _⟩⟩⟩⟩⟩)
    clear F1 e1 e2 e3 e4 e5
    simp only [List.cons_append, List.nil_append] at N1
    simp only [List.map_cons, List.map_nil] at hoff
    have hbl := hbs.length
    rw [List.length_map, List.length_range] at hbl
    obtain ⟨l, r, tn, hv, hl, hr, hbit⟩ := hs i hi
    try k_fold
    repeat' (first | (with_reducible refine haltInv ?_) | (k_here; (with_reducible show wpAny _ _ (call (Value.builtin _) [Value.ref _, _]) _ _ _); k_dflt (refine' append_K ?r5k1 ?r5k2 ?r5k3 ?_ ?r5z; (case r5k1 => k_asm); (case r5k2 => k_asm); (case r5k3 => k_upd); (case r5z => (rw [sizeLine_eq]; simp only [List.size_toArray]; omega)); k_whole); intro h' F' N'; (try k_sweep)) | (k_here; (with_reducible show wpAny _ _ (subscriptTail _ (Expr.Slice (some _) none none _) _ _) _ _ _); (with_reducible rename Fr _ _ _ _ => F'); (with_reducible rename News _ _ _ _ => N'); k_dflt (refine cut_hi (s := ⟨_, _, _, _, _⟩) F' N' (by assumption) (by assumption) ?_); intro _ _ _ _ _) | (k_here; (with_reducible show wpAny _ _ (subscriptTail _ (Expr.Slice none (some _) none _) _ _) _ _ _); (with_reducible rename Fr _ _ _ _ => F'); (with_reducible rename News _ _ _ _ => N'); k_dflt (refine cut_lo (s := ⟨_, _, _, _, _⟩) F' N' (by assumption) (by assumption) ?_); intro _ _ _ _ _) | (k_here; (with_reducible show wpAny _ _ (subscriptTail _ _ (Value.ref _) (Value.bytes _ _)) _ _ _); k_dflt (refine' kda_item (knd := bytesKind _ _) ?r2N ?r2p ?r2d (bytesKind_is _ _ _ _) ?r2v ?_; (case r2N => k_asm); (case r2p => k_mem); (case r2d => k_asm); (case r2v => first | k_asm | exact (valueAt_stored _ _ _ _).trans (if_pos rfl)))) | (k_unfold; (try dsimp only)) | walk1 | (dsimp only; walk1) | (leave1; (try dsimp only)))
    all_goals (
      rename Fr g L' _ _ => FE
      rename News g L' _ _ => NE
      simp only [List.push_toArray] at NE)
    · have hz1 := hz
      subst hzp hz
      rw [if_pos (bit_one hi (by assumption))] at hbit
      refine invEnd [_] [_, _, _, _] FE NE rfl ⟨bs ++ [.bytes l.toArray _], _, _, _, _, _, _, ?_, rfl, by rw [hbit.1]; rfl, rfl, rfl, rfl, rfl, rfl, maskOf_step hi⟩
      rw [List.range_succ, List.map_append, List.map_singleton, hbit.2]; exact hbs.snoc
    · have hz1 := hz
      subst hzp hz
      rw [if_neg (bit_zero hi (by assumption))] at hbit
      refine invEnd [_] [_, _, _, _] FE NE rfl ⟨bs ++ [.bytes r.toArray _], _, _, _, _, _, _, ?_, rfl, by rw [hbit.1]; rfl, rfl, rfl, rfl, rfl, rfl, maskOf_step hi⟩
      rw [List.range_succ, List.map_append, List.map_singleton, hbit.2]; exact hbs.snoc
  case done =>
    rintro m₁ nx h tk ⟨bs, n, z, zp, t1, t2, t3, hbs, rfl, e1, e2, e3, e4, e5, hzp, hz⟩ F1 N1
    have F2 := Fr.known F1 [(Str.ofString "node_hash", _), (Str.ofString "branch", _), (Str.ofString "self", _)]
      (List.forall_mem_cons.mpr ⟨e1, List.forall_mem_cons.mpr ⟨e4, List.forall_mem_cons.mpr ⟨e5, List.forall_mem_nil _⟩⟩⟩)
    clear F1 e1 e2 e3 e4 e5
    have hbl := hbs.length
    rw [List.length_map, List.length_range] at hbl
    obtain ⟨tv, hv⟩ := he
    try dsimp only
    try k_fold
    repeat' (first | (k_here; (with_reducible show wpAny _ _ (subscriptTail _ _ (Value.ref _) (Value.bytes _ _)) _ _ _); k_dflt (refine' kda_item (knd := bytesKind _ _) ?r2N ?r2p ?r2d (bytesKind_is _ _ _ _) ?r2v ?_; (case r2N => k_asm); (case r2p => k_mem); (case r2d => k_asm); (case r2v => first | k_asm | exact (valueAt_stored _ _ _ _).trans (if_pos rfl)))) | (k_unfold; (try dsimp only)) | walk1 | (dsimp only; walk1) | (leave1; (try dsimp only)))
    rename Fr g _ _ _ => FE
    rename News g _ _ _ => NE
    (try k_unfold)
    (try dsimp only)
    have hex : odb.ExactDict := by obtain ⟨es, ep, hex, -, -⟩ := hdb; exact hex
    have r1 := NE _ (.head _)
    have r2 := NE _ (.tail _ (.head _))
    have r4 := NE _ (.tail _ (.tail _ (.tail _ (.head _))))
    have r5 := NE _ (.tail _ (.tail _ (.tail _ (.tail _ (.head _)))))
    have r6 := NE _ (.tail _ (.tail _ (.tail _ (.tail _ (.tail _ (.head _))))))
    dsimp only at r1 r2 r4 r5 r6
    have hdc : odb.cls ≠ Value.type "tuple" := by rw [hex.1]; decide
    with_reducible refine' ret _ _ _ _ _ _ ?a1 r1.1 r2.1 hbs ?a2 ?a3 ?a4
    case a1 => exact kept_but [] kept FE.keep Nw (List.forall_mem_cons.mpr ⟨fun _ => r4.1, List.forall_mem_cons.mpr ⟨fun _ => r5.1, List.forall_mem_cons.mpr ⟨fun _ => r6.1, List.forall_mem_nil _⟩⟩⟩)
    case a2 => exact fresh_of kept r1.2.2 (List.forall_mem_cons.mpr ⟨place_ne r1.1 r4.1 (fun e => nomatch e), List.forall_mem_cons.mpr ⟨place_ne r1.1 r5.1 (show Value.type "tuple" ≠ Value.type "dict" by decide), List.forall_mem_cons.mpr ⟨place_ne r1.1 r6.1 (fun e => hdc e.symm), List.forall_mem_nil _⟩⟩⟩)
    case a3 => exact fresh_of kept r2.2.2 (List.forall_mem_cons.mpr ⟨place_ne r2.1 r4.1 (fun e => nomatch e), List.forall_mem_cons.mpr ⟨place_ne r2.1 r5.1 (show Value.type "tuple" ≠ Value.type "dict" by decide), List.forall_mem_cons.mpr ⟨place_ne r2.1 r6.1 (fun e => hdc e.symm), List.forall_mem_nil _⟩⟩⟩)
    case a4 => k_ne
end sM6
section sM7
namespace Rv
/- facts of the type 'reversed' -/
theorem slot_init : Slot "reversed" "__init__" "object.__init__" :=
  .of (owner := "object") (n := "__init__") (by rw [typeLookup_type, builtinLookup_eq_fast]; kernel_rfl) (by decide +kernel) (by decide +kernel) (by decide +kernel)
    (by first | exact .inl (by decide +kernel) | exact .inr (by decide +kernel)) (by rw [isSubtype_type]; kernel_rfl)
theorem called : TypeCalled "reversed" "reversed.__new__" "object.__init__" :=
  ⟨by decide +kernel, by decide +kernel, ⟨_, _, F.mro_reversed⟩, F.made_reversed, by decide +kernel, F.sub_reversed_self, slot_init⟩
theorem slot_next : Slot "reversed" "__next__" "reversed.__next__" :=
  .of (owner := "reversed") (n := "__next__") (by rw [typeLookup_type, builtinLookup_eq_fast]; kernel_rfl) (by decide +kernel) (by decide +kernel) (by decide +kernel)
    (by first | exact .inl (by decide +kernel) | exact .inr (by decide +kernel)) (by rw [isSubtype_type]; kernel_rfl)
theorem entry_next : entryFor table "reversed.__next__" = some Builtin.«reversed.__next__» := entryFor_of_tree (by kernel_rfl)
theorem args_next (a : Value) : argsOk "reversed.__next__" ⟨[a], []⟩ := by unfold argsOk; kernel_rfl
theorem slot_iter : Slot "reversed" "__iter__" "reversed.__iter__" :=
  .of (owner := "reversed") (n := "__iter__") (by rw [typeLookup_type, builtinLookup_eq_fast]; kernel_rfl) (by decide +kernel) (by decide +kernel) (by decide +kernel)
    (by first | exact .inl (by decide +kernel) | exact .inr (by decide +kernel)) (by rw [isSubtype_type]; kernel_rfl)
theorem args_iter (a : Value) : argsOk "reversed.__iter__" ⟨[a], []⟩ := by unfold argsOk; kernel_rfl
theorem entry_iter : entryFor table "reversed.__iter__" = some Builtin.«dict_keyiterator.__iter__» :=
  entryFor_alias (id' := "dict_keyiterator.__iter__") (by kernel_rfl) (by first | rfl | decide +kernel | (unfold String.splitOn; simp +decide [String.splitOnAux])) (by decide +kernel) (by kernel_rfl)
theorem noRev_tuple : typeLookup (.type "tuple") "__reversed__" = pure none := by rw [typeLookup_type, builtinLookup_eq_fast]; kernel_rfl
theorem sub_tuple_dict : isSubtype (.type "tuple") (.type "dict") = pure false := by rw [isSubtype_type]; kernel_rfl
end Rv
/-- the iterator of reversed(t) -/
noncomputable def rvObj (t : Addr) (i : Int) : Obj := { cls := .type "reversed", data := .fields #[.ref t, rawInt i] }
noncomputable def IsRv (h : Heap) (a t : Addr) (i : Int) : Prop := ∃ o, h.get? a = some o ∧ o.cls = .type "reversed" ∧ o.data = .fields #[.ref t, rawInt i]
theorem IsRv.at {h h' : Heap} {a l : Addr} {i : Int} (x : IsRv h a l i) (e : ∀ o, h.get? a = some o → h'.get? a = some o) : IsRv h' a l i := let ⟨o, ho, r⟩ := x; ⟨o, e _ ho, r⟩
section
variable {prog : Program} {w : World} {A : Around} {E : Value → Shared → Prop} {s : Shared}
theorem IsRv.typeIs {a l : Addr} {i : Int} (x : IsRv s.heap a l i) : s.TypeIs (.ref a) "reversed" := let ⟨o, ho, hc, _⟩ := x; ⟨o, ho, hc⟩

theorem code_rv_new {t : Addr} {items : Array Value} {Q₁ : Value → Shared → Prop} (ht : IsTup s.heap t items) (hfit : (items.size : Int) < 2 ^ 63)
    (h : ∀ k, Q₁ (.ref s.heap.objs.size) { s with heap := s.heap.push (rvObj t ((items.size : Int) - 1)), toks := k }) :
    codeAny (model prog w) A (.call (.builtin "reversed.__new__") ⟨[.type "reversed", .ref t], []⟩) (wants Q₁ E) s := by
  refine codeAny_of_tree ?_
  show wpAny _ A.in1 (do checkBuiltinCall "reversed.__new__" ⟨[.type "reversed", .ref t], []⟩; again (.builtin "reversed.__new__" ⟨[.type "reversed", .ref t], []⟩)) _ _ s
  refine wpAny_bind (wpAny_of_eq (F.newCall_reversed_1 _) (wpAny_pure ⟨plainId_quiet F.plain_reversed_new _, codeAny_builtin F.entry_reversed_new ?_⟩))
  rw [Around.under_plainId F.plain_reversed_new _]
  unfold Builtin.«reversed.__new__»
  refine wpAny_bind (wpAny_of_eq (newClass_reversed _) ?_)
  try dsimp only
  refine wpAny_bind (wpAny_of_eq (a := ()) (by first | rfl | kernel_rfl) ?_)
  refine wpAny_bind (wpAny_of_eq (a := ()) (by first | rfl | kernel_rfl) ?_)
  try dsimp only
  refine wpAny_bind (wpAny_specialOf ht.typeIs Rv.noRev_tuple ?_)
  try dsimp only
  refine wpAny_bind (m := _) (Q := _) ?_
  show wpAny _ _ (isInstance (.ref t) (.type "dict") >>= _) _ _ s
  refine wpAny_bind (wpAny_isInstance (T := "tuple") (b := false) ht.typeIs Rv.sub_tuple_dict ?_)
  refine KTBy.if_not rfl ?_
  refine wpAny_bind (wpAny_specialOf ht.typeIs slot_tuple_getitem.lookup ?_)
  dsimp only
  rw [if_pos (by decide)]
  refine wpAny_pure ?_
  refine KTBy.if_not rfl ?_
  refine wpAny_bind (len_tuple ht hfit ?_)
  refine wpAny_bind (wpAny_of_eq (a := some (items.size : Int)) rfl ?_)
  dsimp only
  refine wpAny_bind ?_
  unfold Builtin.SmallTypes.newRecord
  exact wpAny_newObj_type (wpAny_pure (h _))

theorem call_rv_tuple {t : Addr} {items : Array Value} {Q : Value → Shared → Prop} (ht : IsTup s.heap t items) (hfit : (items.size : Int) < 2 ^ 63)
    (h : ∀ k, Q (.ref s.heap.objs.size) { s with heap := s.heap.push (rvObj t ((items.size : Int) - 1)), toks := k }) : wpAny (model prog w) A (call (.type "reversed") [.ref t]) Q E s := by
  refine callType_codes (Q₁ := fun obj s₁ => s₁.TypeIs obj "reversed" ∧ Q obj s₁) Rv.called (F.typeCall_reversed_1 _) F.entry_object_init
    (code_rv_new ht hfit fun k => ⟨⟨_, Heap.get?_push_size _ rfl, rfl⟩, h k⟩) fun obj s₁ h₁ => ?_
  exact ⟨h₁.1, F.args_object_init_2 obj _, object_init_meets Rv.called.init.lookup Rv.called.made (by decide) prog w A.in1 _ s₁ ⟨h₁.1, rfl, h₁.2⟩⟩

theorem rv_next {it t : Addr} {i : Nat} {items : Array Value} {x : Value} {Q : Option Value → Shared → Prop} (hit : IsRv s.heap it t (i : Int)) (ht : IsTup s.heap t items) (hfit : (items.size : Int) < 2 ^ 63) (hx : items[i]? = some x)
    (hQ : ∀ h' k, IsRv h' it t ((i : Int) - 1) → Heap.SameBut it s.heap h' → Q (some x) { s with heap := h', toks := k }) : wpAny (model prog w) A (pyNext (.ref it)) Q E s := by
  obtain ⟨o, ho, hc, hd⟩ := id hit
  unfold pyNext
  refine wpAny_bind (wpAny_attempt (wpAny_callSpecial?_slot (name := Str.ofString "__next__") hit.typeIs Rv.slot_next
    (wpAny_call_entry Rv.slot_next hit.typeIs Rv.entry_next ?_ (Rv.args_next _))))
  unfold Builtin.«reversed.__next__»
  refine wpAny_bind (wpAny_of_eq (a := (Value.ref it, [])) rfl ?_)
  try dsimp only
  refine wpAny_bind (wpAny_field ho hd (x := .ref t) rfl ?_)
  refine wpAny_bind (wpAny_field ho hd (x := rawInt (i : Int)) rfl ?_)
  show wpAny _ _ (if (i : Int) < 0 then _ else _) _ _ s
  rw [if_neg (by omega)]
  try dsimp only
  refine wpAny_bind (wpAny_specialOf ht.typeIs slot_tuple_getitem.lookup ?_)
  refine KTBy.if_not rfl ?_
  have hlt : i < items.size := by
    rcases Nat.lt_or_ge i items.size with h | h
    · exact h
    · rw [Array.getElem?_eq_none h] at hx; cases hx
  refine wpAny_bind (wpAny_mkInt ?_)
  refine wpAny_bind (wpAny_attempt ?_)
  refine getItem_tuple (s := { s with toks := s.toks + 1 }) (j := i) ht (by omega) (by omega) (by
    have h2 : ¬ ((i : Int) < 0) := by omega
    simp [seqIndex?, h2, hlt]) hx ?_
  dsimp only
  refine wpAny_bind (wpAny_field (s := { s with toks := s.toks + 1 }) ho hd (x := rawInt (i : Int)) rfl ?_)
  refine wpAny_bind (wpAny_setField (s := { s with toks := s.toks + 1 }) ho hd (by simp) ?_)
  refine wpAny_pure ⟨x, rfl, wpAny_pure (hQ _ _ ?_ (Heap.SameBut.update ..))⟩
  exact ⟨_, Heap.get?_update_self _ ho (Obj.isFreed_of_fields (Obj.data_mapFields hd _)), (Obj.cls_mapFields ..).trans hc, by
    rw [Obj.data_mapFields hd]; simp⟩

theorem rv_end {it t : Addr} {Q : Option Value → Shared → Prop} (hh : A.handled = none) (hit : IsRv s.heap it t (-1))
    (hQ : ∀ h' k, Heap.ExtBut it s.heap h' → Q none { s with heap := h', toks := k }) : wpAny (model prog w) A (pyNext (.ref it)) Q E s := by
  obtain ⟨o, ho, hc, hd⟩ := id hit
  unfold pyNext
  refine wpAny_bind (wpAny_attempt (wpAny_callSpecial?_slot (name := Str.ofString "__next__") hit.typeIs Rv.slot_next
    (wpAny_call_entry Rv.slot_next hit.typeIs Rv.entry_next ?_ (Rv.args_next _))))
  unfold Builtin.«reversed.__next__»
  refine wpAny_bind (wpAny_of_eq (a := (Value.ref it, [])) rfl ?_)
  try dsimp only
  refine wpAny_bind (wpAny_field ho hd (x := .ref t) rfl ?_)
  refine wpAny_bind (wpAny_field ho hd (x := rawInt (-1)) rfl ?_)
  show wpAny _ _ (if (-1 : Int) < 0 then _ else _) _ _ s
  rw [if_pos (by decide)]
  refine wpAny_bind (wpAny_rule ?_)
  refine wpAny_bind ?_
  show wpAny _ _ (setField (.ref it) 1 (rawInt (-1)) >>= fun _ => setField (.ref it) 0 .none) _ _ s
  refine wpAny_bind (wpAny_setField ho hd (by simp) ?_)
  have ho2 := Heap.get?_update_self (Obj.mapFields (·.setIfInBounds 1 (rawInt (-1)))) ho (Obj.isFreed_of_fields (Obj.data_mapFields hd _))
  have hd2 := Obj.data_mapFields hd (·.setIfInBounds 1 (rawInt (-1)))
  refine wpAny_setField (s := { s with heap := _ }) ho2 hd2 (by simp) ?_
  first
  | show wpAny _ _ (newExc (.type "StopIteration") [] >>= _) _ _ _
  | (refine wpAny_bind ?_; show wpAny _ _ (newExc (.type "StopIteration") [] >>= _) _ _ _)
  refine wpAny_bind ?_
  simp only [newExc, newTuple]
  refine wpAny_bind (wpAny_newObj_type ?_ (by size_fits))
  refine wpAny_bind (m := firstArgMember _ _) (wpAny_of_eq (a := Value.none) (by first | rfl | (simp only [firstArgMember]; rfl)) ?_)
  refine wpAny_newObj_type ?_ (by size_fits)
  simp only [raiseNew]
  refine wpAny_bind (wpAny_handled ?_)
  first | rw [show A.in1.handled = none from hh] | rw [hh]
  refine wpAny_bind (wpAny_pure (wpAny_throw ?_))
  refine wpAny_bind (wpAny_isInstance (T := "StopIteration") (b := true) ⟨_, Heap.get?_push_size _ rfl, rfl⟩ isSubtype_stop ?_)
  exact wpAny_pure (hQ _ _ (((Heap.SameBut.trans (Heap.SameBut.update ..) (Heap.SameBut.update ..)).extBut.push _).push _))

theorem rv_iter {it t : Addr} {i : Int} {Q : Value → Shared → Prop} (hit : IsRv s.heap it t i) (h : Q (.ref it) s) : wpAny (model prog w) A (pyIter (.ref it)) Q E s := by
  refine wpAny_pyIter_slot hit.typeIs Rv.slot_iter (wpAny_call_entry Rv.slot_iter hit.typeIs Rv.entry_iter ?_ (Rv.args_iter _))
  show wpAny _ _ (ret (.ref it)) _ _ s
  exact wpAny_pure ⟨_, rfl, "reversed", _, hit.typeIs, Rv.slot_next.lookup, h⟩
end

theorem walks_rv {prog : Program} {w : World} {A : Around} (hh : A.handled = none) (I t : Addr) (hne : t ≠ I) (items : Array Value) (hfit : (items.size : Int) < 2 ^ 63) :
    Walks prog w A I [I, t] [I] items.size (fun i v => items[items.size - 1 - i]? = some v) (fun i h => i ≤ items.size ∧ IsRv h I t ((items.size : Int) - 1 - (i : Int)) ∧ IsTup h t items) where
  sub := fun b hb => by simp at hb; simp [hb]
  frame := fun _ _ _ x hk => ⟨x.1, x.2.1.at fun o e => hk I (by simp) o e, let ⟨o, ho, r⟩ := x.2.2; ⟨o, hk t (by simp) o ho, r⟩⟩
  item := fun i s Q E hi x hQ => by
    have e : (items.size : Int) - 1 - (i : Int) = ((items.size - 1 - i : Nat) : Int) := by omega
    have hit := x.2.1
    rw [e] at hit
    have hx : items[items.size - 1 - i]? = some (items[items.size - 1 - i]'(by omega)) := Array.getElem?_eq_getElem (by omega)
    refine rv_next hit x.2.2 hfit hx fun h' k hit' hs' => ?_
    have e2 : ((items.size - 1 - i : Nat) : Int) - 1 = (items.size : Int) - 1 - ((i + 1 : Nat) : Int) := by omega
    rw [e2] at hit'
    exact hQ _ h' k hx ⟨hi, hit', let ⟨o, ho, r⟩ := x.2.2; ⟨o, (hs'.2 t hne).trans ho, r⟩⟩ fun b o hb eo => hs'.extBut b o (fun h => hb (by simp [h])) eo
  done := fun s Q E x hQ => by
    have e : (items.size : Int) - 1 - (items.size : Int) = -1 := by omega
    have hit := x.2.1
    rw [e] at hit
    exact rv_end hh hit fun h' k he' => hQ h' k fun b o hb eo => he' b o (fun h => hb (by simp [h])) eo
  self := fun _ _ _ _ x hQ => rv_iter x.2.1 hQ
end sM7
section sM8
namespace Rv
theorem nolen_lri : typeLookup (.type "list_reverseiterator") "__len__" = pure none := by rw [typeLookup_type, builtinLookup_eq_fast]; kernel_rfl
theorem hint_lri : typeLookup (.type "list_reverseiterator") "__length_hint__" = pure (some (.builtin "list_reverseiterator.__length_hint__")) := by rw [typeLookup_type, builtinLookup_eq_fast]; kernel_rfl
end Rv
section
variable {prog : Program} {w : World} {A : Around} {E : Value → Shared → Prop} {s : Shared} {I : Addr} {fp wr : List Addr} {G : Array GenState → Array GenState → Prop} {n : Nat} {P : Nat → Value → Prop} {St : Nat → Shared → Prop}
theorem collect_lri {Q : List Value → Shared → Prop}
    (W : WalksS prog w A.in1 I fp wr G n P St) (hT : ∀ i s, St i s → s.TypeIs (.ref I) "list_reverseiterator") (hst : St 0 s) (hfp : ∀ b ∈ fp, b < s.heap.objs.size) (hI : I ∈ fp)
    (hQ : ∀ s' acc, PySem.Moved wr G s s' → ItemsOf P acc n → Q acc.toList s') (hn : n ≤ sizeLine) : wpAny (model prog w) A (collect (.ref I)) Q E s := by
  have hSf : s.heap.objs.size ∉ fp := fun hm => Nat.lt_irrefl _ (hfp _ hm)
  have hSI : s.heap.objs.size ≠ I := fun e => hSf (e ▸ hI)
  unfold collect
  refine wpAny_bind (wpAny_runValue (codeAny_builtin F.entry_proto_collect ?_))
  rw [Around.under_plainId F.plain_proto_collect _]
  show wpAny _ A.in1 (newList [] >>= fun l => again (.builtin "list.__iadd__" ⟨[l, .ref I], []⟩)) _ _ s
  refine wpAny_bind (wpAny_newObj_type ?_)
  refine wpAny_pure ⟨plainId_quiet F.plain_list_iadd _, codeAny_builtin F.entry_list_iadd ?_⟩
  rw [Around.under_plainId F.plain_list_iadd _]
  have hst₁ := W.frame 0 s (s.heap.push { cls := .type "list", data := .seq ([] : List Value).toArray }) s.toks hst (Nat.le_refl _) fun b _ o e => Heap.get?_push_of_some _ e
  have hS₁ : (s.heap.push { cls := .type "list", data := .seq ([] : List Value).toArray }).get? s.heap.objs.size = some { cls := .type "list", data := .seq ([] : List Value).toArray } := Heap.get?_push_size _ rfl
  have h1 : Builtin.List.listSameRef (.ref s.heap.objs.size) (.ref I) = false := by simp [Builtin.List.listSameRef, hSI]
  show wpAny _ A.in1 (Builtin.List.listExtendWith (.ref s.heap.objs.size) (.ref I) (.ref s.heap.objs.size)) _ _ _
  unfold Builtin.List.listExtendWith
  refine wpAny_bind (wpAny_typeOf (hT 0 _ hst₁) ?_)
  rw [if_neg (by rw [h1]; decide)]
  refine wpAny_bind (W.self 0 _ _ _ hst₁ ?_)
  refine wpAny_bind (wpAny_holding ?_)
  unfold Builtin.List.listLengthHint
  refine wpAny_bind (wpAny_specialOf (hT 0 _ hst₁) Rv.nolen_lri ?_)
  show wpAny _ A.in1 (specialOf (Value.ref I) (Str.ofString "__length_hint__") >>= _) _ _ _
  refine wpAny_bind (wpAny_specialOf (hT 0 _ hst₁) Rv.hint_lri ?_)
  (generalize hid : ("list_reverseiterator.__length_hint__" : String) = id0; (fail_if_success (clear hid id0)); wp_delta; rw [show splitId id0 = some ("list_reverseiterator", "__length_hint__") from by subst hid; decide +kernel]; subst hid)
  refine wpAny_bind (wpAny_isInstance (b := true) (hT 0 _ hst₁) (by rw [isSubtype_type]; kernel_rfl) ?_)
  refine wpAny_pure ?_
  rw [if_neg (by decide)]
  refine wpAny_pure ⟨plainId_quiet F.plain_extend_loop _, codeAny_extend_loopS W hn _ hSf _ n 0 _ _ _ rfl (Nat.zero_le _) hst₁ hS₁ (ItemsOf.nil P) fun s' acc' c' hm hS' hacc => ?_⟩
  show wpAny _ A (load s.heap.objs.size >>= _) _ _ s'
  refine wpAny_bind (wpAny_load hS' ?_)
  exact wpAny_pure (hQ s' acc' (Moved.drop_new (o := { cls := .type "list", data := .seq ([] : List Value).toArray }) (tk := s.toks) hm (Nat.le_refl _)) hacc)

theorem code_tuple_lri {Q₁ : Value → Shared → Prop} (W : WalksS prog w A.in1.in1 I fp wr G n P St) (hT : ∀ i s, St i s → s.TypeIs (.ref I) "list_reverseiterator") (hst : St 0 s) (hfp : ∀ b ∈ fp, b < s.heap.objs.size) (hI : I ∈ fp)
    (h : ∀ s' acc, PySem.Moved wr G s s' → ItemsOf P acc n → Q₁ (.ref s'.heap.objs.size) { s' with heap := s'.heap.push { cls := .type "tuple", data := .seq acc } }) (hsz : n ≤ sizeLine) :
    codeAny (model prog w) A (.call (.builtin "tuple.__new__") ⟨[.type "tuple", .ref I], []⟩) (wants Q₁ E) s := by
  refine codeAny_of_tree ?_
  show wpAny _ A.in1 (do checkBuiltinCall "tuple.__new__" ⟨[.type "tuple", .ref I], []⟩; again (.builtin "tuple.__new__" ⟨[.type "tuple", .ref I], []⟩)) _ _ s
  refine wpAny_bind (wpAny_of_eq (F.newCall_tuple_1 _) (wpAny_pure ⟨plainId_quiet F.plain_tuple_new _, codeAny_builtin F.entry_tuple_new ?_⟩))
  rw [Around.under_plainId F.plain_tuple_new _]
  have hsub := sub_tuple_self
  have hinit := init_tuple_lookup
  have hmh := madeHere_tuple
  have hTI := hT 0 s hst
  wp_walk using wpAny_typeOf hTI, collect_lri (hn := hsz) W hT hst hfp hI
  intro s' acc hm hacc
  show wpAny _ _ (Builtin.Tuple.tupleExact acc.toList.toArray >>= fun v => ret v) _ _ _
  unfold Builtin.Tuple.tupleExact
  refine wpAny_bind (wpAny_newObj_type ?_ (by show acc.toList.toArray.size ≤ sizeLine; simp only [Array.toArray_toList]; rw [hacc.1]; exact hsz))
  refine wpAny_pure ?_
  have e : acc.toList.toArray = acc := by simp
  rw [e]
  exact h s' acc hm hacc

theorem call_tuple_lri {Q : Value → Shared → Prop} (W : WalksS prog w A.in1.in1.in1 I fp wr G n P St) (hT : ∀ i s, St i s → s.TypeIs (.ref I) "list_reverseiterator") (hst : St 0 s) (hfp : ∀ b ∈ fp, b < s.heap.objs.size) (hI : I ∈ fp)
    (hQ : ∀ s' acc, PySem.Moved wr G s s' → ItemsOf P acc n → Q (.ref s'.heap.objs.size) { s' with heap := s'.heap.push { cls := .type "tuple", data := .seq acc } }) (hsz : n ≤ sizeLine) :
    wpAny (model prog w) A (call (.type "tuple") [.ref I]) Q E s := by
  refine callType_codes (Q₁ := fun obj s₁ => s₁.TypeIs obj "tuple" ∧ Q obj s₁) F.called_tuple (F.typeCall_tuple_1 _) F.entry_object_init
    (code_tuple_lri (hsz := hsz) W hT hst hfp hI fun s' acc hm hacc => ⟨⟨_, Heap.get?_push_size _ rfl, rfl⟩, hQ s' acc hm hacc⟩) fun obj s₁ h₁ => ?_
  exact ⟨h₁.1, F.args_object_init_2 obj _, object_init_meets F.called_tuple.init.lookup F.called_tuple.made (by decide) prog w A.in1 _ s₁ ⟨h₁.1, rfl, h₁.2⟩⟩
end
section
variable {prog : Program} {w : World} {A : Around} {E : Value → Shared → Prop} {s : Shared} {h₀ : Heap} {L : Addr} {m : Str → Option Value} {news : List (Addr × Obj)}
/-- tuple(reversed(xs)) of a list of the call's own -/
theorem tuple_of_rev {D l : Addr} {vs : List Value} {n : Nat} {Q : Value → Shared → Prop} (hh : A.handled = none) (F : Fr h₀ L s.heap m) (N : News h₀ L s.heap ((D, revObj l ((vs.length : Int) - 1)) :: news)) (hm : (l, W.listOf vs.toArray n) ∈ news) (hD : ∀ p ∈ news, p.1 ≠ D) (hz : vs.length ≤ 1000)
    (h : ∀ T h' k, Fr h₀ L h' m → News h₀ L h' ((T, tupObj vs.reverse) :: news) → (∀ p ∈ news, p.1 < T) → Q (.ref T) { s with heap := h', toks := k }) : wpAny (model prog w) A (call (.type "tuple") [.ref D]) Q E s := by
  have hIx := N _ (.head _)
  have hax := N _ (.tail _ hm)
  have hl : s.heap.IsList l vs.toArray := ⟨_, hax.1, rfl, n, rfl⟩
  have hne : l ≠ D := hD _ hm
  have hit : s.heap.IsRevIter D l ((vs.length : Int) - 1) := ⟨_, hIx.1, rfl, rfl⟩
  have W := Walks.listRev (prog := prog) (w := w) (A := A.in1.in1.in1) hh D l hne vs.toArray
  have hlen : vs.toArray.size = vs.length := by simp
  rw [hlen] at W
  refine call_tuple_lri (n := vs.length) W.toS (fun i s' x => x.2.1.typeIs) ⟨Nat.zero_le _, by simpa using hit, hl⟩ (fun b hb => ?_) (by simp) (fun s' acc hmv hacc => ?_) (by rw [sizeLine_eq]; omega)
  · simp only [List.mem_cons, List.not_mem_nil, or_false] at hb
    rcases hb with rfl | rfl
    · exact Heap.lt_size hIx.1
    · exact Heap.lt_size hax.1
  · have e : acc = vs.reverse.toArray := by
      apply Array.ext'
      refine List.ext_getElem? fun i => ?_
      rw [Array.getElem?_toList]
      rcases Nat.lt_or_ge i vs.length with hi | hi
      · have hi' : i < acc.size := by rw [hacc.1]; exact hi
        have hx := hacc.2 i acc[i] (Array.getElem?_eq_getElem hi')
        rw [Array.getElem?_eq_getElem hi', ← hx, List.getElem?_toArray]
        show _ = vs.reverse[i]?
        rw [List.getElem?_reverse hi]
      · rw [Array.getElem?_eq_none (by rw [hacc.1]; exact hi)]
        show none = vs.reverse[i]?
        rw [List.getElem?_eq_none (by rw [List.length_reverse]; exact hi)]
    subst e
    obtain ⟨heap', gens', drawn', toks', os'⟩ := s'
    have e1 : gens' = s.gens := hmv.gens
    have e2 : drawn' = s.drawn := hmv.drawn
    have e3 : os' = s.os := hmv.os
    subst e1 e2 e3
    have k := hmv.heap
    have hL : ∀ b o, b ≠ D → s.heap.get? b = some o → heap'.get? b = some o := fun b o hb e => k b o (by simpa using hb) e
    have F' : Fr h₀ L heap' m := by
      obtain ⟨o, es, ep, e, r⟩ := F.ns
      exact ⟨⟨o, es, ep, hL _ _ (Ne.symm hIx.2.1) e, r⟩, fun b o e => hL _ _ (fun q => by rw [q, hIx.2.2] at e; cases e) (F.keep b o e), F.above⟩
    have N' : News h₀ L heap' news := fun p hp => ⟨hL _ _ (hD p hp) (N p (.tail _ hp)).1, (N p (.tail _ hp)).2⟩
    exact h _ _ _ (F'.push _) (N'.push F' _) fun p hp => Heap.lt_size (N' p hp).1

/-- reversed(t) of a tuple -/
theorem krv_tuple {t : Addr} {vs : List Value} {Q : Value → Shared → Prop} (F : Fr h₀ L s.heap m) (N : News h₀ L s.heap news) (ht : IsTup s.heap t vs.toArray) (hz : vs.length ≤ 1000)
    (h : ∀ D h' k, Fr h₀ L h' m → News h₀ L h' ((D, rvObj t ((vs.length : Int) - 1)) :: news) → (∀ p ∈ news, p.1 < D) → t < D → Q (.ref D) { s with heap := h', toks := k }) : wpAny (model prog w) A (call (.type "reversed") [.ref t]) Q E s := by
  refine call_rv_tuple ht (by simp; omega) fun k => ?_
  have e : ((vs.toArray.size : Nat) : Int) - 1 = (vs.length : Int) - 1 := by simp
  rw [e]
  obtain ⟨o, ho, _⟩ := ht
  exact h _ _ _ (F.push _) (News.push F N _) (fun p hp => Heap.lt_size (N p hp).1) (Heap.lt_size ho)
end

section
variable {prog : Program} {w : World} {A : Around} {E : Value → Shared → Prop} {s : Shared} {env : Env} {h₀ : Heap} {x : Str} {body : List Stmt} {Q : Flow → Shared → Prop}
/-- a loop over reversed(t), by what holds at its turns -/
theorem loop_rv {I t : Addr} {vs : List Value} {xs : List (List UInt8)} {m₀ : Str → Option Value} {news : List (Addr × Obj)} (J : Nat → (Str → Option Value) → List (Addr × Obj) → Prop)
    (hh : A.handled = none) (F : Fr h₀ env.locals s.heap m₀) (NI : News h₀ env.locals s.heap [(I, rvObj t ((vs.length : Int) - 1))]) (ht : IsTup s.heap t vs.toArray) (htL : t ≠ env.locals) (htI : t ≠ I) (hz : vs.length ≤ 1000) (hb : BytesAre vs xs)
    (N : News h₀ env.locals s.heap news) (hnI : ∀ p ∈ news, p.1 ≠ I) (hnt : ∀ p ∈ news, p.1 ≠ t) (hj : J 0 m₀ news)
    (turn : ∀ (i : Nat) y t m₁ news₁ h tk own, i < xs.length → xs.reverse[i]? = some y → OwnOff own (news.map (·.1)) → J i m₁ news₁ → Fr h₀ env.locals h (fun z => if z = x then some (.bytes y.toArray t) else m₁ z) → News h₀ env.locals h (news₁ ++ own) →
      wpAny (model prog w) A (execs body env) (InvPostN h₀ env.locals (J (i + 1)) own (news.map (·.1)) { s with heap := h, toks := tk } Q) E { s with heap := h, toks := tk })
    (done : ∀ m₁ news₁ h tk, J xs.length m₁ news₁ → Fr h₀ env.locals h m₁ → News h₀ env.locals h news₁ → Q .next { s with heap := h, toks := tk }) :
    wpAny (model prog w) A (pyIter (.ref I)) (fun it s₂ => LoopAtV prog w A h₀ env x body Q E it s₂) E s := by
  have hIx := NI _ (.head _)
  have hit : IsRv s.heap I t ((vs.length : Int) - 1) := ⟨_, hIx.1, rfl, rfl⟩
  refine rv_iter hit ?_
  have W := walks_rv (prog := prog) (w := w) hh I t htI vs.toArray (by simp; omega)
  have hlen : vs.toArray.size = vs.length := by simp
  rw [hlen] at W
  refine loop_invN J W ?_ ?_ ?_ ?_ ⟨Nat.zero_le _, by simpa using hit, ht⟩ F N hj ?_ ?_
  · intro hm
    rcases List.mem_cons.mp hm with e | hm
    · exact hIx.2.1 e.symm
    · exact htL (List.mem_singleton.mp hm).symm
  · intro b hb'
    rw [List.mem_singleton.mp hb']
    exact hIx.2.2
  · intro p hp hI
    exact hnI p hp (List.mem_singleton.mp hI)
  · intro p hp hm
    rcases List.mem_cons.mp hm with e | hm
    · exact hnI p hp e
    · exact hnt p hp (List.mem_singleton.mp hm)
  · rintro i v m₁ news₁ h tk own hin hP _ hsep hJ F₁ N₁
    have hi : i < xs.length := by rw [← hb.length]; exact hin
    have hir : i < xs.reverse.length := by rw [List.length_reverse]; exact hi
    obtain ⟨tv, hv⟩ := hb.reverse.at (List.getElem?_eq_getElem hir)
    have e : vs.reverse[i]? = some v := by
      rw [List.getElem?_reverse hin]
      simpa using hP
    rw [hv] at e
    cases e
    exact turn i _ tv m₁ news₁ h tk own hi (List.getElem?_eq_getElem hir) hsep hJ F₁ N₁
  · intro m₁ news₁ h tk hJ F₁ N₁
    rw [hb.length] at hJ
    exact done m₁ news₁ h tk hJ F₁ N₁
end
end sM8
section sM9
theorem news1 {h₀ h : Heap} {L : Addr} {news : List (Addr × Obj)} {a : Addr × Obj} (N : News h₀ L h news) (h1 : a ∈ news) : News h₀ L h [a] := List.forall_mem_cons.mpr ⟨N _ h1, List.forall_mem_nil _⟩
theorem news3 {h₀ h : Heap} {L : Addr} {news : List (Addr × Obj)} {a b c : Addr × Obj} (N : News h₀ L h news) (h1 : a ∈ news) (h2 : b ∈ news) (h3 : c ∈ news) : News h₀ L h [a, b, c] :=
  List.forall_mem_cons.mpr ⟨N _ h1, List.forall_mem_cons.mpr ⟨N _ h2, List.forall_mem_cons.mpr ⟨N _ h3, List.forall_mem_nil _⟩⟩⟩
theorem news4 {h₀ h : Heap} {L : Addr} {news : List (Addr × Obj)} {a b c d : Addr × Obj} (N : News h₀ L h news) (h1 : a ∈ news) (h2 : b ∈ news) (h3 : c ∈ news) (h4 : d ∈ news) : News h₀ L h [a, b, c, d] :=
  List.forall_mem_cons.mpr ⟨N _ h1, List.forall_mem_cons.mpr ⟨N _ h2, List.forall_mem_cons.mpr ⟨N _ h3, List.forall_mem_cons.mpr ⟨N _ h4, List.forall_mem_nil _⟩⟩⟩⟩

theorem newsC {h₀ h : Heap} {L : Addr} {news r : List (Addr × Obj)} {a : Addr × Obj} (N : News h₀ L h news) (h1 : a ∈ news) (R : News h₀ L h r) : News h₀ L h (a :: r) := List.forall_mem_cons.mpr ⟨N _ h1, R⟩

noncomputable def AllNe (d : Addr) : List (Addr × Obj) → Prop
  | [] => True
  | p :: r => @Ne Nat p.1 d ∧ AllNe d r
theorem allNe_of {d : Addr} : ∀ {l : List (Addr × Obj)}, (∀ p ∈ l, p.1 ≠ d) → AllNe d l
  | [], _ => trivial
  | p :: _, h => ⟨h p (.head _), allNe_of fun q hq => h q (.tail _ hq)⟩

/-- behind a call that makes two objects and turns none -/
theorem made2 {h₀ h h' : Heap} {L r b : Addr} {m : Str → Option Value} {news : List (Addr × Obj)} {o1 o2 : Obj} (F : Fr h₀ L h m) (N : News h₀ L h news) (K : Kept [] h h') (g1 : h'.get? r = some o1) (g2 : h'.get? b = some o2)
    (f1 : h.get? r = none) (f2 : h.get? b = none) (ne : r ≠ b) : Fr h₀ L h' m ∧ News h₀ L h' ((r, o1) :: (b, o2) :: news) ∧ AllNe r news ∧ AllNe b news ∧ @Ne Nat r b := by
  have kp : ∀ c o, h.get? c = some o → h'.get? c = some o := fun c o e => K c o e (by simp)
  obtain ⟨oL, es, ep, hL, rest⟩ := F.ns
  have out : ∀ c, h.get? c = none → c ≠ L ∧ h₀.get? c = none := fun c hc => by
    refine ⟨(fun q => by rw [q, hL] at hc; cases hc), ?_⟩
    cases q : h₀.get? c with
    | none => rfl
    | some o => rw [F.keep c o q] at hc; cases hc
  have off : ∀ c, h.get? c = none → ∀ p ∈ news, p.1 ≠ c := fun c hc p hp q => by
    have := (N p hp).1
    rw [q, hc] at this; cases this
  refine ⟨⟨⟨oL, es, ep, kp _ _ hL, rest⟩, fun c o e => kp _ _ (F.keep c o e), F.above⟩, ?_, allNe_of (off r f1), allNe_of (off b f2), ne⟩
  refine List.forall_mem_cons.mpr ⟨⟨g1, out r f1⟩, List.forall_mem_cons.mpr ⟨⟨g2, out b f2⟩, fun p hp => ⟨kp _ _ (N p hp).1, (N p hp).2⟩⟩⟩
/-- behind a call that makes one object and turns none -/
theorem made1 {h₀ h h' : Heap} {L r : Addr} {m : Str → Option Value} {news : List (Addr × Obj)} {o1 : Obj} (F : Fr h₀ L h m) (N : News h₀ L h news) (K : Kept [] h h') (g1 : h'.get? r = some o1)
    (f1 : h.get? r = none) : Fr h₀ L h' m ∧ News h₀ L h' ((r, o1) :: news) ∧ AllNe r news := by
  have kp : ∀ c o, h.get? c = some o → h'.get? c = some o := fun c o e => K c o e (by simp)
  obtain ⟨oL, es, ep, hL, rest⟩ := F.ns
  have out : r ≠ L ∧ h₀.get? r = none := by
    refine ⟨(fun q => by rw [q, hL] at f1; cases f1), ?_⟩
    cases q : h₀.get? r with
    | none => rfl
    | some o => rw [F.keep r o q] at f1; cases f1
  have off : ∀ p ∈ news, p.1 ≠ r := fun p hp q => by
    have := (N p hp).1
    rw [q, f1] at this; cases this
  exact ⟨⟨⟨oL, es, ep, kp _ _ hL, rest⟩, fun c o e => kp _ _ (F.keep c o e), F.above⟩, List.forall_mem_cons.mpr ⟨⟨g1, out⟩, fun p hp => ⟨kp _ _ (N p hp).1, (N p hp).2⟩⟩, allNe_of off⟩

/-- behind a call of name_of -/
theorem named1 {h₀ h h' : Heap} {L d : Addr} {m : Str → Option Value} {news : List (Addr × Obj)} {g : Obj → List (Addr × Obj)} {o o' : Obj} (F : Fr h₀ L h m) (N : News h₀ L h news) (U : UpdF d o news g) (K : Kept [d] h h') (g1 : h'.get? d = some o') :
    Fr h₀ L h' m ∧ News h₀ L h' (g o') := by
  obtain ⟨pre, post, rfl, hg, a, b⟩ := U.split
  have D := N (d, o) (List.mem_append_right _ (.head _))
  obtain ⟨oL, es, ep, hL, rest⟩ := F.ns
  refine ⟨⟨⟨oL, es, ep, K _ _ hL (by simpa using Ne.symm D.2.1), rest⟩, fun c o e => K _ _ (F.keep c o e) (fun q => by rw [List.mem_singleton.mp q, D.2.2] at e; cases e), F.above⟩, ?_⟩
  rw [hg]
  intro p hp
  rcases List.mem_append.mp hp with q | q
  · have P := N p (List.mem_append_left _ q)
    exact ⟨K _ _ P.1 (by simpa using a p q), P.2⟩
  · rcases List.mem_cons.mp q with rfl | q
    · exact ⟨g1, D.2⟩
    · have P := N p (List.mem_append_right _ (.tail _ q))
      exact ⟨K _ _ P.1 (by simpa using b p q), P.2⟩

theorem nameIn_length (N : List (List UInt8)) (x : List UInt8) : (nameIn N x).length = 32 := be32_length _
/-- the new names -/
noncomputable def addName (N : List (List UInt8)) (x : List UInt8) : List (List UInt8) := if x ∈ N then N else N ++ [x]
theorem addName_length (N : List (List UInt8)) (x : List UInt8) : (addName N x).length ≤ N.length + 1 := by
  unfold addName; split <;> simp

/-- what set does, turn by turn -/
inductive SetRun (k : Nat) (sib : Nat → List UInt8) (v : List UInt8) (N₀ : List (List UInt8)) (kvs₀ : List (List UInt8 × Value)) : Nat → List (List UInt8) → List (List UInt8 × Value) → List UInt8 → List (List UInt8) → Prop
  | zero : SetRun k sib v N₀ kvs₀ 0 N₀ kvs₀ v []
  | succ {i : Nat} {N : List (List UInt8)} {kvs : List (List UInt8 × Value)} {nd : List UInt8} {hs : List (List UInt8)} (t : Tok) : SetRun k sib v N₀ kvs₀ i N kvs nd hs →
      SetRun k sib v N₀ kvs₀ (i + 1) (addName N nd) (stored kvs (nameIn (addName N nd) nd) (.bytes nd.toArray t)) (if k / 2 ^ i % 2 = 1 then sib (7 - i) ++ nameIn (addName N nd) nd else nameIn (addName N nd) nd ++ sib (7 - i)) (hs ++ [nameIn (addName N nd) nd])

section
variable {prog : Program} {w : World} {A : Around} {E : Value → Shared → Prop} {s : Shared} {Q : Value → Shared → Prop} {b c : List UInt8} {t u : Tok}
theorem add_l (hsz : b.length + c.length ≤ 1000) (h : ∀ t' k, Q (.bytes (b ++ c).toArray t') { s with toks := k }) : wpAny (model prog w) A (binaryOp .Add (.bytes b.toArray t) (.bytes c.toArray u)) Q E s :=
  KBy.add_bytes (by simp only [List.size_toArray]; omega) fun t' k => by rw [List.append_toArray]; exact h t' k
end
theorem len_key {prog : Program} {w : World} {A : Around} {E : Value → Shared → Prop} {s : Shared} {Q : Value → Shared → Prop} {k : Nat} {t : Tok} (hk8 : k < 256) (h : Q (.int 1 (s.toks + 1)) { s with toks := s.toks + 1 + 1 }) :
    wpAny (model prog w) A (call (.builtin "len") [.bytes (keyB k).toArray t]) Q E s := KBw.len_K (ks := [(k : Int)]) (keyB_ints hk8) (by simp) h
theorem maskL_step {i : Nat} : (2 : Int) ^ i * 2 ^ Int.toNat 1 = 2 ^ (i + 1) := by rw [Int.pow_succ]; rfl
theorem maskL_small {i : Nat} (h : i < 8) : ((2 : Int) ^ i).natAbs < 2 ^ 64 := by
  have : i = 0 ∨ i = 1 ∨ i = 2 ∨ i = 3 ∨ i = 4 ∨ i = 5 ∨ i = 6 ∨ i = 7 := by omega
  rcases this with rfl | rfl | rfl | rfl | rfl | rfl | rfl | rfl <;> decide
theorem bitL {i k : Nat} : Builtin.bitAnd (k : Int) (2 ^ i) = ((k / 2 ^ i % 2 : Nat) : Int) * 2 ^ i := by
  rw [kbt_bit, Int.natCast_emod, Int.natCast_ediv, Int.natCast_pow]
  rfl
theorem bitL_one {i k : Nat} (hb : Builtin.bitAnd (k : Int) (2 ^ i) ≠ 0) : k / 2 ^ i % 2 = 1 := by
  rw [bitL] at hb
  rcases Nat.mod_two_eq_zero_or_one (k / 2 ^ i) with e | e
  · rw [e] at hb; exact absurd (by simp) hb
  · exact e
theorem bitL_zero {i k : Nat} (hb : Builtin.bitAnd (k : Int) (2 ^ i) = 0) : ¬ k / 2 ^ i % 2 = 1 := by
  intro e
  rw [bitL, e] at hb
  have := kbt_pos i
  simp only [Int.natCast_one, Int.one_mul] at hb
  omega
theorem rev_sib {sib : Nat → List UInt8} {i : Nat} {y : List UInt8} (hi : i < 8) (h : ((List.range 8).map sib).reverse[i]? = some y) : y = sib (7 - i) := by
  have : i = 0 ∨ i = 1 ∨ i = 2 ∨ i = 3 ∨ i = 4 ∨ i = 5 ∨ i = 6 ∨ i = 7 := by omega
  rcases this with rfl | rfl | rfl | rfl | rfl | rfl | rfl | rfl <;> exact (Option.some.inj h).symm

noncomputable def JSet (w : World) (x dx db f d : Addr) (τ : Nat → Tok) (dflt root : List UInt8) (k : Nat) (sib : Nat → List UInt8) (v : List UInt8) (N₀ : List (List UInt8)) (kvs₀ : List (List UInt8 × Value)) (lp : Addr) (i : Nat) (m : Str → Option Value) (nx : List (Addr × Obj)) : Prop :=
  ∃ (N : List (List UInt8)) (kvs : List (List UInt8 × Value)) (nd : List UInt8) (hs : List (List UInt8)) (odb on : Obj) (bs : List Value) (n : Nat) (z zp : Int) (t1 t2 t3 : Tok),
    SetRun k sib v N₀ kvs₀ i N kvs nd hs ∧ odb.IsDictOf (BK w) kvs ∧ NamesObj w on N ∧ BytesAre bs hs ∧ nx = [(lp, W.listOf bs.toArray n), (x, instObj 235 dx), (dx, dictOf (treeAttrs w.params τ dflt root f db) 6), (db, odb), (d, on)] ∧
    m (Str.ofString "node") = some (.bytes nd.toArray t1) ∧ m (Str.ofString "path") = some (.int zp t2) ∧ m (Str.ofString "target_bit") = some (.int z t3) ∧ m (Str.ofString "proof_update") = some (.ref lp) ∧ m (Str.ofString "self") = some (.ref x) ∧ m (Str.ofString "keccak") = some (.ref f) ∧
    zp = k ∧ z = 2 ^ i ∧ N.length ≤ N₀.length + i ∧ kvs.length ≤ kvs₀.length + i ∧ nd.length ≤ 64 ∧ hs.length = i
end sM9
section sMA
theorem addName_eq {N' N : List (List UInt8)} {k : List UInt8} (h : N' = if k ∈ N then N else N ++ [k]) : N' = addName N k := h
theorem stored_len (kvs : List (List UInt8 × Value)) (k : List UInt8) (v : Value) : (stored kvs k v).length ≤ kvs.length + 1 := by
  unfold stored; split <;> simp
-- room
-- where the walk halts


-- dicts keyed by octets


-- lists

-- octets



-- reversed(t)

-- tuple(reversed(xs))

-- name_of



-- _get



theorem set_spec {w : World} {dp un : Nat} {gd : Option (List Code)} {cn : Str} {cs : Scope} {a : Addr} {ccd : Value} {cl : List (Str × Addr)} {outer : List Env} {A₀ : Around} {base h₀ : Heap} {L : Addr} {m : Str → Option Value}
    {p : Program} {loose : List Str} {mean : ExcName → Option Value} {mg mb : Str → Option Value} {s : Shared} {Q E : Value → Shared → Prop}
    {x dx db f d : Addr} {odb on : Obj} {τ : Nat → Tok} {dflt : List UInt8} {kvs : List (List UInt8 × Value)} {N : List (List UInt8)} {nh sib : Nat → List UInt8} {v v₀ : List UInt8} {k : Nat} {t tv : Tok}
    (B : Below A₀ base outer h₀) (F : Fr h₀ L s.heap m) (X : (K39 w.params).In h₀) (T : Top p loose mean mg mb h₀) (hk : cs.kind = .function) (hdp : dp + 16 < recursionLimit)
    (Nw : News h₀ L s.heap [(x, instObj 235 dx), (dx, dictOf (treeAttrs w.params τ dflt (nh 0) f db) 6), (db, odb), (d, on)]) (ord : @LT.lt Nat _ d dx ∧ @LT.lt Nat _ dx x ∧ @LT.lt Nat _ x db) (lo : (d == sysModules) = false) (nf : NF s.heap f d)
    (hdb : odb.IsDictOf (BK w) kvs) (hon : NamesObj w on N) (hN : N.length < 50000) (hkz : kvs.length < 50000) (hk8 : k < 256) (hvl : v.length ≤ 64)
    (hs : ∀ i, i < 8 → ∃ l r t, valueAt kvs (nh i) = some (.bytes (l ++ r).toArray t) ∧ l.length = 32 ∧ r.length = 32 ∧ if k / 2 ^ (7 - i) % 2 = 1 then nh (i + 1) = r ∧ sib i = l else nh (i + 1) = l ∧ sib i = r)
    (he : ∃ t, valueAt kvs (nh 8) = some (.bytes v₀.toArray t))
    (ret : ∀ h' r tk' N' kvs' nd hs' odb' on' τ' tx vs, SetRun k sib v N kvs 8 N' kvs' nd hs' → Kept [dx, db, d] s.heap h' → h'.get? dx = some (dictOf (treeAttrs w.params τ' dflt (nameIn (addName N' nd) nd) f db) 6) →
      h'.get? db = some odb' → odb'.IsDictOf (BK w) (stored kvs' (nameIn (addName N' nd) nd) (.bytes nd.toArray tx)) → h'.get? d = some on' → NamesObj w on' (addName N' nd) → h'.get? r = some (tupObj vs) → BytesAre vs hs'.reverse → s.heap.get? r = none → Q (.ref r) { s with heap := h', toks := tk' }) :
    wpAny (model PG w) (ktrTop dp un gd cn cs L a ccd cl outer) (call (.ref 190) [.ref x, .bytes (keyB k).toArray t, .bytes v.toArray tv]) Q E s := by
  have hkb := keyB_ints hk8
  obtain ⟨ord1, ord2, ord3⟩ := ord
  refine wpAny_call ?_
  refine' enterK B F X Nw T rfl rfl hk ?ho ?hcd (by show dp < recursionLimit; omega) ?hb ?hl (fun g L' h₁ F' N' B' X' T' kept => ?_) ?hcell ?c1 ?c2 ?c3
  case ho => k_is
  case hcd => k_is
  case hb => exact BindsTo.of_eq rfl
  case hl => exact locs rfl
  case hcell => decide
  case c1 => rfl
  case c2 => rfl
  case c3 => rfl
  have nf' : NF g f d := by
    obtain ⟨q, doc, pm, c, cel, ct, oc, hf, ⟨c', oc', vs', t', e', hc', hd', hv'⟩, hcel, hcd⟩ := nf
    have off : ∀ b o, s.heap.get? b = some o → (∀ es n, o.data ≠ .dict es n) → (o.data ≠ .plain) → g.get? b = some o := fun b o e h1 h2 => kept b o e (fun hb => by
      simp only [List.map_cons, List.map_nil, List.mem_cons, List.not_mem_nil, or_false] at hb
      obtain ⟨es1, ep1, he1, hdd, _⟩ := hdb
      obtain ⟨kk, ⟨es2, ep2, he2, hdd2, _⟩, _⟩ := hon
      rcases hb with rfl | rfl | rfl | rfl
      · have := (Nw _ (.head _)).1; rw [e] at this; cases this; exact h2 rfl
      · have := (Nw _ (.tail _ (.head _))).1; rw [e] at this; cases this; exact h1 _ _ rfl
      · have := (Nw _ (.tail _ (.tail _ (.head _)))).1; rw [e] at this; cases this; exact h1 _ _ hdd
      · have := (Nw _ (.tail _ (.tail _ (.tail _ (.head _))))).1; rw [e] at this; cases this; exact h1 _ _ hdd2)
    exact ⟨q, doc, pm, c, cel, ct, oc, off _ _ hf (fun _ _ e => nomatch e) (fun e => nomatch e), ⟨c', oc', vs', t', e', off _ _ hc' (fun _ _ e => by rw [hd'] at e; cases e) (fun e => by rw [hd'] at e; cases e), hd', hv'⟩, off _ _ hcel (fun _ _ e => by rw [hcd] at e; cases e) (fun e => by rw [hcd] at e; cases e), hcd⟩
  clear nf
  try dsimp only
  try k_fold
  repeat' (first | (k_here; (with_reducible show wpAny _ _ (call (Value.ref 183) [_, _]) _ _ _); k_dflt (refine' get_spec ?r14B ?r14F ?r14X ?r14T ?r14hk ?r14dp ?r14N ?r14hdb ?r14k8 ?r14hs ?r14he ?_; (case r14hs => assumption); (case r14he => assumption); (case r14B => k_asm); (case r14F => k_asm); (case r14X => k_asm); (case r14T => k_asm); (case r14hk => exact rfl); (case r14dp => ((try simp only [depth_deeper, depth_in1, depth_under_make]); (try dsimp only [ktrTop]); omega)); (case r14k8 => assumption); (case r14hdb => k_asm); (case r14N => exact news3 (by k_asm) (by k_mem) (by k_mem) (by k_mem))); intro h' r' b' t' tk' vs' K' g1 g2 hb' f1 f2 ne'; (obtain ⟨F', N', n1, n2, n3⟩ := made2 (by k_asm) (by k_asm) K' g1 g2 f1 f2 ne'); (simp only [AllNe, and_true] at n1 n2); clear K' g1 g2 f1 f2 ne'; (have hlb' := BytesAre.length hb'); (simp only [List.length_map, List.length_range] at hlb'); (try k_sweep)) | (k_here; (with_reducible show wpAny _ _ (call (Value.type _) [Value.ref _]) _ _ _); k_dflt (refine' krv_tuple ?r9F ?r9N ?r9l ?r9z ?_; (case r9F => k_asm); (case r9N => k_asm); (case r9l => exact ⟨_, (News.get (by k_asm) (by k_mem)), rfl, 0, rfl⟩); (case r9z => omega)); intro D' h' k' F' N' l1 l2; (try k_lt l1); (try k_sweep)) | (k_here; (with_reducible show wpAny _ _ (call (Value.builtin "len") [Value.bytes (List.toArray (keyB _)) _]) _ _ _); (refine len_key (by assumption) ?_)) | (k_here; (with_reducible show wpAny _ _ (pyIter (Value.ref _)) (fun it s₂ => LoopAtV _ _ _ _ _ _ _ _ _ it s₂) _ _); (refine halt ?_)) | (k_unfold; (try dsimp only)) | walk1 | (dsimp only; walk1) | (leave1; (try dsimp only)))
  rename News g L' _ _ => NR
  rename Fr g L' _ _ => FR
  rename BytesAre _ _ => HB
  have NL := newsC NR (.tail _ (.head _)) (news4 NR (.tail _ (.tail _ (.tail _ (.tail _ (.tail _ (.head _)))))) (.tail _ (.tail _ (.tail _ (.tail _ (.tail _ (.tail _ (.head _))))))) (.tail _ (.tail _ (.tail _ (.tail _ (.tail _ (.tail _ (.tail _ (.head _)))))))) (.tail _ (.tail _ (.tail _ (.tail _ (.tail _ (.tail _ (.tail _ (.tail _ (.head _))))))))))
  refine' loop_rv (JSet w x dx db f d τ dflt (nh 0) k sib v N kvs _) rfl FR (news1 NR (.head _)) ⟨_, (NR _ (.tail _ (.tail _ (.tail _ (.head _))))).1, rfl, 0, rfl⟩ (NR _ (.tail _ (.tail _ (.tail _ (.head _))))).2.1 ?htI (by omega) HB NL ?hnI ?hnt
    ⟨N, kvs, v, [], _, _, [], _, _, _, _, _, _, .zero, hdb, hon, .nil, rfl, rfl, rfl, rfl, rfl, rfl, rfl, by omega, by decide, by omega, by omega, by omega, rfl⟩ ?turn ?done
  case htI => k_ne
  case hnI => k_all
  case hnt => k_all
  case turn =>
    rintro i y ty m₁ news₁ h tk own hi hy hoff ⟨N1, kvs1, nd, hs1, odb1, on1, bs, n, z, zp, t1, t2, t3, hrun, hdb1, hon1, hbs, rfl, e1, e2, e3, e4, e5, e6, hzp, hz, hNl, hkl, hndl, hsl⟩ F1 N1'
    rw [List.length_map, List.length_range] at hi
    have hyl : y.length = 32 := by
      rw [rev_sib hi hy]
      obtain ⟨l, r, _, _, hl, hr, hb⟩ := hs (7 - i) (by omega)
      split at hb
      · rw [hb.2]; exact hl
      · rw [hb.2]; exact hr
    have F2 := Fr.knownX F1 [(Str.ofString "node", _), (Str.ofString "path", _), (Str.ofString "target_bit", _), (Str.ofString "proof_update", _), (Str.ofString "self", _), (Str.ofString "keccak", _)]
      (List.forall_mem_cons.mpr ⟨e1, List.forall_mem_cons.mpr ⟨e2, List.forall_mem_cons.mpr ⟨e3, List.forall_mem_cons.mpr ⟨e4, List.forall_mem_cons.mpr ⟨e5, List.forall_mem_cons.mpr ⟨e6, List.forall_mem_nil _⟩⟩⟩⟩⟩⟩)
      (List.forall_mem_cons.mpr ⟨ne_lit (by decide), List.forall_mem_cons.mpr ⟨ne_lit (by decide), List.forall_mem_cons.mpr ⟨ne_lit (by decide), List.forall_mem_cons.mpr ⟨ne_lit (by decide), List.forall_mem_cons.mpr ⟨ne_lit (by decide), List.forall_mem_cons.mpr ⟨ne_lit (by decide), List.forall_mem_nil _⟩⟩⟩⟩⟩⟩)
    clear F1 e1 e2 e3 e4 e5 e6 FR NR NL
    simp only [List.cons_append, List.nil_append] at N1'
    simp only [List.map_cons, List.map_nil] at hoff
    have hbl := hbs.length
    have hz64 : z.natAbs < 2 ^ 64 := by rw [hz]; exact maskL_small hi
    try k_fold
    repeat' (first | (k_here; (with_reducible show wpAny _ _ (call (Value.ref _) [Value.bytes (List.toArray _) _]) _ _ _); k_dflt (refine' name_of_spec ?r13B ?r13F ?r13X ?r13T ?r13hk ?r13dp ?r13nf ?r13N ?r13lo ?r13ho ?r13len ?_; (case r13nf => exact NF.keeps (by assumption) (Fr.keep (by assumption))); (case r13B => k_asm); (case r13F => k_asm); (case r13X => k_asm); (case r13T => k_asm); (case r13hk => exact rfl); (case r13dp => ((try simp only [depth_deeper, depth_in1, depth_under_make]); (try dsimp only [ktrTop]); omega)); (case r13ho => k_asm); (case r13N => exact news1 (by k_asm) (by k_mem)); (case r13lo => k_asm); (case r13len => omega)); intro h' t' tk' o' n' K' g' ho' hn'; (obtain ⟨F', N'⟩ := named1 (by k_asm) (by k_asm) (by k_updF) K' g'); (try dsimp only at N'); clear K' g'; (have hn2 := addName_eq hn'); (subst hn2); (clear hn'); (try k_sweep)) | (k_here; (with_reducible show wpAny _ _ (callWith _ (Value.ref _) _ _ _) _ _ _); k_dflt (refine' callWith_F ?r12k1 ?_; (case r12k1 => exact NF.fnAt (NF.keeps (by assumption) (Fr.keep (by assumption)))); k_whole)) | ((with_reducible show FnAt _ _ ∧ _); k_dflt (refine ⟨NF.fnAt (NF.keeps (by assumption) (Fr.keep (by assumption))), ?_⟩); (try dsimp only [List.nil_append, List.cons_append])) | (k_here; (with_reducible show wpAny _ _ (inplaceOp Operator.LShift (Value.int _ _) (Value.int _ _)) _ _ _); (refine ilshift_int_small (by decide) (by decide) (by assumption) ?_)) | (k_here; (with_reducible show wpAny _ _ (binaryOp Operator.Add (Value.bytes _ _) (Value.bytes _ _)) _ _ _); k_dflt (refine add_l (by simp only [nameIn_length]; omega) ?_); intro _ _) | (k_here; (with_reducible show wpAny _ _ (call (Value.builtin _) [Value.ref _, _]) _ _ _); k_dflt (refine' append_K ?r5k1 ?r5k2 ?r5k3 ?_ ?r5z; (case r5k1 => k_asm); (case r5k2 => k_asm); (case r5k3 => k_upd); (case r5z => (rw [sizeLine_eq]; simp only [List.size_toArray]; omega)); k_whole); intro h' F' N'; (try k_sweep)) | (k_here; (with_reducible show wpAny _ _ (setItem (Value.ref _) (Value.bytes _ _) _) _ _ _); k_dflt (refine' kda_set (knd := bytesKind _ _) ?r4F ?r4N ?r4U ?r4d (bytesKind_is _ _ _ _) ?r4z ?_; (case r4F => k_asm); (case r4N => k_asm); (case r4U => k_updF); (case r4d => k_asm); (case r4z => (rw [sizeLine_eq]; omega))); intro h' o' F' N' hd'; (try dsimp only at N'); (try k_sweep)) | (with_reducible refine haltInv ?_) | (k_unfold; (try dsimp only)) | walk1 | (dsimp only; walk1) | (leave1; (try dsimp only)))
    all_goals (
      rename Fr g L' _ _ => FE
      rename News g L' _ _ => NE
      rename Obj.IsDictOf _ _ (stored _ _ _) => HD
      rename NamesObj w _ _ => HO
      skip)
    · subst hzp hz
      have R := SetRun.succ t1 hrun
      rw [if_pos (bitL_one (by assumption)), ← rev_sib hi hy] at R
      simp only [List.push_toArray] at NE
      refine invEnd [] [_, _, _, _, _] FE NE rfl ⟨_, _, _, _, _, _, _, _, _, _, _, _, _, R, HD, HO, hbs.snoc, rfl, rfl, rfl, rfl, rfl, rfl, rfl, rfl, maskL_step, ?_, ?_, ?_, ?_⟩
      · have := addName_length N1 nd; omega
      · have := stored_len kvs1 (nameIn (addName N1 nd) nd) (.bytes nd.toArray t1); omega
      · rw [List.length_append, nameIn_length]; omega
      · rw [List.length_append, hsl]; rfl
    · subst hzp hz
      have R := SetRun.succ t1 hrun
      rw [if_neg (bitL_zero (by assumption)), ← rev_sib hi hy] at R
      simp only [List.push_toArray] at NE
      refine invEnd [] [_, _, _, _, _] FE NE rfl ⟨_, _, _, _, _, _, _, _, _, _, _, _, _, R, HD, HO, hbs.snoc, rfl, rfl, rfl, rfl, rfl, rfl, rfl, rfl, maskL_step, ?_, ?_, ?_, ?_⟩
      · have := addName_length N1 nd; omega
      · have := stored_len kvs1 (nameIn (addName N1 nd) nd) (.bytes nd.toArray t1); omega
      · rw [List.length_append, nameIn_length]; omega
      · rw [List.length_append, hsl]; rfl
  case done =>
    rintro m₁ nx h tk ⟨N1, kvs1, nd, hs1, odb1, on1, bs, n, z, zp, t1, t2, t3, hrun, hdb1, hon1, hbs, rfl, e1, e2, e3, e4, e5, e6, hzp, hz, hNl, hkl, hndl, hsl⟩ F1 N1'
    have F2 := Fr.known F1 [(Str.ofString "node", _), (Str.ofString "proof_update", _), (Str.ofString "self", _), (Str.ofString "keccak", _)]
      (List.forall_mem_cons.mpr ⟨e1, List.forall_mem_cons.mpr ⟨e4, List.forall_mem_cons.mpr ⟨e5, List.forall_mem_cons.mpr ⟨e6, List.forall_mem_nil _⟩⟩⟩⟩)
    clear F1 e1 e2 e3 e4 e5 e6 FR NR NL
    rw [List.length_map, List.length_range] at hrun hz hNl hkl hsl
    have hbl := hbs.length
    try dsimp only
    try k_fold
    repeat' (first | (k_here; (with_reducible show wpAny _ _ (call (Value.ref _) [Value.bytes (List.toArray _) _]) _ _ _); k_dflt (refine' name_of_spec ?r13B ?r13F ?r13X ?r13T ?r13hk ?r13dp ?r13nf ?r13N ?r13lo ?r13ho ?r13len ?_; (case r13nf => exact NF.keeps (by assumption) (Fr.keep (by assumption))); (case r13B => k_asm); (case r13F => k_asm); (case r13X => k_asm); (case r13T => k_asm); (case r13hk => exact rfl); (case r13dp => ((try simp only [depth_deeper, depth_in1, depth_under_make]); (try dsimp only [ktrTop]); omega)); (case r13ho => k_asm); (case r13N => exact news1 (by k_asm) (by k_mem)); (case r13lo => k_asm); (case r13len => omega)); intro h' t' tk' o' n' K' g' ho' hn'; (obtain ⟨F', N'⟩ := named1 (by k_asm) (by k_asm) (by k_updF) K' g'); (try dsimp only at N'); clear K' g'; (have hn2 := addName_eq hn'); (subst hn2); (clear hn'); (try k_sweep)) | (k_here; (with_reducible show wpAny _ _ (callWith _ (Value.ref _) _ _ _) _ _ _); k_dflt (refine' callWith_F ?r12k1 ?_; (case r12k1 => exact NF.fnAt (NF.keeps (by assumption) (Fr.keep (by assumption)))); k_whole)) | ((with_reducible show FnAt _ _ ∧ _); k_dflt (refine ⟨NF.fnAt (NF.keeps (by assumption) (Fr.keep (by assumption))), ?_⟩); (try dsimp only [List.nil_append, List.cons_append])) | (k_here; (with_reducible show wpAny _ _ (call (Value.type "tuple") [Value.ref _]) _ _ _); k_dflt (refine' tuple_of_rev ?r10hh ?r10F ?r10N ?r10m ?r10D ?r10z ?_; (case r10hh => rfl); (case r10F => k_asm); (case r10N => k_asm); (case r10m => k_mem); (case r10D => k_all); (case r10z => omega)); intro D' h' k' F' N' l1; (try k_lt l1); (try k_sweep)) | (k_here; (with_reducible show wpAny _ _ (setItem (Value.ref _) (Value.bytes _ _) _) _ _ _); k_dflt (refine' kda_set (knd := bytesKind _ _) ?r4F ?r4N ?r4U ?r4d (bytesKind_is _ _ _ _) ?r4z ?_; (case r4F => k_asm); (case r4N => k_asm); (case r4U => k_updF); (case r4d => k_asm); (case r4z => (rw [sizeLine_eq]; omega))); intro h' o' F' N' hd'; (try dsimp only at N'); (try k_sweep)) | (k_unfold; (try dsimp only)) | walk1 | (dsimp only; walk1) | (leave1; (try dsimp only)))
    rename Fr g L' _ _ => FE
    rename News g L' _ _ => NE
    rename Obj.IsDictOf _ _ (stored _ _ _) => HD
    rename NamesObj w _ _ => HO
    rename LtAll [_, _, _, _, _] _ => HL
    subst hzp hz
    with_reducible refine' ret _ _ _ N1 kvs1 nd hs1 _ _ (fun i => if i = 9 then _ else τ i) _ _ hrun ?r1 ?r2 ?r3 HD ?r5 HO ?r7 ?r8 ?r9
    case r1 => exact kept_but [dx, db, d] kept FE.keep Nw (List.forall_mem_cons.mpr ⟨fun _ => (NE _ (.tail _ (.tail _ (.head _)))).1, List.forall_mem_cons.mpr ⟨fun hh => absurd (.head _) hh, List.forall_mem_cons.mpr ⟨fun hh => absurd (.tail _ (.head _)) hh, List.forall_mem_cons.mpr ⟨fun hh => absurd (.tail _ (.tail _ (.head _))) hh, List.forall_mem_nil _⟩⟩⟩⟩)
    case r2 => exact (NE _ (.tail _ (.tail _ (.tail _ (.head _))))).1
    case r3 => exact (NE _ (.tail _ (.tail _ (.tail _ (.tail _ (.head _)))))).1
    case r5 => exact (NE _ (.tail _ (.tail _ (.tail _ (.tail _ (.tail _ (.head _))))))).1
    case r7 => exact (NE _ (.head _)).1
    case r8 => exact hbs.reverse
    case r9 => exact fresh_of kept (NE _ (.head _)).2.2 (List.forall_mem_cons.mpr ⟨HL.ne' (List.Mem.tail _ (List.Mem.head _)), List.forall_mem_cons.mpr ⟨HL.ne' (List.Mem.tail _ (List.Mem.tail _ (List.Mem.head _))), List.forall_mem_cons.mpr ⟨HL.ne' (List.Mem.tail _ (List.Mem.tail _ (List.Mem.tail _ (List.Mem.head _)))), List.forall_mem_cons.mpr ⟨HL.ne' (List.Mem.tail _ (List.Mem.tail _ (List.Mem.tail _ (List.Mem.tail _ (List.Mem.head _))))), List.forall_mem_nil _⟩⟩⟩⟩)
end sMA
section sMB
section
variable {prog : Program} {w : World} {A : Around} {E : Value → Shared → Prop} {s : Shared} {h₀ : Heap} {L : Addr} {m : Str → Option Value} {news : List (Addr × Obj)}
theorem newDict_L {env : Env} {pos : Pos} {Q : Value → Shared → Prop} (F : Fr h₀ L s.heap m) (N : News h₀ L s.heap news) (hbig : h₀.NoLimit)
    (k : ∀ d h' o, Fr h₀ L h' m → News h₀ L h' ((d, o) :: news) → (∀ p ∈ news, p.1 < d) → (d == sysModules) = false → o.IsDictOf (bytesKind prog w) [] → o.IsDictOf (intKind prog w) [] → Q (.ref d) { s with heap := h' }) : wpAny (model prog w) A (eval (.Dict [] [] pos) env) Q E s := by
  refine wpAny_Dict_empty (k _ _ _ (F.push _) (News.push F N _) (fun p hp => Heap.lt_size (N p hp).1) (F.notModules (modules_low hbig)) ?_ ?_)
  · obtain ⟨o, ho, hd⟩ := Heap.dictOf_iff.mp (Heap.DictOf.new (knd := bytesKind prog w) s.heap)
    rw [Heap.get?_push_size _ rfl] at ho
    exact (Option.some.inj ho) ▸ hd
  · obtain ⟨o, ho, hd⟩ := Heap.dictOf_iff.mp (Heap.DictOf.new (knd := intKind prog w) s.heap)
    rw [Heap.get?_push_size _ rfl] at ho
    exact (Option.some.inj ho) ▸ hd
theorem make_S {K : Frag} {C : Addr} {Q : Value → Shared → Prop} {rest : List Value} {fI : Addr} (F : Fr h₀ L s.heap m) (N : News h₀ L s.heap news) (X₀ : K.In h₀) (hm : makesIn K C = true)
    (hi : findIn K (.ref C) "__init__" = some (some (.ref fI))) (hf : isFn K (.ref fI) = true)
    (h : ∀ x dx h', Fr h₀ L h' m → News h₀ L h' ((x, instObj C dx) :: (dx, dictOf [] 0) :: news) → s.heap.StaysIn h' → s.heap.get? dx = none → s.heap.get? x = none → (∀ b o, s.heap.get? b = some o → @LT.lt Nat _ b dx) → @LT.lt Nat _ dx x →
      codeAny (model prog w) (A.under (.builtin "type.__call__" ⟨.ref C :: rest, []⟩)) (.call (.ref fI) ⟨.ref x :: rest, []⟩) (InitBack x fun r s' => match r with | .ok (.ret v) => Q v s' | .ok _ => False | .error e => E e s') { s with heap := h' }) :
    wpAny (model prog w) A (call (.ref C) rest) Q E s := by
  refine wpAny_call ?_
  have X := X₀.keeps F.keep
  obtain ⟨hh, g, d, t, os⟩ := s
  refine make_core (makes_of X hm) (looks_findIn X hi) (fun self => bind_fn X self (beq_iff_eq.mp hf)) (.inl rfl) (h _ hh.objs.size _ ((F.push _).push _) ?_ ?_ ?_ ?_ (fun b o e => Heap.lt_size e) (Nat.lt_succ_self _))
  · have := (N.push F emptyDict).push (F.push _) (instObj C hh.objs.size)
    rwa [Heap.size_push] at this
  · exact fun b o e => Heap.get?_push_of_some _ (Heap.get?_push_of_some _ e)
  · cases q : hh.get? hh.objs.size with
    | none => rfl
    | some o => exact absurd (Heap.lt_size q) (Nat.lt_irrefl _)
  · cases q : hh.get? (hh.objs.size + 1) with
    | none => rfl
    | some o => exact absurd (Heap.lt_size q) (Nat.not_lt_of_le (Nat.le_succ _))
end

-- room
-- where the walk halts


-- dicts keyed by octets


-- lists

-- octets



-- reversed(t)

-- tuple(reversed(xs))

-- name_of



-- _get





noncomputable def tok10 (a0 a1 a2 a3 a4 a5 a6 a7 a8 a9 : Tok) : Nat → Tok
  | 0 => a0 | 1 => a1 | 2 => a2 | 3 => a3 | 4 => a4 | 5 => a5 | 6 => a6 | 7 => a7 | 8 => a8 | _ => a9
noncomputable abbrev treeAttrs5 (P : Params) (τ : Nat → Tok) (dflt : List UInt8) (f db : Addr) : List DictEntry :=
  [⟨PyData.keyHash P (Str.ofString "_key_size"), .str (Str.ofString "_key_size") (τ 0), .int 1 (τ 1)⟩,
   ⟨PyData.keyHash P (Str.ofString "depth"), .str (Str.ofString "depth") (τ 2), .int 8 (τ 3)⟩,
   ⟨PyData.keyHash P (Str.ofString "_default"), .str (Str.ofString "_default") (τ 4), .bytes dflt.toArray (τ 5)⟩,
   ⟨PyData.keyHash P (Str.ofString "hash_of"), .str (Str.ofString "hash_of") (τ 6), .ref f⟩,
   ⟨PyData.keyHash P (Str.ofString "db"), .str (Str.ofString "db") (τ 7), .ref db⟩]

inductive InitRun (dflt : List UInt8) (N₀ : List (List UInt8)) : Nat → List (List UInt8) → List (List UInt8 × Value) → List UInt8 → Prop
  | zero : InitRun dflt N₀ 0 N₀ [] dflt
  | succ {i : Nat} {N : List (List UInt8)} {kvs : List (List UInt8 × Value)} {nd : List UInt8} (t : Tok) : InitRun dflt N₀ i N kvs nd →
      InitRun dflt N₀ (i + 1) (addName N nd) (stored kvs (nameIn (addName N nd) nd) (.bytes nd.toArray t)) (nameIn (addName N nd) nd ++ nameIn (addName N nd) nd)

noncomputable def JInit (w : World) (x dx db f d : Addr) (τ : Nat → Tok) (dflt : List UInt8) (N₀ : List (List UInt8)) (i : Nat) (m : Str → Option Value) (nx : List (Addr × Obj)) : Prop :=
  ∃ (N : List (List UInt8)) (kvs : List (List UInt8 × Value)) (nd : List UInt8) (odb on : Obj) (t1 : Tok),
    InitRun dflt N₀ i N kvs nd ∧ odb.IsDictOf (BK w) kvs ∧ NamesObj w on N ∧ nx = [(db, odb), (x, instObj 235 dx), (dx, dictOf (treeAttrs5 w.params τ dflt f db) 5), (d, on)] ∧
    m (Str.ofString "node") = some (.bytes nd.toArray t1) ∧ m (Str.ofString "self") = some (.ref x) ∧ m (Str.ofString "keccak") = some (.ref f) ∧
    N.length ≤ N₀.length + i ∧ kvs.length ≤ i ∧ nd.length ≤ 64

theorem tree_spec {w : World} {dp un : Nat} {gd : Option (List Code)} {cn : Str} {cs : Scope} {a : Addr} {ccd : Value} {cl : List (Str × Addr)} {outer : List Env} {A₀ : Around} {base h₀ : Heap} {L : Addr} {m : Str → Option Value}
    {p : Program} {loose : List Str} {mean : ExcName → Option Value} {mg mb : Str → Option Value} {s : Shared} {Q E : Value → Shared → Prop}
    {f d : Addr} {on : Obj} {dflt : List UInt8} {N : List (List UInt8)} {t1 t2 : Tok}
    (B : Below A₀ base outer h₀) (F : Fr h₀ L s.heap m) (X : (K39 w.params).In h₀) (T : Top p loose mean mg mb h₀) (hk : cs.kind = .function) (hdp : dp + 16 < recursionLimit)
    (Nw : News h₀ L s.heap [(d, on)]) (lo : (d == sysModules) = false) (nf : NF s.heap f d) (hon : NamesObj w on N) (hN : N.length < 50000) (hvl : dflt.length ≤ 64)
    (ret : ∀ h' x dx db tk' N' kvs' nd odb' on' τ' tx, InitRun dflt N 8 N' kvs' nd → Kept [d] s.heap h' → h'.get? x = some (instObj 235 dx) → h'.get? dx = some (dictOf (treeAttrs w.params τ' dflt (nameIn (addName N' nd) nd) f db) 6) →
      h'.get? db = some odb' → odb'.IsDictOf (BK w) (stored kvs' (nameIn (addName N' nd) nd) (.bytes nd.toArray tx)) → h'.get? d = some on' → NamesObj w on' (addName N' nd) → s.heap.get? x = none → s.heap.get? dx = none → s.heap.get? db = none →
      @LT.lt Nat _ d dx ∧ @LT.lt Nat _ dx x ∧ @LT.lt Nat _ x db → (db == sysModules) = false → (∀ b o, s.heap.get? b = some o → @LT.lt Nat _ b dx) → Q (.ref x) { s with heap := h', toks := tk' }) :
    wpAny (model PG w) (ktrTop dp un gd cn cs L a ccd cl outer) (call (.ref 235) [.ref f, .int 1 t1, .bytes dflt.toArray t2]) Q E s := by
  have nf0 := nf
  refine' make_S (K := K39 w.params) F Nw X ?m1 ?m2 ?m3 ?_
  case m1 => k_is
  case m2 => k_is
  case m3 => k_is
  intro x dx hh F₁ N₁ st dxn xn lt1 lt2
  have ord1 : @LT.lt Nat _ d dx := lt1 _ _ (Nw _ (.head _)).1
  have ord2 : @LT.lt Nat _ d x := Nat.lt_trans ord1 lt2
  have nf1 := nf.keeps st
  refine' enterK B F₁ X N₁ T rfl rfl hk ?ho ?hcd (by show dp + 1 < recursionLimit; omega) ?hb ?hl (fun g L' h₁ F' N' B' X' T' kept => ?_) ?hcell ?c1 ?c2 ?c3
  case ho => k_is
  case hcd => k_is
  case hb => exact binds_K (K := K39 w.params) (X.keeps F₁.keep) rfl (by k_is) rfl rfl rfl
  case hl => exact locs rfl
  case hcell => decide
  case c1 => rfl
  case c2 => rfl
  case c3 => rfl
  have nf' : NF g f d := by
    obtain ⟨q, doc, pm, c, cel, ct, oc, hf, ⟨c', oc', vs', t', e', hc', hd', hv'⟩, hcel, hcd⟩ := nf
    have old : ∀ b o, s.heap.get? b = some o → (∀ es n, o.data ≠ .dict es n) → b ∉ [x, dx, d] := fun b o e h1 hb => by
      simp only [List.mem_cons, List.not_mem_nil, or_false] at hb
      obtain ⟨kk, ⟨es2, ep2, he2, hdd2, _⟩, _⟩ := hon
      rcases hb with rfl | rfl | rfl
      · rw [xn] at e; cases e
      · rw [dxn] at e; cases e
      · have := (Nw _ (.head _)).1; rw [e] at this; cases this; exact h1 _ _ hdd2
    have off : ∀ b o, s.heap.get? b = some o → (∀ es n, o.data ≠ .dict es n) → g.get? b = some o := fun b o e h1 => kept b o (st _ _ e) (old b o e h1)
    exact ⟨q, doc, pm, c, cel, ct, oc, off _ _ hf (fun _ _ e => nomatch e), ⟨c', oc', vs', t', e', off _ _ hc' (fun _ _ e => by rw [hd'] at e; cases e), hd', hv'⟩, off _ _ hcel (fun _ _ e => by rw [hcd] at e; cases e), hcd⟩
  clear nf nf1
  try dsimp only
  try k_fold
  repeat' (first | (k_here; (with_reducible show wpAny _ _ (eval (Expr.Dict [] [] _) _) _ _ _); k_dflt (refine' newDict_L ?r15k1 ?r15k2 (TopRead.nolimit (by k_asm)) ?_; (case r15k1 => k_asm); (case r15k2 => k_asm)); intro d' h' o' F' N' l1 lo' hb' hi'; (try k_lt l1); (try k_sweep)) | (k_here; (with_reducible show wpAny _ _ (pyIter (Value.ref _)) (fun it s₂ => LoopAtV _ _ _ _ _ _ _ _ _ it s₂) _ _); (refine halt ?_)) | (k_unfold; (try dsimp only)) | walk1 | (dsimp only; walk1) | (leave1; (try dsimp only)))
  rename IsRange _ _ _ _ _ _ _ _ => hR
  rename Fr g L' _ _ => FR
  rename News g L' _ _ => NR
  rename LtAll [_, _, _] _ => HL
  rename Obj.IsDictOf (bytesKind _ _) _ _ => hdb
  obtain ⟨τ, NR⟩ : ∃ τ, News g L' _ [_, (x, instObj 235 dx), (dx, dictOf (treeAttrs5 w.params τ dflt f _) 5), (d, on)] := ⟨tok10 _ _ _ _ _ _ _ _ 0 0, NR⟩
  refine' loop_range (n := 8) (JInit w x dx _ f d τ dflt N) rfl hR (by decide) (by decide) FR NR ⟨N, [], dflt, _, on, _, .zero, hdb, hon, rfl, rfl, rfl, rfl, by omega, by decide, hvl⟩ ?turn ?done
  case turn =>
    rintro i t m₁ news₁ h tk own hi hoff ⟨N1, kvs1, nd, odb1, on1, t1', hrun, hdb1, hon1, rfl, e1, e2, e3, hNl, hkl, hndl⟩ F1 N1'
    have F2 := Fr.knownX F1 [(Str.ofString "node", _), (Str.ofString "self", _), (Str.ofString "keccak", _)]
      (List.forall_mem_cons.mpr ⟨e1, List.forall_mem_cons.mpr ⟨e2, List.forall_mem_cons.mpr ⟨e3, List.forall_mem_nil _⟩⟩⟩)
      (List.forall_mem_cons.mpr ⟨ne_lit (by decide), List.forall_mem_cons.mpr ⟨ne_lit (by decide), List.forall_mem_cons.mpr ⟨ne_lit (by decide), List.forall_mem_nil _⟩⟩⟩)
    clear F1 e1 e2 e3 FR NR
    simp only [List.cons_append, List.nil_append] at N1'
    simp only [List.map_cons, List.map_nil] at hoff
    try k_fold
    repeat' (first | (k_here; (with_reducible show wpAny _ _ (call (Value.ref _) [Value.bytes (List.toArray _) _]) _ _ _); k_dflt (refine' name_of_spec ?r13B ?r13F ?r13X ?r13T ?r13hk ?r13dp ?r13nf ?r13N ?r13lo ?r13ho ?r13len ?_; (case r13nf => exact NF.keeps (by assumption) (Fr.keep (by assumption))); (case r13B => k_asm); (case r13F => k_asm); (case r13X => k_asm); (case r13T => k_asm); (case r13hk => exact rfl); (case r13dp => ((try simp only [depth_deeper, depth_in1, depth_under_make]); (try dsimp only [ktrTop]); omega)); (case r13ho => k_asm); (case r13N => exact news1 (by k_asm) (by k_mem)); (case r13lo => k_asm); (case r13len => omega)); intro h' t' tk' o' n' K' g' ho' hn'; (obtain ⟨F', N'⟩ := named1 (by k_asm) (by k_asm) (by k_updF) K' g'); (try dsimp only at N'); clear K' g'; (have hn2 := addName_eq hn'); (subst hn2); (clear hn'); (try k_sweep)) | (k_here; (with_reducible show wpAny _ _ (callWith _ (Value.ref _) _ _ _) _ _ _); k_dflt (refine' callWith_F ?r12k1 ?_; (case r12k1 => exact NF.fnAt (NF.keeps (by assumption) (Fr.keep (by assumption)))); k_whole)) | ((with_reducible show FnAt _ _ ∧ _); k_dflt (refine ⟨NF.fnAt (NF.keeps (by assumption) (Fr.keep (by assumption))), ?_⟩); (try dsimp only [List.nil_append, List.cons_append])) | (k_here; (with_reducible show wpAny _ _ (binaryOp Operator.Add (Value.bytes _ _) (Value.bytes _ _)) _ _ _); k_dflt (refine add_l (by simp only [nameIn_length]; omega) ?_); intro _ _) | (k_here; (with_reducible show wpAny _ _ (setItem (Value.ref _) (Value.bytes _ _) _) _ _ _); k_dflt (refine' kda_set (knd := bytesKind _ _) ?r4F ?r4N ?r4U ?r4d (bytesKind_is _ _ _ _) ?r4z ?_; (case r4F => k_asm); (case r4N => k_asm); (case r4U => k_updF); (case r4d => k_asm); (case r4z => (rw [sizeLine_eq]; omega))); intro h' o' F' N' hd'; (try dsimp only at N'); (try k_sweep)) | (with_reducible refine haltInv ?_) | (k_unfold; (try dsimp only)) | walk1 | (dsimp only; walk1) | (leave1; (try dsimp only)))
    rename Fr g L' _ _ => FE
    rename News g L' _ _ => NE
    rename Obj.IsDictOf _ _ (stored _ _ _) => HD
    rename NamesObj w _ _ => HO
    refine invEnd [] [_, _, _, _] FE NE rfl ⟨_, _, _, _, _, _, InitRun.succ t1' hrun, HD, HO, rfl, rfl, rfl, rfl, ?_, ?_, ?_⟩
    · have := addName_length N1 nd; omega
    · have := stored_len kvs1 (nameIn (addName N1 nd) nd) (.bytes nd.toArray t1'); omega
    · rw [List.length_append, nameIn_length]; omega
  case done =>
    rintro m₁ news₁ h tk ⟨N1, kvs1, nd, odb1, on1, t1', hrun, hdb1, hon1, rfl, e1, e2, e3, hNl, hkl, hndl⟩ F1 N1'
    have F2 := Fr.known F1 [(Str.ofString "node", _), (Str.ofString "self", _), (Str.ofString "keccak", _)]
      (List.forall_mem_cons.mpr ⟨e1, List.forall_mem_cons.mpr ⟨e2, List.forall_mem_cons.mpr ⟨e3, List.forall_mem_nil _⟩⟩⟩)
    clear F1 e1 e2 e3 FR NR
    try dsimp only
    try k_fold
    repeat' (first | (k_here; (with_reducible show wpAny _ _ (call (Value.ref _) [Value.bytes (List.toArray _) _]) _ _ _); k_dflt (refine' name_of_spec ?r13B ?r13F ?r13X ?r13T ?r13hk ?r13dp ?r13nf ?r13N ?r13lo ?r13ho ?r13len ?_; (case r13nf => exact NF.keeps (by assumption) (Fr.keep (by assumption))); (case r13B => k_asm); (case r13F => k_asm); (case r13X => k_asm); (case r13T => k_asm); (case r13hk => exact rfl); (case r13dp => ((try simp only [depth_deeper, depth_in1, depth_under_make]); (try dsimp only [ktrTop]); omega)); (case r13ho => k_asm); (case r13N => exact news1 (by k_asm) (by k_mem)); (case r13lo => k_asm); (case r13len => omega)); intro h' t' tk' o' n' K' g' ho' hn'; (obtain ⟨F', N'⟩ := named1 (by k_asm) (by k_asm) (by k_updF) K' g'); (try dsimp only at N'); clear K' g'; (have hn2 := addName_eq hn'); (subst hn2); (clear hn'); (try k_sweep)) | (k_here; (with_reducible show wpAny _ _ (callWith _ (Value.ref _) _ _ _) _ _ _); k_dflt (refine' callWith_F ?r12k1 ?_; (case r12k1 => exact NF.fnAt (NF.keeps (by assumption) (Fr.keep (by assumption)))); k_whole)) | ((with_reducible show FnAt _ _ ∧ _); k_dflt (refine ⟨NF.fnAt (NF.keeps (by assumption) (Fr.keep (by assumption))), ?_⟩); (try dsimp only [List.nil_append, List.cons_append])) | (k_here; (with_reducible show wpAny _ _ (setItem (Value.ref _) (Value.bytes _ _) _) _ _ _); k_dflt (refine' kda_set (knd := bytesKind _ _) ?r4F ?r4N ?r4U ?r4d (bytesKind_is _ _ _ _) ?r4z ?_; (case r4F => k_asm); (case r4N => k_asm); (case r4U => k_updF); (case r4d => k_asm); (case r4z => (rw [sizeLine_eq]; omega))); intro h' o' F' N' hd'; (try dsimp only at N'); (try k_sweep)) | (k_unfold; (try dsimp only)) | walk1 | (dsimp only; walk1) | (leave1; (try dsimp only)))
    rename Fr g L' _ _ => FE
    rename News g L' _ _ => NE
    rename Obj.IsDictOf _ _ (stored _ _ _) => HD
    rename NamesObj w _ _ => HO
    dsimp only [InitBack]
    refine ⟨rfl, ?_⟩
    with_reducible refine' ret _ x dx _ _ N1 kvs1 nd _ _ (tok10 (τ 0) (τ 1) (τ 2) (τ 3) (τ 4) (τ 5) (τ 6) (τ 7) _ _) _ hrun ?r1 ?r2 ?r3 ?r4 HD ?r6 HO xn dxn ?r9 ⟨ord1, lt2, HL.lt (List.Mem.head _)⟩ (by assumption) lt1
    case r2 => exact (NE _ (.tail _ (.head _))).1
    case r3 => exact (NE _ (.tail _ (.tail _ (.head _)))).1
    case r4 => exact (NE _ (.head _)).1
    case r6 => exact (NE _ (.tail _ (.tail _ (.tail _ (.head _))))).1
    case r1 =>
      intro b o e hb
      refine FE.keep _ _ (kept _ _ (st _ _ e) ?_)
      simp only [List.map_cons, List.map_nil, List.mem_cons, List.not_mem_nil, or_false] at hb ⊢
      rintro (rfl | rfl | rfl)
      · rw [xn] at e; cases e
      · rw [dxn] at e; cases e
      · exact hb rfl
    case r9 =>
      have e1 := fresh_of kept (NE _ (.head _)).2.2 (List.forall_mem_cons.mpr ⟨HL.ne' (List.Mem.head _), List.forall_mem_cons.mpr ⟨HL.ne' (List.Mem.tail _ (List.Mem.head _)), List.forall_mem_cons.mpr ⟨HL.ne' (List.Mem.tail _ (List.Mem.tail _ (List.Mem.head _))), List.forall_mem_nil _⟩⟩⟩)
      match q : s.heap.get? _ with
      | none => rfl
      | some o => rw [st _ _ q] at e1; cases e1
end sMB
section sMT
noncomputable def txt (N : List (List UInt8)) (c : Nat → List UInt8) : Nat → Nat → List UInt8
  | 0, p => c p
  | h + 1, p => nameIn N (txt N c h (2 * p)) ++ nameIn N (txt N c h (2 * p + 1))
noncomputable def Held (N : List (List UInt8)) (kvs : List (List UInt8 × Value)) (y : List UInt8) : Prop := y ∈ N ∧ ∃ t, valueAt kvs (nameIn N y) = some (.bytes y.toArray t)
noncomputable def sibI (p : Nat) : Nat := p + 1 - 2 * (p % 2)
noncomputable def put (c : Nat → List UInt8) (k : Nat) (v : List UInt8) : Nat → List UInt8 := fun q => if q = k then v else c q
noncomputable def TI (N : List (List UInt8)) (kvs : List (List UInt8 × Value)) (c : Nat → List UInt8) (root : List UInt8) : Prop :=
  (∀ h, h ≤ 8 → ∀ p, p < 2 ^ (8 - h) → Held N kvs (txt N c h p)) ∧ root = nameIn N (txt N c 8 0)

section
variable {K : Type} [DecidableEq K]
theorem idx_lt {N : List K} {x : K} (h : x ∈ N) : N.idxOf x < N.length := List.idxOf_lt_length_iff.mpr h
theorem idx_inj {N : List K} {x y : K} (hx : x ∈ N) (hy : y ∈ N) (h : N.idxOf x = N.idxOf y) : x = y := by
  have g1 := List.getElem_idxOf (idx_lt hx)
  have g2 := List.getElem_idxOf (idx_lt hy)
  rw [← g1, ← g2]
  congr 1
theorem idx_app {N S : List K} {x : K} (h : x ∈ N) : (N ++ S).idxOf x = N.idxOf x := by rw [List.idxOf_append, if_pos h]
end
theorem nameIn_inj {N : List (List UInt8)} (hN : N.length < 1000000) {x y : List UInt8} (hx : x ∈ N) (hy : y ∈ N) (h : nameIn N x = nameIn N y) : x = y := by
  unfold nameIn at h
  have hx' := idx_lt hx
  have hy' := idx_lt hy
  have e256 : (256 : Nat) ^ 8 = 18446744073709551616 := by decide
  have e := be32_inj (by omega) (by omega) h
  exact idx_inj hx hy (by omega)
theorem nameIn_grow {N S : List (List UInt8)} {x : List UInt8} (hx : x ∈ N) : nameIn (N ++ S) x = nameIn N x := by
  unfold nameIn
  rw [idx_app hx]
theorem addName_grow (N : List (List UInt8)) (x : List UInt8) : ∃ S, addName N x = N ++ S := by
  unfold addName
  split
  · exact ⟨[], (List.append_nil N).symm⟩
  · exact ⟨[x], rfl⟩
theorem addName_mem (N : List (List UInt8)) (x : List UInt8) : x ∈ addName N x := by
  unfold addName
  split
  · assumption
  · simp
theorem Held.grow {N S : List (List UInt8)} {kvs : List (List UInt8 × Value)} {y : List UInt8} (h : Held N kvs y) : Held (N ++ S) kvs y :=
  ⟨List.mem_append_left _ h.1, by rw [nameIn_grow h.1]; exact h.2⟩
theorem held_step {N : List (List UInt8)} {kvs : List (List UInt8 × Value)} {z y : List UInt8} {t : Tok} (hN : (addName N z).length < 1000000) (h : Held N kvs y) : Held (addName N z) (stored kvs (nameIn (addName N z) z) (.bytes z.toArray t)) y := by
  obtain ⟨S, e⟩ := addName_grow N z
  have hz := addName_mem N z
  have hy : Held (addName N z) kvs y := by rw [e]; exact h.grow
  refine ⟨hy.1, ?_⟩
  rw [valueAt_stored]
  split
  · rename_i q
    rw [nameIn_inj hN hy.1 hz q]
    exact ⟨_, rfl⟩
  · exact hy.2
theorem held_new {N : List (List UInt8)} {kvs : List (List UInt8 × Value)} {z : List UInt8} {t : Tok} : Held (addName N z) (stored kvs (nameIn (addName N z) z) (.bytes z.toArray t)) z :=
  ⟨addName_mem N z, t, by rw [valueAt_stored, if_pos rfl]⟩

theorem txt_grow {N S : List (List UInt8)} {c : Nat → List UInt8} (hm : ∀ h, h ≤ 8 → ∀ p, p < 2 ^ (8 - h) → txt N c h p ∈ N) : ∀ h, h ≤ 8 → ∀ p, p < 2 ^ (8 - h) → txt (N ++ S) c h p = txt N c h p
  | 0, _, p, _ => rfl
  | h + 1, hh, p, hp => by
    have e : 2 ^ (8 - h) = 2 * 2 ^ (8 - (h + 1)) := by rw [show 8 - h = (8 - (h + 1)) + 1 by omega, Nat.pow_succ]; omega
    have h1 : 2 * p < 2 ^ (8 - h) := by omega
    have h2 : 2 * p + 1 < 2 ^ (8 - h) := by omega
    show nameIn (N ++ S) (txt (N ++ S) c h (2 * p)) ++ nameIn (N ++ S) (txt (N ++ S) c h (2 * p + 1)) = _
    rw [txt_grow hm h (by omega) _ h1, txt_grow hm h (by omega) _ h2, nameIn_grow (hm h (by omega) _ h1), nameIn_grow (hm h (by omega) _ h2)]
    rfl
theorem TI.grow {N S : List (List UInt8)} {kvs : List (List UInt8 × Value)} {c : Nat → List UInt8} {root : List UInt8} (T : TI N kvs c root) : TI (N ++ S) kvs c root := by
  have g := txt_grow (S := S) (fun h hh p hp => (T.1 h hh p hp).1)
  refine ⟨fun h hh p hp => ?_, ?_⟩
  · rw [g h hh p hp]; exact (T.1 h hh p hp).grow
  · rw [g 8 (by omega) 0 (by decide), nameIn_grow (T.1 8 (by omega) 0 (by decide)).1]; exact T.2

/-- off the path nothing turns -/
theorem txt_off {N : List (List UInt8)} {c : Nat → List UInt8} {k : Nat} {v : List UInt8} : ∀ h q, q ≠ k / 2 ^ h → txt N (put c k v) h q = txt N c h q
  | 0, q, hq => by
    show put c k v q = c q
    unfold put
    rw [if_neg (by simpa using hq)]
  | h + 1, q, hq => by
    have e : k / 2 ^ (h + 1) = k / 2 ^ h / 2 := by rw [Nat.pow_succ, Nat.div_div_eq_div_mul]
    show nameIn N (txt N (put c k v) h (2 * q)) ++ nameIn N (txt N (put c k v) h (2 * q + 1)) = _
    rw [txt_off h (2 * q) (by omega), txt_off h (2 * q + 1) (by omega)]
    rfl
theorem path_lt {k h : Nat} (hk : k < 256) (hh : h ≤ 8) : k / 2 ^ h < 2 ^ (8 - h) := by
  rw [Nat.div_lt_iff_lt_mul (Nat.two_pow_pos h), ← Nat.pow_add, show 8 - h + h = 8 by omega]; exact hk
theorem sibI_lt {p h : Nat} (hh : h < 8) (hp : p < 2 ^ (8 - h)) : sibI p < 2 ^ (8 - h) := by
  have e : 2 ^ (8 - h) = 2 * 2 ^ (8 - (h + 1)) := by rw [show 8 - h = (8 - (h + 1)) + 1 by omega, Nat.pow_succ]; omega
  unfold sibI; omega
theorem sibI_ne (p : Nat) : sibI p ≠ p := by unfold sibI; omega

/-- the path's own texts -/
noncomputable def OnPath (N : List (List UInt8)) (c : Nat → List UInt8) (k i : Nat) : Prop := ∀ j, j < i → txt N c j (k / 2 ^ j) ∈ N
theorem path_split {N : List (List UInt8)} {c : Nat → List UInt8} {k i : Nat} : txt N c (i + 1) (k / 2 ^ (i + 1)) =
    if k / 2 ^ i % 2 = 1 then nameIn N (txt N c i (sibI (k / 2 ^ i))) ++ nameIn N (txt N c i (k / 2 ^ i)) else nameIn N (txt N c i (k / 2 ^ i)) ++ nameIn N (txt N c i (sibI (k / 2 ^ i))) := by
  have e : k / 2 ^ (i + 1) = k / 2 ^ i / 2 := by rw [Nat.pow_succ, Nat.div_div_eq_div_mul]
  show nameIn N (txt N c i (2 * (k / 2 ^ (i + 1)))) ++ nameIn N (txt N c i (2 * (k / 2 ^ (i + 1)) + 1)) = _
  rw [e]
  generalize k / 2 ^ i = p
  split
  · rw [show 2 * (p / 2) = sibI p by unfold sibI; omega, show sibI p + 1 = p by unfold sibI; omega]
  · rw [show 2 * (p / 2) = p by omega, show p + 1 = sibI p by unfold sibI; omega]
theorem path_grow {N₀ S₀ S : List (List UInt8)} {c : Nat → List UInt8} {k : Nat} {v : List UInt8} (hk : k < 256) (hm : ∀ h, h ≤ 8 → ∀ p, p < 2 ^ (8 - h) → txt N₀ c h p ∈ N₀) : ∀ i, i ≤ 8 → OnPath (N₀ ++ S₀) (put c k v) k i →
    txt (N₀ ++ S₀ ++ S) (put c k v) i (k / 2 ^ i) = txt (N₀ ++ S₀) (put c k v) i (k / 2 ^ i)
  | 0, _, _ => rfl
  | i + 1, hi, hp => by
    have hs := sibI_lt (show i < 8 by omega) (path_lt hk (show i ≤ 8 by omega))
    rw [path_split, path_split, path_grow hk hm i (by omega) (fun j hj => hp j (by omega)), txt_off i _ (sibI_ne _), txt_off i _ (sibI_ne _), nameIn_grow (hp i (by omega)),
      List.append_assoc, txt_grow hm i (by omega) _ hs, txt_grow hm i (by omega) _ hs, nameIn_grow (hm i (by omega) _ hs), nameIn_grow (hm i (by omega) _ hs)]

noncomputable def sibOf (N : List (List UInt8)) (c : Nat → List UInt8) (k l : Nat) : List UInt8 := nameIn N (txt N c (7 - l) (sibI (k / 2 ^ (7 - l))))
noncomputable def nodeOf (N : List (List UInt8)) (c : Nat → List UInt8) (k l : Nat) : List UInt8 := nameIn N (txt N c (8 - l) (k / 2 ^ (8 - l)))
theorem nodeOf_zero {N : List (List UInt8)} {c : Nat → List UInt8} {k : Nat} (hk : k < 256) : nodeOf N c k 0 = nameIn N (txt N c 8 0) := by
  unfold nodeOf
  rw [show k / 2 ^ (8 - 0) = 0 from Nat.div_eq_of_lt hk]
theorem TI.levels {N : List (List UInt8)} {kvs : List (List UInt8 × Value)} {c : Nat → List UInt8} {root : List UInt8} {k : Nat} (T : TI N kvs c root) (hk : k < 256) :
    ∀ i, i < 8 → ∃ l r t, valueAt kvs (nodeOf N c k i) = some (.bytes (l ++ r).toArray t) ∧ l.length = 32 ∧ r.length = 32 ∧ if k / 2 ^ (7 - i) % 2 = 1 then nodeOf N c k (i + 1) = r ∧ sibOf N c k i = l else nodeOf N c k (i + 1) = l ∧ sibOf N c k i = r := by
  intro i hi
  obtain ⟨_, t, ht⟩ := T.1 (8 - i) (by omega) _ (path_lt hk (by omega))
  have e : 8 - i = (7 - i) + 1 := by omega
  have e2 : 8 - (i + 1) = 7 - i := by omega
  unfold nodeOf sibOf
  rw [ht, e2]
  rw [e, path_split]
  split
  · exact ⟨_, _, t, rfl, nameIn_length _ _, nameIn_length _ _, rfl, rfl⟩
  · exact ⟨_, _, t, rfl, nameIn_length _ _, nameIn_length _ _, rfl, rfl⟩
theorem TI.leaf {N : List (List UInt8)} {kvs : List (List UInt8 × Value)} {c : Nat → List UInt8} {root : List UInt8} {k : Nat} (T : TI N kvs c root) (hk : k < 256) : ∃ t, valueAt kvs (nodeOf N c k 8) = some (.bytes (c k).toArray t) := by
  have := (T.1 0 (by omega) k (by simpa using hk)).2
  unfold nodeOf
  simpa [txt] using this
theorem TI.mem {N : List (List UInt8)} {kvs : List (List UInt8 × Value)} {c : Nat → List UInt8} {root : List UInt8} (T : TI N kvs c root) : ∀ h, h ≤ 8 → ∀ p, p < 2 ^ (8 - h) → txt N c h p ∈ N := fun h hh p hp => (T.1 h hh p hp).1

theorem set_run {N₀ : List (List UInt8)} {kvs₀ : List (List UInt8 × Value)} {c : Nat → List UInt8} {root v : List UInt8} {k : Nat} (T : TI N₀ kvs₀ c root) (hk : k < 256) (hN₀ : N₀.length < 100000) {i : Nat} {N : List (List UInt8)} {kvs : List (List UInt8 × Value)} {nd : List UInt8} {hs : List (List UInt8)}
    (R : SetRun k (sibOf N₀ c k) v N₀ kvs₀ i N kvs nd hs) : i ≤ 8 → (∃ S, N = N₀ ++ S) ∧ (∀ y, Held N₀ kvs₀ y → Held N kvs y) ∧ (∀ j, j < i → Held N kvs (txt N (put c k v) j (k / 2 ^ j))) ∧ nd = txt N (put c k v) i (k / 2 ^ i) ∧
      hs = (List.range i).map (fun j => nameIn N (txt N (put c k v) j (k / 2 ^ j))) ∧ N.length ≤ N₀.length + i := by
  induction R with
  | zero =>
    intro _
    refine ⟨⟨[], (List.append_nil _).symm⟩, fun _ h => h, fun j hj => absurd hj (Nat.not_lt_zero _), ?_, rfl, Nat.le_refl _⟩
    show v = put c k v (k / 2 ^ 0)
    unfold put; rw [if_pos (by simp)]
  | @succ i N kvs nd hs t R ih =>
    intro hi
    obtain ⟨⟨S, eN⟩, hold, hpath, hnd, hhs, hlen⟩ := ih (by omega)
    have hl := addName_length N nd
    have hN : (addName N nd).length < 1000000 := by omega
    obtain ⟨S2, e2⟩ := addName_grow N nd
    have stab : ∀ j, j ≤ i → txt (addName N nd) (put c k v) j (k / 2 ^ j) = txt N (put c k v) j (k / 2 ^ j) := fun j hj => by
      rw [e2, eN]
      exact path_grow hk T.mem j (by omega) (fun j' hj' => by rw [← eN]; exact (hpath j' (by omega)).1)
    have hsib := sibI_lt (show i < 8 by omega) (path_lt hk (show i ≤ 8 by omega))
    have sibe : nameIn (addName N nd) (txt (addName N nd) (put c k v) i (sibI (k / 2 ^ i))) = sibOf N₀ c k (7 - i) := by
      unfold sibOf
      rw [txt_off i _ (sibI_ne _), e2, eN, List.append_assoc, txt_grow T.mem i (by omega) _ hsib, nameIn_grow (T.mem i (by omega) _ hsib), show 7 - (7 - i) = i by omega]
    refine ⟨⟨S ++ S2, by rw [e2, eN, List.append_assoc]⟩, fun y hy => held_step hN (hold y hy), fun j hj => ?_, ?_, ?_, by omega⟩
    · rw [stab j (by omega)]
      rcases Nat.lt_or_ge j i with h | h
      · exact held_step hN (hpath j h)
      · have : j = i := by omega
        subst this
        rw [← hnd]; exact held_new
    · rw [path_split, stab i (Nat.le_refl _), ← hnd, sibe]
    · rw [List.range_succ, List.map_append, List.map_singleton, stab i (Nat.le_refl _), ← hnd, hhs]
      congr 1
      refine List.map_congr_left fun j hj => ?_
      have hj := List.mem_range.mp hj
      rw [stab j (by omega), e2, nameIn_grow (hpath j hj).1]

/-- set's tree -/
theorem set_TI {N₀ : List (List UInt8)} {kvs₀ : List (List UInt8 × Value)} {c : Nat → List UInt8} {root v : List UInt8} {k : Nat} (T : TI N₀ kvs₀ c root) (hk : k < 256) (hN₀ : N₀.length < 100000) {N : List (List UInt8)} {kvs : List (List UInt8 × Value)} {nd : List UInt8} {hs : List (List UInt8)} {t : Tok}
    (R : SetRun k (sibOf N₀ c k) v N₀ kvs₀ 8 N kvs nd hs) : (∃ S, addName N nd = N₀ ++ S) ∧ TI (addName N nd) (stored kvs (nameIn (addName N nd) nd) (.bytes nd.toArray t)) (put c k v) (nameIn (addName N nd) nd) ∧ (addName N nd).length ≤ N₀.length + 9 ∧
      hs = (List.range 8).map (fun j => nameIn (addName N nd) (txt (addName N nd) (put c k v) j (k / 2 ^ j))) := by
  obtain ⟨⟨S, eN⟩, hold, hpath, hnd, hhs, hlen⟩ := set_run T hk hN₀ R (Nat.le_refl _)
  have hl := addName_length N nd
  have hN : (addName N nd).length < 1000000 := by omega
  obtain ⟨S2, e2⟩ := addName_grow N nd
  have stab : ∀ j, j ≤ 8 → txt (addName N nd) (put c k v) j (k / 2 ^ j) = txt N (put c k v) j (k / 2 ^ j) := fun j hj => by
    rw [e2, eN]
    exact path_grow hk T.mem j (by omega) (fun j' hj' => by rw [← eN]; exact (hpath j' (by omega)).1)
  have top : k / 2 ^ 8 = 0 := Nat.div_eq_of_lt hk
  refine ⟨⟨S ++ S2, by rw [e2, eN, List.append_assoc]⟩, ⟨fun h hh p hp => ?_, ?_⟩, by omega, ?_⟩
  · by_cases hq : p = k / 2 ^ h
    · subst hq
      rw [stab h hh]
      rcases Nat.lt_or_ge h 8 with h8 | h8
      · exact held_step hN (hpath h h8)
      · have : h = 8 := by omega
        subst this
        rw [← hnd]; exact held_new
    · rw [txt_off h p hq, e2, eN, List.append_assoc, txt_grow T.mem h hh p hp, ← List.append_assoc, ← eN, ← e2]
      exact held_step hN (hold _ (T.1 h hh p hp))
  · have := stab 8 (Nat.le_refl _)
    rw [top] at this hnd
    rw [this, ← hnd]
  · rw [hhs]
    refine List.map_congr_left fun j hj => ?_
    have hj := List.mem_range.mp hj
    rw [stab j (by omega), e2, nameIn_grow (hpath j hj).1]

theorem init_run {N₀ : List (List UInt8)} {dflt : List UInt8} (hN₀ : N₀.length < 100000) {i : Nat} {N : List (List UInt8)} {kvs : List (List UInt8 × Value)} {nd : List UInt8}
    (R : InitRun dflt N₀ i N kvs nd) : i ≤ 8 → (∃ S, N = N₀ ++ S) ∧ (∀ j, j < i → ∀ p, Held N kvs (txt N (fun _ => dflt) j p)) ∧ (∀ p, nd = txt N (fun _ => dflt) i p) ∧ N.length ≤ N₀.length + i := by
  induction R with
  | zero => exact fun _ => ⟨⟨[], (List.append_nil _).symm⟩, fun j hj => absurd hj (Nat.not_lt_zero _), fun p => rfl, Nat.le_refl _⟩
  | @succ i N kvs nd t R ih =>
    intro hi
    obtain ⟨⟨S, eN⟩, hpath, hnd, hlen⟩ := ih (by omega)
    have hl := addName_length N nd
    have hN : (addName N nd).length < 1000000 := by omega
    obtain ⟨S2, e2⟩ := addName_grow N nd
    have stab : ∀ j, j ≤ i → ∀ p, txt (addName N nd) (fun _ => dflt) j p = txt N (fun _ => dflt) j p := fun j => by
      induction j with
      | zero => exact fun _ _ => rfl
      | succ j ihj =>
        intro hj p
        show nameIn (addName N nd) (txt (addName N nd) _ j (2 * p)) ++ nameIn (addName N nd) (txt (addName N nd) _ j (2 * p + 1)) = _
        rw [ihj (by omega), ihj (by omega), e2, nameIn_grow (hpath j (by omega) _).1, nameIn_grow (hpath j (by omega) _).1]
        rfl
    refine ⟨⟨S ++ S2, by rw [e2, eN, List.append_assoc]⟩, fun j hj p => ?_, fun p => ?_, by omega⟩
    · rw [stab j (by omega)]
      rcases Nat.lt_or_ge j i with h | h
      · exact held_step hN (hpath j h p)
      · have : j = i := by omega
        subst this
        rw [← hnd p]; exact held_new
    · show _ = nameIn (addName N nd) (txt (addName N nd) _ i (2 * p)) ++ nameIn (addName N nd) (txt (addName N nd) _ i (2 * p + 1))
      rw [stab i (Nat.le_refl _), stab i (Nat.le_refl _), ← hnd, ← hnd]
theorem init_TI {N₀ : List (List UInt8)} {dflt : List UInt8} (hN₀ : N₀.length < 100000) {N : List (List UInt8)} {kvs : List (List UInt8 × Value)} {nd : List UInt8} {t : Tok} (R : InitRun dflt N₀ 8 N kvs nd) :
    (∃ S, addName N nd = N₀ ++ S) ∧ TI (addName N nd) (stored kvs (nameIn (addName N nd) nd) (.bytes nd.toArray t)) (fun _ => dflt) (nameIn (addName N nd) nd) ∧ (addName N nd).length ≤ N₀.length + 9 := by
  have R9 := InitRun.succ t R
  obtain ⟨⟨S, eN⟩, hpath, hnd, hlen⟩ := init_run hN₀ R (Nat.le_refl _)
  have hl := addName_length N nd
  have hN : (addName N nd).length < 1000000 := by omega
  obtain ⟨S2, e2⟩ := addName_grow N nd
  have stab : ∀ j, j ≤ 8 → ∀ p, txt (addName N nd) (fun _ => dflt) j p = txt N (fun _ => dflt) j p := fun j => by
    induction j with
    | zero => exact fun _ _ => rfl
    | succ j ihj =>
      intro hj p
      show nameIn (addName N nd) (txt (addName N nd) _ j (2 * p)) ++ nameIn (addName N nd) (txt (addName N nd) _ j (2 * p + 1)) = _
      rw [ihj (by omega), ihj (by omega), e2, nameIn_grow (hpath j (by omega) _).1, nameIn_grow (hpath j (by omega) _).1]
      rfl
  refine ⟨⟨S ++ S2, by rw [e2, eN, List.append_assoc]⟩, ⟨fun h hh p hp => ?_, ?_⟩, by omega⟩
  · rw [stab h hh]
    rcases Nat.lt_or_ge h 8 with h8 | h8
    · exact held_step hN (hpath h h8 p)
    · have : h = 8 := by omega
      subst this
      rw [← hnd p]; exact held_new
  · rw [stab 8 (Nat.le_refl _), ← hnd]

/-- two texts are one iff the contents agree on the block -/
theorem txt_iff {N : List (List UInt8)} {c e : Nat → List UInt8} (hN : N.length < 1000000) (hc : ∀ h, h ≤ 8 → ∀ p, p < 2 ^ (8 - h) → txt N c h p ∈ N) (he : ∀ h, h ≤ 8 → ∀ p, p < 2 ^ (8 - h) → txt N e h p ∈ N) :
    ∀ h, h ≤ 8 → ∀ p, p < 2 ^ (8 - h) → (txt N c h p = txt N e h p ↔ ∀ q, p * 2 ^ h ≤ q → q < (p + 1) * 2 ^ h → c q = e q)
  | 0, _, p, _ => by
    simp only [txt, Nat.pow_zero, Nat.mul_one]
    constructor
    · intro h q h1 h2
      have : q = p := by omega
      subst this; exact h
    · intro h; exact h p (Nat.le_refl _) (by omega)
  | h + 1, hh, p, hp => by
    have e2 : 2 ^ (8 - h) = 2 * 2 ^ (8 - (h + 1)) := by rw [show 8 - h = (8 - (h + 1)) + 1 by omega, Nat.pow_succ]; omega
    have h1 : 2 * p < 2 ^ (8 - h) := by omega
    have h2 : 2 * p + 1 < 2 ^ (8 - h) := by omega
    have i1 := txt_iff hN hc he h (by omega) _ h1
    have i2 := txt_iff hN hc he h (by omega) _ h2
    have b1 : 2 * p * 2 ^ h = p * 2 ^ (h + 1) := by rw [Nat.pow_succ, Nat.mul_comm 2 p, Nat.mul_assoc, Nat.mul_comm 2]
    have b2 : (2 * p + 1) * 2 ^ h = p * 2 ^ (h + 1) + 2 ^ h := by rw [Nat.add_mul, b1, Nat.one_mul]
    have b3 : (2 * p + 1 + 1) * 2 ^ h = (p + 1) * 2 ^ (h + 1) := by rw [show 2 * p + 1 + 1 = 2 * (p + 1) by omega, Nat.pow_succ, Nat.mul_comm 2 (p + 1), Nat.mul_assoc, Nat.mul_comm 2]
    have b4 : (p + 1) * 2 ^ (h + 1) = p * 2 ^ (h + 1) + 2 ^ h + 2 ^ h := by rw [Nat.add_mul, Nat.one_mul, Nat.pow_succ]; omega
    rw [b1, b2] at i1
    rw [b2, b3] at i2
    show nameIn N (txt N c h (2 * p)) ++ nameIn N (txt N c h (2 * p + 1)) = nameIn N (txt N e h (2 * p)) ++ nameIn N (txt N e h (2 * p + 1)) ↔ _
    constructor
    · intro q
      obtain ⟨q1, q2⟩ := List.append_inj q (by rw [nameIn_length, nameIn_length])
      have r1 := i1.mp (nameIn_inj hN (hc h (by omega) _ h1) (he h (by omega) _ h1) q1)
      have r2 := i2.mp (nameIn_inj hN (hc h (by omega) _ h2) (he h (by omega) _ h2) q2)
      intro z z1 z2
      rcases Nat.lt_or_ge z (p * 2 ^ (h + 1) + 2 ^ h) with hz | hz
      · exact r1 z z1 hz
      · exact r2 z hz z2
    · intro q
      rw [i1.mpr (fun z z1 z2 => q z z1 (by omega)), i2.mpr (fun z z1 z2 => q z (by omega) z2)]
theorem name_iff {N : List (List UInt8)} {kvs kvs' : List (List UInt8 × Value)} {c e : Nat → List UInt8} {r r' : List UInt8} (hN : N.length < 1000000) (Tc : TI N kvs c r) (Te : TI N kvs' e r') {h p : Nat} (hh : h ≤ 8) (hp : p < 2 ^ (8 - h)) :
    (nameIn N (txt N c h p) = nameIn N (txt N e h p) ↔ ∀ q, p * 2 ^ h ≤ q → q < (p + 1) * 2 ^ h → c q = e q) := by
  rw [← txt_iff hN Tc.mem Te.mem h hh p hp]
  exact ⟨fun q => nameIn_inj hN (Tc.mem h hh p hp) (Te.mem h hh p hp) q, fun q => by rw [q]⟩
theorem root_iff {N : List (List UInt8)} {kvs kvs' : List (List UInt8 × Value)} {c e : Nat → List UInt8} {r r' : List UInt8} (hN : N.length < 1000000) (Tc : TI N kvs c r) (Te : TI N kvs' e r') : (r = r' ↔ ∀ q, q < 256 → c q = e q) := by
  rw [Tc.2, Te.2, name_iff hN Tc Te (Nat.le_refl 8) (by decide)]
  constructor
  · intro h q hq; exact h q (by omega) (by omega)
  · intro h q _ hq; exact h q (by omega)

/-- what calc_root does, turn by turn -/
inductive CalcRun (k : Nat) (sib : Nat → List UInt8) (v : List UInt8) (N₀ : List (List UInt8)) : Nat → List (List UInt8) → List UInt8 → Prop
  | zero : CalcRun k sib v N₀ 0 (addName N₀ v) (nameIn (addName N₀ v) v)
  | one {i : Nat} {N : List (List UInt8)} {hh : List UInt8} : CalcRun k sib v N₀ i N hh → k / 2 ^ i % 2 = 1 → CalcRun k sib v N₀ (i + 1) (addName N (sib (7 - i) ++ hh)) (nameIn (addName N (sib (7 - i) ++ hh)) (sib (7 - i) ++ hh))
  | nul {i : Nat} {N : List (List UInt8)} {hh : List UInt8} : CalcRun k sib v N₀ i N hh → ¬ k / 2 ^ i % 2 = 1 → CalcRun k sib v N₀ (i + 1) (addName N (hh ++ sib (7 - i))) (nameIn (addName N (hh ++ sib (7 - i))) (hh ++ sib (7 - i)))

theorem calc_run {N₀ : List (List UInt8)} {kvs₀ : List (List UInt8 × Value)} {c : Nat → List UInt8} {root v : List UInt8} {k : Nat} (T : TI N₀ kvs₀ c root) (hk : k < 256) {i : Nat} {N : List (List UInt8)} {hh : List UInt8}
    (R : CalcRun k (sibOf N₀ c k) v N₀ i N hh) : i ≤ 8 → (∃ S, N = N₀ ++ S) ∧ OnPath N (put c k v) k (i + 1) ∧ hh = nameIn N (txt N (put c k v) i (k / 2 ^ i)) ∧ N.length ≤ N₀.length + i + 1 := by
  have step : ∀ {i N z}, i + 1 ≤ 8 → (∃ S, N = N₀ ++ S) → OnPath N (put c k v) k (i + 1) → N.length ≤ N₀.length + i + 1 →
      z = (if k / 2 ^ i % 2 = 1 then sibOf N₀ c k (7 - i) ++ nameIn N (txt N (put c k v) i (k / 2 ^ i)) else nameIn N (txt N (put c k v) i (k / 2 ^ i)) ++ sibOf N₀ c k (7 - i)) →
      (∃ S, addName N z = N₀ ++ S) ∧ OnPath (addName N z) (put c k v) k (i + 1 + 1) ∧ nameIn (addName N z) z = nameIn (addName N z) (txt (addName N z) (put c k v) (i + 1) (k / 2 ^ (i + 1))) ∧ (addName N z).length ≤ N₀.length + (i + 1) + 1 := by
    rintro i N z hi ⟨S, eN⟩ hp hl hz
    have hl2 := addName_length N z
    obtain ⟨S2, e2⟩ := addName_grow N z
    have hsib := sibI_lt (show i < 8 by omega) (path_lt hk (show i ≤ 8 by omega))
    have stab : ∀ j, j ≤ i + 1 → txt (addName N z) (put c k v) j (k / 2 ^ j) = txt N (put c k v) j (k / 2 ^ j) := fun j hj => by
      rw [e2, eN]
      exact path_grow hk T.mem j (by omega) (fun j' hj' => by rw [← eN]; exact hp j' (by omega))
    have hz2 : z = txt N (put c k v) (i + 1) (k / 2 ^ (i + 1)) := by
      rw [hz, path_split, txt_off i _ (sibI_ne _)]
      have : nameIn N (txt N c i (sibI (k / 2 ^ i))) = sibOf N₀ c k (7 - i) := by
        unfold sibOf
        rw [eN, txt_grow T.mem i (by omega) _ hsib, nameIn_grow (T.mem i (by omega) _ hsib), show 7 - (7 - i) = i by omega]
      rw [this]
    refine ⟨⟨S ++ S2, by rw [e2, eN, List.append_assoc]⟩, fun j hj => ?_, ?_, by omega⟩
    · rw [stab j (by omega)]
      rcases Nat.lt_or_ge j (i + 1) with h | h
      · rw [e2]; exact List.mem_append_left _ (hp j h)
      · have : j = i + 1 := by omega
        subst this
        rw [← hz2]; exact addName_mem _ _
    · rw [stab _ (Nat.le_refl _), ← hz2]
  induction R with
  | zero =>
    intro _
    obtain ⟨S, e⟩ := addName_grow N₀ v
    have hv : put c k v (k / 2 ^ 0) = v := by unfold put; rw [if_pos (by simp)]
    refine ⟨⟨S, e⟩, fun j hj => ?_, ?_, by have := addName_length N₀ v; omega⟩
    · have : j = 0 := by omega
      subst this
      show put c k v (k / 2 ^ 0) ∈ _
      rw [hv]; exact addName_mem _ _
    · show _ = nameIn _ (put c k v (k / 2 ^ 0))
      rw [hv]
  | @one i N hh R hb ih =>
    intro hi
    obtain ⟨hS, hp, rfl, hl⟩ := ih (by omega)
    exact step hi hS hp hl (by rw [if_pos hb])
  | @nul i N hh R hb ih =>
    intro hi
    obtain ⟨hS, hp, rfl, hl⟩ := ih (by omega)
    exact step hi hS hp hl (by rw [if_neg hb])
/-- calc_root's answer is the root iff the value is the one held -/
theorem calc_iff {N₀ : List (List UInt8)} {kvs₀ : List (List UInt8 × Value)} {c : Nat → List UInt8} {root v : List UInt8} {k : Nat} (T : TI N₀ kvs₀ c root) (hk : k < 256) (hN₀ : N₀.length < 100000) {N : List (List UInt8)} {hh : List UInt8}
    (R : CalcRun k (sibOf N₀ c k) v N₀ 8 N hh) : (∃ S, N = N₀ ++ S) ∧ (hh = root ↔ v = c k) ∧ N.length ≤ N₀.length + 9 := by
  obtain ⟨⟨S, eN⟩, hp, hhh, hl⟩ := calc_run T hk R (Nat.le_refl _)
  have TN : TI N kvs₀ c root := by rw [eN]; exact T.grow
  have hN : N.length < 1000000 := by omega
  have mem : ∀ h, h ≤ 8 → ∀ p, p < 2 ^ (8 - h) → txt N (put c k v) h p ∈ N := fun h hh p hq => by
    by_cases q : p = k / 2 ^ h
    · subst q; exact hp h (by omega)
    · rw [txt_off h p q]; exact TN.mem h hh p hq
  have top : k / 2 ^ 8 = 0 := Nat.div_eq_of_lt hk
  refine ⟨⟨S, eN⟩, ?_, by omega⟩
  rw [hhh, TN.2, top]
  constructor
  · intro q
    have := (txt_iff hN mem TN.mem 8 (Nat.le_refl _) 0 (by decide)).mp (nameIn_inj hN (mem 8 (Nat.le_refl _) 0 (by decide)) (TN.mem 8 (Nat.le_refl _) 0 (by decide)) q) k (by omega) (by omega)
    unfold put at this
    rw [if_pos rfl] at this
    exact this
  · intro q
    have : put c k v = c := by
      funext z
      unfold put
      split
      · rename_i e; rw [e, q]
      · rfl
    rw [this]
theorem put_same {c : Nat → List UInt8} {k : Nat} : put c k (c k) = c := by
  funext z
  unfold put
  split
  · rename_i e; rw [e]
  · rfl
end sMT
section sMR
theorem sub_ri_reversed : isSubtype (.type "range_iterator") (.type "reversed") = pure false := by rw [isSubtype_type]; kernel_rfl
theorem entry_ri_iter : entryFor table "range_iterator.__iter__" = some Builtin.«dict_keyiterator.__iter__» :=
  entryFor_alias (id' := "dict_keyiterator.__iter__") (by kernel_rfl) (by first | rfl | decide +kernel | (unfold String.splitOn; simp +decide [String.splitOnAux])) (by decide +kernel) (by kernel_rfl)
noncomputable abbrev riObj (a n c : Int) : Obj := { cls := .type "range_iterator", data := .fields #[rawInt a, rawInt n, rawInt c] }
section
variable {prog : Program} {w : World} {A : Around} {E : Value → Shared → Prop} {s : Shared}
theorem call_range_rev8 {r : Addr} {t u v : Tok} {Q : Value → Shared → Prop} (hr : IsRange s.heap r 0 8 1 t u v) (h : Q (.ref s.heap.objs.size) { s with heap := s.heap.push (riObj 7 8 (-1)) }) :
    wpAny (model prog w) A (call (.builtin "range.__reversed__") [.ref r]) Q E s := by
  have hT : s.TypeIs (.ref r) "range" := ⟨_, hr, rfl⟩
  refine wpAny_call_entry F.slot_range_reversed hT F.entry_range_reversed ?_ (F.args_range_reversed_1 _)
  unfold Builtin.«range.__reversed__»
  refine wpAny_bind (wpAny_of_eq (a := Value.ref r) rfl ?_)
  refine wpAny_bind ?_
  unfold Builtin.Range.rangeFields
  refine wpAny_bind (wpAny_field hr rfl (x := .int 0 t) rfl ?_)
  refine wpAny_bind (wpAny_of_eq (a := some (0 : Int)) rfl ?_)
  refine wpAny_bind (wpAny_field hr rfl (x := .int 8 u) rfl ?_)
  refine wpAny_bind (wpAny_of_eq (a := some (8 : Int)) rfl ?_)
  refine wpAny_bind (wpAny_field hr rfl (x := .int 1 v) rfl ?_)
  refine wpAny_bind (wpAny_of_eq (a := some (1 : Int)) rfl ?_)
  refine wpAny_pure ?_
  dsimp only
  have e1 : Builtin.Range.rangeSize 0 8 1 = 8 := by decide
  simp only [e1]
  refine KTBy.if_not (by decide) ?_
  refine wpAny_bind (wpAny_newObj_type (wpAny_pure ⟨_, rfl, ?_⟩))
  exact h
theorem code_rev8_new {r : Addr} {t u v : Tok} {Q₁ : Value → Shared → Prop} (hr : IsRange s.heap r 0 8 1 t u v)
    (h : Q₁ (.ref s.heap.objs.size) { s with heap := s.heap.push (riObj 7 8 (-1)) }) :
    codeAny (model prog w) A (.call (.builtin "reversed.__new__") ⟨[.type "reversed", .ref r], []⟩) (wants Q₁ E) s := by
  have hT : s.TypeIs (.ref r) "range" := ⟨_, hr, rfl⟩
  refine codeAny_of_tree ?_
  show wpAny _ A.in1 (do checkBuiltinCall "reversed.__new__" ⟨[.type "reversed", .ref r], []⟩; again (.builtin "reversed.__new__" ⟨[.type "reversed", .ref r], []⟩)) _ _ s
  refine wpAny_bind (wpAny_of_eq (F.newCall_reversed_1 _) (wpAny_pure ⟨plainId_quiet F.plain_reversed_new _, codeAny_builtin F.entry_reversed_new ?_⟩))
  rw [Around.under_plainId F.plain_reversed_new _]
  unfold Builtin.«reversed.__new__»
  refine wpAny_bind (wpAny_of_eq (newClass_reversed _) ?_)
  try dsimp only
  refine wpAny_bind (wpAny_of_eq (a := ()) (by first | rfl | kernel_rfl) ?_)
  refine wpAny_bind (wpAny_of_eq (a := ()) (by first | rfl | kernel_rfl) ?_)
  try dsimp only
  refine wpAny_bind (wpAny_specialOf hT F.slot_range_reversed.lookup ?_)
  try dsimp only
  refine wpAny_bind (wpAny_of_eq (F.slot_range_reversed.bind _) ?_)
  try dsimp only
  first
  | rw [if_neg (show ¬ ((Value.builtin "range.__reversed__" == Value.none) = true) from Bool.false_ne_true)]
  | (show wpAny _ _ (if (Value.builtin "range.__reversed__" == Value.none) = true then _ else _) _ _ _; rw [if_neg (show ¬ ((Value.builtin "range.__reversed__" == Value.none) = true) from Bool.false_ne_true)])
  refine wpAny_bind (wpAny_rule ?_)
  refine wpAny_bind (m := runValue (.call (.builtin "range.__reversed__") ⟨[.ref r], []⟩)) (show wpAny _ _ (call (.builtin "range.__reversed__") [.ref r]) _ _ _ from call_range_rev8 hr ?_)
  first
  | exact wpAny_pure h
  | exact wpAny_bind (wpAny_pure (wpAny_pure h))
theorem call_rev8 {r : Addr} {t u v : Tok} {Q : Value → Shared → Prop} (hr : IsRange s.heap r 0 8 1 t u v)
    (h : Q (.ref s.heap.objs.size) { s with heap := s.heap.push (riObj 7 8 (-1)) }) : wpAny (model prog w) A (call (.type "reversed") [.ref r]) Q E s := by
  refine callType_other (U := "range_iterator") (Q₁ := fun obj s₁ => obj = .ref s.heap.objs.size ∧ s₁ = { s with heap := s.heap.push (riObj 7 8 (-1)) }) (by decide +kernel) F.create_reversed ⟨_, _, F.mro_reversed⟩ F.made_reversed sub_ri_reversed (F.typeCall_reversed_1 _) (code_rev8_new hr ⟨rfl, rfl⟩) ?_
  rintro obj s₁ ⟨rfl, rfl⟩
  exact ⟨⟨_, Heap.get?_push_size _ rfl, rfl⟩, h⟩
theorem ri_iter {it : Addr} {a n c : Int} {Q : Value → Shared → Prop} (hit : IsRangeIter s.heap it a n c) (h : Q (.ref it) s) : wpAny (model prog w) A (pyIter (.ref it)) Q E s := by
  have hT : s.TypeIs (.ref it) "range_iterator" := ⟨_, hit, rfl⟩
  refine wpAny_pyIter_slot hT F.slot_range_iterator_iter (wpAny_call_entry F.slot_range_iterator_iter hT entry_ri_iter ?_ (F.args_range_iterator_iter_1 _))
  show wpAny _ _ (ret (.ref it)) _ _ s
  exact wpAny_pure ⟨_, rfl, "range_iterator", _, hT, F.slot_range_iterator_next.lookup, h⟩
end
section
variable {prog : Program} {w : World} {A : Around} {E : Value → Shared → Prop} {s : Shared} {env : Env} {h₀ : Heap} {x : Str} {body : List Stmt} {Q : Flow → Shared → Prop} {L : Addr} {m : Str → Option Value}
theorem krev8 {r : Addr} {t u v : Tok} {news : List (Addr × Obj)} {Q : Value → Shared → Prop} (F : Fr h₀ L s.heap m) (N : News h₀ L s.heap news) (hr : IsRange s.heap r 0 8 1 t u v)
    (h : ∀ D h', Fr h₀ L h' m → News h₀ L h' ((D, riObj 7 8 (-1)) :: news) → (∀ p ∈ news, p.1 < D) → Q (.ref D) { s with heap := h' }) : wpAny (model prog w) A (call (.type "reversed") [.ref r]) Q E s :=
  call_rev8 hr (h _ _ (F.push _) (News.push F N _) fun p hp => Heap.lt_size (N p hp).1)
/-- a loop over reversed(range(8)) -/
theorem loop_rev8 {I : Addr} {m₀ : Str → Option Value} {news : List (Addr × Obj)} (J : Nat → (Str → Option Value) → List (Addr × Obj) → Prop)
    (hh : A.handled = none) (F : Fr h₀ env.locals s.heap m₀) (NI : News h₀ env.locals s.heap [(I, riObj 7 8 (-1))])
    (N : News h₀ env.locals s.heap news) (hnI : ∀ p ∈ news, p.1 ≠ I) (hj : J 0 m₀ news)
    (turn : ∀ (i : Nat) t m₁ news₁ h tk own, i < 8 → OwnOff own (news.map (·.1)) → J i m₁ news₁ → Fr h₀ env.locals h (fun z => if z = x then some (.int (7 - (i : Int)) t) else m₁ z) → News h₀ env.locals h (news₁ ++ own) →
      wpAny (model prog w) A (execs body env) (InvPostN h₀ env.locals (J (i + 1)) own (news.map (·.1)) { s with heap := h, toks := tk } Q) E { s with heap := h, toks := tk })
    (done : ∀ m₁ news₁ h tk, J 8 m₁ news₁ → Fr h₀ env.locals h m₁ → News h₀ env.locals h news₁ → Q .next { s with heap := h, toks := tk }) :
    wpAny (model prog w) A (pyIter (.ref I)) (fun it s₂ => LoopAtV prog w A h₀ env x body Q E it s₂) E s := by
  have hIx := NI _ (.head _)
  refine ri_iter (a := 7) (n := 8) (c := -1) hIx.1 ?_
  have W : Walks prog w A I [I] [I] 8 (fun i v => i < 8 ∧ ∃ t, v = .int (7 + i * (-1)) t) (fun i h => IsRangeIter h I (7 + (i : Nat) * (-1)) ((8 : Int) - (i : Nat)) (-1)) := (Walks.range hh I 7 (-1) 8).bound
  refine loop_invN J W ?_ ?_ ?_ ?_ (by simpa using hIx.1) F N hj ?_ ?_
  · intro hm
    exact hIx.2.1 (List.mem_singleton.mp hm).symm
  · intro b hb'
    rw [List.mem_singleton.mp hb']
    exact hIx.2.2
  · intro p hp hI
    exact hnI p hp (List.mem_singleton.mp hI)
  · intro p hp hm
    exact hnI p hp (List.mem_singleton.mp hm)
  · rintro i v m₁ news₁ h tk own hin ⟨_, t, rfl⟩ _ hsep hJ F₁ N₁
    have e : (7 : Int) + (i : Int) * (-1) = 7 - (i : Int) := by omega
    rw [e] at F₁
    exact turn i t m₁ news₁ h tk own hin hsep hJ F₁ N₁
  · exact done
end
end sMR
section sMX
theorem and_half (a b : Nat) : (a &&& b) / 2 = a / 2 &&& b / 2 := by
  apply Nat.eq_of_testBit_eq; intro i
  simp only [Nat.testBit_and, Nat.testBit_div_two]
theorem xor_half (a b : Nat) : (a ^^^ b) / 2 = a / 2 ^^^ b / 2 := by
  apply Nat.eq_of_testBit_eq; intro i
  simp only [Nat.testBit_xor, Nat.testBit_div_two]
theorem and_low (a b : Nat) : (a &&& b) % 2 = (a % 2) * (b % 2) := by
  have h := Nat.testBit_and a b 0
  simp only [Nat.testBit_zero] at h
  rcases Nat.mod_two_eq_zero_or_one a with x | x <;> rcases Nat.mod_two_eq_zero_or_one b with y | y <;> rcases Nat.mod_two_eq_zero_or_one (a &&& b) with z | z <;> simp_all
theorem xor_low (a b : Nat) : (a ^^^ b) % 2 = (a % 2 + b % 2) % 2 := by
  have h := Nat.testBit_xor a b 0
  simp only [Nat.testBit_zero] at h
  rcases Nat.mod_two_eq_zero_or_one a with x | x <;> rcases Nat.mod_two_eq_zero_or_one b with y | y <;> rcases Nat.mod_two_eq_zero_or_one (a ^^^ b) with z | z <;> simp_all
theorem xor_sum : ∀ n a b : Nat, a < n → (a ^^^ b) + 2 * (a &&& b) = a + b
  | 0, _, _, h => absurd h (Nat.not_lt_zero _)
  | n + 1, a, b, h => by
    rcases Nat.eq_zero_or_pos a with rfl | ha
    · simp
    · have ih := xor_sum n (a / 2) (b / 2) (by omega)
      rw [← xor_half, ← and_half] at ih
      have e1 := xor_low a b
      have e2 := and_low a b
      have e3 : (a % 2) * (b % 2) = if a % 2 = 1 then b % 2 else 0 := by
        rcases Nat.mod_two_eq_zero_or_one a with x | x <;> simp [x]
      rw [e3] at e2
      split at e2 <;> omega
theorem bitXor_nat (k j : Nat) : Builtin.bitXor (k : Int) (j : Int) = ((k ^^^ j : Nat) : Int) := by
  have e : Builtin.bitAnd (k : Int) (j : Int) = ((k &&& j : Nat) : Int) := by
    unfold Builtin.bitAnd
    rw [decide_eq_true (Int.natCast_nonneg k), decide_eq_true (Int.natCast_nonneg j)]
    rfl
  rw [bitXor_and, e]
  have := xor_sum (k + 1) k j (Nat.lt_succ_self _)
  omega
theorem xor_zero {k j : Nat} (h : Builtin.bitXor (k : Int) (j : Int) = 0) : j = k := by
  rw [bitXor_nat] at h
  have h : k ^^^ j = 0 := by omega
  apply Nat.eq_of_testBit_eq; intro i
  have := congrArg (fun z => Nat.testBit z i) h
  simp only [Nat.testBit_xor, Nat.zero_testBit] at this
  cases hk : k.testBit i <;> cases hj : j.testBit i <;> simp_all
theorem xor_at (k j b : Nat) : (k ^^^ j) / 2 ^ b % 2 = (k / 2 ^ b % 2 + j / 2 ^ b % 2) % 2 := by
  have : (k ^^^ j) / 2 ^ b = k / 2 ^ b ^^^ j / 2 ^ b := by
    apply Nat.eq_of_testBit_eq; intro i
    simp only [Nat.testBit_xor, Nat.testBit_div_two_pow]
  rw [this, xor_low]
theorem bitX (k j b : Nat) : Builtin.bitAnd (Builtin.bitXor (k : Int) (j : Int)) (2 ^ b) = (((k / 2 ^ b % 2 + j / 2 ^ b % 2) % 2 : Nat) : Int) * 2 ^ b := by
  rw [bitXor_nat, bitL, xor_at]
theorem bitX_pos {k j b : Nat} (h : Builtin.bitAnd (Builtin.bitXor (k : Int) (j : Int)) (2 ^ b) > 0) : k / 2 ^ b % 2 ≠ j / 2 ^ b % 2 := by
  intro e
  rw [bitX, e] at h
  have : (j / 2 ^ b % 2 + j / 2 ^ b % 2) % 2 = 0 := by omega
  rw [this] at h
  simp at h
theorem bitX_nul {k j b : Nat} (h : ¬ Builtin.bitAnd (Builtin.bitXor (k : Int) (j : Int)) (2 ^ b) > 0) : k / 2 ^ b % 2 = j / 2 ^ b % 2 := by
  rw [bitX] at h
  rcases Nat.mod_two_eq_zero_or_one (k / 2 ^ b) with x | x <;> rcases Nat.mod_two_eq_zero_or_one (j / 2 ^ b) with y | y
  · rw [x, y]
  · exfalso
    rw [x, y] at h
    have := kbt_pos b
    simp only [Nat.zero_add, Nat.reduceMod, Int.natCast_one, Int.one_mul] at h
    omega
  · exfalso
    rw [x, y] at h
    have := kbt_pos b
    simp only [Nat.add_zero, Nat.reduceMod, Int.natCast_one, Int.one_mul] at h
    omega
  · rw [x, y]
end sMX
section sMC
-- room
-- where the walk halts


-- dicts keyed by octets


-- lists

-- octets



-- reversed(t)

-- tuple(reversed(xs))

-- name_of



-- _get



theorem bytes_ne {v : List UInt8} (h : v ≠ []) : (v.toArray.toList == (#[] : Array UInt8).toList) = false := by
  cases v with
  | nil => exact absurd rfl h
  | cons a r => rfl

theorem branch_spec {w : World} {dp un : Nat} {gd : Option (List Code)} {cn : Str} {cs : Scope} {a : Addr} {ccd : Value} {cl : List (Str × Addr)} {outer : List Env} {A₀ : Around} {base h₀ : Heap} {L : Addr} {m : Str → Option Value}
    {p : Program} {loose : List Str} {mean : ExcName → Option Value} {mg mb : Str → Option Value} {s : Shared} {Q E : Value → Shared → Prop}
    {x dx db f : Addr} {odb : Obj} {τ : Nat → Tok} {dflt : List UInt8} {kvs : List (List UInt8 × Value)} {nh sib : Nat → List UInt8} {v : List UInt8} {k : Nat} {t : Tok}
    (B : Below A₀ base outer h₀) (F : Fr h₀ L s.heap m) (X : (K39 w.params).In h₀) (T : Top p loose mean mg mb h₀) (hk : cs.kind = .function) (hdp : dp + 12 < recursionLimit)
    (Nw : News h₀ L s.heap [(x, instObj 235 dx), (dx, dictOf (treeAttrs w.params τ dflt (nh 0) f db) 6), (db, odb)]) (hdb : odb.IsDictOf (BK w) kvs) (hk8 : k < 256) (hv0 : v ≠ [])
    (hs : ∀ i, i < 8 → ∃ l r t, valueAt kvs (nh i) = some (.bytes (l ++ r).toArray t) ∧ l.length = 32 ∧ r.length = 32 ∧ if k / 2 ^ (7 - i) % 2 = 1 then nh (i + 1) = r ∧ sib i = l else nh (i + 1) = l ∧ sib i = r)
    (he : ∃ t, valueAt kvs (nh 8) = some (.bytes v.toArray t))
    (ret : ∀ h' br tk' vs, Kept [] s.heap h' → h'.get? br = some (tupObj vs) → BytesAre vs ((List.range 8).map sib) → s.heap.get? br = none → Q (.ref br) { s with heap := h', toks := tk' }) :
    wpAny (model PG w) (ktrTop dp un gd cn cs L a ccd cl outer) (call (.ref 176) [.ref x, .bytes (keyB k).toArray t]) Q E s := by
  have hkb := keyB_ints hk8
  refine wpAny_call ?_
  refine' enterK B F X Nw T rfl rfl hk ?ho ?hcd (by show dp < recursionLimit; omega) ?hb ?hl (fun g L' h₁ F' N' B' X' T' kept => ?_) ?hcell ?c1 ?c2 ?c3
  case ho => k_is
  case hcd => k_is
  case hb => exact BindsTo.of_eq rfl
  case hl => exact locs rfl
  case hcell => decide
  case c1 => rfl
  case c2 => rfl
  case c3 => rfl
  try dsimp only
  try k_fold
  repeat' (first | (k_here; (with_reducible show wpAny _ _ (compareOp CmpOp.Eq (Value.bytes _ _) (Value.bytes _ _)) _ _ _); refine eq_bytes ?_; rw [bytes_ne (by assumption)]) | (k_here; (with_reducible show wpAny _ _ (call (Value.ref 183) [_, _]) _ _ _); k_dflt (refine' get_spec ?r14B ?r14F ?r14X ?r14T ?r14hk ?r14dp ?r14N ?r14hdb ?r14k8 ?r14hs ?r14he ?_; (case r14hs => assumption); (case r14he => assumption); (case r14B => k_asm); (case r14F => k_asm); (case r14X => k_asm); (case r14T => k_asm); (case r14hk => exact rfl); (case r14dp => ((try simp only [depth_deeper, depth_in1, depth_under_make]); (try dsimp only [ktrTop]); omega)); (case r14k8 => assumption); (case r14hdb => k_asm); (case r14N => exact news3 (by k_asm) (by k_mem) (by k_mem) (by k_mem))); intro h' r' b' t' tk' vs' K' g1 g2 hb' f1 f2 ne'; (obtain ⟨F', N', n1, n2, n3⟩ := made2 (by k_asm) (by k_asm) K' g1 g2 f1 f2 ne'); (simp only [AllNe, and_true] at n1 n2); clear K' g1 g2 f1 f2 ne'; (have hlb' := BytesAre.length hb'); (simp only [List.length_map, List.length_range] at hlb'); (try k_sweep)) | (k_unfold; (try dsimp only)) | walk1 | (dsimp only; walk1) | (leave1; (try dsimp only)))
  rename Fr g L' _ _ => FE
  rename News g L' _ _ => NE
  rename (_ ≠ _ ∧ _ ≠ _ ∧ _ ≠ _) => n1
  (try dsimp only)
  (try k_unfold)
  (try dsimp only)
  have e1 := NE _ (.tail _ (.head _))
  with_reducible refine' ret _ _ _ _ ?a1 e1.1 (by assumption) ?a2
  case a1 => exact kept_but [] kept FE.keep Nw (List.forall_mem_cons.mpr ⟨fun _ => (NE _ (.tail _ (.tail _ (.head _)))).1, List.forall_mem_cons.mpr ⟨fun _ => (NE _ (.tail _ (.tail _ (.tail _ (.head _))))).1, List.forall_mem_cons.mpr ⟨fun _ => (NE _ (.tail _ (.tail _ (.tail _ (.tail _ (.head _)))))).1, List.forall_mem_nil _⟩⟩⟩)
  case a2 => exact fresh_of kept e1.2.2 (List.forall_mem_cons.mpr ⟨Ne.symm n1.1, List.forall_mem_cons.mpr ⟨Ne.symm n1.2.1, List.forall_mem_cons.mpr ⟨Ne.symm n1.2.2, List.forall_mem_nil _⟩⟩⟩)
end sMC
section sMD
-- room
-- where the walk halts


-- dicts keyed by octets


-- lists

-- octets



-- reversed(t)

-- tuple(reversed(xs))

-- name_of



-- _get



theorem upd_mem {a : Addr} {o o' : Obj} {news : List (Addr × Obj)} {g : Obj → List (Addr × Obj)} (U : UpdF a o news g) {p : Addr × Obj} (hp : p ∈ g o') : p = (a, o') ∨ (p ∈ news ∧ p.1 ≠ a) := by
  obtain ⟨pre, post, rfl, hg, n1, n2⟩ := U.split
  rw [hg] at hp
  rcases List.mem_append.mp hp with q | q
  · exact .inr ⟨List.mem_append_left _ q, n1 p q⟩
  · rcases List.mem_cons.mp q with rfl | q
    · exact .inl rfl
    · exact .inr ⟨List.mem_append_right _ (.tail _ q), n2 p q⟩
theorem upd_at {a : Addr} {o : Obj} {news : List (Addr × Obj)} {g : Obj → List (Addr × Obj)} (U : UpdF a o news g) : (a, o) ∈ news := by
  obtain ⟨pre, post, rfl, _⟩ := U.split
  exact List.mem_append_right _ (.head _)
theorem upd_new {a : Addr} {o o' : Obj} {news : List (Addr × Obj)} {g : Obj → List (Addr × Obj)} (U : UpdF a o news g) : (a, o') ∈ g o' := by
  obtain ⟨pre, post, rfl, hg, _⟩ := U.split
  rw [hg]
  exact List.mem_append_right _ (.head _)
/-- the caller's side behind a call that turns three objects and makes one -/
theorem set_side {h₀ h h' : Heap} {L dx db d r : Addr} {m : Str → Option Value} {news : List (Addr × Obj)} {g1 g2 g3 : Obj → List (Addr × Obj)} {o1 o1' o2 o2' o3 o3' oR : Obj} (F : Fr h₀ L h m) (N : News h₀ L h news)
    (U1 : UpdF dx o1 news g1) (U2 : UpdF db o2 (g1 o1') g2) (U3 : UpdF d o3 (g2 o2') g3) (K : Kept [dx, db, d] h h') (e1 : h'.get? dx = some o1') (e2 : h'.get? db = some o2') (e3 : h'.get? d = some o3') (eR : h'.get? r = some oR) (fR : h.get? r = none) :
    Fr h₀ L h' m ∧ News h₀ L h' ((r, oR) :: g3 o3') ∧ AllNe r (g3 o3') := by
  have old : ∀ p ∈ g3 o3', ∃ o, (p.1, o) ∈ news := fun p hp => by
    rcases upd_mem U3 hp with rfl | ⟨hp, _⟩
    · rcases upd_mem U2 (upd_at U3) with q | ⟨hp, _⟩
      · injection q with q1 q2
        rcases upd_mem U1 (upd_at U2) with q | ⟨hp, _⟩
        · injection q with q1' _; exact ⟨_, by show (d, _) ∈ news; rw [q1, q1']; exact upd_at U1⟩
        · exact ⟨_, by show (d, _) ∈ news; rw [q1]; exact hp⟩
      · rcases upd_mem U1 hp with q | ⟨hp, _⟩
        · injection q with q1 _; exact ⟨_, by show (d, _) ∈ news; rw [q1]; exact upd_at U1⟩
        · exact ⟨_, hp⟩
    · rcases upd_mem U2 hp with rfl | ⟨hp, _⟩
      · rcases upd_mem U1 (upd_at U2) with q | ⟨hp, _⟩
        · injection q with q1 _; exact ⟨_, by show (db, _) ∈ news; rw [q1]; exact upd_at U1⟩
        · exact ⟨_, hp⟩
      · rcases upd_mem U1 hp with rfl | ⟨hp, _⟩
        · exact ⟨_, upd_at U1⟩
        · exact ⟨_, hp⟩
  have here : ∀ p ∈ g3 o3', h'.get? p.1 = some p.2 := fun p hp => by
    rcases upd_mem U3 hp with rfl | ⟨hp, n3⟩
    · exact e3
    · rcases upd_mem U2 hp with rfl | ⟨hp, n2⟩
      · exact e2
      · rcases upd_mem U1 hp with rfl | ⟨hp, n1⟩
        · exact e1
        · exact K _ _ (N p hp).1 (by simp [n1, n2, n3])
  have fresh : ∀ p ∈ [dx, db, d], p ≠ L ∧ h₀.get? p = none := fun p hp => by
    have : ∃ o, (p, o) ∈ news := by
      rcases List.mem_cons.mp hp with rfl | hp
      · exact ⟨_, upd_at U1⟩
      · rcases List.mem_cons.mp hp with rfl | hp
        · rcases upd_mem U1 (upd_at U2) with q | ⟨hp, _⟩
          · injection q with q1 _; exact ⟨_, by rw [q1]; exact upd_at U1⟩
          · exact ⟨_, hp⟩
        · rw [List.mem_singleton.mp hp]
          obtain ⟨o, ho⟩ := old (d, o3') (upd_new U3)
          exact ⟨o, ho⟩
    obtain ⟨o, ho⟩ := this
    exact (N _ ho).2
  obtain ⟨oL, es, ep, hL, rest⟩ := F.ns
  refine ⟨⟨⟨oL, es, ep, K _ _ hL (fun q => (fresh L q).1 rfl), rest⟩, fun c o e => K _ _ (F.keep c o e) (fun q => by rw [(fresh c q).2] at e; cases e), F.above⟩, ?_, ?_⟩
  · refine List.forall_mem_cons.mpr ⟨⟨eR, (fun q => by have q : r = L := q; rw [q, hL] at fR; cases fR), ?_⟩, fun p hp => ⟨here p hp, ?_⟩⟩
    · cases q : h₀.get? r with
      | none => rfl
      | some o => rw [F.keep r o q] at fR; cases fR
    · obtain ⟨o, ho⟩ := old p hp
      exact (N _ ho).2
  · refine allNe_of fun p hp q => ?_
    obtain ⟨o, ho⟩ := old p hp
    have := (N _ ho).1
    rw [q, fR] at this; cases this
theorem rev_map8 (f : Nat → List UInt8) : ((List.range 8).map f).reverse = (List.range 8).map (fun l => f (7 - l)) := rfl
theorem SetRun.kvs_len {k : Nat} {sib : Nat → List UInt8} {v : List UInt8} {N₀ : List (List UInt8)} {kvs₀ : List (List UInt8 × Value)} {i : Nat} {N : List (List UInt8)} {kvs : List (List UInt8 × Value)} {nd : List UInt8} {hs : List (List UInt8)} (R : SetRun k sib v N₀ kvs₀ i N kvs nd hs) : kvs.length ≤ kvs₀.length + i := by
  induction R with
  | zero => omega
  | @succ i N kvs nd hs t R ih => have := stored_len kvs (nameIn (addName N nd) nd) (.bytes nd.toArray t); omega

theorem set_T {w : World} {dp un : Nat} {gd : Option (List Code)} {cn : Str} {cs : Scope} {a : Addr} {ccd : Value} {cl : List (Str × Addr)} {outer : List Env} {A₀ : Around} {base h₀ : Heap} {L : Addr} {m : Str → Option Value}
    {p : Program} {loose : List Str} {mean : ExcName → Option Value} {mg mb : Str → Option Value} {s : Shared} {Q E : Value → Shared → Prop}
    {x dx db f d : Addr} {odb on : Obj} {τ : Nat → Tok} {dflt root : List UInt8} {kvs : List (List UInt8 × Value)} {N : List (List UInt8)} {c : Nat → List UInt8} {v : List UInt8} {k : Nat} {t tv : Tok}
    (B : Below A₀ base outer h₀) (F : Fr h₀ L s.heap m) (X : (K39 w.params).In h₀) (T : Top p loose mean mg mb h₀) (hk : cs.kind = .function) (hdp : dp + 16 < recursionLimit)
    (Nw : News h₀ L s.heap [(x, instObj 235 dx), (dx, dictOf (treeAttrs w.params τ dflt root f db) 6), (db, odb), (d, on)]) (ord : @LT.lt Nat _ d dx ∧ @LT.lt Nat _ dx x ∧ @LT.lt Nat _ x db) (lo : (d == sysModules) = false) (nf : NF s.heap f d)
    (hdb : odb.IsDictOf (BK w) kvs) (hon : NamesObj w on N) (hN : N.length < 50000) (hkz : kvs.length < 50000) (hk8 : k < 256) (hvl : v.length ≤ 64) (TT : TI N kvs c root)
    (ret : ∀ h' r tk' N' kvs' root' odb' on' τ' vs, (∃ S, N' = N ++ S) → TI N' kvs' (put c k v) root' → N'.length ≤ N.length + 9 → kvs'.length ≤ kvs.length + 9 → Kept [dx, db, d] s.heap h' → h'.get? dx = some (dictOf (treeAttrs w.params τ' dflt root' f db) 6) →
      h'.get? db = some odb' → odb'.IsDictOf (BK w) kvs' → h'.get? d = some on' → NamesObj w on' N' → h'.get? r = some (tupObj vs) → BytesAre vs ((List.range 8).map fun l => nameIn N' (txt N' (put c k v) (7 - l) (k / 2 ^ (7 - l)))) → s.heap.get? r = none → Q (.ref r) { s with heap := h', toks := tk' }) :
    wpAny (model PG w) (ktrTop dp un gd cn cs L a ccd cl outer) (call (.ref 190) [.ref x, .bytes (keyB k).toArray t, .bytes v.toArray tv]) Q E s := by
  have er : root = nodeOf N c k 0 := by rw [nodeOf_zero hk8]; exact TT.2
  rw [er] at Nw
  refine set_spec B F X T hk hdp Nw ord lo nf hdb hon hN hkz hk8 hvl (TT.levels hk8) (TT.leaf hk8) ?_
  intro h' r tk' N' kvs' nd hs' odb' on' τ' tx vs R K e1 e2 hd' e3 hon' eR hb fR
  obtain ⟨hS, T', hl, hhs⟩ := set_TI (t := tx) TT hk8 (by omega) R
  have kl := R.kvs_len
  have kl2 := stored_len kvs' (nameIn (addName N' nd) nd) (.bytes nd.toArray tx)
  rw [hhs, rev_map8] at hb
  exact ret h' r tk' _ _ _ odb' on' τ' vs hS T' hl (by omega) K e1 e2 hd' e3 hon' eR hb fR
end sMD
section sME
-- room
-- where the walk halts


-- dicts keyed by octets


-- lists

-- octets



-- reversed(t)

-- tuple(reversed(xs))

-- name_of



-- _get



-- set


theorem delete_T {w : World} {dp un : Nat} {gd : Option (List Code)} {cn : Str} {cs : Scope} {a : Addr} {ccd : Value} {cl : List (Str × Addr)} {outer : List Env} {A₀ : Around} {base h₀ : Heap} {L : Addr} {m : Str → Option Value}
    {p : Program} {loose : List Str} {mean : ExcName → Option Value} {mg mb : Str → Option Value} {s : Shared} {Q E : Value → Shared → Prop}
    {x dx db f d : Addr} {odb on : Obj} {τ : Nat → Tok} {dflt root : List UInt8} {kvs : List (List UInt8 × Value)} {N : List (List UInt8)} {c : Nat → List UInt8} {k : Nat} {t : Tok}
    (B : Below A₀ base outer h₀) (F : Fr h₀ L s.heap m) (X : (K39 w.params).In h₀) (T : Top p loose mean mg mb h₀) (hk : cs.kind = .function) (hdp : dp + 20 < recursionLimit)
    (Nw : News h₀ L s.heap [(x, instObj 235 dx), (dx, dictOf (treeAttrs w.params τ dflt root f db) 6), (db, odb), (d, on)]) (ord : @LT.lt Nat _ d dx ∧ @LT.lt Nat _ dx x ∧ @LT.lt Nat _ x db) (lo : (d == sysModules) = false) (nf : NF s.heap f d)
    (hdb : odb.IsDictOf (BK w) kvs) (hon : NamesObj w on N) (hN : N.length < 50000) (hkz : kvs.length < 50000) (hk8 : k < 256) (hvl : dflt.length ≤ 64) (TT : TI N kvs c root)
    (ret : ∀ h' r tk' N' kvs' root' odb' on' τ' vs, (∃ S, N' = N ++ S) → TI N' kvs' (put c k dflt) root' → N'.length ≤ N.length + 9 → kvs'.length ≤ kvs.length + 9 → Kept [dx, db, d] s.heap h' → h'.get? dx = some (dictOf (treeAttrs w.params τ' dflt root' f db) 6) →
      h'.get? db = some odb' → odb'.IsDictOf (BK w) kvs' → h'.get? d = some on' → NamesObj w on' N' → h'.get? r = some (tupObj vs) → BytesAre vs ((List.range 8).map fun l => nameIn N' (txt N' (put c k dflt) (7 - l) (k / 2 ^ (7 - l)))) → s.heap.get? r = none → Q (.ref r) { s with heap := h', toks := tk' }) :
    wpAny (model PG w) (ktrTop dp un gd cn cs L a ccd cl outer) (call (.ref 204) [.ref x, .bytes (keyB k).toArray t]) Q E s := by
  have hkb := keyB_ints hk8
  have ord0 := ord
  obtain ⟨ord1, ord2, ord3⟩ := ord
  refine wpAny_call ?_
  refine' enterK B F X Nw T rfl rfl hk ?ho ?hcd (by show dp < recursionLimit; omega) ?hb ?hl (fun g L' h₁ F' N' B' X' T' kept => ?_) ?hcell ?c1 ?c2 ?c3
  case ho => k_is
  case hcd => k_is
  case hb => exact BindsTo.of_eq rfl
  case hl => exact locs rfl
  case hcell => decide
  case c1 => rfl
  case c2 => rfl
  case c3 => rfl
  have nf' : NF g f d := by
    obtain ⟨q, doc, pm, c, cel, ct, oc, hf, ⟨c', oc', vs', t', e', hc', hd', hv'⟩, hcel, hcd⟩ := nf
    have off : ∀ b o, s.heap.get? b = some o → (∀ es n, o.data ≠ .dict es n) → (o.data ≠ .plain) → g.get? b = some o := fun b o e h1 h2 => kept b o e (fun hb => by
      simp only [List.map_cons, List.map_nil, List.mem_cons, List.not_mem_nil, or_false] at hb
      obtain ⟨es1, ep1, he1, hdd, _⟩ := hdb
      obtain ⟨kk, ⟨es2, ep2, he2, hdd2, _⟩, _⟩ := hon
      rcases hb with rfl | rfl | rfl | rfl
      · have := (Nw _ (.head _)).1; rw [e] at this; cases this; exact h2 rfl
      · have := (Nw _ (.tail _ (.head _))).1; rw [e] at this; cases this; exact h1 _ _ rfl
      · have := (Nw _ (.tail _ (.tail _ (.head _)))).1; rw [e] at this; cases this; exact h1 _ _ hdd
      · have := (Nw _ (.tail _ (.tail _ (.tail _ (.head _))))).1; rw [e] at this; cases this; exact h1 _ _ hdd2)
    exact ⟨q, doc, pm, c, cel, ct, oc, off _ _ hf (fun _ _ e => nomatch e) (fun e => nomatch e), ⟨c', oc', vs', t', e', off _ _ hc' (fun _ _ e => by rw [hd'] at e; cases e) (fun e => by rw [hd'] at e; cases e), hd', hv'⟩, off _ _ hcel (fun _ _ e => by rw [hcd] at e; cases e) (fun e => by rw [hcd] at e; cases e), hcd⟩
  clear nf
  try dsimp only
  try k_fold
  repeat' (first | (k_here; (with_reducible show wpAny _ _ (call (Value.ref 190) [_, _, _]) _ _ _); k_dflt (refine' set_T ?r16B ?r16F ?r16X ?r16T ?r16hk ?r16dp ?r16N ?r16ord ?r16lo ?r16nf ?r16hdb ?r16hon ?r16hN ?r16hkz ?r16k8 ?r16hvl ?r16TT ?_; (case r16nf => exact NF.keeps (by assumption) (Fr.keep (by assumption))); (case r16B => k_asm); (case r16F => k_asm); (case r16X => k_asm); (case r16T => k_asm); (case r16hk => exact rfl); (case r16dp => ((try simp only [depth_deeper, depth_in1, depth_under_make]); (try dsimp only [ktrTop]); omega)); (case r16k8 => assumption); (case r16N => exact news4 (by k_asm) (by k_mem) (by k_mem) (by k_mem) (by k_mem)); (case r16hdb => k_asm); (case r16hon => k_asm); (case r16lo => k_asm); (case r16TT => assumption); (case r16ord => first | assumption | (refine ⟨?_, ?_, ?_⟩ <;> assumption) | omega); (case r16hN => omega); (case r16hkz => omega); (case r16hvl => first | assumption | omega | decide)); intro h' r' tk' N' kvs' root' odb' on' τ' vs' hS' T' hl' hk' K' e1' hd1 hdb' hd2 hon' eR' hb' fR'; (obtain ⟨F', N2', n1⟩ := set_side (by k_asm) (by k_asm) (by k_updF) (by k_updF) (by k_updF) K' e1' hd1 hd2 eR' fR'); (try dsimp only at N2'); (simp only [AllNe, and_true] at n1); clear K' e1' hd1 hd2 eR' fR'; (try k_sweep)) | (k_here; (with_reducible show wpAny _ _ (call (Value.builtin "len") [Value.bytes (List.toArray (keyB _)) _]) _ _ _); (refine len_key (by assumption) ?_)) | (k_unfold; (try dsimp only)) | walk1 | (dsimp only; walk1) | (leave1; (try dsimp only)))
  rename Fr g L' _ _ => FE
  rename News g L' _ _ => NE
  rename (_ ≠ _ ∧ _ ≠ _ ∧ _ ≠ _ ∧ _ ≠ _) => n1
  rename BytesAre _ _ => HB
  rename NamesObj w _ _ => HO
  have r2 := (NE _ (.tail _ (.head _))).1
  with_reducible refine' ret _ _ _ _ _ _ _ _ _ _ (by assumption) (by assumption) (by assumption) (by assumption) ?r1 ?r3 ?r4 (by assumption) ?r5 HO ?r6 HB ?r7
  case r6 => exact (NE _ (.head _)).1
  case r3 => exact (NE _ (.tail _ (.tail _ (.head _)))).1
  case r4 => exact (NE _ (.tail _ (.tail _ (.tail _ (.head _))))).1
  case r5 => exact (NE _ (.tail _ (.tail _ (.tail _ (.tail _ (.head _)))))).1
  case r1 => exact kept_but [dx, db, d] kept FE.keep Nw (List.forall_mem_cons.mpr ⟨fun _ => r2, List.forall_mem_cons.mpr ⟨fun hh => absurd (.head _) hh, List.forall_mem_cons.mpr ⟨fun hh => absurd (.tail _ (.head _)) hh, List.forall_mem_cons.mpr ⟨fun hh => absurd (.tail _ (.tail _ (.head _))) hh, List.forall_mem_nil _⟩⟩⟩⟩)
  case r7 => exact fresh_of kept (NE _ (.head _)).2.2 (List.forall_mem_cons.mpr ⟨Ne.symm n1.1, List.forall_mem_cons.mpr ⟨Ne.symm n1.2.1, List.forall_mem_cons.mpr ⟨Ne.symm n1.2.2.1, List.forall_mem_cons.mpr ⟨Ne.symm n1.2.2.2, List.forall_mem_nil _⟩⟩⟩⟩)
end sME
section sMF
-- room
-- where the walk halts


-- dicts keyed by octets


-- lists

-- octets



-- reversed(t)

-- tuple(reversed(xs))

-- name_of



-- _get




-- set


-- delete


section
variable {prog : Program} {w : World} {A : Around} {E : Value → Shared → Prop} {s : Shared} {h₀ : Heap} {L d : Addr} {m : Str → Option Value} {news : List (Addr × Obj)} {g : Obj → List (Addr × Obj)} {o : Obj}
theorem keys_P {value slice : PySem.Expr} {l : Addr} {vs : List Value} {k : Int} {u : Tok} {Q : Value → Shared → Prop} (hl : s.heap.IsList l vs.toArray)
    (h0 : 0 ≤ k) (h1 : k < vs.length) (hfit : k < 2 ^ 63) (hv : ∀ v ∈ vs, ∃ n t, v = .int n t ∧ 0 ≤ n ∧ n ≤ 255) (h : ∀ n t, 0 ≤ n → n ≤ 255 → Q (.int n t) s)
    (hs : subscripted slice false (.ref l) (.int k u) = operate [.ref l, .int k u] (getItem (.ref l) (.int k u)) := by with_unfolding_all rfl) :
    wpAny (model prog w) A (subscriptTail value slice (.ref l) (.int k u)) Q E s := by
  have hlt : k.toNat < vs.length := by omega
  obtain ⟨n, t, e, a, b⟩ := hv _ (List.getElem_mem hlt)
  exact tail_any hl.typeIs slot_list_getitem.lookup (wpAny_getItem_list hl h0 hfit (x := vs[k.toNat]) (by simp [hlt]) (by rw [e]; exact h n t a b)) hs
theorem bytes1_K {l : Addr} {vs : List Value} {n : Int} {Q : Value → Shared → Prop} (F : Fr h₀ L s.heap m) (N : News h₀ L s.heap news) (hl : s.heap.IsList l vs.toArray) (hi : IntsAre vs [n]) (hr : 0 ≤ n ∧ n < 256) (hh : A.handled = none)
    (h : ∀ h' t k (q : Nat), (q : Int) = n → q < 256 → Fr h₀ L h' m → News h₀ L h' news → Q (.bytes (keyB q).toArray t) { s with heap := h', toks := k }) : wpAny (model prog w) A (call (.type "bytes") [.ref l]) Q E s :=
  bytes_K F N hl hi (fun x hx => by rw [List.mem_singleton.mp hx]; exact hr) (by rw [hi.length, sizeLine_eq]; exact Nat.le_of_ble_eq_true rfl) hh fun h' t k F' N' _ => h h' t k n.toNat (by omega) (by omega) F' N'
theorem pop_any {kvs : List (Int × Value)} {k : Int} {tk : Tok} {dv : Value} {Q : Value → Shared → Prop} (F : Fr h₀ L s.heap m) (N : News h₀ L s.heap news) (U : UpdF d o news g) (hd : o.IsDictOf (intKind prog w) kvs) (lo : (d == sysModules) = false) (hsz : kvs.length ≤ sizeLine)
    (h : ∀ h' o' v, Fr h₀ L h' m → News h₀ L h' (g o') → o'.IsDictOf (intKind prog w) (without kvs k) → Q v { s with heap := h', toks := s.toks + 1 }) :
    wpAny (model prog w) A (call (.builtin "dict.pop") [.ref d, .int k tk, dv]) Q E s := by
  have hnd : (kvs.map (·.1)).Nodup := by obtain ⟨_, _, _, _, _, _, h⟩ := hd; exact h
  by_cases hm : k ∈ kvs.map (·.1)
  · obtain ⟨v, _, hv⟩ := valueAt_mem hnd hm
    exact kob_pop (more := [dv]) F N U hd (intKind_is _ _ _ _) (.inr ⟨_, rfl⟩) (by rfl) (PySem.F.args_dict_pop_3 _ _ _) hv hsz fun h' o' F' N' hd' => h h' o' v F' N' hd'
  · have hD := kda_dict N (upd_at U) hd
    refine call_meetsIn PySem.F.slot_dict_pop hD.typeIs PySem.F.entry_dict_pop (PySem.F.args_dict_pop_3 _ _ _) (meets_dict_pop_default _ d (intKind_is _ _ _ _) lo (by rfl) dv) ⟨kvs, hD, valueAt_none hm, ?_⟩
    have e : g o = news := by obtain ⟨pre, post, rfl, hg, _⟩ := U.split; exact hg o
    exact h s.heap o dv F (e ▸ N) (by rw [without_of_not_mem kvs k hm]; exact hd)
end
theorem keyB_ne (k : Nat) : keyB k ≠ [] := fun e => nomatch e
-- the deed's own steps





/-- what a plain dict says of a content -/
noncomputable def PD (dflt : List UInt8) (ikvs : List (Int × Value)) (c : Nat → List UInt8) : Prop :=
  (∀ q : Nat, q < 256 → (valueAt ikvs (q : Int) = none ∧ c q = dflt) ∨ ∃ v t, valueAt ikvs (q : Int) = some (.bytes v.toArray t) ∧ c q = v ∧ v.length = 1) ∧ ∀ kv ∈ ikvs, ∃ q : Nat, q < 256 ∧ kv.1 = (q : Int)

theorem valueAt_without (kvs : List (Int × Value)) (k x : Int) : valueAt (without kvs k) x = if x = k then none else valueAt kvs x := by
  unfold valueAt without
  induction kvs with
  | nil => split <;> rfl
  | cons y r ih =>
    rw [List.filter_cons]
    by_cases hy : y.1 = k
    · rw [if_neg (by simp [hy]), ih]
      split
      · rfl
      · rename_i hx
        rw [List.find?_cons_of_neg (by simpa using fun e => hx (e.symm.trans hy))]
    · rw [if_pos (by simpa using hy)]
      by_cases hx : y.1 = x
      · rw [List.find?_cons_of_pos (by simpa using hx), List.find?_cons_of_pos (by simpa using hx), if_neg (fun e => hy (hx.trans e))]
      · rw [List.find?_cons_of_neg (by simpa using hx), List.find?_cons_of_neg (by simpa using hx), ih]
theorem pd_del {dflt : List UInt8} {ikvs : List (Int × Value)} {c : Nat → List UInt8} {k : Nat} (P : PD dflt ikvs c) : PD dflt (without ikvs (k : Int)) (put c k dflt) := by
  refine ⟨fun q hq => ?_, fun kv hkv => P.2 kv (List.mem_filter.mp hkv).1⟩
  rw [valueAt_without]
  unfold put
  by_cases h : q = k
  · rw [if_pos (by omega), if_pos h]; exact .inl ⟨rfl, rfl⟩
  · rw [if_neg (by omega), if_neg h]; exact P.1 q hq
theorem pd_set {dflt : List UInt8} {ikvs : List (Int × Value)} {c : Nat → List UInt8} {k : Nat} {v : List UInt8} {t : Tok} (P : PD dflt ikvs c) (hk : k < 256) (hv : v.length = 1) : PD dflt (stored ikvs (k : Int) (.bytes v.toArray t)) (put c k v) := by
  refine ⟨fun q hq => ?_, fun kv hkv => ?_⟩
  · rw [valueAt_stored]
    unfold put
    by_cases h : q = k
    · rw [if_pos (by omega), if_pos h]; exact .inr ⟨v, t, rfl, rfl, hv⟩
    · rw [if_neg (by omega), if_neg h]; exact P.1 q hq
  · unfold stored at hkv
    split at hkv
    · obtain ⟨kv', hm, e⟩ := List.mem_map.mp hkv
      split at e
      · rename_i hh; rw [← e]; exact ⟨k, hk, hh⟩
      · rw [← e]; exact P.2 _ hm
    · rcases List.mem_append.mp hkv with h | h
      · exact P.2 _ h
      · rw [List.mem_singleton.mp h]; exact ⟨k, hk, rfl⟩
theorem stored_lenI (kvs : List (Int × Value)) (k : Int) (v : Value) : (stored kvs k v).length ≤ kvs.length + 1 := by
  unfold stored; split <;> simp

theorem deed_T {w : World} {dp un : Nat} {gd : Option (List Code)} {cn : Str} {cs : Scope} {a : Addr} {ccd : Value} {cl : List (Str × Addr)} {outer : List Env} {A₀ : Around} {base h₀ : Heap} {L : Addr} {m : Str → Option Value}
    {p : Program} {loose : List Str} {mean : ExcName → Option Value} {mg mb : Str → Option Value} {s : Shared} {Q E : Value → Shared → Prop}
    {x dx db f d pl : Addr} {odb on opl : Obj} {τ : Nat → Tok} {dflt root : List UInt8} {kvs : List (List UInt8 × Value)} {ikvs : List (Int × Value)} {N : List (List UInt8)} {c : Nat → List UInt8} {z : Int} {t : Tok}
    (B : Below A₀ base outer h₀) (F : Fr h₀ L s.heap m) (X : (K39 w.params).In h₀) (T : Top p loose mean mg mb h₀) (hk : cs.kind = .function) (hdp : dp + 24 < recursionLimit)
    (Nw : News h₀ L s.heap [(x, instObj 235 dx), (dx, dictOf (treeAttrs w.params τ dflt root f db) 6), (db, odb), (d, on), (pl, opl)]) (ord : @LT.lt Nat _ d dx ∧ @LT.lt Nat _ dx x ∧ @LT.lt Nat _ x db) (apl : @Ne Nat pl x ∧ @Ne Nat pl dx ∧ @Ne Nat pl db ∧ @Ne Nat pl d) (lo : (d == sysModules) = false) (lopl : (pl == sysModules) = false) (nf : NF s.heap f d)
    (hdb : odb.IsDictOf (BK w) kvs) (hpl : opl.IsDictOf (intKind PG w) ikvs) (hon : NamesObj w on N) (hN : N.length < 50000) (hkz : kvs.length < 50000) (hiz : ikvs.length < 50000) (hvl : dflt.length ≤ 64) (TT : TI N kvs c root) (PP : PD dflt ikvs c)
    (ret : ∀ h' r tk' N' kvs' ikvs' c' root' odb' on' opl' τ' vs, (∃ S, N' = N ++ S) → TI N' kvs' c' root' → PD dflt ikvs' c' → N'.length ≤ N.length + 9 → kvs'.length ≤ kvs.length + 9 → ikvs'.length ≤ ikvs.length + 1 → Kept [dx, db, d, pl] s.heap h' → h'.get? dx = some (dictOf (treeAttrs w.params τ' dflt root' f db) 6) →
      h'.get? db = some odb' → odb'.IsDictOf (BK w) kvs' → h'.get? d = some on' → NamesObj w on' N' → h'.get? pl = some opl' → opl'.IsDictOf (intKind PG w) ikvs' → h'.get? r = some (tupObj vs) → s.heap.get? r = none → Q (.ref r) { s with heap := h', toks := tk' }) :
    wpAny (model PG w) (ktrTop dp un gd cn cs L a ccd cl outer) (call (.ref 260) [.ref x, .ref pl, .int z t]) Q E s := by
  have ord0 := ord
  obtain ⟨ord1, ord2, ord3⟩ := ord
  refine wpAny_call ?_
  refine' enterK B F X Nw T rfl rfl hk ?ho ?hcd (by show dp < recursionLimit; omega) ?hb ?hl (fun g L' h₁ F' N' B' X' T' kept => ?_) ?hcell ?c1 ?c2 ?c3
  case ho => k_is
  case hcd => k_is
  case hb => exact BindsTo.of_eq rfl
  case hl => exact locs rfl
  case hcell => decide
  case c1 => rfl
  case c2 => rfl
  case c3 => rfl
  have nf' : NF g f d := by
    obtain ⟨q, doc, pm, c, cel, ct, oc, hf, ⟨c', oc', vs', t', e', hc', hd', hv'⟩, hcel, hcd⟩ := nf
    have off : ∀ b o, s.heap.get? b = some o → (∀ es n, o.data ≠ .dict es n) → (o.data ≠ .plain) → g.get? b = some o := fun b o e h1 h2 => kept b o e (fun hb => by
      simp only [List.map_cons, List.map_nil, List.mem_cons, List.not_mem_nil, or_false] at hb
      obtain ⟨es1, ep1, he1, hdd, _⟩ := hdb
      obtain ⟨es3, ep3, he3, hdd3, _⟩ := hpl
      obtain ⟨kk, ⟨es2, ep2, he2, hdd2, _⟩, _⟩ := hon
      rcases hb with rfl | rfl | rfl | rfl | rfl
      · have := (Nw _ (.head _)).1; rw [e] at this; cases this; exact h2 rfl
      · have := (Nw _ (.tail _ (.head _))).1; rw [e] at this; cases this; exact h1 _ _ rfl
      · have := (Nw _ (.tail _ (.tail _ (.head _)))).1; rw [e] at this; cases this; exact h1 _ _ hdd
      · have := (Nw _ (.tail _ (.tail _ (.tail _ (.head _))))).1; rw [e] at this; cases this; exact h1 _ _ hdd2
      · have := (Nw _ (.tail _ (.tail _ (.tail _ (.tail _ (.head _)))))).1; rw [e] at this; cases this; exact h1 _ _ hdd3)
    exact ⟨q, doc, pm, c, cel, ct, oc, off _ _ hf (fun _ _ e => nomatch e) (fun e => nomatch e), ⟨c', oc', vs', t', e', off _ _ hc' (fun _ _ e => by rw [hd'] at e; cases e) (fun e => by rw [hd'] at e; cases e), hd', hv'⟩, off _ _ hcel (fun _ _ e => by rw [hcd] at e; cases e) (fun e => by rw [hcd] at e; cases e), hcd⟩
  clear nf
  try dsimp only
  try k_fold
  repeat' (first | (k_here; (with_reducible show wpAny _ _ (setItem (Value.ref _) (Value.int _ _) _) _ _ _); k_dflt (refine' kda_set (knd := intKind _ _) ?r23F ?r23N ?r23U ?r23d (intKind_is _ _ _ _) ?r23z ?_; (case r23F => k_asm); (case r23N => k_asm); (case r23U => k_updF); (case r23d => k_asm); (case r23z => (rw [sizeLine_eq]; omega))); intro h' o' F' N' hd'; (try dsimp only at N'); (try k_sweep)) | (k_here; (with_reducible show wpAny _ _ (compareOp CmpOp.Eq (Value.bytes _ _) (Value.bytes _ _)) _ _ _); refine eq_bytes ?_; first | rw [bytes_ne (keyB_ne _)] | rw [show ((#[] : Array UInt8).toList == (#[] : Array UInt8).toList) = true from rfl]) | (k_here; (with_reducible show wpAny _ _ (call (Value.builtin "dict.pop") _) _ _ _); k_dflt (refine' pop_any ?r21F ?r21N ?r21U ?r21d ?r21lo ?r21z ?_; (case r21F => k_asm); (case r21N => k_asm); (case r21U => k_updF); (case r21d => k_asm); (case r21lo => k_asm); (case r21z => (rw [sizeLine_eq]; omega))); intro h' o' v' F' N' hd'; (try dsimp only at N'); (try k_sweep)) | (k_here; (with_reducible show wpAny _ _ (call (Value.type _) [Value.ref _]) _ _ _); k_dflt (refine' bytes1_K ?r20F ?r20N ?r20l ?r20i ?r20r ?r20h ?_; (case r20F => k_asm); (case r20N => k_asm); (case r20l => is_list); (case r20i => first | l_ints | l_intsW); (case r20r => (try simp only [Int.fmod_eq_emod_of_nonneg _ (by decide : (0 : Int) ≤ 256), Int.fmod_eq_emod_of_nonneg _ (by decide : (0 : Int) ≤ 4)]); (constructor <;> omega)); (case r20h => with_unfolding_all rfl)); intro h' t' k' q' e' hq' F' N'; (try k_sweep)) | (k_here; (with_reducible show wpAny _ _ (subscriptTail _ _ (Value.ref _) (Value.int _ _)) _ _ _); (with_unfolding_all refine' keys_P ?r19k1 ?r19k3 ?r19k4 ?r19k5 ?r19k7 ?_ ?r19k6; (case r19k1 => is_list); (case r19k3 => l_idx); (case r19k4 => l_idx); (case r19k5 => l_idx); (case r19k6 => with_unfolding_all rfl); (case r19k7 => (repeat (first | exact List.forall_mem_nil _ | refine List.forall_mem_cons.mpr ⟨⟨_, _, rfl, by decide, by decide⟩, ?_⟩))); k_whole); intro _ _ _ _) | (k_here; (with_reducible show wpAny _ _ (call (Value.ref 204) [_, _]) _ _ _); k_dflt (refine' delete_T ?r18B ?r18F ?r18X ?r18T ?r18hk ?r18dp ?r18N ?r18ord ?r18lo ?r18nf ?r18hdb ?r18hon ?r18hN ?r18hkz ?r18k8 ?r18hvl ?r18TT ?_; (case r18nf => exact NF.keeps (by assumption) (Fr.keep (by assumption))); (case r18B => k_asm); (case r18F => k_asm); (case r18X => k_asm); (case r18T => k_asm); (case r18hk => exact rfl); (case r18dp => ((try simp only [depth_deeper, depth_in1, depth_under_make]); (try dsimp only [ktrTop]); omega)); (case r18k8 => assumption); (case r18N => exact news4 (by k_asm) (by k_mem) (by k_mem) (by k_mem) (by k_mem)); (case r18hdb => k_asm); (case r18hon => k_asm); (case r18lo => k_asm); (case r18TT => assumption); (case r18ord => first | assumption | (refine ⟨?_, ?_, ?_⟩ <;> assumption) | omega); (case r18hN => omega); (case r18hkz => omega); (case r18hvl => first | assumption | omega | exact Nat.le_of_ble_eq_true rfl)); intro h' r' tk' N' kvs' root' odb' on' τ' vs' hS' T' hl' hk' K' e1' hd1 hdb' hd2 hon' eR' hb' fR'; (obtain ⟨F', N2', n1⟩ := set_side (by k_asm) (by k_asm) (by k_updF) (by k_updF) (by k_updF) K' e1' hd1 hd2 eR' fR'); (try dsimp only at N2'); (simp only [AllNe, and_true] at n1); clear K' e1' hd1 hd2 eR' fR'; (try k_sweep)) | (k_here; (with_reducible show wpAny _ _ (call (Value.ref 190) [_, _, _]) _ _ _); k_dflt (refine' set_T ?r17B ?r17F ?r17X ?r17T ?r17hk ?r17dp ?r17N ?r17ord ?r17lo ?r17nf ?r17hdb ?r17hon ?r17hN ?r17hkz ?r17k8 ?r17hvl ?r17TT ?_; (case r17nf => exact NF.keeps (by assumption) (Fr.keep (by assumption))); (case r17B => k_asm); (case r17F => k_asm); (case r17X => k_asm); (case r17T => k_asm); (case r17hk => exact rfl); (case r17dp => ((try simp only [depth_deeper, depth_in1, depth_under_make]); (try dsimp only [ktrTop]); omega)); (case r17k8 => assumption); (case r17N => exact news4 (by k_asm) (by k_mem) (by k_mem) (by k_mem) (by k_mem)); (case r17hdb => k_asm); (case r17hon => k_asm); (case r17lo => k_asm); (case r17TT => assumption); (case r17ord => first | assumption | (refine ⟨?_, ?_, ?_⟩ <;> assumption) | omega); (case r17hN => omega); (case r17hkz => omega); (case r17hvl => first | assumption | omega | exact Nat.le_of_ble_eq_true rfl)); intro h' r' tk' N' kvs' root' odb' on' τ' vs' hS' T' hl' hk' K' e1' hd1 hdb' hd2 hon' eR' hb' fR'; (obtain ⟨F', N2', n1⟩ := set_side (by k_asm) (by k_asm) (by k_updF) (by k_updF) (by k_updF) K' e1' hd1 hd2 eR' fR'); (try dsimp only at N2'); (simp only [AllNe, and_true] at n1); clear K' e1' hd1 hd2 eR' fR'; (try k_sweep)) | (k_here; (with_reducible show wpAny _ _ (execs _ _) _ _ _); dsimp only; walk1) | (k_unfold; (try dsimp only)) | walk1 | (dsimp only; walk1) | (leave1; (try dsimp only)))
  all_goals (
    rename Fr g L' _ _ => FE
    rename News g L' _ _ => NE
    rename NamesObj w _ _ => HO
    rename Obj.IsDictOf (intKind _ _) _ _ => HP)
  · rename (_ ≠ _ ∧ _ ≠ _ ∧ _ ≠ _ ∧ _ ≠ _ ∧ _ ≠ _ ∧ _ ≠ _ ∧ _ ≠ _) => n1
    rename (((_ : Nat) : Int) = _) => eq
    rw [← eq] at HP
    have r2 := (NE _ (.tail _ (.tail _ (.tail _ (.head _))))).1
    with_reducible refine' ret _ _ _ _ _ (without ikvs _) _ _ _ _ _ _ _ (by assumption) (by assumption) (pd_del PP) (by assumption) (by assumption) ?r0 ?r1 ?r3 ?r4 (by assumption) ?r5 HO ?r6 HP ?r7 ?r8
    case r0 => exact Nat.le_trans (List.length_filter_le _ _) (by omega)
    case r7 => exact (NE _ (.head _)).1
    case r3 => exact (NE _ (.tail _ (.tail _ (.tail _ (.tail _ (.head _)))))).1
    case r4 => exact (NE _ (.tail _ (.tail _ (.tail _ (.tail _ (.tail _ (.head _))))))).1
    case r5 => exact (NE _ (.tail _ (.tail _ (.tail _ (.tail _ (.tail _ (.tail _ (.head _)))))))).1
    case r6 => exact (NE _ (.tail _ (.tail _ (.tail _ (.tail _ (.tail _ (.tail _ (.tail _ (.head _))))))))).1
    case r1 => exact kept_but [dx, db, d, pl] kept FE.keep Nw (List.forall_mem_cons.mpr ⟨fun _ => r2, List.forall_mem_cons.mpr ⟨fun hh => absurd (.head _) hh, List.forall_mem_cons.mpr ⟨fun hh => absurd (.tail _ (.head _)) hh, List.forall_mem_cons.mpr ⟨fun hh => absurd (.tail _ (.tail _ (.head _))) hh, List.forall_mem_cons.mpr ⟨fun hh => absurd (.tail _ (.tail _ (.tail _ (.head _)))) hh, List.forall_mem_nil _⟩⟩⟩⟩⟩)
    case r8 => exact fresh_of kept (NE _ (.head _)).2.2 (List.forall_mem_cons.mpr ⟨Ne.symm n1.2.2.1, List.forall_mem_cons.mpr ⟨Ne.symm n1.2.2.2.1, List.forall_mem_cons.mpr ⟨Ne.symm n1.2.2.2.2.1, List.forall_mem_cons.mpr ⟨Ne.symm n1.2.2.2.2.2.1, List.forall_mem_cons.mpr ⟨Ne.symm n1.2.2.2.2.2.2, List.forall_mem_nil _⟩⟩⟩⟩⟩)
  · rename (_ ≠ _ ∧ _ ≠ _ ∧ _ ≠ _ ∧ _ ≠ _ ∧ _ ≠ _ ∧ _ ≠ _ ∧ _ ≠ _ ∧ _ ≠ _) => n1
    rename (((_ : Nat) : Int) = Int.fmod _ _) => eq
    rw [← eq] at HP
    have r2 := (NE _ (.tail _ (.tail _ (.tail _ (.tail _ (.head _)))))).1
    with_reducible refine' ret _ _ _ _ _ (stored ikvs _ _) _ _ _ _ _ _ _ (by assumption) (by assumption) (pd_set PP (by assumption) ?rl) (by assumption) (by assumption) ?r0 ?r1 ?r3 ?r4 (by assumption) ?r5 HO ?r6 HP ?r7 ?r8
    case rl => rfl
    case r0 => exact stored_lenI _ _ _
    case r7 => exact (NE _ (.head _)).1
    case r3 => exact (NE _ (.tail _ (.tail _ (.tail _ (.tail _ (.tail _ (.head _))))))).1
    case r4 => exact (NE _ (.tail _ (.tail _ (.tail _ (.tail _ (.tail _ (.tail _ (.head _)))))))).1
    case r5 => exact (NE _ (.tail _ (.tail _ (.tail _ (.tail _ (.tail _ (.tail _ (.tail _ (.head _))))))))).1
    case r6 => exact (NE _ (.tail _ (.tail _ (.tail _ (.tail _ (.tail _ (.tail _ (.tail _ (.tail _ (.head _)))))))))).1
    case r1 => exact kept_but [dx, db, d, pl] kept FE.keep Nw (List.forall_mem_cons.mpr ⟨fun _ => r2, List.forall_mem_cons.mpr ⟨fun hh => absurd (.head _) hh, List.forall_mem_cons.mpr ⟨fun hh => absurd (.tail _ (.head _)) hh, List.forall_mem_cons.mpr ⟨fun hh => absurd (.tail _ (.tail _ (.head _))) hh, List.forall_mem_cons.mpr ⟨fun hh => absurd (.tail _ (.tail _ (.tail _ (.head _)))) hh, List.forall_mem_nil _⟩⟩⟩⟩⟩)
    case r8 => exact fresh_of kept (NE _ (.head _)).2.2 (List.forall_mem_cons.mpr ⟨Ne.symm n1.2.2.2.1, List.forall_mem_cons.mpr ⟨Ne.symm n1.2.2.2.2.1, List.forall_mem_cons.mpr ⟨Ne.symm n1.2.2.2.2.2.1, List.forall_mem_cons.mpr ⟨Ne.symm n1.2.2.2.2.2.2.1, List.forall_mem_cons.mpr ⟨Ne.symm n1.2.2.2.2.2.2.2, List.forall_mem_nil _⟩⟩⟩⟩⟩)
end sMF
section sMG
-- room
-- where the walk halts


-- dicts keyed by octets


-- lists

-- octets



-- reversed(t)

-- tuple(reversed(xs))

-- name_of



-- _get




section
variable {prog : Program} {w : World} {A : Around} {E : Value → Shared → Prop} {s : Shared} {h₀ : Heap} {L d : Addr} {m : Str → Option Value} {news : List (Addr × Obj)}
theorem tup_base {a : Addr} {vs : List Value} (F : Fr h₀ L s.heap m) (hm : h₀.get? a = some (tupObj vs)) : IsTup s.heap a vs.toArray := ⟨_, F.keep _ _ hm, rfl, 0, rfl⟩
theorem len8 {a : Addr} {vs : List Value} {Q : Value → Shared → Prop} (F : Fr h₀ L s.heap m) (hm : h₀.get? a = some (tupObj vs)) (h8 : vs.length = 8) (h : Q (.int 8 (s.toks + 1)) { s with toks := s.toks + 1 + 1 }) : wpAny (model prog w) A (call (.builtin "len") [.ref a]) Q E s :=
  len_tuple (tup_base F hm) (by simp [h8]) (by simpa [h8] using h)
end
theorem sibOf_length (N : List (List UInt8)) (c : Nat → List UInt8) (k l : Nat) : (sibOf N c k l).length = 32 := nameIn_length _ _



noncomputable def JCalc (w : World) (f d : Addr) (k : Nat) (sib : Nat → List UInt8) (v : List UInt8) (N₀ : List (List UInt8)) (i : Nat) (m : Str → Option Value) (nx : List (Addr × Obj)) : Prop :=
  ∃ (N : List (List UInt8)) (hh : List UInt8) (on : Obj) (z zp : Int) (t1 t2 t3 : Tok),
    CalcRun k sib v N₀ i N hh ∧ NamesObj w on N ∧ nx = [(d, on)] ∧
    m (Str.ofString "node_hash") = some (.bytes hh.toArray t1) ∧ m (Str.ofString "path") = some (.int zp t2) ∧ m (Str.ofString "target_bit") = some (.int z t3) ∧ m (Str.ofString "keccak") = some (.ref f) ∧
    zp = k ∧ z = 2 ^ i ∧ N.length ≤ N₀.length + i + 1 ∧ hh.length = 32

theorem calc_spec {w : World} {dp un : Nat} {gd : Option (List Code)} {cn : Str} {cs : Scope} {a : Addr} {ccd : Value} {cl : List (Str × Addr)} {outer : List Env} {A₀ : Around} {base h₀ : Heap} {L : Addr} {m : Str → Option Value}
    {p : Program} {loose : List Str} {mean : ExcName → Option Value} {mg mb : Str → Option Value} {s : Shared} {Q E : Value → Shared → Prop}
    {br f d : Addr} {on : Obj} {vs : List Value} {N : List (List UInt8)} {sib : Nat → List UInt8} {v : List UInt8} {k : Nat} {t tv : Tok}
    (B : Below A₀ base outer h₀) (F : Fr h₀ L s.heap m) (X : (K39 w.params).In h₀) (T : Top p loose mean mg mb h₀) (hk : cs.kind = .function) (hdp : dp + 16 < recursionLimit)
    (Nw : News h₀ L s.heap [(d, on)]) (hbr : s.heap.get? br = some (tupObj vs)) (lo : (d == sysModules) = false) (nf : NF s.heap f d)
    (hon : NamesObj w on N) (hN : N.length < 50000) (hk8 : k < 256) (hb : BytesAre vs ((List.range 8).map sib)) (hsl : ∀ i, i < 8 → (sib i).length = 32)
    (ret : ∀ h' tk' N' hh on' t', CalcRun k sib v N 8 N' hh → Kept [d] s.heap h' → h'.get? d = some on' → NamesObj w on' N' → Q (.bytes hh.toArray t') { s with heap := h', toks := tk' }) :
    wpAny (model PG w) (ktrTop dp un gd cn cs L a ccd cl outer) (call (.ref 76) [.bytes (keyB k).toArray t, .bytes v.toArray tv, .ref br, .ref f]) Q E s := by
  have hkb := keyB_ints hk8
  refine wpAny_call ?_
  refine' enterK B F X Nw T rfl rfl hk ?ho ?hcd (by show dp < recursionLimit; omega) ?hb ?hl (fun g L' h₁ F' N' B' X' T' kept => ?_) ?hcell ?c1 ?c2 ?c3
  case ho => k_is
  case hcd => k_is
  case hb => exact BindsTo.of_eq rfl
  case hl => exact locs rfl
  case hcell => decide
  case c1 => rfl
  case c2 => rfl
  case c3 => rfl
  have nf' : NF g f d := by
    obtain ⟨q, doc, pm, c, cel, ct, oc, hf, ⟨c', oc', vs', t', e', hc', hd', hv'⟩, hcel, hcd⟩ := nf
    have off : ∀ b o, s.heap.get? b = some o → (∀ es n, o.data ≠ .dict es n) → (∀ xs n, o.data ≠ .seq xs n) → g.get? b = some o := fun b o e h1 h2 => kept b o e (fun hb => by
      simp only [List.map_cons, List.map_nil, List.mem_cons, List.not_mem_nil, or_false] at hb
      obtain ⟨kk, ⟨es2, ep2, he2, hdd2, _⟩, _⟩ := hon
      subst hb
      have := (Nw _ (.head _)).1; rw [e] at this; cases this; exact h1 _ _ hdd2)
    exact ⟨q, doc, pm, c, cel, ct, oc, off _ _ hf (fun _ _ e => nomatch e) (fun _ _ e => nomatch e), ⟨c', oc', vs', t', e', off _ _ hc' (fun _ _ e => by rw [hd'] at e; cases e) (fun _ _ e => by rw [hd'] at e; cases e), hd', hv'⟩, off _ _ hcel (fun _ _ e => by rw [hcd] at e; cases e) (fun _ _ e => by rw [hcd] at e; cases e), hcd⟩
  clear nf
  have hbr' : g.get? br = some (tupObj vs) := kept _ _ hbr (fun hb => by
    simp only [List.map_cons, List.map_nil, List.mem_cons, List.not_mem_nil, or_false] at hb
    subst hb
    obtain ⟨kk, ⟨es2, ep2, he2, hdd2, _⟩, _⟩ := hon
    have := (Nw _ (.head _)).1; rw [hbr] at this; cases this; cases hdd2)
  clear hbr
  have hl8 := hb.length
  rw [List.length_map, List.length_range] at hl8
  try dsimp only
  try k_fold
  repeat' (first | (k_here; (with_reducible show wpAny _ _ (call (Value.type _) [Value.ref _]) _ _ _); k_dflt (refine' krv_tuple ?r18F ?r18N ?r18l ?r18z ?_; (case r18F => k_asm); (case r18N => k_asm); (case r18l => exact tup_base (by k_asm) (by assumption)); (case r18z => omega)); intro D' h' k' F' N' l1 l2; (try k_lt l1); (try k_sweep)) | (k_here; (with_reducible show wpAny _ _ (call (Value.builtin "len") [Value.ref _]) _ _ _); k_dflt (refine' len8 ?r17N ?r17p ?r17l ?_; (case r17N => k_asm); (case r17p => first | assumption | exact Fr.keep (by assumption) _ _ (by assumption)); (case r17l => first | assumption | omega))) | (k_here; (with_reducible show wpAny _ _ (execs _ _) _ _ _); dsimp only; walk1) | (k_here; (with_reducible show wpAny _ _ (call (Value.ref _) [Value.bytes (List.toArray _) _]) _ _ _); k_dflt (refine' name_of_spec ?r13B ?r13F ?r13X ?r13T ?r13hk ?r13dp ?r13nf ?r13N ?r13lo ?r13ho ?r13len ?_; (case r13nf => exact NF.keeps (by assumption) (Fr.keep (by assumption))); (case r13B => k_asm); (case r13F => k_asm); (case r13X => k_asm); (case r13T => k_asm); (case r13hk => exact rfl); (case r13dp => ((try simp only [depth_deeper, depth_in1, depth_under_make]); (try dsimp only [ktrTop]); omega)); (case r13ho => k_asm); (case r13N => exact news1 (by k_asm) (by k_mem)); (case r13lo => k_asm); (case r13len => omega)); intro h' t' tk' o' n' K' g' ho' hn'; (obtain ⟨F', N'⟩ := named1 (by k_asm) (by k_asm) (by k_updF) K' g'); (try dsimp only at N'); clear K' g'; (have hn2 := addName_eq hn'); (subst hn2); (clear hn'); (try k_sweep)) | (k_here; (with_reducible show wpAny _ _ (callWith _ (Value.ref _) _ _ _) _ _ _); k_dflt (refine' callWith_F ?r12k1 ?_; (case r12k1 => exact NF.fnAt (NF.keeps (by assumption) (Fr.keep (by assumption)))); k_whole)) | ((with_reducible show FnAt _ _ ∧ _); k_dflt (refine ⟨NF.fnAt (NF.keeps (by assumption) (Fr.keep (by assumption))), ?_⟩); (try dsimp only [List.nil_append, List.cons_append])) | (k_here; (with_reducible show wpAny _ _ (call (Value.builtin "len") [Value.bytes (List.toArray (keyB _)) _]) _ _ _); (refine len_key (by assumption) ?_)) | (k_here; (with_reducible show wpAny _ _ (pyIter (Value.ref _)) (fun it s₂ => LoopAtV _ _ _ _ _ _ _ _ _ it s₂) _ _); (refine halt ?_)) | (k_unfold; (try dsimp only)) | walk1 | (dsimp only; walk1) | (leave1; (try dsimp only)))
  rename News g L' _ _ => NR
  rename Fr g L' _ _ => FR
  rename NamesObj w _ _ => HO
  have NL := news1 NR (.tail _ (.tail _ (.head _)))
  refine' loop_rv (JCalc w f d k sib v N) rfl FR (news1 NR (.head _)) (tup_base FR hbr') ?htL ?htI (by omega) hb NL ?hnI ?hnt
    ⟨_, _, _, _, _, _, _, _, .zero, HO, rfl, rfl, rfl, rfl, rfl, by omega, by decide, by have := addName_length N v; omega, nameIn_length _ _⟩ ?turn ?done
  case htL => intro q; have := FR.above; have := Heap.lt_size hbr'; rw [q] at this; exact absurd this (Nat.not_lt_of_le FR.above)
  case htI => intro q; have := (NR _ (.head _)).2.2; rw [← q, hbr'] at this; cases this
  case hnI => k_all
  case hnt => exact List.forall_mem_cons.mpr ⟨fun q => (by
      have := (NR _ (.tail _ (.tail _ (.head _)))).2.2
      have q : d = br := q
      rw [q, hbr'] at this; cases this), List.forall_mem_nil _⟩
  case turn =>
    rintro i y ty m₁ news₁ h tk own hi hy hoff ⟨N1, hh, on1, z, zp, t1, t2, t3, hrun, hon1, rfl, e1, e2, e3, e4, hzp, hz, hNl, hhl⟩ F1 N1'
    rw [List.length_map, List.length_range] at hi
    have hyl : y.length = 32 := by
      rw [rev_sib hi hy]
      exact hsl _ (by omega)
    have F2 := Fr.knownX F1 [(Str.ofString "node_hash", _), (Str.ofString "path", _), (Str.ofString "target_bit", _), (Str.ofString "keccak", _)]
      (List.forall_mem_cons.mpr ⟨e1, List.forall_mem_cons.mpr ⟨e2, List.forall_mem_cons.mpr ⟨e3, List.forall_mem_cons.mpr ⟨e4, List.forall_mem_nil _⟩⟩⟩⟩)
      (List.forall_mem_cons.mpr ⟨ne_lit (by decide), List.forall_mem_cons.mpr ⟨ne_lit (by decide), List.forall_mem_cons.mpr ⟨ne_lit (by decide), List.forall_mem_cons.mpr ⟨ne_lit (by decide), List.forall_mem_nil _⟩⟩⟩⟩)
    clear F1 e1 e2 e3 e4 FR NR NL HO
    simp only [List.cons_append, List.nil_append] at N1'
    simp only [List.map_cons, List.map_nil] at hoff
    have hz64 : z.natAbs < 2 ^ 64 := by rw [hz]; exact maskL_small hi
    try k_fold
    repeat' (first | (k_here; (with_reducible show wpAny _ _ (execs _ _) _ _ _); dsimp only; walk1) | (k_here; (with_reducible show wpAny _ _ (call (Value.ref _) [Value.bytes (List.toArray _) _]) _ _ _); k_dflt (refine' name_of_spec ?r13B ?r13F ?r13X ?r13T ?r13hk ?r13dp ?r13nf ?r13N ?r13lo ?r13ho ?r13len ?_; (case r13nf => exact NF.keeps (by assumption) (Fr.keep (by assumption))); (case r13B => k_asm); (case r13F => k_asm); (case r13X => k_asm); (case r13T => k_asm); (case r13hk => exact rfl); (case r13dp => ((try simp only [depth_deeper, depth_in1, depth_under_make]); (try dsimp only [ktrTop]); omega)); (case r13ho => k_asm); (case r13N => exact news1 (by k_asm) (by k_mem)); (case r13lo => k_asm); (case r13len => omega)); intro h' t' tk' o' n' K' g' ho' hn'; (obtain ⟨F', N'⟩ := named1 (by k_asm) (by k_asm) (by k_updF) K' g'); (try dsimp only at N'); clear K' g'; (have hn2 := addName_eq hn'); (subst hn2); (clear hn'); (try k_sweep)) | (k_here; (with_reducible show wpAny _ _ (callWith _ (Value.ref _) _ _ _) _ _ _); k_dflt (refine' callWith_F ?r12k1 ?_; (case r12k1 => exact NF.fnAt (NF.keeps (by assumption) (Fr.keep (by assumption)))); k_whole)) | ((with_reducible show FnAt _ _ ∧ _); k_dflt (refine ⟨NF.fnAt (NF.keeps (by assumption) (Fr.keep (by assumption))), ?_⟩); (try dsimp only [List.nil_append, List.cons_append])) | (k_here; (with_reducible show wpAny _ _ (inplaceOp Operator.LShift (Value.int _ _) (Value.int _ _)) _ _ _); (refine ilshift_int_small (by decide) (by decide) (by assumption) ?_)) | (k_here; (with_reducible show wpAny _ _ (binaryOp Operator.Add (Value.bytes _ _) (Value.bytes _ _)) _ _ _); k_dflt (refine add_l (by (try simp only [nameIn_length]); omega) ?_); intro _ _) | (with_reducible refine haltInv ?_) | (k_unfold; (try dsimp only)) | walk1 | (dsimp only; walk1) | (leave1; (try dsimp only)))
    all_goals (
      rename Fr g L' _ _ => FE
      rename News g L' _ _ => NE
      rename NamesObj w _ _ => HO)
    · subst hzp hz
      have R := CalcRun.one hrun (bitL_one (by assumption))
      rw [← rev_sib hi hy] at R
      refine invEnd [] [_] FE NE rfl ⟨_, _, _, _, _, _, _, _, R, HO, rfl, rfl, rfl, rfl, rfl, rfl, maskL_step, ?_, ?_⟩
      · have := addName_length N1 (y ++ hh); omega
      · exact nameIn_length _ _
    · subst hzp hz
      have R := CalcRun.nul hrun (bitL_zero (by assumption))
      rw [← rev_sib hi hy] at R
      refine invEnd [] [_] FE NE rfl ⟨_, _, _, _, _, _, _, _, R, HO, rfl, rfl, rfl, rfl, rfl, rfl, maskL_step, ?_, ?_⟩
      · have := addName_length N1 (hh ++ y); omega
      · exact nameIn_length _ _
  case done =>
    rintro m₁ nx h tk ⟨N1, hh, on1, z, zp, t1, t2, t3, hrun, hon1, rfl, e1, e2, e3, e4, hzp, hz, hNl, hhl⟩ F1 N1'
    have F2 := Fr.known F1 [(Str.ofString "node_hash", _)]
      (List.forall_mem_cons.mpr ⟨e1, List.forall_mem_nil _⟩)
    clear F1 e1 e2 e3 e4 FR NR NL HO
    rw [List.length_map, List.length_range] at hrun
    try dsimp only
    try k_fold
    repeat' (first  | (k_unfold; (try dsimp only)) | walk1 | (dsimp only; walk1) | (leave1; (try dsimp only)))
    rename Fr g L' _ _ => FE
    rename News g L' _ _ => NE
    with_reducible refine' ret _ _ _ _ _ _ hrun ?r1 ?r2 hon1
    case r2 => exact (NE _ (.head _)).1
    case r1 => exact kept_but [d] kept FE.keep Nw (List.forall_mem_cons.mpr ⟨fun hh => absurd (.head _) hh, List.forall_mem_nil _⟩)
end sMG
section sMH
-- room
-- where the walk halts


-- dicts keyed by octets


-- lists

-- octets



-- reversed(t)

-- tuple(reversed(xs))

-- name_of



-- _get




section
variable {prog : Program} {w : World} {A : Around} {E : Value → Shared → Prop} {s : Shared} {h₀ : Heap} {L d : Addr} {m : Str → Option Value} {news : List (Addr × Obj)}
theorem list8 {b : Addr} {vs : List Value} {Q : Value → Shared → Prop} (F : Fr h₀ L s.heap m) (N : News h₀ L s.heap news) (ht : IsTup s.heap b vs.toArray) (hz : vs.length ≤ 1000)
    (h : ∀ D c h', Fr h₀ L h' m → News h₀ L h' ((D, W.listOf vs.toArray c) :: news) → (∀ q ∈ news, q.1 < D) → Q (.ref D) { s with heap := h' }) : wpAny (model prog w) A (call (.type "list") [.ref b]) Q E s :=
  list_copyKT F N ht h (by rw [List.size_toArray, sizeLine_eq]; omega)
end



noncomputable abbrev proofAttrs (P : Params) (τ : Nat → Tok) (k : Nat) (v : List UInt8) (lb f : Addr) : List DictEntry :=
  [⟨PyData.keyHash P (Str.ofString "_key"), .str (Str.ofString "_key") (τ 0), .bytes (keyB k).toArray (τ 1)⟩,
   ⟨PyData.keyHash P (Str.ofString "_key_size"), .str (Str.ofString "_key_size") (τ 2), .int 1 (τ 3)⟩,
   ⟨PyData.keyHash P (Str.ofString "_value"), .str (Str.ofString "_value") (τ 4), .bytes v.toArray (τ 5)⟩,
   ⟨PyData.keyHash P (Str.ofString "_branch"), .str (Str.ofString "_branch") (τ 6), .ref lb⟩,
   ⟨PyData.keyHash P (Str.ofString "_branch_size"), .str (Str.ofString "_branch_size") (τ 7), .int 8 (τ 8)⟩,
   ⟨PyData.keyHash P (Str.ofString "hash_of"), .str (Str.ofString "hash_of") (τ 9), .ref f⟩]

theorem proof_spec {w : World} {dp un : Nat} {gd : Option (List Code)} {cn : Str} {cs : Scope} {a : Addr} {ccd : Value} {cl : List (Str × Addr)} {outer : List Env} {A₀ : Around} {base h₀ : Heap} {L : Addr} {m : Str → Option Value}
    {p : Program} {loose : List Str} {mean : ExcName → Option Value} {mg mb : Str → Option Value} {s : Shared} {Q E : Value → Shared → Prop}
    {f br : Addr} {vs : List Value} {v : List UInt8} {k : Nat} {t1 t2 : Tok}
    (B : Below A₀ base outer h₀) (F : Fr h₀ L s.heap m) (X : (K39 w.params).In h₀) (T : Top p loose mean mg mb h₀) (hk : cs.kind = .function) (hdp : dp + 16 < recursionLimit)
    (hbr : s.heap.get? br = some (tupObj vs)) (h8 : vs.length = 8) (hk8 : k < 256)
    (ret : ∀ h' x dx lb tk' n τ', Kept [] s.heap h' → h'.get? x = some (instObj 132 dx) → h'.get? dx = some (dictOf (proofAttrs w.params τ' k v lb f) 6) →
      h'.get? lb = some (W.listOf vs.toArray n) → s.heap.get? x = none → s.heap.get? dx = none → s.heap.get? lb = none →
      @LT.lt Nat _ dx x ∧ @LT.lt Nat _ x lb → (∀ b o, s.heap.get? b = some o → @LT.lt Nat _ b dx) → Q (.ref x) { s with heap := h', toks := tk' }) :
    wpAny (model PG w) (ktrTop dp un gd cn cs L a ccd cl outer) (call (.ref 132) [.bytes (keyB k).toArray t1, .bytes v.toArray t2, .ref br, .ref f]) Q E s := by
  have hkb := keyB_ints hk8
  refine' make_S (K := K39 w.params) F (List.forall_mem_nil _) X ?m1 ?m2 ?m3 ?_
  case m1 => k_is
  case m2 => k_is
  case m3 => k_is
  intro x dx hh F₁ N₁ st dxn xn lt1 lt2
  refine' enterK B F₁ X N₁ T rfl rfl hk ?ho ?hcd (by show dp + 1 < recursionLimit; omega) ?hb ?hl (fun g L' h₁ F' N' B' X' T' kept => ?_) ?hcell ?c1 ?c2 ?c3
  case ho => k_is
  case hcd => k_is
  case hb => exact BindsTo.of_eq rfl
  case hl => exact locs rfl
  case hcell => decide
  case c1 => rfl
  case c2 => rfl
  case c3 => rfl
  have hbr' : g.get? br = some (tupObj vs) := kept _ _ (st _ _ hbr) (fun hb => by
    simp only [List.map_cons, List.map_nil, List.mem_cons, List.not_mem_nil, or_false] at hb
    rcases hb with rfl | rfl
    · rw [xn] at hbr; cases hbr
    · rw [dxn] at hbr; cases hbr)
  try dsimp only
  try k_fold
  repeat' (first | (k_here; (with_reducible show wpAny _ _ (call (Value.builtin "len") [Value.ref _]) _ _ _); k_dflt (refine' len8 ?r18N ?r18p ?r18l ?_; (case r18N => k_asm); (case r18p => first | assumption | exact Fr.keep (by assumption) _ _ (by assumption)); (case r18l => first | assumption | omega))) | (k_here; (with_reducible show wpAny _ _ (call (Value.type _) [Value.ref _]) _ _ _); k_dflt (refine' list8 ?r17F ?r17N ?r17b ?r17z ?_; (case r17F => k_asm); (case r17N => k_asm); (case r17b => exact tup_base (by k_asm) (by assumption)); (case r17z => omega)); intro D' c' h' F' N' l1; (try k_lt l1); (try k_sweep)) | (k_here; (with_reducible show wpAny _ _ (execs _ _) _ _ _); dsimp only; walk1) | (k_here; (with_reducible show wpAny _ _ (call (Value.builtin "len") [Value.bytes (List.toArray (keyB _)) _]) _ _ _); (refine len_key (by assumption) ?_)) | (k_unfold; (try dsimp only)) | walk1 | (dsimp only; walk1) | (leave1; (try dsimp only)))
  rename Fr g L' _ _ => FE
  rename News g L' _ _ => NE
  rename LtAll [_, _] _ => HL
  with_reducible refine' ret _ x dx _ _ _ (tok10 _ _ _ _ _ _ _ _ _ _) ?r1 ?r2 ?r3 ?r4 xn dxn ?r9 ⟨lt2, HL.lt (List.Mem.head _)⟩ lt1
  case r2 => exact (NE _ (.tail _ (.head _))).1
  case r3 => exact (NE _ (.tail _ (.tail _ (.head _)))).1
  case r4 => exact (NE _ (.head _)).1
  case r1 =>
    intro b o e _
    refine FE.keep _ _ (kept _ _ (st _ _ e) ?_)
    simp only [List.map_cons, List.map_nil, List.mem_cons, List.not_mem_nil, or_false]
    rintro (rfl | rfl)
    · rw [xn] at e; cases e
    · rw [dxn] at e; cases e
  case r9 =>
    have e1 := fresh_of kept (NE _ (.head _)).2.2 (List.forall_mem_cons.mpr ⟨HL.ne' (List.Mem.head _), List.forall_mem_cons.mpr ⟨HL.ne' (List.Mem.tail _ (List.Mem.head _)), List.forall_mem_nil _⟩⟩)
    match q : s.heap.get? _ with
    | none => rfl
    | some o => rw [st _ _ q] at e1; cases e1
end sMH
section sMI
-- room
-- where the walk halts


-- dicts keyed by octets


-- lists

-- octets



-- reversed(t)

-- tuple(reversed(xs))

-- name_of



-- _get




section
variable {prog : Program} {w : World} {A : Around} {E : Value → Shared → Prop} {s : Shared} {h₀ : Heap} {L D : Addr} {m : Str → Option Value} {news news' : List (Addr × Obj)}
theorem set_at {vs : List Value} {n : Nat} {k : Int} {t : Tok} {x : Value} {Q : Unit → Shared → Prop} (F : Fr h₀ L s.heap m) (N : News h₀ L s.heap news) (U : Upd D (W.listOf vs.toArray n) (W.listOf (vs.set k.toNat x).toArray n) news news') (h0 : 0 ≤ k) (h1 : k < vs.length) (hfit : k < 2 ^ 63)
    (h : ∀ h', Fr h₀ L h' m → News h₀ L h' news' → Q () { s with heap := h' }) : wpAny (model prog w) A (setItem (.ref D) (.int k t) x) Q E s := by
  obtain ⟨pre, post, rfl, rfl, a, b⟩ := U.split
  have z := N (D, W.listOf vs.toArray n) (List.mem_append.mpr (.inr (.head _)))
  have hs : vs.toArray.size = vs.length := by rw [List.size_toArray]
  refine ki_setAt z.1 h0 hfit (by omega) (h _ (F.change (Heap.SameBut.update ..) z.2.1 z.2.2) (ki_turn _ N a b ?_ ?_))
  · show vs.toArray.setIfInBounds k.toNat x = (vs.set k.toNat x).toArray
    apply Array.toList_inj.mp
    simp
  · simp
theorem tup_item {value slice : PySem.Expr} {a : Addr} {us : List Value} {k : Int} {u : Tok} {Q : Value → Shared → Prop} (F : Fr h₀ L s.heap m) (hm : h₀.get? a = some (tupObj us)) (h0 : 0 ≤ k) (h1 : k < us.length) (hfit : k < 2 ^ 63) (h : ∀ x, us[k.toNat]? = some x → Q x s)
    (hs : subscripted slice false (.ref a) (.int k u) = operate [.ref a, .int k u] (getItem (.ref a) (.int k u)) := by with_unfolding_all rfl) : wpAny (model prog w) A (subscriptTail value slice (.ref a) (.int k u)) Q E s := by
  have ht := tup_base F hm
  have hlt : k.toNat < us.length := by omega
  refine tail_any ht.typeIs slot_tuple_getitem.lookup (getItem_tuple (j := k.toNat) (x := us[k.toNat]) ht (by omega) hfit (by
    have h2 : ¬ (k < 0) := by omega
    simp [seqIndex?, h2, h0, h1]) (by simp [hlt]) (h _ (List.getElem?_eq_getElem hlt))) hs
end





noncomputable def JUpd (px dpx lb f ua : Addr) (P : Params) (τ : Nat → Tok) (k j l n : Nat) (v : List UInt8) (vs : List Value) (i : Nat) (m : Str → Option Value) (nx : List (Addr × Obj)) : Prop :=
  ∃ (z : Int) (t1 : Tok), m (Str.ofString "path_diff") = some (.int z t1) ∧ m (Str.ofString "self") = some (.ref px) ∧ m (Str.ofString "node_updates") = some (.ref ua) ∧ nx = [(px, instObj 132 dpx), (dpx, dictOf (proofAttrs P τ k v lb f) 6), (lb, W.listOf vs.toArray n)] ∧ z = Builtin.bitXor (k : Int) (j : Int) ∧ i ≤ l

theorem update_spec {w : World} {dp un : Nat} {gd : Option (List Code)} {cn : Str} {cs : Scope} {a : Addr} {ccd : Value} {cl : List (Str × Addr)} {outer : List Env} {A₀ : Around} {base h₀ : Heap} {L : Addr} {m : Str → Option Value}
    {p : Program} {loose : List Str} {mean : ExcName → Option Value} {mg mb : Str → Option Value} {s : Shared} {Q E : Value → Shared → Prop}
    {f px dpx lb ua : Addr} {vs : List Value} {v v' : List UInt8} {k j n l : Nat} {t1 t2 : Tok} {τ : Nat → Tok}
    (B : Below A₀ base outer h₀) (F : Fr h₀ L s.heap m) (X : (K39 w.params).In h₀) (T : Top p loose mean mg mb h₀) (hk : cs.kind = .function) (hdp : dp + 16 < recursionLimit)
    (Nw : News h₀ L s.heap [(px, instObj 132 dpx), (dpx, dictOf (proofAttrs w.params τ k v lb f) 6), (lb, W.listOf vs.toArray n)]) (hv8 : vs.length = 8) (hk8 : k < 256) (hj8 : j < 256)
    (ord : @LT.lt Nat _ dpx px ∧ @LT.lt Nat _ px lb)
    (hs : j = k → ∀ h' tk' τ', Kept [dpx] s.heap h' → h'.get? dpx = some (dictOf (proofAttrs w.params τ' k v' lb f) 6) → Q .none { s with heap := h', toks := tk' })
    (hd : j ≠ k → l < 8 ∧ k / 2 ^ (7 - l) % 2 ≠ j / 2 ^ (7 - l) % 2 ∧ (∀ b, 7 - l < b → b < 8 → k / 2 ^ b % 2 = j / 2 ^ b % 2) ∧ ∃ us u, s.heap.get? ua = some (tupObj us) ∧ us.length = 8 ∧ us[l]? = some u ∧
      ∀ h' tk', Kept [lb] s.heap h' → h'.get? lb = some (W.listOf (vs.set l u).toArray n) → Q .none { s with heap := h', toks := tk' }) :
    wpAny (model PG w) (ktrTop dp un gd cn cs L a ccd cl outer) (call (.ref 129) [.ref px, .bytes (keyB j).toArray t1, .bytes v'.toArray t2, .ref ua]) Q E s := by
  have hkb := keyB_ints hk8
  have hjb := keyB_ints hj8
  refine wpAny_call ?_
  refine' enterK B F X Nw T rfl rfl hk ?ho ?hcd (by show dp < recursionLimit; omega) ?hb ?hl (fun g L' h₁ F' N' B' X' T' kept => ?_) ?hcell ?c1 ?c2 ?c3
  case ho => k_is
  case hcd => k_is
  case hb => exact BindsTo.of_eq rfl
  case hl => exact locs rfl
  case hcell => decide
  case c1 => rfl
  case c2 => rfl
  case c3 => rfl
  try dsimp only
  try k_fold
  repeat' (first | (k_here; (with_reducible show wpAny _ _ (call (Value.type _) [Value.ref _]) _ _ _); k_dflt (refine' krev8 ?r18F ?r18N ?r18l ?_; (case r18F => k_asm); (case r18N => k_asm); (case r18l => assumption)); intro D' h' F' N' l1; (try k_lt l1); (try k_sweep)) | (k_here; (with_reducible show wpAny _ _ (execs _ _) _ _ _); dsimp only; walk1) | (k_here; (with_reducible show wpAny _ _ (call (Value.builtin "len") [Value.bytes (List.toArray (keyB _)) _]) _ _ _); (refine len_key (by assumption) ?_)) | (k_here; (with_reducible show wpAny _ _ (pyIter (Value.ref _)) (fun it s₂ => LoopAtV _ _ _ _ _ _ _ _ _ it s₂) _ _); (refine halt ?_)) | (k_unfold; (try dsimp only)) | walk1 | (dsimp only; walk1) | (leave1; (try dsimp only)))
  · rename (Builtin.bitXor _ _ = 0) => hx
    rename Fr g L' _ _ => FE
    rename News g L' _ _ => NE
    have e : j = k := xor_zero (by simpa using hx)
    with_reducible refine' hs e _ _ (tok10 (τ 0) (τ 1) (τ 2) (τ 3) (τ 4) _ (τ 6) (τ 7) (τ 8) (τ 9)) ?r1 ?r2
    case r2 => exact (NE _ (.tail _ (.tail _ (.tail _ (.head _))))).1
    case r1 => exact kept_but [dpx] kept FE.keep Nw (List.forall_mem_cons.mpr ⟨fun _ => (NE _ (.tail _ (.tail _ (.head _)))).1, List.forall_mem_cons.mpr ⟨fun hh => absurd (.head _) hh, List.forall_mem_cons.mpr ⟨fun _ => (NE _ (.tail _ (.tail _ (.tail _ (.tail _ (.head _)))))).1, List.forall_mem_nil _⟩⟩⟩)
  · rename (Builtin.bitXor _ _ ≠ 0) => hx
    rename Fr g L' _ _ => FR
    rename News g L' _ _ => NR
    have hne : j ≠ k := fun e => hx (by rw [e]; simpa using bitXor_self (k : Int))
    obtain ⟨hl8, hbit, hhigh, us, u, hua, hus, hul, fin⟩ := hd hne
    clear hs hd
    have hua' : g.get? ua = some (tupObj us) := kept _ _ hua (fun hb => by
      simp only [List.map_cons, List.map_nil, List.mem_cons, List.not_mem_nil, or_false] at hb
      rcases hb with rfl | rfl | rfl
      · have := (Nw _ (.head _)).1; rw [hua] at this; cases this
      · have := (Nw _ (.tail _ (.head _))).1; rw [hua] at this; exact absurd (congrArg Obj.cls (Option.some.inj this)) (show Value.type "tuple" ≠ Value.type "dict" by decide)
      · have := (Nw _ (.tail _ (.tail _ (.head _)))).1; rw [hua] at this; exact absurd (congrArg Obj.cls (Option.some.inj this)) (show Value.type "tuple" ≠ Value.type "list" by decide))
    have NL : News g L' _ [(px, instObj 132 dpx), (dpx, dictOf (proofAttrs w.params τ k v lb f) 6), (lb, W.listOf vs.toArray n)] := fun q hq => NR q (.tail _ (.tail _ (.tail _ hq)))
    refine' loop_rev8 (JUpd px dpx lb f ua w.params τ k j l n v vs) rfl FR (news1 NR (.head _)) NL ?hnI ⟨_, _, rfl, rfl, rfl, rfl, by simp, Nat.zero_le _⟩ ?turn ?done
    case hnI => k_all
    case done =>
      rintro m₁ nx h tk ⟨z, t1', e1, e2, e3, rfl, hz, hil⟩ F1 N1'
      omega
    case turn =>
      rintro i t m₁ nx h tk own hi hoff ⟨z, t1', e1, e2, e3, rfl, hz, hil⟩ F1 N1'
      have F2 := Fr.knownX F1 [(Str.ofString "path_diff", _), (Str.ofString "self", _), (Str.ofString "node_updates", _)]
        (List.forall_mem_cons.mpr ⟨e1, List.forall_mem_cons.mpr ⟨e2, List.forall_mem_cons.mpr ⟨e3, List.forall_mem_nil _⟩⟩⟩)
        (List.forall_mem_cons.mpr ⟨ne_lit (by decide), List.forall_mem_cons.mpr ⟨ne_lit (by decide), List.forall_mem_cons.mpr ⟨ne_lit (by decide), List.forall_mem_nil _⟩⟩⟩)
      clear F1 e1 e2 e3 FR NR NL
      simp only [List.cons_append, List.nil_append] at N1'
      simp only [List.map_cons, List.map_nil] at hoff
      try k_fold
      repeat' (first | (k_here; (with_reducible show wpAny _ _ (execs _ _) _ _ _); dsimp only; walk1) | (with_reducible refine haltInv ?_) | (k_unfold; (try dsimp only)) | walk1 | (dsimp only; walk1) | (leave1; (try dsimp only)))
      · dsimp only [Halt, InvPostN]
        repeat' (first | (k_here; (with_reducible show wpAny _ _ (setItem (Value.ref _) (Value.int _ _) _) _ _ _); k_dflt (refine' set_at ?r20F ?r20N ?r20U ?r20a ?r20b ?r20c ?_; (case r20F => k_asm); (case r20N => k_asm); (case r20U => k_upd); (case r20a => omega); (case r20b => omega); (case r20c => omega)); intro h' F' N'; (try k_sweep)) | (k_here; (with_reducible show wpAny _ _ (subscriptTail _ _ (Value.ref _) (Value.int _ _)) _ _ _); k_dflt (refine' tup_item ?r19F ?r19p ?r19a ?r19b ?r19c ?_ ?r19d; (case r19F => k_asm); (case r19p => assumption); (case r19a => omega); (case r19b => omega); (case r19c => omega); (case r19d => with_unfolding_all rfl)); intro _ _) | (k_here; (with_reducible show wpAny _ _ (call (Value.builtin "len") [Value.ref _]) _ _ _); k_dflt (refine' len8 ?r17N ?r17p ?r17l ?_; (case r17N => k_asm); (case r17p => first | assumption | exact Fr.keep (by assumption) _ _ (by assumption)); (case r17l => first | assumption | omega))) | (k_here; (with_reducible show wpAny _ _ (execs _ _) _ _ _); dsimp only; walk1) | (k_unfold; (try dsimp only)) | walk1 | (dsimp only; walk1) | (leave1; (try dsimp only)))
        rename Fr g L' _ _ => FE
        rename News g L' _ _ => NE
        rename (0 < Builtin.bitAnd _ _) => hb
        rename (us[_]? = some _) => hux
        rw [hz, show (1 : Int) * 2 ^ (7 - (i : Int)).toNat = 2 ^ (7 - i) by rw [Int.one_mul, show (7 - (i : Int)).toNat = 7 - i by omega]] at hb
        have hdif := bitX_pos hb
        have hieq : i = l := by
          rcases Nat.lt_or_ge i l with q | q
          · exact absurd (hhigh (7 - i) (by omega) (by omega)) hdif
          · omega
        subst hieq
        rw [show (8 - 1 - (7 - (i : Int))).toNat = i by omega] at hux NE
        rw [hul] at hux
        cases hux
        with_reducible refine' fin _ _ ?r1 ?r2
        case r2 => exact (NE _ (.tail _ (.tail _ (.head _)))).1
        case r1 => exact kept_but [lb] kept FE.keep Nw (List.forall_mem_cons.mpr ⟨fun _ => (NE _ (.head _)).1, List.forall_mem_cons.mpr ⟨fun _ => (NE _ (.tail _ (.head _))).1, List.forall_mem_cons.mpr ⟨fun hh => absurd (.head _) hh, List.forall_mem_nil _⟩⟩⟩)
      · rename Fr g L' _ _ => FE
        rename News g L' _ _ => NE
        rename (¬ 0 < Builtin.bitAnd _ _) => hb
        rw [hz, show (1 : Int) * 2 ^ (7 - (i : Int)).toNat = 2 ^ (7 - i) by rw [Int.one_mul, show (7 - (i : Int)).toNat = 7 - i by omega]] at hb
        have hequ := bitX_nul hb
        refine invEnd [] [_, _, _] FE NE rfl ⟨_, _, rfl, rfl, rfl, rfl, hz, ?_⟩
        rcases Nat.lt_or_ge i l with q | q
        · omega
        · have : i = l := by omega
          subst this
          exact absurd hequ hbit
end sMI
section sLA
section
variable {prog : Program} {w : World} {A : Around} {E : Value → Shared → Prop} {s : Shared} {h₀ : Heap} {L a b l : Addr} {m : Str → Option Value} {news : List (Addr × Obj)} {vs ws : List Value} {ns ms : List Int} {Q : Value → Shared → Prop}
theorem slice15 {value slice : PySem.Expr} {x : Int} {tx : Tok} (F : Fr h₀ L s.heap m) (N : News h₀ L s.heap news) (hl : s.heap.IsList l vs.toArray) (hi : IntsAre vs ns) (h15 : ns.length = 15) (hx : 0 ≤ x)
    (h : ∀ D ws h', Fr h₀ L h' m → News h₀ L h' ((D, W.listOf (List.toArray ws) 0) :: news) → (∀ p ∈ news, p.1 < D) → IntsAre ws (ns.drop x.toNat) → (ns.drop x.toNat).length = 15 - x.toNat → Q (.ref D) { s with heap := h' })
    (hs : subscripted slice false (.ref l) (.ref s.heap.objs.size) = operate [.ref s.heap.objs.size, .ref l] (getItem (.ref l) (.ref s.heap.objs.size))) (ht : ∀ r, letTemporaryGo value (.ref l) r = pure ()) :
    wpAny (model prog w) A (subscriptTail value slice (.ref l) (.ref s.heap.objs.size)) Q E { s with heap := s.heap.push { cls := .type "slice", data := .fields #[.int x tx, .none, .none] } } :=
  kmk_slice_ints F N hl (IsPart.int _ _) IsPart.none hi (kmk_from hi hx) (by rw [List.length_drop, h15]) (fun D ws h' F' N' l1 hI hC _ => h D ws h' F' N' l1 hI hC) hs ht (by rw [List.size_toArray, hi.length, h15, sizeLine_eq]; exact Nat.le_of_ble_eq_true rfl)
theorem add15 (F : Fr h₀ L s.heap m) (N : News h₀ L s.heap news) (ha : s.heap.IsList a vs.toArray) (hb : s.heap.IsList b ws.toArray) (hi : IntsAre vs ns) (hj : IntsAre ws ms) (hlen : ns.length + ms.length = 15)
    (h : ∀ D h' us, Fr h₀ L h' m → News h₀ L h' ((D, W.listOf (List.toArray us) 0) :: news) → (∀ p ∈ news, p.1 < D) → IntsAre us (ns ++ ms) → (ns ++ ms).length = 15 → Q (.ref D) { s with heap := h' }) :
    wpAny (model prog w) A (binaryOp .Add (.ref a) (.ref b)) Q E s :=
  kmk_add_ints F N ha hb hi hj (fun D us h' F' N' l1 hI => h D h' us F' N' l1 hI (by rw [List.length_append]; exact hlen)) (by rw [hlen, sizeLine_eq]; exact Nat.le_of_ble_eq_true rfl)
theorem cell_P {value slice : PySem.Expr} {k : Int} {u : Tok} (hl : s.heap.IsList l vs.toArray) (hi : IntsAre vs ns) (h15 : ns.length = 15)
    (h0 : 0 ≤ k) (h1 : k < 15) (h : ∀ (z : Int) t, Q (.int z t) s)
    (hs : subscripted slice false (.ref l) (.int k u) = operate [.ref l, .int k u] (getItem (.ref l) (.int k u)) := by with_unfolding_all rfl) :
    wpAny (model prog w) A (subscriptTail value slice (.ref l) (.int k u)) Q E s := by
  have hlt : k.toNat < vs.length := by rw [hi.length]; omega
  obtain ⟨n, t, e⟩ := hi.all _ (List.getElem_mem hlt)
  exact tail_any hl.typeIs slot_list_getitem.lookup (wpAny_getItem_list hl h0 (by omega) (x := vs[k.toNat]) (by simp [hlt]) (by rw [e]; exact h n t)) hs
theorem slice3 {value slice : PySem.Expr} {tx ty : Tok} (F : Fr h₀ L s.heap m) (N : News h₀ L s.heap news) (hl : s.heap.IsList l vs.toArray) (hi : IntsAre vs ns) (h15 : ns.length = 15)
    (h : ∀ D ws h' ms, Fr h₀ L h' m → News h₀ L h' ((D, W.listOf (List.toArray ws) 0) :: news) → (∀ p ∈ news, p.1 < D) → IntsAre ws ms → ms.length = 3 → Q (.ref D) { s with heap := h' })
    (hs : subscripted slice false (.ref l) (.ref s.heap.objs.size) = operate [.ref s.heap.objs.size, .ref l] (getItem (.ref l) (.ref s.heap.objs.size))) (ht : ∀ r, letTemporaryGo value (.ref l) r = pure ()) :
    wpAny (model prog w) A (subscriptTail value slice (.ref l) (.ref s.heap.objs.size)) Q E { s with heap := s.heap.push { cls := .type "slice", data := .fields #[.int 1 tx, .int 4 ty, .none] } } :=
  kmk_slice_ints F N hl (IsPart.int _ _) (IsPart.int _ _) hi (kmk_run hi (by decide) (by decide)) (c := 3) (by rw [List.length_take, List.length_drop, h15]; decide) (fun D ws h' F' N' l1 hI hC _ => h D ws h' _ F' N' l1 hI hC) hs ht (by rw [List.size_toArray, hi.length, h15, sizeLine_eq]; exact Nat.le_of_ble_eq_true rfl)
theorem dflt_P {value slice : PySem.Expr} {k : Int} {u : Tok} (hl : s.heap.IsList l vs.toArray)
    (h0 : 0 ≤ k) (h1 : k < vs.length) (hfit : k < 2 ^ 63) (hv : ∀ v ∈ vs, ∃ (d : List UInt8) (t : Tok), v = .bytes d.toArray t ∧ d.length ≤ 2 ∧ d.length ≠ 1) (h : ∀ (d : List UInt8) t, d.length ≤ 2 → d.length ≠ 1 → Q (.bytes d.toArray t) s)
    (hs : subscripted slice false (.ref l) (.int k u) = operate [.ref l, .int k u] (getItem (.ref l) (.int k u)) := by with_unfolding_all rfl) :
    wpAny (model prog w) A (subscriptTail value slice (.ref l) (.int k u)) Q E s := by
  have hlt : k.toNat < vs.length := by omega
  obtain ⟨n, t, e, a, b⟩ := hv _ (List.getElem_mem hlt)
  exact tail_any hl.typeIs slot_list_getitem.lookup (wpAny_getItem_list hl h0 hfit (x := vs[k.toNat]) (by simp [hlt]) (by rw [e]; exact h n t a b)) hs
/-- the law's own name_of, from the ledger -/
noncomputable def NFat (f d : Addr) (fo : Obj) (c : Addr) (oc : Obj) (cl : Addr) (oo : Obj) : Prop := ∀ h : Heap, h.get? f = some fo → h.get? c = some oc → h.get? cl = some oo → NF h f d
theorem NFat.nf {h : Heap} {f d c cl : Addr} {fo oc oo : Obj} (x : NFat f d fo c oc cl oo) (N : News h₀ L h news) (m1 : (f, fo) ∈ news) (m2 : (c, oc) ∈ news) (m3 : (cl, oo) ∈ news) : NF h f d := x h (N.get m1) (N.get m2) (N.get m3)
theorem nf_at {f d c cl : Addr} {fo : Obj} {q : Str} {doc pm ct : Value} {oc oo : Obj} {vs' : Array Value} {t' : Tok}
    (hf : fo = fnMade (Str.ofString "name_of") q nmParams nmBody nmScope [(Str.ofString "names", cl)] doc pm c ct)
    (d1 : oc.data = .fields vs') (d2 : vs'[1]? = some (.str q t')) (d3 : oo.data = .cell (some (.ref d))) : NFat f d fo c oc cl oo :=
  fun _ e1 e2 e3 => ⟨q, doc, pm, c, cl, ct, oo, hf ▸ e1, ⟨c, oc, vs', t', rfl, e2, d1, d2⟩, e3, d3⟩
end
/-- a ledger on the way to its new form: S of it is turned -/
noncomputable def Way (h' : Heap) (news : List (Addr × Obj)) (S : List Addr) (l : List (Addr × Obj)) : Prop :=
  ∀ p ∈ l, (∃ o, (p.1, o) ∈ news) ∧ (h'.get? p.1 = some p.2 ∨ (p ∈ news ∧ p.1 ∉ S))
theorem Way.nil {h' : Heap} {news : List (Addr × Obj)} : Way h' news [] news := fun p hp => ⟨⟨p.2, hp⟩, .inr ⟨hp, List.not_mem_nil⟩⟩
theorem Way.step {h' : Heap} {news l : List (Addr × Obj)} {S : List Addr} {a : Addr} {o o' : Obj} {g : Obj → List (Addr × Obj)} (W : Way h' news S l) (U : UpdF a o l g) (e : h'.get? a = some o') : Way h' news (a :: S) (g o') := fun p hp => by
  rcases upd_mem U hp with rfl | ⟨hp, hn⟩
  · exact ⟨(W _ (upd_at U)).1, .inl e⟩
  · obtain ⟨h1, h2⟩ := W p hp
    refine ⟨h1, h2.imp id fun ⟨x, y⟩ => ⟨x, fun q => ?_⟩⟩
    rcases List.mem_cons.mp q with q | q
    · exact hn q
    · exact y q
theorem Way.here {h h' h₀ : Heap} {L : Addr} {news l : List (Addr × Obj)} {S : List Addr} (W : Way h' news S l) (N : News h₀ L h news) (K : Kept S h h') : (∀ p ∈ l, h'.get? p.1 = some p.2) ∧ ∀ p ∈ l, ∃ o, (p.1, o) ∈ news :=
  ⟨fun p hp => (W p hp).2.elim id fun ⟨a, b⟩ => K _ _ (N p a).1 b, fun p hp => (W p hp).1⟩
theorem side_gen {h h' h₀ : Heap} {L : Addr} {m : Str → Option Value} {S : List Addr} {news news' fresh : List (Addr × Obj)} (F : Fr h₀ L h m) (N : News h₀ L h news) (K : Kept S h h') (hS : ∀ a ∈ S, ∃ o, (a, o) ∈ news) (W : Way h' news S news')
    (hf : ∀ p ∈ fresh, h'.get? p.1 = some p.2 ∧ h.get? p.1 = none) : Fr h₀ L h' m ∧ News h₀ L h' (fresh ++ news') ∧ ∀ p ∈ fresh, AllNe p.1 news' := by
  obtain ⟨here, old⟩ := W.here N K
  obtain ⟨oL, es, ep, hL, rest⟩ := F.ns
  have frS : ∀ a ∈ S, a ≠ L ∧ h₀.get? a = none := fun a ha => by
    obtain ⟨o, ho⟩ := hS a ha
    exact (N _ ho).2
  refine ⟨⟨⟨oL, es, ep, K _ _ hL (fun q => (frS L q).1 rfl), rest⟩, fun c o e => K _ _ (F.keep c o e) (fun q => by rw [(frS c q).2] at e; cases e), F.above⟩, fun p hp => ?_, fun p hp => allNe_of fun q hq e => ?_⟩
  · rcases List.mem_append.mp hp with hp | hp
    · obtain ⟨e1, e2⟩ := hf p hp
      refine ⟨e1, (fun q => by rw [q, hL] at e2; cases e2), ?_⟩
      cases q : h₀.get? p.1 with
      | none => rfl
      | some o => rw [F.keep _ o q] at e2; cases e2
    · obtain ⟨o, ho⟩ := old p hp
      exact ⟨here p hp, (N _ ho).2⟩
  · obtain ⟨o, ho⟩ := old q hq
    have := (N _ ho).1
    rw [e, (hf p hp).2] at this; cases this
theorem InitRun.kvs_len {dflt : List UInt8} {N₀ : List (List UInt8)} {i : Nat} {N : List (List UInt8)} {kvs : List (List UInt8 × Value)} {nd : List UInt8} (R : InitRun dflt N₀ i N kvs nd) : kvs.length ≤ i := by
  induction R with
  | zero => exact Nat.le_refl _
  | @succ i N kvs nd t R ih => have := stored_len kvs (nameIn (addName N nd) nd) (.bytes nd.toArray t); omega
theorem tree_T {w : World} {dp un : Nat} {gd : Option (List Code)} {cn : Str} {cs : Scope} {a : Addr} {ccd : Value} {cl : List (Str × Addr)} {outer : List Env} {A₀ : Around} {base h₀ : Heap} {L : Addr} {m : Str → Option Value}
    {p : Program} {loose : List Str} {mean : ExcName → Option Value} {mg mb : Str → Option Value} {s : Shared} {Q E : Value → Shared → Prop}
    {f d : Addr} {on : Obj} {dflt : List UInt8} {N : List (List UInt8)} {t1 t2 : Tok}
    (B : Below A₀ base outer h₀) (F : Fr h₀ L s.heap m) (X : (K39 w.params).In h₀) (T : Top p loose mean mg mb h₀) (hk : cs.kind = .function) (hdp : dp + 16 < recursionLimit)
    (Nw : News h₀ L s.heap [(d, on)]) (lo : (d == sysModules) = false) (nf : NF s.heap f d) (hon : NamesObj w on N) (hN : N.length < 50000) (hvl : dflt.length ≤ 64)
    (ret : ∀ h' x dx db tk' N' kvs' root' odb' on' τ', (∃ S, N' = N ++ S) → TI N' kvs' (fun _ => dflt) root' → N'.length ≤ N.length + 9 → kvs'.length ≤ 9 → Kept [d] s.heap h' → h'.get? x = some (instObj 235 dx) → h'.get? dx = some (dictOf (treeAttrs w.params τ' dflt root' f db) 6) →
      h'.get? db = some odb' → odb'.IsDictOf (BK w) kvs' → h'.get? d = some on' → NamesObj w on' N' → s.heap.get? x = none → s.heap.get? dx = none → s.heap.get? db = none →
      @LT.lt Nat _ d dx ∧ @LT.lt Nat _ dx x ∧ @LT.lt Nat _ x db → (∀ b o, s.heap.get? b = some o → @LT.lt Nat _ b dx) → Q (.ref x) { s with heap := h', toks := tk' }) :
    wpAny (model PG w) (ktrTop dp un gd cn cs L a ccd cl outer) (call (.ref 235) [.ref f, .int 1 t1, .bytes dflt.toArray t2]) Q E s := by
  refine tree_spec B F X T hk hdp Nw lo nf hon hN hvl ?_
  intro h' x dx db tk' N' kvs' nd odb' on' τ' tx R K ex edx edb hdb ed hon' fx fdx fdb ord _ lts
  obtain ⟨hS, T', hl⟩ := init_TI (t := tx) (by omega) R
  have k1 := R.kvs_len
  have k2 := stored_len kvs' (nameIn (addName N' nd) nd) (.bytes nd.toArray tx)
  exact ret h' x dx db tk' _ _ _ odb' on' τ' hS T' hl (by omega) K ex edx edb hdb ed hon' fx fdx fdb ord lts
theorem tree_side {h h' h₀ : Heap} {L d x dx db : Addr} {m : Str → Option Value} {news : List (Addr × Obj)} {g : Obj → List (Addr × Obj)} {on on' ox odx odb : Obj} (F : Fr h₀ L h m) (N : News h₀ L h news) (U : UpdF d on news g) (K : Kept [d] h h')
    (ed : h'.get? d = some on') (ex : h'.get? x = some ox) (edx : h'.get? dx = some odx) (edb : h'.get? db = some odb) (fx : h.get? x = none) (fdx : h.get? dx = none) (fdb : h.get? db = none) (lts : ∀ b o, h.get? b = some o → @LT.lt Nat _ b dx) :
    Fr h₀ L h' m ∧ News h₀ L h' ((x, ox) :: (dx, odx) :: (db, odb) :: g on') ∧ ∀ p ∈ news, p.1 < dx := by
  obtain ⟨F', N', ne⟩ := side_gen (fresh := [(x, ox), (dx, odx), (db, odb)]) F N K (fun a ha => by rw [List.mem_singleton.mp ha]; exact ⟨_, upd_at U⟩) (Way.nil.step U ed)
    (List.forall_mem_cons.mpr ⟨⟨ex, fx⟩, List.forall_mem_cons.mpr ⟨⟨edx, fdx⟩, List.forall_mem_cons.mpr ⟨⟨edb, fdb⟩, List.forall_mem_nil _⟩⟩⟩)
  exact ⟨F', N', fun p hp => lts _ _ (N p hp).1⟩
theorem set_side3 {h h' h₀ : Heap} {L dx db d : Addr} {m : Str → Option Value} {news : List (Addr × Obj)} {g1 g2 g3 : Obj → List (Addr × Obj)} {o1 o1' o2 o2' o3 o3' : Obj} (F : Fr h₀ L h m) (N : News h₀ L h news)
    (U1 : UpdF dx o1 news g1) (U2 : UpdF db o2 (g1 o1') g2) (U3 : UpdF d o3 (g2 o2') g3) (K : Kept [dx, db, d] h h') (e1 : h'.get? dx = some o1') (e2 : h'.get? db = some o2') (e3 : h'.get? d = some o3') :
    Fr h₀ L h' m ∧ News h₀ L h' (g3 o3') := by
  have W := ((Way.nil.step U1 e1).step U2 e2).step U3 e3
  have K' : Kept [d, db, dx] h h' := fun b o e hb => K b o e (by simpa [or_comm, or_left_comm, and_comm, and_left_comm] using hb)
  have W1 := Way.nil.step (h' := h') U1 e1
  have W2 := W1.step U2 e2
  obtain ⟨F', N', _⟩ := side_gen (fresh := []) F N K' (List.forall_mem_cons.mpr ⟨(W2 _ (upd_at U3)).1, List.forall_mem_cons.mpr ⟨(W1 _ (upd_at U2)).1, List.forall_mem_cons.mpr ⟨⟨_, upd_at U1⟩, List.forall_mem_nil _⟩⟩⟩) W (List.forall_mem_nil _)
  exact ⟨F', N'⟩
theorem deed_side {h h' h₀ : Heap} {L dx db d pl : Addr} {m : Str → Option Value} {news : List (Addr × Obj)} {g1 g2 g3 g4 : Obj → List (Addr × Obj)} {o1 o1' o2 o2' o3 o3' o4 o4' : Obj} (F : Fr h₀ L h m) (N : News h₀ L h news)
    (U1 : UpdF dx o1 news g1) (U2 : UpdF db o2 (g1 o1') g2) (U3 : UpdF d o3 (g2 o2') g3) (U4 : UpdF pl o4 (g3 o3') g4) (K : Kept [dx, db, d, pl] h h') (e1 : h'.get? dx = some o1') (e2 : h'.get? db = some o2') (e3 : h'.get? d = some o3') (e4 : h'.get? pl = some o4') :
    Fr h₀ L h' m ∧ News h₀ L h' (g4 o4') := by
  have W1 := Way.nil.step (h' := h') U1 e1
  have W2 := W1.step U2 e2
  have W3 := W2.step U3 e3
  have W4 := W3.step U4 e4
  have K' : Kept [pl, d, db, dx] h h' := fun b o e hb => K b o e (by simpa [or_comm, or_left_comm, and_comm, and_left_comm] using hb)
  obtain ⟨F', N', _⟩ := side_gen (fresh := []) F N K' (List.forall_mem_cons.mpr ⟨(W3 _ (upd_at U4)).1, List.forall_mem_cons.mpr ⟨(W2 _ (upd_at U3)).1, List.forall_mem_cons.mpr ⟨(W1 _ (upd_at U2)).1, List.forall_mem_cons.mpr ⟨⟨_, upd_at U1⟩, List.forall_mem_nil _⟩⟩⟩⟩) W4 (List.forall_mem_nil _)
  exact ⟨F', N'⟩
theorem names_nil {w : World} {o : Obj} (h : o.IsDictOf (bytesKind PG w) []) : NamesObj w o [] := ⟨[], h, rfl, fun i kv hi => nomatch hi⟩
noncomputable def lawScope : Scope := match PySem.Challenge.pw_bc0032_01.main.body.drop 19 with
  | .FunctionDef _ _ _ _ _ _ s _ _ _ :: _ => s
  | _ => default
theorem pd_nil {dflt : List UInt8} : PD dflt [] (fun _ => dflt) := ⟨fun _ _ => .inl ⟨rfl, rfl⟩, fun kv h => nomatch h⟩
theorem TI.growE {N N' : List (List UInt8)} {kvs : List (List UInt8 × Value)} {c : Nat → List UInt8} {root : List UInt8} (e : ∃ S, N' = N ++ S) (T : TI N kvs c root) : TI N' kvs c root := by
  obtain ⟨S, rfl⟩ := e
  exact T.grow
section
variable {prog : Program} {w : World} {A : Around} {E : Value → Shared → Prop} {s : Shared} {h₀ : Heap} {env : Env} {x : Str} {body : List Stmt} {Q : Flow → Shared → Prop}
theorem loop_ints {ax : Addr} {vs : List Value} {c : Nat} {m₀ : Str → Option Value} {news : List (Addr × Obj)} (J : Nat → (Str → Option Value) → List (Addr × Obj) → Prop)
    (hh : A.handled = none) (F : Fr h₀ env.locals s.heap m₀) (NA : News h₀ env.locals s.heap [(ax, W.listOf vs.toArray c)]) (hz : ∀ v ∈ vs, ∃ z t, v = Value.int z t)
    (N : News h₀ env.locals s.heap news) (hna : ∀ p ∈ news, p.1 ≠ ax) (hj : J 0 m₀ news)
    (turn : ∀ (i : Nat) z t m₁ news₁ h tk own, i < vs.length → OwnOff own (news.map (·.1)) → J i m₁ news₁ → Fr h₀ env.locals h (fun y => if y = x then some (.int z t) else m₁ y) → News h₀ env.locals h (news₁ ++ own) →
      wpAny (model prog w) A (execs body env) (InvPostN h₀ env.locals (J (i + 1)) own (news.map (·.1)) { s with heap := h, toks := tk } Q) E { s with heap := h, toks := tk })
    (done : ∀ m₁ news₁ h tk, J vs.length m₁ news₁ → Fr h₀ env.locals h m₁ → News h₀ env.locals h news₁ → Q .next { s with heap := h, toks := tk }) :
    wpAny (model prog w) A (pyIter (.ref ax)) (fun it s₂ => LoopAtV prog w A h₀ env x body Q E it s₂) E s := by
  have hAx := NA _ (.head _)
  have hl : s.heap.IsList ax vs.toArray := NA.isList (.head _)
  have hlt : ax < s.heap.objs.size := Heap.lt_size hAx.1
  refine wpAny_pyIter_list hl ?_
  have W := Walks.list (prog := prog) (w := w) hh s.heap.objs.size ax (Nat.ne_of_lt hlt) vs.toArray
  rw [List.size_toArray] at W
  refine loop_invN J W ?_ ?_ ?_ ?_ ⟨⟨_, Heap.get?_push_size _ rfl, rfl, rfl⟩, hl.push _⟩ (F.push _) (fun p hp => ⟨Heap.get?_push_of_some _ (N p hp).1, (N p hp).2⟩) hj ?_ ?_
  · intro hm
    rcases List.mem_cons.mp hm with e | hm
    · exact absurd F.ns.lt (e ▸ Nat.lt_irrefl _)
    · exact hAx.2.1 (List.mem_singleton.mp hm).symm
  · intro b hb
    rw [List.mem_singleton.mp hb]
    exact next_is_new F
  · intro p hp hI
    exact absurd (Heap.lt_size (N p hp).1) ((List.mem_singleton.mp hI) ▸ Nat.lt_irrefl _)
  · intro p hp hm
    rcases List.mem_cons.mp hm with e | hm
    · exact absurd (Heap.lt_size (N p hp).1) (e ▸ Nat.lt_irrefl _)
    · exact hna p hp (List.mem_singleton.mp hm)
  · rintro i v m₁ news₁ h tk own hin hP _ hsep hJ F₁ N₁
    obtain ⟨z, t, rfl⟩ := hz v (List.mem_of_getElem? (by simpa using hP))
    exact turn i z t m₁ news₁ h tk own hin hsep hJ F₁ N₁
  · exact done
end
theorem news_tail {h₀ h : Heap} {L : Addr} {a : Addr × Obj} {r : List (Addr × Obj)} (N : News h₀ L h (a :: r)) : News h₀ L h r := fun q hq => N q (.tail _ hq)
theorem valueAt_self {kvs : List (Int × Value)} {k : Int} {v : Value} : valueAt (stored kvs k v) k = some v := (valueAt_stored _ _ _ _).trans (if_pos rfl)
end sLA
section sLB
theorem out1 {h₀ h h' : Heap} {L r : Addr} {m : Str → Option Value} {news : List (Addr × Obj)} {o1 : Obj} (F : Fr h₀ L h m) (N : News h₀ L h news) (K : Kept [] h h') (g1 : h'.get? r = some o1) (f1 : h.get? r = none) :
    Fr h₀ L h' m ∧ News h₀ L h' ((r, o1) :: news) ∧ Out r (news.map (·.1)) := by
  obtain ⟨F', N', _⟩ := made1 F N K g1 f1
  refine ⟨F', N', ⟨fun b hb q => ?_⟩⟩
  obtain ⟨p, hp, rfl⟩ := List.mem_map.mp hb
  have := (N p hp).1
  rw [← q, f1] at this; cases this
theorem set_sideO {h h' h₀ : Heap} {L dx db d r : Addr} {m : Str → Option Value} {news : List (Addr × Obj)} {g1 g2 g3 : Obj → List (Addr × Obj)} {o1 o1' o2 o2' o3 o3' oR : Obj} (F : Fr h₀ L h m) (N : News h₀ L h news)
    (U1 : UpdF dx o1 news g1) (U2 : UpdF db o2 (g1 o1') g2) (U3 : UpdF d o3 (g2 o2') g3) (K : Kept [dx, db, d] h h') (e1 : h'.get? dx = some o1') (e2 : h'.get? db = some o2') (e3 : h'.get? d = some o3') (eR : h'.get? r = some oR) (fR : h.get? r = none) :
    Fr h₀ L h' m ∧ News h₀ L h' ((r, oR) :: g3 o3') ∧ Out r ((g3 o3').map (·.1)) := by
  have W1 := Way.nil.step (h' := h') U1 e1
  have W2 := W1.step U2 e2
  have W3 := W2.step U3 e3
  have K' : Kept [d, db, dx] h h' := fun b o e hb => K b o e (by simpa [or_comm, or_left_comm, and_comm, and_left_comm] using hb)
  obtain ⟨F', N', ne⟩ := side_gen (fresh := [(r, oR)]) F N K' (List.forall_mem_cons.mpr ⟨(W2 _ (upd_at U3)).1, List.forall_mem_cons.mpr ⟨(W1 _ (upd_at U2)).1, List.forall_mem_cons.mpr ⟨⟨_, upd_at U1⟩, List.forall_mem_nil _⟩⟩⟩) W3
    (List.forall_mem_cons.mpr ⟨⟨eR, fR⟩, List.forall_mem_nil _⟩)
  refine ⟨F', N', ⟨fun b hb q => ?_⟩⟩
  obtain ⟨p, hp, rfl⟩ := List.mem_map.mp hb
  obtain ⟨o, ho⟩ := (W3 p hp).1
  have := (N _ ho).1
  rw [← q, fR] at this; cases this
theorem side_one {h h' h₀ : Heap} {L a : Addr} {m : Str → Option Value} {news : List (Addr × Obj)} {g : Obj → List (Addr × Obj)} {o o' : Obj} (F : Fr h₀ L h m) (N : News h₀ L h news) (U : UpdF a o news g) (K : Kept [a] h h') (e : h'.get? a = some o') :
    Fr h₀ L h' m ∧ News h₀ L h' (g o') := by
  obtain ⟨F', N', _⟩ := side_gen (fresh := []) F N K (fun b hb => by rw [List.mem_singleton.mp hb]; exact ⟨_, upd_at U⟩) (Way.nil.step U e) (List.forall_mem_nil _)
  exact ⟨F', N'⟩
theorem proof_side {h h' h₀ : Heap} {L x dx lb : Addr} {m : Str → Option Value} {news : List (Addr × Obj)} {ox odx olb : Obj} (F : Fr h₀ L h m) (N : News h₀ L h news) (K : Kept [] h h')
    (ex : h'.get? x = some ox) (edx : h'.get? dx = some odx) (elb : h'.get? lb = some olb) (fx : h.get? x = none) (fdx : h.get? dx = none) (flb : h.get? lb = none) (lts : ∀ b o, h.get? b = some o → @LT.lt Nat _ b dx) :
    Fr h₀ L h' m ∧ News h₀ L h' ((x, ox) :: (dx, odx) :: (lb, olb) :: news) ∧ ∀ p ∈ news, p.1 < dx := by
  obtain ⟨F', N', _⟩ := side_gen (fresh := [(x, ox), (dx, odx), (lb, olb)]) F N K (fun a ha => nomatch ha) Way.nil
    (List.forall_mem_cons.mpr ⟨⟨ex, fx⟩, List.forall_mem_cons.mpr ⟨⟨edx, fdx⟩, List.forall_mem_cons.mpr ⟨⟨elb, flb⟩, List.forall_mem_nil _⟩⟩⟩)
  exact ⟨F', N', fun p hp => lts _ _ (N p hp).1⟩
theorem branch_T {w : World} {dp un : Nat} {gd : Option (List Code)} {cn : Str} {cs : Scope} {a : Addr} {ccd : Value} {cl : List (Str × Addr)} {outer : List Env} {A₀ : Around} {base h₀ : Heap} {L : Addr} {m : Str → Option Value}
    {p : Program} {loose : List Str} {mean : ExcName → Option Value} {mg mb : Str → Option Value} {s : Shared} {Q E : Value → Shared → Prop}
    {x dx db f : Addr} {odb : Obj} {τ : Nat → Tok} {dflt root : List UInt8} {kvs : List (List UInt8 × Value)} {N : List (List UInt8)} {c : Nat → List UInt8} {k : Nat} {t : Tok}
    (B : Below A₀ base outer h₀) (F : Fr h₀ L s.heap m) (X : (K39 w.params).In h₀) (T : Top p loose mean mg mb h₀) (hk : cs.kind = .function) (hdp : dp + 12 < recursionLimit)
    (Nw : News h₀ L s.heap [(x, instObj 235 dx), (dx, dictOf (treeAttrs w.params τ dflt root f db) 6), (db, odb)]) (hdb : odb.IsDictOf (BK w) kvs) (hk8 : k < 256) (TT : TI N kvs c root) (hv0 : (c k).length = 1)
    (ret : ∀ h' br tk' vs, Kept [] s.heap h' → h'.get? br = some (tupObj vs) → BytesAre vs ((List.range 8).map (sibOf N c k)) → s.heap.get? br = none → Q (.ref br) { s with heap := h', toks := tk' }) :
    wpAny (model PG w) (ktrTop dp un gd cn cs L a ccd cl outer) (call (.ref 176) [.ref x, .bytes (keyB k).toArray t]) Q E s := by
  have er : root = nodeOf N c k 0 := by rw [nodeOf_zero hk8]; exact TT.2
  rw [er] at Nw
  exact branch_spec B F X T hk hdp Nw hdb hk8 (by intro e; rw [e] at hv0; cases hv0) (TT.levels hk8) (TT.leaf hk8) ret
theorem sibOf_grow {N S : List (List UInt8)} {kvs : List (List UInt8 × Value)} {c : Nat → List UInt8} {root : List UInt8} {k l : Nat} (T : TI N kvs c root) (hk : k < 256) (hl : l < 8) : sibOf (N ++ S) c k l = sibOf N c k l := by
  have hs := sibI_lt (show 7 - l < 8 by omega) (path_lt hk (show 7 - l ≤ 8 by omega))
  unfold sibOf
  rw [txt_grow T.mem (7 - l) (by omega) _ hs, nameIn_grow (T.mem (7 - l) (by omega) _ hs)]
theorem sibs_grow {N N' : List (List UInt8)} {kvs : List (List UInt8 × Value)} {c : Nat → List UInt8} {root : List UInt8} {k : Nat} (T : TI N kvs c root) (hk : k < 256) (e : ∃ S, N' = N ++ S) : (List.range 8).map (sibOf N' c k) = (List.range 8).map (sibOf N c k) := by
  obtain ⟨S, rfl⟩ := e
  exact List.map_congr_left fun l hl => sibOf_grow T hk (List.mem_range.mp hl)
theorem sibI_par (p : Nat) : p % 2 ≠ sibI p % 2 := by unfold sibI; omega
theorem sibI_half (p : Nat) : sibI p / 2 = p / 2 := by unfold sibI; omega
theorem update_same {w : World} {dp un : Nat} {gd : Option (List Code)} {cn : Str} {cs : Scope} {a : Addr} {ccd : Value} {cl : List (Str × Addr)} {outer : List Env} {A₀ : Around} {base h₀ : Heap} {L : Addr} {m : Str → Option Value}
    {p : Program} {loose : List Str} {mean : ExcName → Option Value} {mg mb : Str → Option Value} {s : Shared} {Q E : Value → Shared → Prop}
    {f px dpx lb ua : Addr} {vs : List Value} {v v' : List UInt8} {k n : Nat} {t1 t2 : Tok} {τ : Nat → Tok}
    (B : Below A₀ base outer h₀) (F : Fr h₀ L s.heap m) (X : (K39 w.params).In h₀) (T : Top p loose mean mg mb h₀) (hk : cs.kind = .function) (hdp : dp + 16 < recursionLimit)
    (Nw : News h₀ L s.heap [(px, instObj 132 dpx), (dpx, dictOf (proofAttrs w.params τ k v lb f) 6), (lb, W.listOf vs.toArray n)]) (hv8 : vs.length = 8) (hk8 : k < 256)
    (ord : @LT.lt Nat _ dpx px ∧ @LT.lt Nat _ px lb)
    (ret : ∀ h' tk' τ', Kept [dpx] s.heap h' → h'.get? dpx = some (dictOf (proofAttrs w.params τ' k v' lb f) 6) → Q .none { s with heap := h', toks := tk' }) :
    wpAny (model PG w) (ktrTop dp un gd cn cs L a ccd cl outer) (call (.ref 129) [.ref px, .bytes (keyB k).toArray t1, .bytes v'.toArray t2, .ref ua]) Q E s :=
  update_spec (l := 0) B F X T hk hdp Nw hv8 hk8 hk8 ord (fun _ => ret) (fun q => absurd rfl q)
theorem update_diff {w : World} {dp un : Nat} {gd : Option (List Code)} {cn : Str} {cs : Scope} {a : Addr} {ccd : Value} {cl : List (Str × Addr)} {outer : List Env} {A₀ : Around} {base h₀ : Heap} {L : Addr} {m : Str → Option Value}
    {p : Program} {loose : List Str} {mean : ExcName → Option Value} {mg mb : Str → Option Value} {s : Shared} {Q E : Value → Shared → Prop}
    {f px dpx lb ua : Addr} {vs us : List Value} {v v' : List UInt8} {k j n l : Nat} {t1 t2 : Tok} {τ : Nat → Tok}
    (B : Below A₀ base outer h₀) (F : Fr h₀ L s.heap m) (X : (K39 w.params).In h₀) (T : Top p loose mean mg mb h₀) (hk : cs.kind = .function) (hdp : dp + 16 < recursionLimit)
    (Nw : News h₀ L s.heap [(px, instObj 132 dpx), (dpx, dictOf (proofAttrs w.params τ k v lb f) 6), (lb, W.listOf vs.toArray n), (ua, tupObj us)]) (hv8 : vs.length = 8) (hu8 : us.length = 8) (hk8 : k < 256) (hj8 : j < 256)
    (ord : @LT.lt Nat _ dpx px ∧ @LT.lt Nat _ px lb) (hl : l < 8) (hj : j / 2 ^ (7 - l) = sibI (k / 2 ^ (7 - l)))
    (ret : ∀ h' tk' u, us[l]? = some u → Kept [lb] s.heap h' → h'.get? lb = some (W.listOf (vs.set l u).toArray n) → Q .none { s with heap := h', toks := tk' }) :
    wpAny (model PG w) (ktrTop dp un gd cn cs L a ccd cl outer) (call (.ref 129) [.ref px, .bytes (keyB j).toArray t1, .bytes v'.toArray t2, .ref ua]) Q E s := by
  have hne : j ≠ k := fun q => by rw [q] at hj; exact sibI_ne _ hj.symm
  have hu := List.getElem?_eq_getElem (l := us) (i := l) (by omega)
  refine update_spec (l := l) B F X T hk hdp (fun p hp => Nw p (by
      rcases List.mem_cons.mp hp with rfl | hp
      · exact .head _
      · rcases List.mem_cons.mp hp with rfl | hp
        · exact .tail _ (.head _)
        · rw [List.mem_singleton.mp hp]; exact .tail _ (.tail _ (.head _)))) hv8 hk8 hj8 ord (fun q => absurd q hne) (fun _ => ⟨hl, ?_, ?_, us, _, (Nw _ (.tail _ (.tail _ (.tail _ (.head _))))).1, hu8, hu, fun h' tk' K e => ret h' tk' _ hu K e⟩)
  · rw [hj]; exact sibI_par _
  · intro b hb hb8
    obtain ⟨e, rfl⟩ : ∃ e, b = 7 - l + 1 + e := ⟨b - (7 - l) - 1, by omega⟩
    rw [Nat.pow_add, Nat.pow_succ, ← Nat.div_div_eq_div_mul, ← Nat.div_div_eq_div_mul, ← Nat.div_div_eq_div_mul, ← Nat.div_div_eq_div_mul, hj]
    rw [sibI_half]
theorem len8N {prog : Program} {w : World} {A : Around} {E Q : Value → Shared → Prop} {s : Shared} {h₀ : Heap} {L a : Addr} {news : List (Addr × Obj)} {vs : List Value} (N : News h₀ L s.heap news) (hm : (a, tupObj vs) ∈ news) (h8 : vs.length = 8) (h : Q (.int 8 (s.toks + 1)) { s with toks := s.toks + 1 + 1 }) : wpAny (model prog w) A (call (.builtin "len") [.ref a]) Q E s :=
  len_tuple (N.isTup hm) (by simp [h8]) (by simpa [h8] using h)
end sLB
section sLC
open LCt LCg
section
variable {prog : Program} {w : World} {A : Around} {E : Value → Shared → Prop} {s : Shared} {h₀ : Heap} {L : Addr} {m : Str → Option Value} {env : Env}
/-- a comprehension of ints with one test: what it leaves is empty iff no test holds -/
theorem compRest_P {ct elt : PySem.Expr} {x : Str} {scope : Scope} {cl : List (Str × Addr)} {S : List (Addr × Obj) → Prop} {P : Nat → Value → Prop} {Fin : List Value → List (Addr × Obj) → Prop} {news : List (Addr × Obj)} {n₀ : Nat} (p : Nat → Bool) (hS : S news)
    (test : ∀ i v I oI C oC D m₂ h tk ys (E' : Value → Shared → Prop), i < n₀ → P i v → NsObj oC m₂ → m₂ x = some v → Fr h₀ L h m → News h₀ L h ((I, oI) :: (C, oC) :: (D, lst ys) :: news) →
      wpAny (model prog w) A (isTrue ct (compEnvC scope cl C env) (eval ct (compEnvC scope cl C env))) (fun ok s' => ok = p i ∧ ∃ tk', s' = { s with heap := h, toks := tk' }) E' { s with heap := h, toks := tk })
    (el : ∀ i v I oI C oC D m₂ h tk ys (E' : Value → Shared → Prop), i < n₀ → P i v → NsObj oC m₂ → m₂ x = some v → Fr h₀ L h m → News h₀ L h ((I, oI) :: (C, oC) :: (D, lst ys) :: news) →
      wpAny (model prog w) A (eval elt (compEnvC scope cl C env)) (fun y s' => (∃ z t, y = Value.int z t) ∧ ∃ tk', s' = { s with heap := h, toks := tk' }) E' { s with heap := h, toks := tk })
    (fin : ∀ ys ns, IntsAre ys ns → (ns = [] ↔ ∀ j, j < n₀ → p j = false) → Fin ys news) :
    ∀ k i ys ns, k + i = n₀ → IntsAre ys ns → (ns = [] ↔ ∀ j, j < i → p j = false) → CompRestT prog w A h₀ L m env ct elt x scope cl s S P Fin k i ys news := by
  intro k
  induction k with
  | zero =>
    intro i ys ns hk hi hn
    have : i = n₀ := by omega
    subst this
    exact CompRestT.zero (fin ys ns hi hn)
  | succ k ih =>
    intro i ys ns hk hi hn
    refine CompRestT.succ fun v I oI C oC D m₂ h tk E' hP hC hx F N off ne => ?_
    refine wpAny_mono (test i v I oI C oC D m₂ h tk ys E' (by omega) hP hC hx F N) (fun ok s' hs => ?_) fun _ _ e => e
    obtain ⟨rfl, tk', rfl⟩ := hs
    cases hp : p i with
    | true =>
      simp only [if_true]
      refine wpAny_mono (el i v I oI C oC D m₂ h tk' ys E' (by omega) hP hC hx F N) (fun y s'' hs => ?_) fun _ _ e => e
      obtain ⟨⟨z, t, rfl⟩, tk'', rfl⟩ := hs
      refine ⟨h, tk'', news, rfl, F, N, off, hS, ih (i + 1) _ (ns ++ [z]) (by omega) (IntsAre.append hi (.cons z t .nil)) ⟨fun q => by simp at q, fun q => ?_⟩⟩
      have := q i (Nat.lt_succ_self i)
      rw [hp] at this; cases this
    | false =>
      simp only [Bool.false_eq_true, if_false]
      refine ⟨h, tk', news, rfl, F, N, off, hS, ih (i + 1) _ ns (by omega) hi ⟨fun q j hj => ?_, fun q => hn.mpr fun j hj => q j (by omega)⟩⟩
      rcases Nat.lt_or_ge j i with h1 | h1
      · exact hn.mp q j h1
      · have : j = i := by omega
        rw [this]; exact hp
end
section
variable {prog : Program} {w : World} {A : Around} {E : Value → Shared → Prop} {s : Shared} {h₀ : Heap} {L : Addr} {m : Str → Option Value} {news : List (Addr × Obj)}
theorem eqAt_bytes {b c : Array UInt8} {t u : Tok} : SeqAt.EqAt A s (.bytes b t) (.bytes c u) (decide (b.toList = c.toList)) := fun _ _ _ _ h => eqBool_bytes h
theorem BytesAre.all {vs : List Value} {xs : List (List UInt8)} (h : BytesAre vs xs) {i : Nat} (hi : i < xs.length) : ∃ t, vs[i]? = some (.bytes (xs[i]).toArray t) := h.at (List.getElem?_eq_getElem hi)
theorem ne_same8 {a b : Addr} {us vs : List Value} {xs : List (List UInt8)} {Q : Value → Shared → Prop} (N : News h₀ L s.heap news) (ha : (a, tupObj us) ∈ news) (hb : (b, tupObj vs) ∈ news) (x : BytesAre us xs) (y : BytesAre vs xs) (hu : A.units < cLine) (h : Q (.bool false) s) :
    wpAny (model prog w) A (compareOp .NotEq (.ref a) (.ref b)) Q E s := by
  have l1 := x.length
  have l2 := y.length
  refine SeqAt.RcNeAt.tuples (e := fun _ => true) (N.isTup ha) (N.isTup hb) hu (fun j h1 h2 => ?_) prog w E Q ?_
  · simp only [List.size_toArray] at h1 h2
    have hj : j < xs.length := by omega
    obtain ⟨t, e1⟩ := BytesAre.all x hj
    obtain ⟨u, e2⟩ := BytesAre.all y hj
    rw [List.getElem?_eq_getElem h1] at e1
    rw [List.getElem?_eq_getElem h2] at e2
    simp only [List.getElem_toArray]
    rw [Option.some.inj e1, Option.some.inj e2]
    have := eqAt_bytes (A := A.in1) (s := s) (b := (xs[j]).toArray) (c := (xs[j]).toArray) (t := t) (u := u)
    simpa using this
  · have : ((List.range (min us.toArray.size vs.toArray.size)).all (fun _ => true) && us.toArray.size == vs.toArray.size) = true := by
      simp [l1, l2]
    rw [this]; exact h
theorem item8 {value slice : PySem.Expr} {a : Addr} {us : List Value} {f : Nat → List UInt8} {i : Nat} {u : Tok} {Q : Value → Shared → Prop} (N : News h₀ L s.heap news) (hm : (a, tupObj us) ∈ news) (hb : BytesAre us ((List.range 8).map f)) (hi : i < 8) (h : ∀ t, Q (.bytes (f i).toArray t) s)
    (hs : subscripted slice false (.ref a) (.int (i : Int) u) = operate [.ref a, .int (i : Int) u] (getItem (.ref a) (.int (i : Int) u)) := by with_unfolding_all rfl) : wpAny (model prog w) A (subscriptTail value slice (.ref a) (.int (i : Int) u)) Q E s := by
  have ht := N.isTup hm
  have hl := hb.length
  simp only [List.length_map, List.length_range] at hl
  obtain ⟨t, e⟩ := BytesAre.all hb (i := i) (by simpa using hi)
  simp only [List.getElem_map, List.getElem_range] at e
  refine tail_any ht.typeIs slot_tuple_getitem.lookup (getItem_tuple (j := i) (x := .bytes (f i).toArray t) ht (by omega) (by omega) (by
      have h2 : ¬ ((i : Int) < 0) := by omega
      simp [seqIndex?, h2, hl, hi]; omega) (by simpa using e) (h t)) hs
end
theorem two_pow_cast (i : Nat) : ((2 : Int) ^ (7 - (i : Int)).toNat) = ((2 ^ (7 - i) : Nat) : Int) := by
  rw [show (7 - (i : Int)).toNat = 7 - i by omega]; simp
theorem begin_eq (k i : Nat) : (Int.fdiv (k : Int) ((2 ^ (7 - i) : Nat) : Int) + 1 - 2 * Int.fmod (Int.fdiv (k : Int) ((2 ^ (7 - i) : Nat) : Int)) 2) * ((2 ^ (7 - i) : Nat) : Int) = ((sibI (k / 2 ^ (7 - i)) * 2 ^ (7 - i) : Nat) : Int) := by
  rw [Int.fdiv_eq_ediv_of_nonneg _ (Int.natCast_nonneg _), Int.fmod_eq_emod_of_nonneg _ (by decide), ← Int.natCast_ediv]
  generalize 2 ^ (7 - i) = W
  generalize k / W = q
  rw [Int.natCast_mul]
  congr 1
  unfold sibI
  omega
theorem begin_lt {k i : Nat} (hk : k < 256) (hi : i < 8) : sibI (k / 2 ^ (7 - i)) * 2 ^ (7 - i) + 2 ^ (7 - i) ≤ 256 := by
  have h := sibI_lt (show 7 - i < 8 by omega) (path_lt hk (show 7 - i ≤ 8 by omega))
  have e : 2 ^ (8 - (7 - i)) * 2 ^ (7 - i) = 256 := by rw [← Nat.pow_add, show 8 - (7 - i) + (7 - i) = 8 by omega]
  have : (sibI (k / 2 ^ (7 - i)) + 1) * 2 ^ (7 - i) ≤ 2 ^ (8 - (7 - i)) * 2 ^ (7 - i) := Nat.mul_le_mul_right _ h
  rw [e, Nat.add_mul, Nat.one_mul] at this
  exact this
theorem begin_div (k i : Nat) : sibI (k / 2 ^ (7 - i)) * 2 ^ (7 - i) / 2 ^ (7 - i) = sibI (k / 2 ^ (7 - i)) := Nat.mul_div_cancel _ (Nat.two_pow_pos _)
/-- a level tells whether the blocks part -/
theorem level_iff {N : List (List UInt8)} {kvs kvs' : List (List UInt8 × Value)} {c e : Nat → List UInt8} {r r' : List UInt8} {k i : Nat} (hN : N.length < 1000000) (Tc : TI N kvs c r) (Te : TI N kvs' e r') (hk : k < 256) (hi : i < 8) :
    sibOf N c k i = sibOf N e k i ↔ ∀ j, j < 2 ^ (7 - i) → c (sibI (k / 2 ^ (7 - i)) * 2 ^ (7 - i) + j) = e (sibI (k / 2 ^ (7 - i)) * 2 ^ (7 - i) + j) := by
  have h := sibI_lt (show 7 - i < 8 by omega) (path_lt hk (show 7 - i ≤ 8 by omega))
  unfold sibOf
  rw [name_iff hN Tc Te (show 7 - i ≤ 8 by omega) h]
  rw [Nat.add_mul, Nat.one_mul]
  constructor
  · intro q j hj; exact q _ (by omega) (by omega)
  · intro q z z1 z2
    have := q (z - sibI (k / 2 ^ (7 - i)) * 2 ^ (7 - i)) (by omega)
    rw [show sibI (k / 2 ^ (7 - i)) * 2 ^ (7 - i) + (z - sibI (k / 2 ^ (7 - i)) * 2 ^ (7 - i)) = z by omega] at this
    exact this
theorem range_size (a n : Nat) : Builtin.Range.rangeSize (a : Int) ((a : Int) + (n : Int)) 1 = (n : Int) := by
  unfold Builtin.Range.rangeSize
  simp
  split <;> omega
theorem range_small {a : Nat} {n : Nat} (h : a + n ≤ 256) : Builtin.Range.small (a : Int) ((a : Int) + (n : Int)) 1 = true := by
  have fits : ∀ z : Int, 0 ≤ z → z ≤ 300 → Builtin.Range.rangeFitsLong z = true := fun z h1 h2 => by
    unfold Builtin.Range.rangeFitsLong
    simp
    omega
  unfold Builtin.Range.small
  rw [range_size, fits _ (by omega) (by omega), fits _ (by omega) (by omega), fits _ (by omega) (by omega), fits _ (by omega) (by omega)]
  simp
  right
  exact fits _ (by omega) (by omega)
theorem BytesAre.setAt {vs : List Value} {xs : List (List UInt8)} (h : BytesAre vs xs) {x : List UInt8} {t : Tok} : ∀ {i : Nat}, BytesAre (vs.set i (.bytes x.toArray t)) (xs.set i x) := by
  induction h with
  | nil => intro i; exact .nil
  | cons r ih =>
    intro i
    cases i with
    | zero => exact .cons r
    | succ i => exact .cons ih
/-- the proof's branch: the first i levels are the second tree's -/
noncomputable def mix (N : List (List UInt8)) (g1 g2 : Nat → List UInt8) (k i l : Nat) : List UInt8 := if l < i then sibOf N g2 k l else sibOf N g1 k l
theorem mix_zero {N : List (List UInt8)} {g1 g2 : Nat → List UInt8} {k : Nat} : mix N g1 g2 k 0 = sibOf N g1 k := by
  funext l; unfold mix; rw [if_neg (Nat.not_lt_zero _)]
theorem mix_eight {N : List (List UInt8)} {g1 g2 : Nat → List UInt8} {k : Nat} : (List.range 8).map (mix N g1 g2 k 8) = (List.range 8).map (sibOf N g2 k) :=
  List.map_congr_left fun l hl => by unfold mix; rw [if_pos (List.mem_range.mp hl)]
theorem ps_same {ps : List Value} {N : List (List UInt8)} {g1 g2 : Nat → List UInt8} {k i : Nat} (h : BytesAre ps ((List.range 8).map (mix N g1 g2 k i))) (e : sibOf N g1 k i = sibOf N g2 k i) : BytesAre ps ((List.range 8).map (mix N g1 g2 k (i + 1))) := by
  have : mix N g1 g2 k (i + 1) = mix N g1 g2 k i := by
    funext l
    unfold mix
    by_cases h1 : l < i
    · rw [if_pos h1, if_pos (by omega)]
    · by_cases h2 : l = i
      · rw [if_neg h1, if_pos (by omega), h2, e]
      · rw [if_neg h1, if_neg (by omega)]
  rw [this]; exact h
theorem mix_grow {N N' : List (List UInt8)} {kvs kvs' : List (List UInt8 × Value)} {c e : Nat → List UInt8} {r r' : List UInt8} {k i : Nat} (Tc : TI N kvs c r) (Te : TI N kvs' e r') (hk : k < 256) (hS : ∃ S, N' = N ++ S) :
    (List.range 8).map (mix N' c e k i) = (List.range 8).map (mix N c e k i) := by
  obtain ⟨S, rfl⟩ := hS
  refine List.map_congr_left fun l hl => ?_
  have hl := List.mem_range.mp hl
  unfold mix
  rw [sibOf_grow Tc hk hl, sibOf_grow Te hk hl]
theorem ps_set {ps us : List Value} {N : List (List UInt8)} {g1 g2 : Nat → List UInt8} {k i bg : Nat} {u : Value} (h : BytesAre ps ((List.range 8).map (mix N g1 g2 k i))) (hu : BytesAre us ((List.range 8).map fun l => nameIn N (txt N g2 (7 - l) (bg / 2 ^ (7 - l))))) (hi : i < 8) (hux : us[i]? = some u)
    (hb : bg / 2 ^ (7 - i) = sibI (k / 2 ^ (7 - i))) : BytesAre (ps.set i u) ((List.range 8).map (mix N g1 g2 k (i + 1))) := by
  obtain ⟨t, e⟩ := BytesAre.all hu (i := i) (by simpa using hi)
  simp only [List.getElem_map, List.getElem_range] at e
  rw [hux] at e
  rw [Option.some.inj e, hb]
  have e2 : (List.range 8).map (mix N g1 g2 k (i + 1)) = ((List.range 8).map (mix N g1 g2 k i)).set i (sibOf N g2 k i) := by
    refine List.ext_getElem (by simp) fun l h1 h2 => ?_
    simp only [List.length_map, List.length_range] at h1
    rw [List.getElem_set]
    simp only [List.getElem_map, List.getElem_range]
    unfold mix
    by_cases h4 : i = l
    · subst h4; rw [if_pos (Nat.lt_succ_self _), if_pos rfl]
    · rw [if_neg h4]
      by_cases h3 : l < i
      · rw [if_pos h3, if_pos (by omega)]
      · rw [if_neg h3, if_neg (by omega)]
  rw [e2]
  exact BytesAre.setAt h
theorem PD.len {dflt : List UInt8} {ikvs : List (Int × Value)} {c : Nat → List UInt8} (P : PD dflt ikvs c) (hd : dflt.length ≤ 2) {q : Nat} (hq : q < 256) : (c q).length ≤ 64 := by
  rcases P.1 q hq with ⟨_, e⟩ | ⟨v, t, _, e, hl⟩
  · rw [e]; omega
  · rw [e]; omega
theorem PD.get {dflt : List UInt8} {ikvs : List (Int × Value)} {c : Nat → List UInt8} (P : PD dflt ikvs c) (td : Tok) {q : Nat} (hq : q < 256) : ∃ t, (valueAt ikvs (q : Int)).getD (.bytes dflt.toArray td) = .bytes (c q).toArray t := by
  rcases P.1 q hq with ⟨e1, e⟩ | ⟨v, t, e1, e, hl⟩
  · rw [e1, e]; exact ⟨td, rfl⟩
  · rw [e1, e]; exact ⟨t, rfl⟩
theorem div_of {q b n r : Nat} (e : (q : Int) = (b : Int)) (h : b / n = r) : q / n = r := by
  have : q = b := by omega
  rw [this]; exact h
section
variable {prog : Program} {w : World} {A : Around} {E : Value → Shared → Prop} {s : Shared} {h₀ : Heap} {L d : Addr} {news : List (Addr × Obj)} {o : Obj}
theorem get_D {kvs : List (Int × Value)} {k : Int} {tk : Tok} {dv v : Value} {Q : Value → Shared → Prop} (N : News h₀ L s.heap news) (hp : (d, o) ∈ news) (hd : o.IsDictOf (intKind prog w) kvs) (lo : (d == sysModules) = false) (hg : (valueAt kvs k).getD dv = v) (h : Q v { s with toks := s.toks + 1 }) :
    wpAny (model prog w) A (call (.builtin "dict.get") [.ref d, .int k tk, dv]) Q E s :=
  kdg_get2 (knd := intKind prog w) N hp hd lo (intKind_is _ _ _ _) _ rfl (by rw [hg]; exact h)
theorem eq_bytesP {b c : Array UInt8} {t u : Tok} {r : Bool} {Q : Value → Shared → Prop} (hr : (b.toList == c.toList) = r) (h : Q (.bool r) s) : wpAny (model prog w) A (compareOp .Eq (.bytes b t) (.bytes c u)) Q E s := eq_bytes (by rw [hr]; exact h)
theorem ne_bytesP {b c : Array UInt8} {t u : Tok} {r : Bool} {Q : Value → Shared → Prop} (hr : (b.toList != c.toList) = r) (h : Q (.bool r) s) : wpAny (model prog w) A (compareOp .NotEq (.bytes b t) (.bytes c u)) Q E s := ne_bytes (by rw [hr]; exact h)
end
theorem two_ne (i : Nat) : ((2 ^ (7 - i) : Nat) : Int) ≠ 0 := fun e => by
  have := Nat.two_pow_pos (7 - i)
  rw [Int.natCast_eq_zero.mp e] at this
  cases this
theorem two_small (i : Nat) : ((2 ^ (7 - i) : Nat) : Int).natAbs < 1073741824 := by
  rw [Int.natAbs_natCast]
  exact Nat.lt_of_le_of_lt (Nat.pow_le_pow_right (by decide) (show 7 - i ≤ 7 by omega)) (by decide)
theorem mul_small (a : Int) (i : Nat) : PySem.IntMulOk a ((2 ^ (7 - i) : Nat) : Int) := by
  have h := two_small i
  rw [Int.natAbs_natCast] at h
  generalize 2 ^ (7 - i) = W at h
  exact PySem.IntMulOk.of_right (PySem.intBits_le_64 (by omega) (by omega))
end sLC
section sLD
open PySem.SeqAt PySem.F
theorem none_ne_bytes (a : Array UInt8) (t : Tok) : Gives (Builtin.«NoneType.__ne__» ⟨[.none, .bytes a t], []⟩) (.val (Value.notImplemented)) :=
  .of_wp fun M A E s Q h => by obtain ⟨hp, g, d, tk, os⟩ := s; wp_walk; exact ⟨_, rfl, h⟩
theorem bytes_ne_none (a : Array UInt8) (t : Tok) : Gives (Builtin.«bytes.__ne__» ⟨[.bytes a t, .none], []⟩) (.val (Value.notImplemented)) :=
  .of_wp fun M A E s Q h => by obtain ⟨hp, g, d, tk, os⟩ := s; have f2 := sub_NoneType_bytes; wp_walk; exact ⟨_, rfl, h⟩
section
variable {prog : Program} {w : World} {A : Around} {E : Value → Shared → Prop} {s : Shared} {Q : Value → Shared → Prop} {b : Array UInt8} {t : Tok}
theorem ne_none_bytesR (h : Q (.bool true) s) : wpAny (model prog w) A (compareOp .NotEq .none (.bytes b t)) Q E s :=
  rc_ne_decline_or (k := false) rfl (typeIs_bytes s b t) (by decide) sub_bytes_NoneType slot_NoneType_ne FB.slot_bytes_ne
    (fun _ hq => call_gives slot_NoneType_ne rfl entry_NoneType_ne (args_NoneType_ne_2 _ _) (none_ne_bytes b t) hq)
    (fun _ hq => call_gives FB.slot_bytes_ne (typeIs_bytes s b t) FB.entry_bytes_ne (FB.args_bytes_ne_2 _ _) (bytes_ne_none b t) hq)
    (fun _ hq => wpAny_of_eq (rfl : isSame .none (.bytes b t) = pure false) hq) (.inl rfl) h
theorem ne_bytes_noneR (h : Q (.bool true) s) : wpAny (model prog w) A (compareOp .NotEq (.bytes b t) .none) Q E s :=
  rc_ne_decline_or (k := false) (typeIs_bytes s b t) rfl (by decide) sub_NoneType_bytes FB.slot_bytes_ne slot_NoneType_ne_refl
    (fun _ hq => call_gives FB.slot_bytes_ne (typeIs_bytes s b t) FB.entry_bytes_ne (FB.args_bytes_ne_2 _ _) (bytes_ne_none b t) hq)
    (fun _ hq => call_gives slot_NoneType_ne_refl rfl entry_NoneType_ne (args_NoneType_ne_2 _ _) (none_ne_bytes b t) hq)
    (fun _ hq => wpAny_of_eq (rfl : isSame (.bytes b t) .none = pure false) hq) (.inl rfl) h
end
theorem put_at {N : List (List UInt8)} {kvs : List (List UInt8 × Value)} {g : Nat → List UInt8} {r : List UInt8} {q b : Nat} (e : (q : Int) = (b : Int)) (T : TI N kvs (put g q (g b)) r) : TI N kvs g r := by
  have : q = b := by omega
  subst this
  rw [put_same] at T; exact T
theorem told_at {vs : List Value} {N : List (List UInt8)} {g : Nat → List UInt8} {q b : Nat} (e : (q : Int) = (b : Int)) (h : BytesAre vs ((List.range 8).map fun l => nameIn N (txt N (put g q (g b)) (7 - l) (q / 2 ^ (7 - l))))) : BytesAre vs ((List.range 8).map fun l => nameIn N (txt N g (7 - l) (b / 2 ^ (7 - l)))) := by
  have : q = b := by omega
  subst this
  rw [put_same] at h; exact h
theorem same_dec {W : Nat} {ns : List Int} {x y : List UInt8} {f g : Nat → List UInt8} (hn : ns = [] ↔ ∀ j, j < W → decide (f j ≠ g j) = false) (h : x = y ↔ ∀ j, j < W → f j = g j) : decide (ns = []) = decide (x = y) := by
  rw [decide_eq_decide, hn, h]
  simp
end sLD
section sLE
theorem nodup_len {α : Type} [DecidableEq α] : ∀ {l l' : List α}, l.Nodup → (∀ x ∈ l, x ∈ l') → l.length ≤ l'.length
  | [], _, _, _ => Nat.zero_le _
  | a :: t, l', hn, hs => by
    obtain ⟨hat, hnt⟩ := List.nodup_cons.mp hn
    have ha := hs a (.head _)
    have := nodup_len (l' := l'.erase a) hnt fun x hx => (List.mem_erase_of_ne (fun e => hat (by rw [← e]; exact hx))).mpr (hs x (.tail _ hx))
    rw [List.length_erase_of_mem ha] at this
    have hp : 0 < l'.length := List.length_pos_of_mem ha
    simp only [List.length_cons]
    omega
theorem valueAt_of_mem {kvs : List (Int × Value)} (hn : (kvs.map (·.1)).Nodup) {kv : Int × Value} (h : kv ∈ kvs) : valueAt kvs kv.1 = some kv.2 := by
  induction kvs with
  | nil => cases h
  | cons y r ih =>
    rw [List.map_cons, List.nodup_cons] at hn
    unfold valueAt
    rcases List.mem_cons.mp h with rfl | h
    · rw [List.find?_cons_of_pos (by simp)]; rfl
    · rw [List.find?_cons_of_neg (by simpa using fun (e : y.1 = kv.1) => hn.1 (by rw [e]; exact List.mem_map_of_mem h))]
      exact ih hn.2 h
theorem mem_of_valueAt {kvs : List (Int × Value)} {k : Int} {v : Value} (h : valueAt kvs k = some v) : k ∈ kvs.map (·.1) := by
  rcases Classical.em (k ∈ kvs.map (·.1)) with q | q
  · exact q
  · rw [valueAt_none q] at h; cases h
theorem hits_of {A : Around} {s : Shared} {kb : List (Int × Value)} : ∀ {l : List (Int × Value)}, (∀ kv ∈ l, ∃ (v : List UInt8) (t : Tok), kv.2 = .bytes v.toArray t) → (∀ kv ∈ l, valueAt kb kv.1 = none ∨ ∃ (v : List UInt8) (t : Tok), valueAt kb kv.1 = some (.bytes v.toArray t)) →
    ∃ r, KeqHits A s kb l r ∧ (r = true ↔ ∀ kv ∈ l, ∃ (v : List UInt8) (t u : Tok), kv.2 = .bytes v.toArray t ∧ valueAt kb kv.1 = some (.bytes v.toArray u))
  | [], _, _ => ⟨true, .nil, ⟨fun _ kv h => (nomatch h), fun _ => rfl⟩⟩
  | (k, x) :: l, h1, h2 => by
    obtain ⟨r, hr, hri⟩ := hits_of (A := A) (s := s) (fun kv hkv => h1 kv (.tail _ hkv)) (fun kv hkv => h2 kv (.tail _ hkv))
    obtain ⟨v, t, hv⟩ := h1 (k, x) (.head _)
    dsimp only at hv
    subst hv
    rcases h2 (k, _) (.head _) with e | ⟨w, u, e⟩
    · refine ⟨false, .miss e, ⟨fun q => (nomatch q), fun q => ?_⟩⟩
      obtain ⟨_, _, _, _, e2⟩ := q (k, .bytes v.toArray t) (.head _)
      dsimp only at e e2
      rw [e] at e2; cases e2
    · dsimp only at e
      refine ⟨decide (v.toArray.toList = w.toArray.toList) && r, .hit e eqAt_bytes hr, ⟨fun q => ?_, fun q => ?_⟩⟩
      · rw [Bool.and_eq_true, decide_eq_true_iff] at q
        refine List.forall_mem_cons.mpr ⟨⟨v, t, u, rfl, ?_⟩, hri.mp q.2⟩
        have : v = w := by simpa using q.1
        rw [this]; exact e
      · obtain ⟨v', t', u', e1, e2⟩ := q (k, .bytes v.toArray t) (.head _)
        dsimp only at e1 e2
        rw [e] at e2
        have hv : v.toArray = v'.toArray := by injection e1
        have hw : w.toArray = v'.toArray := by injection (Option.some.inj e2)
        rw [Bool.and_eq_true, decide_eq_true_iff, hv, hw]
        exact ⟨rfl, hri.mpr fun kv hkv => q kv (.tail _ hkv)⟩
section
variable {prog : Program} {w : World} {A : Around} {E : Value → Shared → Prop} {s : Shared} {h₀ : Heap} {L a b : Addr} {news : List (Addr × Obj)} {oa ob : Obj} {ka kb : List (Int × Value)} {dflt : List UInt8} {g1 g2 : Nat → List UInt8}
theorem dict_eqP {z : Bool} {Q : Value → Shared → Prop} (N : News h₀ L s.heap news) (pa : (a, oa) ∈ news) (pb : (b, ob) ∈ news) (da : oa.IsDictOf (intKind prog w) ka) (db : ob.IsDictOf (intKind prog w) kb) (la : (a == sysModules) = false) (lb : (b == sysModules) = false)
    (P1 : PD dflt ka g1) (P2 : PD dflt kb g2) (hd : dflt.length ≠ 1) (hu : A.units < cLine) (hz : z = true ↔ ∀ q, q < 256 → g1 q = g2 q) (h : Q (.bool z) s) : wpAny (model prog w) A (compareOp .Eq (.ref a) (.ref b)) Q E s := by
  have na : (ka.map (·.1)).Nodup := by obtain ⟨_, _, _, _, _, _, h⟩ := da; exact h
  have nb : (kb.map (·.1)).Nodup := by obtain ⟨_, _, _, _, _, _, h⟩ := db; exact h
  have bytesA : ∀ kv ∈ ka, ∃ (v : List UInt8) (t : Tok), kv.2 = .bytes v.toArray t := fun kv hkv => by
    obtain ⟨q, hq, e⟩ := P1.2 kv hkv
    have e2 := valueAt_of_mem na hkv
    rw [e] at e2
    rcases P1.1 q hq with ⟨e3, _⟩ | ⟨v, t, e3, _⟩
    · rw [e3] at e2; cases e2
    · rw [e3] at e2; exact ⟨v, t, (Option.some.inj e2).symm⟩
  have bytesB : ∀ kv ∈ ka, valueAt kb kv.1 = none ∨ ∃ (v : List UInt8) (t : Tok), valueAt kb kv.1 = some (.bytes v.toArray t) := fun kv hkv => by
    obtain ⟨q, hq, e⟩ := P1.2 kv hkv
    rw [e]
    rcases P2.1 q hq with ⟨e3, _⟩ | ⟨v, t, e3, _⟩
    · exact .inl e3
    · exact .inr ⟨v, t, e3⟩
  obtain ⟨r, hr, hri⟩ := hits_of (A := A.in1) (s := s) bytesA bytesB
  refine keq_eq la lb (Heap.dictOf_iff.mpr ⟨oa, (N _ pa).1, da⟩) (Heap.dictOf_iff.mpr ⟨ob, (N _ pb).1, db⟩) hu (fun _ => hr) ?_
  have e : (ka.length == kb.length && r) = z := by
    rw [Bool.eq_iff_iff, Bool.and_eq_true, beq_iff_eq, hz, hri]
    constructor
    · rintro ⟨hl, hm⟩ q hq
      have sub : ∀ x ∈ ka.map (·.1), x ∈ kb.map (·.1) := fun x hx => by
        obtain ⟨kv, hkv, rfl⟩ := List.mem_map.mp hx
        obtain ⟨v, t, u, _, e2⟩ := hm kv hkv
        exact mem_of_valueAt e2
      rcases P1.1 q hq with ⟨e1, c1⟩ | ⟨v, t, e1, c1, l1⟩
      · rcases P2.1 q hq with ⟨e2, c2⟩ | ⟨v2, t2, e2, c2, l2⟩
        · rw [c1, c2]
        · exfalso
          have hk : (q : Int) ∉ ka.map (·.1) := fun hx => by
            obtain ⟨kv, hkv, e⟩ := List.mem_map.mp hx
            have := valueAt_of_mem na hkv
            rw [e, e1] at this; cases this
          have := nodup_len (l := (q : Int) :: ka.map (·.1)) (l' := kb.map (·.1)) (List.nodup_cons.mpr ⟨hk, na⟩) (List.forall_mem_cons.mpr ⟨mem_of_valueAt e2, sub⟩)
          simp only [List.length_cons, List.length_map] at this
          omega
      · obtain ⟨kv, hkv, e⟩ := List.mem_map.mp (mem_of_valueAt e1)
        have e3 := valueAt_of_mem na hkv
        obtain ⟨v', t', u', e4, e5⟩ := hm kv hkv
        rw [e, e1] at e3
        rw [e] at e5
        rw [e4] at e3
        have hv : v = v' := by
          have : v.toArray = v'.toArray := by injection (Option.some.inj e3)
          simpa using congrArg Array.toList this
        rcases P2.1 q hq with ⟨e6, c6⟩ | ⟨w, tw, e6, c6, _⟩
        · rw [e6] at e5; cases e5
        · rw [e6] at e5
          have hw : w = v' := by
            have : w.toArray = v'.toArray := by injection (Option.some.inj e5)
            simpa using congrArg Array.toList this
          rw [c1, c6, hv, hw]
    · intro hc
      have both : ∀ q : Nat, q < 256 → ∀ v t, valueAt ka (q : Int) = some (.bytes (List.toArray v) t) → ∃ u, valueAt kb (q : Int) = some (.bytes v.toArray u) := fun q hq v t e1 => by
        have hg := hc q hq
        rcases P1.1 q hq with ⟨e, _⟩ | ⟨v', t', e, c1, l1⟩
        · rw [e] at e1; cases e1
        · rw [e] at e1
          have hv : v' = v := by
            have : v'.toArray = v.toArray := by injection (Option.some.inj e1)
            simpa using congrArg Array.toList this
          rcases P2.1 q hq with ⟨_, c2⟩ | ⟨v2, t2, e2, c2, _⟩
          · rw [c1, c2] at hg; rw [← hg] at hd; exact absurd l1 hd
          · rw [c1, c2] at hg; rw [← hv, hg]; exact ⟨t2, e2⟩
      have subA : ∀ x ∈ ka.map (·.1), x ∈ kb.map (·.1) := fun x hx => by
        obtain ⟨kv, hkv, rfl⟩ := List.mem_map.mp hx
        obtain ⟨q, hq, e⟩ := P1.2 kv hkv
        obtain ⟨v, t, e2⟩ := bytesA kv hkv
        have e3 := valueAt_of_mem na hkv
        rw [e2, e] at e3
        obtain ⟨u, e4⟩ := both q hq v t e3
        rw [e]; exact mem_of_valueAt e4
      have subB : ∀ x ∈ kb.map (·.1), x ∈ ka.map (·.1) := fun x hx => by
        obtain ⟨kv, hkv, rfl⟩ := List.mem_map.mp hx
        obtain ⟨q, hq, e⟩ := P2.2 kv hkv
        have e3 := valueAt_of_mem nb hkv
        rw [e] at e3 ⊢
        have hg := hc q hq
        rcases P1.1 q hq with ⟨_, c1⟩ | ⟨v', t', e1, _, _⟩
        · rcases P2.1 q hq with ⟨e2, _⟩ | ⟨v2, t2, _, c2, l2⟩
          · rw [e2] at e3; cases e3
          · rw [c1, c2] at hg; rw [hg] at hd; exact absurd l2 hd
        · exact mem_of_valueAt e1
      have l1 := nodup_len na subA
      have l2 := nodup_len nb subB
      simp only [List.length_map] at l1 l2
      refine ⟨by omega, fun kv hkv => ?_⟩
      obtain ⟨q, hq, e⟩ := P1.2 kv hkv
      obtain ⟨v, t, e2⟩ := bytesA kv hkv
      have e3 := valueAt_of_mem na hkv
      rw [e2, e] at e3
      obtain ⟨u, e4⟩ := both q hq v t e3
      exact ⟨v, t, u, e2, by rw [e]; exact e4⟩
  rw [e]; exact h
theorem ne_bool_self {x : Bool} {Q : Value → Shared → Prop} (h : Q (.bool false) s) : wpAny (model prog w) A (compareOp .NotEq (.bool x) (.bool x)) Q E s := ne_bool (by cases x <;> exact h)
theorem eq_bool_self {x : Bool} {Q : Value → Shared → Prop} (h : Q (.bool true) s) : wpAny (model prog w) A (compareOp .Eq (.bool x) (.bool x)) Q E s := eq_bool (by cases x <;> exact h)
theorem tuple_of8 {m : Str → Option Value} {vs : List Value} {n : Nat} {l : Addr} {Q : Value → Shared → Prop} (F : Fr h₀ L s.heap m) (N : News h₀ L s.heap news) (hm : (l, W.listOf vs.toArray n) ∈ news) (h8 : vs.length = 8)
    (h : ∀ D h', Fr h₀ L h' m → News h₀ L h' ((D, tupObj vs) :: news) → (∀ p ∈ news, p.1 < D) → Q (.ref D) { s with heap := h' }) : wpAny (model prog w) A (call (.type "tuple") [.ref l]) Q E s :=
  kde_tupleOf F N (N.isList hm) (by rw [List.size_toArray, h8]; decide) rfl h
end
theorem root_eq {N : List (List UInt8)} {kvs kvs' : List (List UInt8 × Value)} {c e : Nat → List UInt8} {r r' : List UInt8} (hN : N.length < 1000000) (Tc : TI N kvs c r) (Te : TI N kvs' e r') : (r.toArray.toList == r'.toArray.toList) = true ↔ ∀ q, q < 256 → c q = e q := by
  rw [beq_iff_eq]
  exact root_iff hN Tc Te
theorem calc_T {w : World} {dp un : Nat} {gd : Option (List Code)} {cn : Str} {cs : Scope} {a : Addr} {ccd : Value} {cl : List (Str × Addr)} {outer : List Env} {A₀ : Around} {base h₀ : Heap} {L : Addr} {m : Str → Option Value}
    {p : Program} {loose : List Str} {mean : ExcName → Option Value} {mg mb : Str → Option Value} {s : Shared} {Q E : Value → Shared → Prop}
    {br f d : Addr} {on : Obj} {vs : List Value} {N : List (List UInt8)} {kvs : List (List UInt8 × Value)} {c : Nat → List UInt8} {root v : List UInt8} {k : Nat} {t tv : Tok}
    (B : Below A₀ base outer h₀) (F : Fr h₀ L s.heap m) (X : (K39 w.params).In h₀) (T : Top p loose mean mg mb h₀) (hk : cs.kind = .function) (hdp : dp + 16 < recursionLimit)
    (Nw : News h₀ L s.heap [(br, tupObj vs), (d, on)]) (lo : (d == sysModules) = false) (nf : NF s.heap f d)
    (hon : NamesObj w on N) (hN : N.length < 50000) (hk8 : k < 256) (TT : TI N kvs c root) (hb : BytesAre vs ((List.range 8).map (sibOf N c k)))
    (ret : ∀ h' tk' N' (hh : List UInt8) on' t', (∃ S, N' = N ++ S) → (hh.toArray.toList == root.toArray.toList) = decide (v = c k) → (hh.toArray.toList != root.toArray.toList) = !decide (v = c k) → N'.length ≤ N.length + 9 → Kept [d] s.heap h' → h'.get? d = some on' → NamesObj w on' N' → Q (.bytes hh.toArray t') { s with heap := h', toks := tk' }) :
    wpAny (model PG w) (ktrTop dp un gd cn cs L a ccd cl outer) (call (.ref 76) [.bytes (keyB k).toArray t, .bytes v.toArray tv, .ref br, .ref f]) Q E s := by
  refine calc_spec B F X T hk hdp (fun p hp => Nw p (.tail _ hp)) (Nw _ (.head _)).1 lo nf hon hN hk8 hb (fun i _ => sibOf_length N c k i) ?_
  intro h' tk' N' hh on' t' R K e hon'
  obtain ⟨hS, hi, hl⟩ := calc_iff TT hk8 (by omega) R
  have h1 : (hh.toArray.toList == root.toArray.toList) = decide (v = c k) := by
    rw [Bool.eq_iff_iff, decide_eq_true_iff, beq_iff_eq]; exact hi
  exact ret h' tk' N' hh on' t' hS h1 (by rw [bne, h1]) hl K e hon'
theorem calc_S {w : World} {dp un : Nat} {gd : Option (List Code)} {cn : Str} {cs : Scope} {a : Addr} {ccd : Value} {cl : List (Str × Addr)} {outer : List Env} {A₀ : Around} {base h₀ : Heap} {L : Addr} {m : Str → Option Value}
    {p : Program} {loose : List Str} {mean : ExcName → Option Value} {mg mb : Str → Option Value} {s : Shared} {Q E : Value → Shared → Prop}
    {br f d : Addr} {on : Obj} {vs : List Value} {N : List (List UInt8)} {kvs : List (List UInt8 × Value)} {c : Nat → List UInt8} {root v : List UInt8} {k : Nat} {t tv : Tok}
    (B : Below A₀ base outer h₀) (F : Fr h₀ L s.heap m) (X : (K39 w.params).In h₀) (T : Top p loose mean mg mb h₀) (hk : cs.kind = .function) (hdp : dp + 16 < recursionLimit)
    (Nw : News h₀ L s.heap [(br, tupObj vs), (d, on)]) (lo : (d == sysModules) = false) (nf : NF s.heap f d)
    (hon : NamesObj w on N) (hN : N.length < 50000) (hk8 : k < 256) (TT : TI N kvs c root) (hb : BytesAre vs ((List.range 8).map (sibOf N c k))) (hv : v = c k)
    (ret : ∀ h' tk' N' (hh : List UInt8) on' t', (∃ S, N' = N ++ S) → (hh.toArray.toList != root.toArray.toList) = false → N'.length ≤ N.length + 9 → Kept [d] s.heap h' → h'.get? d = some on' → NamesObj w on' N' → Q (.bytes hh.toArray t') { s with heap := h', toks := tk' }) :
    wpAny (model PG w) (ktrTop dp un gd cn cs L a ccd cl outer) (call (.ref 76) [.bytes (keyB k).toArray t, .bytes v.toArray tv, .ref br, .ref f]) Q E s := by
  refine calc_T B F X T hk hdp Nw lo nf hon hN hk8 TT hb ?_
  intro h' tk' N' hh on' t' hS q1 q2 hl K e hon'
  rw [hv, decide_eq_true rfl] at q2
  exact ret h' tk' N' hh on' t' hS q2 hl K e hon'
theorem bytes_grow {N N' : List (List UInt8)} {kvs : List (List UInt8 × Value)} {c : Nat → List UInt8} {r : List UInt8} {k : Nat} {us : List Value} (e : ∃ S, N' = N ++ S) (hk : k < 256) (T : TI N kvs c r) (h : BytesAre us ((List.range 8).map (sibOf N c k))) : BytesAre us ((List.range 8).map (sibOf N' c k)) := by
  rw [sibs_grow T hk e]; exact h
end sLE
section sL4
-- room
-- where the walk halts


-- dicts keyed by octets


-- lists

-- octets



-- reversed(t)

-- tuple(reversed(xs))

-- name_of



-- _get




-- the law's level













theorem seg4 {w : World} {dp un : Nat} {gd : Option (List Code)} {cn : Str} {a : Addr} {ccd : Value} {outer : List Env} {A₀ : Around} {base h₀ : Heap} {L : Addr} {m : Str → Option Value}
    {p : Program} {loose : List Str} {mean : ExcName → Option Value} {mg mb : Str → Option Value} {s : Shared} {Q : Flow → Shared → Prop} {E : Value → Shared → Prop}
    (B : Below A₀ base outer h₀) (X : (K39 w.params).In h₀) (T : Top p loose mean mg mb h₀) (hdp : dp + 40 < recursionLimit) (hun : un + 200 < cLine)
    {c1 c2 c3 f d cc : Addr} {o1 o2 o3 fo oc on otab : Obj} {lc : Addr} {vs : List Value} {ns : List Int} {e1 e2 : Option Value}
    (F : Fr h₀ L s.heap m) (Nw : News h₀ L s.heap [(lc, W.listOf vs.toArray 0), (d, on), (f, fo), (cc, oc), (c3, o3), (c2, o2), (c1, o1), (262, otab)])
    (ord : Asc [262, c1, c2, c3, d, cc, f, lc]) (nfa : NFat f d fo cc oc c3 o3) (lo : (d == sysModules) = false) (hvs : IntsAre vs ns) (hns : ns.length = 15) (hon : on.IsDictOf (bytesKind PG w) []) (hc1 : o1.data = .cell e1) (hc2 : o2.data = .cell e2)
    (mcells : m (Str.ofString "cells") = some (.ref lc)) (mname_of : m (Str.ofString "name_of") = some (.ref f))
    (hE : PassesOwn (model PG w) (ktrTop dp un gd cn lawScope L a ccd [(Str.ofString "names", c3), (Str.ofString "two", c2), (Str.ofString "one", c1)] outer) (envX cn lawScope L a ccd [(Str.ofString "names", c3), (Str.ofString "two", c2), (Str.ofString "one", c1)]) E)
    (ret : ∀ (h' : Heap) (tk' : Tok) (m : Str → Option Value) (o1 o2 on : Obj) (x1 dx1 db1 x2 dx2 db2 pl1 pl2 : Addr) (odb1 odb2 opl1 opl2 : Obj) (τ1 τ2 : Nat → Tok) (dflt root1 root2 : List UInt8) (kvs1 kvs2 : List (List UInt8 × Value)) (ikvs1 ikvs2 : List (Int × Value)) (N : List (List UInt8)) (g1 g2 : Nat → List UInt8) (td : Tok), Fr h₀ L h' m → News h₀ L h' [(x1, instObj 235 dx1), (dx1, dictOf (treeAttrs w.params τ1 dflt root1 f db1) 6), (db1, odb1), (x2, instObj 235 dx2), (dx2, dictOf (treeAttrs w.params τ2 dflt root2 f db2) 6), (db2, odb2), (pl1, opl1), (pl2, opl2), (d, on), (f, fo), (cc, oc), (c3, o3), (c2, o2), (c1, o1), (lc, W.listOf vs.toArray 0), (262, otab)] →
      (Asc [262, c1, c2, c3, d, cc, f, lc, dx1, x1, db1, dx2, x2, db2, pl1, pl2]) → (NFat f d fo cc oc c3 o3) → ((d == sysModules) = false) → (NamesObj w on N) → (IntsAre vs ns) → (ns.length = 15) → ((pl1 == sysModules) = false) → ((pl2 == sysModules) = false) → (o1.data = .cell (some (.ref pl1))) → (o2.data = .cell (some (.ref pl2))) → (odb1.IsDictOf (BK w) kvs1) → (odb2.IsDictOf (BK w) kvs2) → (opl1.IsDictOf (intKind PG w) ikvs1) → (opl2.IsDictOf (intKind PG w) ikvs2) → (dflt.length ≤ 2) → (dflt.length ≠ 1) → (TI N kvs1 g1 root1) → (TI N kvs2 g2 root2) → (PD dflt ikvs1 g1) → (PD dflt ikvs2 g2) → (N.length ≤ 18) → (kvs1.length ≤ 9) → (kvs2.length ≤ 9) → (ikvs1.length ≤ 0) → (ikvs2.length ≤ 0) →
      (m (Str.ofString "first") = some (.ref x1)) → (m (Str.ofString "second") = some (.ref x2)) → (m (Str.ofString "name_of") = some (.ref f)) → (m (Str.ofString "cells") = some (.ref lc)) → (m (Str.ofString "default") = some (.bytes dflt.toArray td)) → wpAny (model PG w) (ktrTop dp un gd cn lawScope L a ccd [(Str.ofString "names", c3), (Str.ofString "two", c2), (Str.ofString "one", c1)] outer) (execs (lawBody.drop 7) (envX cn lawScope L a ccd [(Str.ofString "names", c3), (Str.ofString "two", c2), (Str.ofString "one", c1)])) Q E { s with heap := h', toks := tk' }) :
    wpAny (model PG w) (ktrTop dp un gd cn lawScope L a ccd [(Str.ofString "names", c3), (Str.ofString "two", c2), (Str.ofString "one", c1)] outer) (execs (lawBody.drop 4) (envX cn lawScope L a ccd [(Str.ofString "names", c3), (Str.ofString "two", c2), (Str.ofString "one", c1)])) Q E s := by
  have F1 := Fr.known F [(Str.ofString "cells", _), (Str.ofString "name_of", _)] (List.forall_mem_cons.mpr ⟨mcells, List.forall_mem_cons.mpr ⟨mname_of, List.forall_mem_nil _⟩⟩)
  clear F mcells mname_of
  conv in (occs := *) lawScope => all_goals whnf
  conv in lawBody.drop _ => whnf
  try k_fold
  repeat' (first | (k_here; (with_reducible show wpAny _ _ (execs (Stmt.For _ _ _ _ _ :: _) _) _ _ _); (refine halt ?_)) | (k_here; (with_reducible show wpAny _ _ (call (Value.ref 235) [_, _, _]) _ _ _); k_dflt (refine' tree_T ?r23B ?r23F ?r23X ?r23T ?r23hk ?r23dp ?r23N ?r23lo ?r23nf ?r23hon ?r23hN ?r23hvl ?_; (case r23nf => first | exact NFat.nf (by assumption) (by k_asm) (by k_mem) (by k_mem) (by k_mem) | (refine' NFat.nf (nf_at ?r23u1 ?r23u2 ?r23u3 ?r23u4) ?r23u5 ?r23u6 ?r23u7 ?r23u8; (case r23u5 => k_asm); (case r23u6 => k_mem); (case r23u1 => rfl); (case r23u7 => k_mem); (case r23u8 => k_mem); (case r23u2 => k_asm); (case r23u3 => k_asm); (case r23u4 => k_asm))); (case r23B => k_asm); (case r23F => k_asm); (case r23X => k_asm); (case r23T => k_asm); (case r23hk => exact rfl); (case r23dp => k_room); (case r23hon => first | k_asm | exact names_nil (by k_asm)); (case r23N => exact news1 (by k_asm) (by k_mem)); (case r23lo => k_asm); (case r23hN => first | omega | exact Nat.le_of_ble_eq_true rfl); (case r23hvl => omega)); intro h' x' dx' db' tk' N' kvs' root' odb' on' τ' hS' T' hl' hk' K' ex' edx' edb' hdb' ed' hon' fx' fdx' fdb' ord' lts'; (obtain ⟨F', N2', l1⟩ := tree_side (by k_asm) (by k_asm) (by k_updF) K' ed' ex' edx' edb' fx' fdx' fdb' lts'); (try dsimp only at N2'); (try k_lt l1); (have l2 := LtAll.up l1 ord'.2.1); (have l3 := LtAll.up l2 ord'.2.2); (try simp only [List.length_nil, Nat.zero_add] at hl'); clear K' ex' edx' edb' ed' fx' fdx' fdb' lts'; (try k_sweep)) | (k_here; (with_reducible show wpAny _ _ (subscriptTail _ _ (Value.ref _) (Value.int _ _)) _ _ _); k_dflt (refine' cell_P ?r20k1 ?r20k2 ?r20k3 ?r20k4 ?r20k5 ?_ ?r20k6; (case r20k1 => kmk_list); (case r20k2 => k_asm); (case r20k3 => k_asm); (case r20k4 => omega); (case r20k5 => omega); (case r20k6 => with_unfolding_all rfl)); intro _ _) | (k_here; (with_reducible show wpAny _ _ (subscriptTail _ _ (Value.ref _) (Value.int _ _)) _ _ _); (with_unfolding_all refine' dflt_P ?r19k1 ?r19k3 ?r19k4 ?r19k5 ?r19k7 ?_ ?r19k6; (case r19k1 => is_list); (case r19k3 => l_idx); (case r19k4 => l_idx); (case r19k5 => l_idx); (case r19k6 => with_unfolding_all rfl); (case r19k7 => (exact List.forall_mem_cons.mpr ⟨⟨[], _, rfl, by decide, by decide⟩, List.forall_mem_cons.mpr ⟨⟨[45, 45], _, rfl, by decide, by decide⟩, List.forall_mem_nil _⟩⟩)); k_whole); intro _ _ _ _) | (k_here; (with_reducible show wpAny _ _ (execs _ _) _ _ _); dsimp only; walk1) | (k_here; (with_reducible show wpAny _ _ (eval (Expr.Dict [] [] _) _) _ _ _); k_dflt (refine' newDict_L ?r15k1 ?r15k2 (TopRead.nolimit (by k_asm)) ?_; (case r15k1 => k_asm); (case r15k2 => k_asm)); intro d' h' o' F' N' l1 lo' hb' hi'; (try k_lt l1); (try k_sweep)) | (k_unfold; (try dsimp only)) | walk1 | (dsimp only; walk1) | (leave1; (try dsimp only)))
  dsimp only [Halt]
  rename Fr h₀ L _ _ => FE
  rename News h₀ L _ _ => NE
  refine' ret _ _ _ _ _ _ _ _ _ _ _ _ _ _ _ _ _ _ _ _ _ _ _ _ _ _ _ _ _ _ _ FE ?hNN ?f_ord ?f_nfa ?f_lo ?f_hon ?f_hvs ?f_hns ?f_lopl1 ?f_lopl2 ?f_hc1 ?f_hc2 ?f_hdb1 ?f_hdb2 ?f_hpl1 ?f_hpl2 ?f_hd2 ?f_hd1 ?f_T1 ?f_T2 ?f_P1 ?f_P2 ?f_bN ?f_bk1 ?f_bk2 ?f_bi1 ?f_bi2 ?l_first ?l_second ?l_name_of ?l_cells ?l_default
  case l_first => rfl
  case l_second => rfl
  case l_name_of => rfl
  case l_cells => rfl
  case l_default => rfl
  case' hNN => refine' newsC NE ?n_x1 (newsC NE ?n_dx1 (newsC NE ?n_db1 (newsC NE ?n_x2 (newsC NE ?n_dx2 (newsC NE ?n_db2 (newsC NE ?n_pl1 (newsC NE ?n_pl2 (newsC NE ?n_d (newsC NE ?n_f (newsC NE ?n_cc (newsC NE ?n_c3 (newsC NE ?n_c2 (newsC NE ?n_c1 (newsC NE ?n_lc (newsC NE ?n_262 (List.forall_mem_nil _))))))))))))))))
  case n_c2 => k_mem
  case n_c1 => k_mem
  case f_hc1 => first | assumption | omega
  case f_hc2 => first | assumption | omega
  case n_x1 => k_mem
  case n_dx1 => k_mem
  case n_db1 => k_mem
  case n_x2 => k_mem
  case n_dx2 => k_mem
  case n_db2 => k_mem
  case n_pl1 => k_mem
  case n_pl2 => k_mem
  case n_d => k_mem
  case f_hon => first | assumption | omega
  case f_hdb1 => first | assumption | omega
  case f_hdb2 => first | assumption | omega
  case f_hpl1 => first | assumption | omega
  case f_hpl2 => first | assumption | omega
  case f_T1 => first | assumption | exact TI.growE (by assumption) (by assumption)
  case f_T2 => first | assumption | exact TI.growE (by assumption) (by assumption)
  case n_f => k_mem
  case n_cc => k_mem
  case n_c3 => k_mem
  case n_lc => k_mem
  case n_262 => k_mem
  case f_ord => (first | with_reducible assumption | ((repeat' (first | exact asc_one | refine asc_cons ?_ ?_ | apply And.intro)) <;> tlg_ne))
  case f_nfa => first | assumption | omega
  case f_lo => first | assumption | omega
  case f_hvs => first | assumption | omega
  case f_hns => first | assumption | omega
  case f_lopl1 => first | assumption | omega
  case f_lopl2 => first | assumption | omega
  case f_hd2 => first | assumption | omega
  case f_hd1 => first | assumption | omega
  case f_P1 => exact pd_nil
  case f_P2 => exact pd_nil
  case f_bN => first | assumption | omega
  case f_bk1 => first | assumption | omega
  case f_bk2 => first | assumption | omega
  case f_bi1 => exact Nat.le_refl _
  case f_bi2 => exact Nat.le_refl _
end sL4
section sL7
-- room
-- where the walk halts


-- dicts keyed by octets


-- lists

-- octets



-- reversed(t)

-- tuple(reversed(xs))

-- name_of



-- _get




-- the law's level













noncomputable def JD (w : World) (x1 dx1 db1 x2 dx2 db2 pl1 pl2 c1 c2 c3 f d cc lc : Addr) (o1 o2 o3 fo oc otab : Obj) (dflt : List UInt8) (vs : List Value) (td : Tok) (nb kb ib : Nat) (i : Nat) (m : Str → Option Value) (nx : List (Addr × Obj)) : Prop :=
  ∃ (on : Obj) (odb1 odb2 opl1 opl2 : Obj) (τ1 τ2 : Nat → Tok) (root1 root2 : List UInt8) (kvs1 kvs2 : List (List UInt8 × Value)) (ikvs1 ikvs2 : List (Int × Value)) (N : List (List UInt8)) (g1 g2 : Nat → List UInt8), nx = [(x1, instObj 235 dx1), (dx1, dictOf (treeAttrs w.params τ1 dflt root1 f db1) 6), (db1, odb1), (x2, instObj 235 dx2), (dx2, dictOf (treeAttrs w.params τ2 dflt root2 f db2) 6), (db2, odb2), (pl1, opl1), (pl2, opl2), (d, on), (f, fo), (cc, oc), (c3, o3), (c2, o2), (c1, o1), (lc, W.listOf vs.toArray 0), (262, otab)] ∧
    (NamesObj w on N) ∧ (odb1.IsDictOf (BK w) kvs1) ∧ (odb2.IsDictOf (BK w) kvs2) ∧ (opl1.IsDictOf (intKind PG w) ikvs1) ∧ (opl2.IsDictOf (intKind PG w) ikvs2) ∧ (TI N kvs1 g1 root1) ∧ (TI N kvs2 g2 root2) ∧ (PD dflt ikvs1 g1) ∧ (PD dflt ikvs2 g2) ∧ (N.length ≤ nb + 18 * i) ∧ (kvs1.length ≤ kb + 9 * i) ∧ (kvs2.length ≤ kb + 9 * i) ∧ (ikvs1.length ≤ ib + i) ∧ (ikvs2.length ≤ ib + i) ∧
    (m (Str.ofString "first") = some (.ref x1)) ∧ (m (Str.ofString "second") = some (.ref x2)) ∧ (m (Str.ofString "name_of") = some (.ref f)) ∧ (m (Str.ofString "cells") = some (.ref lc)) ∧ (m (Str.ofString "default") = some (.bytes dflt.toArray td))
theorem seg7 {w : World} {dp un : Nat} {gd : Option (List Code)} {cn : Str} {a : Addr} {ccd : Value} {outer : List Env} {A₀ : Around} {base h₀ : Heap} {L : Addr} {m : Str → Option Value}
    {p : Program} {loose : List Str} {mean : ExcName → Option Value} {mg mb : Str → Option Value} {s : Shared} {Q : Flow → Shared → Prop} {E : Value → Shared → Prop}
    (B : Below A₀ base outer h₀) (X : (K39 w.params).In h₀) (T : Top p loose mean mg mb h₀) (hdp : dp + 40 < recursionLimit) (hun : un + 200 < cLine)
    {c1 c2 c3 f d cc : Addr} {o1 o2 o3 fo oc on otab : Obj} {lc : Addr} {vs : List Value} {ns : List Int} {x1 dx1 db1 x2 dx2 db2 pl1 pl2 : Addr} {odb1 odb2 opl1 opl2 : Obj} {τ1 τ2 : Nat → Tok} {dflt root1 root2 : List UInt8} {kvs1 kvs2 : List (List UInt8 × Value)} {ikvs1 ikvs2 : List (Int × Value)} {N : List (List UInt8)} {g1 g2 : Nat → List UInt8} {td : Tok}
    (F : Fr h₀ L s.heap m) (Nw : News h₀ L s.heap [(x1, instObj 235 dx1), (dx1, dictOf (treeAttrs w.params τ1 dflt root1 f db1) 6), (db1, odb1), (x2, instObj 235 dx2), (dx2, dictOf (treeAttrs w.params τ2 dflt root2 f db2) 6), (db2, odb2), (pl1, opl1), (pl2, opl2), (d, on), (f, fo), (cc, oc), (c3, o3), (c2, o2), (c1, o1), (lc, W.listOf vs.toArray 0), (262, otab)])
    (ord : Asc [262, c1, c2, c3, d, cc, f, lc, dx1, x1, db1, dx2, x2, db2, pl1, pl2]) (nfa : NFat f d fo cc oc c3 o3) (lo : (d == sysModules) = false) (hon : NamesObj w on N) (hvs : IntsAre vs ns) (hns : ns.length = 15) (lopl1 : (pl1 == sysModules) = false) (lopl2 : (pl2 == sysModules) = false) (hc1 : o1.data = .cell (some (.ref pl1))) (hc2 : o2.data = .cell (some (.ref pl2))) (hdb1 : odb1.IsDictOf (BK w) kvs1) (hdb2 : odb2.IsDictOf (BK w) kvs2) (hpl1 : opl1.IsDictOf (intKind PG w) ikvs1) (hpl2 : opl2.IsDictOf (intKind PG w) ikvs2) (hd2 : dflt.length ≤ 2) (hd1 : dflt.length ≠ 1) (T1 : TI N kvs1 g1 root1) (T2 : TI N kvs2 g2 root2) (P1 : PD dflt ikvs1 g1) (P2 : PD dflt ikvs2 g2) (bN : N.length ≤ 18) (bk1 : kvs1.length ≤ 9) (bk2 : kvs2.length ≤ 9) (bi1 : ikvs1.length ≤ 0) (bi2 : ikvs2.length ≤ 0)
    (mfirst : m (Str.ofString "first") = some (.ref x1)) (msecond : m (Str.ofString "second") = some (.ref x2)) (mname_of : m (Str.ofString "name_of") = some (.ref f)) (mcells : m (Str.ofString "cells") = some (.ref lc)) (mdefault : m (Str.ofString "default") = some (.bytes dflt.toArray td))
    (hE : PassesOwn (model PG w) (ktrTop dp un gd cn lawScope L a ccd [(Str.ofString "names", c3), (Str.ofString "two", c2), (Str.ofString "one", c1)] outer) (envX cn lawScope L a ccd [(Str.ofString "names", c3), (Str.ofString "two", c2), (Str.ofString "one", c1)]) E)
    (ret : ∀ (h' : Heap) (tk' : Tok) (m : Str → Option Value) (on : Obj) (odb1 odb2 opl1 opl2 : Obj) (τ1 τ2 : Nat → Tok) (root1 root2 : List UInt8) (kvs1 kvs2 : List (List UInt8 × Value)) (ikvs1 ikvs2 : List (Int × Value)) (N : List (List UInt8)) (g1 g2 : Nat → List UInt8), Fr h₀ L h' m → News h₀ L h' [(x1, instObj 235 dx1), (dx1, dictOf (treeAttrs w.params τ1 dflt root1 f db1) 6), (db1, odb1), (x2, instObj 235 dx2), (dx2, dictOf (treeAttrs w.params τ2 dflt root2 f db2) 6), (db2, odb2), (pl1, opl1), (pl2, opl2), (d, on), (f, fo), (cc, oc), (c3, o3), (c2, o2), (c1, o1), (lc, W.listOf vs.toArray 0), (262, otab)] →
      (Asc [262, c1, c2, c3, d, cc, f, lc, dx1, x1, db1, dx2, x2, db2, pl1, pl2]) → (NFat f d fo cc oc c3 o3) → ((d == sysModules) = false) → (NamesObj w on N) → (IntsAre vs ns) → (ns.length = 15) → ((pl1 == sysModules) = false) → ((pl2 == sysModules) = false) → (o1.data = .cell (some (.ref pl1))) → (o2.data = .cell (some (.ref pl2))) → (odb1.IsDictOf (BK w) kvs1) → (odb2.IsDictOf (BK w) kvs2) → (opl1.IsDictOf (intKind PG w) ikvs1) → (opl2.IsDictOf (intKind PG w) ikvs2) → (dflt.length ≤ 2) → (dflt.length ≠ 1) → (TI N kvs1 g1 root1) → (TI N kvs2 g2 root2) → (PD dflt ikvs1 g1) → (PD dflt ikvs2 g2) → (N.length ≤ 170) → (kvs1.length ≤ 90) → (kvs2.length ≤ 90) → (ikvs1.length ≤ 9) → (ikvs2.length ≤ 9) →
      (m (Str.ofString "first") = some (.ref x1)) → (m (Str.ofString "second") = some (.ref x2)) → (m (Str.ofString "name_of") = some (.ref f)) → (m (Str.ofString "cells") = some (.ref lc)) → (m (Str.ofString "default") = some (.bytes dflt.toArray td)) → wpAny (model PG w) (ktrTop dp un gd cn lawScope L a ccd [(Str.ofString "names", c3), (Str.ofString "two", c2), (Str.ofString "one", c1)] outer) (execs (lawBody.drop 9) (envX cn lawScope L a ccd [(Str.ofString "names", c3), (Str.ofString "two", c2), (Str.ofString "one", c1)])) Q E { s with heap := h', toks := tk' }) :
    wpAny (model PG w) (ktrTop dp un gd cn lawScope L a ccd [(Str.ofString "names", c3), (Str.ofString "two", c2), (Str.ofString "one", c1)] outer) (execs (lawBody.drop 7) (envX cn lawScope L a ccd [(Str.ofString "names", c3), (Str.ofString "two", c2), (Str.ofString "one", c1)])) Q E s := by
  have F1 := Fr.known F [(Str.ofString "first", _), (Str.ofString "second", _), (Str.ofString "name_of", _), (Str.ofString "cells", _), (Str.ofString "default", _)] (List.forall_mem_cons.mpr ⟨mfirst, List.forall_mem_cons.mpr ⟨msecond, List.forall_mem_cons.mpr ⟨mname_of, List.forall_mem_cons.mpr ⟨mcells, List.forall_mem_cons.mpr ⟨mdefault, List.forall_mem_nil _⟩⟩⟩⟩⟩)
  clear F mfirst msecond mname_of mcells mdefault
  conv in (occs := *) lawScope => all_goals whnf
  conv in lawBody.drop _ => whnf
  try k_fold
  repeat' (first | (k_here; (with_reducible show wpAny _ _ (exec (Stmt.For (Expr.Name _ _) (Expr.Subscript _ _ _) _ _ _) _) _ _ _); (rename Fr _ _ _ _ => lF'); (with_unfolding_all refine' For_invVF (hE := by assumption) lF' ?r22k1 ?r22k2 ?_; (case r22k1 => exact rfl); (case r22k2 => exact rfl))) | (k_here; (with_reducible show wpAny _ _ (subscriptTail _ (PySem.Expr.Slice _ _ none _) (Value.ref _) (Value.ref _)) _ _ _); k_dflt (refine' slice3 ?r21F ?r21N ?r21l ?r21i ?r21c ?_ ?r21s ?r21t; (case r21F => k_asm); (case r21N => k_asm); (case r21l => kmk_list); (case r21i => k_asm); (case r21c => k_asm); (case r21s => with_unfolding_all rfl); (case r21t => kmk_pure)); intro D' ws' h' ms' F' N' l1 hI' hL'; (try k_lt l1); (try k_sweep)) | (k_here; (with_reducible show wpAny _ _ (pyIter (Value.ref _)) (fun it s₂ => LoopAtV _ _ _ _ _ _ _ _ _ it s₂) _ _); (refine halt ?_)) | (k_unfold; (try dsimp only)) | walk1 | (dsimp only; walk1) | (leave1; (try dsimp only)))
  rename News h₀ L _ _ => NR
  rename Fr h₀ L _ _ => FR
  rename IntsAre _ _ => hIw
  have hws := hIw.length
  have NL := news_tail NR
  refine' loop_ints (JD w x1 dx1 db1 x2 dx2 db2 pl1 pl2 c1 c2 c3 f d cc lc o1 o2 o3 fo oc otab dflt vs td 18 9 0) rfl FR (news1 NR (.head _)) hIw.all NL ?hna ⟨_, _, _, _, _, _, _, _, _, _, _, _, _, _, _, _, rfl, by assumption, by assumption, by assumption, by assumption, by assumption, by assumption, by assumption, by assumption, by assumption, by omega, by omega, by omega, by omega, by omega, rfl, rfl, rfl, rfl, rfl⟩ ?turn ?done
  case hna => k_all
  case turn =>
    clear hon hdb1 hdb2 hpl1 hpl2 T1 T2 P1 P2 bN bk1 bk2 bi1 bi2 NR FR NL
    rintro i z t m₁ news₁ h tk own hi hoff ⟨on, odb1, odb2, opl1, opl2, τ1, τ2, root1, root2, kvs1, kvs2, ikvs1, ikvs2, N, g1, g2, rfl, hon, hdb1, hdb2, hpl1, hpl2, T1, T2, P1, P2, bN, bk1, bk2, bi1, bi2, mfirst, msecond, mname_of, mcells, mdefault⟩ F1 N1
    have F2 : Fr h₀ L h _ := Fr.knownX F1 [(Str.ofString "first", _), (Str.ofString "second", _), (Str.ofString "name_of", _), (Str.ofString "cells", _), (Str.ofString "default", _)]
      (List.forall_mem_cons.mpr ⟨mfirst, List.forall_mem_cons.mpr ⟨msecond, List.forall_mem_cons.mpr ⟨mname_of, List.forall_mem_cons.mpr ⟨mcells, List.forall_mem_cons.mpr ⟨mdefault, List.forall_mem_nil _⟩⟩⟩⟩⟩)
      (List.forall_mem_cons.mpr ⟨ne_lit (by decide), List.forall_mem_cons.mpr ⟨ne_lit (by decide), List.forall_mem_cons.mpr ⟨ne_lit (by decide), List.forall_mem_cons.mpr ⟨ne_lit (by decide), List.forall_mem_cons.mpr ⟨ne_lit (by decide), List.forall_mem_nil _⟩⟩⟩⟩⟩)
    clear F1 mfirst msecond mname_of mcells mdefault
    simp only [List.cons_append, List.nil_append] at N1
    simp only [List.map_cons, List.map_nil] at hoff
    try k_fold
    repeat' (first | (k_here; (with_reducible show wpAny _ _ (call (Value.ref 260) [_, _, _]) _ _ _); k_dflt (refine' deed_T ?r24B ?r24F ?r24X ?r24T ?r24hk ?r24dp ?r24N ?r24ord ?r24apl ?r24lo ?r24lopl ?r24nf ?r24hdb ?r24hpl ?r24hon ?r24hN ?r24hkz ?r24hiz ?r24hvl ?r24TT ?r24PP ?_; (case r24nf => exact NFat.nf (by assumption) (by k_asm) (by k_mem) (by k_mem) (by k_mem)); (case r24B => k_asm); (case r24F => k_asm); (case r24X => k_asm); (case r24T => k_asm); (case r24hk => exact rfl); (case r24dp => k_room); (case r24N => exact newsC (by k_asm) (by k_mem) (newsC (by k_asm) (by k_mem) (newsC (by k_asm) (by k_mem) (newsC (by k_asm) (by k_mem) (newsC (by k_asm) (by k_mem) (List.forall_mem_nil _)))))); (case r24hdb => k_asm); (case r24hpl => k_asm); (case r24hon => k_asm); (case r24lo => k_asm); (case r24lopl => k_asm); (case r24TT => first | assumption | exact TI.growE (by assumption) (by assumption)); (case r24PP => assumption); (case r24ord => (first | with_reducible assumption | ((repeat' (first | exact asc_one | refine asc_cons ?_ ?_ | apply And.intro)) <;> tlg_ne))); (case r24apl => ((repeat' apply And.intro) <;> k_ne)); (case r24hN => omega); (case r24hkz => omega); (case r24hiz => omega); (case r24hvl => omega)); intro h' r' tk' N' kvs' ikvs' c' root' odb' on' opl' τ' vs' hS' T' P' hl' hk' hi' K' e1' e2' hdb' e3' hon' e4' hpl' eR' fR'; k_dflt (obtain ⟨F', N2'⟩ := deed_side (by k_asm) (by k_asm) (by k_updF) (by k_updF) (by k_updF) (by k_updF) K' e1' e2' e3' e4'); (try dsimp only at N2'); clear K' e1' e2' e3' e4' eR' fR'; (try k_sweep)) | (k_here; (with_reducible show wpAny _ _ (execs _ _) _ _ _); dsimp only; walk1) | (with_reducible refine haltInv ?_) | (k_unfold; (try dsimp only)) | walk1 | (dsimp only; walk1) | (leave1; (try dsimp only)))
    rename Fr _ _ _ _ => FE
    rename News _ _ _ _ => NE
    rename NamesObj w _ _ => HO
    refine invEnd [] [_, _, _, _, _, _, _, _, _, _, _, _, _, _, _, _] FE NE rfl ⟨_, _, _, _, _, _, _, _, _, _, _, _, _, _, _, _, rfl, HO, by assumption, by assumption, by assumption, by assumption, by first | assumption | exact TI.growE (by assumption) (by assumption), by assumption, by assumption, by assumption, by omega, by omega, by omega, by omega, by omega, rfl, rfl, rfl, rfl, rfl⟩
  case done =>
    clear hon hdb1 hdb2 hpl1 hpl2 T1 T2 P1 P2 bN bk1 bk2 bi1 bi2 NR FR NL
    rintro m₁ news₁ h tk ⟨on, odb1, odb2, opl1, opl2, τ1, τ2, root1, root2, kvs1, kvs2, ikvs1, ikvs2, N, g1, g2, rfl, hon, hdb1, hdb2, hpl1, hpl2, T1, T2, P1, P2, bN, bk1, bk2, bi1, bi2, mfirst, msecond, mname_of, mcells, mdefault⟩ F1 N1
    have F2 : Fr h₀ L h _ := Fr.known F1 [(Str.ofString "first", _), (Str.ofString "second", _), (Str.ofString "name_of", _), (Str.ofString "cells", _), (Str.ofString "default", _)] (List.forall_mem_cons.mpr ⟨mfirst, List.forall_mem_cons.mpr ⟨msecond, List.forall_mem_cons.mpr ⟨mname_of, List.forall_mem_cons.mpr ⟨mcells, List.forall_mem_cons.mpr ⟨mdefault, List.forall_mem_nil _⟩⟩⟩⟩⟩)
    clear F1 mfirst msecond mname_of mcells mdefault
    try dsimp only
    try k_fold
    repeat' (first | (k_here; (with_reducible show wpAny _ _ (pyIter (Value.ref _)) (fun it s₂ => LoopAtV _ _ _ _ _ _ _ _ _ it s₂) _ _); (refine halt ?_)) | (k_unfold; (try dsimp only)) | walk1 | (dsimp only; walk1) | (leave1; (try dsimp only)))
    rename IsRange _ _ _ _ _ _ _ _ => hR
    rename News h₀ L _ _ => NR
    rename Fr h₀ L _ _ => FR
    refine' loop_range (n := 5) (JD w x1 dx1 db1 x2 dx2 db2 pl1 pl2 c1 c2 c3 f d cc lc o1 o2 o3 fo oc otab dflt vs td 72 36 3) rfl hR (by decide) (by decide) FR NR ⟨_, _, _, _, _, _, _, _, _, _, _, _, _, _, _, _, rfl, by assumption, by assumption, by assumption, by assumption, by assumption, by assumption, by assumption, by assumption, by assumption, by omega, by omega, by omega, by omega, by omega, rfl, rfl, rfl, rfl, rfl⟩ ?turn ?done
    case turn =>
      clear hon hdb1 hdb2 hpl1 hpl2 T1 T2 P1 P2 bN bk1 bk2 bi1 bi2 NR FR
      rintro i t m₁ news₁ h tk own hi hoff ⟨on, odb1, odb2, opl1, opl2, τ1, τ2, root1, root2, kvs1, kvs2, ikvs1, ikvs2, N, g1, g2, rfl, hon, hdb1, hdb2, hpl1, hpl2, T1, T2, P1, P2, bN, bk1, bk2, bi1, bi2, mfirst, msecond, mname_of, mcells, mdefault⟩ F1 N1
      have F2 : Fr h₀ L h _ := Fr.knownX F1 [(Str.ofString "first", _), (Str.ofString "second", _), (Str.ofString "name_of", _), (Str.ofString "cells", _), (Str.ofString "default", _)]
        (List.forall_mem_cons.mpr ⟨mfirst, List.forall_mem_cons.mpr ⟨msecond, List.forall_mem_cons.mpr ⟨mname_of, List.forall_mem_cons.mpr ⟨mcells, List.forall_mem_cons.mpr ⟨mdefault, List.forall_mem_nil _⟩⟩⟩⟩⟩)
        (List.forall_mem_cons.mpr ⟨ne_lit (by decide), List.forall_mem_cons.mpr ⟨ne_lit (by decide), List.forall_mem_cons.mpr ⟨ne_lit (by decide), List.forall_mem_cons.mpr ⟨ne_lit (by decide), List.forall_mem_cons.mpr ⟨ne_lit (by decide), List.forall_mem_nil _⟩⟩⟩⟩⟩)
      clear F1 mfirst msecond mname_of mcells mdefault
      simp only [List.cons_append, List.nil_append] at N1
      simp only [List.map_cons, List.map_nil] at hoff
      try k_fold
      repeat' (first | (k_here; (with_reducible show wpAny _ _ (call (Value.ref 260) [_, _, _]) _ _ _); k_dflt (refine' deed_T ?r24B ?r24F ?r24X ?r24T ?r24hk ?r24dp ?r24N ?r24ord ?r24apl ?r24lo ?r24lopl ?r24nf ?r24hdb ?r24hpl ?r24hon ?r24hN ?r24hkz ?r24hiz ?r24hvl ?r24TT ?r24PP ?_; (case r24nf => exact NFat.nf (by assumption) (by k_asm) (by k_mem) (by k_mem) (by k_mem)); (case r24B => k_asm); (case r24F => k_asm); (case r24X => k_asm); (case r24T => k_asm); (case r24hk => exact rfl); (case r24dp => k_room); (case r24N => exact newsC (by k_asm) (by k_mem) (newsC (by k_asm) (by k_mem) (newsC (by k_asm) (by k_mem) (newsC (by k_asm) (by k_mem) (newsC (by k_asm) (by k_mem) (List.forall_mem_nil _)))))); (case r24hdb => k_asm); (case r24hpl => k_asm); (case r24hon => k_asm); (case r24lo => k_asm); (case r24lopl => k_asm); (case r24TT => first | assumption | exact TI.growE (by assumption) (by assumption)); (case r24PP => assumption); (case r24ord => (first | with_reducible assumption | ((repeat' (first | exact asc_one | refine asc_cons ?_ ?_ | apply And.intro)) <;> tlg_ne))); (case r24apl => ((repeat' apply And.intro) <;> k_ne)); (case r24hN => omega); (case r24hkz => omega); (case r24hiz => omega); (case r24hvl => omega)); intro h' r' tk' N' kvs' ikvs' c' root' odb' on' opl' τ' vs' hS' T' P' hl' hk' hi' K' e1' e2' hdb' e3' hon' e4' hpl' eR' fR'; k_dflt (obtain ⟨F', N2'⟩ := deed_side (by k_asm) (by k_asm) (by k_updF) (by k_updF) (by k_updF) (by k_updF) K' e1' e2' e3' e4'); (try dsimp only at N2'); clear K' e1' e2' e3' e4' eR' fR'; (try k_sweep)) | (k_here; (with_reducible show wpAny _ _ (subscriptTail _ _ (Value.ref _) (Value.int _ _)) _ _ _); k_dflt (refine' cell_P ?r20k1 ?r20k2 ?r20k3 ?r20k4 ?r20k5 ?_ ?r20k6; (case r20k1 => kmk_list); (case r20k2 => k_asm); (case r20k3 => k_asm); (case r20k4 => omega); (case r20k5 => omega); (case r20k6 => with_unfolding_all rfl)); intro _ _) | (k_here; (with_reducible show wpAny _ _ (execs _ _) _ _ _); dsimp only; walk1) | (with_reducible refine haltInv ?_) | (k_unfold; (try dsimp only)) | walk1 | (dsimp only; walk1) | (leave1; (try dsimp only)))
      rename Fr _ _ _ _ => FE
      rename News _ _ _ _ => NE
      rename NamesObj w _ _ => HO
      refine invEnd [] [_, _, _, _, _, _, _, _, _, _, _, _, _, _, _, _] FE NE rfl ⟨_, _, _, _, _, _, _, _, _, _, _, _, _, _, _, _, rfl, HO, by assumption, by assumption, by assumption, by assumption, by first | assumption | exact TI.growE (by assumption) (by assumption), by assumption, by assumption, by assumption, by omega, by omega, by omega, by omega, by omega, rfl, rfl, rfl, rfl, rfl⟩
    case done =>
      clear hon hdb1 hdb2 hpl1 hpl2 T1 T2 P1 P2 bN bk1 bk2 bi1 bi2 NR FR
      rintro m₁ news₁ h tk ⟨on, odb1, odb2, opl1, opl2, τ1, τ2, root1, root2, kvs1, kvs2, ikvs1, ikvs2, N, g1, g2, rfl, hon, hdb1, hdb2, hpl1, hpl2, T1, T2, P1, P2, bN, bk1, bk2, bi1, bi2, mfirst, msecond, mname_of, mcells, mdefault⟩ F1 N1
      have F2 : Fr h₀ L h _ := Fr.known F1 [(Str.ofString "first", _), (Str.ofString "second", _), (Str.ofString "name_of", _), (Str.ofString "cells", _), (Str.ofString "default", _)] (List.forall_mem_cons.mpr ⟨mfirst, List.forall_mem_cons.mpr ⟨msecond, List.forall_mem_cons.mpr ⟨mname_of, List.forall_mem_cons.mpr ⟨mcells, List.forall_mem_cons.mpr ⟨mdefault, List.forall_mem_nil _⟩⟩⟩⟩⟩)
      clear F1 mfirst msecond mname_of mcells mdefault
      try dsimp only
      try k_fold
      repeat' (first | (k_here; (with_reducible show wpAny _ _ (execs (Stmt.Assign [Expr.Name (Str.ofString "drawn") _] _ _ :: _) _) _ _ _); (refine halt ?_)) | (k_unfold; (try dsimp only)) | walk1 | (dsimp only; walk1) | (leave1; (try dsimp only)))
      dsimp only [Halt]
      rename Fr h₀ L _ _ => FE
      rename News h₀ L _ _ => NE
      refine' ret _ _ _ _ _ _ _ _ _ _ _ _ _ _ _ _ _ _ _ FE ?hNN ?f_ord ?f_nfa ?f_lo ?f_hon ?f_hvs ?f_hns ?f_lopl1 ?f_lopl2 ?f_hc1 ?f_hc2 ?f_hdb1 ?f_hdb2 ?f_hpl1 ?f_hpl2 ?f_hd2 ?f_hd1 ?f_T1 ?f_T2 ?f_P1 ?f_P2 ?f_bN ?f_bk1 ?f_bk2 ?f_bi1 ?f_bi2 ?l_first ?l_second ?l_name_of ?l_cells ?l_default
      case l_first => rfl
      case l_second => rfl
      case l_name_of => rfl
      case l_cells => rfl
      case l_default => rfl
      case' hNN => refine' newsC NE ?n_x1 (newsC NE ?n_dx1 (newsC NE ?n_db1 (newsC NE ?n_x2 (newsC NE ?n_dx2 (newsC NE ?n_db2 (newsC NE ?n_pl1 (newsC NE ?n_pl2 (newsC NE ?n_d (newsC NE ?n_f (newsC NE ?n_cc (newsC NE ?n_c3 (newsC NE ?n_c2 (newsC NE ?n_c1 (newsC NE ?n_lc (newsC NE ?n_262 (List.forall_mem_nil _))))))))))))))))
      case n_d => k_mem
      case f_hon => first | assumption | omega
      case n_db1 => k_mem
      case n_db2 => k_mem
      case f_hdb1 => first | assumption | omega
      case f_hdb2 => first | assumption | omega
      case n_pl1 => k_mem
      case n_pl2 => k_mem
      case f_hpl1 => first | assumption | omega
      case f_hpl2 => first | assumption | omega
      case n_dx1 => k_mem
      case n_dx2 => k_mem
      case f_T1 => first | assumption | exact TI.growE (by assumption) (by assumption)
      case f_T2 => first | assumption | exact TI.growE (by assumption) (by assumption)
      case n_x1 => k_mem
      case n_x2 => k_mem
      case n_f => k_mem
      case n_cc => k_mem
      case n_c3 => k_mem
      case n_c2 => k_mem
      case n_c1 => k_mem
      case n_lc => k_mem
      case n_262 => k_mem
      case f_ord => (first | with_reducible assumption | ((repeat' (first | exact asc_one | refine asc_cons ?_ ?_ | apply And.intro)) <;> tlg_ne))
      case f_nfa => first | assumption | omega
      case f_lo => first | assumption | omega
      case f_hvs => first | assumption | omega
      case f_hns => first | assumption | omega
      case f_lopl1 => first | assumption | omega
      case f_lopl2 => first | assumption | omega
      case f_hc1 => first | assumption | omega
      case f_hc2 => first | assumption | omega
      case f_hd2 => first | assumption | omega
      case f_hd1 => first | assumption | omega
      case f_P1 => first | assumption | omega
      case f_P2 => first | assumption | omega
      case f_bN => first | assumption | omega
      case f_bk1 => first | assumption | omega
      case f_bk2 => first | assumption | omega
      case f_bi1 => first | assumption | omega
      case f_bi2 => first | assumption | omega
end sL7
section sL9
-- room
-- where the walk halts


-- dicts keyed by octets


-- lists

-- octets



-- reversed(t)

-- tuple(reversed(xs))

-- name_of



-- _get




-- the law's level













theorem seg9 {w : World} {dp un : Nat} {gd : Option (List Code)} {cn : Str} {a : Addr} {ccd : Value} {outer : List Env} {A₀ : Around} {base h₀ : Heap} {L : Addr} {m : Str → Option Value}
    {p : Program} {loose : List Str} {mean : ExcName → Option Value} {mg mb : Str → Option Value} {s : Shared} {Q : Flow → Shared → Prop} {E : Value → Shared → Prop}
    (B : Below A₀ base outer h₀) (X : (K39 w.params).In h₀) (T : Top p loose mean mg mb h₀) (hdp : dp + 40 < recursionLimit) (hun : un + 200 < cLine)
    {c1 c2 c3 f d cc : Addr} {o1 o2 o3 fo oc on otab : Obj} {lc : Addr} {vs : List Value} {ns : List Int} {x1 dx1 db1 x2 dx2 db2 pl1 pl2 : Addr} {odb1 odb2 opl1 opl2 : Obj} {τ1 τ2 : Nat → Tok} {dflt root1 root2 : List UInt8} {kvs1 kvs2 : List (List UInt8 × Value)} {ikvs1 ikvs2 : List (Int × Value)} {N : List (List UInt8)} {g1 g2 : Nat → List UInt8} {td : Tok}
    (F : Fr h₀ L s.heap m) (Nw : News h₀ L s.heap [(x1, instObj 235 dx1), (dx1, dictOf (treeAttrs w.params τ1 dflt root1 f db1) 6), (db1, odb1), (x2, instObj 235 dx2), (dx2, dictOf (treeAttrs w.params τ2 dflt root2 f db2) 6), (db2, odb2), (pl1, opl1), (pl2, opl2), (d, on), (f, fo), (cc, oc), (c3, o3), (c2, o2), (c1, o1), (lc, W.listOf vs.toArray 0), (262, otab)])
    (ord : Asc [262, c1, c2, c3, d, cc, f, lc, dx1, x1, db1, dx2, x2, db2, pl1, pl2]) (nfa : NFat f d fo cc oc c3 o3) (lo : (d == sysModules) = false) (hon : NamesObj w on N) (hvs : IntsAre vs ns) (hns : ns.length = 15) (lopl1 : (pl1 == sysModules) = false) (lopl2 : (pl2 == sysModules) = false) (hc1 : o1.data = .cell (some (.ref pl1))) (hc2 : o2.data = .cell (some (.ref pl2))) (hdb1 : odb1.IsDictOf (BK w) kvs1) (hdb2 : odb2.IsDictOf (BK w) kvs2) (hpl1 : opl1.IsDictOf (intKind PG w) ikvs1) (hpl2 : opl2.IsDictOf (intKind PG w) ikvs2) (hd2 : dflt.length ≤ 2) (hd1 : dflt.length ≠ 1) (T1 : TI N kvs1 g1 root1) (T2 : TI N kvs2 g2 root2) (P1 : PD dflt ikvs1 g1) (P2 : PD dflt ikvs2 g2) (bN : N.length ≤ 170) (bk1 : kvs1.length ≤ 90) (bk2 : kvs2.length ≤ 90) (bi1 : ikvs1.length ≤ 9) (bi2 : ikvs2.length ≤ 9)
    (mfirst : m (Str.ofString "first") = some (.ref x1)) (msecond : m (Str.ofString "second") = some (.ref x2)) (mname_of : m (Str.ofString "name_of") = some (.ref f)) (mcells : m (Str.ofString "cells") = some (.ref lc)) (mdefault : m (Str.ofString "default") = some (.bytes dflt.toArray td))
    (hE : PassesOwn (model PG w) (ktrTop dp un gd cn lawScope L a ccd [(Str.ofString "names", c3), (Str.ofString "two", c2), (Str.ofString "one", c1)] outer) (envX cn lawScope L a ccd [(Str.ofString "names", c3), (Str.ofString "two", c2), (Str.ofString "one", c1)]) E)
    (ret : ∀ (h' : Heap) (tk' : Tok) (m : Str → Option Value) (opl1 opl2 : Obj) (ikvs1 ikvs2 : List (Int × Value)) (k : Nat) (v1 v2 : List UInt8) (tk0 tk1 tk2 tk3 : Tok), Fr h₀ L h' m → News h₀ L h' [(x1, instObj 235 dx1), (dx1, dictOf (treeAttrs w.params τ1 dflt root1 f db1) 6), (db1, odb1), (x2, instObj 235 dx2), (dx2, dictOf (treeAttrs w.params τ2 dflt root2 f db2) 6), (db2, odb2), (pl1, opl1), (pl2, opl2), (d, on), (f, fo), (cc, oc), (c3, o3), (c2, o2), (c1, o1), (262, otab)] →
      (Asc [262, c1, c2, c3, d, cc, f, dx1, x1, db1, dx2, x2, db2, pl1, pl2]) → (NFat f d fo cc oc c3 o3) → ((d == sysModules) = false) → (NamesObj w on N) → ((pl1 == sysModules) = false) → ((pl2 == sysModules) = false) → (o1.data = .cell (some (.ref pl1))) → (o2.data = .cell (some (.ref pl2))) → (odb1.IsDictOf (BK w) kvs1) → (odb2.IsDictOf (BK w) kvs2) → (opl1.IsDictOf (intKind PG w) ikvs1) → (opl2.IsDictOf (intKind PG w) ikvs2) → (dflt.length ≤ 2) → (dflt.length ≠ 1) → (TI N kvs1 g1 root1) → (TI N kvs2 g2 root2) → (PD dflt ikvs1 (put g1 k v1)) → (PD dflt ikvs2 (put g2 k v2)) → (N.length ≤ 170) → (kvs1.length ≤ 90) → (kvs2.length ≤ 90) → (ikvs1.length ≤ 10) → (ikvs2.length ≤ 10) → (k < 256) → (valueAt ikvs1 (k : Int) = some (.bytes v1.toArray tk2)) → (valueAt ikvs2 (k : Int) = some (.bytes v2.toArray tk3)) → (v1.length = 1) → (v2.length = 1) →
      (m (Str.ofString "first") = some (.ref x1)) → (m (Str.ofString "second") = some (.ref x2)) → (m (Str.ofString "name_of") = some (.ref f)) → (m (Str.ofString "drawn") = some (.int k tk0)) → (m (Str.ofString "key") = some (.bytes (keyB k).toArray tk1)) → (m (Str.ofString "default") = some (.bytes dflt.toArray td)) → wpAny (model PG w) (ktrTop dp un gd cn lawScope L a ccd [(Str.ofString "names", c3), (Str.ofString "two", c2), (Str.ofString "one", c1)] outer) (execs (lawBody.drop 11) (envX cn lawScope L a ccd [(Str.ofString "names", c3), (Str.ofString "two", c2), (Str.ofString "one", c1)])) Q E { s with heap := h', toks := tk' }) :
    wpAny (model PG w) (ktrTop dp un gd cn lawScope L a ccd [(Str.ofString "names", c3), (Str.ofString "two", c2), (Str.ofString "one", c1)] outer) (execs (lawBody.drop 9) (envX cn lawScope L a ccd [(Str.ofString "names", c3), (Str.ofString "two", c2), (Str.ofString "one", c1)])) Q E s := by
  have F1 := Fr.known F [(Str.ofString "first", _), (Str.ofString "second", _), (Str.ofString "name_of", _), (Str.ofString "cells", _), (Str.ofString "default", _)] (List.forall_mem_cons.mpr ⟨mfirst, List.forall_mem_cons.mpr ⟨msecond, List.forall_mem_cons.mpr ⟨mname_of, List.forall_mem_cons.mpr ⟨mcells, List.forall_mem_cons.mpr ⟨mdefault, List.forall_mem_nil _⟩⟩⟩⟩⟩)
  clear F mfirst msecond mname_of mcells mdefault
  conv in (occs := *) lawScope => all_goals whnf
  conv in lawBody.drop _ => whnf
  try k_fold
  repeat' (first | (k_here; (with_reducible show wpAny _ _ (execs (Stmt.Expr _ _ :: _) _) _ _ _); (refine halt ?_)) | (k_here; (with_reducible show wpAny _ _ (setItem (Value.ref _) (Value.int _ _) _) _ _ _); k_dflt (refine' kda_set (knd := intKind _ _) ?r26F ?r26N ?r26U ?r26d (intKind_is _ _ _ _) ?r26z ?_; (case r26F => k_asm); (case r26N => k_asm); (case r26U => k_updF); (case r26d => k_asm); (case r26z => (rw [sizeLine_eq]; omega))); intro h' o' F' N' hd'; (try dsimp only at N'); (try k_sweep)) | (k_here; (with_reducible show wpAny _ _ (call (Value.type _) [Value.ref _]) _ _ _); k_dflt (refine' bytes1_K ?r25F ?r25N ?r25l ?r25i ?r25r ?r25h ?_; (case r25F => k_asm); (case r25N => k_asm); (case r25l => is_list); (case r25i => first | l_ints | l_intsW); (case r25r => (try simp only [Int.fmod_eq_emod_of_nonneg _ (by decide : (0 : Int) ≤ 256), Int.fmod_eq_emod_of_nonneg _ (by decide : (0 : Int) ≤ 2)]); (constructor <;> omega)); (case r25h => with_unfolding_all rfl)); intro h' t' k' q' e' hq' F' N'; (try k_sweep)) | (k_here; (with_reducible show wpAny _ _ (subscriptTail _ _ (Value.ref _) (Value.int _ _)) _ _ _); k_dflt (refine' cell_P ?r20k1 ?r20k2 ?r20k3 ?r20k4 ?r20k5 ?_ ?r20k6; (case r20k1 => kmk_list); (case r20k2 => k_asm); (case r20k3 => k_asm); (case r20k4 => omega); (case r20k5 => omega); (case r20k6 => with_unfolding_all rfl)); intro _ _) | (k_here; (with_reducible show wpAny _ _ (execs _ _) _ _ _); dsimp only; walk1) | (k_unfold; (try dsimp only)) | walk1 | (dsimp only; walk1) | (leave1; (try dsimp only)))
  rename (((_ : Nat) : Int) = Int.fmod _ 256) => ek
  rename Fr h₀ L _ _ => FE
  rename Obj.IsDictOf (intKind _ _) _ (stored ikvs2 _ _) => HD2
  rename Obj.IsDictOf (intKind _ _) _ (stored ikvs1 _ _) => HD1
  simp only [← ek] at FE HD1 HD2
  have s1 := stored_lenI ikvs1
  have s2 := stored_lenI ikvs2
  dsimp only [Halt]
  rename Fr h₀ L _ _ => FE
  rename News h₀ L _ _ => NE
  refine' ret _ _ _ _ _ _ _ _ [120] _ _ _ _ _ FE ?hNN ?f_ord ?f_nfa ?f_lo ?f_hon ?f_lopl1 ?f_lopl2 ?f_hc1 ?f_hc2 ?f_hdb1 ?f_hdb2 ?f_hpl1 ?f_hpl2 ?f_hd2 ?f_hd1 ?f_T1 ?f_T2 ?f_P1 ?f_P2 ?f_bN ?f_bk1 ?f_bk2 ?f_bi1 ?f_bi2 ?f_hk8 ?f_hv1 ?f_hv2 ?f_hl1 ?f_hl2 ?l_first ?l_second ?l_name_of ?l_drawn ?l_key ?l_default
  case l_first => rfl
  case l_second => rfl
  case l_name_of => rfl
  case l_drawn => rfl
  case l_key => rfl
  case l_default => rfl
  case' hNN => refine' newsC NE ?n_x1 (newsC NE ?n_dx1 (newsC NE ?n_db1 (newsC NE ?n_x2 (newsC NE ?n_dx2 (newsC NE ?n_db2 (newsC NE ?n_pl1 (newsC NE ?n_pl2 (newsC NE ?n_d (newsC NE ?n_f (newsC NE ?n_cc (newsC NE ?n_c3 (newsC NE ?n_c2 (newsC NE ?n_c1 (newsC NE ?n_262 (List.forall_mem_nil _)))))))))))))))
  case n_pl1 => k_mem
  case n_pl2 => k_mem
  case f_hpl1 => exact HD1
  case f_hpl2 => exact HD2
  case f_hv1 => exact valueAt_self
  case f_hv2 => exact valueAt_self
  case n_x1 => k_mem
  case n_dx1 => k_mem
  case n_db1 => k_mem
  case n_x2 => k_mem
  case n_dx2 => k_mem
  case n_db2 => k_mem
  case n_d => k_mem
  case n_f => k_mem
  case n_cc => k_mem
  case n_c3 => k_mem
  case n_c2 => k_mem
  case n_c1 => k_mem
  case n_262 => k_mem
  case f_ord => (first | with_reducible assumption | ((repeat' (first | exact asc_one | refine asc_cons ?_ ?_ | apply And.intro)) <;> tlg_ne))
  case f_nfa => first | assumption | omega
  case f_lo => first | assumption | omega
  case f_hon => first | assumption | omega
  case f_lopl1 => first | assumption | omega
  case f_lopl2 => first | assumption | omega
  case f_hc1 => first | assumption | omega
  case f_hc2 => first | assumption | omega
  case f_hdb1 => first | assumption | omega
  case f_hdb2 => first | assumption | omega
  case f_hd2 => first | assumption | omega
  case f_hd1 => first | assumption | omega
  case f_T1 => first | assumption | exact TI.growE (by assumption) (by assumption)
  case f_T2 => first | assumption | exact TI.growE (by assumption) (by assumption)
  case f_P1 => exact pd_set P1 (by assumption) rfl
  case f_P2 => exact pd_set P2 (by assumption) rfl
  case f_bN => first | assumption | omega
  case f_bk1 => first | assumption | omega
  case f_bk2 => first | assumption | omega
  case f_bi1 => exact Nat.le_trans (s1 _ _) (by omega)
  case f_bi2 => exact Nat.le_trans (s2 _ _) (by omega)
  case f_hk8 => first | assumption | omega
  case f_hl1 => rfl
  case f_hl2 => rfl
end sL9
section sL11
-- room
-- where the walk halts


-- dicts keyed by octets


-- lists

-- octets



-- reversed(t)

-- tuple(reversed(xs))

-- name_of



-- _get




-- the law's level













theorem seg11 {w : World} {dp un : Nat} {gd : Option (List Code)} {cn : Str} {a : Addr} {ccd : Value} {outer : List Env} {A₀ : Around} {base h₀ : Heap} {L : Addr} {m : Str → Option Value}
    {p : Program} {loose : List Str} {mean : ExcName → Option Value} {mg mb : Str → Option Value} {s : Shared} {Q : Flow → Shared → Prop} {E : Value → Shared → Prop}
    (B : Below A₀ base outer h₀) (X : (K39 w.params).In h₀) (T : Top p loose mean mg mb h₀) (hdp : dp + 40 < recursionLimit) (hun : un + 200 < cLine)
    {c1 c2 c3 f d cc : Addr} {o1 o2 o3 fo oc on otab : Obj} {x1 dx1 db1 x2 dx2 db2 pl1 pl2 : Addr} {odb1 odb2 opl1 opl2 : Obj} {τ1 τ2 : Nat → Tok} {dflt root1 root2 : List UInt8} {kvs1 kvs2 : List (List UInt8 × Value)} {ikvs1 ikvs2 : List (Int × Value)} {N : List (List UInt8)} {g1 g2 : Nat → List UInt8} {td : Tok} {k : Nat} {v1 v2 : List UInt8} {tk0 tk1 tk2 tk3 : Tok}
    (F : Fr h₀ L s.heap m) (Nw : News h₀ L s.heap [(x1, instObj 235 dx1), (dx1, dictOf (treeAttrs w.params τ1 dflt root1 f db1) 6), (db1, odb1), (x2, instObj 235 dx2), (dx2, dictOf (treeAttrs w.params τ2 dflt root2 f db2) 6), (db2, odb2), (pl1, opl1), (pl2, opl2), (d, on), (f, fo), (cc, oc), (c3, o3), (c2, o2), (c1, o1), (262, otab)])
    (ord : Asc [262, c1, c2, c3, d, cc, f, dx1, x1, db1, dx2, x2, db2, pl1, pl2]) (nfa : NFat f d fo cc oc c3 o3) (lo : (d == sysModules) = false) (hon : NamesObj w on N) (lopl1 : (pl1 == sysModules) = false) (lopl2 : (pl2 == sysModules) = false) (hc1 : o1.data = .cell (some (.ref pl1))) (hc2 : o2.data = .cell (some (.ref pl2))) (hdb1 : odb1.IsDictOf (BK w) kvs1) (hdb2 : odb2.IsDictOf (BK w) kvs2) (hpl1 : opl1.IsDictOf (intKind PG w) ikvs1) (hpl2 : opl2.IsDictOf (intKind PG w) ikvs2) (hd2 : dflt.length ≤ 2) (hd1 : dflt.length ≠ 1) (T1 : TI N kvs1 g1 root1) (T2 : TI N kvs2 g2 root2) (P1 : PD dflt ikvs1 (put g1 k v1)) (P2 : PD dflt ikvs2 (put g2 k v2)) (bN : N.length ≤ 170) (bk1 : kvs1.length ≤ 90) (bk2 : kvs2.length ≤ 90) (bi1 : ikvs1.length ≤ 10) (bi2 : ikvs2.length ≤ 10) (hk8 : k < 256) (hv1 : valueAt ikvs1 (k : Int) = some (.bytes v1.toArray tk2)) (hv2 : valueAt ikvs2 (k : Int) = some (.bytes v2.toArray tk3)) (hl1 : v1.length = 1) (hl2 : v2.length = 1)
    (mfirst : m (Str.ofString "first") = some (.ref x1)) (msecond : m (Str.ofString "second") = some (.ref x2)) (mname_of : m (Str.ofString "name_of") = some (.ref f)) (mdrawn : m (Str.ofString "drawn") = some (.int k tk0)) (mkey : m (Str.ofString "key") = some (.bytes (keyB k).toArray tk1)) (mdefault : m (Str.ofString "default") = some (.bytes dflt.toArray td))
    (hE : PassesOwn (model PG w) (ktrTop dp un gd cn lawScope L a ccd [(Str.ofString "names", c3), (Str.ofString "two", c2), (Str.ofString "one", c1)] outer) (envX cn lawScope L a ccd [(Str.ofString "names", c3), (Str.ofString "two", c2), (Str.ofString "one", c1)]) E)
    (ret : ∀ (h' : Heap) (tk' : Tok) (m : Str → Option Value) (on : Obj) (odb1 odb2 : Obj) (τ1 τ2 : Nat → Tok) (root1 root2 : List UInt8) (kvs1 kvs2 : List (List UInt8 × Value)) (N : List (List UInt8)) (g1 g2 : Nat → List UInt8), Fr h₀ L h' m → News h₀ L h' [(x1, instObj 235 dx1), (dx1, dictOf (treeAttrs w.params τ1 dflt root1 f db1) 6), (db1, odb1), (x2, instObj 235 dx2), (dx2, dictOf (treeAttrs w.params τ2 dflt root2 f db2) 6), (db2, odb2), (pl1, opl1), (pl2, opl2), (d, on), (f, fo), (cc, oc), (c3, o3), (c2, o2), (c1, o1), (262, otab)] →
      (Asc [262, c1, c2, c3, d, cc, f, dx1, x1, db1, dx2, x2, db2, pl1, pl2]) → (NFat f d fo cc oc c3 o3) → ((d == sysModules) = false) → (NamesObj w on N) → ((pl1 == sysModules) = false) → ((pl2 == sysModules) = false) → (o1.data = .cell (some (.ref pl1))) → (o2.data = .cell (some (.ref pl2))) → (odb1.IsDictOf (BK w) kvs1) → (odb2.IsDictOf (BK w) kvs2) → (opl1.IsDictOf (intKind PG w) ikvs1) → (opl2.IsDictOf (intKind PG w) ikvs2) → (dflt.length ≤ 2) → (dflt.length ≠ 1) → (TI N kvs1 g1 root1) → (TI N kvs2 g2 root2) → (PD dflt ikvs1 g1) → (PD dflt ikvs2 g2) → (N.length ≤ 190) → (kvs1.length ≤ 100) → (kvs2.length ≤ 100) → (ikvs1.length ≤ 10) → (ikvs2.length ≤ 10) → (k < 256) → (valueAt ikvs1 (k : Int) = some (.bytes v1.toArray tk2)) → (valueAt ikvs2 (k : Int) = some (.bytes v2.toArray tk3)) → (v1.length = 1) → (v2.length = 1) → (g1 k = v1) → (g2 k = v2) →
      (m (Str.ofString "first") = some (.ref x1)) → (m (Str.ofString "second") = some (.ref x2)) → (m (Str.ofString "name_of") = some (.ref f)) → (m (Str.ofString "drawn") = some (.int k tk0)) → (m (Str.ofString "key") = some (.bytes (keyB k).toArray tk1)) → (m (Str.ofString "default") = some (.bytes dflt.toArray td)) → wpAny (model PG w) (ktrTop dp un gd cn lawScope L a ccd [(Str.ofString "names", c3), (Str.ofString "two", c2), (Str.ofString "one", c1)] outer) (execs (lawBody.drop 13) (envX cn lawScope L a ccd [(Str.ofString "names", c3), (Str.ofString "two", c2), (Str.ofString "one", c1)])) Q E { s with heap := h', toks := tk' }) :
    wpAny (model PG w) (ktrTop dp un gd cn lawScope L a ccd [(Str.ofString "names", c3), (Str.ofString "two", c2), (Str.ofString "one", c1)] outer) (execs (lawBody.drop 11) (envX cn lawScope L a ccd [(Str.ofString "names", c3), (Str.ofString "two", c2), (Str.ofString "one", c1)])) Q E s := by
  have F1 := Fr.known F [(Str.ofString "first", _), (Str.ofString "second", _), (Str.ofString "name_of", _), (Str.ofString "drawn", _), (Str.ofString "key", _), (Str.ofString "default", _)] (List.forall_mem_cons.mpr ⟨mfirst, List.forall_mem_cons.mpr ⟨msecond, List.forall_mem_cons.mpr ⟨mname_of, List.forall_mem_cons.mpr ⟨mdrawn, List.forall_mem_cons.mpr ⟨mkey, List.forall_mem_cons.mpr ⟨mdefault, List.forall_mem_nil _⟩⟩⟩⟩⟩⟩)
  clear F mfirst msecond mname_of mdrawn mkey mdefault
  have hw1 : v1.length ≤ 64 := by omega
  have hw2 : v2.length ≤ 64 := by omega
  conv in (occs := *) lawScope => all_goals whnf
  conv in lawBody.drop _ => whnf
  try k_fold
  repeat' (first | (k_here; (with_reducible show wpAny _ _ (execs (Stmt.Assign [Expr.Tuple [Expr.Name (Str.ofString "left") _, _] _ _] _ _ :: _) _) _ _ _); (refine halt ?_)) | (k_here; (with_reducible show wpAny _ _ (call (Value.ref 190) [_, _, _]) _ _ _); k_dflt (refine' set_T ?r28B ?r28F ?r28X ?r28T ?r28hk ?r28dp ?r28N ?r28ord ?r28lo ?r28nf ?r28hdb ?r28hon ?r28hN ?r28hkz ?r28k8 ?r28hvl ?r28TT ?_; (case r28nf => exact NFat.nf (by assumption) (by k_asm) (by k_mem) (by k_mem) (by k_mem)); (case r28B => k_asm); (case r28F => k_asm); (case r28X => k_asm); (case r28T => k_asm); (case r28hk => exact rfl); (case r28dp => k_room); (case r28k8 => assumption); (case r28N => exact newsC (by k_asm) (by k_mem) (newsC (by k_asm) (by k_mem) (newsC (by k_asm) (by k_mem) (newsC (by k_asm) (by k_mem) (List.forall_mem_nil _))))); (case r28hdb => k_asm); (case r28hon => k_asm); (case r28lo => k_asm); (case r28TT => first | assumption | exact TI.growE (by assumption) (by assumption)); (case r28ord => (first | with_reducible assumption | ((repeat' (first | exact asc_one | refine asc_cons ?_ ?_ | apply And.intro)) <;> tlg_ne))); (case r28hN => omega); (case r28hkz => omega); (case r28hvl => first | assumption | omega | exact Nat.le_of_ble_eq_true rfl)); intro h' r' tk' N' kvs' root' odb' on' τ' vs' hS' T' hl' hk' K' e1' hd1 hdb' hd2 hon' eR' hb' fR'; k_dflt (obtain ⟨F', N2'⟩ := set_side3 (by k_asm) (by k_asm) (by k_updF) (by k_updF) (by k_updF) K' e1' hd1 hd2); (try dsimp only at N2'); clear K' e1' hd1 hd2 eR' hb' fR'; (try k_sweep)) | (k_here; (with_reducible show wpAny _ _ (subscriptTail _ _ (Value.ref _) (Value.int (Nat.cast _) _)) _ _ _); k_dflt (refine' kda_item (knd := intKind _ _) ?r27N ?r27p ?r27d (intKind_is _ _ _ _) ?r27v ?_; (case r27N => k_asm); (case r27p => k_mem); (case r27d => k_asm); (case r27v => k_asm))) | (k_here; (with_reducible show wpAny _ _ (execs _ _) _ _ _); dsimp only; walk1) | (k_unfold; (try dsimp only)) | walk1 | (dsimp only; walk1) | (leave1; (try dsimp only)))
  dsimp only [Halt]
  rename Fr h₀ L _ _ => FE
  rename News h₀ L _ _ => NE
  refine' ret _ _ _ _ _ _ _ _ _ _ _ _ _ _ _ FE ?hNN ?f_ord ?f_nfa ?f_lo ?f_hon ?f_lopl1 ?f_lopl2 ?f_hc1 ?f_hc2 ?f_hdb1 ?f_hdb2 ?f_hpl1 ?f_hpl2 ?f_hd2 ?f_hd1 ?f_T1 ?f_T2 ?f_P1 ?f_P2 ?f_bN ?f_bk1 ?f_bk2 ?f_bi1 ?f_bi2 ?f_hk8 ?f_hv1 ?f_hv2 ?f_hl1 ?f_hl2 ?f_hg1 ?f_hg2 ?l_first ?l_second ?l_name_of ?l_drawn ?l_key ?l_default
  case l_first => rfl
  case l_second => rfl
  case l_name_of => rfl
  case l_drawn => rfl
  case l_key => rfl
  case l_default => rfl
  case' hNN => refine' newsC NE ?n_x1 (newsC NE ?n_dx1 (newsC NE ?n_db1 (newsC NE ?n_x2 (newsC NE ?n_dx2 (newsC NE ?n_db2 (newsC NE ?n_pl1 (newsC NE ?n_pl2 (newsC NE ?n_d (newsC NE ?n_f (newsC NE ?n_cc (newsC NE ?n_c3 (newsC NE ?n_c2 (newsC NE ?n_c1 (newsC NE ?n_262 (List.forall_mem_nil _)))))))))))))))
  case n_d => k_mem
  case f_hon => first | assumption | omega
  case n_db1 => k_mem
  case n_db2 => k_mem
  case f_hdb1 => first | assumption | omega
  case f_hdb2 => first | assumption | omega
  case n_dx1 => k_mem
  case n_dx2 => k_mem
  case f_T1 => first | assumption | exact TI.growE (by assumption) (by assumption)
  case f_T2 => first | assumption | exact TI.growE (by assumption) (by assumption)
  case n_x1 => k_mem
  case n_x2 => k_mem
  case n_pl1 => k_mem
  case n_pl2 => k_mem
  case n_f => k_mem
  case n_cc => k_mem
  case n_c3 => k_mem
  case n_c2 => k_mem
  case n_c1 => k_mem
  case n_262 => k_mem
  case f_ord => (first | with_reducible assumption | ((repeat' (first | exact asc_one | refine asc_cons ?_ ?_ | apply And.intro)) <;> tlg_ne))
  case f_nfa => first | assumption | omega
  case f_lo => first | assumption | omega
  case f_lopl1 => first | assumption | omega
  case f_lopl2 => first | assumption | omega
  case f_hc1 => first | assumption | omega
  case f_hc2 => first | assumption | omega
  case f_hpl1 => first | assumption | omega
  case f_hpl2 => first | assumption | omega
  case f_hd2 => first | assumption | omega
  case f_hd1 => first | assumption | omega
  case f_P1 => first | assumption | omega
  case f_P2 => first | assumption | omega
  case f_bN => first | assumption | omega
  case f_bk1 => first | assumption | omega
  case f_bk2 => first | assumption | omega
  case f_bi1 => first | assumption | omega
  case f_bi2 => first | assumption | omega
  case f_hk8 => first | assumption | omega
  case f_hv1 => first | assumption | omega
  case f_hv2 => first | assumption | omega
  case f_hl1 => first | assumption | omega
  case f_hl2 => first | assumption | omega
  case f_hg1 => exact if_pos rfl
  case f_hg2 => exact if_pos rfl
end sL11
section sL13
-- room
-- where the walk halts


-- dicts keyed by octets


-- lists

-- octets



-- reversed(t)

-- tuple(reversed(xs))

-- name_of



-- _get




-- the law's level












-- the law's second half





theorem seg13 {w : World} {dp un : Nat} {gd : Option (List Code)} {cn : Str} {a : Addr} {ccd : Value} {outer : List Env} {A₀ : Around} {base h₀ : Heap} {L : Addr} {m : Str → Option Value}
    {p : Program} {loose : List Str} {mean : ExcName → Option Value} {mg mb : Str → Option Value} {s : Shared} {Q : Flow → Shared → Prop} {E : Value → Shared → Prop}
    (B : Below A₀ base outer h₀) (X : (K39 w.params).In h₀) (T : Top p loose mean mg mb h₀) (hdp : dp + 40 < recursionLimit) (hun : un + 200 < cLine)
    {c1 c2 c3 f d cc : Addr} {o1 o2 o3 fo oc on otab : Obj} {x1 dx1 db1 x2 dx2 db2 pl1 pl2 : Addr} {odb1 odb2 opl1 opl2 : Obj} {τ1 τ2 : Nat → Tok} {dflt root1 root2 : List UInt8} {kvs1 kvs2 : List (List UInt8 × Value)} {ikvs1 ikvs2 : List (Int × Value)} {N : List (List UInt8)} {g1 g2 : Nat → List UInt8} {td : Tok} {k : Nat} {v1 v2 : List UInt8} {tk0 tk1 tk2 tk3 : Tok}
    (F : Fr h₀ L s.heap m) (Nw : News h₀ L s.heap [(x1, instObj 235 dx1), (dx1, dictOf (treeAttrs w.params τ1 dflt root1 f db1) 6), (db1, odb1), (x2, instObj 235 dx2), (dx2, dictOf (treeAttrs w.params τ2 dflt root2 f db2) 6), (db2, odb2), (pl1, opl1), (pl2, opl2), (d, on), (f, fo), (cc, oc), (c3, o3), (c2, o2), (c1, o1), (262, otab)])
    (ord : Asc [262, c1, c2, c3, d, cc, f, dx1, x1, db1, dx2, x2, db2, pl1, pl2]) (nfa : NFat f d fo cc oc c3 o3) (lo : (d == sysModules) = false) (hon : NamesObj w on N) (lopl1 : (pl1 == sysModules) = false) (lopl2 : (pl2 == sysModules) = false) (hc1 : o1.data = .cell (some (.ref pl1))) (hc2 : o2.data = .cell (some (.ref pl2))) (hdb1 : odb1.IsDictOf (BK w) kvs1) (hdb2 : odb2.IsDictOf (BK w) kvs2) (hpl1 : opl1.IsDictOf (intKind PG w) ikvs1) (hpl2 : opl2.IsDictOf (intKind PG w) ikvs2) (hd2 : dflt.length ≤ 2) (hd1 : dflt.length ≠ 1) (T1 : TI N kvs1 g1 root1) (T2 : TI N kvs2 g2 root2) (P1 : PD dflt ikvs1 g1) (P2 : PD dflt ikvs2 g2) (bN : N.length ≤ 190) (bk1 : kvs1.length ≤ 100) (bk2 : kvs2.length ≤ 100) (bi1 : ikvs1.length ≤ 10) (bi2 : ikvs2.length ≤ 10) (hk8 : k < 256) (hv1 : valueAt ikvs1 (k : Int) = some (.bytes v1.toArray tk2)) (hv2 : valueAt ikvs2 (k : Int) = some (.bytes v2.toArray tk3)) (hl1 : v1.length = 1) (hl2 : v2.length = 1) (hg1 : g1 k = v1) (hg2 : g2 k = v2)
    (mfirst : m (Str.ofString "first") = some (.ref x1)) (msecond : m (Str.ofString "second") = some (.ref x2)) (mname_of : m (Str.ofString "name_of") = some (.ref f)) (mdrawn : m (Str.ofString "drawn") = some (.int k tk0)) (mkey : m (Str.ofString "key") = some (.bytes (keyB k).toArray tk1)) (mdefault : m (Str.ofString "default") = some (.bytes dflt.toArray td))
    (hE : PassesOwn (model PG w) (ktrTop dp un gd cn lawScope L a ccd [(Str.ofString "names", c3), (Str.ofString "two", c2), (Str.ofString "one", c1)] outer) (envX cn lawScope L a ccd [(Str.ofString "names", c3), (Str.ofString "two", c2), (Str.ofString "one", c1)]) E)
    (ret : ∀ (h' : Heap) (tk' : Tok) (m : Str → Option Value) (bl br px dpx lb : Addr) (us1 us2 ps : List Value) (τ3 : Nat → Tok) (np : Nat), Fr h₀ L h' m → News h₀ L h' [(x1, instObj 235 dx1), (dx1, dictOf (treeAttrs w.params τ1 dflt root1 f db1) 6), (db1, odb1), (x2, instObj 235 dx2), (dx2, dictOf (treeAttrs w.params τ2 dflt root2 f db2) 6), (db2, odb2), (pl1, opl1), (pl2, opl2), (d, on), (f, fo), (cc, oc), (c3, o3), (c2, o2), (c1, o1), (bl, tupObj us1), (br, tupObj us2), (px, instObj 132 dpx), (dpx, dictOf (proofAttrs w.params τ3 k v2 lb f) 6), (lb, W.listOf ps.toArray np), (262, otab)] →
      (Asc [262, c1, c2, c3, d, cc, f, dx1, x1, db1, dx2, x2, db2, pl1, pl2, dpx, px, lb]) → (NFat f d fo cc oc c3 o3) → ((d == sysModules) = false) → (NamesObj w on N) → ((pl1 == sysModules) = false) → ((pl2 == sysModules) = false) → (o1.data = .cell (some (.ref pl1))) → (o2.data = .cell (some (.ref pl2))) → (odb1.IsDictOf (BK w) kvs1) → (odb2.IsDictOf (BK w) kvs2) → (opl1.IsDictOf (intKind PG w) ikvs1) → (opl2.IsDictOf (intKind PG w) ikvs2) → (dflt.length ≤ 2) → (dflt.length ≠ 1) → (TI N kvs1 g1 root1) → (TI N kvs2 g2 root2) → (PD dflt ikvs1 g1) → (PD dflt ikvs2 g2) → (N.length ≤ 190) → (kvs1.length ≤ 100) → (kvs2.length ≤ 100) → (ikvs1.length ≤ 10) → (ikvs2.length ≤ 10) → (k < 256) → (valueAt ikvs1 (k : Int) = some (.bytes v1.toArray tk2)) → (valueAt ikvs2 (k : Int) = some (.bytes v2.toArray tk3)) → (v1.length = 1) → (v2.length = 1) → (g1 k = v1) → (g2 k = v2) → (Out bl [x1, dx1, db1, x2, dx2, db2, pl1, pl2, d, f, cc, c3, c2, c1, 262]) → (Out br [x1, dx1, db1, x2, dx2, db2, pl1, pl2, d, f, cc, c3, c2, c1, 262]) → (bl ≠ br) → (@LT.lt Nat _ bl dpx ∧ @LT.lt Nat _ br dpx) → (BytesAre us1 ((List.range 8).map (sibOf N g1 k))) → (BytesAre us2 ((List.range 8).map (sibOf N g2 k))) → (BytesAre ps ((List.range 8).map (sibOf N g1 k))) →
      (m (Str.ofString "first") = some (.ref x1)) → (m (Str.ofString "second") = some (.ref x2)) → (m (Str.ofString "name_of") = some (.ref f)) → (m (Str.ofString "drawn") = some (.int k tk0)) → (m (Str.ofString "key") = some (.bytes (keyB k).toArray tk1)) → (m (Str.ofString "default") = some (.bytes dflt.toArray td)) → (m (Str.ofString "left") = some (.ref bl)) → (m (Str.ofString "right") = some (.ref br)) → (m (Str.ofString "proof") = some (.ref px)) → wpAny (model PG w) (ktrTop dp un gd cn lawScope L a ccd [(Str.ofString "names", c3), (Str.ofString "two", c2), (Str.ofString "one", c1)] outer) (execs (lawBody.drop 17) (envX cn lawScope L a ccd [(Str.ofString "names", c3), (Str.ofString "two", c2), (Str.ofString "one", c1)])) Q E { s with heap := h', toks := tk' }) :
    wpAny (model PG w) (ktrTop dp un gd cn lawScope L a ccd [(Str.ofString "names", c3), (Str.ofString "two", c2), (Str.ofString "one", c1)] outer) (execs (lawBody.drop 13) (envX cn lawScope L a ccd [(Str.ofString "names", c3), (Str.ofString "two", c2), (Str.ofString "one", c1)])) Q E s := by
  have F1 := Fr.known F [(Str.ofString "first", _), (Str.ofString "second", _), (Str.ofString "name_of", _), (Str.ofString "drawn", _), (Str.ofString "key", _), (Str.ofString "default", _)] (List.forall_mem_cons.mpr ⟨mfirst, List.forall_mem_cons.mpr ⟨msecond, List.forall_mem_cons.mpr ⟨mname_of, List.forall_mem_cons.mpr ⟨mdrawn, List.forall_mem_cons.mpr ⟨mkey, List.forall_mem_cons.mpr ⟨mdefault, List.forall_mem_nil _⟩⟩⟩⟩⟩⟩)
  clear F mfirst msecond mname_of mdrawn mkey mdefault
  have hw1 : (g1 k).length = 1 := by rw [hg1]; exact hl1
  have hw2 : (g2 k).length = 1 := by rw [hg2]; exact hl2
  conv in (occs := *) lawScope => all_goals whnf
  conv in lawBody.drop _ => whnf
  try k_fold
  repeat' (first | (k_here; (with_reducible show wpAny _ _ (execs (Stmt.For _ _ _ _ _ :: _) _) _ _ _); (refine halt ?_)) | (k_here; (with_reducible show wpAny _ _ (call (Value.ref 129) [_, _, _, _]) _ _ _); k_dflt (refine' update_same ?r32B ?r32F ?r32X ?r32T ?r32hk ?r32dp ?r32N ?r32hv8 ?r32k8 ?r32ord ?_; (case r32B => k_asm); (case r32F => k_asm); (case r32X => k_asm); (case r32T => k_asm); (case r32hk => exact rfl); (case r32dp => k_room); (case r32N => exact newsC (by k_asm) (by k_mem) (newsC (by k_asm) (by k_mem) (newsC (by k_asm) (by k_mem) (List.forall_mem_nil _)))); (case r32hv8 => assumption); (case r32k8 => assumption); (case r32ord => (first | with_reducible assumption | ((repeat' (first | exact asc_one | refine asc_cons ?_ ?_ | apply And.intro)) <;> tlg_ne)))); intro h' tk' τ' K' e1'; k_dflt (obtain ⟨F', N2'⟩ := side_one (by k_asm) (by k_asm) (by k_updF) K' e1'); (try dsimp only at N2'); clear K' e1'; (try k_sweep)) | (k_here; (with_reducible show wpAny _ _ (call (Value.ref 132) [_, _, _, _]) _ _ _); k_dflt (refine' proof_spec ?r31B ?r31F ?r31X ?r31T ?r31hk ?r31dp ?r31hbr ?r31h8 ?r31k8 ?_; (case r31B => k_asm); (case r31F => k_asm); (case r31X => k_asm); (case r31T => k_asm); (case r31hk => exact rfl); (case r31dp => k_room); (case r31hbr => exact News.get (by k_asm) (by k_mem)); (case r31h8 => assumption); (case r31k8 => assumption)); intro h' x' dx' lb' tk' n' τ' K' e1' e2' e3' f1' f2' f3' ord' lts'; k_dflt (obtain ⟨F', N', l1⟩ := proof_side (by k_asm) (by k_asm) K' e1' e2' e3' f1' f2' f3' lts'); (try k_lt l1); (have l2 := LtAll.up l1 ord'.1); (have l3 := LtAll.up l2 ord'.2); clear K' e1' e2' e3' f1' f2' f3' lts'; (try k_sweep)) | (k_here; (with_reducible show wpAny _ _ (call (Value.builtin "len") [Value.ref _]) _ _ _); k_dflt (refine' len8N ?r30N ?r30p ?r30l ?_; (case r30N => k_asm); (case r30p => k_mem); (case r30l => assumption))) | (k_here; (with_reducible show wpAny _ _ (call (Value.ref 176) [_, _]) _ _ _); k_dflt (refine' branch_T ?r29B ?r29F ?r29X ?r29T ?r29hk ?r29dp ?r29N ?r29hdb ?r29k8 ?r29TT ?r29hv0 ?_; (case r29B => k_asm); (case r29F => k_asm); (case r29X => k_asm); (case r29T => k_asm); (case r29hk => exact rfl); (case r29dp => k_room); (case r29k8 => assumption); (case r29N => exact newsC (by k_asm) (by k_mem) (newsC (by k_asm) (by k_mem) (newsC (by k_asm) (by k_mem) (List.forall_mem_nil _)))); (case r29hdb => k_asm); (case r29TT => first | assumption | exact TI.growE (by assumption) (by assumption)); (case r29hv0 => assumption)); intro h' br' tk' vs' K' e1' hb' fR'; k_dflt (obtain ⟨F', N', o1⟩ := out1 (by k_asm) (by k_asm) K' e1' fR'); (try simp only [List.map_cons, List.map_nil] at o1); (have hlb' := BytesAre.length hb'); (simp only [List.length_map, List.length_range] at hlb'); clear K' e1' fR'; (try k_sweep)) | (k_here; (with_reducible show wpAny _ _ (subscriptTail _ _ (Value.ref _) (Value.int (Nat.cast _) _)) _ _ _); k_dflt (refine' kda_item (knd := intKind _ _) ?r27N ?r27p ?r27d (intKind_is _ _ _ _) ?r27v ?_; (case r27N => k_asm); (case r27p => k_mem); (case r27d => k_asm); (case r27v => k_asm))) | (k_here; (with_reducible show wpAny _ _ (execs _ _) _ _ _); dsimp only; walk1) | (k_unfold; (try dsimp only)) | walk1 | (dsimp only; walk1) | (leave1; (try dsimp only)))
  dsimp only [Halt]
  rename Fr h₀ L _ _ => FE
  rename News h₀ L _ _ => NE
  refine' ret _ _ _ _ _ _ _ _ _ _ _ _ _ FE ?hNN ?f_ord ?f_nfa ?f_lo ?f_hon ?f_lopl1 ?f_lopl2 ?f_hc1 ?f_hc2 ?f_hdb1 ?f_hdb2 ?f_hpl1 ?f_hpl2 ?f_hd2 ?f_hd1 ?f_T1 ?f_T2 ?f_P1 ?f_P2 ?f_bN ?f_bk1 ?f_bk2 ?f_bi1 ?f_bi2 ?f_hk8 ?f_hv1 ?f_hv2 ?f_hl1 ?f_hl2 ?f_hg1 ?f_hg2 ?f_obl ?f_obr ?f_obb ?f_obp ?f_hus1 ?f_hus2 ?f_hps ?l_first ?l_second ?l_name_of ?l_drawn ?l_key ?l_default ?l_left ?l_right ?l_proof
  case l_first => rfl
  case l_second => rfl
  case l_name_of => rfl
  case l_drawn => rfl
  case l_key => rfl
  case l_default => rfl
  case l_left => rfl
  case l_right => rfl
  case l_proof => rfl
  case' hNN => refine' newsC NE ?n_x1 (newsC NE ?n_dx1 (newsC NE ?n_db1 (newsC NE ?n_x2 (newsC NE ?n_dx2 (newsC NE ?n_db2 (newsC NE ?n_pl1 (newsC NE ?n_pl2 (newsC NE ?n_d (newsC NE ?n_f (newsC NE ?n_cc (newsC NE ?n_c3 (newsC NE ?n_c2 (newsC NE ?n_c1 (newsC NE ?n_bl (newsC NE ?n_br (newsC NE ?n_px (newsC NE ?n_dpx (newsC NE ?n_lb (newsC NE ?n_262 (List.forall_mem_nil _))))))))))))))))))))
  case n_bl => k_mem
  case n_br => k_mem
  case n_px => k_mem
  case n_dpx => k_mem
  case n_lb => k_mem
  case f_hus1 => first | assumption | omega
  case f_hus2 => first | assumption | omega
  case f_hps => assumption
  case n_x1 => k_mem
  case n_dx1 => k_mem
  case n_db1 => k_mem
  case n_x2 => k_mem
  case n_dx2 => k_mem
  case n_db2 => k_mem
  case n_pl1 => k_mem
  case n_pl2 => k_mem
  case n_d => k_mem
  case n_f => k_mem
  case n_cc => k_mem
  case n_c3 => k_mem
  case n_c2 => k_mem
  case n_c1 => k_mem
  case n_262 => k_mem
  case f_ord => (first | with_reducible assumption | ((repeat' (first | exact asc_one | refine asc_cons ?_ ?_ | apply And.intro)) <;> tlg_ne))
  case f_nfa => first | assumption | omega
  case f_lo => first | assumption | omega
  case f_hon => first | assumption | omega
  case f_lopl1 => first | assumption | omega
  case f_lopl2 => first | assumption | omega
  case f_hc1 => first | assumption | omega
  case f_hc2 => first | assumption | omega
  case f_hdb1 => first | assumption | omega
  case f_hdb2 => first | assumption | omega
  case f_hpl1 => first | assumption | omega
  case f_hpl2 => first | assumption | omega
  case f_hd2 => first | assumption | omega
  case f_hd1 => first | assumption | omega
  case f_T1 => first | assumption | exact TI.growE (by assumption) (by assumption)
  case f_T2 => first | assumption | exact TI.growE (by assumption) (by assumption)
  case f_P1 => first | assumption | omega
  case f_P2 => first | assumption | omega
  case f_bN => first | assumption | omega
  case f_bk1 => first | assumption | omega
  case f_bk2 => first | assumption | omega
  case f_bi1 => first | assumption | omega
  case f_bi2 => first | assumption | omega
  case f_hk8 => first | assumption | omega
  case f_hv1 => first | assumption | omega
  case f_hv2 => first | assumption | omega
  case f_hl1 => first | assumption | omega
  case f_hl2 => first | assumption | omega
  case f_hg1 => first | assumption | omega
  case f_hg2 => first | assumption | omega
  case f_obl => assumption
  case f_obr => exact Out.sub (by assumption) (fun b hb => .tail _ hb)
  case f_obb => exact Out.ne' (a := _) (by assumption) (.head _)
  case f_obp => (first | with_reducible assumption | ((repeat' (first | exact asc_one | refine asc_cons ?_ ?_ | apply And.intro)) <;> tlg_ne))
end sL13
section sL17
-- room
-- where the walk halts


-- dicts keyed by octets


-- lists

-- octets



-- reversed(t)

-- tuple(reversed(xs))

-- name_of



-- _get




-- the law's level












-- the law's second half




-- the level loop


local macro_rules | `(tactic| walk_at "CompSrcT") => `(tactic| (refine halt ?_))











noncomputable def JL (w : World) (x1 dx1 db1 x2 dx2 db2 pl1 pl2 c1 c2 c3 f d cc bl br px dpx lb : Addr) (o1 o2 o3 fo oc otab odb1 opl1 opl2 : Obj) (τ1 τ3 : Nat → Tok) (dflt root1 v2 : List UInt8) (kvs1 : List (List UInt8 × Value)) (g1 g2 : Nat → List UInt8) (us1 us2 : List Value) (td tk0 tk1 : Tok) (k np : Nat) (i : Nat) (m : Str → Option Value) (nx : List (Addr × Obj)) : Prop :=
  ∃ (on : Obj) (odb2 : Obj) (τ2 : Nat → Tok) (root2 : List UInt8) (kvs2 : List (List UInt8 × Value)) (N : List (List UInt8)) (ps : List Value), nx = [(x1, instObj 235 dx1), (dx1, dictOf (treeAttrs w.params τ1 dflt root1 f db1) 6), (db1, odb1), (x2, instObj 235 dx2), (dx2, dictOf (treeAttrs w.params τ2 dflt root2 f db2) 6), (db2, odb2), (pl1, opl1), (pl2, opl2), (d, on), (f, fo), (cc, oc), (c3, o3), (c2, o2), (c1, o1), (bl, tupObj us1), (br, tupObj us2), (px, instObj 132 dpx), (dpx, dictOf (proofAttrs w.params τ3 k v2 lb f) 6), (lb, W.listOf ps.toArray np), (262, otab)] ∧
    (NamesObj w on N) ∧ (odb2.IsDictOf (BK w) kvs2) ∧ (TI N kvs1 g1 root1) ∧ (TI N kvs2 g2 root2) ∧ (N.length ≤ 190 + 9 * i) ∧ (kvs2.length ≤ 100 + 9 * i) ∧ (BytesAre us1 ((List.range 8).map (sibOf N g1 k))) ∧ (BytesAre us2 ((List.range 8).map (sibOf N g2 k))) ∧ (BytesAre ps ((List.range 8).map (mix N g1 g2 k i))) ∧
    (m (Str.ofString "first") = some (.ref x1)) ∧ (m (Str.ofString "second") = some (.ref x2)) ∧ (m (Str.ofString "name_of") = some (.ref f)) ∧ (m (Str.ofString "drawn") = some (.int k tk0)) ∧ (m (Str.ofString "key") = some (.bytes (keyB k).toArray tk1)) ∧ (m (Str.ofString "default") = some (.bytes dflt.toArray td)) ∧ (m (Str.ofString "left") = some (.ref bl)) ∧ (m (Str.ofString "right") = some (.ref br)) ∧ (m (Str.ofString "proof") = some (.ref px))
theorem seg17 {w : World} {dp un : Nat} {gd : Option (List Code)} {cn : Str} {a : Addr} {ccd : Value} {outer : List Env} {A₀ : Around} {base h₀ : Heap} {L : Addr} {m : Str → Option Value}
    {p : Program} {loose : List Str} {mean : ExcName → Option Value} {mg mb : Str → Option Value} {s : Shared} {Q : Flow → Shared → Prop} {E : Value → Shared → Prop}
    (B : Below A₀ base outer h₀) (X : (K39 w.params).In h₀) (T : Top p loose mean mg mb h₀) (hdp : dp + 40 < recursionLimit) (hun : un + 200 < cLine)
    {c1 c2 c3 f d cc : Addr} {o1 o2 o3 fo oc on otab : Obj} {x1 dx1 db1 x2 dx2 db2 pl1 pl2 : Addr} {odb1 odb2 opl1 opl2 : Obj} {τ1 τ2 : Nat → Tok} {dflt root1 root2 : List UInt8} {kvs1 kvs2 : List (List UInt8 × Value)} {ikvs1 ikvs2 : List (Int × Value)} {N : List (List UInt8)} {g1 g2 : Nat → List UInt8} {td : Tok} {k : Nat} {v1 v2 : List UInt8} {tk0 tk1 tk2 tk3 : Tok} {bl br px dpx lb : Addr} {us1 us2 ps : List Value} {τ3 : Nat → Tok} {np : Nat}
    (F : Fr h₀ L s.heap m) (Nw : News h₀ L s.heap [(x1, instObj 235 dx1), (dx1, dictOf (treeAttrs w.params τ1 dflt root1 f db1) 6), (db1, odb1), (x2, instObj 235 dx2), (dx2, dictOf (treeAttrs w.params τ2 dflt root2 f db2) 6), (db2, odb2), (pl1, opl1), (pl2, opl2), (d, on), (f, fo), (cc, oc), (c3, o3), (c2, o2), (c1, o1), (bl, tupObj us1), (br, tupObj us2), (px, instObj 132 dpx), (dpx, dictOf (proofAttrs w.params τ3 k v2 lb f) 6), (lb, W.listOf ps.toArray np), (262, otab)])
    (ord : Asc [262, c1, c2, c3, d, cc, f, dx1, x1, db1, dx2, x2, db2, pl1, pl2, dpx, px, lb]) (nfa : NFat f d fo cc oc c3 o3) (lo : (d == sysModules) = false) (hon : NamesObj w on N) (lopl1 : (pl1 == sysModules) = false) (lopl2 : (pl2 == sysModules) = false) (hc1 : o1.data = .cell (some (.ref pl1))) (hc2 : o2.data = .cell (some (.ref pl2))) (hdb1 : odb1.IsDictOf (BK w) kvs1) (hdb2 : odb2.IsDictOf (BK w) kvs2) (hpl1 : opl1.IsDictOf (intKind PG w) ikvs1) (hpl2 : opl2.IsDictOf (intKind PG w) ikvs2) (hd2 : dflt.length ≤ 2) (hd1 : dflt.length ≠ 1) (T1 : TI N kvs1 g1 root1) (T2 : TI N kvs2 g2 root2) (P1 : PD dflt ikvs1 g1) (P2 : PD dflt ikvs2 g2) (bN : N.length ≤ 190) (bk1 : kvs1.length ≤ 100) (bk2 : kvs2.length ≤ 100) (bi1 : ikvs1.length ≤ 10) (bi2 : ikvs2.length ≤ 10) (hk8 : k < 256) (hv1 : valueAt ikvs1 (k : Int) = some (.bytes v1.toArray tk2)) (hv2 : valueAt ikvs2 (k : Int) = some (.bytes v2.toArray tk3)) (hl1 : v1.length = 1) (hl2 : v2.length = 1) (hg1 : g1 k = v1) (hg2 : g2 k = v2) (obl : Out bl [x1, dx1, db1, x2, dx2, db2, pl1, pl2, d, f, cc, c3, c2, c1, 262]) (obr : Out br [x1, dx1, db1, x2, dx2, db2, pl1, pl2, d, f, cc, c3, c2, c1, 262]) (obb : bl ≠ br) (obp : @LT.lt Nat _ bl dpx ∧ @LT.lt Nat _ br dpx) (hus1 : BytesAre us1 ((List.range 8).map (sibOf N g1 k))) (hus2 : BytesAre us2 ((List.range 8).map (sibOf N g2 k))) (hps : BytesAre ps ((List.range 8).map (sibOf N g1 k)))
    (mfirst : m (Str.ofString "first") = some (.ref x1)) (msecond : m (Str.ofString "second") = some (.ref x2)) (mname_of : m (Str.ofString "name_of") = some (.ref f)) (mdrawn : m (Str.ofString "drawn") = some (.int k tk0)) (mkey : m (Str.ofString "key") = some (.bytes (keyB k).toArray tk1)) (mdefault : m (Str.ofString "default") = some (.bytes dflt.toArray td)) (mleft : m (Str.ofString "left") = some (.ref bl)) (mright : m (Str.ofString "right") = some (.ref br)) (mproof : m (Str.ofString "proof") = some (.ref px))
    (hE : PassesOwn (model PG w) (ktrTop dp un gd cn lawScope L a ccd [(Str.ofString "names", c3), (Str.ofString "two", c2), (Str.ofString "one", c1)] outer) (envX cn lawScope L a ccd [(Str.ofString "names", c3), (Str.ofString "two", c2), (Str.ofString "one", c1)]) E)
    (ret : ∀ (h' : Heap) (tk' : Tok) (m : Str → Option Value) (on : Obj) (odb2 : Obj) (τ2 : Nat → Tok) (root2 : List UInt8) (kvs2 : List (List UInt8 × Value)) (N : List (List UInt8)) (ps : List Value), Fr h₀ L h' m → News h₀ L h' [(x1, instObj 235 dx1), (dx1, dictOf (treeAttrs w.params τ1 dflt root1 f db1) 6), (db1, odb1), (x2, instObj 235 dx2), (dx2, dictOf (treeAttrs w.params τ2 dflt root2 f db2) 6), (db2, odb2), (pl1, opl1), (pl2, opl2), (d, on), (f, fo), (cc, oc), (c3, o3), (c2, o2), (c1, o1), (bl, tupObj us1), (br, tupObj us2), (px, instObj 132 dpx), (dpx, dictOf (proofAttrs w.params τ3 k v2 lb f) 6), (lb, W.listOf ps.toArray np), (262, otab)] →
      (Asc [262, c1, c2, c3, d, cc, f, dx1, x1, db1, dx2, x2, db2, pl1, pl2, dpx, px, lb]) → (NFat f d fo cc oc c3 o3) → ((d == sysModules) = false) → (NamesObj w on N) → ((pl1 == sysModules) = false) → ((pl2 == sysModules) = false) → (o1.data = .cell (some (.ref pl1))) → (o2.data = .cell (some (.ref pl2))) → (odb1.IsDictOf (BK w) kvs1) → (odb2.IsDictOf (BK w) kvs2) → (opl1.IsDictOf (intKind PG w) ikvs1) → (opl2.IsDictOf (intKind PG w) ikvs2) → (dflt.length ≤ 2) → (dflt.length ≠ 1) → (TI N kvs1 g1 root1) → (TI N kvs2 g2 root2) → (PD dflt ikvs1 g1) → (PD dflt ikvs2 g2) → (N.length ≤ 270) → (kvs1.length ≤ 180) → (kvs2.length ≤ 180) → (ikvs1.length ≤ 10) → (ikvs2.length ≤ 10) → (k < 256) → (valueAt ikvs1 (k : Int) = some (.bytes v1.toArray tk2)) → (valueAt ikvs2 (k : Int) = some (.bytes v2.toArray tk3)) → (v1.length = 1) → (v2.length = 1) → (g1 k = v1) → (g2 k = v2) → (Out bl [x1, dx1, db1, x2, dx2, db2, pl1, pl2, d, f, cc, c3, c2, c1, 262]) → (Out br [x1, dx1, db1, x2, dx2, db2, pl1, pl2, d, f, cc, c3, c2, c1, 262]) → (bl ≠ br) → (@LT.lt Nat _ bl dpx ∧ @LT.lt Nat _ br dpx) → (BytesAre us1 ((List.range 8).map (sibOf N g1 k))) → (BytesAre us2 ((List.range 8).map (sibOf N g2 k))) → (BytesAre ps ((List.range 8).map (sibOf N g2 k))) →
      (m (Str.ofString "first") = some (.ref x1)) → (m (Str.ofString "second") = some (.ref x2)) → (m (Str.ofString "name_of") = some (.ref f)) → (m (Str.ofString "drawn") = some (.int k tk0)) → (m (Str.ofString "key") = some (.bytes (keyB k).toArray tk1)) → (m (Str.ofString "default") = some (.bytes dflt.toArray td)) → (m (Str.ofString "left") = some (.ref bl)) → (m (Str.ofString "right") = some (.ref br)) → (m (Str.ofString "proof") = some (.ref px)) → wpAny (model PG w) (ktrTop dp un gd cn lawScope L a ccd [(Str.ofString "names", c3), (Str.ofString "two", c2), (Str.ofString "one", c1)] outer) (execs (lawBody.drop 18) (envX cn lawScope L a ccd [(Str.ofString "names", c3), (Str.ofString "two", c2), (Str.ofString "one", c1)])) Q E { s with heap := h', toks := tk' }) :
    wpAny (model PG w) (ktrTop dp un gd cn lawScope L a ccd [(Str.ofString "names", c3), (Str.ofString "two", c2), (Str.ofString "one", c1)] outer) (execs (lawBody.drop 17) (envX cn lawScope L a ccd [(Str.ofString "names", c3), (Str.ofString "two", c2), (Str.ofString "one", c1)])) Q E s := by
  have F1 := Fr.known F [(Str.ofString "first", _), (Str.ofString "second", _), (Str.ofString "name_of", _), (Str.ofString "drawn", _), (Str.ofString "key", _), (Str.ofString "default", _), (Str.ofString "left", _), (Str.ofString "right", _), (Str.ofString "proof", _)] (List.forall_mem_cons.mpr ⟨mfirst, List.forall_mem_cons.mpr ⟨msecond, List.forall_mem_cons.mpr ⟨mname_of, List.forall_mem_cons.mpr ⟨mdrawn, List.forall_mem_cons.mpr ⟨mkey, List.forall_mem_cons.mpr ⟨mdefault, List.forall_mem_cons.mpr ⟨mleft, List.forall_mem_cons.mpr ⟨mright, List.forall_mem_cons.mpr ⟨mproof, List.forall_mem_nil _⟩⟩⟩⟩⟩⟩⟩⟩⟩)
  clear F mfirst msecond mname_of mdrawn mkey mdefault mleft mright mproof
  have q1 : @LT.lt Nat _ dpx px := by tlg_ne
  have q2 : @LT.lt Nat _ px lb := by tlg_ne
  have obl2 := Out.cons (Nat.ne_of_lt obp.1) (Out.cons (Nat.ne_of_lt (Nat.lt_trans obp.1 q1)) (Out.cons (Nat.ne_of_lt (Nat.lt_trans obp.1 (Nat.lt_trans q1 q2))) obl))
  have obr2 := Out.cons (Nat.ne_of_lt obp.2) (Out.cons (Nat.ne_of_lt (Nat.lt_trans obp.2 q1)) (Out.cons (Nat.ne_of_lt (Nat.lt_trans obp.2 (Nat.lt_trans q1 q2))) obr))
  clear q1 q2
  conv in (occs := *) lawScope => all_goals whnf
  conv in lawBody.drop _ => whnf
  try k_fold
  repeat' (first | (k_here; (with_reducible show wpAny _ _ (pyIter (Value.ref _)) (fun it s₂ => LoopAtV _ _ _ _ _ _ _ _ _ it s₂) _ _); (refine halt ?_)) | (k_unfold; (try dsimp only)) | walk1 | (dsimp only; walk1) | (leave1; (try dsimp only)))
  rename IsRange _ _ _ _ _ _ _ _ => hR
  rename News h₀ L _ _ => NR
  rename Fr h₀ L _ _ => FR
  refine' loop_range (n := 8) (JL w x1 dx1 db1 x2 dx2 db2 pl1 pl2 c1 c2 c3 f d cc bl br px dpx lb o1 o2 o3 fo oc otab odb1 opl1 opl2 τ1 τ3 dflt root1 v2 kvs1 g1 g2 us1 us2 td tk0 tk1 k np) rfl hR (by decide) (by decide) FR NR ⟨_, _, _, _, _, _, _, rfl, by assumption, by assumption, by assumption, by assumption, by omega, by omega, by assumption, by assumption, by rw [mix_zero]; exact hps, rfl, rfl, rfl, rfl, rfl, rfl, rfl, rfl, rfl⟩ ?turn ?done
  case turn =>
    clear hon hdb2 T1 T2 bN bk2 hus1 hus2 hps NR FR
    rintro i t m₁ news₁ h tk own hi hoff ⟨on, odb2, τ2, root2, kvs2, N, ps, rfl, hon, hdb2, T1, T2, bN, bk2, hus1, hus2, hps, mfirst, msecond, mname_of, mdrawn, mkey, mdefault, mleft, mright, mproof⟩ F1 N1
    have F2 : Fr h₀ L h _ := Fr.knownX F1 [(Str.ofString "first", _), (Str.ofString "second", _), (Str.ofString "name_of", _), (Str.ofString "drawn", _), (Str.ofString "key", _), (Str.ofString "default", _), (Str.ofString "left", _), (Str.ofString "right", _), (Str.ofString "proof", _)]
      (List.forall_mem_cons.mpr ⟨mfirst, List.forall_mem_cons.mpr ⟨msecond, List.forall_mem_cons.mpr ⟨mname_of, List.forall_mem_cons.mpr ⟨mdrawn, List.forall_mem_cons.mpr ⟨mkey, List.forall_mem_cons.mpr ⟨mdefault, List.forall_mem_cons.mpr ⟨mleft, List.forall_mem_cons.mpr ⟨mright, List.forall_mem_cons.mpr ⟨mproof, List.forall_mem_nil _⟩⟩⟩⟩⟩⟩⟩⟩⟩)
      (List.forall_mem_cons.mpr ⟨ne_lit (by decide), List.forall_mem_cons.mpr ⟨ne_lit (by decide), List.forall_mem_cons.mpr ⟨ne_lit (by decide), List.forall_mem_cons.mpr ⟨ne_lit (by decide), List.forall_mem_cons.mpr ⟨ne_lit (by decide), List.forall_mem_cons.mpr ⟨ne_lit (by decide), List.forall_mem_cons.mpr ⟨ne_lit (by decide), List.forall_mem_cons.mpr ⟨ne_lit (by decide), List.forall_mem_cons.mpr ⟨ne_lit (by decide), List.forall_mem_nil _⟩⟩⟩⟩⟩⟩⟩⟩⟩)
    clear F1 mfirst msecond mname_of mdrawn mkey mdefault mleft mright mproof
    simp only [List.cons_append, List.nil_append] at N1
    simp only [List.map_cons, List.map_nil] at hoff
    try k_fold
    repeat' (first | (k_here; (with_reducible show wpAny _ _ (execs (Stmt.Assign [Expr.Name (Str.ofString "same") _] _ _ :: _) _) _ _ _); (refine halt ?_)) | (k_here; (with_reducible show wpAny _ _ (binaryOp Operator.Mult (Value.int _ _) (Value.int _ _)) _ _ _); (with_reducible refine mul_int ?_ (mul_small _ _))) | (k_here; (with_reducible show wpAny _ _ (binaryOp Operator.FloorDiv (Value.int _ _) (Value.int _ _)) _ _ _); (with_reducible refine floordiv_int (two_ne _) ?_ (Or.inl (PyProof.noPylong_small (two_small _))))) | (k_here; (with_reducible show wpAny _ _ (binaryOp Operator.Pow (Value.int _ _) (Value.int _ _)) _ _ _); (with_reducible refine pow_int_small ?r33kb1 ?r33kb2 ?r33kb3 ?_); (case r33kb1 => omega); (case r33kb2 => omega); (case r33kb3 => decide); rw [two_pow_cast]) | (k_here; (with_reducible show wpAny _ _ (execs _ _) _ _ _); dsimp only; walk1) | (k_unfold; (try dsimp only)) | walk1 | (dsimp only; walk1) | (leave1; (try dsimp only)))
    dsimp only [Halt]
    rename Fr h₀ L _ _ => FE
    rw [begin_eq] at FE
    obtain ⟨bg, hbg⟩ : ∃ bg, bg = sibI (k / 2 ^ (7 - i)) * 2 ^ (7 - i) := ⟨_, rfl⟩
    obtain ⟨W, hW⟩ : ∃ W, W = 2 ^ (7 - i) := ⟨_, rfl⟩
    have hb1 := begin_lt hk8 hi
    have hb2 := begin_div k i
    have hlev := level_iff (by omega) T1 T2 hk8 hi
    rw [← hbg] at FE hb1 hb2 hlev
    rw [← hW] at FE hb1 hlev
    have hWp : 0 < W := by rw [hW]; exact Nat.two_pow_pos _
    clear hbg hW
    try dsimp only at FE ⊢
    try k_gentoks
    refine wpAny_execs_cons ?_
    try dsimp only
    repeat' (first  | (k_unfold; (try dsimp only)) | walk1 | (dsimp only; walk1) | (leave1; (try dsimp only)))
    dsimp only [Halt]
    rename IsRange _ _ _ _ _ _ _ _ => hR
    rename Fr h₀ L _ _ => FE
    rename News h₀ L _ _ => NE
    refine LCt.CompSrcT.range (n := W) rfl FE NE hR (range_small hb1) (range_size bg W) (by rw [sizeLine_eq]; omega) (fun g => compRest_P (n₀ := W) (fun j => decide (g1 (bg + j) ≠ g2 (bg + j))) trivial ?test ?el ?fin W 0 [] [] rfl .nil ⟨fun _ j hj => absurd hj (Nat.not_lt_zero _), fun _ => rfl⟩)
    case el =>
      clear NE FE hR
      intro j v I oI C oC D m₂ h3 tk3 ys E' hj hv hC hx F3 N3
      obtain ⟨t9, rfl⟩ := hv
      repeat' (first  | (k_unfold; (try dsimp only)) | walk1 | (dsimp only; walk1) | (leave1; (try dsimp only)))
    case test =>
      clear NE FE hR
      intro j v I oI C oC D m₂ h3 tk3 ys E' hj hv hC hx F3 N3
      obtain ⟨t9, rfl⟩ := hv
      have hq : bg + j < 256 := by omega
      rcases P1.1 (bg + j) hq with ⟨e1, x1'⟩ | ⟨w1, t1', e1, x1', l1'⟩ <;> rcases P2.1 (bg + j) hq with ⟨e2, x2'⟩ | ⟨w2, t2', e2, x2', l2'⟩
      all_goals
        have q1 := congrArg (fun z => Option.getD z Value.none) e1
        have q2 := congrArg (fun z => Option.getD z Value.none) e2
        dsimp only [Option.getD] at q1 q2
        rw [Int.natCast_add] at q1 q2
        clear e1 e2
        try k_fold
        repeat' (first | (k_here; (with_reducible show wpAny _ _ (compareOp CmpOp.NotEq (Value.bytes _ _) Value.none) _ _ _); refine ne_bytes_noneR ?_) | (k_here; (with_reducible show wpAny _ _ (compareOp CmpOp.NotEq Value.none (Value.bytes _ _)) _ _ _); refine ne_none_bytesR ?_) | (k_here; (with_reducible show wpAny _ _ (call (Value.builtin "dict.get") _) _ _ _); k_dflt (refine' get_D ?r35N ?r35p ?r35d ?r35lo ?r35g ?_; (case r35N => k_asm); (case r35p => k_mem); (case r35d => k_asm); (case r35lo => k_asm); (case r35g => assumption))) | (k_unfold; (try dsimp only)) | walk1 | (dsimp only; walk1) | (leave1; (try dsimp only)))
        all_goals first | exact ⟨_, rfl⟩ | skip
        all_goals rw [x1', x2']
      · simp
      · symm; rw [decide_eq_true_iff]; intro q; rw [q] at hd1; exact hd1 l2'
      · symm; rw [decide_eq_true_iff]; intro q; rw [← q] at hd1; exact hd1 l1'
      · simp [bne, Bool.beq_eq_decide_eq]
    case fin =>
      clear NE FE hR
      intro ys ns hI hn D h3 tk3 F3 N3 o3'
      simp only [LCg.Off1, and_true] at o3'
      clear o3'
      try dsimp only
      try k_fold
      repeat' (first | (k_here; (with_reducible show wpAny _ _ (execs (Stmt.If _ _ _ _ :: Stmt.If _ _ _ _ :: _) _) _ _ _); (refine halt ?_)) | (k_unfold; (try dsimp only)) | walk1 | (dsimp only; walk1) | (leave1; (try dsimp only)))
      dsimp only [Halt]
      rename Fr h₀ L _ _ => FE
      rename News h₀ L _ _ => NE
      have NF := news_tail (news_tail NE)
      clear NE
      have hsm := same_dec hn hlev
      rw [hsm] at FE
      try dsimp only at FE ⊢
      try k_gentoks
      refine wpAny_execs_cons ?_
      try dsimp only
      by_cases hq : sibOf N g1 k i = sibOf N g2 k i
      · rename Fr h₀ L _ _ => FE
        rw [decide_eq_true hq] at FE
        have hcmp : ((sibOf N g1 k i).toArray.toList == (sibOf N g2 k i).toArray.toList) = true := by rw [hq]; simp
        repeat' (first | (k_here; (with_reducible show wpAny _ _ (compareOp CmpOp.Eq (Value.bytes _ _) (Value.bytes _ _)) _ _ _); refine eq_bytesP (by assumption) ?_) | (k_here; (with_reducible show wpAny _ _ (subscriptTail _ _ (Value.ref _) (Value.int (Nat.cast _) _)) _ _ _); k_dflt (refine' item8 ?r37N ?r37p ?r37b ?r37i ?_ ?r37s; (case r37N => k_asm); (case r37p => k_mem); (case r37b => assumption); (case r37i => assumption); (case r37s => with_unfolding_all rfl)); intro _) | (with_reducible refine haltInv ?_) | (k_unfold; (try dsimp only)) | walk1 | (dsimp only; walk1) | (leave1; (try dsimp only)))
        rename Fr _ _ _ _ => FZ
        rename News _ _ _ _ => NZ
        try dsimp only [Halt, InvPostN]
        refine invEnd [] [_, _, _, _, _, _, _, _, _, _, _, _, _, _, _, _, _, _, _, _] FZ NZ rfl ⟨_, _, _, _, _, _, _, rfl, by assumption, by assumption, by assumption, by assumption, by omega, by omega, by assumption, by assumption, ps_same hps hq, rfl, rfl, rfl, rfl, rfl, rfl, rfl, rfl, rfl⟩
      · rename Fr h₀ L _ _ => FE
        rw [decide_eq_false hq] at FE
        have hcmp : ((sibOf N g1 k i).toArray.toList == (sibOf N g2 k i).toArray.toList) = false := by simpa using hq
        obtain ⟨tB, hgD⟩ := P2.get td (show bg < 256 by omega)
        have hgl := P2.len hd2 (show bg < 256 by omega)
        have hps8 := hps.length
        simp only [List.length_map, List.length_range] at hps8
        repeat' (first | (k_here; (with_reducible show wpAny _ _ (call (Value.ref 129) [_, _, _, _]) _ _ _); k_dflt (refine' update_diff ?r40B ?r40F ?r40X ?r40T ?r40hk ?r40dp ?r40N ?r40hv8 ?r40hu8 ?r40k8 ?r40j8 ?r40ord ?r40hl ?r40hj ?_; (case r40B => k_asm); (case r40F => k_asm); (case r40X => k_asm); (case r40T => k_asm); (case r40hk => exact rfl); (case r40dp => k_room); (case r40hj => exact div_of (by assumption) (by assumption)); (case r40N => exact newsC (by k_asm) (by k_mem) (newsC (by k_asm) (by k_mem) (newsC (by k_asm) (by k_mem) (newsC (by k_asm) (by k_mem) (List.forall_mem_nil _))))); (case r40hv8 => assumption); (case r40hu8 => assumption); (case r40k8 => assumption); (case r40j8 => assumption); (case r40ord => (first | with_reducible assumption | ((repeat' (first | exact asc_one | refine asc_cons ?_ ?_ | apply And.intro)) <;> tlg_ne))); (case r40hl => assumption)); intro h' tk' u' hu' K' e1'; k_dflt (obtain ⟨F', N2'⟩ := side_one (by k_asm) (by k_asm) (by k_updF) K' e1'); (try dsimp only at N2'); clear K' e1'; (try k_sweep)) | (k_here; (with_reducible show wpAny _ _ (call (Value.ref 190) [_, _, _]) _ _ _); k_dflt (refine' set_T ?r39B ?r39F ?r39X ?r39T ?r39hk ?r39dp ?r39N ?r39ord ?r39lo ?r39nf ?r39hdb ?r39hon ?r39hN ?r39hkz ?r39k8 ?r39hvl ?r39TT ?_; (case r39nf => exact NFat.nf (by assumption) (by k_asm) (by k_mem) (by k_mem) (by k_mem)); (case r39B => k_asm); (case r39F => k_asm); (case r39X => k_asm); (case r39T => k_asm); (case r39hk => exact rfl); (case r39dp => k_room); (case r39k8 => assumption); (case r39N => exact newsC (by k_asm) (by k_mem) (newsC (by k_asm) (by k_mem) (newsC (by k_asm) (by k_mem) (newsC (by k_asm) (by k_mem) (List.forall_mem_nil _))))); (case r39hdb => k_asm); (case r39hon => k_asm); (case r39lo => k_asm); (case r39TT => first | assumption | exact TI.growE (by assumption) (by assumption)); (case r39ord => (first | with_reducible assumption | ((repeat' (first | exact asc_one | refine asc_cons ?_ ?_ | apply And.intro)) <;> tlg_ne))); (case r39hN => omega); (case r39hkz => omega); (case r39hvl => first | assumption | omega | exact Nat.le_of_ble_eq_true rfl)); intro h' r' tk' N' kvs' root' odb' on' τ' vs' hS' T' hl' hk' K' e1' hd1 hdb' hd2 hon' eR' hb' fR'; k_dflt (obtain ⟨F', N2', o1⟩ := set_sideO (by k_asm) (by k_asm) (by k_updF) (by k_updF) (by k_updF) K' e1' hd1 hd2 eR' fR'); (try dsimp only at N2'); (try simp only [List.map_cons, List.map_nil] at o1); (have hlb' := BytesAre.length hb'); (simp only [List.length_map, List.length_range] at hlb'); clear K' e1' hd1 hd2 eR' fR'; (try k_sweep)) | (k_here; (with_reducible show wpAny _ _ (compareOp CmpOp.Eq (Value.bytes _ _) (Value.bytes _ _)) _ _ _); refine eq_bytesP (by assumption) ?_) | (k_here; (with_reducible show wpAny _ _ (subscriptTail _ _ (Value.ref _) (Value.int (Nat.cast _) _)) _ _ _); k_dflt (refine' item8 ?r37N ?r37p ?r37b ?r37i ?_ ?r37s; (case r37N => k_asm); (case r37p => k_mem); (case r37b => assumption); (case r37i => assumption); (case r37s => with_unfolding_all rfl)); intro _) | (k_here; (with_reducible show wpAny _ _ (call (Value.builtin "dict.get") _) _ _ _); k_dflt (refine' get_D ?r35N ?r35p ?r35d ?r35lo ?r35g ?_; (case r35N => k_asm); (case r35p => k_mem); (case r35d => k_asm); (case r35lo => k_asm); (case r35g => assumption))) | (k_here; (with_reducible show wpAny _ _ (call (Value.type _) [Value.ref _]) _ _ _); k_dflt (refine' bytes1_K ?r25F ?r25N ?r25l ?r25i ?r25r ?r25h ?_; (case r25F => k_asm); (case r25N => k_asm); (case r25l => is_list); (case r25i => first | l_ints | l_intsW); (case r25r => (try simp only [Int.fmod_eq_emod_of_nonneg _ (by decide : (0 : Int) ≤ 256), Int.fmod_eq_emod_of_nonneg _ (by decide : (0 : Int) ≤ 2)]); (constructor <;> omega)); (case r25h => with_unfolding_all rfl)); intro h' t' k' q' e' hq' F' N'; (try k_sweep)) | (k_here; (with_reducible show wpAny _ _ (execs _ _) _ _ _); dsimp only; walk1) | (with_reducible refine haltInv ?_) | (k_unfold; (try dsimp only)) | walk1 | (dsimp only; walk1) | (leave1; (try dsimp only)))
        rename Fr _ _ _ _ => FZ
        rename News _ _ _ _ => NZ
        rename TI _ _ (put _ _ _) _ => T9
        rename BytesAre _ (List.map (fun l => nameIn _ _) _) => HB
        rename (List.length _ ≤ List.length N + 9) => hlN
        have T9' := put_at (by assumption) T9
        have HB' := told_at (by assumption) HB
        rename (∃ S, _ = N ++ S) => hS9
        have hus1' := hus1
        have hus2' := hus2
        have hps' := hps
        rw [← sibs_grow T1 hk8 hS9] at hus1'
        rw [← sibs_grow T2 hk8 hS9] at hus2'
        rw [← mix_grow T1 T2 hk8 hS9] at hps'
        try dsimp only [Halt, InvPostN]
        refine invEnd [_, _, _] [_, _, _, _, _, _, _, _, _, _, _, _, _, _, _, _, _, _, _, _] FZ NZ rfl ⟨_, _, _, _, _, _, _, rfl, by assumption, by assumption, TI.growE hS9 T1, T9', by omega, by omega, hus1', hus2', ps_set hps' HB' hi (by assumption) hb2, rfl, rfl, rfl, rfl, rfl, rfl, rfl, rfl, rfl⟩
  case done =>
    clear hon hdb2 T1 T2 bN bk2 hus1 hus2 hps NR FR
    rintro m₁ news₁ h tk ⟨on, odb2, τ2, root2, kvs2, N, ps, rfl, hon, hdb2, T1, T2, bN, bk2, hus1, hus2, hps, mfirst, msecond, mname_of, mdrawn, mkey, mdefault, mleft, mright, mproof⟩ F1 N1
    have F2 : Fr h₀ L h _ := Fr.known F1 [(Str.ofString "first", _), (Str.ofString "second", _), (Str.ofString "name_of", _), (Str.ofString "drawn", _), (Str.ofString "key", _), (Str.ofString "default", _), (Str.ofString "left", _), (Str.ofString "right", _), (Str.ofString "proof", _)] (List.forall_mem_cons.mpr ⟨mfirst, List.forall_mem_cons.mpr ⟨msecond, List.forall_mem_cons.mpr ⟨mname_of, List.forall_mem_cons.mpr ⟨mdrawn, List.forall_mem_cons.mpr ⟨mkey, List.forall_mem_cons.mpr ⟨mdefault, List.forall_mem_cons.mpr ⟨mleft, List.forall_mem_cons.mpr ⟨mright, List.forall_mem_cons.mpr ⟨mproof, List.forall_mem_nil _⟩⟩⟩⟩⟩⟩⟩⟩⟩)
    clear F1 mfirst msecond mname_of mdrawn mkey mdefault mleft mright mproof
    rw [mix_eight] at hps
    refine halt ?_
    dsimp only [Halt]
    rename Fr h₀ L _ _ => FE
    rename News h₀ L _ _ => NE
    refine' ret _ _ _ _ _ _ _ _ _ _ FE ?hNN ?f_ord ?f_nfa ?f_lo ?f_hon ?f_lopl1 ?f_lopl2 ?f_hc1 ?f_hc2 ?f_hdb1 ?f_hdb2 ?f_hpl1 ?f_hpl2 ?f_hd2 ?f_hd1 ?f_T1 ?f_T2 ?f_P1 ?f_P2 ?f_bN ?f_bk1 ?f_bk2 ?f_bi1 ?f_bi2 ?f_hk8 ?f_hv1 ?f_hv2 ?f_hl1 ?f_hl2 ?f_hg1 ?f_hg2 ?f_obl ?f_obr ?f_obb ?f_obp ?f_hus1 ?f_hus2 ?f_hps ?l_first ?l_second ?l_name_of ?l_drawn ?l_key ?l_default ?l_left ?l_right ?l_proof
    case l_first => rfl
    case l_second => rfl
    case l_name_of => rfl
    case l_drawn => rfl
    case l_key => rfl
    case l_default => rfl
    case l_left => rfl
    case l_right => rfl
    case l_proof => rfl
    case' hNN => refine' newsC NE ?n_x1 (newsC NE ?n_dx1 (newsC NE ?n_db1 (newsC NE ?n_x2 (newsC NE ?n_dx2 (newsC NE ?n_db2 (newsC NE ?n_pl1 (newsC NE ?n_pl2 (newsC NE ?n_d (newsC NE ?n_f (newsC NE ?n_cc (newsC NE ?n_c3 (newsC NE ?n_c2 (newsC NE ?n_c1 (newsC NE ?n_bl (newsC NE ?n_br (newsC NE ?n_px (newsC NE ?n_dpx (newsC NE ?n_lb (newsC NE ?n_262 (List.forall_mem_nil _))))))))))))))))))))
    case n_d => k_mem
    case f_hon => first | assumption | omega
    case n_db2 => k_mem
    case f_hdb2 => first | assumption | omega
    case n_dx2 => k_mem
    case f_T2 => first | assumption | exact TI.growE (by assumption) (by assumption)
    case n_lb => k_mem
    case f_hps => first | assumption | omega
    case n_x1 => k_mem
    case n_dx1 => k_mem
    case n_db1 => k_mem
    case n_x2 => k_mem
    case n_pl1 => k_mem
    case n_pl2 => k_mem
    case n_f => k_mem
    case n_cc => k_mem
    case n_c3 => k_mem
    case n_c2 => k_mem
    case n_c1 => k_mem
    case n_bl => k_mem
    case n_br => k_mem
    case n_px => k_mem
    case n_dpx => k_mem
    case n_262 => k_mem
    case f_ord => (first | with_reducible assumption | ((repeat' (first | exact asc_one | refine asc_cons ?_ ?_ | apply And.intro)) <;> tlg_ne))
    case f_nfa => first | assumption | omega
    case f_lo => first | assumption | omega
    case f_lopl1 => first | assumption | omega
    case f_lopl2 => first | assumption | omega
    case f_hc1 => first | assumption | omega
    case f_hc2 => first | assumption | omega
    case f_hdb1 => first | assumption | omega
    case f_hpl1 => first | assumption | omega
    case f_hpl2 => first | assumption | omega
    case f_hd2 => first | assumption | omega
    case f_hd1 => first | assumption | omega
    case f_T1 => first | assumption | exact TI.growE (by assumption) (by assumption)
    case f_P1 => first | assumption | omega
    case f_P2 => first | assumption | omega
    case f_bN => first | assumption | omega
    case f_bk1 => first | assumption | omega
    case f_bk2 => first | assumption | omega
    case f_bi1 => first | assumption | omega
    case f_bi2 => first | assumption | omega
    case f_hk8 => first | assumption | omega
    case f_hv1 => first | assumption | omega
    case f_hv2 => first | assumption | omega
    case f_hl1 => first | assumption | omega
    case f_hl2 => first | assumption | omega
    case f_hg1 => first | assumption | omega
    case f_hg2 => first | assumption | omega
    case f_obl => first | assumption | omega
    case f_obr => first | assumption | omega
    case f_obb => first | assumption | omega
    case f_obp => first | assumption | omega
    case f_hus1 => first | assumption | omega
    case f_hus2 => first | assumption | omega
end sL17
section sL18
-- room
-- where the walk halts


-- dicts keyed by octets


-- lists

-- octets



-- reversed(t)

-- tuple(reversed(xs))

-- name_of



-- _get




-- the law's level












-- the law's second half




-- the level loop


local macro_rules | `(tactic| walk_at "CompSrcT") => `(tactic| (refine halt ?_))









-- the law's end








theorem seg18 {w : World} {dp un : Nat} {gd : Option (List Code)} {cn : Str} {a : Addr} {ccd : Value} {outer : List Env} {A₀ : Around} {base h₀ : Heap} {L : Addr} {m : Str → Option Value}
    {p : Program} {loose : List Str} {mean : ExcName → Option Value} {mg mb : Str → Option Value} {s : Shared} {Q : Flow → Shared → Prop} {E : Value → Shared → Prop}
    (B : Below A₀ base outer h₀) (X : (K39 w.params).In h₀) (T : Top p loose mean mg mb h₀) (hdp : dp + 40 < recursionLimit) (hun : un + 200 < cLine)
    {c1 c2 c3 f d cc : Addr} {o1 o2 o3 fo oc on otab : Obj} {x1 dx1 db1 x2 dx2 db2 pl1 pl2 : Addr} {odb1 odb2 opl1 opl2 : Obj} {τ1 τ2 : Nat → Tok} {dflt root1 root2 : List UInt8} {kvs1 kvs2 : List (List UInt8 × Value)} {ikvs1 ikvs2 : List (Int × Value)} {N : List (List UInt8)} {g1 g2 : Nat → List UInt8} {td : Tok} {k : Nat} {v1 v2 : List UInt8} {tk0 tk1 tk2 tk3 : Tok} {bl br px dpx lb : Addr} {us1 us2 ps : List Value} {τ3 : Nat → Tok} {np : Nat}
    (F : Fr h₀ L s.heap m) (Nw : News h₀ L s.heap [(x1, instObj 235 dx1), (dx1, dictOf (treeAttrs w.params τ1 dflt root1 f db1) 6), (db1, odb1), (x2, instObj 235 dx2), (dx2, dictOf (treeAttrs w.params τ2 dflt root2 f db2) 6), (db2, odb2), (pl1, opl1), (pl2, opl2), (d, on), (f, fo), (cc, oc), (c3, o3), (c2, o2), (c1, o1), (bl, tupObj us1), (br, tupObj us2), (px, instObj 132 dpx), (dpx, dictOf (proofAttrs w.params τ3 k v2 lb f) 6), (lb, W.listOf ps.toArray np), (262, otab)])
    (ord : Asc [262, c1, c2, c3, d, cc, f, dx1, x1, db1, dx2, x2, db2, pl1, pl2, dpx, px, lb]) (nfa : NFat f d fo cc oc c3 o3) (lo : (d == sysModules) = false) (hon : NamesObj w on N) (lopl1 : (pl1 == sysModules) = false) (lopl2 : (pl2 == sysModules) = false) (hc1 : o1.data = .cell (some (.ref pl1))) (hc2 : o2.data = .cell (some (.ref pl2))) (hdb1 : odb1.IsDictOf (BK w) kvs1) (hdb2 : odb2.IsDictOf (BK w) kvs2) (hpl1 : opl1.IsDictOf (intKind PG w) ikvs1) (hpl2 : opl2.IsDictOf (intKind PG w) ikvs2) (hd2 : dflt.length ≤ 2) (hd1 : dflt.length ≠ 1) (T1 : TI N kvs1 g1 root1) (T2 : TI N kvs2 g2 root2) (P1 : PD dflt ikvs1 g1) (P2 : PD dflt ikvs2 g2) (bN : N.length ≤ 270) (bk1 : kvs1.length ≤ 180) (bk2 : kvs2.length ≤ 180) (bi1 : ikvs1.length ≤ 10) (bi2 : ikvs2.length ≤ 10) (hk8 : k < 256) (hv1 : valueAt ikvs1 (k : Int) = some (.bytes v1.toArray tk2)) (hv2 : valueAt ikvs2 (k : Int) = some (.bytes v2.toArray tk3)) (hl1 : v1.length = 1) (hl2 : v2.length = 1) (hg1 : g1 k = v1) (hg2 : g2 k = v2) (obl : Out bl [x1, dx1, db1, x2, dx2, db2, pl1, pl2, d, f, cc, c3, c2, c1, 262]) (obr : Out br [x1, dx1, db1, x2, dx2, db2, pl1, pl2, d, f, cc, c3, c2, c1, 262]) (obb : bl ≠ br) (obp : @LT.lt Nat _ bl dpx ∧ @LT.lt Nat _ br dpx) (hus1 : BytesAre us1 ((List.range 8).map (sibOf N g1 k))) (hus2 : BytesAre us2 ((List.range 8).map (sibOf N g2 k))) (hps : BytesAre ps ((List.range 8).map (sibOf N g2 k)))
    (mfirst : m (Str.ofString "first") = some (.ref x1)) (msecond : m (Str.ofString "second") = some (.ref x2)) (mname_of : m (Str.ofString "name_of") = some (.ref f)) (mdrawn : m (Str.ofString "drawn") = some (.int k tk0)) (mkey : m (Str.ofString "key") = some (.bytes (keyB k).toArray tk1)) (mdefault : m (Str.ofString "default") = some (.bytes dflt.toArray td)) (mleft : m (Str.ofString "left") = some (.ref bl)) (mright : m (Str.ofString "right") = some (.ref br)) (mproof : m (Str.ofString "proof") = some (.ref px))
    (hE : PassesOwn (model PG w) (ktrTop dp un gd cn lawScope L a ccd [(Str.ofString "names", c3), (Str.ofString "two", c2), (Str.ofString "one", c1)] outer) (envX cn lawScope L a ccd [(Str.ofString "names", c3), (Str.ofString "two", c2), (Str.ofString "one", c1)]) E)
    (fin : ∀ (h' : Heap) (tk' : Tok) (m' : Str → Option Value) (news' : List (Addr × Obj)), Fr h₀ L h' m' → News h₀ L h' news' → (262, otab) ∈ news' → Q (.ret (.bool true)) { s with heap := h', toks := tk' }) :
    wpAny (model PG w) (ktrTop dp un gd cn lawScope L a ccd [(Str.ofString "names", c3), (Str.ofString "two", c2), (Str.ofString "one", c1)] outer) (execs (lawBody.drop 18) (envX cn lawScope L a ccd [(Str.ofString "names", c3), (Str.ofString "two", c2), (Str.ofString "one", c1)])) Q E s := by
  have F1 := Fr.known F [(Str.ofString "first", _), (Str.ofString "second", _), (Str.ofString "name_of", _), (Str.ofString "drawn", _), (Str.ofString "key", _), (Str.ofString "default", _), (Str.ofString "left", _), (Str.ofString "right", _), (Str.ofString "proof", _)] (List.forall_mem_cons.mpr ⟨mfirst, List.forall_mem_cons.mpr ⟨msecond, List.forall_mem_cons.mpr ⟨mname_of, List.forall_mem_cons.mpr ⟨mdrawn, List.forall_mem_cons.mpr ⟨mkey, List.forall_mem_cons.mpr ⟨mdefault, List.forall_mem_cons.mpr ⟨mleft, List.forall_mem_cons.mpr ⟨mright, List.forall_mem_cons.mpr ⟨mproof, List.forall_mem_nil _⟩⟩⟩⟩⟩⟩⟩⟩⟩)
  clear F mfirst msecond mname_of mdrawn mkey mdefault mleft mright mproof
  have hw1 : (g1 k).length = 1 := by rw [hg1]; exact hl1
  have hw2 : (g2 k).length = 1 := by rw [hg2]; exact hl2
  have hvv : (v2.toArray.toList != v2.toArray.toList) = false := by simp
  have hv2 : v2 = g2 k := hg2.symm
  have hv12 : (v1.toArray.toList == v2.toArray.toList) = decide (v1 = g2 k) := by rw [hg2]; simp [Bool.beq_eq_decide_eq]
  obtain ⟨z0, hz0⟩ : ∃ z, (root1.toArray.toList == root2.toArray.toList) = z := ⟨_, rfl⟩
  have hz1 : z0 = true ↔ ∀ q, q < 256 → g1 q = g2 q := by rw [← hz0]; exact root_eq (by omega) T1 T2
  have hps8 := hps.length
  have hus8 := hus2.length
  simp only [List.length_map, List.length_range] at hps8 hus8
  have q1 : @LT.lt Nat _ dpx px := by tlg_ne
  have q2 : @LT.lt Nat _ px lb := by tlg_ne
  have obl2 := Out.cons (Nat.ne_of_lt obp.1) (Out.cons (Nat.ne_of_lt (Nat.lt_trans obp.1 q1)) (Out.cons (Nat.ne_of_lt (Nat.lt_trans obp.1 (Nat.lt_trans q1 q2))) obl))
  have obr2 := Out.cons (Nat.ne_of_lt obp.2) (Out.cons (Nat.ne_of_lt (Nat.lt_trans obp.2 q1)) (Out.cons (Nat.ne_of_lt (Nat.lt_trans obp.2 (Nat.lt_trans q1 q2))) obr))
  clear q1 q2
  conv in (occs := *) lawScope => all_goals whnf
  conv in lawBody.drop _ => whnf
  try k_fold
  repeat' (first | (k_here; (with_reducible show wpAny _ _ (call (Value.ref 76) [_, _, _, _]) _ _ _); k_dflt (refine' calc_S ?r51B ?r51F ?r51X ?r51T ?r51hk ?r51dp ?r51N ?r51lo ?r51nf ?r51hon ?r51hN ?r51k8 ?r51TT ?r51hb ?r51hv ?_; (case r51nf => exact NFat.nf (by with_reducible assumption) (by k_asm) (by k_mem) (by k_mem) (by k_mem)); (case r51B => k_asm); (case r51F => k_asm); (case r51X => k_asm); (case r51T => k_asm); (case r51hk => exact rfl); (case r51dp => k_room); (case r51k8 => assumption); (case r51N => exact newsC (by k_asm) (by k_mem) (newsC (by k_asm) (by k_mem) (List.forall_mem_nil _))); (case r51lo => k_asm); (case r51hon => k_asm); (case r51hN => omega); (case r51TT => first | with_reducible assumption | exact TI.growE (by with_reducible assumption) (by with_reducible assumption) | exact TI.growE (by with_reducible assumption) (TI.growE (by with_reducible assumption) (by with_reducible assumption))); (case r51hb => first | with_reducible assumption | exact bytes_grow (by with_reducible assumption) (by with_reducible assumption) (by with_reducible assumption) (by with_reducible assumption) | exact bytes_grow (by with_reducible assumption) (by with_reducible assumption) (TI.growE (by with_reducible assumption) (by with_reducible assumption)) (bytes_grow (by with_reducible assumption) (by with_reducible assumption) (by with_reducible assumption) (by with_reducible assumption))); (case r51hv => with_reducible assumption)); intro h' tk' N' hh' on' t' hS' q2' hl' K' e1' hon'; k_dflt (obtain ⟨F', N2'⟩ := side_one (by k_asm) (by k_asm) (by k_updF) K' e1'); (try dsimp only at N2'); clear K' e1'; (try k_sweep)) | (k_here; (with_reducible show wpAny _ _ (call (Value.ref 76) [_, _, _, _]) _ _ _); k_dflt (refine' calc_T ?r50B ?r50F ?r50X ?r50T ?r50hk ?r50dp ?r50N ?r50lo ?r50nf ?r50hon ?r50hN ?r50k8 ?r50TT ?r50hb ?_; (case r50nf => exact NFat.nf (by with_reducible assumption) (by k_asm) (by k_mem) (by k_mem) (by k_mem)); (case r50B => k_asm); (case r50F => k_asm); (case r50X => k_asm); (case r50T => k_asm); (case r50hk => exact rfl); (case r50dp => k_room); (case r50k8 => assumption); (case r50N => exact newsC (by k_asm) (by k_mem) (newsC (by k_asm) (by k_mem) (List.forall_mem_nil _))); (case r50lo => k_asm); (case r50hon => k_asm); (case r50hN => omega); (case r50TT => first | with_reducible assumption | exact TI.growE (by with_reducible assumption) (by with_reducible assumption) | exact TI.growE (by with_reducible assumption) (TI.growE (by with_reducible assumption) (by with_reducible assumption))); (case r50hb => first | with_reducible assumption | exact bytes_grow (by with_reducible assumption) (by with_reducible assumption) (by with_reducible assumption) (by with_reducible assumption) | exact bytes_grow (by with_reducible assumption) (by with_reducible assumption) (TI.growE (by with_reducible assumption) (by with_reducible assumption)) (bytes_grow (by with_reducible assumption) (by with_reducible assumption) (by with_reducible assumption) (by with_reducible assumption)))); intro h' tk' N' hh' on' t' hS' q1' q2' hl' K' e1' hon'; k_dflt (obtain ⟨F', N2'⟩ := side_one (by k_asm) (by k_asm) (by k_updF) K' e1'); (try dsimp only at N2'); clear K' e1'; (try k_sweep)) | (k_here; (with_reducible show wpAny _ _ (call (Value.type "tuple") [Value.ref _]) _ _ _); k_dflt (refine' tuple_of8 ?r49F ?r49N ?r49m ?r49z ?_; (case r49F => k_asm); (case r49N => k_asm); (case r49m => k_mem); (case r49z => assumption)); intro D' h' F' N' l1; (try k_lt l1); (try k_sweep)) | (k_here; (with_reducible show wpAny _ _ (compareOp CmpOp.NotEq (Value.bytes _ _) (Value.bytes _ _)) _ _ _); refine ne_bytesP (by with_reducible assumption) ?_) | (k_here; (with_reducible show wpAny _ _ (compareOp CmpOp.NotEq (Value.ref _) (Value.ref _)) _ _ _); k_dflt (refine' ne_same8 ?r47N ?r47a ?r47b ?r47x ?r47y ?r47u ?_; (case r47N => k_asm); (case r47a => k_mem); (case r47b => k_mem); (case r47x => with_reducible assumption); (case r47y => with_reducible assumption); (case r47u => exact Nat.lt_of_le_of_lt (Nat.le_add_right _ 200) (by assumption)))) | (k_here; (with_reducible show wpAny _ _ (compareOp CmpOp.Eq (Value.bool _) (Value.bool _)) _ _ _); refine eq_bool_self ?_) | (k_here; (with_reducible show wpAny _ _ (compareOp CmpOp.NotEq (Value.bool _) (Value.bool _)) _ _ _); refine ne_bool_self ?_) | (k_here; (with_reducible show wpAny _ _ (compareOp CmpOp.Eq (Value.ref _) (Value.ref _)) _ _ _); k_dflt (refine' dict_eqP ?r44N ?r44a ?r44b ?r44c ?r44d ?r44e ?r44f ?r44g ?r44i ?r44j ?r44u ?r44z ?_; (case r44N => k_asm); (case r44a => k_mem); (case r44b => k_mem); (case r44c => k_asm); (case r44d => k_asm); (case r44e => k_asm); (case r44f => k_asm); (case r44g => k_asm); (case r44i => k_asm); (case r44j => k_asm); (case r44u => exact Nat.lt_of_le_of_lt (Nat.le_add_right _ 200) (by assumption)); (case r44z => assumption))) | (k_here; (with_reducible show wpAny _ _ (compareOp CmpOp.Eq (Value.bytes _ _) (Value.bytes _ _)) _ _ _); refine eq_bytesP (by assumption) ?_) | (k_here; (with_reducible show wpAny _ _ (call (Value.ref 176) [_, _]) _ _ _); k_dflt (refine' branch_T ?r29B ?r29F ?r29X ?r29T ?r29hk ?r29dp ?r29N ?r29hdb ?r29k8 ?r29TT ?r29hv0 ?_; (case r29B => k_asm); (case r29F => k_asm); (case r29X => k_asm); (case r29T => k_asm); (case r29hk => exact rfl); (case r29dp => k_room); (case r29k8 => assumption); (case r29N => exact newsC (by k_asm) (by k_mem) (newsC (by k_asm) (by k_mem) (newsC (by k_asm) (by k_mem) (List.forall_mem_nil _)))); (case r29hdb => k_asm); (case r29TT => first | assumption | exact TI.growE (by assumption) (by assumption)); (case r29hv0 => assumption)); intro h' br' tk' vs' K' e1' hb' fR'; k_dflt (obtain ⟨F', N', o1⟩ := out1 (by k_asm) (by k_asm) K' e1' fR'); (try simp only [List.map_cons, List.map_nil] at o1); (have hlb' := BytesAre.length hb'); (simp only [List.length_map, List.length_range] at hlb'); clear K' e1' fR'; (try k_sweep)) | (k_here; (with_reducible show wpAny _ _ (subscriptTail _ _ (Value.ref _) (Value.int (Nat.cast _) _)) _ _ _); k_dflt (refine' kda_item (knd := intKind _ _) ?r27N ?r27p ?r27d (intKind_is _ _ _ _) ?r27v ?_; (case r27N => k_asm); (case r27p => k_mem); (case r27d => k_asm); (case r27v => k_asm))) | (k_here; (with_reducible show wpAny _ _ (execs _ _) _ _ _); dsimp only; walk1) | (k_unfold; (try dsimp only)) | walk1 | (dsimp only; walk1) | (leave1; (try dsimp only)))
  rename Fr h₀ L _ _ => FE
  rename News h₀ L _ _ => NE
  exact fin _ _ _ _ FE NE (by k_mem)
end sL18
section sLZ
theorem law_rest {w : World} {dp un : Nat} {gd : Option (List Code)} {cn : Str} {a : Addr} {ccd : Value} {outer : List Env} {A₀ : Around} {base h₀ : Heap} {L : Addr} {m : Str → Option Value}
    {p : Program} {loose : List Str} {mean : ExcName → Option Value} {mg mb : Str → Option Value} {s : Shared} {Q : Flow → Shared → Prop} {E : Value → Shared → Prop}
    (B : Below A₀ base outer h₀) (X : (K39 w.params).In h₀) (T : Top p loose mean mg mb h₀) (hdp : dp + 40 < recursionLimit) (hun : un + 200 < cLine)
    {c1 c2 c3 f d cc : Addr} {o1 o2 o3 fo oc on otab : Obj} {lc : Addr} {vs : List Value} {ns : List Int} {e1 e2 : Option Value}
    (F : Fr h₀ L s.heap m) (Nw : News h₀ L s.heap [(lc, W.listOf vs.toArray 0), (d, on), (f, fo), (cc, oc), (c3, o3), (c2, o2), (c1, o1), (262, otab)])
    (ord : Asc [262, c1, c2, c3, d, cc, f, lc]) (nfa : NFat f d fo cc oc c3 o3) (lo : (d == sysModules) = false) (hvs : IntsAre vs ns) (hns : ns.length = 15) (hon : on.IsDictOf (bytesKind PG w) []) (hc1 : o1.data = .cell e1) (hc2 : o2.data = .cell e2)
    (mcells : m (Str.ofString "cells") = some (.ref lc)) (mname_of : m (Str.ofString "name_of") = some (.ref f))
    (hE : PassesOwn (model PG w) (ktrTop dp un gd cn lawScope L a ccd [(Str.ofString "names", c3), (Str.ofString "two", c2), (Str.ofString "one", c1)] outer) (envX cn lawScope L a ccd [(Str.ofString "names", c3), (Str.ofString "two", c2), (Str.ofString "one", c1)]) E)
    (fin : ∀ (h' : Heap) (tk' : Tok) (m' : Str → Option Value) (news' : List (Addr × Obj)), Fr h₀ L h' m' → News h₀ L h' news' → (262, otab) ∈ news' → Q (.ret (.bool true)) { s with heap := h', toks := tk' }) :
    wpAny (model PG w) (ktrTop dp un gd cn lawScope L a ccd [(Str.ofString "names", c3), (Str.ofString "two", c2), (Str.ofString "one", c1)] outer) (execs (lawBody.drop 4) (envX cn lawScope L a ccd [(Str.ofString "names", c3), (Str.ofString "two", c2), (Str.ofString "one", c1)])) Q E s :=
  seg4 B X T hdp hun F Nw ord nfa lo hvs hns hon hc1 hc2 mcells mname_of hE (fun h' tk' m o1 o2 on x1 dx1 db1 x2 dx2 db2 pl1 pl2 odb1 odb2 opl1 opl2 τ1 τ2 dflt root1 root2 kvs1 kvs2 ikvs1 ikvs2 N g1 g2 td F Nw ord nfa lo hon hvs hns lopl1 lopl2 hc1 hc2 hdb1 hdb2 hpl1 hpl2 hd2 hd1 T1 T2 P1 P2 bN bk1 bk2 bi1 bi2 mfirst msecond mname_of mcells mdefault =>
    seg7 B X T hdp hun F Nw ord nfa lo hon hvs hns lopl1 lopl2 hc1 hc2 hdb1 hdb2 hpl1 hpl2 hd2 hd1 T1 T2 P1 P2 bN bk1 bk2 bi1 bi2 mfirst msecond mname_of mcells mdefault hE (fun h' tk' m on odb1 odb2 opl1 opl2 τ1 τ2 root1 root2 kvs1 kvs2 ikvs1 ikvs2 N g1 g2 F Nw ord nfa lo hon hvs hns lopl1 lopl2 hc1 hc2 hdb1 hdb2 hpl1 hpl2 hd2 hd1 T1 T2 P1 P2 bN bk1 bk2 bi1 bi2 mfirst msecond mname_of mcells mdefault =>
      seg9 B X T hdp hun F Nw ord nfa lo hon hvs hns lopl1 lopl2 hc1 hc2 hdb1 hdb2 hpl1 hpl2 hd2 hd1 T1 T2 P1 P2 bN bk1 bk2 bi1 bi2 mfirst msecond mname_of mcells mdefault hE (fun h' tk' m opl1 opl2 ikvs1 ikvs2 k v1 v2 tk0 tk1 tk2 tk3 F Nw ord nfa lo hon lopl1 lopl2 hc1 hc2 hdb1 hdb2 hpl1 hpl2 hd2 hd1 T1 T2 P1 P2 bN bk1 bk2 bi1 bi2 hk8 hv1 hv2 hl1 hl2 mfirst msecond mname_of mdrawn mkey mdefault =>
        seg11 B X T hdp hun F Nw ord nfa lo hon lopl1 lopl2 hc1 hc2 hdb1 hdb2 hpl1 hpl2 hd2 hd1 T1 T2 P1 P2 bN bk1 bk2 bi1 bi2 hk8 hv1 hv2 hl1 hl2 mfirst msecond mname_of mdrawn mkey mdefault hE (fun h' tk' m on odb1 odb2 τ1 τ2 root1 root2 kvs1 kvs2 N g1 g2 F Nw ord nfa lo hon lopl1 lopl2 hc1 hc2 hdb1 hdb2 hpl1 hpl2 hd2 hd1 T1 T2 P1 P2 bN bk1 bk2 bi1 bi2 hk8 hv1 hv2 hl1 hl2 hg1 hg2 mfirst msecond mname_of mdrawn mkey mdefault =>
          seg13 B X T hdp hun F Nw ord nfa lo hon lopl1 lopl2 hc1 hc2 hdb1 hdb2 hpl1 hpl2 hd2 hd1 T1 T2 P1 P2 bN bk1 bk2 bi1 bi2 hk8 hv1 hv2 hl1 hl2 hg1 hg2 mfirst msecond mname_of mdrawn mkey mdefault hE (fun h' tk' m bl br px dpx lb us1 us2 ps τ3 np F Nw ord nfa lo hon lopl1 lopl2 hc1 hc2 hdb1 hdb2 hpl1 hpl2 hd2 hd1 T1 T2 P1 P2 bN bk1 bk2 bi1 bi2 hk8 hv1 hv2 hl1 hl2 hg1 hg2 obl obr obb obp hus1 hus2 hps mfirst msecond mname_of mdrawn mkey mdefault mleft mright mproof =>
            seg17 B X T hdp hun F Nw ord nfa lo hon lopl1 lopl2 hc1 hc2 hdb1 hdb2 hpl1 hpl2 hd2 hd1 T1 T2 P1 P2 bN bk1 bk2 bi1 bi2 hk8 hv1 hv2 hl1 hl2 hg1 hg2 obl obr obb obp hus1 hus2 hps mfirst msecond mname_of mdrawn mkey mdefault mleft mright mproof hE (fun h' tk' m on odb2 τ2 root2 kvs2 N ps F Nw ord nfa lo hon lopl1 lopl2 hc1 hc2 hdb1 hdb2 hpl1 hpl2 hd2 hd1 T1 T2 P1 P2 bN bk1 bk2 bi1 bi2 hk8 hv1 hv2 hl1 hl2 hg1 hg2 obl obr obb obp hus1 hus2 hps mfirst msecond mname_of mdrawn mkey mdefault mleft mright mproof =>
              seg18 B X T hdp hun F Nw ord nfa lo hon lopl1 lopl2 hc1 hc2 hdb1 hdb2 hpl1 hpl2 hd2 hd1 T1 T2 P1 P2 bN bk1 bk2 bi1 bi2 hk8 hv1 hv2 hl1 hl2 hg1 hg2 obl obr obb obp hus1 hus2 hps mfirst msecond mname_of mdrawn mkey mdefault mleft mright mproof hE fin))))))
end sLZ
end walkB
section sL1
-- room
-- where the walk halts


-- dicts keyed by octets


-- lists

-- octets



-- reversed(t)

-- tuple(reversed(xs))

-- name_of



-- _get




-- the law's level













theorem L1 : PySem.Challenge.rw_bc0032_01.Holds := hd (by
  k_fill
  intro w s₀ s₁ mg mb G Y fa o pm cd doc dV kV ho hd hcd hD hmg hg args vals as hpre hlay hrd hwl hlo
  have KX := km_in_of Y
  have hT8 := km_tabs_of Y
  have X := (Ground.X G).1
  have V := (Ground.X G).2
  refine Ground.open G ?_
  intro T B D TE TW
  try (refine guard_noD D (by decide +kernel) ?_; clear D)
  dsimp only at hmg
  km_lay T hmg ho hd cd
  clear hmg
  wrow_args hpre hlay hrd hwl hlo
  all_goals (
    first | refine callC_kw (enter_call ?_) | refine enter_call ?_
    w_top on
    kn_posts
    w_call any ho hd hcd hD T F
    clear hd
    kn_ghosts F T
    k_drop
    skip)
  all_goals try k_fold
  repeat' (first | (k_here; (with_reducible show wpAny _ _ (execs (Stmt.Assign [Expr.Name (Str.ofString "default") _] _ _ :: _) _) _ _ _); (refine halt ?_)) | (k_here; (with_reducible show wpAny _ _ (binaryOp _ (Value.ref _) (Value.ref _)) _ _ _); k_dflt (refine' add15 ?r18F ?r18N ?r18a ?r18b ?r18i ?r18j ?r18z ?_; (case r18F => k_asm); (case r18N => k_asm); (case r18a => kmk_list); (case r18b => kmk_list); (case r18i => l_ints); (case r18j => l_ints); (case r18z => omega)); intro D' h' us' F' N' l1 hI' hL'; (try k_lt l1); (try k_sweep)) | (k_here; (with_reducible show wpAny _ _ (subscriptTail _ (PySem.Expr.Slice _ _ none _) (Value.ref _) (Value.ref _)) _ _ _); k_dflt (refine' slice15 ?r17F ?r17N ?r17l ?r17i ?r17c ?r17x ?_ ?r17s ?r17t; (case r17F => k_asm); (case r17N => k_asm); (case r17l => kmk_list); (case r17i => l_ints); (case r17c => rfl); (case r17x => omega); (case r17s => with_unfolding_all rfl); (case r17t => kmk_pure)); intro D' ws' h' F' N' l1 hI' hC'; (try k_lt l1); (try k_sweep)) | (k_here; (with_reducible show wpAny _ _ (execs _ _) _ _ _); dsimp only; walk1) | (k_here; (with_reducible show wpAny _ _ (eval (Expr.Dict [] [] _) _) _ _ _); k_dflt (refine' newDict_L ?r15k1 ?r15k2 (TopRead.nolimit (by k_asm)) ?_; (case r15k1 => k_asm); (case r15k2 => k_asm)); intro d' h' o' F' N' l1 lo' hb' hi'; (try k_lt l1); (try k_sweep)) | (k_unfold; (try dsimp only)) | walk1 | (dsimp only; walk1) | (leave1; (try dsimp only)))
  dsimp only [Halt]
  rename Fr _ _ _ _ => FE
  rename News _ _ _ _ => NE
  refine' law_rest ?B ?X ?T ?hdp ?hun FE ?hNN ?f_ord ?f_nfa ?f_lo ?f_hvs ?f_hns ?f_hon ?f_hc1 ?f_hc2 ?l_cells ?l_name_of ?hE ?fin
  case B => k_asm
  case X => k_asm
  case T => k_asm
  case hdp => decide
  case hun => decide
  case l_cells => rfl
  case l_name_of => rfl
  case' hNN => refine' newsC NE ?n_lc (newsC NE ?n_d (newsC NE ?n_f (newsC NE ?n_cc (newsC NE ?n_c3 (newsC NE ?n_c2 (newsC NE ?n_c1 (newsC NE ?n_262 (List.forall_mem_nil _))))))))
  case n_lc => k_mem
  case n_f => k_mem
  case n_c3 => k_mem
  case n_c2 => k_mem
  case n_c1 => k_mem
  case' f_nfa => refine' nf_at ?u1 ?u2 ?u3 ?u4
  case u1 => rfl
  case n_cc => k_mem
  case u2 => k_asm
  case u3 => k_asm
  case u4 => k_asm
  case n_d => k_mem
  case n_262 => k_mem
  case f_lo => k_asm
  case f_hvs => k_asm
  case f_hns => k_asm
  case f_hon => k_asm
  case f_hc1 => k_asm
  case f_hc2 => k_asm
  case f_ord => (first | with_reducible assumption | ((repeat' (first | exact asc_one | refine asc_cons ?_ ?_ | apply And.intro)) <;> tlg_ne))
  case hE => passes_own
  case fin =>
    intro h' tk' m' news' F' N' hm
    have N2 := news1 N' hm
    clear N' NE FE
    dsimp only
    refine ⟨?_, ?_⟩
    · first | wrow_close | k_steps
    · first | (walk_at "GrownAll") | k_steps)
end sL1
end walkA
end Mine
theorem PySem.Challenge.cw_bc0032_01_holds : PySem.Challenge.rw_bc0032_01.Holds := by
  exact Mine.L1
