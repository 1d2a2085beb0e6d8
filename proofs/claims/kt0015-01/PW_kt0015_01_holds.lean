import PyProof.Rows.All
import Wide.All
import OpenK.AllK
import Wide.FinOn
import PyProof.FactsAll.str_3
import PyProof.FactsAll.str_8
import Lean
import PySem.Challenge.RW_kt0015_01
open PySem PySem.W PyProof.Rows PySem.Calls
set_option Elab.async false
set_option maxRecDepth 100000
set_option maxHeartbeats 0
set_option linter.all false
set_option compiler.extract_closed false

namespace Mine
section
local macro_rules | `(tactic| o_head $H) => `(tactic| (have h8 := $H; assumption))
theorem kmk : OpenRow.Holds Challenge.rw_kt0015_01.row → OpenRow.Holds Challenge.rw_kt0015_01.row := by
  intro h9
  k_head
end
noncomputable def view : Program := { Challenge.rw_kt0015_01.row.prog with main := { Challenge.rw_kt0015_01.row.prog.main with body := ([0, 1, 4, 5, 6, 8, 9, 11, 12, 13, 14, 15, 16, 17, 23, 25, 26, 28, 30, 31, 32, 33, 34, 35, 36, 37] : List Nat).filterMap fun i => Challenge.rw_kt0015_01.row.prog.main.body[i]? } }
noncomputable def looseN : List Str := [Str.ofString "Error_ftplib", Str.ofString "bytes_types", Str.ofString "Error_binascii", Str.ofString "a2b_base64", Str.ofString "b2a_base64", Str.ofString "b64encode", Str.ofString "b64decode", Str.ofString "_twin_re_1", Str.ofString "_special_chars_map"]
noncomputable def hk : Hook := kmHook kmk.heap_1 [2, 3, 32, 34, 35, 37, 38, 39, 46, 47, 48, 49, 52, 59, 60, 61, 64, 66, 67, 69, 70, 71, 72, 74, 75, 77, 78, 79, 86, 87, 88, 89, 92, 94, 95, 97, 98, 99, 101, 102, 104, 105, 106, 108, 109, 111, 112, 113, 115, 116, 118, 119, 120, 121, 123, 124, 126, 127, 128, 129, 131, 132, 134, 135, 136, 137, 139, 140, 142, 143, 144, 145, 147, 148, 150, 151, 155, 156, 158, 162, 164, 165, 167, 168, 169, 171, 172, 174, 175, 176, 179, 180, 181, 184, 185, 186, 189, 190, 191, 193, 194, 196, 197, 198, 201, 202, 203, 205, 206, 208, 209, 210, 213, 214, 215, 217, 218, 220, 221] (fun _ => by kernel_rfl) [170]
noncomputable def topRunT (st : SharedT → Thread → Option (SharedT × Thread)) (ok : Thread → Bool) : Nat → SharedT → Thread → Option SharedT
  | 0, _, _ => none
  | n + 1, s, t => match through t with
    | true => some s
    | false => match ok t with
      | false => none
      | true => match st s t with
        | some (s', t') => topRunT st ok n s' t'
        | none => none
theorem topRunT_of {tb : String → Option Builtin} {p : Program} {w : World} {n₀ : Nat} {ann : Option Value} : ∀ {n : Nat} {s s' : SharedT} {t : Thread}, topRunT (stepT (denote tb) p w) (stepOk n₀ ann) n s t = some s' → topRun tb p w n₀ ann n s.abs t = some s'.abs
  | 0, _, _, _, h => by cases h
  | n + 1, s, s', t, h => by
    unfold topRunT at h
    unfold topRun
    cases he : through t with
    | true => rw [he] at h; cases h; rfl
    | false =>
      rw [he] at h
      cases hk : stepOk n₀ ann t with
      | false => rw [hk] at h; cases h
      | true =>
        rw [hk] at h
        cases hs : stepT (denote tb) p w s t with
        | none => rw [hs] at h; cases h
        | some r => obtain ⟨s₂, t₂⟩ := r; rw [hs] at h; rw [stepT_spec hs]; exact topRunT_of h
noncomputable def treeOf : List Obj → BT → Nat → Option BT
  | [], T, _ => some T
  | o :: l, T, n => match ((T.ins n o).get n).isSome with
    | true => treeOf l (T.ins n o) (n + 1)
    | false => none
theorem treeOf_of {life : Life} : ∀ {l : List Obj} {T T' : BT} {n : Nat}, treeOf l T n = some T' → absHeap T' (n + l.length) life = ⟨(absHeap T n life).objs ++ l.toArray, life⟩
  | [], T, T', n, h => by
    cases h
    simp [absHeap]
  | o :: l, T, T', n, h => by
    unfold treeOf at h
    cases hg : ((T.ins n o).get n).isSome with
    | false => rw [hg] at h; cases h
    | true =>
      rw [hg] at h
      have := treeOf_of (life := life) h
      rw [List.length_cons, show n + (l.length + 1) = n + 1 + l.length by omega, this, absHeap_ins hg]
      simp [Heap.push]
theorem treeOf_heap {H : Heap} {T : BT} (h : treeOf H.objs.toList .nil 0 = some T) : absHeap T H.objs.size H.life = H := by
  have := treeOf_of (life := H.life) h
  rw [Nat.zero_add, Array.length_toList] at this
  rw [this]
  obtain ⟨o, l⟩ := H
  simp [absHeap, BT.list]
noncomputable def kob (a : Nat) (P : Params) : Obj := ((kmk.heap_1 P).lookup a).getD default
noncomputable def cob (a : Nat) (P : Params) : Obj := match kob a P with
  | ⟨_, _, .func f, _⟩ => ⟨.none, none, .func { name := f.name, qualname := f.qualname, params := f.params, body := f.body, scope := f.scope, globals := 0, closure := [], defaults := .none, kwdefaults := .none }, #[]⟩
  | o => o
noncomputable def a0 : Params → Obj := fun P => (PySem.W.boot_o_0 P)
noncomputable def a1 : Params → Obj := fun P => (PySem.Obj.mk (PySem.Value.type "dict") (Option.none) (PySem.Data.dict #[(PySem.DictEntry.mk (PySem.PyData.keyHash P (PySem.Str.ofString "builtins")) (PySem.Value.str (PySem.Str.ofString "builtins") 162) (PySem.Value.ref 4)), (PySem.DictEntry.mk (PySem.PyData.keyHash P (PySem.Str.ofString "__main__")) (PySem.Value.str (PySem.Str.ofString "__main__") 163) (PySem.Value.ref 5)), (PySem.DictEntry.mk (PySem.PyData.keyHash P (PySem.Str.ofString "_sre")) (PySem.Value.str (PySem.Str.ofString "_sre") 244) (PySem.Value.ref 12))] 3) #[])
noncomputable def a2 : Params → Obj := fun P => (PySem.Obj.mk PySem.Value.none (Option.none) (PySem.Data.dict #[(PySem.DictEntry.mk (PySem.PyData.keyHash P (PySem.Str.mk #[105, 109, 112, 111, 114, 116, 46, 108, 111, 97, 100, 101, 100, 46, 95, 115, 114, 101])) (PySem.Value.str (PySem.Str.mk #[105, 109, 112, 111, 114, 116, 46, 108, 111, 97, 100, 101, 100, 46, 95, 115, 114, 101]) 183) (PySem.Value.bool Bool.true)), (PySem.DictEntry.mk (PySem.PyData.keyHash P (PySem.Str.mk #[99, 108, 97, 115, 115, 46, 95, 102, 114, 111, 122, 101, 110, 95, 105, 109, 112, 111, 114, 116, 108, 105, 98, 46, 66, 117, 105, 108, 116, 105, 110, 73, 109, 112, 111, 114, 116, 101, 114])) (PySem.Value.str (PySem.Str.mk #[99, 108, 97, 115, 115, 46, 95, 102, 114, 111, 122, 101, 110, 95, 105, 109, 112, 111, 114, 116, 108, 105, 98, 46, 66, 117, 105, 108, 116, 105, 110, 73, 109, 112, 111, 114, 116, 101, 114]) 185) (PySem.Value.ref 14)), (PySem.DictEntry.mk (PySem.PyData.keyHash P (PySem.Str.mk #[119, 97, 116, 99, 104, 101, 100, 46, 105, 109, 112, 111, 114, 116])) (PySem.Value.str (PySem.Str.mk #[119, 97, 116, 99, 104, 101, 100, 46, 105, 109, 112, 111, 114, 116]) 206) (PySem.Value.ref 18)), (PySem.DictEntry.mk (PySem.PyData.keyHash P (PySem.Str.mk #[99, 108, 97, 115, 115, 46, 95, 102, 114, 111, 122, 101, 110, 95, 105, 109, 112, 111, 114, 116, 108, 105, 98, 46, 77, 111, 100, 117, 108, 101, 83, 112, 101, 99])) (PySem.Value.str (PySem.Str.mk #[99, 108, 97, 115, 115, 46, 95, 102, 114, 111, 122, 101, 110, 95, 105, 109, 112, 111, 114, 116, 108, 105, 98, 46, 77, 111, 100, 117, 108, 101, 83, 112, 101, 99]) 216) (PySem.Value.ref 22)), (PySem.DictEntry.mk (PySem.PyData.keyHash P (PySem.Str.ofString "sys.modules.booked-epoch")) (PySem.Value.str (PySem.Str.ofString "sys.modules.booked-epoch") 245) (PySem.Value.int (3 : Int) 0)), (PySem.DictEntry.mk (PySem.PyData.keyHash P (PySem.Str.mk #[105, 109, 112, 111, 114, 116, 46, 108, 97, 116, 101, 114, 45, 108, 97, 105, 100, 46, 95, 115, 114, 101])) (PySem.Value.str (PySem.Str.mk #[105, 109, 112, 111, 114, 116, 46, 108, 97, 116, 101, 114, 45, 108, 97, 105, 100, 46, 95, 115, 114, 101]) 270) (PySem.Value.bool Bool.true)), (PySem.DictEntry.mk (PySem.PyData.keyHash P (PySem.Str.ofString "watched.library")) (PySem.Value.str (PySem.Str.ofString "watched.library") 272) (PySem.Value.ref 27)), (PySem.DictEntry.mk (PySem.PyData.keyHash P (PySem.Str.ofString "watched.library-objects")) (PySem.Value.str (PySem.Str.ofString "watched.library-objects") 0) (PySem.Value.str (PySem.Str.mk #[12]) 0)), (PySem.DictEntry.mk (PySem.PyData.keyHash P (PySem.Str.ofString "watched.library-deep._sre")) (PySem.Value.str (PySem.Str.ofString "watched.library-deep._sre") 273) (PySem.Value.str (PySem.Str.mk #[4, 0, 0, 11, 4, 0, 0, 11, 4, 0, 0, 3, 4, 0, 0, 11, 8, 4, 100, 105, 99, 116, 2]) 0))] 9) #[])
noncomputable def a3 : Params → Obj := fun P => (PySem.Obj.mk (PySem.Value.type "dict") (Option.none) (PySem.Data.dict #[(PySem.DictEntry.mk (PySem.PyData.keyHash P (PySem.Str.ofString "__name__")) (PySem.Value.str (PySem.Str.ofString "__name__") 165) (PySem.Value.str (PySem.Str.ofString "__main__") 164)), (PySem.DictEntry.mk (PySem.PyData.keyHash P (PySem.Str.ofString "__doc__")) (PySem.Value.str (PySem.Str.ofString "__doc__") 166) PySem.Value.none), (PySem.DictEntry.mk (PySem.PyData.keyHash P (PySem.Str.ofString "__package__")) (PySem.Value.str (PySem.Str.ofString "__package__") 167) PySem.Value.none), (PySem.DictEntry.mk (PySem.PyData.keyHash P (PySem.Str.ofString "__loader__")) (PySem.Value.str (PySem.Str.ofString "__loader__") 168) (PySem.Value.builtin ("__main__.__loader__#opa" ++ "que"))), (PySem.DictEntry.mk (PySem.PyData.keyHash P (PySem.Str.ofString "__spec__")) (PySem.Value.str (PySem.Str.ofString "__spec__") 169) PySem.Value.none), (PySem.DictEntry.mk (PySem.PyData.keyHash P (PySem.Str.mk #[95, 95, 97, 110, 110, 111, 116, 97, 116, 105, 111, 110, 115, 95, 95])) (PySem.Value.str (PySem.Str.mk #[95, 95, 97, 110, 110, 111, 116, 97, 116, 105, 111, 110, 115, 95, 95]) 170) (PySem.Value.ref 6)), (PySem.DictEntry.mk (PySem.PyData.keyHash P (PySem.Str.ofString "__builtins__")) (PySem.Value.str (PySem.Str.ofString "__builtins__") 171) (PySem.Value.ref 4)), (PySem.DictEntry.mk (PySem.PyData.keyHash P (PySem.Str.ofString "__file__")) (PySem.Value.str (PySem.Str.ofString "__file__") 173) (PySem.Value.str (PySem.Str.ofString "/claim/cut.py") 172)), (PySem.DictEntry.mk (PySem.PyData.keyHash P (PySem.Str.ofString "__cached__")) (PySem.Value.str (PySem.Str.ofString "__cached__") 174) PySem.Value.none), (PySem.DictEntry.mk (PySem.PyData.keyHash P (PySem.Str.ofString "_sre")) (PySem.Value.str (PySem.Str.ofString "_sre") 275) (PySem.Value.ref 12))] 10) #[])
noncomputable def a4 : Params → Obj := fun P => (PySem.W.boot_o_4 P)
noncomputable def a5 : Params → Obj := fun P => (PySem.W.boot_o_5 P)
noncomputable def a6 : Params → Obj := fun P => (PySem.W.boot_o_6 P)
noncomputable def a7 : Params → Obj := fun P => (PySem.W.boot_o_7 P)
noncomputable def a8 : Params → Obj := fun P => (PySem.W.boot_o_8 P)
noncomputable def a9 : Params → Obj := fun P => (PySem.W.boot_o_9 P)
noncomputable def a10 : Params → Obj := fun P => (PySem.W.boot_o_10 P)
noncomputable def a11 : Params → Obj := fun P => (PySem.Obj.mk (PySem.Value.type "dict") (Option.none) (PySem.Data.dict #[(PySem.DictEntry.mk (PySem.PyData.keyHash P (PySem.Str.ofString "__name__")) (PySem.Value.str (PySem.Str.ofString "__name__") 247) (PySem.Value.str (PySem.Str.ofString "_sre") 246)), (PySem.DictEntry.mk (PySem.PyData.keyHash P (PySem.Str.ofString "__doc__")) (PySem.Value.str (PySem.Str.ofString "__doc__") 248) PySem.Value.none), (PySem.DictEntry.mk (PySem.PyData.keyHash P (PySem.Str.ofString "__package__")) (PySem.Value.str (PySem.Str.ofString "__package__") 250) (PySem.Value.str (PySem.Str.ofString "") 249)), (PySem.DictEntry.mk (PySem.PyData.keyHash P (PySem.Str.ofString "__loader__")) (PySem.Value.str (PySem.Str.ofString "__loader__") 251) (PySem.Value.builtin ("off-the-table:_sre.__loader__:shared#opa" ++ "que"))), (PySem.DictEntry.mk (PySem.PyData.keyHash P (PySem.Str.ofString "__spec__")) (PySem.Value.str (PySem.Str.ofString "__spec__") 252) (PySem.Value.builtin ("off-the-table:_sre.__spec__:shared#opa" ++ "que"))), (PySem.DictEntry.mk (PySem.PyData.keyHash P (PySem.Str.ofString "compile")) (PySem.Value.str (PySem.Str.ofString "compile") 253) (PySem.Value.builtin "_sre.compile")), (PySem.DictEntry.mk (PySem.PyData.keyHash P (PySem.Str.ofString "template")) (PySem.Value.str (PySem.Str.ofString "template") 254) (PySem.Value.builtin ("off-the-table:_sre.template:shared#opa" ++ "que"))), (PySem.DictEntry.mk (PySem.PyData.keyHash P (PySem.Str.ofString "getcodesize")) (PySem.Value.str (PySem.Str.ofString "getcodesize") 255) (PySem.Value.builtin ("off-the-table:_sre.getcodesize:shared#opa" ++ "que"))), (PySem.DictEntry.mk (PySem.PyData.keyHash P (PySem.Str.ofString "ascii_iscased")) (PySem.Value.str (PySem.Str.ofString "ascii_iscased") 256) (PySem.Value.builtin ("off-the-table:_sre.ascii_iscased:shared#opa" ++ "que"))), (PySem.DictEntry.mk (PySem.PyData.keyHash P (PySem.Str.ofString "unicode_iscased")) (PySem.Value.str (PySem.Str.ofString "unicode_iscased") 257) (PySem.Value.builtin ("off-the-table:_sre.unicode_iscased:shared#opa" ++ "que"))), (PySem.DictEntry.mk (PySem.PyData.keyHash P (PySem.Str.ofString "ascii_tolower")) (PySem.Value.str (PySem.Str.ofString "ascii_tolower") 258) (PySem.Value.builtin ("off-the-table:_sre.ascii_tolower:shared#opa" ++ "que"))), (PySem.DictEntry.mk (PySem.PyData.keyHash P (PySem.Str.ofString "unicode_tolower")) (PySem.Value.str (PySem.Str.ofString "unicode_tolower") 259) (PySem.Value.builtin ("off-the-table:_sre.unicode_tolower:shared#opa" ++ "que"))), (PySem.DictEntry.mk (PySem.PyData.keyHash P (PySem.Str.ofString "MAGIC")) (PySem.Value.str (PySem.Str.ofString "MAGIC") 261) (PySem.Value.int (20230612 : Int) 260)), (PySem.DictEntry.mk (PySem.PyData.keyHash P (PySem.Str.ofString "CODESIZE")) (PySem.Value.str (PySem.Str.ofString "CODESIZE") 263) (PySem.Value.int (4 : Int) 262)), (PySem.DictEntry.mk (PySem.PyData.keyHash P (PySem.Str.ofString "MAXREPEAT")) (PySem.Value.str (PySem.Str.ofString "MAXREPEAT") 265) (PySem.Value.int (4294967295 : Int) 264)), (PySem.DictEntry.mk (PySem.PyData.keyHash P (PySem.Str.ofString "MAXGROUPS")) (PySem.Value.str (PySem.Str.ofString "MAXGROUPS") 267) (PySem.Value.int (1073741823 : Int) 266)), (PySem.DictEntry.mk (PySem.PyData.keyHash P (PySem.Str.ofString "copyright")) (PySem.Value.str (PySem.Str.ofString "copyright") 269) (PySem.Value.str (PySem.Str.ofString " SRE 2.2.2 Copyright (c) 1997-2002 by Secret Labs AB ") 268))] 17) #[])
noncomputable def a12 : Params → Obj := fun P => (PySem.Obj.mk (PySem.Value.type "module") (Option.some 11) PySem.Data.plain #[])
noncomputable def a13 : Params → Obj := fun P => (PySem.Obj.mk (PySem.Value.type "dict") (Option.none) (PySem.Data.dict #[(PySem.DictEntry.mk (PySem.PyData.keyHash P (PySem.Str.ofString "__module__")) (PySem.Value.str (PySem.Str.ofString "__module__") 189) (PySem.Value.str (PySem.Str.mk #[95, 102, 114, 111, 122, 101, 110, 95, 105, 109, 112, 111, 114, 116, 108, 105, 98]) 186)), (PySem.DictEntry.mk (PySem.PyData.keyHash P (PySem.Str.ofString "__firstlineno__")) (PySem.Value.str (PySem.Str.ofString "__firstlineno__") 190) (PySem.Value.int (971 : Int) 187)), (PySem.DictEntry.mk (PySem.PyData.keyHash P (PySem.Str.ofString "__doc__")) (PySem.Value.str (PySem.Str.ofString "__doc__") 191) (PySem.Value.builtin ("_frozen_importlib.BuiltinImporter.__doc__:str#opa" ++ "que"))), (PySem.DictEntry.mk (PySem.PyData.keyHash P (PySem.Str.ofString "_ORIGIN")) (PySem.Value.str (PySem.Str.ofString "_ORIGIN") 192) (PySem.Value.str (PySem.Str.ofString "built-in") 188)), (PySem.DictEntry.mk (PySem.PyData.keyHash P (PySem.Str.ofString "find_spec")) (PySem.Value.str (PySem.Str.ofString "find_spec") 193) (PySem.Value.builtin ("_frozen_importlib.BuiltinImporter.find_spec#opa" ++ "que"))), (PySem.DictEntry.mk (PySem.PyData.keyHash P (PySem.Str.ofString "create_module")) (PySem.Value.str (PySem.Str.ofString "create_module") 194) (PySem.Value.builtin ("_frozen_importlib.BuiltinImporter.create_module#opa" ++ "que"))), (PySem.DictEntry.mk (PySem.PyData.keyHash P (PySem.Str.ofString "exec_module")) (PySem.Value.str (PySem.Str.ofString "exec_module") 195) (PySem.Value.builtin ("_frozen_importlib.BuiltinImporter.exec_module#opa" ++ "que"))), (PySem.DictEntry.mk (PySem.PyData.keyHash P (PySem.Str.ofString "get_code")) (PySem.Value.str (PySem.Str.ofString "get_code") 196) (PySem.Value.builtin ("_frozen_importlib.BuiltinImporter.get_code#opa" ++ "que"))), (PySem.DictEntry.mk (PySem.PyData.keyHash P (PySem.Str.ofString "get_source")) (PySem.Value.str (PySem.Str.ofString "get_source") 197) (PySem.Value.builtin ("_frozen_importlib.BuiltinImporter.get_source#opa" ++ "que"))), (PySem.DictEntry.mk (PySem.PyData.keyHash P (PySem.Str.ofString "is_package")) (PySem.Value.str (PySem.Str.ofString "is_package") 198) (PySem.Value.builtin ("_frozen_importlib.BuiltinImporter.is_package#opa" ++ "que"))), (PySem.DictEntry.mk (PySem.PyData.keyHash P (PySem.Str.ofString "load_module")) (PySem.Value.str (PySem.Str.ofString "load_module") 199) (PySem.Value.builtin ("_frozen_importlib.BuiltinImporter.load_module#opa" ++ "que"))), (PySem.DictEntry.mk (PySem.PyData.keyHash P (PySem.Str.mk #[95, 95, 115, 116, 97, 116, 105, 99, 95, 97, 116, 116, 114, 105, 98, 117, 116, 101, 115, 95, 95])) (PySem.Value.str (PySem.Str.mk #[95, 95, 115, 116, 97, 116, 105, 99, 95, 97, 116, 116, 114, 105, 98, 117, 116, 101, 115, 95, 95]) 200) (PySem.Value.ref 15)), (PySem.DictEntry.mk (PySem.PyData.keyHash P (PySem.Str.ofString "__dict__")) (PySem.Value.str (PySem.Str.ofString "__dict__") 202) (PySem.Value.ref 16)), (PySem.DictEntry.mk (PySem.PyData.keyHash P (PySem.Str.ofString "__weakref__")) (PySem.Value.str (PySem.Str.ofString "__weakref__") 204) (PySem.Value.ref 17))] 14) #[])
noncomputable def a14 : Params → Obj := fun P => (PySem.Obj.mk (PySem.Value.type "type") (Option.none) (PySem.Data.cls (PySem.ClassData.mk (PySem.Str.mk #[66, 117, 105, 108, 116, 105, 110, 73, 109, 112, 111, 114, 116, 101, 114]) [(PySem.Value.type "object")] [(PySem.Value.ref 14), (PySem.Value.type "object")] 13 (PySem.Str.mk #[66, 117, 105, 108, 116, 105, 110, 73, 109, 112, 111, 114, 116, 101, 114]) Bool.true [] [] Bool.false (Option.none) Bool.false)) #[])
noncomputable def a15 : Params → Obj := fun P => (PySem.Obj.mk (PySem.Value.type "tuple") (Option.none) (PySem.Data.seq #[] 0) #[])
noncomputable def a16 : Params → Obj := fun P => (PySem.Obj.mk (PySem.Value.type "getset_descriptor") (Option.none) (PySem.Data.fields #[(PySem.Value.str (PySem.Str.ofString "__dict__") 201), (PySem.Value.ref 14), (PySem.Value.builtin "function.__dict__"), (PySem.Value.builtin "function.__dict__#set")]) #[])
noncomputable def a17 : Params → Obj := fun P => (PySem.Obj.mk (PySem.Value.type "getset_descriptor") (Option.none) (PySem.Data.fields #[(PySem.Value.str (PySem.Str.ofString "__weakref__") 203), (PySem.Value.ref 14), (PySem.Value.builtin "ExceptionGroup.__weakref__"), PySem.Value.none]) #[])
noncomputable def a18 : Params → Obj := fun P => (PySem.Obj.mk PySem.Value.none (Option.none) (PySem.Data.seq #[(PySem.Value.int (13 : Int) 0), (PySem.Value.str (PySem.Str.mk #[6, 189, 10, 95, 95, 109, 111, 100, 117, 108, 101, 95, 95, 6, 186, 17, 95, 102, 114, 111, 122, 101, 110, 95, 105, 109, 112, 111, 114, 116, 108, 105, 98, 6, 190, 15, 95, 95, 102, 105, 114, 115, 116, 108, 105, 110, 101, 110, 111, 95, 95, 4, 187, 0, 971, 6, 191, 7, 95, 95, 100, 111, 99, 95, 95, 9, 52, 95, 102, 114, 111, 122, 101, 110, 95, 105, 109, 112, 111, 114, 116, 108, 105, 98, 46, 66, 117, 105, 108, 116, 105, 110, 73, 109, 112, 111, 114, 116, 101, 114, 46, 95, 95, 100, 111, 99, 95, 95, 58, 115, 116, 114, 35, 111, 112, 97, 113, 117, 101, 6, 192, 7, 95, 79, 82, 73, 71, 73, 78, 6, 188, 8, 98, 117, 105, 108, 116, 45, 105, 110, 6, 193, 9, 102, 105, 110, 100, 95, 115, 112, 101, 99, 9, 50, 95, 102, 114, 111, 122, 101, 110, 95, 105, 109, 112, 111, 114, 116, 108, 105, 98, 46, 66, 117, 105, 108, 116, 105, 110, 73, 109, 112, 111, 114, 116, 101, 114, 46, 102, 105, 110, 100, 95, 115, 112, 101, 99, 35, 111, 112, 97, 113, 117, 101, 6, 194, 13, 99, 114, 101, 97, 116, 101, 95, 109, 111, 100, 117, 108, 101, 9, 54, 95, 102, 114, 111, 122, 101, 110, 95, 105, 109, 112, 111, 114, 116, 108, 105, 98, 46, 66, 117, 105, 108, 116, 105, 110, 73, 109, 112, 111, 114, 116, 101, 114, 46, 99, 114, 101, 97, 116, 101, 95, 109, 111, 100, 117, 108, 101, 35, 111, 112, 97, 113, 117, 101, 6, 195, 11, 101, 120, 101, 99, 95, 109, 111, 100, 117, 108, 101, 9, 52, 95, 102, 114, 111, 122, 101, 110, 95, 105, 109, 112, 111, 114, 116, 108, 105, 98, 46, 66, 117, 105, 108, 116, 105, 110, 73, 109, 112, 111, 114, 116, 101, 114, 46, 101, 120, 101, 99, 95, 109, 111, 100, 117, 108, 101, 35, 111, 112, 97, 113, 117, 101, 6, 196, 8, 103, 101, 116, 95, 99, 111, 100, 101, 9, 49, 95, 102, 114, 111, 122, 101, 110, 95, 105, 109, 112, 111, 114, 116, 108, 105, 98, 46, 66, 117, 105, 108, 116, 105, 110, 73, 109, 112, 111, 114, 116, 101, 114, 46, 103, 101, 116, 95, 99, 111, 100, 101, 35, 111, 112, 97, 113, 117, 101, 6, 197, 10, 103, 101, 116, 95, 115, 111, 117, 114, 99, 101, 9, 51, 95, 102, 114, 111, 122, 101, 110, 95, 105, 109, 112, 111, 114, 116, 108, 105, 98, 46, 66, 117, 105, 108, 116, 105, 110, 73, 109, 112, 111, 114, 116, 101, 114, 46, 103, 101, 116, 95, 115, 111, 117, 114, 99, 101, 35, 111, 112, 97, 113, 117, 101, 6, 198, 10, 105, 115, 95, 112, 97, 99, 107, 97, 103, 101, 9, 51, 95, 102, 114, 111, 122, 101, 110, 95, 105, 109, 112, 111, 114, 116, 108, 105, 98, 46, 66, 117, 105, 108, 116, 105, 110, 73, 109, 112, 111, 114, 116, 101, 114, 46, 105, 115, 95, 112, 97, 99, 107, 97, 103, 101, 35, 111, 112, 97, 113, 117, 101, 6, 199, 11, 108, 111, 97, 100, 95, 109, 111, 100, 117, 108, 101, 9, 52, 95, 102, 114, 111, 122, 101, 110, 95, 105, 109, 112, 111, 114, 116, 108, 105, 98, 46, 66, 117, 105, 108, 116, 105, 110, 73, 109, 112, 111, 114, 116, 101, 114, 46, 108, 111, 97, 100, 95, 109, 111, 100, 117, 108, 101, 35, 111, 112, 97, 113, 117, 101, 6, 200, 21, 95, 95, 115, 116, 97, 116, 105, 99, 95, 97, 116, 116, 114, 105, 98, 117, 116, 101, 115, 95, 95, 4, 0, 0, 15, 6, 202, 8, 95, 95, 100, 105, 99, 116, 95, 95, 4, 0, 0, 16, 6, 204, 11, 95, 95, 119, 101, 97, 107, 114, 101, 102, 95, 95, 4, 0, 0, 17]) 0), (PySem.Value.bool Bool.true), (PySem.Value.bool Bool.true), (PySem.Value.str (PySem.Str.ofString "") 205), (PySem.Value.int (21 : Int) 0), (PySem.Value.str (PySem.Str.mk #[6, 227, 10, 95, 95, 109, 111, 100, 117, 108, 101, 95, 95, 6, 217, 17, 95, 102, 114, 111, 122, 101, 110, 95, 105, 109, 112, 111, 114, 116, 108, 105, 98, 6, 228, 15, 95, 95, 102, 105, 114, 115, 116, 108, 105, 110, 101, 110, 111, 95, 95, 4, 218, 0, 562, 6, 229, 7, 95, 95, 100, 111, 99, 95, 95, 9, 47, 95, 102, 114, 111, 122, 101, 110, 95, 105, 109, 112, 111, 114, 116, 108, 105, 98, 46, 77, 111, 100, 117, 108, 101, 83, 112, 101, 99, 46, 95, 95, 100, 111, 99, 95, 95, 58, 115, 116, 114, 35, 111, 112, 97, 113, 117, 101, 6, 230, 8, 95, 95, 105, 110, 105, 116, 95, 95, 9, 44, 95, 102, 114, 111, 122, 101, 110, 95, 105, 109, 112, 111, 114, 116, 108, 105, 98, 46, 77, 111, 100, 117, 108, 101, 83, 112, 101, 99, 46, 95, 95, 105, 110, 105, 116, 95, 95, 35, 111, 112, 97, 113, 117, 101, 6, 231, 8, 95, 95, 114, 101, 112, 114, 95, 95, 9, 44, 95, 102, 114, 111, 122, 101, 110, 95, 105, 109, 112, 111, 114, 116, 108, 105, 98, 46, 77, 111, 100, 117, 108, 101, 83, 112, 101, 99, 46, 95, 95, 114, 101, 112, 114, 95, 95, 35, 111, 112, 97, 113, 117, 101, 6, 232, 6, 95, 95, 101, 113, 95, 95, 9, 42, 95, 102, 114, 111, 122, 101, 110, 95, 105, 109, 112, 111, 114, 116, 108, 105, 98, 46, 77, 111, 100, 117, 108, 101, 83, 112, 101, 99, 46, 95, 95, 101, 113, 95, 95, 35, 111, 112, 97, 113, 117, 101, 6, 233, 6, 99, 97, 99, 104, 101, 100, 9, 42, 95, 102, 114, 111, 122, 101, 110, 95, 105, 109, 112, 111, 114, 116, 108, 105, 98, 46, 77, 111, 100, 117, 108, 101, 83, 112, 101, 99, 46, 99, 97, 99, 104, 101, 100, 35, 111, 112, 97, 113, 117, 101, 6, 234, 6, 112, 97, 114, 101, 110, 116, 9, 42, 95, 102, 114, 111, 122, 101, 110, 95, 105, 109, 112, 111, 114, 116, 108, 105, 98, 46, 77, 111, 100, 117, 108, 101, 83, 112, 101, 99, 46, 112, 97, 114, 101, 110, 116, 35, 111, 112, 97, 113, 117, 101, 6, 235, 12, 104, 97, 115, 95, 108, 111, 99, 97, 116, 105, 111, 110, 9, 48, 95, 102, 114, 111, 122, 101, 110, 95, 105, 109, 112, 111, 114, 116, 108, 105, 98, 46, 77, 111, 100, 117, 108, 101, 83, 112, 101, 99, 46, 104, 97, 115, 95, 108, 111, 99, 97, 116, 105, 111, 110, 35, 111, 112, 97, 113, 117, 101, 6, 236, 21, 95, 95, 115, 116, 97, 116, 105, 99, 95, 97, 116, 116, 114, 105, 98, 117, 116, 101, 115, 95, 95, 4, 0, 0, 23, 6, 238, 8, 95, 95, 100, 105, 99, 116, 95, 95, 4, 0, 0, 24, 6, 240, 11, 95, 95, 119, 101, 97, 107, 114, 101, 102, 95, 95, 4, 0, 0, 25, 6, 241, 8, 95, 95, 104, 97, 115, 104, 95, 95, 0]) 0), (PySem.Value.bool Bool.true), (PySem.Value.bool Bool.true), (PySem.Value.str (PySem.Str.ofString "") 242)] 1) #[])
noncomputable def a19 : Params → Obj := fun P => (PySem.Obj.mk (PySem.Value.type "list") (Option.none) (PySem.Data.seq #[] 0) #[])
noncomputable def a20 : Params → Obj := fun P => (PySem.Obj.mk (PySem.Value.type "dict") (Option.none) (PySem.Data.dict #[(PySem.DictEntry.mk (PySem.PyData.keyHash P (PySem.Str.ofString "name")) (PySem.Value.str (PySem.Str.ofString "name") 208) (PySem.Value.str (PySem.Str.ofString "_sre") 207)), (PySem.DictEntry.mk (PySem.PyData.keyHash P (PySem.Str.ofString "loader")) (PySem.Value.str (PySem.Str.ofString "loader") 209) (PySem.Value.ref 14)), (PySem.DictEntry.mk (PySem.PyData.keyHash P (PySem.Str.ofString "origin")) (PySem.Value.str (PySem.Str.ofString "origin") 210) (PySem.Value.str (PySem.Str.ofString "built-in") 184)), (PySem.DictEntry.mk (PySem.PyData.keyHash P (PySem.Str.ofString "loader_state")) (PySem.Value.str (PySem.Str.ofString "loader_state") 211) PySem.Value.none), (PySem.DictEntry.mk (PySem.PyData.keyHash P (PySem.Str.ofString "submodule_search_locations")) (PySem.Value.str (PySem.Str.ofString "submodule_search_locations") 212) PySem.Value.none), (PySem.DictEntry.mk (PySem.PyData.keyHash P (PySem.Str.mk #[95, 117, 110, 105, 110, 105, 116, 105, 97, 108, 105, 122, 101, 100, 95, 115, 117, 98, 109, 111, 100, 117, 108, 101, 115])) (PySem.Value.str (PySem.Str.mk #[95, 117, 110, 105, 110, 105, 116, 105, 97, 108, 105, 122, 101, 100, 95, 115, 117, 98, 109, 111, 100, 117, 108, 101, 115]) 213) (PySem.Value.ref 19)), (PySem.DictEntry.mk (PySem.PyData.keyHash P (PySem.Str.ofString "_set_fileattr")) (PySem.Value.str (PySem.Str.ofString "_set_fileattr") 214) (PySem.Value.bool Bool.false)), (PySem.DictEntry.mk (PySem.PyData.keyHash P (PySem.Str.ofString "_cached")) (PySem.Value.str (PySem.Str.ofString "_cached") 215) PySem.Value.none), (PySem.DictEntry.mk (PySem.PyData.keyHash P (PySem.Str.ofString "_initializing")) (PySem.Value.str (PySem.Str.ofString "_initializing") 243) (PySem.Value.bool Bool.false))] 9) #[])
noncomputable def a21 : Params → Obj := fun P => (PySem.Obj.mk (PySem.Value.type "dict") (Option.none) (PySem.Data.dict #[(PySem.DictEntry.mk (PySem.PyData.keyHash P (PySem.Str.ofString "__module__")) (PySem.Value.str (PySem.Str.ofString "__module__") 227) (PySem.Value.str (PySem.Str.mk #[95, 102, 114, 111, 122, 101, 110, 95, 105, 109, 112, 111, 114, 116, 108, 105, 98]) 217)), (PySem.DictEntry.mk (PySem.PyData.keyHash P (PySem.Str.ofString "__firstlineno__")) (PySem.Value.str (PySem.Str.ofString "__firstlineno__") 228) (PySem.Value.int (562 : Int) 218)), (PySem.DictEntry.mk (PySem.PyData.keyHash P (PySem.Str.ofString "__doc__")) (PySem.Value.str (PySem.Str.ofString "__doc__") 229) (PySem.Value.builtin ("_frozen_importlib.ModuleSpec.__doc__:str#opa" ++ "que"))), (PySem.DictEntry.mk (PySem.PyData.keyHash P (PySem.Str.ofString "__init__")) (PySem.Value.str (PySem.Str.ofString "__init__") 230) (PySem.Value.builtin ("_frozen_importlib.ModuleSpec.__init__#opa" ++ "que"))), (PySem.DictEntry.mk (PySem.PyData.keyHash P (PySem.Str.ofString "__repr__")) (PySem.Value.str (PySem.Str.ofString "__repr__") 231) (PySem.Value.builtin ("_frozen_importlib.ModuleSpec.__repr__#opa" ++ "que"))), (PySem.DictEntry.mk (PySem.PyData.keyHash P (PySem.Str.ofString "__eq__")) (PySem.Value.str (PySem.Str.ofString "__eq__") 232) (PySem.Value.builtin ("_frozen_importlib.ModuleSpec.__eq__#opa" ++ "que"))), (PySem.DictEntry.mk (PySem.PyData.keyHash P (PySem.Str.ofString "cached")) (PySem.Value.str (PySem.Str.ofString "cached") 233) (PySem.Value.builtin ("_frozen_importlib.ModuleSpec.cached#opa" ++ "que"))), (PySem.DictEntry.mk (PySem.PyData.keyHash P (PySem.Str.ofString "parent")) (PySem.Value.str (PySem.Str.ofString "parent") 234) (PySem.Value.builtin ("_frozen_importlib.ModuleSpec.parent#opa" ++ "que"))), (PySem.DictEntry.mk (PySem.PyData.keyHash P (PySem.Str.ofString "has_location")) (PySem.Value.str (PySem.Str.ofString "has_location") 235) (PySem.Value.builtin ("_frozen_importlib.ModuleSpec.has_location#opa" ++ "que"))), (PySem.DictEntry.mk (PySem.PyData.keyHash P (PySem.Str.mk #[95, 95, 115, 116, 97, 116, 105, 99, 95, 97, 116, 116, 114, 105, 98, 117, 116, 101, 115, 95, 95])) (PySem.Value.str (PySem.Str.mk #[95, 95, 115, 116, 97, 116, 105, 99, 95, 97, 116, 116, 114, 105, 98, 117, 116, 101, 115, 95, 95]) 236) (PySem.Value.ref 23)), (PySem.DictEntry.mk (PySem.PyData.keyHash P (PySem.Str.ofString "__dict__")) (PySem.Value.str (PySem.Str.ofString "__dict__") 238) (PySem.Value.ref 24)), (PySem.DictEntry.mk (PySem.PyData.keyHash P (PySem.Str.ofString "__weakref__")) (PySem.Value.str (PySem.Str.ofString "__weakref__") 240) (PySem.Value.ref 25)), (PySem.DictEntry.mk (PySem.PyData.keyHash P (PySem.Str.ofString "__hash__")) (PySem.Value.str (PySem.Str.ofString "__hash__") 241) PySem.Value.none)] 13) #[])
noncomputable def a22 : Params → Obj := fun P => (PySem.Obj.mk (PySem.Value.type "type") (Option.none) (PySem.Data.cls (PySem.ClassData.mk (PySem.Str.ofString "ModuleSpec") [(PySem.Value.type "object")] [(PySem.Value.ref 22), (PySem.Value.type "object")] 21 (PySem.Str.ofString "ModuleSpec") Bool.true [] [] Bool.false (Option.none) Bool.false)) #[])
noncomputable def a23 : Params → Obj := fun P => (PySem.Obj.mk (PySem.Value.type "tuple") (Option.none) (PySem.Data.seq #[(PySem.Value.str (PySem.Str.ofString "_cached") 219), (PySem.Value.str (PySem.Str.ofString "_set_fileattr") 220), (PySem.Value.str (PySem.Str.mk #[95, 117, 110, 105, 110, 105, 116, 105, 97, 108, 105, 122, 101, 100, 95, 115, 117, 98, 109, 111, 100, 117, 108, 101, 115]) 221), (PySem.Value.str (PySem.Str.ofString "loader") 222), (PySem.Value.str (PySem.Str.ofString "loader_state") 223), (PySem.Value.str (PySem.Str.ofString "name") 224), (PySem.Value.str (PySem.Str.ofString "origin") 225), (PySem.Value.str (PySem.Str.ofString "submodule_search_locations") 226)] 0) #[])
noncomputable def a24 : Params → Obj := fun P => (PySem.Obj.mk (PySem.Value.type "getset_descriptor") (Option.none) (PySem.Data.fields #[(PySem.Value.str (PySem.Str.ofString "__dict__") 237), (PySem.Value.ref 22), (PySem.Value.builtin "function.__dict__"), (PySem.Value.builtin "function.__dict__#set")]) #[])
noncomputable def a25 : Params → Obj := fun P => (PySem.Obj.mk (PySem.Value.type "getset_descriptor") (Option.none) (PySem.Data.fields #[(PySem.Value.str (PySem.Str.ofString "__weakref__") 239), (PySem.Value.ref 22), (PySem.Value.builtin "ExceptionGroup.__weakref__"), PySem.Value.none]) #[])
noncomputable def a26 : Params → Obj := fun P => (PySem.Obj.mk (PySem.Value.ref 22) (Option.some 20) PySem.Data.plain #[])
noncomputable def a27 : Params → Obj := fun P => (PySem.Obj.mk PySem.Value.none (Option.none) (PySem.Data.seq #[(PySem.Value.int (11 : Int) 0), (PySem.Value.str (PySem.Str.mk #[6, 247, 8, 95, 95, 110, 97, 109, 101, 95, 95, 6, 246, 4, 95, 115, 114, 101, 6, 248, 7, 95, 95, 100, 111, 99, 95, 95, 0, 6, 250, 11, 95, 95, 112, 97, 99, 107, 97, 103, 101, 95, 95, 6, 249, 0, 6, 251, 10, 95, 95, 108, 111, 97, 100, 101, 114, 95, 95, 4, 0, 0, 14, 6, 252, 8, 95, 95, 115, 112, 101, 99, 95, 95, 4, 0, 0, 26, 6, 253, 7, 99, 111, 109, 112, 105, 108, 101, 9, 12, 95, 115, 114, 101, 46, 99, 111, 109, 112, 105, 108, 101, 6, 254, 8, 116, 101, 109, 112, 108, 97, 116, 101, 9, 13, 95, 115, 114, 101, 46, 116, 101, 109, 112, 108, 97, 116, 101, 6, 255, 11, 103, 101, 116, 99, 111, 100, 101, 115, 105, 122, 101, 9, 16, 95, 115, 114, 101, 46, 103, 101, 116, 99, 111, 100, 101, 115, 105, 122, 101, 6, 256, 13, 97, 115, 99, 105, 105, 95, 105, 115, 99, 97, 115, 101, 100, 9, 18, 95, 115, 114, 101, 46, 97, 115, 99, 105, 105, 95, 105, 115, 99, 97, 115, 101, 100, 6, 257, 15, 117, 110, 105, 99, 111, 100, 101, 95, 105, 115, 99, 97, 115, 101, 100, 9, 20, 95, 115, 114, 101, 46, 117, 110, 105, 99, 111, 100, 101, 95, 105, 115, 99, 97, 115, 101, 100, 6, 258, 13, 97, 115, 99, 105, 105, 95, 116, 111, 108, 111, 119, 101, 114, 9, 18, 95, 115, 114, 101, 46, 97, 115, 99, 105, 105, 95, 116, 111, 108, 111, 119, 101, 114, 6, 259, 15, 117, 110, 105, 99, 111, 100, 101, 95, 116, 111, 108, 111, 119, 101, 114, 9, 20, 95, 115, 114, 101, 46, 117, 110, 105, 99, 111, 100, 101, 95, 116, 111, 108, 111, 119, 101, 114, 6, 261, 5, 77, 65, 71, 73, 67, 4, 260, 0, 20230612, 6, 263, 8, 67, 79, 68, 69, 83, 73, 90, 69, 4, 262, 0, 4, 6, 265, 9, 77, 65, 88, 82, 69, 80, 69, 65, 84, 4, 264, 0, 4294967295, 6, 267, 9, 77, 65, 88, 71, 82, 79, 85, 80, 83, 4, 266, 0, 1073741823, 6, 269, 9, 99, 111, 112, 121, 114, 105, 103, 104, 116, 6, 268, 53, 32, 83, 82, 69, 32, 50, 46, 50, 46, 50, 32, 67, 111, 112, 121, 114, 105, 103, 104, 116, 32, 40, 99, 41, 32, 49, 57, 57, 55, 45, 50, 48, 48, 50, 32, 98, 121, 32, 83, 101, 99, 114, 101, 116, 32, 76, 97, 98, 115, 32, 65, 66, 32]) 0), (PySem.Value.bool Bool.true), (PySem.Value.bool Bool.false), (PySem.Value.str (PySem.Str.ofString "_sre") 271)] 0) #[])
noncomputable def b28 : Params → Obj := fun P => (PySem.Obj.mk (PySem.Value.type "tuple") (Option.none) (PySem.Data.seq #[] 0) #[])
noncomputable def b29 : Params → Obj := fun P => (PySem.Obj.mk PySem.Value.none (Option.none) (PySem.Data.fields #[(PySem.Value.int (2 : Int) 0), (PySem.Value.int (0 : Int) 0), (PySem.Value.ref 37), (PySem.Value.int (6 : Int) 0), (PySem.Value.int (0 : Int) 0), (PySem.Value.ref 44), (PySem.Value.int (9 : Int) 0), (PySem.Value.int (0 : Int) 0), (PySem.Value.ref 57), (PySem.Value.int (11 : Int) 0), (PySem.Value.int (0 : Int) 0), (PySem.Value.ref 69), (PySem.Value.int (30 : Int) 0), (PySem.Value.int (0 : Int) 0), (PySem.Value.ref 77), (PySem.Value.int (43 : Int) 0), (PySem.Value.int (0 : Int) 0), (PySem.Value.ref 84), (PySem.Value.int (46 : Int) 0), (PySem.Value.int (0 : Int) 0), (PySem.Value.ref 97), (PySem.Value.int (57 : Int) 0), (PySem.Value.int (0 : Int) 0), (PySem.Value.ref 104), (PySem.Value.int (64 : Int) 0), (PySem.Value.int (0 : Int) 0), (PySem.Value.ref 111), (PySem.Value.int (70 : Int) 0), (PySem.Value.int (0 : Int) 0), (PySem.Value.ref 118), (PySem.Value.int (82 : Int) 0), (PySem.Value.int (0 : Int) 0), (PySem.Value.ref 126), (PySem.Value.int (136 : Int) 0), (PySem.Value.int (0 : Int) 0), (PySem.Value.ref 134), (PySem.Value.int (159 : Int) 0), (PySem.Value.int (0 : Int) 0), (PySem.Value.ref 142), (PySem.Value.int (165 : Int) 0), (PySem.Value.int (0 : Int) 0), (PySem.Value.ref 150), (PySem.Value.int (175 : Int) 0), (PySem.Value.int (0 : Int) 0), (PySem.Value.ref 167), (PySem.Value.int (182 : Int) 0), (PySem.Value.int (0 : Int) 0), (PySem.Value.ref 174), (PySem.Value.int (245 : Int) 0), (PySem.Value.int (0 : Int) 0), (PySem.Value.ref 179), (PySem.Value.int (254 : Int) 0), (PySem.Value.int (0 : Int) 0), (PySem.Value.ref 184), (PySem.Value.int (257 : Int) 0), (PySem.Value.int (0 : Int) 0), (PySem.Value.ref 189), (PySem.Value.int (265 : Int) 0), (PySem.Value.int (0 : Int) 0), (PySem.Value.ref 196), (PySem.Value.int (267 : Int) 0), (PySem.Value.int (0 : Int) 0), (PySem.Value.ref 201), (PySem.Value.int (283 : Int) 0), (PySem.Value.int (0 : Int) 0), (PySem.Value.ref 208), (PySem.Value.int (289 : Int) 0), (PySem.Value.int (0 : Int) 0), (PySem.Value.ref 213), (PySem.Value.int (299 : Int) 0), (PySem.Value.int (0 : Int) 0), (PySem.Value.ref 220)]) #[])
noncomputable def b30 : Params → Obj := fun P => (PySem.Obj.mk (PySem.Value.type "code") (Option.none) (PySem.Data.fields #[(PySem.Value.str (PySem.Str.ofString "<module>") 277), (PySem.Value.str (PySem.Str.ofString "<module>") 278), (PySem.Value.str (PySem.Str.ofString "/claim/cut.py") 279), (PySem.Value.int (1 : Int) 0), (PySem.Value.int (0 : Int) 0), (PySem.Value.int (0 : Int) 0), (PySem.Value.int (0 : Int) 0), (PySem.Value.int (0 : Int) 0), (PySem.Value.ref 28), (PySem.Value.bool Bool.false), (PySem.Value.int (276 : Int) 0), (PySem.Value.ref 29), PySem.Value.none, PySem.Value.none, PySem.Value.none, PySem.Value.none, (PySem.Value.int (280 : Int) 0), (PySem.Value.int (1 : Int) 0), (PySem.Value.str (PySem.Str.ofString "/claim/cut.py") 281)]) #[])
noncomputable def b31 : Params → Obj := fun P => (PySem.Obj.mk (PySem.Value.type "frame") (Option.none) PySem.Data.plain #[(Option.some (PySem.Value.ref 30)), (Option.some (PySem.Value.ref 3)), (Option.some (PySem.Value.ref 3)), (Option.none), (Option.some (PySem.Value.str (PySem.Str.ofString "__main__") 164)), (Option.none), (Option.some (PySem.Value.ref 0))])
noncomputable def b33 : Params → Obj := fun P => (PySem.Obj.mk PySem.Value.none (Option.none) (PySem.Data.fields #[]) #[])
noncomputable def b40 : Params → Obj := fun P => (PySem.Obj.mk (PySem.Value.type "builtin_function_or_method") (Option.none) (PySem.Data.fields #[(PySem.Value.builtin "type.__prepare__"), (PySem.Value.type "type")]) #[])
noncomputable def b41 : Params → Obj := fun P => (PySem.Obj.mk (PySem.Value.type "dict") (Option.none) (PySem.Data.dict #[(PySem.DictEntry.mk (PySem.PyData.keyHash P (PySem.Str.ofString "__module__")) (PySem.Value.str (PySem.Str.ofString "__module__") 298) (PySem.Value.str (PySem.Str.ofString "cpy313.ftplib") 289)), (PySem.DictEntry.mk (PySem.PyData.keyHash P (PySem.Str.ofString "__qualname__")) (PySem.Value.str (PySem.Str.ofString "__qualname__") 300) (PySem.Value.str (PySem.Str.ofString "Error") 299)), (PySem.DictEntry.mk (PySem.PyData.keyHash P (PySem.Str.ofString "__firstlineno__")) (PySem.Value.str (PySem.Str.ofString "__firstlineno__") 302) (PySem.Value.int (6 : Int) 301)), (PySem.DictEntry.mk (PySem.PyData.keyHash P (PySem.Str.mk #[95, 95, 115, 116, 97, 116, 105, 99, 95, 97, 116, 116, 114, 105, 98, 117, 116, 101, 115, 95, 95])) (PySem.Value.str (PySem.Str.mk #[95, 95, 115, 116, 97, 116, 105, 99, 95, 97, 116, 116, 114, 105, 98, 117, 116, 101, 115, 95, 95]) 303) (PySem.Value.ref 46))] 4) #[])
noncomputable def b42 : Params → Obj := fun P => (PySem.Obj.mk (PySem.Value.type "tuple") (Option.none) (PySem.Data.seq #[] 0) #[])
noncomputable def b43 : Params → Obj := fun P => (PySem.Obj.mk PySem.Value.none (Option.none) (PySem.Data.fields #[]) #[])
noncomputable def b44 : Params → Obj := fun P => (PySem.Obj.mk (PySem.Value.type "code") (Option.none) (PySem.Data.fields #[(PySem.Value.str (PySem.Str.ofString "Error") 293), (PySem.Value.str (PySem.Str.ofString "Error") 294), (PySem.Value.str (PySem.Str.ofString "/claim/cut.py") 295), (PySem.Value.int (6 : Int) 0), (PySem.Value.int (0 : Int) 0), (PySem.Value.int (0 : Int) 0), (PySem.Value.int (0 : Int) 0), (PySem.Value.int (0 : Int) 0), (PySem.Value.ref 42), (PySem.Value.bool Bool.false), (PySem.Value.int (276 : Int) 0), (PySem.Value.ref 43), PySem.Value.none, PySem.Value.none, PySem.Value.none, PySem.Value.none, (PySem.Value.int (296 : Int) 0), (PySem.Value.int (6 : Int) 0), (PySem.Value.str (PySem.Str.ofString "/claim/cut.py") 297)]) #[])
noncomputable def b45 : Params → Obj := fun P => (PySem.Obj.mk (PySem.Value.type "frame") (Option.none) PySem.Data.plain #[(Option.some (PySem.Value.ref 44)), (Option.some (PySem.Value.ref 3)), (Option.some (PySem.Value.ref 41)), (Option.none), (Option.some (PySem.Value.str (PySem.Str.ofString "cpy313.ftplib") 289)), (Option.none), (Option.some (PySem.Value.ref 0))])
noncomputable def b50 : Params → Obj := fun P => (PySem.Obj.mk (PySem.Value.type "super") (Option.none) (PySem.Data.fields #[(PySem.Value.ref 48), (PySem.Value.ref 48), (PySem.Value.ref 48)]) #[])
noncomputable def b51 : Params → Obj := fun P => (PySem.Obj.mk (PySem.Value.type "builtin_function_or_method") (Option.none) (PySem.Data.fields #[(PySem.Value.builtin "object.__init_subclass__"), (PySem.Value.ref 48)]) #[])
noncomputable def b53 : Params → Obj := fun P => (PySem.Obj.mk (PySem.Value.type "builtin_function_or_method") (Option.none) (PySem.Data.fields #[(PySem.Value.builtin "type.__prepare__"), (PySem.Value.type "type")]) #[])
noncomputable def b54 : Params → Obj := fun P => (PySem.Obj.mk (PySem.Value.type "dict") (Option.none) (PySem.Data.dict #[(PySem.DictEntry.mk (PySem.PyData.keyHash P (PySem.Str.ofString "__module__")) (PySem.Value.str (PySem.Str.ofString "__module__") 319) (PySem.Value.str (PySem.Str.ofString "cpy313.ftplib") 289)), (PySem.DictEntry.mk (PySem.PyData.keyHash P (PySem.Str.ofString "__qualname__")) (PySem.Value.str (PySem.Str.ofString "__qualname__") 321) (PySem.Value.str (PySem.Str.ofString "error_reply") 320)), (PySem.DictEntry.mk (PySem.PyData.keyHash P (PySem.Str.ofString "__firstlineno__")) (PySem.Value.str (PySem.Str.ofString "__firstlineno__") 323) (PySem.Value.int (9 : Int) 322)), (PySem.DictEntry.mk (PySem.PyData.keyHash P (PySem.Str.mk #[95, 95, 115, 116, 97, 116, 105, 99, 95, 97, 116, 116, 114, 105, 98, 117, 116, 101, 115, 95, 95])) (PySem.Value.str (PySem.Str.mk #[95, 95, 115, 116, 97, 116, 105, 99, 95, 97, 116, 116, 114, 105, 98, 117, 116, 101, 115, 95, 95]) 324) (PySem.Value.ref 59))] 4) #[])
noncomputable def b55 : Params → Obj := fun P => (PySem.Obj.mk (PySem.Value.type "tuple") (Option.none) (PySem.Data.seq #[] 0) #[])
noncomputable def b56 : Params → Obj := fun P => (PySem.Obj.mk PySem.Value.none (Option.none) (PySem.Data.fields #[]) #[])
noncomputable def b57 : Params → Obj := fun P => (PySem.Obj.mk (PySem.Value.type "code") (Option.none) (PySem.Data.fields #[(PySem.Value.str (PySem.Str.ofString "error_reply") 314), (PySem.Value.str (PySem.Str.ofString "error_reply") 315), (PySem.Value.str (PySem.Str.ofString "/claim/cut.py") 316), (PySem.Value.int (9 : Int) 0), (PySem.Value.int (0 : Int) 0), (PySem.Value.int (0 : Int) 0), (PySem.Value.int (0 : Int) 0), (PySem.Value.int (0 : Int) 0), (PySem.Value.ref 55), (PySem.Value.bool Bool.false), (PySem.Value.int (276 : Int) 0), (PySem.Value.ref 56), PySem.Value.none, PySem.Value.none, PySem.Value.none, PySem.Value.none, (PySem.Value.int (317 : Int) 0), (PySem.Value.int (9 : Int) 0), (PySem.Value.str (PySem.Str.ofString "/claim/cut.py") 318)]) #[])
noncomputable def b58 : Params → Obj := fun P => (PySem.Obj.mk (PySem.Value.type "frame") (Option.none) PySem.Data.plain #[(Option.some (PySem.Value.ref 57)), (Option.some (PySem.Value.ref 3)), (Option.some (PySem.Value.ref 54)), (Option.none), (Option.some (PySem.Value.str (PySem.Str.ofString "cpy313.ftplib") 289)), (Option.none), (Option.some (PySem.Value.ref 0))])
noncomputable def b62 : Params → Obj := fun P => (PySem.Obj.mk (PySem.Value.type "super") (Option.none) (PySem.Data.fields #[(PySem.Value.ref 61), (PySem.Value.ref 61), (PySem.Value.ref 61)]) #[])
noncomputable def b63 : Params → Obj := fun P => (PySem.Obj.mk (PySem.Value.type "builtin_function_or_method") (Option.none) (PySem.Data.fields #[(PySem.Value.builtin "object.__init_subclass__"), (PySem.Value.ref 61)]) #[])
noncomputable def b65 : Params → Obj := fun P => (PySem.Obj.mk PySem.Value.none (Option.none) (PySem.Data.fields #[]) #[])
noncomputable def b73 : Params → Obj := fun P => (PySem.Obj.mk PySem.Value.none (Option.none) (PySem.Data.fields #[]) #[])
noncomputable def b80 : Params → Obj := fun P => (PySem.Obj.mk (PySem.Value.type "builtin_function_or_method") (Option.none) (PySem.Data.fields #[(PySem.Value.builtin "type.__prepare__"), (PySem.Value.type "type")]) #[])
noncomputable def b81 : Params → Obj := fun P => (PySem.Obj.mk (PySem.Value.type "dict") (Option.none) (PySem.Data.dict #[(PySem.DictEntry.mk (PySem.PyData.keyHash P (PySem.Str.ofString "__module__")) (PySem.Value.str (PySem.Str.ofString "__module__") 358) (PySem.Value.str (PySem.Str.ofString "binascii") 349)), (PySem.DictEntry.mk (PySem.PyData.keyHash P (PySem.Str.ofString "__qualname__")) (PySem.Value.str (PySem.Str.ofString "__qualname__") 360) (PySem.Value.str (PySem.Str.ofString "Error") 359)), (PySem.DictEntry.mk (PySem.PyData.keyHash P (PySem.Str.ofString "__firstlineno__")) (PySem.Value.str (PySem.Str.ofString "__firstlineno__") 362) (PySem.Value.int (43 : Int) 361)), (PySem.DictEntry.mk (PySem.PyData.keyHash P (PySem.Str.mk #[95, 95, 115, 116, 97, 116, 105, 99, 95, 97, 116, 116, 114, 105, 98, 117, 116, 101, 115, 95, 95])) (PySem.Value.str (PySem.Str.mk #[95, 95, 115, 116, 97, 116, 105, 99, 95, 97, 116, 116, 114, 105, 98, 117, 116, 101, 115, 95, 95]) 363) (PySem.Value.ref 86))] 4) #[])
noncomputable def b82 : Params → Obj := fun P => (PySem.Obj.mk (PySem.Value.type "tuple") (Option.none) (PySem.Data.seq #[] 0) #[])
noncomputable def b83 : Params → Obj := fun P => (PySem.Obj.mk PySem.Value.none (Option.none) (PySem.Data.fields #[]) #[])
noncomputable def b84 : Params → Obj := fun P => (PySem.Obj.mk (PySem.Value.type "code") (Option.none) (PySem.Data.fields #[(PySem.Value.str (PySem.Str.ofString "Error") 353), (PySem.Value.str (PySem.Str.ofString "Error") 354), (PySem.Value.str (PySem.Str.ofString "/claim/cut.py") 355), (PySem.Value.int (43 : Int) 0), (PySem.Value.int (0 : Int) 0), (PySem.Value.int (0 : Int) 0), (PySem.Value.int (0 : Int) 0), (PySem.Value.int (0 : Int) 0), (PySem.Value.ref 82), (PySem.Value.bool Bool.false), (PySem.Value.int (276 : Int) 0), (PySem.Value.ref 83), PySem.Value.none, PySem.Value.none, PySem.Value.none, PySem.Value.none, (PySem.Value.int (356 : Int) 0), (PySem.Value.int (43 : Int) 0), (PySem.Value.str (PySem.Str.ofString "/claim/cut.py") 357)]) #[])
noncomputable def b85 : Params → Obj := fun P => (PySem.Obj.mk (PySem.Value.type "frame") (Option.none) PySem.Data.plain #[(Option.some (PySem.Value.ref 84)), (Option.some (PySem.Value.ref 3)), (Option.some (PySem.Value.ref 81)), (Option.none), (Option.some (PySem.Value.str (PySem.Str.ofString "binascii") 349)), (Option.none), (Option.some (PySem.Value.ref 0))])
noncomputable def b90 : Params → Obj := fun P => (PySem.Obj.mk (PySem.Value.type "super") (Option.none) (PySem.Data.fields #[(PySem.Value.ref 88), (PySem.Value.ref 88), (PySem.Value.ref 88)]) #[])
noncomputable def b91 : Params → Obj := fun P => (PySem.Obj.mk (PySem.Value.type "builtin_function_or_method") (Option.none) (PySem.Data.fields #[(PySem.Value.builtin "object.__init_subclass__"), (PySem.Value.ref 88)]) #[])
noncomputable def b93 : Params → Obj := fun P => (PySem.Obj.mk PySem.Value.none (Option.none) (PySem.Data.fields #[]) #[])
noncomputable def b100 : Params → Obj := fun P => (PySem.Obj.mk PySem.Value.none (Option.none) (PySem.Data.fields #[]) #[])
noncomputable def b107 : Params → Obj := fun P => (PySem.Obj.mk PySem.Value.none (Option.none) (PySem.Data.fields #[]) #[])
noncomputable def b114 : Params → Obj := fun P => (PySem.Obj.mk PySem.Value.none (Option.none) (PySem.Data.fields #[]) #[])
noncomputable def b122 : Params → Obj := fun P => (PySem.Obj.mk PySem.Value.none (Option.none) (PySem.Data.fields #[]) #[])
noncomputable def b130 : Params → Obj := fun P => (PySem.Obj.mk PySem.Value.none (Option.none) (PySem.Data.fields #[]) #[])
noncomputable def b138 : Params → Obj := fun P => (PySem.Obj.mk PySem.Value.none (Option.none) (PySem.Data.fields #[]) #[])
noncomputable def b146 : Params → Obj := fun P => (PySem.Obj.mk PySem.Value.none (Option.none) (PySem.Data.fields #[]) #[])
noncomputable def b152 : Params → Obj := fun P => (PySem.Obj.mk (PySem.Value.type "list") (Option.none) (PySem.Data.seq #[(PySem.Value.int (14 : Int) 456), (PySem.Value.int (14 : Int) 457), (PySem.Value.int (4 : Int) 458), (PySem.Value.int (1 : Int) 459), (PySem.Value.int (1 : Int) 460), (PySem.Value.int (9 : Int) 461), (PySem.Value.int (0 : Int) 462), (PySem.Value.int (64 : Int) 463), (PySem.Value.int (0 : Int) 464), (PySem.Value.int (1342177280 : Int) 465), (PySem.Value.int (0 : Int) 466), (PySem.Value.int (0 : Int) 467), (PySem.Value.int (0 : Int) 468), (PySem.Value.int (0 : Int) 469), (PySem.Value.int (0 : Int) 470), (PySem.Value.int (17 : Int) 471), (PySem.Value.int (0 : Int) 472), (PySem.Value.int (13 : Int) 473), (PySem.Value.int (11 : Int) 474), (PySem.Value.int (9 : Int) 475), (PySem.Value.int (0 : Int) 476), (PySem.Value.int (64 : Int) 477), (PySem.Value.int (0 : Int) 478), (PySem.Value.int (1342177280 : Int) 479), (PySem.Value.int (0 : Int) 480), (PySem.Value.int (0 : Int) 481), (PySem.Value.int (0 : Int) 482), (PySem.Value.int (0 : Int) 483), (PySem.Value.int (0 : Int) 484), (PySem.Value.int (17 : Int) 485), (PySem.Value.int (1 : Int) 486), (PySem.Value.int (1 : Int) 487)] 0) #[])
noncomputable def b153 : Params → Obj := fun P => (PySem.Obj.mk (PySem.Value.type "dict") (Option.none) (PySem.Data.dict #[] 0) #[])
noncomputable def b154 : Params → Obj := fun P => (PySem.Obj.mk (PySem.Value.type "tuple") (Option.none) (PySem.Data.seq #[PySem.Value.none, PySem.Value.none] 0) #[])
noncomputable def b157 : Params → Obj := fun P => (PySem.Obj.mk (PySem.Value.type "bytes_iterator") (Option.none) (PySem.Data.fields #[PySem.Value.none, (PySem.Value.int (24 : Int) 0)]) #[])
noncomputable def b159 : Params → Obj := fun P => (PySem.Obj.mk (PySem.Value.type "dict") (Option.none) (PySem.Data.dict #[] 2) #[])
noncomputable def b160 : Params → Obj := fun P => (PySem.Obj.mk (PySem.Value.type "tuple") (Option.none) (PySem.Data.seq #[] 0) #[])
noncomputable def b161 : Params → Obj := fun P => (PySem.Obj.mk (PySem.Value.type "StopIteration") (Option.none) (PySem.Data.fields #[(PySem.Value.ref 160), PySem.Value.none, PySem.Value.none, PySem.Value.none, (PySem.Value.bool Bool.false), PySem.Value.none]) #[])
noncomputable def b163 : Params → Obj := fun P => (PySem.Obj.mk PySem.Value.none (Option.none) (PySem.Data.fields #[]) #[])
noncomputable def b170 : Params → Obj := fun P => (PySem.Obj.mk PySem.Value.none (Option.none) (PySem.Data.fields #[]) #[])
noncomputable def b177 : Params → Obj := fun P => (PySem.Obj.mk PySem.Value.none (Option.none) (PySem.Data.fields #[]) #[])
noncomputable def b182 : Params → Obj := fun P => (PySem.Obj.mk PySem.Value.none (Option.none) (PySem.Data.fields #[]) #[])
noncomputable def b187 : Params → Obj := fun P => (PySem.Obj.mk PySem.Value.none (Option.none) (PySem.Data.fields #[]) #[])
noncomputable def b192 : Params → Obj := fun P => (PySem.Obj.mk PySem.Value.none (Option.none) (PySem.Data.fields #[]) #[])
noncomputable def b199 : Params → Obj := fun P => (PySem.Obj.mk PySem.Value.none (Option.none) (PySem.Data.fields #[]) #[])
noncomputable def b204 : Params → Obj := fun P => (PySem.Obj.mk PySem.Value.none (Option.none) (PySem.Data.fields #[]) #[])
noncomputable def b211 : Params → Obj := fun P => (PySem.Obj.mk PySem.Value.none (Option.none) (PySem.Data.fields #[]) #[])
noncomputable def b216 : Params → Obj := fun P => (PySem.Obj.mk PySem.Value.none (Option.none) (PySem.Data.fields #[]) #[])
noncomputable def H0 : Params → Heap := fun P => ⟨#[(a0 P), (a1 P), (a2 P), (a3 P), (a4 P), (a5 P), (a6 P), (a7 P), (a8 P), (a9 P), (a10 P), (a11 P), (a12 P), (a13 P), (a14 P), (a15 P), (a16 P), (a17 P), (a18 P), (a19 P), (a20 P), (a21 P), (a22 P), (a23 P), (a24 P), (a25 P), (a26 P), (a27 P)], {}⟩
noncomputable def H1 : Params → Heap := fun P => ⟨#[(a0 P), (a1 P), (kob 2 P), (kob 3 P), (a4 P), (a5 P), (a6 P), (a7 P), (a8 P), (a9 P), (a10 P), (a11 P), (a12 P), (a13 P), (a14 P), (a15 P), (a16 P), (a17 P), (a18 P), (a19 P), (a20 P), (a21 P), (a22 P), (a23 P), (a24 P), (a25 P), (a26 P), (a27 P), (b28 P), (b29 P), (b30 P), (b31 P), (kob 32 P), (b33 P), (kob 34 P), (kob 35 P), (cob 38 P), (kob 37 P), (kob 38 P), (kob 39 P), (b40 P), (b41 P), (b42 P), (b43 P), (b44 P), (b45 P), (kob 46 P), (kob 47 P), (kob 48 P), (kob 49 P), (b50 P), (b51 P), (kob 52 P), (b53 P), (b54 P), (b55 P), (b56 P), (b57 P), (b58 P), (kob 59 P), (kob 60 P), (kob 61 P), (b62 P), (b63 P), (kob 64 P), (b65 P), (kob 66 P), (kob 67 P), (cob 70 P), (kob 69 P), (kob 70 P), (kob 71 P), (kob 72 P), (b73 P), (kob 74 P), (kob 75 P), (cob 78 P), (kob 77 P), (kob 78 P), (kob 79 P), (b80 P), (b81 P), (b82 P), (b83 P), (b84 P), (b85 P), (kob 86 P), (kob 87 P), (kob 88 P), (kob 89 P), (b90 P), (b91 P), (kob 92 P), (b93 P), (kob 94 P), (kob 95 P), (cob 98 P), (kob 97 P), (kob 98 P), (kob 99 P), (b100 P), (kob 101 P), (kob 102 P), (cob 105 P), (kob 104 P), (kob 105 P), (kob 106 P), (b107 P), (kob 108 P), (kob 109 P), (cob 112 P), (kob 111 P), (kob 112 P), (kob 113 P), (b114 P), (kob 115 P), (kob 116 P), (cob 119 P), (kob 118 P), (kob 119 P), (kob 120 P), (kob 121 P), (b122 P), (kob 123 P), (kob 124 P), (cob 127 P), (kob 126 P), (kob 127 P), (kob 128 P), (kob 129 P), (b130 P), (kob 131 P), (kob 132 P), (cob 135 P), (kob 134 P), (kob 135 P), (kob 136 P), (kob 137 P), (b138 P), (kob 139 P), (kob 140 P), (cob 143 P), (kob 142 P), (kob 143 P), (kob 144 P), (kob 145 P), (b146 P), (kob 147 P), (kob 148 P), (cob 151 P), (kob 150 P), (kob 151 P), (b152 P), (b153 P), (b154 P), (kob 155 P), (kob 156 P), (b157 P), (kob 158 P), (b159 P), (b160 P), (b161 P), (kob 162 P), (b163 P), (kob 164 P), (kob 165 P), (cob 168 P), (kob 167 P), (kob 168 P), (kob 169 P), (b170 P), (kob 171 P), (kob 172 P), (cob 175 P), (kob 174 P), (kob 175 P), (kob 176 P), (b177 P), (cob 180 P), (kob 179 P), (kob 180 P), (kob 181 P), (b182 P), (cob 185 P), (kob 184 P), (kob 185 P), (kob 186 P), (b187 P), (cob 190 P), (kob 189 P), (kob 190 P), (kob 191 P), (b192 P), (kob 193 P), (kob 194 P), (cob 197 P), (kob 196 P), (kob 197 P), (kob 198 P), (b199 P), (cob 202 P), (kob 201 P), (kob 202 P), (kob 203 P), (b204 P), (kob 205 P), (kob 206 P), (cob 209 P), (kob 208 P), (kob 209 P), (kob 210 P), (b211 P), (cob 214 P), (kob 213 P), (kob 214 P), (kob 215 P), (b216 P), (kob 217 P), (kob 218 P), (cob 221 P), (kob 220 P), (kob 221 P)], {}⟩
noncomputable def T1 : Params → BT := fun P => (.node (a0 P) (.node (a1 P) (.node (kob 3 P) (.node (a7 P) (.node (a15 P) (.node (b31 P) (.node (b63 P) (.node (kob 127 P) .nil .nil) (.node (kob 191 P) .nil .nil)) (.node (kob 95 P) (.node (b159 P) .nil .nil) .nil)) (.node (kob 47 P) (.node (kob 79 P) (.node (kob 143 P) .nil .nil) (.node (cob 209 P) .nil .nil)) (.node (kob 111 P) (.node (kob 175 P) .nil .nil) .nil))) (.node (a23 P) (.node (kob 39 P) (.node (kob 71 P) (.node (kob 135 P) .nil .nil) (.node (b199 P) .nil .nil)) (.node (cob 105 P) (.node (kob 167 P) .nil .nil) .nil)) (.node (b55 P) (.node (kob 87 P) (.node (kob 151 P) .nil .nil) (.node (kob 215 P) .nil .nil)) (.node (kob 119 P) (.node (cob 185 P) .nil .nil) .nil)))) (.node (a11 P) (.node (a19 P) (.node (kob 35 P) (.node (kob 67 P) (.node (kob 131 P) .nil .nil) (.node (cob 197 P) .nil .nil)) (.node (kob 99 P) (.node (b163 P) .nil .nil) .nil)) (.node (b51 P) (.node (b83 P) (.node (kob 147 P) .nil .nil) (.node (b211 P) .nil .nil)) (.node (kob 115 P) (.node (kob 179 P) .nil .nil) .nil))) (.node (a27 P) (.node (b43 P) (.node (kob 75 P) (.node (kob 139 P) .nil .nil) (.node (kob 203 P) .nil .nil)) (.node (b107 P) (.node (kob 171 P) .nil .nil) .nil)) (.node (kob 59 P) (.node (b91 P) (.node (kob 155 P) .nil .nil) (.node (cob 221 P) .nil .nil)) (.node (kob 123 P) (.node (b187 P) .nil .nil) .nil))))) (.node (a5 P) (.node (a9 P) (.node (a17 P) (.node (b33 P) (.node (b65 P) (.node (kob 129 P) .nil .nil) (.node (kob 193 P) .nil .nil)) (.node (kob 97 P) (.node (b161 P) .nil .nil) .nil)) (.node (kob 49 P) (.node (b81 P) (.node (kob 145 P) .nil .nil) (.node (kob 209 P) .nil .nil)) (.node (kob 113 P) (.node (b177 P) .nil .nil) .nil))) (.node (a25 P) (.node (b41 P) (.node (b73 P) (.node (kob 137 P) .nil .nil) (.node (kob 201 P) .nil .nil)) (.node (kob 105 P) (.node (kob 169 P) .nil .nil) .nil)) (.node (b57 P) (.node (kob 89 P) (.node (b153 P) .nil .nil) (.node (kob 217 P) .nil .nil)) (.node (kob 121 P) (.node (kob 185 P) .nil .nil) .nil)))) (.node (a13 P) (.node (a21 P) (.node (kob 37 P) (.node (kob 69 P) (.node (cob 135 P) .nil .nil) (.node (kob 197 P) .nil .nil)) (.node (kob 101 P) (.node (kob 165 P) .nil .nil) .nil)) (.node (b53 P) (.node (b85 P) (.node (cob 151 P) .nil .nil) (.node (kob 213 P) .nil .nil)) (.node (cob 119 P) (.node (kob 181 P) .nil .nil) .nil))) (.node (b29 P) (.node (b45 P) (.node (kob 77 P) (.node (cob 143 P) .nil .nil) (.node (kob 205 P) .nil .nil)) (.node (kob 109 P) (.node (cob 175 P) .nil .nil) .nil)) (.node (kob 61 P) (.node (b93 P) (.node (b157 P) .nil .nil) (.node (kob 221 P) .nil .nil)) (.node (cob 127 P) (.node (kob 189 P) .nil .nil) .nil)))))) (.node (kob 2 P) (.node (a4 P) (.node (a8 P) (.node (a16 P) (.node (kob 32 P) (.node (kob 64 P) (.node (kob 128 P) .nil .nil) (.node (b192 P) .nil .nil)) (.node (cob 98 P) (.node (b160 P) .nil .nil) .nil)) (.node (kob 48 P) (.node (b80 P) (.node (kob 144 P) .nil .nil) (.node (kob 208 P) .nil .nil)) (.node (kob 112 P) (.node (kob 176 P) .nil .nil) .nil))) (.node (a24 P) (.node (b40 P) (.node (kob 72 P) (.node (kob 136 P) .nil .nil) (.node (cob 202 P) .nil .nil)) (.node (kob 104 P) (.node (kob 168 P) .nil .nil) .nil)) (.node (b56 P) (.node (kob 88 P) (.node (b152 P) .nil .nil) (.node (b216 P) .nil .nil)) (.node (kob 120 P) (.node (kob 184 P) .nil .nil) .nil)))) (.node (a12 P) (.node (a20 P) (.node (cob 38 P) (.node (cob 70 P) (.node (kob 132 P) .nil .nil) (.node (kob 196 P) .nil .nil)) (.node (b100 P) (.node (kob 164 P) .nil .nil) .nil)) (.node (kob 52 P) (.node (b84 P) (.node (kob 148 P) .nil .nil) (.node (cob 214 P) .nil .nil)) (.node (kob 116 P) (.node (kob 180 P) .nil .nil) .nil))) (.node (b28 P) (.node (b44 P) (.node (cob 78 P) (.node (kob 140 P) .nil .nil) (.node (b204 P) .nil .nil)) (.node (kob 108 P) (.node (kob 172 P) .nil .nil) .nil)) (.node (kob 60 P) (.node (kob 92 P) (.node (kob 156 P) .nil .nil) (.node (kob 220 P) .nil .nil)) (.node (kob 124 P) (.node (cob 190 P) .nil .nil) .nil))))) (.node (a6 P) (.node (a10 P) (.node (a18 P) (.node (kob 34 P) (.node (kob 66 P) (.node (b130 P) .nil .nil) (.node (kob 194 P) .nil .nil)) (.node (kob 98 P) (.node (kob 162 P) .nil .nil) .nil)) (.node (b50 P) (.node (b82 P) (.node (b146 P) .nil .nil) (.node (kob 210 P) .nil .nil)) (.node (b114 P) (.node (cob 180 P) .nil .nil) .nil))) (.node (a26 P) (.node (b42 P) (.node (kob 74 P) (.node (b138 P) .nil .nil) (.node (kob 202 P) .nil .nil)) (.node (kob 106 P) (.node (b170 P) .nil .nil) .nil)) (.node (b58 P) (.node (b90 P) (.node (b154 P) .nil .nil) (.node (kob 218 P) .nil .nil)) (.node (b122 P) (.node (kob 186 P) .nil .nil) .nil)))) (.node (a14 P) (.node (a22 P) (.node (kob 38 P) (.node (kob 70 P) (.node (kob 134 P) .nil .nil) (.node (kob 198 P) .nil .nil)) (.node (kob 102 P) (.node (cob 168 P) .nil .nil) .nil)) (.node (b54 P) (.node (kob 86 P) (.node (kob 150 P) .nil .nil) (.node (kob 214 P) .nil .nil)) (.node (kob 118 P) (.node (b182 P) .nil .nil) .nil))) (.node (b30 P) (.node (kob 46 P) (.node (kob 78 P) (.node (kob 142 P) .nil .nil) (.node (kob 206 P) .nil .nil)) (.node (cob 112 P) (.node (kob 174 P) .nil .nil) .nil)) (.node (b62 P) (.node (kob 94 P) (.node (kob 158 P) .nil .nil) .nil) (.node (kob 126 P) (.node (kob 190 P) .nil .nil) .nil)))))))
theorem abs_T1 : ∀ P : Params, absHeap (T1 P) 222 {} = H1 P := fun P => by kernel_rfl
noncomputable abbrev openT (tb : String → Option Builtin) (IE : (String → Option Builtin) → Program → World → Nat → Shared → Thread → Option Shared) (S0 : Program → Shared × Thread) (FE : Program → Shared → Option Shared) (w : World) : Prop :=
  ((IE tb (opening Challenge.rw_kt0015_01.row.prog) w 5492 (S0 (opening Challenge.rw_kt0015_01.row.prog)).1 (S0 (opening Challenge.rw_kt0015_01.row.prog)).2).bind (FE Challenge.rw_kt0015_01.row.prog)).map (fun s => (s.heap, s.gens, s.drawn, s.toks)) = some (H0 w.params, #[], {}, 276)
theorem openT_eq : openT PySem.W.Fast.tw14364793385576792824 PySem.W.Fast.tw10274390034422433532 PySem.W.Fast.tw1435165496053646825 PySem.W.Fast.tw14289696077712309145 = openT treeTable importEnds start fenceModules? := by
  rw [PySem.W.Fast.te14364793385576792824, PySem.W.Fast.te10274390034422433532, PySem.W.Fast.te1435165496053646825, PySem.W.Fast.te14289696077712309145]
theorem open_q : ∀ w : World, openT PySem.W.Fast.tw14364793385576792824 PySem.W.Fast.tw10274390034422433532 PySem.W.Fast.tw1435165496053646825 PySem.W.Fast.tw14289696077712309145 w := fun w => by kernel_rfl
theorem open_ok : ∀ w : World, (fencedOpening treeTable Challenge.rw_kt0015_01.row.prog w 5492).map (fun s => (s.heap, s.gens, s.drawn, s.toks)) = some (H0 w.params, #[], {}, 276) := fun w => (congrFun openT_eq w).mp (open_q w)
theorem size_ok : ∀ w : World, ((H0 w.params).isNs mainGlobals && (#[] : Array GenState).size == 0, (H0 w.params).objs.size, (H0 w.params).nsMap mainGlobals "__annotations__") = (true, 28, some (.ref 6)) := fun w => by kernel_rfl
theorem looks_ok : ∀ w : World, (fun os : OsState => ((staticsOk (importedModules Challenge.rw_kt0015_01.row.prog.main.body) (H0 w.params) (H1 w.params) && namesBound Challenge.rw_kt0015_01.row.prog (H1 w.params) && gensDone ⟨H1 w.params, #[], {}, 724, os⟩ && laidKept (H0 w.params) (H1 w.params)),
    openSeen view looseN (importedModules Challenge.rw_kt0015_01.row.prog.main.body) (fun s => xlAt view [] s && recOk (RowW.records Challenge.rw_kt0015_01.row.toRowW) s) true ⟨H1 w.params, #[], {}, 724, os⟩, Hook.obs hk ⟨H1 w.params, #[], {}, 724, os⟩)) = fun _ => (true, openGood view looseN, Hook.val hk w) := fun w => by kernel_rfl
noncomputable abbrev runT (tb : String → Option Builtin) (ST : (Code → Sem Fin) → Program → World → SharedT → Thread → Option (SharedT × Thread)) (OK : Nat → Option Value → Thread → Bool) (DN : (String → Option Builtin) → Code → Sem Fin) (w : World) : Prop :=
  (fun os : OsState => (treeOf (H0 w.params).objs.toList .nil 0).bind fun T => topRunT (ST (DN tb) Challenge.rw_kt0015_01.row.prog w) (OK 28 (some (.ref 6))) 5492 ⟨T, 28, {}, #[], {}, 276, os⟩ (topStub Challenge.rw_kt0015_01.row.prog)) = fun os => some ⟨T1 w.params, 222, {}, #[], {}, 724, os⟩
theorem runT_eq : runT PySem.W.Fast.tw14364793385576792824 PySem.W.Fast.tw10156331382660048174 PySem.W.Fast.tw6613529449190102663 PySem.W.Fast.tw11892475500146522536 = runT treeTable stepT stepOk denote := by
  rw [PySem.W.Fast.te14364793385576792824, PySem.W.Fast.te10156331382660048174, PySem.W.Fast.te6613529449190102663, PySem.W.Fast.te11892475500146522536]
theorem run_of {p : Program} {w : World} {m₀ n₁ k₀ k₁ M : Nat} {ann : Option Value} {H : Heap} {T' : BT} {life' : Life} {gs₀ gs₁ : Array GenState} {d₀ d₁ : Drawn} {os : OsState} (hm : H.objs.size = m₀)
    (h : ((treeOf H.objs.toList .nil 0).bind fun T => topRunT (stepT (denote treeTable) p w) (stepOk m₀ ann) M ⟨T, m₀, H.life, gs₀, d₀, k₀, os⟩ (topStub p)) = some ⟨T', n₁, life', gs₁, d₁, k₁, os⟩) :
    topRun treeTable p w m₀ ann M ⟨H, gs₀, d₀, k₀, os⟩ (topStub p) = some ⟨absHeap T' n₁ life', gs₁, d₁, k₁, os⟩ := by
  cases ht : treeOf H.objs.toList .nil 0 with
  | none => rw [ht] at h; cases h
  | some T =>
    rw [ht] at h
    have e := topRunT_of h
    have e2 : SharedT.abs ⟨T, m₀, H.life, gs₀, d₀, k₀, os⟩ = ⟨H, gs₀, d₀, k₀, os⟩ := by
      show (⟨absHeap T m₀ H.life, gs₀, d₀, k₀, os⟩ : Shared) = _
      rw [← hm, treeOf_heap ht]
    rw [e2] at e
    exact e
abbrev runP (w : World) : Prop := ∀ os : OsState, topRun treeTable Challenge.rw_kt0015_01.row.prog w 28 (some (.ref 6)) 5492 ⟨H0 w.params, #[], {}, 276, os⟩ (topStub Challenge.rw_kt0015_01.row.prog) = some ⟨H1 w.params, #[], {}, 724, os⟩
theorem size_H0 : ∀ P : Params, (H0 P).objs.size = 28 := fun P => by kernel_rfl
theorem run_w {w : World} (h : runT treeTable stepT stepOk denote w) : runP w := fun os => (run_of (H := H0 w.params) (size_H0 w.params) (congrFun h os)).trans (by rw [abs_T1])
theorem leafQ_ff : ∀ w : World, runT PySem.W.Fast.tw14364793385576792824 PySem.W.Fast.tw10156331382660048174 PySem.W.Fast.tw6613529449190102663 PySem.W.Fast.tw11892475500146522536 ((w.withFollow "special-get-raises" false).withFollow "comprehension-iter-twice" false) := fun w => by kernel_rfl
theorem leaf_ff : ∀ w : World, runP ((w.withFollow "special-get-raises" false).withFollow "comprehension-iter-twice" false) := fun w => run_w ((congrFun runT_eq ((w.withFollow "special-get-raises" false).withFollow "comprehension-iter-twice" false)).mp (leafQ_ff w))
theorem leafQ_ft : ∀ w : World, runT PySem.W.Fast.tw14364793385576792824 PySem.W.Fast.tw10156331382660048174 PySem.W.Fast.tw6613529449190102663 PySem.W.Fast.tw11892475500146522536 ((w.withFollow "special-get-raises" true).withFollow "comprehension-iter-twice" false) := fun w => by kernel_rfl
theorem leaf_ft : ∀ w : World, runP ((w.withFollow "special-get-raises" true).withFollow "comprehension-iter-twice" false) := fun w => run_w ((congrFun runT_eq ((w.withFollow "special-get-raises" true).withFollow "comprehension-iter-twice" false)).mp (leafQ_ft w))
theorem leafQ_tf : ∀ w : World, runT PySem.W.Fast.tw14364793385576792824 PySem.W.Fast.tw10156331382660048174 PySem.W.Fast.tw6613529449190102663 PySem.W.Fast.tw11892475500146522536 ((w.withFollow "special-get-raises" false).withFollow "comprehension-iter-twice" true) := fun w => by kernel_rfl
theorem leaf_tf : ∀ w : World, runP ((w.withFollow "special-get-raises" false).withFollow "comprehension-iter-twice" true) := fun w => run_w ((congrFun runT_eq ((w.withFollow "special-get-raises" false).withFollow "comprehension-iter-twice" true)).mp (leafQ_tf w))
theorem leafQ_tt : ∀ w : World, runT PySem.W.Fast.tw14364793385576792824 PySem.W.Fast.tw10156331382660048174 PySem.W.Fast.tw6613529449190102663 PySem.W.Fast.tw11892475500146522536 ((w.withFollow "special-get-raises" true).withFollow "comprehension-iter-twice" true) := fun w => by kernel_rfl
theorem leaf_tt : ∀ w : World, runP ((w.withFollow "special-get-raises" true).withFollow "comprehension-iter-twice" true) := fun w => run_w ((congrFun runT_eq ((w.withFollow "special-get-raises" true).withFollow "comprehension-iter-twice" true)).mp (leafQ_tt w))
theorem run_all : ∀ w : World, runP w :=
  byRow2 "comprehension-iter-twice" (byRow2 "special-get-raises" (P := fun w => runP (w.withFollow "comprehension-iter-twice" false)) leaf_ff leaf_ft) (byRow2 "special-get-raises" (P := fun w => runP (w.withFollow "comprehension-iter-twice" true)) leaf_tf leaf_tt)
theorem left_all : LeftO Challenge.rw_kt0015_01.row.prog view looseN (fun s => xlAt view [] s && recOk (RowW.records Challenge.rw_kt0015_01.row.toRowW) s) (Hook.obs hk) (Hook.val hk) 5492 :=
  LeftO.of_pieces (H₀ := H0) (H₁ := H1) (m₀ := 28) (ann := some (.ref 6)) (M := 5492) open_ok size_ok run_all (by decide) looks_ok
section
local macro_rules | `(tactic| k_head) => `(tactic| (
  refine holds_open (q := view) (loose := looseN) (Xt := fun s => xlAt view [] s && recOk (RowW.records Challenge.rw_kt0015_01.row.toRowW) s) (XP := XL view []) (Yf := Hook.obs hk) (Ya := Hook.val hk) (YP := Hook.says hk) (N := 5492) left_all (Hook.of hk) (Hook.keeps hk) (fun s e => xl_of s (Bool.and_eq_true_iff.mp e).1) XL.keeps (by rfl) (by rfl) (by rfl) (fun s e => recFacts_of (Bool.and_eq_true_iff.mp e).2) (by rfl) (by first | assumption | decide +kernel) (by decide +kernel) ⟨rfl, rfl, rfl, rfl, rfl, by decide +kernel⟩ ?hw ?hc))
open_top hd for PySem.Challenge.rw_kt0015_01
end
end Mine

namespace Mine
noncomputable abbrev Ar (dp un : Nat) (fr : Option (List Env)) (gd : Option (List Code)) : Around := { handled := none, depth := dp, frames := fr, guards := gd, units := un }
abbrev Kp (h h' : Heap) : Prop := ∀ b o, h.get? b = some o → h'.get? b = some o
theorem gt0 {α : Type} {M : Model} {A : Around} {t : Sem α} {Q : α → Shared → Prop} {E : Value → Shared → Prop} {hp : Heap} {g : _} {d : _} {X : Nat} {o : _} (h : ∀ k, wpAny M A t Q E (Shared.mk hp g d k o)) : wpAny M A t Q E (Shared.mk hp g d X o) := h X
theorem enterP {w : World} {prog : Program} {K : Frag} {A : Around} {s : Shared} {R : Result → Shared → Prop} {name qual : Str} {params : Arguments} {body : List Stmt} {scope : Scope} {dV kV doc pm cdv ct oc : Value} {an od : Option Addr} {osl : Array (Option Value)} {f : Addr} {args : Args} {binds : List (Str × Value)}
    (X : K.In s.heap) (hl : s.heap.NoLimit)
    (ho : K.lookup f = some ⟨oc, od, .func (fnOf name qual params body scope dV kV doc pm an cdv ct), osl⟩) (hcd : codeIn K cdv qual = true) (hroom : A.depth < recursionLimit)
    (hbind : BindsTo s (fnOf name qual params body scope dV kV doc pm an cdv ct) args binds) (hloc : ∀ y ∈ binds, scope.names.lookup y.1 = some .local)
    (h : ∀ h₁, Fr s.heap s.heap.objs.size h₁ (fun y => binds.reverse.lookup y) → News s.heap s.heap.objs.size h₁ [] →
      wpAny (model prog w) (A.deeper (envOf qual scope s.heap.objs.size f cdv)) (execs body (envOf qual scope s.heap.objs.size f cdv))
        (fun fl s' => R (.ok (.ret (match fl with | .ret v => v | _ => .none))) s')
        (fun e s' => wpAny (model prog w) (A.deeper (envOf qual scope s.heap.objs.size f cdv)) (leaving (envOf qual scope s.heap.objs.size f cdv) e) (fun _ s'' => R (.error e) s'') (fun e' s'' => R (.error e') s'') s')
        { s with heap := h₁, toks := s.toks + binds.length })
    (hco : scope.isCoroutine = false) (hgen : scope.isGenerator = false) (hk : scope.kind = .function)
    (hcell : ∀ x ∈ scope.names, x.2 ≠ .cell) : codeAny (model prog w) A (.call (.ref f) args) R s := by
  refine codeAny_call_def (fd := fnOf name qual params body scope dV kV doc pm an cdv ct) (body := body) (binds := binds) hroom (X _ _ ho) rfl hl (codeRec_of X hcd) rfl hbind hcell hloc (fun h₁ hns hk₁ => ?_) hco hgen hk
  exact h h₁ ⟨hns, hk₁, Nat.le_refl _⟩ News.nil

section
variable {prog : Program} {w : World} {A : Around} {E : Value → Shared → Prop} {s : Shared} {a b n : Int} {t u : Tok} {Q : Value → Shared → Prop}
theorem and_abs (hb : 0 ≤ b) (h : ∀ v t' k, v = Builtin.bitAnd a b → 0 ≤ v → v ≤ b → Q (.int v t') { s with toks := k }) :
    wpAny (model prog w) A (binaryOp .BitAnd (.int a t) (.int b u)) Q E s := and_int (h _ _ _ rfl (bitAnd_range a hb).1 (bitAnd_range a hb).2)
theorem bitOr_range {x y : Int} (hx : 0 ≤ x) (hy : 0 ≤ y) : x ≤ Builtin.bitOr x y ∧ Builtin.bitOr x y ≤ x + y := by
  have h1 := bitXor_and x y
  have h2 : Builtin.bitXor x y = Builtin.bitOr x y - Builtin.bitAnd x y := rfl
  have h3 := bitAnd_range x hy
  have h4 := bitAnd_range y hx
  rw [bitAnd_comm] at h4
  omega
theorem or_abs (ha : 0 ≤ a) (hb : 0 ≤ b) (h : ∀ v t' k, v = Builtin.bitOr a b → a ≤ v → v ≤ a + b → Q (.int v t') { s with toks := k }) :
    wpAny (model prog w) A (binaryOp .BitOr (.int a t) (.int b u)) Q E s := or_int (h _ _ _ rfl (bitOr_range ha hb).1 (bitOr_range ha hb).2)
theorem shl_abs {p : Int} (hp : (2 : Int) ^ n.toNat = p) (h0 : 0 ≤ a) (h1 : a ≤ 1000000) (hn : 0 ≤ n) (hn2 : n ≤ 1000000) (h : ∀ v t' k, v = a * p → Q (.int v t') { s with toks := k }) :
    wpAny (model prog w) A (binaryOp .LShift (.int a t) (.int n u)) Q E s := lshift_int_small hn hn2 (by omega) (h _ _ _ (by rw [hp]))
theorem shr_abs {p : Int} (hp : (2 : Int) ^ n.toNat = p) (hp0 : 0 < p) (hn : 0 ≤ n) (h : ∀ v t' k, v = a / p → Q (.int v t') { s with toks := k }) :
    wpAny (model prog w) A (binaryOp .RShift (.int a t) (.int n u)) Q E s := rshift_int hn (h _ _ _ (by rw [hp, Int.fdiv_eq_ediv_of_nonneg _ (Int.le_of_lt hp0)]))
theorem itemB_abs {b : Array UInt8} {ks : List Int} {value slice : PySem.Expr} {i : Int} (hk : KBw.bInts b = ks) (hfit : ks.length ≤ 1099511627776) (h0 : 0 ≤ i) (h1 : i < (ks.length : Int))
    (h : ∀ v t' k, v = ks.getD i.toNat 0 → 0 ≤ v → v < 256 → Q (.int v t') { s with toks := k })
    (hs : subscripted slice false (.bytes b t) (.int i u) = operate [.bytes b t, .int i u] (getItem (.bytes b t) (.int i u)) := by with_unfolding_all rfl)
    (ht : ∀ r, letTemporaryGo value (.bytes b t) r = pure () := by intro _; with_unfolding_all rfl) : wpAny (model prog w) A (subscriptTail value slice (.bytes b t) (.int i u)) Q E s :=
  KBw.item_K hk hfit h0 h1 (fun t' k a b => h _ t' k rfl a b) hs ht
end
noncomputable abbrev B64I : List Int := [65, 66, 67, 68, 69, 70, 71, 72, 73, 74, 75, 76, 77, 78, 79, 80, 81, 82, 83, 84, 85, 86, 87, 88, 89, 90, 97, 98, 99, 100, 101, 102, 103, 104, 105, 106, 107, 108, 109, 110, 111, 112, 113, 114, 115, 116, 117, 118, 119, 120, 121, 122, 48, 49, 50, 51, 52, 53, 54, 55, 56, 57, 43, 47]
theorem b64I_ok : KBw.bInts #[65, 66, 67, 68, 69, 70, 71, 72, 73, 74, 75, 76, 77, 78, 79, 80, 81, 82, 83, 84, 85, 86, 87, 88, 89, 90, 97, 98, 99, 100, 101, 102, 103, 104, 105, 106, 107, 108, 109, 110, 111, 112, 113, 114, 115, 116, 117, 118, 119, 120, 121, 122, 48, 49, 50, 51, 52, 53, 54, 55, 56, 57, 43, 47] = B64I := by decide +kernel
theorem itemB_bin {prog : Program} {w : World} {A : Around} {E : Value → Shared → Prop} {s : Shared} {t u : Tok} {Q : Value → Shared → Prop} {b : Array UInt8} {ks : List Int} {x : Str} {px p : Pos} {l r : PySem.Expr} {op : Operator} {i : Int}
    (hk : KBw.bInts b = ks) (hfit : ks.length ≤ 1099511627776) (h0 : 0 ≤ i) (h1 : i < (ks.length : Int)) (h : ∀ v t' k, v = ks.getD i.toNat 0 → 0 ≤ v → v < 256 → Q (.int v t') { s with toks := k }) :
    wpAny (model prog w) A (subscriptTail (.Name x px) (.BinOp l op r p) (.bytes b t) (.int i u)) Q E s := itemB_abs hk hfit h0 h1 h
theorem bytesNew {prog : Program} {w : World} {A : Around} {E : Value → Shared → Prop} {s : Shared} {Q : Value → Shared → Prop} {h₀ : Heap} {L D : Addr} {m : Str → Option Value} {news : List (Addr × Obj)} {arr : Array Value} {n : Nat} {vs : List Value} {ns : List Int}
    (F : Fr h₀ L s.heap m) (N : News h₀ L s.heap news) (hh : A.handled = none) (hm : (D, W.listOf arr n) ∈ news) (he : arr.toList = vs) (hi : IntsAre vs ns) (hr : KBa.In ns) (hn : ns.length ≤ 16777216)
    (h : ∀ v h' t' k, KBw.bInts v = ns → Fr h₀ L h' m → News h₀ L h' news → Q (.bytes v t') { s with heap := h', toks := k }) :
    wpAny (model prog w) A (call (.type "bytes") [.ref D]) Q E s :=
  KBa.make_K F N hh (vs := vs) (by rw [← he]; exact News.isList N hm) hi hr hn fun h' t' k F' N' hr' => h _ h' t' k (KBa.ints_make hr') F' N'
theorem In_nil : KBa.In [] := fun _ h => nomatch h
theorem In_cons {n : Int} {l : List Int} (h0 : 0 ≤ n) (h1 : n < 256) (h : KBa.In l) : KBa.In (n :: l) := fun k hk => by
  rcases List.mem_cons.mp hk with rfl | hk
  · exact ⟨h0, h1⟩
  · exact h k hk
theorem iteD_neg {p : Prop} [Decidable p] {a b : Prop} (hp : ¬ p) (h : b) : if (decide p) = true then a else b := by
  rw [if_neg (by simpa using hp)]; exact h
theorem iteB_neg {x y : Int} {a b : Prop} (hp : ¬ x = y) (h : b) : if (x == y) = true then a else b := by
  rw [if_neg (by simpa using hp)]; exact h
end Mine

namespace Mine
section Maketrans
variable {prog : Program} {w : World} {A : Around} {E : Value → Shared → Prop} {s : Shared} {t u : Tok} {Q : Value → Shared → Prop} {b : Array UInt8}
theorem call_checked {id : String} {b : Builtin} {args : List Value} (hp : plainId id = true) (hb : entryFor table id = some b) (hck : checkBuiltinCall id ⟨args, []⟩ = pure ())
    (hc : wpAny (model prog w) A.in1 (b ⟨args, []⟩) (fun fin s' => ∃ v, fin = .done (.ret v) ∧ Q v s') E s) : wpAny (model prog w) A (call (.builtin id) args) Q E s := by
  refine wpAny_call (codeAny_call_builtin hp hb ?_)
  have hfin := wpAny_mono hc (Q' := fun fin s' => match fin with
      | .done f => (match (Except.ok f : Result) with | .ok (.ret v) => Q v s' | .ok _ => False | .error e => E e s')
      | .again c' => c'.quiet = true ∧ codeAny (model prog w) A c' (fun r s' => match r with | .ok (.ret v) => Q v s' | .ok _ => False | .error e => E e s') s')
    (fun fin s' h' => by obtain ⟨v, rfl, hv⟩ := h'; exact hv) fun _ _ h' => h'
  rw [hck]
  exact wpAny_pure hfin
theorem mt_plain : plainId "bytes.maketrans" = true := by decide +kernel
theorem mt_entry : entryFor table "bytes.maketrans" = some Builtin.«bytes.maketrans» := entryFor_of_tree (by kernel_rfl)
theorem mt_check (a b : Value) : checkBuiltinCall "bytes.maketrans" ⟨[a, b], []⟩ = pure () := by kernel_rfl
noncomputable def tblOf (frm to : Array UInt8) : Array UInt8 := (frm.toList.zip to.toList).foldl (fun t (f, x) => t.setIfInBounds f.toNat x) ((Array.range 256).map (·.toUInt8))
theorem mkBytes_any {M : Model} (hz : b.size ≤ sizeLine) (h : ∀ t k, Q (.bytes b t) { s with toks := k }) : wpAny M A (mkBytes b) Q E s := by
  unfold mkBytes
  rw [if_neg (Nat.not_lt.mpr hz)]
  exact wpAny_bind (wpAny_fresh (wpAny_pure (h _ _)))
theorem mt_run {fr to : Array UInt8} {P : Fin → Shared → Prop} (hs : fr.size = to.size) (hz : (tblOf fr to).size ≤ sizeLine) (h : ∀ t k, P (.done (.ret (.bytes (tblOf fr to) t))) { s with toks := k }) :
    wpAny (model prog w) A (Builtin.«bytes.maketrans» ⟨[.bytes fr t, .bytes to u], []⟩) P E s := by
  show wpAny _ _ (Builtin.Bytes.maketransM .bytes _) _ _ _
  unfold Builtin.Bytes.maketransM
  refine wpAny_bind (wpAny_of_eq (a := ()) (by rfl) ?_)
  refine wpAny_bind (wpAny_of_eq (a := ()) (by rfl) ?_)
  refine wpAny_bind (wpAny_of_eq (a := fr) KBd.like_eq ?_)
  refine wpAny_bind (wpAny_of_eq (a := to) KBd.like_eq ?_)
  have e : (fr.size != to.size) = false := by simp [hs]
  rw [e]
  exact wpAny_bind (mkBytes_any hz fun t k => wpAny_pure (h t k))
theorem maketrans_call {fr to : Array UInt8} (hs : fr.size = to.size) (hz : (tblOf fr to).size ≤ sizeLine) (h : ∀ t k, Q (.bytes (tblOf fr to) t) { s with toks := k }) :
    wpAny (model prog w) A (call (.builtin "bytes.maketrans") [.bytes fr t, .bytes to u]) Q E s :=
  call_checked mt_plain mt_entry (mt_check _ _) (mt_run hs hz fun t k => ⟨_, rfl, h t k⟩)
theorem tr_slot : Slot "bytes" "translate" "bytes.translate" :=
  .of (owner := "bytes") (n := "translate") (by rw [typeLookup_type, builtinLookup_eq_fast]; kernel_rfl) (by decide +kernel) (by decide +kernel) (by decide +kernel)
    (by first | exact .inl (by decide +kernel) | exact .inr (by decide +kernel)) (by rw [isSubtype_type]; kernel_rfl)
theorem tr_type : typeOf (.builtin "bytes.translate") = pure (.type "method_descriptor") := by show builtinType _ = _; rw [builtinType_eq_fast]; kernel_rfl
theorem tr_entry : entryFor table "bytes.translate" = some Builtin.«bytes.translate» := entryFor_of_tree (by kernel_rfl)
theorem tr_args (a b : Value) : argsOk "bytes.translate" ⟨[a, b], []⟩ := by
  unfold argsOk; rw [signature?_of (id := "bytes.translate") (n := ['e', 't', 'a', 'l', 's', 'n', 'a', 'r', 't']) (o := ['s', 'e', 't', 'y', 'b']) (by kernel_rfl) FB.owner_bytes]; kernel_rfl
theorem tr_method {M : Model} {pl : Sem Bool} {Q : Value × List Value → Shared → Prop} (h : Q (.builtin "bytes.translate", [.bytes b t]) s) : wpAny M A (getMethod (.bytes b t) "translate" pl) Q E s := by
  with_reducible exact KBd.method_of (.bytes b t) (typeIs_bytes _ _ _) tr_slot tr_type KBd.noRef h
noncomputable def trOut (b tb : Array UInt8) : Array UInt8 := (b.filter (!(#[] : Array UInt8).contains ·)).map fun c => tb.getD c.toNat c
theorem same_bytes {M : Model} (h : ∀ t' k, Q (.bytes b t') { s with toks := k }) : wpAny M A (Builtin.Bytes.Kind.same .bytes (.bytes b t)) Q E s := by
  first
    | exact wpAny_pure (h t s.toks)
    | (unfold Builtin.Bytes.Kind.same; exact wpAny_pure (h t s.toks))
theorem tr_run {tb : Array UInt8} {P : Fin → Shared → Prop} (hs : tb.size = 256) (hz : (trOut b tb).size ≤ sizeLine) (h : ∀ t' k, P (.done (.ret (.bytes (trOut b tb) t'))) { s with toks := k }) :
    wpAny (model prog w) A (Builtin.«bytes.translate» ⟨[.bytes b t, .bytes tb u], []⟩) P E s := by
  show wpAny _ _ (Builtin.Bytes.translateM .bytes _) _ _ _
  unfold Builtin.Bytes.translateM
  have e1 : (Value.bytes tb u == Value.none) = false := rfl
  dsimp only [List.length_cons, List.length_nil]
  rw [if_neg (by decide), if_neg (by simp), e1, if_neg Bool.false_ne_true]
  refine wpAny_bind (wpAny_of_eq (a := tb) KBd.like_eq ?_)
  have e2 : (tb.size != 256) = false := by simp [hs]
  rw [e2, if_neg Bool.false_ne_true]
  refine wpAny_bind (wpAny_pure ?_)
  dsimp only [List.head?, Option.map]
  refine wpAny_bind (m := (pure #[] : Sem (Array UInt8))) (wpAny_pure ?_)
  refine wpAny_bind (wpAny_of_eq (a := b) rfl ?_)
  refine wpAny_ite ?_
  split
  · rename_i hb
    have hb' : trOut b tb = b := by simpa [trOut] using hb
    rw [hb'] at h
    refine wpAny_bind (wpAny_rule (wpAny_bind (same_bytes fun t' k => wpAny_pure (h t' k))))
  · exact wpAny_bind (mkBytes_any hz fun t' k => wpAny_pure (h t' k))
theorem tr_call {tb : Array UInt8} (hs : tb.size = 256) (hz : (trOut b tb).size ≤ sizeLine) (h : ∀ t' k, Q (.bytes (trOut b tb) t') { s with toks := k }) :
    wpAny (model prog w) A (call (.builtin "bytes.translate") [.bytes b t, .bytes tb u]) Q E s :=
  call_meets tr_slot (typeIs_bytes _ _ _) tr_entry (tr_args _ _) (S := fun _ R s => ∀ t' k, R (.ok (.ret (.bytes (trOut b tb) t'))) { s with toks := k })
    (Meets.of_wp fun prog w A R s hS => tr_run hs hz fun t' k => ⟨_, rfl, hS t' k⟩) h
theorem trOut_ints {tb : Array UInt8} {TI : List Int} (htb : KBw.bInts tb = TI) (hs : tb.size = 256) : KBw.bInts (trOut b tb) = (KBw.bInts b).map fun c => TI.getD c.toNat 0 := by
  subst htb
  have hf : b.filter (!(#[] : Array UInt8).contains ·) = b := by simp
  unfold trOut
  rw [hf]
  simp only [KBw.bInts, Array.toList_map, List.map_map]
  apply List.map_congr_left
  intro c _
  have hc : c.toNat < tb.size := by rw [hs]; exact c.toNat_lt
  simp only [Function.comp, Int.toNat_natCast, List.getD_eq_getElem?_getD, List.getElem?_map]
  rw [Array.getElem?_toList, Array.getElem?_eq_getElem hc, Array.getD_eq_getD_getElem?, Array.getElem?_eq_getElem hc]
  rfl
theorem tr_callI {tb : Array UInt8} {ks : List Int} (hb : KBw.bInts b = ks) (hk : ks.length = 4) (hs : tb.size = 256) (hz : (trOut b tb).size ≤ sizeLine)
    (h : ∀ v t' k, KBw.bInts v = (ks.map fun c => (KBw.bInts tb).getD c.toNat 0) → Q (.bytes v t') { s with toks := k }) :
    wpAny (model prog w) A (call (.builtin "bytes.translate") [.bytes b t, .bytes tb u]) Q E s :=
  let _ := hk
  tr_call hs hz fun t' k => h _ t' k (by rw [trOut_ints rfl hs, hb])
theorem metaB : typeOf (.type "bytes") = pure (.type "type") := by kernel_rfl
theorem trOut_size {b tb : Array UInt8} {ks : List Int} (h : KBw.bInts b = ks) (hk : ks.length = 4) : (trOut b tb).size ≤ sizeLine := by
  have h1 := KBw.ints_length b
  rw [h, hk] at h1
  have h2 : (trOut b tb).size ≤ b.size := by unfold trOut; simpa using Array.size_filter_le ..
  rw [sizeLine_eq]; omega
end Maketrans
end Mine

namespace Mine
def SgI (k : Int) : Prop := k = 65 ∨ k = 66 ∨ k = 34 ∨ k = 42
theorem SgI.u8 {k : Int} (h : SgI k) : ((k.toNat.toUInt8).toNat : Int) = k := by rcases h with rfl | rfl | rfl | rfl <;> rfl
theorem SgI.mem {k : Int} (h : SgI k) : k ∈ ([65, 66, 34, 42] : List Int) := by rcases h with rfl | rfl | rfl | rfl <;> decide
abbrev Q4 : Type := Int × Int × Int × Int
noncomputable def quads : List Q4 := ([65, 66, 34, 42] : List Int).flatMap fun a => ([65, 66, 34, 42] : List Int).flatMap fun b => ([65, 66, 34, 42] : List Int).flatMap fun c => ([65, 66, 34, 42] : List Int).map fun d => (a, b, c, d)
theorem quads_mem {k0 k1 k2 k3 : Int} (h0 : SgI k0) (h1 : SgI k1) (h2 : SgI k2) (h3 : SgI k3) : (k0, k1, k2, k3) ∈ quads :=
  List.mem_flatMap.mpr ⟨k0, h0.mem, List.mem_flatMap.mpr ⟨k1, h1.mem, List.mem_flatMap.mpr ⟨k2, h2.mem, List.mem_map.mpr ⟨k3, h3.mem, rfl⟩⟩⟩⟩
theorem all_of {α β : Type} {F G : α → β} : ∀ {l : List α}, l.map F = l.foldr (fun q acc => G q :: acc) [] → ∀ q ∈ l, F q = G q
  | [], _, _, h => nomatch h
  | a :: l, e, q, h => by
    injection e with e1 e2
    rcases List.mem_cons.mp h with rfl | h
    · exact e1
    · exact all_of e2 q h
theorem dec4 {k0 k1 k2 k3 : Int} (h0 : SgI k0) (h1 : SgI k1) (h2 : SgI k2) (h3 : SgI k3) : ∀ id,
    Builtin._codecs.runDecoder id Builtin._codecs.utf8Decoder none true [k0.toNat.toUInt8, k1.toNat.toUInt8, k2.toNat.toUInt8, k3.toNat.toUInt8].toArray 0 [] = pure (#[k0.toNat, k1.toNat, k2.toNat, k3.toNat], 4) := by
  intro id
  refine all_of (l := quads) (F := fun q : Q4 => Builtin._codecs.runDecoder id Builtin._codecs.utf8Decoder none true [q.1.toNat.toUInt8, q.2.1.toNat.toUInt8, q.2.2.1.toNat.toUInt8, q.2.2.2.toNat.toUInt8].toArray 0 [])
    (G := fun q : Q4 => pure (#[q.1.toNat, q.2.1.toNat, q.2.2.1.toNat, q.2.2.2.toNat], 4)) ?_ (k0, k1, k2, k3) (quads_mem h0 h1 h2 h3)
  kernel_rfl
theorem bytes_of_ints {b : Array UInt8} {ks : List Int} (h : KBw.bInts b = ks) : b = (ks.map fun k => k.toNat.toUInt8).toArray := by
  subst h
  apply Array.ext'
  simp [KBw.bInts, Function.comp_def]
section
variable {prog : Program} {w : World} {A : Around} {E : Value → Shared → Prop} {s : Shared} {t u : Tok} {Q : Value → Shared → Prop} {b : Array UInt8}
theorem decode4 {k0 k1 k2 k3 : Int} (hb : KBw.bInts b = [k0, k1, k2, k3]) (h0 : SgI k0) (h1 : SgI k1) (h2 : SgI k2) (h3 : SgI k3)
    (h : ∀ t' k, Q (.str ⟨#[k0.toNat, k1.toNat, k2.toNat, k3.toNat]⟩ t') { s with toks := k }) : wpAny (model prog w) A (call (.builtin "bytes.decode") [.bytes b t]) Q E s := by
  rw [bytes_of_ints hb]
  exact KBd.decode (x := ⟨#[k0.toNat, k1.toNat, k2.toNat, k3.toNat]⟩) (dec4 h0 h1 h2 h3) (by show (4 : Nat) ≤ _; decide) h
theorem enc_run {k0 k1 k2 k3 : Int} (h0 : SgI k0) (h1 : SgI k1) (h2 : SgI k2) (h3 : SgI k3) :
    Builtin.«str.encode» ⟨[.str ⟨#[k0.toNat, k1.toNat, k2.toNat, k3.toNat]⟩ t, .str (Str.ofString "ascii") u], []⟩ = (mkBytes [k0.toNat.toUInt8, k1.toNat.toUInt8, k2.toNat.toUInt8, k3.toNat.toUInt8].toArray >>= fun v => ret v) := by
  refine all_of (l := quads) (F := fun q : Q4 => Builtin.«str.encode» ⟨[.str ⟨#[q.1.toNat, q.2.1.toNat, q.2.2.1.toNat, q.2.2.2.toNat]⟩ t, .str (Str.ofString "ascii") u], []⟩)
    (G := fun q : Q4 => mkBytes [q.1.toNat.toUInt8, q.2.1.toNat.toUInt8, q.2.2.1.toNat.toUInt8, q.2.2.2.toNat.toUInt8].toArray >>= fun v => ret v) ?_ (k0, k1, k2, k3) (quads_mem h0 h1 h2 h3)
  kernel_rfl
theorem encode4 {k0 k1 k2 k3 : Int} (h0 : SgI k0) (h1 : SgI k1) (h2 : SgI k2) (h3 : SgI k3)
    (h : ∀ v t' k, KBw.bInts v = [k0, k1, k2, k3] → Q (.bytes v t') { s with toks := k }) : wpAny (model prog w) A (call (.builtin "str.encode") [.str ⟨#[k0.toNat, k1.toNat, k2.toNat, k3.toNat]⟩ t, .str (Str.ofString "ascii") u]) Q E s := by
  refine call_meets F.slot_str_encode (typeIs_str _ _ _) F.entry_str_encode (F.args_str_encode_2 _ _) (S := fun _ R s => ∀ v t' k, KBw.bInts v = [k0, k1, k2, k3] → R (.ok (.ret (.bytes v t'))) { s with toks := k })
    (Meets.of_wp fun _ _ _ _ s hS => ?_) h
  rw [enc_run h0 h1 h2 h3]
  refine wpAny_bind (mkBytes_any (by show (4 : Nat) ≤ _; decide) fun t' k => wpAny_pure ⟨_, rfl, hS _ t' k ?_⟩)
  show [((k0.toNat.toUInt8).toNat : Int), ((k1.toNat.toUInt8).toNat : Int), ((k2.toNat.toUInt8).toNat : Int), ((k3.toNat.toUInt8).toNat : Int)] = _
  rw [h0.u8, h1.u8, h2.u8, h3.u8]
theorem enc_method {M : Model} {pl : Sem Bool} {x : Str} {Q : Value × List Value → Shared → Prop} (h : Q (.builtin "str.encode", [.str x t]) s) : wpAny M A (getMethod (.str x t) "encode" pl) Q E s := by
  with_reducible exact getMethod_builtin (typeIs_str _ _ _) F.plainAttrs_str F.slot_str_encode F.type_str_encode (fun _ e => nomatch e) h
theorem trs_method {M : Model} {pl : Sem Bool} {x : Str} {Q : Value × List Value → Shared → Prop} (h : Q (.builtin "str.translate", [.str x t]) s) : wpAny M A (getMethod (.str x t) "translate" pl) Q E s := by
  with_reducible exact getMethod_builtin (typeIs_str _ _ _) F.plainAttrs_str F.slot_str_translate F.type_str_translate (fun _ e => nomatch e) h
end
noncomputable def d2 (c : Int) : Int := (KBw.bInts (tblOf #[34, 42] #[43, 47])).getD c.toNat 0
end Mine

section Common
open Mine
local macro_rules | `(tactic| walk_at $s:str) => `(tactic| k_extra $s)
local macro_rules | `(tactic| k_room) => `(tactic| walk_at "MyRoom")
local macro_rules | `(tactic| k_all) => `(tactic| walk_at "MyAll9")

namespace Mine
theorem lines_C1_1 : True := by
  k_with_none
  k_with "MyEnter" => (
    w_on
    refine wpAny_call ?_
    refine' enterP ‹Frag.In _ _› (Top.nolimit ‹_›) ?k6 ?k7 (by walk_at "MyD") ?k9 ?kB ?_ ?c2 ?c3 ?c4 ?c5
    (case k6 => k_is)
    (case k7 => k_is)
    (case k9 => first | exact BindsTo.of_eq rfl | exact binds_K (by k_in) rfl (by k_is) rfl rfl rfl)
    (case kB => exact locs rfl)
    (case c5 => decide)
    (case c2 => exact rfl)
    (case c3 => exact rfl)
    (case c4 => exact rfl)
    intro _ _ _
    try dsimp only
    try k_fold)
  k_with "MyRoom" => (first | assumption | ((try dsimp only [Ar, Around.deeper, Around.in1, Around.mark] at *); omega))
  k_with "call type:type" => ((with_reducible show wpAny _ _ (call _ [Value.bytes _ _]) _ _ _); refine call_type_of (Tx := "bytes") rfl (by decide +kernel) ?_)
  k_with "MyX" => (first | assumption | exact Frag.In.keeps (by assumption) (Fr.keep (by k_asm)))
  k_with "MyT" => (first | assumption | exact Top.keeps (by assumption) (Fr.keep (by k_asm)))
  k_with "MyD" => (first | assumption | ((try dsimp only [Ar, Around.deeper, Around.in1, Around.mark] at *); omega))
  trivial

noncomputable def b64v (c : Int) : Int := if 65 ≤ c ∧ c ≤ 90 then c - 65 else if 97 ≤ c ∧ c ≤ 122 then c - 71 else if 48 ≤ c ∧ c ≤ 57 then c + 4 else if c = 43 then 62 else if c = 47 then 63 else 64

def Sg4 (c : Int) : Prop := c = 65 ∨ c = 66 ∨ c = 43 ∨ c = 47
theorem b64v_c {w : World} {loose : List Str} {mean : ExcName → Option Value} {mg mb : Str → Option Value} {dp un : Nat} {fr : Option (List Env)} {gd : Option (List Code)} {s : Shared} {Q : Value → Shared → Prop} {E : Value → Shared → Prop}
    (T : Top topProg loose mean mg mb s.heap) (hD : dp + 1 < recursionLimit) (hu : un + 20 < cLine) {c : Int} {t : Tok} (hc : Sg4 c)
    (ret : ∀ v h' tk t', v = b64v c → Kp s.heap h' → Q (.int v t') { s with heap := h', toks := tk }) (X : (kmk.heap_1 w.params).In s.heap) :
    wpAny (model Challenge.rw_kt0015_01.row.prog w) (Ar dp un fr gd) (call (.ref 119) [.int c t]) Q E s := by
  revert X; k_fill; intro X
  w_on
  refine wpAny_call ?_
  refine' enterP (binds := [(Str.ofString "c", .int c t)]) ‹Frag.In _ _› (Top.nolimit ‹_›) ?k6 ?k7 (by walk_at "MyD") ?k9 ?kB ?_ ?c2 ?c3 ?c4 ?c5
  case k6 => k_is
  case k7 => k_is
  case k9 => first | exact BindsTo.of_eq rfl | exact binds_K (by k_in) rfl (by k_is) rfl rfl rfl
  case kB => exact locs rfl
  case c5 => decide
  case c2 => exact rfl
  case c3 => exact rfl
  case c4 => exact rfl
  intro h₁ F N
  try dsimp only
  try k_fold
  rcases hc with rfl | rfl | rfl | rfl
  all_goals k_steps
  all_goals exact ret _ _ _ _ (by decide +kernel) (Fr.keep (by k_asm))

theorem truth_c {w : World} {loose : List Str} {mean : ExcName → Option Value} {mg mb : Str → Option Value} {dp un : Nat} {fr : Option (List Env)} {gd : Option (List Code)} {s : Shared} {Q : Value → Shared → Prop} {E : Value → Shared → Prop}
    (T : Top topProg loose mean mg mb s.heap) (hD : dp + 1 < recursionLimit) (hu : un + 20 < cLine) {b : Bool} 
    (ret : ∀ h' tk, Kp s.heap h' → Q (.bool b) { s with heap := h', toks := tk }) (X : (kmk.heap_1 w.params).In s.heap) :
    wpAny (model Challenge.rw_kt0015_01.row.prog w) (Ar dp un fr gd) (call (.ref 112) [.bool b]) Q E s := by
  revert X; k_fill; intro X
  w_on
  refine wpAny_call ?_
  refine' enterP (binds := [(Str.ofString "x", .bool b)]) ‹Frag.In _ _› (Top.nolimit ‹_›) ?k6 ?k7 (by walk_at "MyD") ?k9 ?kB ?_ ?c2 ?c3 ?c4 ?c5
  case k6 => k_is
  case k7 => k_is
  case k9 => first | exact BindsTo.of_eq rfl | exact binds_K (by k_in) rfl (by k_is) rfl rfl rfl
  case kB => exact locs rfl
  case c5 => decide
  case c2 => exact rfl
  case c3 => exact rfl
  case c4 => exact rfl
  intro h₁ F N
  try dsimp only
  try k_fold
  cases b
  all_goals k_steps
  all_goals exact ret _ _ (Fr.keep (by k_asm))

theorem buffer_c {w : World} {loose : List Str} {mean : ExcName → Option Value} {mg mb : Str → Option Value} {dp un : Nat} {fr : Option (List Env)} {gd : Option (List Code)} {s : Shared} {Q : Value → Shared → Prop} {E : Value → Shared → Prop}
    (T : Top topProg loose mean mg mb s.heap) (hD : dp + 1 < recursionLimit) (hu : un + 20 < cLine) {b : Array UInt8} {t : Tok} 
    (ret : ∀ h' tk, Kp s.heap h' → Q (.bytes b t) { s with heap := h', toks := tk }) (X : (kmk.heap_1 w.params).In s.heap) :
    wpAny (model Challenge.rw_kt0015_01.row.prog w) (Ar dp un fr gd) (call (.ref 105) [.bytes b t]) Q E s := by
  revert X; k_fill; intro X
  w_on
  refine wpAny_call ?_
  refine' enterP (binds := [(Str.ofString "data", .bytes b t)]) ‹Frag.In _ _› (Top.nolimit ‹_›) ?k6 ?k7 (by walk_at "MyD") ?k9 ?kB ?_ ?c2 ?c3 ?c4 ?c5
  case k6 => k_is
  case k7 => k_is
  case k9 => first | exact BindsTo.of_eq rfl | exact binds_K (by k_in) rfl (by k_is) rfl rfl rfl
  case kB => exact locs rfl
  case c5 => decide
  case c2 => exact rfl
  case c3 => exact rfl
  case c4 => exact rfl
  intro h₁ F N
  try dsimp only
  try k_fold
  k_steps
  all_goals exact ret _ _ (Fr.keep (by k_asm))

theorem abuffer_c {w : World} {loose : List Str} {mean : ExcName → Option Value} {mg mb : Str → Option Value} {dp un : Nat} {fr : Option (List Env)} {gd : Option (List Code)} {s : Shared} {Q : Value → Shared → Prop} {E : Value → Shared → Prop}
    (T : Top topProg loose mean mg mb s.heap) (hD : dp + 1 < recursionLimit) (hu : un + 20 < cLine) {b : Array UInt8} {t : Tok} 
    (ret : ∀ h' tk, Kp s.heap h' → Q (.bytes b t) { s with heap := h', toks := tk }) (X : (kmk.heap_1 w.params).In s.heap) :
    wpAny (model Challenge.rw_kt0015_01.row.prog w) (Ar dp un fr gd) (call (.ref 98) [.bytes b t]) Q E s := by
  revert X; k_fill; intro X
  w_on
  refine wpAny_call ?_
  refine' enterP (binds := [(Str.ofString "data", .bytes b t)]) ‹Frag.In _ _› (Top.nolimit ‹_›) ?k6 ?k7 (by walk_at "MyD") ?k9 ?kB ?_ ?c2 ?c3 ?c4 ?c5
  case k6 => k_is
  case k7 => k_is
  case k9 => first | exact BindsTo.of_eq rfl | exact binds_K (by k_in) rfl (by k_is) rfl rfl rfl
  case kB => exact locs rfl
  case c5 => decide
  case c2 => exact rfl
  case c3 => exact rfl
  case c4 => exact rfl
  intro h₁ F N
  try dsimp only
  try k_fold
  k_steps
  all_goals exact ret _ _ (Fr.keep (by k_asm))

theorem bfdb_c {w : World} {loose : List Str} {mean : ExcName → Option Value} {mg mb : Str → Option Value} {dp un : Nat} {fr : Option (List Env)} {gd : Option (List Code)} {s : Shared} {Q : Value → Shared → Prop} {E : Value → Shared → Prop}
    (T : Top topProg loose mean mg mb s.heap) (hD : dp + 1 < recursionLimit) (hu : un + 20 < cLine) {b : Array UInt8} {t : Tok} 
    (ret : ∀ h' tk, Kp s.heap h' → Q (.bytes b t) { s with heap := h', toks := tk }) (X : (kmk.heap_1 w.params).In s.heap) :
    wpAny (model Challenge.rw_kt0015_01.row.prog w) (Ar dp un fr gd) (call (.ref 78) [.bytes b t]) Q E s := by
  revert X; k_fill; intro X
  w_on
  refine wpAny_call ?_
  refine' enterP (binds := [(Str.ofString "s", .bytes b t)]) ‹Frag.In _ _› (Top.nolimit ‹_›) ?k6 ?k7 (by walk_at "MyD") ?k9 ?kB ?_ ?c2 ?c3 ?c4 ?c5
  case k6 => k_is
  case k7 => k_is
  case k9 => first | exact BindsTo.of_eq rfl | exact binds_K (by k_in) rfl (by k_is) rfl rfl rfl
  case kB => exact locs rfl
  case c5 => decide
  case c2 => exact rfl
  case c3 => exact rfl
  case c4 => exact rfl
  intro h₁ F N
  try dsimp only
  try k_fold
  k_steps
  all_goals exact ret _ _ (Fr.keep (by k_asm))
end Mine

namespace Mine
theorem lines_C2_1 : True := by
  k_with_none
  k_with "MyEnter" => (
    w_on
    refine wpAny_call ?_
    refine' enterP ‹Frag.In _ _› (Top.nolimit ‹_›) ?k6 ?k7 (by walk_at "MyD") ?k9 ?kB ?_ ?c2 ?c3 ?c4 ?c5
    (case k6 => k_is)
    (case k7 => k_is)
    (case k9 => first | exact BindsTo.of_eq rfl | exact binds_K (by k_in) rfl (by k_is) rfl rfl rfl)
    (case kB => exact locs rfl)
    (case c5 => decide)
    (case c2 => exact rfl)
    (case c3 => exact rfl)
    (case c4 => exact rfl)
    intro _ _ _
    try dsimp only
    try k_fold)
  k_with "MyRoom" => (first | assumption | ((try dsimp only [Ar, Around.deeper, Around.in1, Around.mark] at *); omega))
  k_with "call type:type" => ((with_reducible show wpAny _ _ (call _ [Value.bytes _ _]) _ _ _); refine call_type_of (Tx := "bytes") rfl (by decide +kernel) ?_)
  k_with "MyX" => (first | assumption | exact Frag.In.keeps (by assumption) (Fr.keep (by k_asm)))
  k_with "MyT" => (first | assumption | exact Top.keeps (by assumption) (Fr.keep (by k_asm)))
  k_with "MyD" => (first | assumption | ((try dsimp only [Ar, Around.deeper, Around.in1, Around.mark] at *); omega))
  k_with "call ref" => (
    (k_dflt (
      (refine' buffer_c ?T ?D ?U  ?_ ?X);
      (case T => walk_at "MyT");
      (case D => walk_at "MyD");
      (case U => walk_at "MyD");
      (case X => walk_at "MyX");
      (intro _ _ _; (have _ := Fr.keeps (by k_asm) ‹Kp _ _›); (have _ := News.grown (by k_asm) ‹Kp _ _›))))
    (try k_sweep); (try dsimp only); (try k_fold))
  k_with "call ref" => (
    (k_dflt (
      (refine' truth_c ?T ?D ?U  ?_ ?X);
      (case T => walk_at "MyT");
      (case D => walk_at "MyD");
      (case U => walk_at "MyD");
      (case X => walk_at "MyX");
      (intro _ _ _; (have _ := Fr.keeps (by k_asm) ‹Kp _ _›); (have _ := News.grown (by k_asm) ‹Kp _ _›))))
    (try k_sweep); (try dsimp only); (try k_fold))
  k_with "call builtin:list.append" => (k_here; (dsimp only [List.nil_append, List.cons_append]); k_dflt (refine' append_K ?k1 ?k2 ?k3 ?_ ?z; (case k1 => k_asm); (case k2 => k_asm); (case k3 => k_upd); (case z => size_fits)); intro _ _ _; (try k_sweep))
  k_with "pyIter bytes" => ((with_reducible show wpAny _ _ (pyIter (Value.bytes _ _)) (fun it s₂ => LoopAtV _ _ _ _ _ _ _ _ _ it s₂) _ _); k_here; k_bytesUnr)
  k_with "call type:bytes" => (k_here; (with_reducible show wpAny _ _ (call (Value.type "bytes") [Value.ref _]) _ _ _); k_dflt (refine' bytesNew ?F ?N ?hh ?hm ?he ?hi ?hr ?hn ?_; (case F => k_asm); (case N => k_asm); (case hh => rfl); (case hm => k_mem); (case he => exact rfl); (case hi => (repeat' constructor)); (case hr => (repeat' (first | exact In_nil | refine In_cons (by omega) (by omega) ?_))); (case hn => (simp only [List.length_cons, List.length_nil]; omega))); intro _ _ _ _ _ F' N')
  k_with "binaryOp BitAnd int int" => ((refine and_abs (by decide) ?_); intro _ _ _ _ _ _)
  k_with "binaryOp BitOr int int" => ((refine or_abs (by omega) (by omega) ?_); intro _ _ _ _ _ _)
  k_with "binaryOp LShift int int" => ((first | refine shl_abs (p := 4) (by decide) (by omega) (by omega) (by decide) (by decide) ?_ | refine shl_abs (p := 16) (by decide) (by omega) (by omega) (by decide) (by decide) ?_ | refine shl_abs (p := 64) (by decide) (by omega) (by omega) (by decide) (by decide) ?_ | refine shl_abs (p := 256) (by decide) (by omega) (by omega) (by decide) (by decide) ?_); intro _ _ _ _)
  k_with "binaryOp RShift int int" => ((first | refine shr_abs (p := 4) (by decide) (by decide) (by decide) ?_ | refine shr_abs (p := 16) (by decide) (by decide) (by decide) ?_ | refine shr_abs (p := 64) (by decide) (by decide) (by decide) ?_ | refine shr_abs (p := 1) (by decide) (by decide) (by decide) ?_); intro _ _ _ _)
  k_with "execs cons" => ((with_reducible show wpAny _ _ _ _ _ (Shared.mk _ _ _ _ _)); walk_at "MyGt"; refine gt0 ?_; intro _)
  k_with "MyGt" => (with_reducible show wpAny _ _ _ _ _ (Shared.mk _ _ _ (_ + _) _))
  k_with "MyGt" => (with_reducible show wpAny _ _ _ _ _ (Shared.mk _ _ _ (Shared.toks _) _))
  k_with "subscriptTail" => (k_here; (with_reducible show wpAny _ _ (subscriptTail _ _ (Value.bytes _ _) (Value.int _ _)) _ _ _); k_dflt (refine itemB_bin b64I_ok (by decide) (by omega) (by show _ < (64 : Int); omega) ?_); intro _ _ _ _ _ _; (try dsimp only))
  trivial

noncomputable def encB (b0 b1 b2 : Int) : List Int :=
  let l1 := Builtin.bitAnd (Builtin.bitOr (0 * 256) b0) 65535
  let l2 := Builtin.bitAnd (Builtin.bitOr (l1 * 256) b1) 65535
  let l3 := Builtin.bitAnd (Builtin.bitOr (l2 * 256) b2) 65535
  [B64I.getD (Builtin.bitAnd (l1 / 4) 63).toNat 0, B64I.getD (Builtin.bitAnd (l2 / 16) 63).toNat 0, B64I.getD (Builtin.bitAnd (l3 / 64) 63).toNat 0, B64I.getD (Builtin.bitAnd (l3 / 1) 63).toNat 0]

theorem b2a_c {w : World} {loose : List Str} {mean : ExcName → Option Value} {mg mb : Str → Option Value} {dp un : Nat} {fr : Option (List Env)} {gd : Option (List Code)} {s : Shared} {Q : Value → Shared → Prop} {E : Value → Shared → Prop}
    (T : Top topProg loose mean mg mb s.heap) (hD : dp + 2 < recursionLimit) (hu : un + 40 < cLine) {b : Array UInt8} {b0 b1 b2 : Int} {t : Tok} (hb : KBw.bInts b = [b0, b1, b2])
    (ret : ∀ v h' tk t', KBw.bInts v = encB b0 b1 b2 → Kp s.heap h' → Q (.bytes v t') { s with heap := h', toks := tk }) (X : (kmk.heap_1 w.params).In s.heap) :
    wpAny (model Challenge.rw_kt0015_01.row.prog w) (Ar dp un fr gd) (call (.ref 135) [.bytes b t] [(Str.ofString "newline", .bool false)]) Q E s := by
  revert X; k_fill; intro X
  obtain ⟨s0, s1, s2, s3, s4⟩ := s
  dsimp only at T ret X ⊢
  w_on
  refine wpAny_call ?_
  refine' enterP (binds := [(Str.ofString "data", .bytes b t), (Str.ofString "newline", .bool false)]) ‹Frag.In _ _› (Top.nolimit ‹_›) ?k6 ?k7 (by walk_at "MyD") ?k9 ?kB ?_ ?c2 ?c3 ?c4 ?c5
  case k6 => k_is
  case k7 => k_is
  case k9 => first | exact BindsTo.of_eq rfl | exact binds_K (by k_in) rfl (by k_is) rfl rfl rfl
  case kB => exact locs rfl
  case c5 => decide
  case c2 => exact rfl
  case c3 => exact rfl
  case c4 => exact rfl
  intro h₁ F N
  try dsimp only
  try k_fold
  k_steps
  all_goals (subst_vars; refine ret _ _ _ _ ?_ (Fr.keep (by k_asm)); first | assumption | (unfold encB; assumption))
end Mine

namespace Mine
theorem lines_C3_1 : True := by
  k_with_none
  k_with "MyEnter" => (
    w_on
    refine wpAny_call ?_
    refine' enterP ‹Frag.In _ _› (Top.nolimit ‹_›) ?k6 ?k7 (by walk_at "MyD") ?k9 ?kB ?_ ?c2 ?c3 ?c4 ?c5
    (case k6 => k_is)
    (case k7 => k_is)
    (case k9 => first | exact BindsTo.of_eq rfl | exact binds_K (by k_in) rfl (by k_is) rfl rfl rfl)
    (case kB => exact locs rfl)
    (case c5 => decide)
    (case c2 => exact rfl)
    (case c3 => exact rfl)
    (case c4 => exact rfl)
    intro _ _ _
    try dsimp only
    try k_fold)
  k_with "MyRoom" => (first | assumption | ((try dsimp only [Ar, Around.deeper, Around.in1, Around.mark] at *); omega))
  k_with "call type:type" => ((with_reducible show wpAny _ _ (call _ [Value.bytes _ _]) _ _ _); refine call_type_of (Tx := "bytes") rfl (by decide +kernel) ?_)
  k_with "MyX" => (first | assumption | exact Frag.In.keeps (by assumption) (Fr.keep (by k_asm)))
  k_with "MyT" => (first | assumption | exact Top.keeps (by assumption) (Fr.keep (by k_asm)))
  k_with "MyD" => (first | assumption | ((try dsimp only [Ar, Around.deeper, Around.in1, Around.mark] at *); omega))
  k_with "call ref" => (
    (k_dflt (
      (refine' b2a_c ?T ?D ?U ?p0 ?_ ?X);
      (case T => walk_at "MyT");
      (case D => walk_at "MyD");
      (case U => walk_at "MyD");
      (case X => walk_at "MyX");
      (case p0 => assumption);
      (intro _ _ _ _ _ _; (have _ := Fr.keeps (by k_asm) ‹Kp _ _›); (have _ := News.grown (by k_asm) ‹Kp _ _›))))
    (try k_sweep); (try dsimp only); (try k_fold))
  k_with "getMethod type:bytes" => (k_here; refine' method_type ?F ?X ?m (by decide +kernel) ?e ?h ?_; (case F => k_asm); (case X => k_asm); (case m => exact metaB); (case e => k_dflt k_is); (case h => k_handed))
  k_with "getMethod bytes" => ((with_reducible refine tr_method ?_))
  k_with "call builtin:bytes.maketrans" => ((try dsimp only [List.nil_append, List.cons_append]); k_dflt (refine maketrans_call (by decide) (by decide +kernel) ?_); intro _ _)
  k_with "call builtin:bytes.translate" => ((try dsimp only [List.nil_append, List.cons_append]); k_dflt (refine tr_callI (by assumption) (by rfl) (by decide +kernel) (trOut_size (by assumption) (by rfl)) ?_); intro _ _ _ _)
  trivial

theorem b64e_c {w : World} {loose : List Str} {mean : ExcName → Option Value} {mg mb : Str → Option Value} {dp un : Nat} {fr : Option (List Env)} {gd : Option (List Code)} {s : Shared} {Q : Value → Shared → Prop} {E : Value → Shared → Prop}
    (T : Top topProg loose mean mg mb s.heap) (hD : dp + 3 < recursionLimit) (hu : un + 60 < cLine) {b : Array UInt8} {b0 b1 b2 : Int} {t u : Tok} (hb : KBw.bInts b = [b0, b1, b2])
    (ret : ∀ v h' tk t', KBw.bInts v = (encB b0 b1 b2).map (fun c => (KBw.bInts (tblOf #[43, 47] #[34, 42])).getD c.toNat 0) → Kp s.heap h' → Q (.bytes v t') { s with heap := h', toks := tk }) (X : (kmk.heap_1 w.params).In s.heap) :
    wpAny (model Challenge.rw_kt0015_01.row.prog w) (Ar dp un fr gd) (call (.ref 143) [.bytes b t, .bytes #[34, 42] u]) Q E s := by
  revert X; k_fill; intro X
  w_on
  refine wpAny_call ?_
  refine' enterP (binds := [(Str.ofString "s", .bytes b t), (Str.ofString "altchars", .bytes #[34, 42] u)]) ‹Frag.In _ _› (Top.nolimit ‹_›) ?k6 ?k7 (by walk_at "MyD") ?k9 ?kB ?_ ?c2 ?c3 ?c4 ?c5
  case k6 => k_is
  case k7 => k_is
  case k9 => first | exact BindsTo.of_eq rfl | exact binds_K (by k_in) rfl (by k_is) rfl rfl rfl
  case kB => exact locs rfl
  case c5 => decide
  case c2 => exact rfl
  case c3 => exact rfl
  case c4 => exact rfl
  intro h₁ F N
  try dsimp only
  try k_fold
  k_steps
  all_goals (refine ret _ _ _ _ ?_ (Fr.keep (by k_asm)); assumption)
end Mine

namespace Mine
theorem lines_C4_1 : True := by
  k_with_none
  k_with "MyEnter" => (
    w_on
    refine wpAny_call ?_
    refine' enterP ‹Frag.In _ _› (Top.nolimit ‹_›) ?k6 ?k7 (by walk_at "MyD") ?k9 ?kB ?_ ?c2 ?c3 ?c4 ?c5
    (case k6 => k_is)
    (case k7 => k_is)
    (case k9 => first | exact BindsTo.of_eq rfl | exact binds_K (by k_in) rfl (by k_is) rfl rfl rfl)
    (case kB => exact locs rfl)
    (case c5 => decide)
    (case c2 => exact rfl)
    (case c3 => exact rfl)
    (case c4 => exact rfl)
    intro _ _ _
    try dsimp only
    try k_fold)
  k_with "MyRoom" => (first | assumption | ((try dsimp only [Ar, Around.deeper, Around.in1, Around.mark] at *); omega))
  k_with "call type:type" => ((with_reducible show wpAny _ _ (call _ [Value.bytes _ _]) _ _ _); refine call_type_of (Tx := "bytes") rfl (by decide +kernel) ?_)
  k_with "MyX" => (first | assumption | exact Frag.In.keeps (by assumption) (Fr.keep (by k_asm)))
  k_with "MyT" => (first | assumption | exact Top.keeps (by assumption) (Fr.keep (by k_asm)))
  k_with "MyD" => (first | assumption | ((try dsimp only [Ar, Around.deeper, Around.in1, Around.mark] at *); omega))
  k_with "call ref" => (
    (k_dflt (
      (refine' abuffer_c ?T ?D ?U  ?_ ?X);
      (case T => walk_at "MyT");
      (case D => walk_at "MyD");
      (case U => walk_at "MyD");
      (case X => walk_at "MyX");
      (intro _ _ _; (have _ := Fr.keeps (by k_asm) ‹Kp _ _›); (have _ := News.grown (by k_asm) ‹Kp _ _›))))
    (try k_sweep); (try dsimp only); (try k_fold))
  k_with "call ref" => (
    (k_dflt (
      (refine' truth_c ?T ?D ?U  ?_ ?X);
      (case T => walk_at "MyT");
      (case D => walk_at "MyD");
      (case U => walk_at "MyD");
      (case X => walk_at "MyX");
      (intro _ _ _; (have _ := Fr.keeps (by k_asm) ‹Kp _ _›); (have _ := News.grown (by k_asm) ‹Kp _ _›))))
    (try k_sweep); (try dsimp only); (try k_fold))
  k_with "call ref" => (
    (k_dflt (
      (refine' b64v_c ?T ?D ?U ?p0 ?_ ?X);
      (case T => walk_at "MyT");
      (case D => walk_at "MyD");
      (case U => walk_at "MyD");
      (case X => walk_at "MyX");
      (case p0 => assumption);
      (intro _ _ _ _ _ _; (have _ := Fr.keeps (by k_asm) ‹Kp _ _›); (have _ := News.grown (by k_asm) ‹Kp _ _›))))
    (try k_sweep); (try dsimp only); (try k_fold))
  k_with "call builtin:list.append" => (k_here; (dsimp only [List.nil_append, List.cons_append]); k_dflt (refine' append_K ?k1 ?k2 ?k3 ?_ ?z; (case k1 => k_asm); (case k2 => k_asm); (case k3 => k_upd); (case z => size_fits)); intro _ _ _; (try k_sweep))
  k_with "pyIter bytes" => ((with_reducible show wpAny _ _ (pyIter (Value.bytes _ _)) (fun it s₂ => LoopAtV _ _ _ _ _ _ _ _ _ it s₂) _ _); k_here; k_bytesUnr)
  k_with "call type:bytes" => (k_here; (with_reducible show wpAny _ _ (call (Value.type "bytes") [Value.ref _]) _ _ _); k_dflt (refine' bytesNew ?F ?N ?hh ?hm ?he ?hi ?hr ?hn ?_; (case F => k_asm); (case N => k_asm); (case hh => rfl); (case hm => k_mem); (case he => exact rfl); (case hi => (repeat' constructor)); (case hr => (repeat' (first | exact In_nil | refine In_cons (by omega) (by omega) ?_))); (case hn => (simp only [List.length_cons, List.length_nil]; omega))); intro _ _ _ _ _ F' N')
  k_with "binaryOp BitAnd int int" => ((refine and_abs (by decide) ?_); intro _ _ _ _ _ _)
  k_with "binaryOp BitOr int int" => ((refine or_abs (by omega) (by omega) ?_); intro _ _ _ _ _ _)
  k_with "binaryOp LShift int int" => ((first | refine shl_abs (p := 4) (by decide) (by omega) (by omega) (by decide) (by decide) ?_ | refine shl_abs (p := 16) (by decide) (by omega) (by omega) (by decide) (by decide) ?_ | refine shl_abs (p := 64) (by decide) (by omega) (by omega) (by decide) (by decide) ?_ | refine shl_abs (p := 256) (by decide) (by omega) (by omega) (by decide) (by decide) ?_); intro _ _ _ _)
  k_with "binaryOp RShift int int" => ((first | refine shr_abs (p := 4) (by decide) (by decide) (by decide) ?_ | refine shr_abs (p := 16) (by decide) (by decide) (by decide) ?_ | refine shr_abs (p := 64) (by decide) (by decide) (by decide) ?_ | refine shr_abs (p := 1) (by decide) (by decide) (by decide) ?_); intro _ _ _ _)
  k_with "execs cons" => ((with_reducible show wpAny _ _ _ _ _ (Shared.mk _ _ _ _ _)); walk_at "MyGt"; refine gt0 ?_; intro _)
  k_with "MyGt" => (with_reducible show wpAny _ _ _ _ _ (Shared.mk _ _ _ (_ + _) _))
  k_with "MyGt" => (with_reducible show wpAny _ _ _ _ _ (Shared.mk _ _ _ (Shared.toks _) _))
  k_with "ite" => (first | refine ite_neg (by assumption) ?_ | refine iteD_neg (by assumption) ?_ | refine iteB_neg (by assumption) ?_)
  trivial

noncomputable def decB (v0 v1 v2 v3 : Int) : List Int := [Builtin.bitOr (v0 * 4) (v1 / 16), Builtin.bitOr (Builtin.bitAnd v1 15 * 16) (v2 / 4), Builtin.bitOr (Builtin.bitAnd v2 3 * 64) v3]

theorem a2b_c {w : World} {loose : List Str} {mean : ExcName → Option Value} {mg mb : Str → Option Value} {dp un : Nat} {fr : Option (List Env)} {gd : Option (List Code)} {s : Shared} {Q : Value → Shared → Prop} {E : Value → Shared → Prop}
    (T : Top topProg loose mean mg mb s.heap) (hD : dp + 2 < recursionLimit) (hu : un + 40 < cLine) {b : Array UInt8} {c0 c1 c2 c3 : Int} {t : Tok} (hb : KBw.bInts b = [c0, c1, c2, c3]) (n0 : c0 ≠ 61) (l0 : 0 ≤ b64v c0) (u0 : b64v c0 < 64) (n1 : c1 ≠ 61) (l1 : 0 ≤ b64v c1) (u1 : b64v c1 < 64) (n2 : c2 ≠ 61) (l2 : 0 ≤ b64v c2) (u2 : b64v c2 < 64) (n3 : c3 ≠ 61) (l3 : 0 ≤ b64v c3) (u3 : b64v c3 < 64) (m0 : Sg4 c0) (m1 : Sg4 c1) (m2 : Sg4 c2) (m3 : Sg4 c3)
    (ret : ∀ v h' tk t', KBw.bInts v = decB (b64v c0) (b64v c1) (b64v c2) (b64v c3) → Kp s.heap h' → Q (.bytes v t') { s with heap := h', toks := tk }) (X : (kmk.heap_1 w.params).In s.heap) :
    wpAny (model Challenge.rw_kt0015_01.row.prog w) (Ar dp un fr gd) (call (.ref 127) [.bytes b t] [(Str.ofString "strict_mode", .bool false)]) Q E s := by
  revert X; k_fill; intro X
  obtain ⟨s0, s1, s2, s3, s4⟩ := s
  dsimp only at T ret X ⊢
  w_on
  refine wpAny_call ?_
  refine' enterP (binds := [(Str.ofString "data", .bytes b t), (Str.ofString "strict_mode", .bool false)]) ‹Frag.In _ _› (Top.nolimit ‹_›) ?k6 ?k7 (by walk_at "MyD") ?k9 ?kB ?_ ?c2 ?c3 ?c4 ?c5
  case k6 => k_is
  case k7 => k_is
  case k9 => first | exact BindsTo.of_eq rfl | exact binds_K (by k_in) rfl (by k_is) rfl rfl rfl
  case kB => exact locs rfl
  case c5 => decide
  case c2 => exact rfl
  case c3 => exact rfl
  case c4 => exact rfl
  intro h₁ F N
  try dsimp only
  try k_fold
  k_steps
  all_goals (subst_vars; refine ret _ _ _ _ ?_ (Fr.keep (by k_asm)); unfold decB; assumption)
end Mine

namespace Mine
theorem lines_C5_1 : True := by
  k_with_none
  k_with "MyEnter" => (
    w_on
    refine wpAny_call ?_
    refine' enterP ‹Frag.In _ _› (Top.nolimit ‹_›) ?k6 ?k7 (by walk_at "MyD") ?k9 ?kB ?_ ?c2 ?c3 ?c4 ?c5
    (case k6 => k_is)
    (case k7 => k_is)
    (case k9 => first | exact BindsTo.of_eq rfl | exact binds_K (by k_in) rfl (by k_is) rfl rfl rfl)
    (case kB => exact locs rfl)
    (case c5 => decide)
    (case c2 => exact rfl)
    (case c3 => exact rfl)
    (case c4 => exact rfl)
    intro _ _ _
    try dsimp only
    try k_fold)
  k_with "MyRoom" => (first | assumption | ((try dsimp only [Ar, Around.deeper, Around.in1, Around.mark] at *); omega))
  k_with "call type:type" => ((with_reducible show wpAny _ _ (call _ [Value.bytes _ _]) _ _ _); refine call_type_of (Tx := "bytes") rfl (by decide +kernel) ?_)
  k_with "MyX" => (first | assumption | exact Frag.In.keeps (by assumption) (Fr.keep (by k_asm)))
  k_with "MyT" => (first | assumption | exact Top.keeps (by assumption) (Fr.keep (by k_asm)))
  k_with "MyD" => (first | assumption | ((try dsimp only [Ar, Around.deeper, Around.in1, Around.mark] at *); omega))
  k_with "getMethod str" => ((with_reducible refine enc_method ?_))
  k_with "call builtin:str.encode" => ((try dsimp only [List.nil_append, List.cons_append]); k_dflt (refine encode4 (by assumption) (by assumption) (by assumption) (by assumption) ?_); intro _ _ _ _)
  trivial

theorem bfds_c {w : World} {loose : List Str} {mean : ExcName → Option Value} {mg mb : Str → Option Value} {dp un : Nat} {fr : Option (List Env)} {gd : Option (List Code)} {s : Shared} {Q : Value → Shared → Prop} {E : Value → Shared → Prop}
    (T : Top topProg loose mean mg mb s.heap) (hD : dp + 1 < recursionLimit) (hu : un + 20 < cLine) {c0 c1 c2 c3 : Int} {t : Tok} (k0 : SgI c0) (k1 : SgI c1) (k2 : SgI c2) (k3 : SgI c3)
    (ret : ∀ v h' tk t', KBw.bInts v = [c0, c1, c2, c3] → Kp s.heap h' → Q (.bytes v t') { s with heap := h', toks := tk }) (X : (kmk.heap_1 w.params).In s.heap) :
    wpAny (model Challenge.rw_kt0015_01.row.prog w) (Ar dp un fr gd) (call (.ref 78) [.str ⟨#[c0.toNat, c1.toNat, c2.toNat, c3.toNat]⟩ t]) Q E s := by
  revert X; k_fill; intro X
  w_on
  refine wpAny_call ?_
  refine' enterP (binds := [(Str.ofString "s", .str ⟨#[c0.toNat, c1.toNat, c2.toNat, c3.toNat]⟩ t)]) ‹Frag.In _ _› (Top.nolimit ‹_›) ?k6 ?k7 (by walk_at "MyD") ?k9 ?kB ?_ ?c2 ?c3 ?c4 ?c5
  case k6 => k_is
  case k7 => k_is
  case k9 => first | exact BindsTo.of_eq rfl | exact binds_K (by k_in) rfl (by k_is) rfl rfl rfl
  case kB => exact locs rfl
  case c5 => decide
  case c2 => exact rfl
  case c3 => exact rfl
  case c4 => exact rfl
  intro h₁ F N
  try dsimp only
  try k_fold
  k_steps
  all_goals exact ret _ _ _ _ (by assumption) (Fr.keep (by k_asm))

theorem d2_v : d2 65 = 65 ∧ d2 66 = 66 ∧ d2 34 = 43 ∧ d2 42 = 47 := by decide +kernel
theorem sg_m {c : Int} (h : SgI c) : Sg4 (d2 c) := by
  rcases h with rfl | rfl | rfl | rfl
  · exact .inl d2_v.1
  · exact .inr (.inl d2_v.2.1)
  · exact .inr (.inr (.inl d2_v.2.2.1))
  · exact .inr (.inr (.inr d2_v.2.2.2))
theorem sg_d2 {c : Int} (h : SgI c) : d2 c ≠ 61 ∧ 0 ≤ b64v (d2 c) ∧ b64v (d2 c) < 64 := by
  rcases sg_m h with e | e | e | e <;> (rw [e]; decide +kernel)

theorem lines_C5_2 : True := by
  k_with "call ref" => (
    (k_dflt (
      (refine' bfds_c ?T ?D ?U ?p0 ?p1 ?p2 ?p3 ?_ ?X);
      (case T => walk_at "MyT");
      (case D => walk_at "MyD");
      (case U => walk_at "MyD");
      (case X => walk_at "MyX");
      (case p0 => assumption); (case p1 => assumption); (case p2 => assumption); (case p3 => assumption);
      (intro _ _ _ _ _ _; (have _ := Fr.keeps (by k_asm) ‹Kp _ _›); (have _ := News.grown (by k_asm) ‹Kp _ _›))))
    (try k_sweep); (try dsimp only); (try k_fold))
  k_with "call ref" => (
    (k_dflt (
      (refine' bfdb_c ?T ?D ?U  ?_ ?X);
      (case T => walk_at "MyT");
      (case D => walk_at "MyD");
      (case U => walk_at "MyD");
      (case X => walk_at "MyX");
      (intro _ _ _; (have _ := Fr.keeps (by k_asm) ‹Kp _ _›); (have _ := News.grown (by k_asm) ‹Kp _ _›))))
    (try k_sweep); (try dsimp only); (try k_fold))
  k_with "call ref" => (
    (k_dflt (
      (refine' a2b_c ?T ?D ?U ?p0 ?p1 ?p2 ?p3 ?p4 ?p5 ?p6 ?p7 ?p8 ?p9 ?p10 ?p11 ?p12 ?p13 ?p14 ?p15 ?p16 ?_ ?X);
      (case T => walk_at "MyT");
      (case D => walk_at "MyD");
      (case U => walk_at "MyD");
      (case X => walk_at "MyX");
      (case p0 => assumption); (case p1 => first | assumption | exact (sg_d2 (by assumption)).1 | exact (sg_d2 (by assumption)).2.1 | exact (sg_d2 (by assumption)).2.2); (case p2 => first | assumption | exact (sg_d2 (by assumption)).1 | exact (sg_d2 (by assumption)).2.1 | exact (sg_d2 (by assumption)).2.2); (case p3 => first | assumption | exact (sg_d2 (by assumption)).1 | exact (sg_d2 (by assumption)).2.1 | exact (sg_d2 (by assumption)).2.2); (case p4 => first | assumption | exact (sg_d2 (by assumption)).1 | exact (sg_d2 (by assumption)).2.1 | exact (sg_d2 (by assumption)).2.2); (case p5 => first | assumption | exact (sg_d2 (by assumption)).1 | exact (sg_d2 (by assumption)).2.1 | exact (sg_d2 (by assumption)).2.2); (case p6 => first | assumption | exact (sg_d2 (by assumption)).1 | exact (sg_d2 (by assumption)).2.1 | exact (sg_d2 (by assumption)).2.2); (case p7 => first | assumption | exact (sg_d2 (by assumption)).1 | exact (sg_d2 (by assumption)).2.1 | exact (sg_d2 (by assumption)).2.2); (case p8 => first | assumption | exact (sg_d2 (by assumption)).1 | exact (sg_d2 (by assumption)).2.1 | exact (sg_d2 (by assumption)).2.2); (case p9 => first | assumption | exact (sg_d2 (by assumption)).1 | exact (sg_d2 (by assumption)).2.1 | exact (sg_d2 (by assumption)).2.2); (case p10 => first | assumption | exact (sg_d2 (by assumption)).1 | exact (sg_d2 (by assumption)).2.1 | exact (sg_d2 (by assumption)).2.2); (case p11 => first | assumption | exact (sg_d2 (by assumption)).1 | exact (sg_d2 (by assumption)).2.1 | exact (sg_d2 (by assumption)).2.2); (case p12 => first | assumption | exact (sg_d2 (by assumption)).1 | exact (sg_d2 (by assumption)).2.1 | exact (sg_d2 (by assumption)).2.2);
      (case p13 => exact sg_m (by assumption)); (case p14 => exact sg_m (by assumption)); (case p15 => exact sg_m (by assumption)); (case p16 => exact sg_m (by assumption));
      (intro _ _ _ _ _ _; (have _ := Fr.keeps (by k_asm) ‹Kp _ _›); (have _ := News.grown (by k_asm) ‹Kp _ _›))))
    (try k_sweep); (try dsimp only); (try k_fold))
  k_with "getMethod type:bytes" => (k_here; refine' method_type ?F ?X ?m (by decide +kernel) ?e ?h ?_; (case F => k_asm); (case X => k_asm); (case m => exact metaB); (case e => k_dflt k_is); (case h => k_handed))
  k_with "getMethod bytes" => ((with_reducible refine tr_method ?_))
  k_with "call builtin:bytes.maketrans" => ((try dsimp only [List.nil_append, List.cons_append]); k_dflt (refine maketrans_call (by decide) (by decide +kernel) ?_); intro _ _)
  k_with "call builtin:bytes.translate" => ((try dsimp only [List.nil_append, List.cons_append]); k_dflt (refine tr_callI (by assumption) (by rfl) (by decide +kernel) (trOut_size (by assumption) (by rfl)) ?_); intro _ _ _ _)
  trivial

theorem b64d_c {w : World} {loose : List Str} {mean : ExcName → Option Value} {mg mb : Str → Option Value} {dp un : Nat} {fr : Option (List Env)} {gd : Option (List Code)} {s : Shared} {Q : Value → Shared → Prop} {E : Value → Shared → Prop}
    (T : Top topProg loose mean mg mb s.heap) (hD : dp + 3 < recursionLimit) (hu : un + 60 < cLine) {c0 c1 c2 c3 : Int} {t u : Tok} (k0 : SgI c0) (k1 : SgI c1) (k2 : SgI c2) (k3 : SgI c3)
    (ret : ∀ v h' tk t', KBw.bInts v = decB (b64v (d2 c0)) (b64v (d2 c1)) (b64v (d2 c2)) (b64v (d2 c3)) → Kp s.heap h' → Q (.bytes v t') { s with heap := h', toks := tk }) (X : (kmk.heap_1 w.params).In s.heap) :
    wpAny (model Challenge.rw_kt0015_01.row.prog w) (Ar dp un fr gd) (call (.ref 151) [.str ⟨#[c0.toNat, c1.toNat, c2.toNat, c3.toNat]⟩ t, .bytes #[34, 42] u]) Q E s := by
  revert X; k_fill; intro X
  w_on
  refine wpAny_call ?_
  refine' enterP (binds := [(Str.ofString "s", .str ⟨#[c0.toNat, c1.toNat, c2.toNat, c3.toNat]⟩ t), (Str.ofString "altchars", .bytes #[34, 42] u), (Str.ofString "validate", .bool false)]) ‹Frag.In _ _› (Top.nolimit ‹_›) ?k6 ?k7 (by walk_at "MyD") ?k9 ?kB ?_ ?c2 ?c3 ?c4 ?c5
  case k6 => k_is
  case k7 => k_is
  case k9 => first | exact BindsTo.of_eq rfl | exact binds_K (by k_in) rfl (by k_is) rfl rfl rfl
  case kB => exact locs rfl
  case c5 => decide
  case c2 => exact rfl
  case c3 => exact rfl
  case c4 => exact rfl
  intro h₁ F N
  try dsimp only
  try k_fold
  k_steps
  all_goals exact ret _ _ _ _ (by assumption) (Fr.keep (by k_asm))
end Mine

namespace Mine
theorem enterPC {w : World} {prog : Program} {K : Frag} {A : Around} {s : Shared} {R : Result → Shared → Prop} {name qual : Str} {params : Arguments} {body : List Stmt} {scope : Scope} {dV kV doc pm cdv ct oc : Value} {an od : Option Addr} {osl : Array (Option Value)} {f : Addr} {args : Args} {binds : List (Str × Value)}
    (X : K.In s.heap) (hl : s.heap.NoLimit)
    (ho : K.lookup f = some ⟨oc, od, .func (fnOf name qual params body scope dV kV doc pm an cdv ct), osl⟩) (hcd : codeIn K cdv qual = true) (hroom : A.depth < recursionLimit)
    (hbind : BindsTo s (fnOf name qual params body scope dV kV doc pm an cdv ct) args binds) (hkind : (binds.all fun y => scope.names.lookup y.1 == some .local || scope.names.lookup y.1 == some .cell) = true)
    (hnd : ((cellsFrom 0 scope.names []).map (·.1)).Nodup)
    (h : ∀ L' h₁ tk cells, Fr s.heap L' h₁ (bindL (envOfC qual scope L' f cdv).kindOf binds fun _ => none) → News s.heap L' h₁ cells →
      CellsAre (bindC (envOfC qual scope L' f cdv).kindOf binds fun _ => none) (cellsFrom (L' + 1) scope.names []) cells →
      wpAny (model prog w) (A.deeper (envOfC qual scope L' f cdv)) (execs body (envOfC qual scope L' f cdv))
        (fun fl s' => R (.ok (.ret (match fl with | .ret v => v | _ => .none))) s')
        (fun e s' => wpAny (model prog w) (A.deeper (envOfC qual scope L' f cdv)) (leaving (envOfC qual scope L' f cdv) e) (fun _ s'' => R (.error e) s'') (fun e' s'' => R (.error e') s'') s')
        { s with heap := h₁, toks := tk })
    (hco : scope.isCoroutine = false) (hgen : scope.isGenerator = false) (hk : scope.kind = .function) : codeAny (model prog w) A (.call (.ref f) args) R s := by
  refine codeAny_call_function hroom (X _ _ ho) rfl hco hgen rfl (codeRec_of X hcd) (hbind _ _ _ _ ?_)
  refine wpAny_newFunctionEnv_cells hk (kindsX hkind _) fun env' he s' x => ?_
  subst he
  refine ⟨hl.keeps x.toInCall.keep, codeAny_func ?_⟩
  obtain ⟨h₁, tk, rfl, _⟩ := x.done
  obtain ⟨cells, NC, Y⟩ := Cl.news (h₀ := s.heap) (Nat.le_refl _) fun n c hm => ⟨x.cell n c (lookup_of_mem_nodup (cellsFrom_names scope.names 0 (s.heap.objs.size + 1) [] [] rfl ▸ hnd) hm), x.above n c hm⟩
  exact h s.heap.objs.size h₁ tk cells ⟨x.toInCall.ns, fun b o e => x.toInCall.keep b o e, Nat.le_refl _⟩ NC Y

inductive Are {α : Type} (R : Value → α → Prop) : List Value → List α → Prop
  | nil : Are R [] []
  | cons {v : Value} {d : α} {vs : List Value} {ds : List α} : R v d → Are R vs ds → Are R (v :: vs) (d :: ds)
section
variable {α : Type} {R R' : Value → α → Prop}
theorem Are.append {vs ws : List Value} {ds es : List α} (h : Are R vs ds) (k : Are R ws es) : Are R (vs ++ ws) (ds ++ es) := by
  induction h with
  | nil => exact k
  | cons a _ ih => exact .cons a ih
theorem Are.snoc {vs : List Value} {v : Value} {ds : List α} {d : α} (h : Are R vs ds) (k : R v d) : Are R (vs ++ [v]) (ds ++ [d]) := h.append (.cons k .nil)
theorem Are.length {vs : List Value} {ds : List α} (h : Are R vs ds) : vs.length = ds.length := by
  induction h with
  | nil => rfl
  | cons _ _ ih => simp [ih]
theorem Are.get {vs : List Value} {ds : List α} (h : Are R vs ds) : ∀ {i : Nat} {v : Value}, vs[i]? = some v → ∃ d, ds[i]? = some d ∧ R v d := by
  induction h with
  | nil => intro i v e; simp at e
  | cons a _ ih =>
    intro i v e
    cases i with
    | zero => simp at e; subst e; exact ⟨_, rfl, a⟩
    | succ i => simpa using ih (by simpa using e)
theorem Are.snoc_inv {vs : List Value} {v : Value} : ∀ {ds : List α}, Are R (vs ++ [v]) ds → ∃ di d, ds = di ++ [d] ∧ Are R vs di ∧ R v d := by
  induction vs with
  | nil =>
    intro ds h
    cases h with
    | cons a r => cases r; exact ⟨[], _, rfl, .nil, a⟩
  | cons x xs ih =>
    intro ds h
    cases h with
    | cons a r =>
      obtain ⟨di, d, rfl, h1, h2⟩ := ih r
      exact ⟨_ :: di, d, rfl, .cons a h1, h2⟩
theorem Are.mono (f : ∀ v d, R v d → R' v d) {vs : List Value} {ds : List α} (h : Are R vs ds) : Are R' vs ds := by
  induction h with
  | nil => exact .nil
  | cons a _ ih => exact .cons (f _ _ a) ih
theorem Are.map {β : Type} {S : Value → β → Prop} (f : α → β) (g : ∀ v d, R v d → S v (f d)) {vs : List Value} {ds : List α} (h : Are R vs ds) : Are S vs (ds.map f) := by
  induction h with
  | nil => exact .nil
  | cons a _ ih => exact .cons (g _ _ a) ih
end
theorem Are.ints {vs : List Value} {ns : List Int} (h : IntsAre vs ns) : Are (fun v n => ∃ t, v = .int n t) vs ns := by
  induction h with
  | nil => exact .nil
  | cons n t _ ih => exact .cons ⟨t, rfl⟩ ih
theorem Are.toInts {vs : List Value} {ns : List Int} (h : Are (fun v n => ∃ t, v = .int n t) vs ns) : IntsAre vs ns := by
  induction h with
  | nil => exact .nil
  | cons a _ ih => obtain ⟨t, rfl⟩ := a; exact .cons _ t ih

section
variable {prog : Program} {w : World} {A : Around} {s : Shared} {h₀ : Heap} {L : Addr} {m : Str → Option Value} {env : Env}
theorem compEnd_mono {I C D : Addr} {oI oC oD : Obj} {S : List (Addr × Obj) → Prop} {r r' : Value → List (Addr × Obj) → Prop} {y : Value} {s₂ : Shared}
    (f : ∀ y n, r y n → r' y n) (h : LCg.CompEnd h₀ L m s I oI C oC D oD S r y s₂) : LCg.CompEnd h₀ L m s I oI C oC D oD S r' y s₂ := by
  obtain ⟨h', tk, n', e, F, N, o, hS, hr⟩ := h
  exact ⟨h', tk, n', e, F, N, o, hS, f _ _ hr⟩
theorem comp_inv {elt : PySem.Expr} {x : Str} {scope : Scope} {cl : List (Str × Addr)} {S : List (Addr × Obj) → Prop} {P : Nat → Value → Prop} {Fin : List Value → List (Addr × Obj) → Prop}
    (Inv : Nat → List Value → List (Addr × Obj) → Prop) (n : Nat)
    (turn : ∀ i ys news v I oI C oC D m₂ h tk (E' : Value → Shared → Prop), i < n → P i v → Inv i ys news → LCg.NsObj oC m₂ → m₂ x = some v → Fr h₀ L h m → News h₀ L h ((I, oI) :: (C, oC) :: (D, LCg.lst ys) :: news) → LCg.Off3 I C D news → ((@Ne Nat I C) ∧ (@Ne Nat I D) ∧ (@Ne Nat C D)) →
      wpAny (model prog w) A (eval elt (compEnvC scope cl C env)) (LCg.CompEnd h₀ L m { s with heap := h, toks := tk } I oI C oC D (LCg.lst ys) S (fun y news' => Inv (i + 1) (ys ++ [y]) news')) E' { s with heap := h, toks := tk })
    (fin : ∀ ys news, Inv n ys news → Fin ys news) : ∀ (k i : Nat) (ys : List Value) (news : List (Addr × Obj)), i + k = n → Inv i ys news → LCg.CompRest prog w A h₀ L m env elt x scope cl s S P Fin k i ys news
  | 0, i, ys, news, e, hI => by
    have e' : i = n := by simpa using e
    subst e'
    exact fin _ _ hI
  | k + 1, i, ys, news, e, hI => fun v I oI C oC D m₂ h tk E' hP hC hx F N off ne =>
    wpAny_mono (turn i ys news v I oI C oC D m₂ h tk E' (by omega) hP hI hC hx F N off ne) (fun y s₂ q => compEnd_mono (fun y nw r => comp_inv Inv n turn fin k (i + 1) _ _ (by omega) r) q) fun _ _ e => e
theorem compT_inv {ct elt : PySem.Expr} {x : Str} {scope : Scope} {cl : List (Str × Addr)} {S : List (Addr × Obj) → Prop} {P : Nat → Value → Prop} {Fin : List Value → List (Addr × Obj) → Prop}
    (Inv : Nat → List Value → List (Addr × Obj) → Prop) (n : Nat)
    (turn : ∀ i ys news v I oI C oC D m₂ h tk (E' : Value → Shared → Prop), i < n → P i v → Inv i ys news → LCg.NsObj oC m₂ → m₂ x = some v → Fr h₀ L h m → News h₀ L h ((I, oI) :: (C, oC) :: (D, LCg.lst ys) :: news) → LCg.Off3 I C D news → ((@Ne Nat I C) ∧ (@Ne Nat I D) ∧ (@Ne Nat C D)) →
      wpAny (model prog w) A (isTrue ct (compEnvC scope cl C env) (eval ct (compEnvC scope cl C env))) (fun ok s' => if ok = true then
        wpAny (model prog w) A (eval elt (compEnvC scope cl C env)) (LCg.CompEnd h₀ L m { s with heap := h, toks := tk } I oI C oC D (LCg.lst ys) S (fun y news' => Inv (i + 1) (ys ++ [y]) news')) E' s'
        else LCg.CompEnd h₀ L m { s with heap := h, toks := tk } I oI C oC D (LCg.lst ys) S (fun _ news' => Inv (i + 1) ys news') Value.none s') E' { s with heap := h, toks := tk })
    (fin : ∀ ys news, Inv n ys news → Fin ys news) : ∀ (k i : Nat) (ys : List Value) (news : List (Addr × Obj)), i + k = n → Inv i ys news → LCt.CompRestT prog w A h₀ L m env ct elt x scope cl s S P Fin k i ys news
  | 0, i, ys, news, e, hI => by
    have e' : i = n := by simpa using e
    subst e'
    exact fin _ _ hI
  | k + 1, i, ys, news, e, hI => fun v I oI C oC D m₂ h tk E' hP hC hx F N off ne => by
    refine wpAny_mono (turn i ys news v I oI C oC D m₂ h tk E' (by omega) hP hI hC hx F N off ne) (fun ok s₂ q => ?_) fun _ _ e => e
    cases ok with
    | true =>
      simp only [if_true] at q ⊢
      exact wpAny_mono q (fun y s₃ q => compEnd_mono (fun y nw r => compT_inv Inv n turn fin k (i + 1) _ _ (by omega) r) q) fun _ _ e => e
    | false =>
      simp only [Bool.false_eq_true, if_false] at q ⊢
      exact compEnd_mono (fun y nw r => compT_inv Inv n turn fin k (i + 1) _ _ (by omega) r) q
end

section
variable {prog : Program} {w : World} {A : Around} {E : Value → Shared → Prop} {s : Shared} {env : Env} {h₀ : Heap} {target : PySem.Expr} {body : List Stmt} {Q : Flow → Shared → Prop}
theorem baseTurns {ax : Addr} {vs : List Value} {m₀ : Str → Option Value} {news : List (Addr × Obj)}
    (hh : A.handled = none) (F : Fr h₀ env.locals s.heap m₀) (N : News h₀ env.locals s.heap news) (hl₀ : h₀.IsList ax vs.toArray)
    (rest₀ : ∀ I : Addr, (∀ p ∈ news, p.1 < I) → ItemsRest prog w A E h₀ env target body Q s [(I, "list_iterator")] [] (vs.map .val) m₀ news) :
    wpAny (model prog w) A (pyIter (.ref ax)) (fun it s₂ => TurnsAt prog w A h₀ env target body Q E it s₂) E s := by
  have hl : s.heap.IsList ax vs.toArray := hl₀.at fun o e => F.keep _ o e
  obtain ⟨ol, hol, _⟩ := id hl₀
  have hlt : ax < h₀.objs.size := Heap.lt_size hol
  have hne : ax ≠ s.heap.objs.size := Nat.ne_of_lt (Nat.lt_trans (Nat.lt_of_lt_of_le hlt F.above) F.ns.lt)
  have hI₀ : h₀.get? s.heap.objs.size = none := next_is_new F
  refine wpAny_pyIter_list hl ?_
  have W := Walks.list (prog := prog) (w := w) hh s.heap.objs.size ax hne vs.toArray
  have T := KTurns.ofWalks (target := target) W fun i v s Q E st q => letGo_listiter st.1 q
  let J : Nat → (Str → Option Value) → List (Addr × Obj) → Prop := fun i m₁ news₁ => ItemsRest prog w A E h₀ env target body Q s [(s.heap.objs.size, "list_iterator")] [] ((vs.drop i).map .val) m₁ news₁
  refine ⟨s.heap.objs.size, _, _, _, _, _, _, m₀, news, J, rfl, T, ?_, fun b hb => by rw [List.mem_singleton.mp hb]; exact hI₀, fun p hp hI => absurd (Heap.lt_size (N p hp).1) ((List.mem_singleton.mp hI) ▸ Nat.lt_irrefl _),
    ⟨⟨_, Heap.get?_push_size _ rfl, rfl, rfl⟩, hl.at fun o e => Heap.get?_push_of_some _ e⟩, F.push _, fun p hp => ⟨Heap.get?_push_of_some _ (N p hp).1, (N p hp).2⟩, rest₀ _ fun p hp => Heap.lt_size (N p hp).1, ?_, ?_⟩
  · intro hI
    rcases List.mem_cons.mp hI with e | hI
    · exact absurd F.ns.lt (e ▸ Nat.lt_irrefl _)
    · exact absurd (Nat.lt_of_lt_of_le hlt F.above) ((List.mem_singleton.mp hI) ▸ Nat.lt_irrefl _)
  · intro i v m₁ news₁ h₁ tk₁ own hin hP hJ hoff hown hget hall hst F₁ N₁
    have hvi : vs[i]? = some v := by simpa using hP
    have hlt' : i < vs.length := by simpa using hin
    obtain ⟨oi, hoi, hic, _⟩ := hst.1
    have hmem := hall _ List.mem_cons_self hI₀ oi hoi
    have hd : vs.drop i = v :: vs.drop (i + 1) := by
      rw [List.drop_eq_getElem_cons hlt']
      congr 1
      exact Option.some.inj ((List.getElem?_eq_getElem hlt').symm.trans hvi)
    have hJ' : ItemsRest prog w A E h₀ env target body Q s [(s.heap.objs.size, "list_iterator")] [] (.val v :: (vs.drop (i + 1)).map .val) m₁ news₁ := by
      have := hJ
      show ItemsRest prog w A E h₀ env target body Q s [(s.heap.objs.size, "list_iterator")] [] ((v :: vs.drop (i + 1)).map .val) m₁ news₁
      rw [← hd]; exact hJ
    have N₂ : News h₀ env.locals h₁ ([(s.heap.objs.size, oi)] ++ news₁) := fun p hp => by
      rcases List.mem_append.mp hp with hp | hp
      · rw [List.mem_singleton.mp hp]; exact N₁ _ (List.mem_append_left _ hmem)
      · exact N₁ _ (List.mem_append_right _ hp)
    have own1 : ∀ p ∈ own, p = (s.heap.objs.size, oi) := by
      rintro ⟨pa, po⟩ hp
      have z := (N₁ _ (List.mem_append_left _ hp))
      rcases List.mem_cons.mp (hown _ hp) with e | e
      · have e' : pa = s.heap.objs.size := e
        subst e'
        have g : h₁.get? s.heap.objs.size = some po := hget _ hp
        rw [hoi] at g
        rw [Option.some.inj g]
      · exfalso
        have e' : pa = ax := List.mem_singleton.mp e
        subst e'
        have g := z.2.2
        rw [show h₀.get? pa = some ol from hol] at g
        cases g
    have fin : ∀ s₃, UnrEndW h₀ env.locals { s with heap := h₁, toks := tk₁ } [(s.heap.objs.size, oi)] (fun m' n' => SubL [] n' ∧ ItemsRest prog w A E h₀ env target body Q s [(s.heap.objs.size, "list_iterator")] [] ((vs.drop (i + 1)).map .val) m' n') s₃ →
        LoopStepU h₀ env.locals [s.heap.objs.size] own (J (i + 1)) { s with heap := h₁, toks := tk₁ } .next s₃ := by
      rintro s₃ ⟨h', tk, m', news', e, F', N', ho, _, r⟩
      refine ⟨rfl, h', tk, m', news', e, F', fun p hp => ?_, fun p hp hI => ?_, r⟩
      · rcases List.mem_append.mp hp with hp | hp
        · rw [own1 p hp]; exact N' _ (List.mem_append_left _ (List.mem_singleton.mpr rfl))
        · exact N' _ (List.mem_append_right _ hp)
      · exact ho p hp _ (List.mem_singleton.mpr rfl) (List.mem_singleton.mp hI)
    refine wpAny_mono (AllObj.at (its := [(s.heap.objs.size, oi)]) (hJ' v h₁ tk₁ rfl F₁) ⟨⟨rfl, hic⟩, trivial⟩ N₂) (fun _ s₂ h₂ => wpAny_mono h₂ (fun f s₃ p => ?_) fun _ _ e => e) fun _ _ e => e
    cases f with
    | ret v => exact .ret p
    | brk => exact .brk p
    | next => exact .next (fin _ p)
    | cont => exact .cont (fin _ p)
  · intro h' tk m' news' F' N' _ hJ
    have z : vs.drop vs.toArray.size = [] := by simp
    have hJ' : ItemsRest prog w A E h₀ env target body Q s [(s.heap.objs.size, "list_iterator")] [] ((vs.drop vs.toArray.size).map .val) m' news' := hJ
    rw [z] at hJ'
    exact hJ' h' tk F' N'

theorem unrEndW_mono {L : Addr} {its : List (Addr × Obj)} {r r' : (Str → Option Value) → List (Addr × Obj) → Prop} {s₁ s₂ : Shared} (f : ∀ m n, r m n → r' m n) (h : UnrEndW h₀ L s₁ its r s₂) : UnrEndW h₀ L s₁ its r' s₂ := by
  obtain ⟨h', tk, m', n', e, F, N, o, k⟩ := h
  exact ⟨h', tk, m', n', e, F, N, o, f _ _ k⟩
theorem unrPostW_mono {L : Addr} {its : List (Addr × Obj)} {r r' : (Str → Option Value) → List (Addr × Obj) → Prop} {s₁ s₂ : Shared} {fl : Flow} (f : ∀ m n, r m n → r' m n) (h : UnrPostW h₀ L s₁ its r Q fl s₂) : UnrPostW h₀ L s₁ its r' Q fl s₂ := by
  cases fl with
  | ret v => exact h
  | brk => exact h
  | next => exact unrEndW_mono f h
  | cont => exact unrEndW_mono f h
/-- a for loop by an invariant: the state c of the loop, its locals `ps c`, its ledger `Led c`. -/
theorem items_inv {σ : Type} (Led : σ → List (Addr × Obj)) (ps : σ → List (Str × Value)) (P : List Value → σ → Prop) {ws : List (Addr × String)} {keep : List (Addr × Obj)}
    (turn : ∀ v r (c : σ) (u : Str → Option Value) h tk, P (v :: r) c → Fr h₀ env.locals h (kstB u (ps c)) → AllObj ws (fun its => News h₀ env.locals h (its ++ Led c) →
      wpAny (model prog w) A (assign target env v) (fun _ s₂ => wpAny (model prog w) A (execs body env) (UnrPostW h₀ env.locals { s with heap := h, toks := tk } its
        (fun m' n' => SubL keep n' ∧ ∃ c', P r c' ∧ (∀ p ∈ ps c', m' p.1 = some p.2) ∧ n' = Led c') Q) E s₂) E { s with heap := h, toks := tk }))
    (done : ∀ (c : σ) (u : Str → Option Value) h tk, P [] c → Fr h₀ env.locals h (kstB u (ps c)) → News h₀ env.locals h (Led c) → Q .next { s with heap := h, toks := tk }) :
    ∀ (vs : List Value) (m : Str → Option Value) (c : σ), P vs c → (∀ p ∈ ps c, m p.1 = some p.2) → ItemsRest prog w A E h₀ env target body Q s ws keep (vs.map .val) m (Led c)
  | [], m, c, hp, hk => fun h tk F N => done c m h tk hp (by rw [show kstB m (ps c) = m from funext fun y => kstB_eq hk fun _ => rfl]; exact F) N
  | v :: r, m, c, hp, hk => by
    refine ItemsRest.val fun h tk F => ?_
    have F' : Fr h₀ env.locals h (kstB m (ps c)) := by
      have e : kstB m (ps c) = m := by funext y; exact kstB_eq hk fun _ => rfl
      rw [e]; exact F
    have T := turn v r c m h tk hp F'
    have key : ∀ (ws : List (Addr × String)) (k k' : List (Addr × Obj) → Prop), (∀ its, k its → k' its) → AllObj ws k → AllObj ws k' := by
      intro ws
      induction ws with
      | nil => intro k k' f h; exact f _ h
      | cons a t ih => intro k k' f h o ho; exact ih _ _ (fun its => f _) (h o ho)
    refine key ws _ _ (fun its hq N => ?_) T
    refine wpAny_mono (hq N) (fun _ s₂ h₂ => wpAny_mono h₂ (fun f s₃ p => ?_) fun _ _ e => e) fun _ _ e => e
    exact unrPostW_mono (fun m' n' ⟨hs, c', hp', hk', e⟩ => ⟨hs, by subst e; exact items_inv Led ps P turn done r m' c' hp' hk'⟩) p
end
end Mine

namespace Mine
noncomputable def octs (f0 f1 f2 f3 : Int) : List Int := [(f0 * 262144 + f1 * 4096 + f2 * 64 + f3) / 65536, (f0 * 262144 + f1 * 4096 + f2 * 64 + f3) / 256 % 256, (f0 * 262144 + f1 * 4096 + f2 * 64 + f3) % 256]

section
variable {prog : Program} {w : World} {A : Around} {E : Value → Shared → Prop} {s : Shared} {a b : Int} {t u : Tok} {Q : Value → Shared → Prop}
theorem div_abs (hb : 0 < b) (hl : b.natAbs.log2 < 9000) (h : ∀ v t' k, v = a / b → Q (.int v t') { s with toks := k }) : wpAny (model prog w) A (binaryOp .FloorDiv (.int a t) (.int b u)) Q E s :=
  floordiv_int (Ne.symm (Int.ne_of_lt hb)) (h _ _ _ (Int.fdiv_eq_ediv_of_nonneg _ (Int.le_of_lt hb))) (Or.inl (PyProof.noPylong_of_log2 hl))
theorem mod_abs (hb : 0 < b) (h : ∀ v t' k, v = a % b → Q (.int v t') { s with toks := k }) : wpAny (model prog w) A (binaryOp .Mod (.int a t) (.int b u)) Q E s :=
  mod_int' (Ne.symm (Int.ne_of_lt hb)) (h _ _ _ (Int.fmod_eq_emod_of_nonneg _ (Int.le_of_lt hb)))
theorem mul_abs (hb : Builtin.Int.intBits b ≤ 64) (h : ∀ v t' k, v = a * b → Q (.int v t') { s with toks := k }) : wpAny (model prog w) A (binaryOp .Mult (.int a t) (.int b u)) Q E s :=
  mul_int (h _ _ _ rfl) (IntMulOk.of_right hb)
end

theorem lines_C6_1 : True := by
  k_with_none
  k_with "MyEnter" => (
    w_on
    refine wpAny_call ?_
    refine' enterP ‹Frag.In _ _› (Top.nolimit ‹_›) ?k6 ?k7 (by walk_at "MyD") ?k9 ?kB ?_ ?c2 ?c3 ?c4 ?c5
    (case k6 => k_is)
    (case k7 => k_is)
    (case k9 => first | exact BindsTo.of_eq rfl | exact binds_K (by k_in) rfl (by k_is) rfl rfl rfl)
    (case kB => exact locs rfl)
    (case c5 => decide)
    (case c2 => exact rfl)
    (case c3 => exact rfl)
    (case c4 => exact rfl)
    intro _ _ _
    try dsimp only
    try k_fold)
  k_with "MyRoom" => (first | assumption | ((try dsimp only [Ar, Around.deeper, Around.in1, Around.mark] at *); omega))
  k_with "call type:type" => ((with_reducible show wpAny _ _ (call _ [Value.bytes _ _]) _ _ _); refine call_type_of (Tx := "bytes") rfl (by decide +kernel) ?_)
  k_with "MyX" => (first | assumption | exact Frag.In.keeps (by assumption) (Fr.keep (by k_asm)))
  k_with "MyT" => (first | assumption | exact Top.keeps (by assumption) (Fr.keep (by k_asm)))
  k_with "MyD" => (first | assumption | ((try dsimp only [Ar, Around.deeper, Around.in1, Around.mark] at *); omega))
  k_with "call builtin:list.append" => (k_here; (dsimp only [List.nil_append, List.cons_append]); k_dflt (refine' append_K ?k1 ?k2 ?k3 ?_ ?z; (case k1 => k_asm); (case k2 => k_asm); (case k3 => k_upd); (case z => size_fits)); intro _ _ _; (try k_sweep))
  k_with "pyIter bytes" => ((with_reducible show wpAny _ _ (pyIter (Value.bytes _ _)) (fun it s₂ => LoopAtV _ _ _ _ _ _ _ _ _ it s₂) _ _); k_here; k_bytesUnr)
  k_with "call type:bytes" => (k_here; (with_reducible show wpAny _ _ (call (Value.type "bytes") [Value.ref _]) _ _ _); k_dflt (refine' bytesNew ?F ?N ?hh ?hm ?he ?hi ?hr ?hn ?_; (case F => k_asm); (case N => k_asm); (case hh => rfl); (case hm => k_mem); (case he => exact rfl); (case hi => (repeat' constructor)); (case hr => (repeat' (first | exact In_nil | refine In_cons (by omega) (by omega) ?_))); (case hn => (simp only [List.length_cons, List.length_nil]; omega))); intro _ _ _ _ _ F' N')
  k_with "binaryOp FloorDiv int int" => (refine div_abs (by decide) (by decide +kernel) ?_; intro _ _ _ _)
  k_with "binaryOp Mod int int" => (refine mod_abs (by decide) ?_; intro _ _ _ _)
  k_with "binaryOp Mult int int" => (refine mul_abs (by decide +kernel) ?_; intro _ _ _ he; simp at he)
  k_with "CompSrc" => (k_dflt (refine LCg.CompSrc.range (by rfl) (by k_asm) (by k_asm) (by assumption) (by first | decide | rfl) (by first | rfl | decide) (by exact Nat.le_of_ble_eq_true rfl) ?_; intro g'; lcg_lit))
  trivial

theorem oct_c {w : World} {loose : List Str} {mean : ExcName → Option Value} {mg mb : Str → Option Value} {dp un : Nat} {fr : Option (List Env)} {gd : Option (List Code)} {s : Shared} {Q : Value → Shared → Prop} {E : Value → Shared → Prop}
    (T : Top topProg loose mean mg mb s.heap) (hD : dp + 1 < recursionLimit) (hu : un + 20 < cLine) {a : Addr} {f0 f1 f2 f3 : Int} {t0 t1 t2 t3 : Tok} (hl : s.heap.IsList a #[.int f0 t0, .int f1 t1, .int f2 t2, .int f3 t3]) (b0 : 0 ≤ f0 ∧ f0 < 64) (b1 : 0 ≤ f1 ∧ f1 < 64) (b2 : 0 ≤ f2 ∧ f2 < 64) (b3 : 0 ≤ f3 ∧ f3 < 64)
    (ret : ∀ v h' tk t', KBw.bInts v = octs f0 f1 f2 f3 → Kp s.heap h' → Q (.bytes v t') { s with heap := h', toks := tk }) (X : (kmk.heap_1 w.params).In s.heap) :
    wpAny (model Challenge.rw_kt0015_01.row.prog w) (Ar dp un fr gd) (call (.ref 185) [.ref a]) Q E s := by
  revert X; k_fill; intro X
  w_on
  refine wpAny_call ?_
  refine' enterPC (binds := [(Str.ofString "figures", .ref a)]) ‹Frag.In _ _› (Top.nolimit ‹_›) ?k6 ?k7 (by walk_at "MyD") ?k9 ?kB ?kD ?_ ?c2 ?c3 ?c4
  case k6 => k_is
  case k7 => k_is
  case k9 => first | exact BindsTo.of_eq rfl | exact binds_K (by k_in) rfl (by k_is) rfl rfl rfl
  case kB => exact rfl
  case kD => decide +kernel
  case c2 => exact rfl
  case c3 => exact rfl
  case c4 => exact rfl
  intro L' h₁ tk₁ cells' F N Y'
  k_cells Y'
  try simp only [List.cons_append, List.nil_append] at N
  all_goals (try dsimp [bindC, envOfC, Env.kindOf] at d1')
  try dsimp only
  try k_fold
  trace_state
  k_steps
  all_goals (
    rename KBw.bInts _ = _ => hq
    refine ret _ _ _ _ (hq.trans ?_) (Fr.keep (by k_asm))
    simp only [octs, List.cons.injEq, and_true]
    omega)
end Mine

namespace Mine
section
variable {prog : Program} {w : World} {A : Around} {E : Value → Shared → Prop} {s : Shared} {t u : Tok} {Q : Value → Shared → Prop}
theorem trs_plain : plainId "str.translate" = true := by decide +kernel
theorem trs_check (x : Str) (v : Value) : checkBuiltinCall "str.translate" ⟨[.str x t, v], []⟩ = pure () := by kernel_rfl
theorem isSub_KeyLook : isSubtype (.type "KeyError") (.type "LookupError") = pure true := by rw [isSubtype_type]; kernel_rfl
theorem look_miss {d : Addr} {f : Int → Option Value} {c : Nat} {P : Builtin.Str.Mapped → Shared → Prop} (hh : A.handled = none) (hd : (d == sysModules) = false) (hm : s.heap.MapOf (intKind prog w) d f) (hf : f (c : Int) = none)
    (h : ∀ h', (∀ b o, s.heap.get? b = some o → h'.get? b = some o) → P .keep { s with heap := h', toks := s.toks + 1 + 1 }) :
    wpAny (model prog w) A (Builtin.Str.tableLookup (.ref d) c) P E s := by
  unfold Builtin.Str.tableLookup
  refine wpAny_bind (wpAny_attempt (wpAny_bind (wpAny_mkInt ?_)))
  refine wpAny_getItem_missing_of (knd := intKind prog w) (k := (c : Int)) (by simp [intKind, Value.isInt]) hd hh hm hf fun h' e hn => ?_
  obtain ⟨ob, tt, ho, hc, _⟩ := hn.there
  try dsimp only
  refine wpAny_bind (wpAny_isInstance (T := "KeyError") (b := true) ⟨ob, ho, hc⟩ isSub_KeyLook ?_)
  rw [if_pos rfl]
  exact wpAny_bind (wpAny_rule (wpAny_pure (h h' hn.keeps)))
theorem look_hit {d : Addr} {f : Int → Option Value} {c : Nat} {x : Str} {P : Builtin.Str.Mapped → Shared → Prop} (hm : s.heap.MapOf (intKind prog w) d f) (hf : f (c : Int) = some (.str x u))
    (h : P (.text x) { s with toks := s.toks + 1 + 1 }) :
    wpAny (model prog w) A (Builtin.Str.tableLookup (.ref d) c) P E s := by
  unfold Builtin.Str.tableLookup
  refine wpAny_bind (wpAny_attempt (wpAny_bind (wpAny_mkInt ?_)))
  refine wpAny_getItem_of (knd := intKind prog w) (k := (c : Int)) (by simp [intKind, Value.isInt]) hm hf ?_
  try dsimp only
  refine wpAny_bind (wpAny_of_eq (a := none) rfl ?_)
  try dsimp only
  refine wpAny_bind (wpAny_of_eq (a := some x) rfl ?_)
  exact wpAny_pure h
theorem tl0 : Builtin.Str.tooLong 0 = false := by decide +kernel
theorem tl2 : Builtin.Str.tooLong (0 + 2) = false := by decide +kernel
theorem tl1 : Builtin.Str.tooLong (0 + 1) = false := by decide +kernel
theorem trs_run_miss {d : Addr} {f : Int → Option Value} {c : Nat} {P : PySem.Fin → Shared → Prop} (hc : c < 128) (hh : A.handled = none) (hd : (d == sysModules) = false) (hm : s.heap.MapOf (intKind prog w) d f) (hf : f (c : Int) = none)
    (h : ∀ t' h' k, s.toks ≤ t' → (∀ b o, s.heap.get? b = some o → h'.get? b = some o) → P (.done (.ret (.str ⟨#[c]⟩ t'))) { s with heap := h', toks := k }) :
    wpAny (model prog w) A (Builtin.«str.translate» ⟨[.str ⟨#[c]⟩ t, .ref d], []⟩) P E s := by
  unfold Builtin.«str.translate»
  refine wpAny_bind (wpAny_of_eq (a := (Value.str ⟨#[c]⟩ t, ⟨#[c]⟩, Value.ref d)) (by rfl) ?_)
  try dsimp only
  rw [if_neg (by show ¬ (((1 : Nat) == 0) = true); decide)]
  have ha : (#[c].all (fun a => decide (a < 128)) 0 [c].length) = true := by simp [hc]
  simp only [List.size_toArray, ← Array.forIn_toList, List.forIn_cons, List.forIn_nil, tl0, ha, Bool.false_eq_true, if_false, if_true, List.lookup_nil]
  refine wpAny_bind (wpAny_bind (wpAny_bind (look_miss hh hd hm hf fun h' hk => ?_)))
  try dsimp only
  refine wpAny_bind (wpAny_pure ?_)
  try dsimp only
  refine wpAny_pure ?_
  try dsimp only
  refine wpAny_pure ?_
  try dsimp only
  rw [tl1, if_neg Bool.false_ne_true]
  unfold retStr
  refine wpAny_bind (wpAny_mkStr ?_ (by show (1 : Nat) ≤ _; rw [sizeLine_eq]; decide))
  exact wpAny_pure (h _ _ _ (by dsimp only; omega) hk)
theorem trs_run_hit {d : Addr} {f : Int → Option Value} {c e : Nat} {P : PySem.Fin → Shared → Prop} (hc : c < 128) (hm : s.heap.MapOf (intKind prog w) d f) (hf : f (c : Int) = some (.str ⟨#[92, e]⟩ u))
    (h : ∀ t' k, s.toks ≤ t' → P (.done (.ret (.str ⟨#[92, e]⟩ t'))) { s with toks := k }) :
    wpAny (model prog w) A (Builtin.«str.translate» ⟨[.str ⟨#[c]⟩ t, .ref d], []⟩) P E s := by
  unfold Builtin.«str.translate»
  refine wpAny_bind (wpAny_of_eq (a := (Value.str ⟨#[c]⟩ t, ⟨#[c]⟩, Value.ref d)) (by rfl) ?_)
  try dsimp only
  rw [if_neg (by show ¬ (((1 : Nat) == 0) = true); decide)]
  have ha : (#[c].all (fun a => decide (a < 128)) 0 [c].length) = true := by simp [hc]
  simp only [List.size_toArray, ← Array.forIn_toList, List.forIn_cons, List.forIn_nil, tl0, ha, Bool.false_eq_true, if_false, if_true, List.lookup_nil]
  refine wpAny_bind (wpAny_bind (wpAny_bind (look_hit hm hf ?_)))
  have e2 : ((⟨#[92, e]⟩ : Str).length == 1) = false := rfl
  try dsimp only
  simp only [e2, Bool.false_and, Bool.false_eq_true, if_false]
  try dsimp only
  refine wpAny_bind (wpAny_pure ?_)
  try dsimp only
  refine wpAny_bind (wpAny_rule ?_)
  refine wpAny_bind (look_hit hm hf ?_)
  try dsimp only
  refine wpAny_pure ?_
  try dsimp only
  refine wpAny_pure ?_
  try dsimp only
  rw [show Builtin.Str.tooLong (0 + (⟨#[92, e]⟩ : Str).length) = false from tl2, if_neg Bool.false_ne_true]
  unfold retStr
  refine wpAny_bind (wpAny_mkStr ?_ (by show (2 : Nat) ≤ _; rw [sizeLine_eq]; decide))
  exact wpAny_pure (h _ _ (by dsimp only; omega))
theorem trs_call_miss {d : Addr} {f : Int → Option Value} {c : Nat} (hc : c < 128) (hh : A.handled = none) (hd : (d == sysModules) = false) (hm : s.heap.MapOf (intKind prog w) d f) (hf : f (c : Int) = none)
    (h : ∀ t' h' k, s.toks ≤ t' → (∀ b o, s.heap.get? b = some o → h'.get? b = some o) → Q (.str ⟨#[c]⟩ t') { s with heap := h', toks := k }) :
    wpAny (model prog w) A (call (.builtin "str.translate") [.str ⟨#[c]⟩ t, .ref d]) Q E s :=
  call_checked trs_plain F.entry_str_translate (trs_check _ _) (trs_run_miss hc hh hd hm hf fun t' h' k hq hk => ⟨_, rfl, h t' h' k hq hk⟩)
theorem trs_call_hit {d : Addr} {f : Int → Option Value} {c e : Nat} (hc : c < 128) (hm : s.heap.MapOf (intKind prog w) d f) (hf : f (c : Int) = some (.str ⟨#[92, e]⟩ u))
    (h : ∀ t' k, s.toks ≤ t' → Q (.str ⟨#[92, e]⟩ t') { s with toks := k }) :
    wpAny (model prog w) A (call (.builtin "str.translate") [.str ⟨#[c]⟩ t, .ref d]) Q E s :=
  call_checked trs_plain F.entry_str_translate (trs_check _ _) (trs_run_hit hc hm hf fun t' k hq => ⟨_, rfl, h t' k hq⟩)
theorem mapOf_of {h : Heap} {d : Addr} {es : Array DictEntry} {n : Nat} (e : h.get? d = some { cls := .type "dict", data := .dict es n })
    (hk : (es.all fun e => match e.key with | .int k _ => e.hash == hashInt k | _ => false) = true) : h.MapOf (intKind prog w) d (fun k => findBy Value.isInt es k) := by
  refine ⟨_, es, n, e, ⟨rfl, rfl, rfl⟩, rfl, fun x hx => ?_, fun k => rfl⟩
  rw [Array.all_eq_true] at hk
  obtain ⟨i, hi, rfl⟩ := Array.mem_iff_getElem.mp hx
  have := hk i hi
  split at this
  · rename_i k t hkey
    exact ⟨k, by show Value.isInt k _ = true; rw [hkey]; simp [Value.isInt], by show es[i].hash = hashInt k; exact eq_of_beq this⟩
  · cases this
end
end Mine

namespace Mine
def Stop (p : Prop) : Prop := p
theorem Stop.out {p : Prop} (h : Stop p) : p := h
def TL (_ : Nat) : Prop := True
theorem gentoks {α : Type} {M : Model} {A : Around} {t : Sem α} {Q : α → Shared → Prop} {E : Value → Shared → Prop} {s : Shared} {n : Nat} (_ : TL n) (hn : n ≤ s.toks) (h : ∀ k, n ≤ k → wpAny M A t Q E { s with toks := k }) : wpAny M A t Q E s := h s.toks hn
section
variable {prog : Program} {w : World} {A : Around} {E : Value → Shared → Prop} {s : Shared} {env : Env} {h₀ : Heap} {L : Addr} {Q : Flow → Shared → Prop}
def WEnd {σ : Type} (h₀ : Heap) (L : Addr) (s : Shared) (Led : σ → List (Addr × Obj)) (ps : σ → List (Str × Value)) (P : σ → Prop) (μ : σ → Nat) (n : Nat) (s₂ : Shared) : Prop :=
  ∃ (c' : σ) (h' : Heap) (tk : Nat) (m' : Str → Option Value) (news' : List (Addr × Obj)), s₂ = { s with heap := h', toks := tk } ∧ Fr h₀ L h' m' ∧ News h₀ L h' news' ∧ (∀ p ∈ Led c', p ∈ news') ∧ (∀ p ∈ ps c', m' p.1 = some p.2) ∧ P c' ∧ μ c' < n
def WPost {σ : Type} (h₀ : Heap) (L : Addr) (s : Shared) (Led : σ → List (Addr × Obj)) (ps : σ → List (Str × Value)) (P : σ → Prop) (μ : σ → Nat) (n : Nat) (Q : Flow → Shared → Prop) (f : Flow) (s₂ : Shared) : Prop :=
  match f with
  | .ret v => Q (.ret v) s₂
  | .brk => Q .next s₂
  | _ => WEnd h₀ L s Led ps P μ n s₂
theorem WEnd.intro {σ : Type} {Led : σ → List (Addr × Obj)} {ps : σ → List (Str × Value)} {P : σ → Prop} {μ : σ → Nat} {n : Nat} {h' : Heap} {tk : Nat} {m' : Str → Option Value} {news' : List (Addr × Obj)} (c' : σ)
    (F : Fr h₀ L h' m') (N : News h₀ L h' news') (hl : ∀ p ∈ Led c', p ∈ news') (hk : ∀ p ∈ ps c', m' p.1 = some p.2) (hp : P c') (hm : μ c' < n) :
    WEnd h₀ L s Led ps P μ n { s with heap := h', toks := tk } := ⟨c', h', tk, m', news', rfl, F, N, hl, hk, hp, hm⟩
theorem while_inv {σ : Type} {test : PySem.Expr} {body : List Stmt} {pos : Pos} {m₀ : Str → Option Value} (Led : σ → List (Addr × Obj)) (ps : σ → List (Str × Value)) (P : σ → Prop) (μ : σ → Nat) (c₀ : σ)
    (F : Fr h₀ L s.heap m₀) (N : News h₀ L s.heap (Led c₀)) (hk : ∀ p ∈ ps c₀, m₀ p.1 = some p.2) (hp : P c₀)
    {n₀ : Nat} (hn₀ : n₀ ≤ s.toks)
    (turn : ∀ (c : σ) (u : Str → Option Value) h tk, n₀ ≤ tk → P c → Fr h₀ L h (kstB u (ps c)) → News h₀ L h (Led c) →
      wpAny (model prog w) A (isTrue test env (eval test env)) (fun b s₂ =>
        if b = true then wpAny (model prog w) A (execs body env) (WPost h₀ L s Led ps P μ (μ c) Q) E s₂ else Q .next s₂) E { s with heap := h, toks := tk })
    (hE : PassesOwn (model prog w) A env E := by passes_own) :
    wpAny (model prog w) A (exec (.While test body [] pos) env) Q E s := by
  have key : ∀ (fl : Flow) (s₃ : Shared) (n : Nat), WPost h₀ L s Led ps P μ n Q fl s₃ → n₀ ≤ s₃.toks → (match fl with
      | .next | .cont => ∃ k, k < n ∧ ∃ (c : σ) (h₁ : Heap) (tk₁ : Nat) (m₁ : Str → Option Value), s₃ = { s with heap := h₁, toks := tk₁ } ∧ n₀ ≤ tk₁ ∧ Fr h₀ L h₁ m₁ ∧ News h₀ L h₁ (Led c) ∧ μ c = k ∧ (∀ p ∈ ps c, m₁ p.1 = some p.2) ∧ P c
      | .brk => Q .next s₃
      | .ret v => Q (.ret v) s₃) := by
    intro fl s₃ n q hn
    cases fl with
    | ret v => exact q
    | brk => exact q
    | next =>
      obtain ⟨c', h', tk', m', news', rfl, F', N', hl, hk9, hp9, hm9⟩ := q
      exact ⟨μ c', hm9, c', h', tk', m', rfl, hn, F', fun p hp => N' p (hl p hp), rfl, hk9, hp9⟩
    | cont =>
      obtain ⟨c', h', tk', m', news', rfl, F', N', hl, hk9, hp9, hm9⟩ := q
      exact ⟨μ c', hm9, c', h', tk', m', rfl, hn, F', fun p hp => N' p (hl p hp), rfl, hk9, hp9⟩
  refine wpAny_While (codeAny_whileLoop (fun n s' => ∃ (c : σ) (h₁ : Heap) (tk₁ : Nat) (m₁ : Str → Option Value), s' = { s with heap := h₁, toks := tk₁ } ∧ n₀ ≤ tk₁ ∧ Fr h₀ L h₁ m₁ ∧ News h₀ L h₁ (Led c) ∧ μ c = n ∧ (∀ p ∈ ps c, m₁ p.1 = some p.2) ∧ P c) ?_ (μ c₀) ⟨c₀, s.heap, s.toks, m₀, rfl, hn₀, F, N, rfl, hk, hp⟩)
  rintro n s' ⟨c, h, tk, m₁, rfl, hn, F₁, N₁, rfl, h1, hp'⟩
  have F₂ : Fr h₀ L h (kstB m₁ (ps c)) := by rw [show kstB m₁ (ps c) = m₁ from funext fun y => kstB_eq h1 fun _ => rfl]; exact F₁
  refine wpAny_mono (wpAny_toks_of (n := n₀) hn (turn c m₁ h tk hn hp' F₂ N₁)) (fun b s₂ p => ?_) fun e s' x => hE _ _ x.2
  obtain ⟨hn₂, p⟩ := p
  cases b with
  | false =>
    simp only [Bool.false_eq_true, if_false] at p ⊢
    exact wpAny_execs_nil p
  | true =>
    simp only [if_true] at p ⊢
    refine wpAny_mono (wpAny_toks_of (n := n₀) hn₂ p) (fun f s₃ q => ?_) fun e s' x => hE _ _ x.2
    have := key f s₃ _ q.2 q.1
    cases f <;> exact this
end
end Mine

namespace Mine
noncomputable def apObj (D : Addr) : Obj := { cls := .type "builtin_function_or_method", data := .fields #[.builtin "list.append", .ref D] }
theorem md_slot : Slot "method_descriptor" "__get__" "method_descriptor.__get__" :=
  .of (owner := "method_descriptor") (n := "__get__") (by rw [typeLookup_type, builtinLookup_eq_fast]; kernel_rfl) (by decide +kernel) (by decide +kernel) (by decide +kernel)
    (by first | exact .inl (by decide +kernel) | exact .inr (by decide +kernel)) (by rw [isSubtype_type]; kernel_rfl)
theorem md_entry : entryFor table "method_descriptor.__get__" = some Builtin.«method_descriptor.__get__» := entryFor_of_tree (by kernel_rfl)
theorem md_args (a b c : Value) : argsOk "method_descriptor.__get__" ⟨[a, b, c], []⟩ := by unfold argsOk; kernel_rfl
theorem md_noset : typeLookup (.type "method_descriptor") "__set__" = pure none := by rw [typeLookup_type, builtinLookup_eq_fast]; kernel_rfl
theorem md_nodel : typeLookup (.type "method_descriptor") "__delete__" = pure none := by rw [typeLookup_type, builtinLookup_eq_fast]; kernel_rfl
theorem ap_owner : (kfb_private% "ownerAndName") "list.append" = ("list", "append") := by first | decide +kernel | kernel_rfl
theorem ap_sub : isSubtype (.type "list") (.type "list") = pure true := by rw [isSubtype_type]; kernel_rfl
theorem ap_told : Manifest.toldItsClass.contains "list.append" = false := by decide +kernel
section
variable {prog : Program} {w : World} {A : Around} {E : Value → Shared → Prop} {s : Shared} {D : Addr} {o : Obj}
theorem ap_run {P : PySem.Fin → Shared → Prop} (hx : s.heap.get? D = some o) (hc : o.cls = .type "list") (h : P (.done (.ret (.ref s.heap.objs.size))) { s with heap := s.heap.push (apObj D) }) :
    wpAny (model prog w) A (Builtin.«method_descriptor.__get__» ⟨[.builtin "list.append", .ref D, .type "list"], []⟩) P E s := by
  have hT : s.TypeIs (.ref D) "list" := ⟨_, hx, hc⟩
  unfold Builtin.«method_descriptor.__get__»
  refine wpAny_bind (wpAny_of_eq (a := (.builtin "list.append", some (.ref D), some (.type "list"))) (by first | rfl | kernel_rfl) ?_)
  dsimp only
  rw [ap_told, if_neg Bool.false_ne_true]
  refine wpAny_bind (m := (kfb_private% "checkInstance") (.builtin "list.append") (.ref D)) ?_
  show wpAny _ _ ((kfb_private% "nameAndClass") _ >>= _) _ _ _
  refine wpAny_bind (wpAny_of_eq (a := (Str.ofString "append", Value.type "list")) (by show (match (kfb_private% "ownerAndName") "list.append" with | (owner, name) => (pure ((name : Str), Value.type owner) : Sem (Str × Value))) = _; rw [ap_owner]) ?_)
  refine wpAny_bind (wpAny_isInstance hT ap_sub ?_)
  rw [if_neg (by decide)]
  refine wpAny_pure ?_
  exact wpAny_bind (wpAny_newObj_type (wpAny_pure h))
theorem ap_entry {xs : Array Value} {n tk : Nat} {P : PySem.Fin → Shared → Prop} (hx : s.heap.get? D = some (W.listOf xs n)) (h : ∀ k, P (.done (.ret (.ref s.heap.objs.size))) { s with heap := s.heap.push (apObj D), toks := k }) :
    wpAny (model prog w) A (Builtin.«object.__getattribute__» ⟨[.ref D, .str (Str.ofString "append") tk], []⟩) P E s := by
  have hT : s.TypeIs (.ref D) "list" := ⟨_, hx, rfl⟩
  have f4 := F.slot_list_append.lookup
  have f5 := F.type_list_append
  have f6 := md_slot.lookup
  have f7 := md_noset
  have f8 := md_nodel
  obtain ⟨hp, g, d, tk', os⟩ := s
  unfold Builtin.«object.__getattribute__»
  repeat (any_goals (first | assumption | wp_step))
  have hT5 : (⟨hp, g, d, tk', os⟩ : Shared).TypeIs (.builtin "list.append") "method_descriptor" := F.type_list_append
  refine codeAny_call_builtin md_slot.plain md_entry (md_slot.check _ _ _ _ _ _ _ _ hT5 (md_args _ _ _) ?_)
  refine ap_run hx rfl ?_
  exact wpAny_pure (h _)
theorem ap_entryL : entryFor table "list.__getattribute__" = some Builtin.«object.__getattribute__» :=
  entryFor_alias (id' := "object.__getattribute__") (by kernel_rfl) (by decide +kernel) (by decide +kernel) (by kernel_rfl)
theorem ap_get {xs : Array Value} {n : Nat} {Q : Value → Shared → Prop} (hx : s.heap.get? D = some (W.listOf xs n)) (h : ∀ k, Q (.ref s.heap.objs.size) { s with heap := s.heap.push (apObj D), toks := k }) :
    wpAny (model prog w) A (getAttr (.ref D) (Str.ofString "append") true) Q E s := by
  have f2 := F.slot_list_getattribute.lookup
  have f3 := F.slot_list_getattribute.bind (.ref D)
  have f5 := am_list_getattr_none
  obtain ⟨hp, g, d, tk', os⟩ := s
  have hT : ∀ tk', (⟨hp, g, d, tk', os⟩ : Shared).TypeIs (.ref D) "list" := fun _ => ⟨_, hx, rfl⟩
  unfold getAttr getAttrBy
  repeat (any_goals (first | assumption | exact hT _ | wp_step))
  refine codeAny_call_builtin F.slot_list_getattribute.plain ap_entryL (F.slot_list_getattribute.check _ _ _ _ _ _ _ _ (hT _) (F.args_list_getattribute_2 _ _) (ap_entry hx fun k => ?_))
  exact wpAny_pure (h _)
theorem ap_getN {h₀ : Heap} {L : Addr} {m : Str → Option Value} {news : List (Addr × Obj)} {xs : Array Value} {n : Nat} {Q : Value → Shared → Prop} (F : Fr h₀ L s.heap m) (N : News h₀ L s.heap news) (hm : (D, W.listOf xs n) ∈ news)
    (h : ∀ a h' k, s.toks ≤ k → Fr h₀ L h' m → News h₀ L h' ((a, apObj D) :: news) → (∀ p ∈ news, p.1 < a) → Q (.ref a) { s with heap := h', toks := k }) :
    wpAny (model prog w) A (getAttr (.ref D) (Str.ofString "append") true) Q E s :=
  wpAny_mono (wpAny_toks (ap_get (Q := fun v s' => s.toks ≤ s'.toks → Q v s') (E := E) (N.get hm) fun k hk => h _ _ k hk (F.push _) (News.push F N _) fun p hp => Heap.lt_size (N p hp).1)) (fun _ _ x => x.2 x.1) fun _ _ x => x.2
def ApP (a D : Addr) (h : Heap) : Prop := h.get? a = some (apObj D)
theorem keeps_A {M : Model} {a D : Addr} (h : Heap) (X : ApP a D h) : ∃ k, (k = Keeper.frame ∨ k = Keeper.machine ∨ k = Keeper.boundFrame) ∧ Looks M h (keeperOf (.ref a)) k :=
  ⟨.machine, .inr (.inl rfl), (Looks.ld (part := none) X).andThen .now⟩
theorem callWith_A {M : Model} {h₀ : Heap} {L : Addr} {news : List (Addr × Obj)} {a : Addr} {first : List Value} {pos : Pos} {env : Env} {e : PySem.Expr} {rest : List PySem.Expr} {Q : Value → Shared → Prop} (_N : News h₀ L s.heap news) (_q : (a, apObj D) ∈ news)
    (h : wpAny M A (spliced (backTo pos (starEach (e :: rest) env))) (fun vs s₁ => ApP a D s₁.heap ∧ wpAny M A (call (.ref a) (first ++ vs)) Q E s₁) E s)
    (he : starEach (e :: rest) env = (false, eval e env) :: starEach rest env := by rfl) (hplain : (backTo pos (starEach rest env)).any (·.1) = false := by rfl) :
    wpAny M A (callWith pos (.ref a) first (backTo pos (starEach (e :: rest) env)) []) Q E s := by
  rw [he] at h ⊢
  exact callWith_of (by show ((false || (backTo pos (starEach rest env)).any (·.1)) || false) = false; rw [hplain]; rfl) keeps_A (evalArgs_plain h)
theorem apP_of {h₀ : Heap} {L : Addr} {h : Heap} {news : List (Addr × Obj)} {a : Addr} (N : News h₀ L h news) (hq : (a, apObj D) ∈ news) : ApP a D h := (N _ hq).1
theorem ap_sig : Manifest.signature? "list.append" = some ⟨.oneArg, "list.append", "append", .self, [⟨"object", .posOnly, true⟩]⟩ := by kernel_rfl
theorem ap_kind : builtinKind "list.append" = some .method := by first | decide +kernel | kernel_rfl
theorem ap_mod : isSubtype (.type "list") (.type "module") = pure false := by rw [isSubtype_type]; kernel_rfl
theorem ap_var : Manifest.varargsMethods.contains "list.append" = false := by decide +kernel
theorem ap_bind (v : Value) : Bind.checkArgs "list.append" ⟨.oneArg, s!"{Bind.lastOf "list"}.{Bind.lastOf "list.append"}", "append", .self, [⟨"object", .posOnly, true⟩]⟩ ⟨[.ref D, v], []⟩ = pure () := by first | kernel_rfl | rfl
theorem ap_check {M : Model} {its : Array Value} {n : Nat} {x : Value} {P : Unit → Shared → Prop} (hx : s.heap.get? D = some (W.listOf its n)) (h : P () s) : wpAny M A (checkBoundCall "list.append" ⟨[.ref D, x], []⟩) P E s := by
  have hT : s.TypeIs (.ref D) "list" := ⟨_, hx, rfl⟩
  unfold checkBoundCall
  rw [ap_sig, ap_kind]
  dsimp only
  rw [if_neg (by decide)]
  refine wpAny_bind (wpAny_isInstance hT ap_mod ?_)
  rw [ap_var, if_neg (by decide)]
  have hty : ∀ {P' : Bool → Shared → Prop}, P' false s → wpAny M A (isType (.ref D)) P' E s := fun hp => wpAny_bind (wpAny_load hx (wpAny_pure hp))
  refine wpAny_bind (hty ?_)
  rw [if_neg (by decide)]
  refine wpAny_bind (wpAny_typeOf hT ?_)
  dsimp only
  exact wpAny_of_eq (ap_bind x) h
theorem ap_quiet {as : Args} : (Code.builtin "list.append" as).quiet = true := Code.quiet_builtin _ (by decide +kernel)
theorem ap_call {h₀ : Heap} {L a : Addr} {m : Str → Option Value} {news news' : List (Addr × Obj)} {its : Array Value} {n : Nat} {x : Value} {Q : Value → Shared → Prop} (F : Fr h₀ L s.heap m) (N : News h₀ L s.heap news) (hm : (a, apObj D) ∈ news)
    (U : Upd D (W.listOf its n) (W.listOf (its.push x) (n + 1)) news news')
    (h : ∀ h', Fr h₀ L h' m → News h₀ L h' news' → Q .none { s with heap := h' }) (hsz : its.size ≤ sizeLine) : wpAny (model prog w) A (call (.ref a) [x]) Q E s := by
  refine wpAny_call (codeAny_of_tree ?_)
  show wpAny _ A.in1 (callAny (.ref a) ⟨[x], []⟩) _ _ s
  simp only [callAny]
  refine wpAny_bind (wpAny_load (N.get hm) ?_)
  simp only [apObj, show (Value.type "builtin_function_or_method" == Value.type "method" || Value.type "builtin_function_or_method" == Value.type "builtin_function_or_method" || Value.type "builtin_function_or_method" == Value.type "method-wrapper") = true by decide, if_true]
  refine KFB.if_so (by decide) ?_
  obtain ⟨pre, post, rfl, rfl, a', b⟩ := U.split
  have z := N (D, W.listOf its n) (List.mem_append.mpr (.inr (.head _)))
  refine wpAny_bind (ap_check z.1 ?_)
  refine wpAny_bind (wpAny_pure (wpAny_pure ?_))
  refine ⟨ap_quiet, codeAny_builtin PySem.F.entry_list_append ?_⟩
  show wpAny _ _ (updateSeq D (·.push x) >>= fun _ => ret .none) _ _ s
  refine wpAny_bind ?_
  refine wpAny_updateSeq z.1 rfl (wpAny_pure ?_)
  refine h _ (F.change (Heap.SameBut.update ..) z.2.1 z.2.2) (news_set N a' b (Heap.SameBut.update ..) ?_)
  rw [Heap.get?_update_self _ z.1 (by rw [mapSeq_push]; rfl), mapSeq_push]
end
end Mine

namespace Mine
theorem d158 {w : World} {h : Heap} (z : Challenge.rw_kt0015_01.row.prog = Challenge.rw_kt0015_01.row.prog) (X : (kmk.heap_1 w.params).In h) : ∃ f : Int → Option Value, h.MapOf (intKind Challenge.rw_kt0015_01.row.prog w) 158 f ∧
    (∀ c : Nat, c = 34 ∨ c = 65 ∨ c = 66 ∨ c = 50 ∨ c = 53 ∨ c = 55 ∨ c = 48 ∨ c = 111 ∨ c = 107 → f (c : Int) = none) ∧ ∃ u, f 32 = some (.str ⟨#[92, 32]⟩ u) := by
  revert z X; k_fill; intro z X
  have e := X 158 _ (by k_is)
  refine ⟨_, mapOf_of e (by decide +kernel), ?_, ⟨606, by decide +kernel⟩⟩
  intro c hc
  rcases hc with rfl | rfl | rfl | rfl | rfl | rfl | rfl | rfl | rfl <;> decide +kernel
/-- what escape makes of one sign -/
noncomputable def escL (c : Nat) : List Nat := if c = 32 then [92, 32] else [c]
def Pl (c : Nat) : Prop := c = 34 ∨ c = 65 ∨ c = 66 ∨ c = 50 ∨ c = 53 ∨ c = 55 ∨ c = 48 ∨ c = 111 ∨ c = 107
theorem escT {w : World} {A : Around} {E : Value → Shared → Prop} {s : Shared} {t : Tok} {Q : Value → Shared → Prop} {c : Nat} (hh : A.handled = none) (X : (kmk.heap_1 w.params).In s.heap) (hc : Pl c ∨ c = 32)
    (h : ∀ t' h' k, s.toks ≤ t' → (∀ b o, s.heap.get? b = some o → h'.get? b = some o) → Q (.str ⟨(escL c).toArray⟩ t') { s with heap := h', toks := k }) :
    wpAny (model Challenge.rw_kt0015_01.row.prog w) A (call (.builtin "str.translate") [.str ⟨#[c]⟩ t, .ref 158]) Q E s := by
  obtain ⟨f, hm, hf, u, hf2⟩ := d158 rfl X
  rcases hc with hc | rfl
  · refine trs_call_miss ?_ hh (by decide) hm (hf c hc) fun t' h' k hq hk => ?_
    · rcases hc with rfl | rfl | rfl | rfl | rfl | rfl | rfl | rfl | rfl <;> decide
    · have e : escL c = [c] := by
        unfold escL
        rw [if_neg]
        rintro rfl
        rcases hc with hc | hc | hc | hc | hc | hc | hc | hc | hc <;> cases hc
      rw [e] at h
      exact h t' h' k hq hk
  · exact trs_call_hit (by decide) hm hf2 fun t' k hq => h t' s.heap k hq fun _ _ e => e

theorem lines_C7_1 : True := by
  k_with_none
  k_with "MyEnter" => (
    w_on
    refine wpAny_call ?_
    refine' enterP ‹Frag.In _ _› (Top.nolimit ‹_›) ?k6 ?k7 (by walk_at "MyD") ?k9 ?kB ?_ ?c2 ?c3 ?c4 ?c5
    (case k6 => k_is)
    (case k7 => k_is)
    (case k9 => first | exact BindsTo.of_eq rfl | exact binds_K (by k_in) rfl (by k_is) rfl rfl rfl)
    (case kB => exact locs rfl)
    (case c5 => decide)
    (case c2 => exact rfl)
    (case c3 => exact rfl)
    (case c4 => exact rfl)
    intro _ _ _
    try dsimp only
    try k_fold)
  k_with "MyRoom" => (first | assumption | ((try dsimp only [Ar, Around.deeper, Around.in1, Around.mark] at *); omega))
  k_with "call type:type" => ((with_reducible show wpAny _ _ (call _ [Value.bytes _ _]) _ _ _); refine call_type_of (Tx := "bytes") rfl (by decide +kernel) ?_)
  k_with "MyX" => (first | assumption | exact Frag.In.keeps (by assumption) (Fr.keep (by k_asm)))
  k_with "MyT" => (first | assumption | exact Top.keeps (by assumption) (Fr.keep (by k_asm)))
  k_with "MyD" => (first | assumption | ((try dsimp only [Ar, Around.deeper, Around.in1, Around.mark] at *); omega))
  k_with "execs cons" => ((with_reducible show wpAny _ _ _ _ _ (Shared.mk _ _ _ (_ + _) _)); refine' gentoks ‹TL _› ?hn ?_; (case hn => (dsimp only; omega)); intro _ _; (try dsimp only))
  k_with "getMethod str" => ((with_reducible refine trs_method ?_))
  k_with "call builtin:str.translate" => ((try dsimp only [List.nil_append, List.cons_append]); k_dflt (refine escT rfl (by walk_at "MyX") (by assumption) ?_; intro t' h' k' hq hk; (have F' := Fr.keeps (by k_asm) hk); (have N' := News.grown (by k_asm) hk)); (try k_sweep); (try dsimp only); (try k_fold))
  trivial

theorem esc_c {w : World} {loose : List Str} {mean : ExcName → Option Value} {mg mb : Str → Option Value} {dp un : Nat} {fr : Option (List Env)} {gd : Option (List Code)} {s : Shared} {Q : Value → Shared → Prop} {E : Value → Shared → Prop}
    (T : Top topProg loose mean mg mb s.heap) (hD : dp + 1 < recursionLimit) (hu : un + 20 < cLine) {c : Nat} {t : Tok} (hc : Pl c ∨ c = 32)
    (ret : ∀ h' tk t', s.toks ≤ t' → Kp s.heap h' → Q (.str ⟨(escL c).toArray⟩ t') { s with heap := h', toks := tk }) (X : (kmk.heap_1 w.params).In s.heap) :
    wpAny (model Challenge.rw_kt0015_01.row.prog w) (Ar dp un fr gd) (call (.ref 168) [.str ⟨#[c]⟩ t]) Q E s := by
  revert X; k_fill; intro X
  have tl : TL s.toks := trivial
  w_on
  refine wpAny_call ?_
  refine' enterP ‹Frag.In _ _› (Top.nolimit ‹_›) ?k6 ?k7 (by walk_at "MyD") ?k9 ?kB ?_ ?c2 ?c3 ?c4 ?c5
  case k6 => k_is
  case k7 => k_is
  case k9 => first | exact BindsTo.of_eq rfl | exact binds_K (by k_in) rfl (by k_is) rfl rfl rfl
  case kB => exact locs rfl
  case c5 => decide
  case c2 => exact rfl
  case c3 => exact rfl
  case c4 => exact rfl
  intro h₁ F N
  try dsimp only
  try k_fold
  k_steps
  all_goals exact ret _ _ _ (by dsimp only at *; omega) (Fr.keep (by k_asm))
end Mine

namespace Mine
open PySem.Builtin PySem.Builtin.Str
section
variable {prog : Program} {w : World} {A : Around} {E : Value → Shared → Prop} {s : Shared} {t u : Tok} {Q : Value → Shared → Prop} {p : List Nat} {value slice : PySem.Expr}
theorem len_t (hl : p.length < 1000000) (h : Q (.int (p.length : Int) (s.toks + 1)) { s with toks := s.toks + 1 + 1 }) : wpAny (model prog w) A (call (.builtin "len") [.str ⟨p.toArray⟩ t]) Q E s :=
  PyProof.Rows.len_str (by show ¬ (((p.toArray.size : Nat) : Int) ≥ 2 ^ 63); simp; omega) (by simpa [Str.length] using h)
theorem txt_item {i : Int} (h0 : 0 ≤ i) (h1 : i < (p.length : Int)) : Txt.item ⟨p.toArray⟩ i = ⟨#[p.getD i.toNat 0]⟩ := by
  unfold Txt.item Txt.charAt
  have e : seqIndex? i (⟨p.toArray⟩ : Str).length = some i.toNat := by
    unfold seqIndex?
    have e2 : (⟨p.toArray⟩ : Str).length = p.length := by simp [Str.length]
    rw [e2]
    have hn : ¬ (i < 0) := by omega
    simp only [hn, if_false]
    rw [if_pos]
    simp; omega
  rw [e]
  simp
theorem item_t {i : Int} (h0 : 0 ≤ i) (h1 : i < (p.length : Int)) (hl : p.length < 1000000) (h : ∀ c, c = p.getD i.toNat 0 → Q (.str ⟨#[c]⟩ s.toks) { s with toks := s.toks + 1 })
    (hs : subscripted slice false (.str ⟨p.toArray⟩ t) (.int i u) = operate [.str ⟨p.toArray⟩ t, .int i u] (getItem (.str ⟨p.toArray⟩ t) (.int i u)) := by with_unfolding_all rfl)
    (ht : ∀ r, letTemporaryGo value (.str ⟨p.toArray⟩ t) r = pure () := by intro _; with_unfolding_all rfl) :
    wpAny (model prog w) A (subscriptTail value slice (.str ⟨p.toArray⟩ t) (.int i u)) Q E s := by
  have e2 : ((⟨p.toArray⟩ : Str).length : Int) = p.length := by simp [Str.length]
  refine item_str (fitsSsize_of (N := 9223372036854775808) (by omega) (by omega) (Int.le_refl _)) (by omega) (by omega) (fun _ => ?_) hs ht
  rw [txt_item h0 h1]
  exact h _ rfl
theorem clip_eq {n : Nat} {i : Int} (h0 : 0 ≤ i) : max 0 (min i (n : Int)) = ((min i.toNat n : Nat) : Int) := by omega
theorem txt_slice {i j : Int} (h0 : 0 ≤ i) (h1 : i ≤ j) : Txt.slice ⟨p.toArray⟩ (some i) (some j) = ⟨((p.drop i.toNat).take (j - i).toNat).toArray⟩ := by
  have e2 : (⟨p.toArray⟩ : Str).length = p.length := by simp [Str.length]
  have e3 : strSliceIndices (some i) (some j) 1 (⟨p.toArray⟩ : Str).length = (List.range (min j.toNat p.length - min i.toNat p.length)).map (min i.toNat p.length + ·) := by
    unfold strSliceIndices
    rw [e2]
    have hi : ¬ (i < 0) := by omega
    have hj : ¬ (j < 0) := by omega
    simp only [show (1 : Int) > 0 by decide, if_true, hi, hj, if_false]
    rw [clip_eq h0, clip_eq (by omega), sliceRange_one]
  have e4 : (List.filterMap (fun x => (⟨p.toArray⟩ : Str).cps[x]?) (strSliceIndices (some i) (some j) 1 (⟨p.toArray⟩ : Str).length)) = (p.drop i.toNat).take (j - i).toNat := by
    rw [e3, pick_run]
    show (p.drop (min i.toNat p.length)).take _ = _
    by_cases hh : i.toNat ≤ p.length
    · rw [Nat.min_eq_left hh]
      by_cases hk : j.toNat ≤ p.length
      · rw [Nat.min_eq_left hk]; congr 1; omega
      · rw [Nat.min_eq_right (by omega)]
        rw [List.take_of_length_le (by simp), List.take_of_length_le (by simp; omega)]
    · simp [List.drop_of_length_le (show p.length ≤ i.toNat by omega), Nat.min_eq_right (show p.length ≤ i.toNat by omega)]
  unfold Txt.slice
  rw [e4]
  split
  · rename_i hc
    have hc' : (strSliceIndices (some i) (some j) 1 (⟨p.toArray⟩ : Str).length).length = (⟨p.toArray⟩ : Str).length := by simpa using hc
    rw [e3, e2] at hc'
    simp at hc'
    have : (p.drop i.toNat).take (j - i).toNat = p := by
      by_cases hp : p = []
      · subst hp; simp
      · have hpos : 0 < p.length := List.length_pos_iff.mpr hp
        have hi0 : i.toNat = 0 := by omega
        rw [hi0, List.drop_zero, List.take_of_length_le (by omega)]
    rw [this]
  · rfl
theorem eq1_ne {c d : Nat} {x : Str} (hx : x = ⟨#[d]⟩) (hc : c ≠ d) (h : Q (.bool false) s) : wpAny (model prog w) A (compareOp .Eq (.str ⟨#[c]⟩ t) (.str x u)) Q E s := by
  subst hx
  refine PyProof.Rows.eq_str ?_
  rw [show ((⟨#[c]⟩ : Str) == ⟨#[d]⟩) = false from beq_eq_false_iff_ne.mpr fun e => hc (by injection e with e; simpa using e)]
  exact h
theorem eq1_eq {c : Nat} {x : Str} (hx : x = ⟨#[c]⟩) (h : Q (.bool true) s) : wpAny (model prog w) A (compareOp .Eq (.str ⟨#[c]⟩ t) (.str x u)) Q E s := by
  subst hx
  refine PyProof.Rows.eq_str ?_
  rw [show ((⟨#[c]⟩ : Str) == ⟨#[c]⟩) = true from beq_self_eq_true _]
  exact h
theorem isSame_str {x y : Str} {t u : Tok} : isSame (.str x t) (.str y u) = isSame.created (x == y) t u := rfl
theorem isnot_same {M : Model} {x : Str} (ht : (0 : Nat) < t) (h : Q (.bool false) s) : wpAny M A (compareOp .IsNot (.str x t) (.str x t)) Q E s := by
  show wpAny _ _ (isSame (.str x t) (.str x t) >>= fun b => pure (Value.bool (!b))) _ _ _
  refine wpAny_bind (wpAny_of_eq (a := true) ?_ (wpAny_pure h))
  have h0 : ¬ t = 0 := Nat.ne_of_gt ht
  rw [isSame_str, beq_self_eq_true]; simp [isSame.created, h0]
theorem isnot_ne {M : Model} {x y : Str} (hxy : x ≠ y) (ht : @LT.lt Nat instLTNat u t) (hu : (0 : Nat) < u) (h : Q (.bool true) s) : wpAny M A (compareOp .IsNot (.str x t) (.str y u)) Q E s := by
  show wpAny _ _ (isSame (.str x t) (.str y u) >>= fun b => pure (Value.bool (!b))) _ _ _
  refine wpAny_bind (wpAny_of_eq (a := false) ?_ (wpAny_pure h))
  have h0 : ¬ t = 0 := Nat.ne_of_gt (Nat.lt_trans hu ht)
  have h1 : ¬ u = 0 := Nat.ne_of_gt hu
  have h2 : ¬ t = u := Nat.ne_of_gt ht
  rw [isSame_str, beq_eq_false_iff_ne.mpr hxy]; simp [isSame.created, h0, h1, h2]
theorem truthy_nil {D : Addr} {xs : Array Value} {Q : Bool → Shared → Prop} (hl : s.heap.IsList D xs) (hz : xs.size < 1000000) (h : ∀ k, Q (!xs.isEmpty) { s with toks := k }) : wpAny (model prog w) A (truthy (.ref D)) Q E s :=
  wpAny_truthy_list hl (by omega) (h _)
theorem truthy_snoc {D : Addr} {vi : List Value} {v : Value} {Q : Bool → Shared → Prop} (hl : s.heap.IsList D (vi ++ [v]).toArray) (hz : vi.length < 1000000) (h : Q true { s with toks := s.toks + 1 + 1 }) : wpAny (model prog w) A (truthy (.ref D)) Q E s :=
  wpAny_truthy_list hl (by simp; omega) (by rw [show (!(vi ++ [v]).toArray.isEmpty) = true by cases vi <;> rfl]; exact h)
theorem truthy_emp {D : Addr} {Q : Bool → Shared → Prop} (hl : s.heap.IsList D ([] : List Value).toArray) (h : Q false { s with toks := s.toks + 1 + 1 }) : wpAny (model prog w) A (truthy (.ref D)) Q E s :=
  wpAny_truthy_list hl (by simp) (by simpa using h)
theorem slice_t {h₀ : Heap} {L : Addr} {m : Str → Option Value} {news : List (Addr × Obj)} {i j : Int} {ui uj : Tok} (F : Fr h₀ L s.heap m) (N : News h₀ L s.heap news) (h0 : 0 ≤ i) (h1 : i ≤ j) (hl : p.length < 1000000)
    (h : ∀ h' t' k, Fr h₀ L h' m → News h₀ L h' news → Q (.str ⟨((p.drop i.toNat).take (j - i).toNat).toArray⟩ t') { s with heap := h', toks := k })
    (hs : subscripted slice false (.str ⟨p.toArray⟩ t) (.ref s.heap.objs.size) = operate [.ref s.heap.objs.size, .str ⟨p.toArray⟩ t] (getItem (.str ⟨p.toArray⟩ t) (.ref s.heap.objs.size)) := by with_unfolding_all rfl)
    (ht : ∀ r, letTemporaryGo value (.str ⟨p.toArray⟩ t) r = pure () := by intro _; with_unfolding_all rfl) :
    wpAny (model prog w) A (subscriptTail value slice (.str ⟨p.toArray⟩ t) (.ref s.heap.objs.size)) Q E { s with heap := s.heap.push { cls := .type "slice", data := .fields #[.int i ui, .int j uj, .none] } } :=
  slice_strN_ss F N (fun h' t' k F' N' => by rw [txt_slice h0 h1]; exact h h' t' k F' N') hs ht (by show p.toArray.size ≤ _; rw [sizeLine_eq]; simp; omega)
end
end Mine

namespace Mine
noncomputable def trStep (acc : List (List Nat)) (c : Nat) : List (List Nat) := if c = 42 then (if acc.getLast? = some [42] then acc else acc ++ [[42]]) else acc ++ [escL c]
noncomputable def parts (p : List Nat) : List (List Nat) := p.foldl trStep []
def PR (u : Tok) (v : Value) (d : List Nat) : Prop := ∃ t, v = .str ⟨d.toArray⟩ t ∧ ((d = [42] ∧ t = u) ∨ (d ≠ [42] ∧ @LT.lt Nat instLTNat u t))
theorem parts_snoc (p : List Nat) (c : Nat) : parts (p ++ [c]) = trStep (parts p) c := by simp [parts, List.foldl_append]
theorem Are.nil_inv {α : Type} {R : Value → α → Prop} {ds : List α} (h : Are R [] ds) : ds = [] := by cases h; rfl
theorem star_app {u : Tok} {vs : List Value} {ds : List (List Nat)} (h : Are (PR u) vs ds) (hn : ds.getLast? ≠ some [42]) : Are (PR u) (vs ++ [.str ⟨#[42]⟩ u]) (trStep ds 42) := by
  unfold trStep
  rw [if_pos rfl, if_neg hn]
  exact h.snoc ⟨u, rfl, .inl ⟨rfl, rfl⟩⟩
theorem star_keep {u : Tok} {vs : List Value} {ds : List (List Nat)} (h : Are (PR u) vs (ds ++ [[42]])) : Are (PR u) vs (trStep (ds ++ [[42]]) 42) := by
  unfold trStep
  rw [if_pos rfl, if_pos (by simp)]
  exact h
theorem escL_ne {c : Nat} (h : c ≠ 42) : escL c ≠ [42] := by
  unfold escL
  split
  · simp
  · simpa using h
theorem Pl.ne {c : Nat} (h : Pl c ∨ c = 32) : c ≠ 42 ∧ c ≠ 63 ∧ c ≠ 91 := by
  rcases h with (h | h | h | h | h | h | h | h | h) | h <;> subst h <;> decide
theorem sign_app {u t : Tok} {c : Nat} {vs : List Value} {ds : List (List Nat)} (h : Are (PR u) vs ds) (hc : Pl c ∨ c = 32) (ht : @LT.lt Nat instLTNat u t) : Are (PR u) (vs ++ [.str ⟨(escL c).toArray⟩ t]) (trStep ds c) := by
  unfold trStep
  rw [if_neg (Pl.ne hc).1]
  exact h.snoc ⟨t, rfl, .inr ⟨escL_ne (Pl.ne hc).1, ht⟩⟩

theorem lines_C8_1 : True := by
  k_with_none
  k_with "MyEnter" => (
    w_on
    refine wpAny_call ?_
    refine' enterP ‹Frag.In _ _› (Top.nolimit ‹_›) ?k6 ?k7 (by walk_at "MyD") ?k9 ?kB ?_ ?c2 ?c3 ?c4 ?c5
    (case k6 => k_is)
    (case k7 => k_is)
    (case k9 => first | exact BindsTo.of_eq rfl | exact binds_K (by k_in) rfl (by k_is) rfl rfl rfl)
    (case kB => exact locs rfl)
    (case c5 => decide)
    (case c2 => exact rfl)
    (case c3 => exact rfl)
    (case c4 => exact rfl)
    intro _ _ _
    try dsimp only
    try k_fold)
  k_with "MyRoom" => (first | assumption | ((try dsimp only [Ar, Around.deeper, Around.in1, Around.mark] at *); omega))
  k_with "call type:type" => ((with_reducible show wpAny _ _ (call _ [Value.bytes _ _]) _ _ _); refine call_type_of (Tx := "bytes") rfl (by decide +kernel) ?_)
  k_with "MyX" => (first | assumption | exact Frag.In.keeps (by assumption) (Fr.keep (by k_asm)))
  k_with "MyT" => (first | assumption | exact Top.keeps (by assumption) (Fr.keep (by k_asm)))
  k_with "MyD" => (first | assumption | ((try dsimp only [Ar, Around.deeper, Around.in1, Around.mark] at *); omega))
  k_with "MyAll" => (repeat' (first | exact List.forall_mem_nil _ | refine List.forall_mem_cons.mpr ⟨by first | rfl | (k_dflt k_asm), ?_⟩))
  k_with "MySz" => (rw [sizeLine_eq]; (try simp only [List.size_toArray, Array.size_push, List.length_append, List.length_cons, List.length_nil] at *); omega)
  k_with "getAttr ref" => (k_dflt (refine' ap_getN ?kF ?kN ?kM ?_; (case kF => k_asm); (case kN => k_asm); (case kM => k_mem); intro A _ _ hq _ _ hDA; (try dsimp only at hq); (try k_lt hDA)); (try k_sweep); (try dsimp only); (try k_fold))
  k_with "callWith ref" => (k_dflt (refine' callWith_A ?kN ?kM ?_; (case kN => k_asm); (case kM => k_mem); k_whole))
  k_with "And" => ((with_reducible show ApP _ _ _ ∧ _); k_dflt (refine ⟨apP_of (by k_asm) (by k_mem), ?_⟩); (try dsimp only [List.nil_append, List.cons_append]))
  k_with "call ref" => (k_dflt (refine' ap_call ?k1 ?k2 ?k3 ?k4 ?_ ?k5; (case k1 => k_asm); (case k2 => k_asm); (case k3 => k_mem); (case k4 => k_upd); (case k5 => walk_at "MySz"); intro _ _ _); (try k_sweep))
  k_with "exec While Compare cons nil" => (refine Stop.out ?_)
  k_with "subscriptTail Name Name str int" => (refine Stop.out ?_)
  k_with "call builtin:len" => (with_reducible refine len_t (by omega) ?_)
  k_with "compareOp Eq str str" => (k_dflt (first | refine eq1_eq (by rfl) ?_ | refine eq1_ne (by rfl) (by assumption) ?_))
  k_with "truthy ref" => (k_dflt (first | refine truthy_snoc (News.isList (by k_asm) (by k_mem)) (by walk_at "MyLe") ?_ | refine truthy_emp (News.isList (by k_asm) (by k_mem)) ?_))
  k_with "subscriptTail Name UnaryOp ref int" => (k_dflt (refine item_last (News.isList (by k_asm) (by k_mem)) ?_))
  k_with "compareOp IsNot str str" => (k_dflt (first | refine isnot_same (by assumption) ?_ | refine isnot_ne (by assumption) (by assumption) (by assumption) ?_))
  k_with "MyLe" => ((try simp only [List.length_append, List.length_cons, List.length_nil] at *); omega)
  k_with "execs cons" => ((with_reducible show wpAny _ _ _ _ _ (Shared.mk _ _ _ (_ + _) _)); refine' gentoks ‹TL _› ?hn ?_; (case hn => (dsimp only; omega)); intro _ _; (try dsimp only))
  k_with "call ref" => (
    (k_dflt (
      (refine' esc_c ?T ?D ?U ?p0 ?_ ?X);
      (case T => walk_at "MyT");
      (case D => walk_at "MyD");
      (case U => walk_at "MyD");
      (case X => walk_at "MyX");
      (case p0 => assumption);
      (intro _ _ _ _ _; (have _ := Fr.keeps (by k_asm) ‹Kp _ _›); (have _ := News.grown (by k_asm) ‹Kp _ _›))))
    (try k_sweep); (try dsimp only); (try k_fold))
  trivial

theorem trl_c {w : World} {loose : List Str} {mean : ExcName → Option Value} {mg mb : Str → Option Value} {dp un : Nat} {fr : Option (List Env)} {gd : Option (List Code)} {s : Shared} {Q : Value → Shared → Prop} {E : Value → Shared → Prop}
    (T : Top topProg loose mean mg mb s.heap) (hD : dp + 3 < recursionLimit) (hu : un + 60 < cLine) {p : List Nat} {t u u2 : Tok} (hp : ∀ c ∈ p, c = 42 ∨ Pl c ∨ c = 32) (hl : p.length ≤ 20) (hu0 : (0 : Nat) < u) (hu1 : @LT.lt Nat instLTNat u s.toks)
    (ret : ∀ a vs n h' tk, Kp s.heap h' → s.heap.get? a = none → h'.get? a = some (W.listOf vs.toArray n) → Are (PR u) vs (parts p) → Q (.ref a) { s with heap := h', toks := tk }) (X : (kmk.heap_1 w.params).In s.heap) :
    wpAny (model Challenge.rw_kt0015_01.row.prog w) (Ar dp un fr gd) (call (.ref 175) [.str ⟨p.toArray⟩ t, .str ⟨#[42]⟩ u, .str ⟨#[63]⟩ u2]) Q E s := by
  revert X; k_fill; intro X
  have tl : TL s.toks := trivial
  w_on
  refine wpAny_call ?_
  refine' enterP (binds := [(Str.ofString "pat", .str ⟨p.toArray⟩ t), (Str.ofString "STAR", .str ⟨#[42]⟩ u), (Str.ofString "QUESTION_MARK", .str ⟨#[63]⟩ u2)]) ‹Frag.In _ _› (Top.nolimit ‹_›) ?k6 ?k7 (by walk_at "MyD") ?k9 ?kB ?_ ?c2 ?c3 ?c4 ?c5
  case k6 => k_is
  case k7 => k_is
  case k9 => first | exact BindsTo.of_eq rfl | exact binds_K (by k_in) rfl (by k_is) rfl rfl rfl
  case kB => exact locs rfl
  case c5 => decide
  case c2 => exact rfl
  case c3 => exact rfl
  case c4 => exact rfl
  intro h₁ F N
  try dsimp only
  try k_fold
  k_steps
  unfold Stop
  rename Fr _ _ _ _ => F0
  rename News _ _ _ _ => N0
  rename_i D _ _ _ _ _ _ _ _ _ _ _ _ _ _ _ _ _ htk
  refine while_inv (σ := Nat × List Value × Nat × Tok × Tok) (fun c => [(A, apObj D), (D, W.listOf c.2.1.toArray c.2.2.1)])
    (fun c => [(Str.ofString "pat", .str ⟨p.toArray⟩ t), (Str.ofString "STAR", .str ⟨#[42]⟩ u), (Str.ofString "QUESTION_MARK", .str ⟨#[63]⟩ u2), (Str.ofString "res", .ref D), (Str.ofString "add", .ref A), (Str.ofString "i", .int (c.1 : Int) c.2.2.2.1), (Str.ofString "n", .int (p.length : Int) c.2.2.2.2)])
    (fun c => c.1 ≤ p.length ∧ c.2.1.length ≤ c.1 ∧ Are (PR u) c.2.1 (parts (p.take c.1))) (fun c => p.length - c.1) (0, [], 0, _, _) F0 (fun p hp => N0 p (List.mem_cons_of_mem _ hp)) (by walk_at "MyAll") ⟨Nat.zero_le _, Nat.zero_le _, .nil⟩ htk ?_
  clear F0 N0
  rintro ⟨k, vs, cap, ti, tn⟩ uu h' tk' hq ⟨hk, hlen, hA⟩ F' N'
  dsimp only at hk hlen hA F' N'
  k_steps
  · unfold Stop
    refine item_t (by omega) (by omega) (by omega) ?_
    intro c hc
    have hcm : c ∈ p := by
      have hkl : k < p.length := by omega
      rw [hc, List.getD_eq_getElem?_getD, Int.toNat_natCast, List.getElem?_eq_getElem hkl]; exact List.getElem_mem hkl
    have htk : p.take (k + 1) = p.take k ++ [c] := by
      have hkl : k < p.length := by omega
      rw [List.take_add_one, hc, List.getD_eq_getElem?_getD, Int.toNat_natCast, List.getElem?_eq_getElem hkl]; rfl
    rcases hp c hcm with rfl | hcp
    · rcases List.eq_nil_or_concat vs with rfl | ⟨vi, v, rfl⟩
      · k_steps
        all_goals (refine WEnd.intro (k + 1, [] ++ [.str ⟨#[42]⟩ u], cap + 1, _, tn) (by k_asm) (by k_asm) (fun q hq => by simpa [List.push_toArray] using hq) (by walk_at "MyAll") ⟨by omega, by simp, ?_⟩ (by dsimp only; omega))
        all_goals (rw [htk, parts_snoc]; exact star_app hA (by rw [Are.nil_inv hA]; simp))
      · simp only [List.concat_eq_append] at *
        obtain ⟨di, d, hd, hA1, td, rfl, hv⟩ := Are.snoc_inv hA
        rcases hv with ⟨rfl, htu⟩ | ⟨hne, hlt⟩
        · have htu' : u = td := htu.symm
          subst htu'
          k_steps
          all_goals (refine WEnd.intro (k + 1, vi ++ [.str ⟨#[42]⟩ u], cap, _, tn) (by k_asm) (by k_asm) (fun q hq => hq) (by walk_at "MyAll") ⟨by omega, by dsimp only; omega, ?_⟩ (by dsimp only; omega))
          all_goals (rw [htk, parts_snoc, hd]; exact star_keep (hd ▸ hA))
        · have hne' : (⟨d.toArray⟩ : Str) ≠ ⟨#[42]⟩ := fun e => hne (by injection e with e; simpa using congrArg Array.toList e)
          k_steps
          all_goals (refine WEnd.intro (k + 1, (vi ++ [.str ⟨d.toArray⟩ td]) ++ [.str ⟨#[42]⟩ u], cap + 1, _, tn) (by k_asm) (by k_asm) (fun q hq => by simpa [List.push_toArray] using hq) (by walk_at "MyAll") ⟨by omega, by simp at hlen ⊢; omega, ?_⟩ (by dsimp only; omega))
          all_goals (rw [htk, parts_snoc]; exact star_app hA (by rw [hd]; simpa using hne))
    · obtain ⟨h1, h2, h3⟩ := Pl.ne hcp
      k_steps
      all_goals (refine WEnd.intro (k + 1, vs ++ [_], cap + 1, _, tn) (by k_asm) (by k_asm) (fun q hq => by simpa [List.push_toArray] using hq) (by walk_at "MyAll") ⟨by omega, by simp; omega, ?_⟩ (by dsimp only; omega))
      all_goals (rw [htk, parts_snoc]; refine sign_app hA hcp ?_; dsimp only at *; omega)
  · have hkk : k = p.length := by omega
    rw [hkk, List.take_length] at hA
    have z := N' (D, W.listOf vs.toArray cap) (by simp)
    exact ret D vs cap _ _ (Fr.keep F') z.2.2 z.1 hA
end Mine

namespace Mine
open PySem.Builtin PySem.Builtin.Str
section
variable {prog : Program} {w : World} {A : Around} {E : Value → Shared → Prop} {s : Shared} {t u : Tok} {Q : Value → Shared → Prop} {p q : List Nat} {value slice : PySem.Expr}
theorem str_inj : ((⟨p.toArray⟩ : Str) == ⟨q.toArray⟩) = decide (p = q) := by
  by_cases h : p = q
  · subst h; simp
  · rw [decide_eq_false h, beq_eq_false_iff_ne]
    intro e; injection e with e; exact h (by simpa using congrArg Array.toList e)
theorem eq_tt {x : Str} (hx : x = ⟨q.toArray⟩) (h : Q (.bool (decide (p = q))) s) : wpAny (model prog w) A (compareOp .Eq (.str ⟨p.toArray⟩ t) (.str x u)) Q E s := by
  subst hx
  refine PyProof.Rows.eq_str ?_
  rw [str_inj]; exact h
theorem eqt_eq {x : Str} (hx : x = ⟨p.toArray⟩) (h : Q (.bool true) s) : wpAny (model prog w) A (compareOp .Eq (.str ⟨p.toArray⟩ t) (.str x u)) Q E s :=
  eq_tt hx (by simpa using h)
theorem eqt_ne {x : Str} (hx : x = ⟨q.toArray⟩) (hc : p ≠ q) (h : Q (.bool false) s) : wpAny (model prog w) A (compareOp .Eq (.str ⟨p.toArray⟩ t) (.str x u)) Q E s :=
  eq_tt hx (by simpa [hc] using h)
theorem last_t (h0 : p ≠ []) (hl : p.length < 1000000) (h : Q (.str ⟨#[p.getLastD 0]⟩ s.toks) { s with toks := s.toks + 1 })
    (hs : subscripted slice false (.str ⟨p.toArray⟩ t) (.int (-1) u) = operate [.str ⟨p.toArray⟩ t, .int (-1) u] (getItem (.str ⟨p.toArray⟩ t) (.int (-1) u)) := by with_unfolding_all rfl)
    (ht : ∀ r, letTemporaryGo value (.str ⟨p.toArray⟩ t) r = pure () := by intro _; with_unfolding_all rfl) :
    wpAny (model prog w) A (subscriptTail value slice (.str ⟨p.toArray⟩ t) (.int (-1) u)) Q E s := by
  have e2 : (⟨p.toArray⟩ : Str).length = p.length := by simp [Str.length]
  have hp : 0 < p.length := List.length_pos_iff.mpr h0
  refine item_str (by decide) (by omega) (by omega) (fun _ => ?_) hs ht
  have e : Txt.item ⟨p.toArray⟩ (-1) = ⟨#[p.getLastD 0]⟩ := by
    unfold Txt.item Txt.charAt
    have e3 : seqIndex? (-1) (⟨p.toArray⟩ : Str).length = some (p.length - 1) := by
      unfold seqIndex?
      rw [e2]
      have hn : (-1 : Int) < 0 := by decide
      simp only [hn, if_true]
      rw [if_pos (by simp; omega)]
      congr 1; omega
    rw [e3]
    have e4 : p[p.length - 1]? = some (p.getLastD 0) := by
      rw [← List.getLast?_eq_getElem?, List.getLastD_eq_getLast?]
      cases hx : p.getLast? with
      | none => exact absurd (List.getLast?_eq_none_iff.mp hx) h0
      | some y => rfl
    simp [e4]
  rw [e]; exact h
end
/-- the reach behind one part -/
noncomputable def stepT (q : List Nat) (R : List Nat) (d : List Nat) : List Nat :=
  if d = [42] then (match R with | [] => [] | j :: _ => (List.range (q.length + 1 - j)).map (· + j)) else (R.filter fun j => decide ((q.drop j).take 1 = [d.getLastD 0])).map (· + 1)
noncomputable def takesB (ds : List (List Nat)) (q : List Nat) : Bool := decide (q.length ∈ ds.foldl (stepT q) [0])
end Mine

namespace Mine
theorem int_at {ws : List Value} {R : List Nat} (h : IntsAre ws (R.map Int.ofNat)) {i : Nat} {v : Value} (e : ws.toArray[i]? = some v) : ∃ j t, R[i]? = some j ∧ v = .int (j : Int) t := by
  obtain ⟨d, hd, t, rfl⟩ := (Are.ints h).get (by simpa using e)
  rw [List.getElem?_map] at hd
  cases hr : R[i]? with
  | none => rw [hr] at hd; cases hd
  | some j => rw [hr] at hd; cases hd; exact ⟨j, t, rfl, rfl⟩
theorem filt_true {R : List Nat} {f : Nat → Bool} {i j : Nat} (hj : R[i]? = some j) (hf : f j = true) : ((R.take (i + 1)).filter f).map (· + 1) = ((R.take i).filter f).map (· + 1) ++ [j + 1] := by
  rw [List.take_add_one, hj]; simp [hf]
theorem filt_false {R : List Nat} {f : Nat → Bool} {i j : Nat} (hj : R[i]? = some j) (hf : f j = false) : ((R.take (i + 1)).filter f).map (· + 1) = ((R.take i).filter f).map (· + 1) := by
  rw [List.take_add_one, hj]; simp [hf]
theorem ints_snoc {ys : List Value} {R : List Nat} {j : Nat} {t : Tok} (h : IntsAre ys (R.map Int.ofNat)) : IntsAre (ys ++ [.int ((j : Int) + 1) t]) ((R ++ [j + 1]).map Int.ofNat) := by
  rw [List.map_append]
  exact Are.toInts ((Are.ints h).append (.cons ⟨t, rfl⟩ .nil))
theorem range_eq {us : List Value} {n j : Nat} (h : IntsAre us (rangeKs (j : Int) ((n : Int) + 1 - (j : Int)).toNat)) : IntsAre us (((List.range (n + 1 - j)).map (· + j)).map Int.ofNat) := by
  have e1 : ((n : Int) + 1 - (j : Int)).toNat = n + 1 - j := by omega
  rw [e1] at h
  have e2 : rangeKs (j : Int) (n + 1 - j) = ((List.range (n + 1 - j)).map (· + j)).map Int.ofNat := by
    unfold rangeKs
    rw [List.map_map]
    apply List.map_congr_left
    intro i _
    simp; omega
  rw [e2] at h; exact h
theorem any_eq (R : List Nat) (n : Nat) : ((R.map Int.ofNat).any fun x => x == (n : Int)) = decide (n ∈ R) := by
  induction R with
  | nil => rfl
  | cons a r ih =>
    rw [List.map_cons, List.any_cons, ih]
    by_cases h : n = a
    · subst h; simp
    · have h1 : (Int.ofNat a == (n : Int)) = false := beq_eq_false_iff_ne.mpr (by simp; omega)
      rw [h1, Bool.false_or]; simp [h]
section
variable {prog : Program} {w : World} {A : Around} {E : Value → Shared → Prop} {s : Shared} {Q : Value → Shared → Prop} {a b : Addr} {ws : List Value}
theorem ne_nil_f (ha : s.heap.IsList a ([] : List Value).toArray) (hb : s.heap.IsList b ([] : List Value).toArray) (hu : A.units + 64 < cLine) (h : Q (.bool false) s) : wpAny (model prog w) A (compareOp .NotEq (.ref a) (.ref b)) Q E s :=
  ke_ne_ints ha hb .nil .nil hu (by simpa using h)
theorem ne_nil_t {j : Int} {R : List Int} {v : Value} (ha : s.heap.IsList a (v :: ws).toArray) (hi : IntsAre (v :: ws) (j :: R)) (hb : s.heap.IsList b ([] : List Value).toArray) (hu : A.units + 64 < cLine) (h : Q (.bool true) s) : wpAny (model prog w) A (compareOp .NotEq (.ref a) (.ref b)) Q E s :=
  ke_ne_ints ha hb hi .nil hu (by simpa using h)
end
def TX (v : Value) (d : List Nat) : Prop := ∃ t, v = .str ⟨d.toArray⟩ t

theorem lines_C9_1 : True := by
  k_with_none
  k_with "MyEnter" => (
    w_on
    refine wpAny_call ?_
    refine' enterP ‹Frag.In _ _› (Top.nolimit ‹_›) ?k6 ?k7 (by walk_at "MyD") ?k9 ?kB ?_ ?c2 ?c3 ?c4 ?c5
    (case k6 => k_is)
    (case k7 => k_is)
    (case k9 => first | exact BindsTo.of_eq rfl | exact binds_K (by k_in) rfl (by k_is) rfl rfl rfl)
    (case kB => exact locs rfl)
    (case c5 => decide)
    (case c2 => exact rfl)
    (case c3 => exact rfl)
    (case c4 => exact rfl)
    intro _ _ _
    try dsimp only
    try k_fold)
  k_with "MyRoom" => (first | assumption | ((try dsimp only [Ar, Around.deeper, Around.in1, Around.mark] at *); omega))
  k_with "call type:type" => ((with_reducible show wpAny _ _ (call _ [Value.bytes _ _]) _ _ _); refine call_type_of (Tx := "bytes") rfl (by decide +kernel) ?_)
  k_with "MyX" => (first | assumption | exact Frag.In.keeps (by assumption) (Fr.keep (by k_asm)))
  k_with "MyT" => (first | assumption | exact Top.keeps (by assumption) (Fr.keep (by k_asm)))
  k_with "MyD" => (first | assumption | ((try dsimp only [Ar, Around.deeper, Around.in1, Around.mark] at *); omega))
  k_with "MyAll" => (repeat' (first | exact List.forall_mem_nil _ | refine List.forall_mem_cons.mpr ⟨by first | rfl | (k_dflt k_asm), ?_⟩))
  k_with "execs cons" => ((with_reducible show wpAny _ _ _ _ _ (Shared.mk _ _ _ (_ + _) _)); refine' gentoks ‹TL _› ?hn ?_; (case hn => (dsimp only; omega)); intro _ _; (try dsimp only))
  k_with "exec For Name Name cons nil" => (refine Stop.out ?_)
  k_with "pyIter ref" => ((with_reducible show wpAny _ _ (pyIter (Value.ref _)) (fun it s₂ => TurnsAt _ _ _ _ _ _ _ _ _ it s₂) _ _); refine Stop.out ?_)
  k_with "exec Assign cons ListComp" => (k_dflt (refine LCt.Assign_ListComp_T (F₀ := by k_asm) (by rfl) (by with_unfolding_all rfl) (by with_unfolding_all rfl) (by decide) (by rfl) (by decide) (by rfl) (by rfl) (by rfl) ?_))
  k_with "assign Name" => (refine Stop.out ?_)
  k_with "subscriptTail Name Slice str ref" => (k_dflt (refine' slice_t ?kF ?kN ?k0 ?k1 ?kl ?_; (case kF => k_asm); (case kN => k_asm); (case k0 => omega); (case k1 => omega); (case kl => omega); intro _ _ _ _ _); (try k_sweep))
  k_with "subscriptTail Name UnaryOp str int" => (k_dflt (refine last_t (by assumption) (by omega) ?_))
  k_with "compareOp NotEq ref ref" => (k_dflt (first | (refine ne_nil_f (News.isList (by k_asm) (by k_mem)) (News.isList (by k_asm) (by k_mem)) (by walk_at "MyD") ?_) | (refine ne_nil_t (News.isList (by k_asm) (by k_mem)) (by assumption) (News.isList (by k_asm) (by k_mem)) (by walk_at "MyD") ?_)))
  k_with "call builtin:len" => (with_reducible refine len_t (by omega) ?_)
  k_with "MyN" => (first | omega | (simp; omega))
  k_with "call type:list" => (k_dflt (refine' kll_range rfl ?k1 ?k2 ?k3 ?k4 (rangeSize_nat _ _) ?k6 ?_; (case k1 => k_asm); (case k2 => k_asm); (case k3 => assumption); (case k4 => exact small_one (by walk_at "MyN") (by walk_at "MyN") (by walk_at "MyN") (by walk_at "MyN")); (case k6 => walk_at "MyN"); intro _ _ _ _ _ _ _ l1 hI3; (try k_lt l1)); (try k_sweep))
  k_with "CompSrcT" => (refine Stop.out ?_)
  k_with "CompEnd" => (refine Stop.out ?_)
  k_with "FinA" => (refine Stop.out ?_)
  k_with "UnrPostW" => (refine Stop.out ?_)
  k_with "compareOp Eq str str" => (k_dflt (first | refine eqt_eq (by rfl) ?_ | refine eqt_ne (by rfl) (by assumption) ?_ | refine eq_tt (by rfl) ?_))
  trivial

theorem tak_c {w : World} {loose : List Str} {mean : ExcName → Option Value} {mg mb : Str → Option Value} {dp un : Nat} {fr : Option (List Env)} {gd : Option (List Code)} {s : Shared} {Q : Value → Shared → Prop} {E : Value → Shared → Prop}
    (T : Top topProg loose mean mg mb s.heap) (hD : dp + 2 < recursionLimit) (hu : un + 40 < cLine) {a : Addr} {vs : List Value} {ds : List (List Nat)} {q : List Nat} {t : Tok} (hl : s.heap.IsList a vs.toArray) (hA : Are TX vs ds) (hne : ∀ d ∈ ds, d ≠ []) (hlen2 : ∀ d ∈ ds, d.length ≤ 2) (hq : q.length ≤ 60) (hu64 : un + 200 < cLine)
    (ret : ∀ h' tk, Kp s.heap h' → Q (.bool (takesB ds q)) { s with heap := h', toks := tk }) (X : (kmk.heap_1 w.params).In s.heap) :
    wpAny (model Challenge.rw_kt0015_01.row.prog w) (Ar dp un fr gd) (call (.ref 190) [.ref a, .str ⟨q.toArray⟩ t]) Q E s := by
  revert X; k_fill; intro X
  have tl : TL s.toks := trivial
  w_on
  refine wpAny_call ?_
  refine' enterPC (binds := [(Str.ofString "parts", .ref a), (Str.ofString "text", .str ⟨q.toArray⟩ t)]) ‹Frag.In _ _› (Top.nolimit ‹_›) ?k6 ?k7 (by walk_at "MyD") ?k9 ?kB ?kD ?_ ?c2 ?c3 ?c4
  case k6 => k_is
  case k7 => k_is
  case k9 => first | exact BindsTo.of_eq rfl | exact binds_K (by k_in) rfl (by k_is) rfl rfl rfl
  case kB => exact rfl
  case kD => decide +kernel
  case c2 => exact rfl
  case c3 => exact rfl
  case c4 => exact rfl
  intro L' h₁ tk₁ cells' F N Y'
  k_cells Y'
  try simp only [List.cons_append, List.nil_append] at N
  all_goals (try dsimp [bindC, envOfC, Env.kindOf] at d1')
  try dsimp only
  try k_fold
  k_steps
  unfold Stop
  rename Fr _ _ _ _ => F0
  rename News _ _ _ _ => N0
  rename_i oP0 oT hoP0 hoT D0 _ _ _
  have hoT' : oT.data = .cell (some (.str ⟨q.toArray⟩ t)) := hoT
  clear hoT
  refine For_turns F0 ?_
  k_steps
  unfold Stop
  refine baseTurns rfl (by k_asm) (by k_asm) hl (fun I hI => ?_)
  refine items_inv (σ := Addr × List Nat × List Value × Nat × Obj) (fun c => [(c.1, W.listOf c.2.2.1.toArray c.2.2.2.1), (L' + 1 + 1, c.2.2.2.2), (L' + 1, oT)])
    (fun c => [(Str.ofString "parts", .ref a), (Str.ofString "reach", .ref c.1)])
    (fun r c => ∃ dr v₀, Are TX r dr ∧ dr.foldl (stepT q) c.2.1 = ds.foldl (stepT q) [0] ∧ IntsAre c.2.2.1 (c.2.1.map Int.ofNat) ∧ (∀ j ∈ c.2.1, j ≤ q.length) ∧ c.2.1.length ≤ q.length + 1 ∧ (∀ d ∈ dr, d ≠ []) ∧ (∀ d ∈ dr, d.length ≤ 2) ∧ c.2.2.2.2.data = .cell v₀ ∧ @Ne Nat c.1 (L' + 1) ∧ @Ne Nat c.1 (L' + 1 + 1))
    ?_ ?_ vs _ (D0, [0], [.int 0 _], 0, oP0) ⟨ds, _, hA, rfl, .cons _ _ .nil, by simp, by simp, hne, hlen2, hoP0, by dsimp only; omega, by dsimp only; omega⟩ (by walk_at "MyAll")
  · rintro v r ⟨D, R, ws, cap, oP⟩ uu h' tk' ⟨dr, v₀, hr, hfold, hI', hle, hlen, hne', hd2, hoP', hD1, hD2⟩ F' oI hoI N'
    dsimp only at hI' hle hlen hoP' hD1 hD2 F' N'
    cases hr with
    | cons hv hr' =>
      obtain ⟨tv, rfl⟩ := hv
      rename_i d dr'
      have hIP : I ≠ L' + 1 + 1 := Nat.ne_of_gt (hI (L' + 1 + 1, oP0) (by simp))
      have hIT : I ≠ L' + 1 := Nat.ne_of_gt (hI (L' + 1, oT) (by simp))
      k_steps
      unfold Stop
      refine wpAny_assign_Name (storeX_C F' N' rfl (UpdF.tail hIP (UpdF.tail hD2 (UpdF.head (by simp)))) hoP' (fun h2 oP1 F1 N1 hoP1 => ?_) rfl rfl)
      clear F' N'
      try dsimp only [List.cons_append, List.nil_append] at N1
      try dsimp only
      have hd0 : d ≠ [] := hne' d (by simp)
      have hdl : d.length ≤ 2 := hd2 d (by simp)
      by_cases hd : d = [42]
      · subst hd
        cases R with
        | nil =>
          cases hI'
          k_steps
          unfold Stop
          rename Fr _ _ _ _ => F3
          rename News _ _ _ _ => N3
          rename_i _ _ _ D2 _ hl1 _
          refine UnrEndW.intro F3 N3 [(D2, W.listOf #[] 0), (L' + 1 + 1, oP1), (L' + 1, oT)] ⟨by simp, trivial⟩ ⟨by simp, by simp, by simp, trivial⟩ ⟨⟨.inr (by rw [hoI]; simp), trivial⟩, ⟨.inl (Ne.symm hIP), trivial⟩, ⟨.inl (Ne.symm hIT), trivial⟩, trivial⟩ ⟨trivial, (D2, [], [], 0, oP1), ⟨dr', _, hr', ?_, .nil, by simp, by simp, fun d hd => hne' d (by simp [hd]), fun d hd => hd2 d (by simp [hd]), hoP1, by dsimp only; omega, by dsimp only; omega⟩, by walk_at "MyAll", rfl⟩
          rw [← hfold]; rfl
        | cons j R' =>
          have hI9 := hI'
          cases hI' with
          | cons _ tj hI2 =>
          rename_i ws'
          have hjq := hle j (by simp)
          have e0 : (List.map Int.ofNat (j :: R')).getD (Int.toNat 0) 0 = (j : Int) := rfl
          k_steps
          unfold Stop
          rename Fr _ _ _ _ => F3
          rename News _ _ _ _ => N3
          rename_i D2 us c2 _ _ _
          rw [e0] at hI3
          have hI4 := range_eq hI3
          refine UnrEndW.intro F3 N3 [(D2, W.listOf us.toArray c2), (L' + 1 + 1, oP1), (L' + 1, oT)] ⟨by simp, trivial⟩ ⟨by simp, by simp, by simp, trivial⟩ ⟨⟨.inr (by rw [hoI]; simp), trivial⟩, ⟨.inl (Ne.symm hIP), trivial⟩, ⟨.inl (Ne.symm hIT), trivial⟩, trivial⟩ ⟨trivial, (D2, (List.range (q.length + 1 - j)).map (· + j), us, c2, oP1), ⟨dr', _, hr', ?_, hI4, ?_, ?_, fun d hd => hne' d (by simp [hd]), fun d hd => hd2 d (by simp [hd]), hoP1, by dsimp only; omega, by dsimp only; omega⟩, by walk_at "MyAll", rfl⟩
          · rw [← hfold]; rfl
          · intro x hx
            obtain ⟨i, hi, rfl⟩ := List.mem_map.mp hx
            have := List.mem_range.mp hi
            omega
          · simp only [List.length_map, List.length_range]; omega
      · k_steps
        unfold Stop
        refine LCt.CompSrcT.ledger rfl F1 N1 (ax := D) (its := ws.toArray) (k := cap) (by simp) (by rw [sizeLine_eq]; simp [hI'.length]; omega) ?_
        intro g
        refine compT_inv (fun i ys nw => nw = [(I, oI), (D, W.listOf ws.toArray cap), (L' + 1 + 1, oP1), (L' + 1, oT)] ∧ IntsAre ys ((((R.take i).filter fun j => decide ((q.drop j).take 1 = [d.getLastD 0])).map (· + 1)).map Int.ofNat)) ws.length ?_ ?_ _ 0 [] _ (by simp) ⟨rfl, .nil⟩
        · rintro i ys nw v I' oI' C oC E2 m₂ h2 tk2 E2' hi hP ⟨rfl, hys⟩ hC hx F2 N2 off ne
          obtain ⟨j, tj, hj, rfl⟩ := int_at hI' hP
          have hjR : j ∈ R := List.mem_of_getElem? hj
          have hjq := hle j hjR
          have hjj : ((j : Int) + 1 - (j : Int)).toNat = 1 := by omega
          k_steps
          · rename_i hc
            rw [hjj, Int.toNat_natCast] at hc
            unfold Stop
            refine LCg.CompEnd.intro (by k_asm) (by k_asm) [(I, oI), (D, W.listOf ws.toArray cap), (L' + 1 + 1, oP1), (L' + 1, oT)] (fun p hp => hp) off (.inr ⟨W.listOf ws.toArray cap, by simp, rfl, _, rfl⟩) ⟨rfl, ?_⟩
            rw [filt_true hj (by simpa using hc)]
            exact ints_snoc hys
          · rename_i hc
            rw [hjj, Int.toNat_natCast] at hc
            unfold Stop
            refine LCg.CompEnd.intro (by k_asm) (by k_asm) [(I, oI), (D, W.listOf ws.toArray cap), (L' + 1 + 1, oP1), (L' + 1, oT)] (fun p hp => hp) off (.inr ⟨W.listOf ws.toArray cap, by simp, rfl, _, rfl⟩) ⟨rfl, ?_⟩
            rw [filt_false hj (by simpa using hc)]
            exact hys
        · rintro ys nw ⟨rfl, hys⟩
          intro D2 h3 tk3 F3 N3 o1
          have hRt : R.take ws.length = R := List.take_of_length_le (by have := hI'.length; simp at this; omega)
          rw [hRt] at hys
          k_steps
          unfold Stop
          refine UnrEndW.intro (by k_asm) (by k_asm) [(D2, W.listOf ys.toArray ys.length), (L' + 1 + 1, oP1), (L' + 1, oT)] ⟨by simp, trivial⟩ ⟨by simp, by simp, by simp, trivial⟩ ⟨⟨.inr (by rw [hoI]; simp), trivial⟩, ⟨.inl (Ne.symm hIP), trivial⟩, ⟨.inl (Ne.symm hIT), trivial⟩, trivial⟩ ⟨trivial, (D2, _, ys, ys.length, oP1), ⟨dr', _, hr', ?_, hys, ?_, ?_, fun d hd => hne' d (by simp [hd]), fun d hd => hd2 d (by simp [hd]), hoP1, ?_, ?_⟩, by walk_at "MyAll", rfl⟩
          · rw [← hfold, List.foldl_cons]; congr 1; unfold stepT; rw [if_neg hd]
          · intro j hj
            obtain ⟨j', hj', rfl⟩ := List.mem_map.mp hj
            have h1 := (List.mem_filter.mp hj').2
            have h2 : (q.drop j').take 1 = [d.getLastD 0] := by simpa using h1
            have h3 := congrArg List.length h2
            simp at h3; omega
          · simp only [List.length_map]; exact Nat.le_trans (List.length_filter_le _ _) hlen
          · exact fun e => o1.2.2.2.1 (Eq.symm e)
          · exact fun e => o1.2.2.1 (Eq.symm e)
  · rintro ⟨D, R, ws, cap, oP⟩ uu h' tk' ⟨dr, v₀, hr, hfold, hI', hle, hlen, hne', hd2, hoP', hD1, hD2⟩ F' N'
    dsimp only at hI' hle hlen hoP' hD1 hD2 F' N' hfold
    cases hr
    k_steps
    have e : ((R.map Int.ofNat).any fun x => x == (q.length : Int)) = takesB ds q := by
      rw [any_eq]; unfold takesB; rw [← hfold]; rfl
    show Q (.bool ((R.map Int.ofNat).any fun x => x == (q.length : Int))) _
    rw [e]
    exact ret _ _ (Fr.keep F')
end Mine

namespace Mine
open PySem.Builtin PySem.Builtin.Str
def SgN (k : Nat) : Prop := k = 65 ∨ k = 66 ∨ k = 34 ∨ k = 42
/-- marks doubled -/
noncomputable def dbl (p : List Nat) : List Nat := p.flatMap fun c => if c = 34 then [34, 34] else [c]
theorem rep4_all : ∀ a ∈ [65, 66, 34, 42], ∀ b ∈ [65, 66, 34, 42], ∀ c ∈ [65, 66, 34, 42], ∀ d ∈ [65, 66, 34, 42], Txt.replace ⟨[a, b, c, d].toArray⟩ ⟨#[34]⟩ ⟨#[34, 34]⟩ = ⟨(dbl [a, b, c, d]).toArray⟩ := by decide +kernel
theorem SgN.mem {k : Nat} (h : SgN k) : k ∈ [65, 66, 34, 42] := by rcases h with rfl | rfl | rfl | rfl <;> decide
theorem rep4 {a b c d : Nat} (ha : SgN a) (hb : SgN b) (hc : SgN c) (hd : SgN d) : Txt.replace ⟨[a, b, c, d].toArray⟩ ⟨#[34]⟩ ⟨#[34, 34]⟩ = ⟨(dbl [a, b, c, d]).toArray⟩ := rep4_all a ha.mem b hb.mem c hc.mem d hd.mem
section
variable {prog : Program} {w : World} {A : Around} {E : Value → Shared → Prop} {s : Shared} {t u : Tok} {Q : Value → Shared → Prop} {p q : List Nat}
theorem add_tt (hp : p.length < 1000) (hq : q.length < 1000) {x : Str} (hx : x = ⟨q.toArray⟩) (h1 : 1 ≤ s.toks) (h : ∀ t' k, 1 ≤ k → Q (.str ⟨(p ++ q).toArray⟩ t') { s with toks := k }) :
    wpAny (model prog w) A (binaryOp .Add (.str ⟨p.toArray⟩ t) (.str x u)) Q E s := by
  subst hx
  refine wpAny_with_toks (n := 1) h1 (PyProof.Rows.add_str (fun t' tk hk => ?_) (by show p.toArray.size + q.toArray.size ≤ _; rw [sizeLine_eq]; simp; omega))
  have e : ((⟨p.toArray⟩ : Str) ++ ⟨q.toArray⟩) = ⟨(p ++ q).toArray⟩ := by
    show (⟨p.toArray ++ q.toArray⟩ : Str) = _
    simp
  rw [e]
  exact h t' tk hk
theorem rep_t {a b c d : Nat} (sa : SgN a) (sb : SgN b) (sc : SgN c) (sd : SgN d) {x y : Str} {v : Tok} (hx : x = ⟨#[34]⟩) (hy : y = ⟨#[34, 34]⟩) (hu : u ≠ 0) (hv : v ≠ 0) (huv : u ≠ v) (h1 : 1 ≤ s.toks)
    (h : ∀ t' k, 1 ≤ k → Q (.str ⟨(dbl [a, b, c, d]).toArray⟩ t') { s with toks := k }) : wpAny (model prog w) A (call (.builtin "str.replace") [.str ⟨[a, b, c, d].toArray⟩ t, .str x u, .str y v]) Q E s := by
  subst hx hy
  refine wpAny_with_toks (n := 1) h1 (SC.replace hu hv huv (by decide) (by show (4 : Nat) + (4 + 1) * 2 ≤ _; decide) fun t' k hk => ?_)
  rw [rep4 sa sb sc sd]
  exact h t' k hk
theorem dbl_len {a b c d : Nat} : (dbl [a, b, c, d]).length ≤ 8 := by
  simp only [dbl, List.flatMap_cons, List.flatMap_nil, List.length_append, List.length_nil]
  have : ∀ x : Nat, (if x = 34 then [34, 34] else [x]).length ≤ 2 := fun x => by split <;> simp
  have h1 := this a; have h2 := this b; have h3 := this c; have h4 := this d
  omega
end
end Mine

namespace Mine
theorem lines_C10_1 : True := by
  k_with_none
  k_with "MyEnter" => (
    w_on
    refine wpAny_call ?_
    refine' enterP ‹Frag.In _ _› (Top.nolimit ‹_›) ?k6 ?k7 (by walk_at "MyD") ?k9 ?kB ?_ ?c2 ?c3 ?c4 ?c5
    (case k6 => k_is)
    (case k7 => k_is)
    (case k9 => first | exact BindsTo.of_eq rfl | exact binds_K (by k_in) rfl (by k_is) rfl rfl rfl)
    (case kB => exact locs rfl)
    (case c5 => decide)
    (case c2 => exact rfl)
    (case c3 => exact rfl)
    (case c4 => exact rfl)
    intro _ _ _
    try dsimp only
    try k_fold)
  k_with "MyRoom" => (first | assumption | ((try dsimp only [Ar, Around.deeper, Around.in1, Around.mark] at *); omega))
  k_with "call type:type" => ((with_reducible show wpAny _ _ (call _ [Value.bytes _ _]) _ _ _); refine call_type_of (Tx := "bytes") rfl (by decide +kernel) ?_)
  k_with "MyX" => (first | assumption | exact Frag.In.keeps (by assumption) (Fr.keep (by k_asm)))
  k_with "MyT" => (first | assumption | exact Top.keeps (by assumption) (Fr.keep (by k_asm)))
  k_with "MyD" => (first | assumption | ((try dsimp only [Ar, Around.deeper, Around.in1, Around.mark] at *); omega))
  k_with "MyAll" => (repeat' (first | exact List.forall_mem_nil _ | refine List.forall_mem_cons.mpr ⟨by first | rfl | (k_dflt k_asm), ?_⟩))
  k_with "execs cons" => ((with_reducible show wpAny _ _ _ _ _ (Shared.mk _ _ _ (_ + _) _)); refine' gentoks ‹TL _› ?hn ?_; (case hn => (first | (dsimp only; omega) | (simp only [List.length_cons, List.length_nil]; omega))); intro _ _; (try dsimp only))
  k_with "binaryOp Add str str" => (refine Stop.out ?_)
  k_with "call builtin:str.replace" => (k_dflt (refine' rep_t ?a ?b ?c ?d (by rfl) (by rfl) ?u ?v ?n ?o ?_; (case a => assumption); (case b => assumption); (case c => assumption); (case d => assumption); (case u => (refine Nat.ne_of_gt ?_; dsimp only; omega)); (case v => (refine Nat.ne_of_gt ?_; dsimp only; omega)); (case n => (refine Nat.ne_of_lt ?_; dsimp only; omega)); (case o => (dsimp only; omega)); intro t' k' hq))
  trivial

theorem quo_c {w : World} {loose : List Str} {mean : ExcName → Option Value} {mg mb : Str → Option Value} {dp un : Nat} {fr : Option (List Env)} {gd : Option (List Code)} {s : Shared} {Q : Value → Shared → Prop} {E : Value → Shared → Prop}
    (T : Top topProg loose mean mg mb s.heap) (hD : dp + 2 < recursionLimit) (hu : un + 40 < cLine) {code : List Nat} {a b c d : Nat} {t u : Tok} (sa : SgN a) (sb : SgN b) (sc : SgN c) (sd : SgN d) (hcl : code.length = 3)
    (ret : ∀ h' tk t', Kp s.heap h' → Q (.str ⟨(code ++ [32, 34] ++ dbl [a, b, c, d] ++ [34, 32, 111, 107]).toArray⟩ t') { s with heap := h', toks := tk }) (X : (kmk.heap_1 w.params).In s.heap) :
    wpAny (model Challenge.rw_kt0015_01.row.prog w) (Ar dp un fr gd) (call (.ref 197) [.str ⟨code.toArray⟩ t, .str ⟨[a, b, c, d].toArray⟩ u]) Q E s := by
  revert X; k_fill; intro X
  have tl : TL 1 := trivial
  have hdl := dbl_len (a := a) (b := b) (c := c) (d := d)
  w_on
  refine wpAny_call ?_
  refine' enterP (binds := [(Str.ofString "code", .str ⟨code.toArray⟩ t), (Str.ofString "text", .str ⟨[a, b, c, d].toArray⟩ u)]) ‹Frag.In _ _› (Top.nolimit ‹_›) ?k6 ?k7 (by walk_at "MyD") ?k9 ?kB ?_ ?c2 ?c3 ?c4 ?c5
  case k6 => k_is
  case k7 => k_is
  case k9 => first | exact BindsTo.of_eq rfl | exact binds_K (by k_in) rfl (by k_is) rfl rfl rfl
  case kB => exact locs rfl
  case c5 => decide
  case c2 => exact rfl
  case c3 => exact rfl
  case c4 => exact rfl
  intro h₁ F N
  try dsimp only
  try k_fold
  k_steps
  unfold Stop
  refine add_tt (q := [32, 34]) (by omega) (by decide) (by rfl) (by dsimp only; omega) ?_
  intro t' k' hq
  k_steps
  unfold Stop
  refine add_tt (q := dbl [a, b, c, d]) (by simp; omega) (by omega) (by rfl) (by dsimp only; omega) ?_
  intro t2 k2 hq2
  k_steps
  unfold Stop
  refine add_tt (q := [34, 32, 111, 107]) (by simp; omega) (by decide) (by rfl) (by dsimp only; omega) ?_
  intro t3 k3 hq3
  k_steps
  all_goals exact ret _ _ _ (Fr.keep (by k_asm))
end Mine

namespace Mine
noncomputable def starF (f : List Int → Bool) : List Int → Bool
  | [] => f []
  | r :: rs => f (r :: rs) || starF f rs
noncomputable def litF (f : List Int → Bool) (x : Int) : List Int → Bool
  | [] => false
  | r :: rs => decide (r = x) && f rs
noncomputable def fitsB : List Int → List Int → Bool
  | [], row => decide (row = [])
  | x :: xs, row => if x = 63 then starF (fitsB xs) row else litF (fitsB xs) x row
theorem fits_nil {row : List Int} : fitsB [] row = decide (row = []) := rfl
theorem fits_star {xs row : List Int} : fitsB (63 :: xs) row = starF (fitsB xs) row := rfl
theorem fits_lit {x : Int} {xs row : List Int} (h : x ≠ 63) : fitsB (x :: xs) row = litF (fitsB xs) x row := by simp [fitsB, h]

theorem lines_C11_1 : True := by
  k_with_none
  k_with "MyEnter" => (
    w_on
    refine wpAny_call ?_
    refine' enterP ‹Frag.In _ _› (Top.nolimit ‹_›) ?k6 ?k7 (by walk_at "MyD") ?k9 ?kB ?_ ?c2 ?c3 ?c4 ?c5
    (case k6 => k_is)
    (case k7 => k_is)
    (case k9 => first | exact BindsTo.of_eq rfl | exact binds_K (by k_in) rfl (by k_is) rfl rfl rfl)
    (case kB => exact locs rfl)
    (case c5 => decide)
    (case c2 => exact rfl)
    (case c3 => exact rfl)
    (case c4 => exact rfl)
    intro _ _ _
    try dsimp only
    try k_fold)
  k_with "MyRoom" => (first | assumption | ((try dsimp only [Ar, Around.deeper, Around.in1, Around.mark] at *); omega))
  k_with "call type:type" => ((with_reducible show wpAny _ _ (call _ [Value.bytes _ _]) _ _ _); refine call_type_of (Tx := "bytes") rfl (by decide +kernel) ?_)
  k_with "MyX" => (first | assumption | exact Frag.In.keeps (by assumption) (Fr.keep (by k_asm)))
  k_with "MyT" => (first | assumption | exact Top.keeps (by assumption) (Fr.keep (by k_asm)))
  k_with "MyD" => (first | assumption | ((try dsimp only [Ar, Around.deeper, Around.in1, Around.mark] at *); omega))
  k_with "MyAll" => (repeat' (first | exact List.forall_mem_nil _ | refine List.forall_mem_cons.mpr ⟨by first | rfl | (k_dflt k_asm), ?_⟩))
  trivial

theorem retB {s : Shared} {Q : Value → Shared → Prop} {b c : Bool} {h' : Heap} {tk : Nat} (ret : ∀ h' tk, Kp s.heap h' → Q (.bool c) { s with heap := h', toks := tk }) (k : Kp s.heap h') (e : b = c) : Q (.bool b) { s with heap := h', toks := tk } := by
  subst e; exact ret _ _ k
theorem lines_C11_2 : True := by
  k_with "MyLs" => (first | exact News.isList (by k_asm) (by k_mem) | (refine Heap.IsList.at (by assumption) ?_; intro o e; exact Fr.keep (by k_asm) _ o e))
  trivial
def FitH (w : World) (K : Frag) (loose : List Str) (mean : ExcName → Option Value) (mg mb : Str → Option Value) (n : Nat) : Prop :=
  ∀ {un : Nat} {s : Shared} {Q : Value → Shared → Prop} {E : Value → Shared → Prop} {dp : Nat} {fr : Option (List Env)} {gd : Option (List Code)} (_ : Top topProg loose mean mg mb s.heap) (_ : dp + (n + 1) < recursionLimit) (_ : un + 200 + 40 * n < cLine) {a b : Addr} {vs ws : List Value} {xs ys : List Int} (_ : s.heap.IsList a vs.toArray) (_ : s.heap.IsList b ws.toArray) (_ : IntsAre vs xs) (_ : IntsAre ws ys) (_ : xs.length + ys.length ≤ n) (_ : n < 20)
    (_ : ∀ h' tk, Kp s.heap h' → Q (.bool (fitsB xs ys)) { s with heap := h', toks := tk }) (_ : K.In s.heap),
    wpAny (model Challenge.rw_kt0015_01.row.prog w) (Ar dp un fr gd) (call (.ref 209) [.ref a, .ref b]) Q E s
theorem fit_use {w : World} {K : Frag} {loose : List Str} {mean : ExcName → Option Value} {mg mb : Str → Option Value} {n : Nat} (ih : FitH w K loose mean mg mb n) : ∀ {un : Nat} {s : Shared} {Q : Value → Shared → Prop} {E : Value → Shared → Prop} {dp : Nat} {fr : Option (List Env)} {gd : Option (List Code)} (_ : Top topProg loose mean mg mb s.heap) (_ : dp + (n + 1) < recursionLimit) (_ : un + 200 + 40 * n < cLine) {a b : Addr} {vs ws : List Value} {xs ys : List Int} (_ : s.heap.IsList a vs.toArray) (_ : s.heap.IsList b ws.toArray) (_ : IntsAre vs xs) (_ : IntsAre ws ys) (_ : xs.length + ys.length ≤ n) (_ : n < 20)
    (_ : ∀ h' tk, Kp s.heap h' → Q (.bool (fitsB xs ys)) { s with heap := h', toks := tk }) (_ : K.In s.heap),
    wpAny (model Challenge.rw_kt0015_01.row.prog w) (Ar dp un fr gd) (call (.ref 209) [.ref a, .ref b]) Q E s := ih
theorem lines_C11_3 : True := by
  k_with "call ref" => (
    (k_dflt (
      (refine' fit_use ‹FitH _ _ _ _ _ _ _› ?T ?D ?U ?ha ?hb ?hi ?hj ?hn ?h2 ?_ ?X);
      (case T => walk_at "MyT");
      (case D => walk_at "MyD");
      (case U => walk_at "MyD");
      (case X => walk_at "MyX");
      (case ha => walk_at "MyLs");
      (case hb => walk_at "MyLs");
      (case hi => assumption);
      (case hj => assumption);
      (case hn => (simp only [List.length_drop, List.length_cons, List.length_nil] at *; omega));
      (case h2 => omega);
      (intro _ _ _; (have _ := Fr.keeps (by k_asm) ‹Kp _ _›); (have _ := News.grown (by k_asm) ‹Kp _ _›))))
    (try k_sweep); (try dsimp only); (try k_fold))
  trivial
theorem fit_h {w : World} {loose : List Str} {mean : ExcName → Option Value} {mg mb : Str → Option Value} (n : Nat) : FitH w (kmk.heap_1 w.params) loose mean mg mb n := by
  unfold FitH
  k_fill
  induction n with
  | zero =>
    intro un s Q E dp fr gd T hD hu a b vs ws xs ys ha hb hi hj hn hn20 ret X
    have hx : xs = [] := List.length_eq_zero_iff.mp (by omega)
    have hy : ys = [] := List.length_eq_zero_iff.mp (by omega)
    subst hx hy
    cases hi
    cases hj
    w_on
    refine wpAny_call ?_
    refine' enterP (binds := [(Str.ofString "items", .ref a), (Str.ofString "row", .ref b)]) ‹Frag.In _ _› (Top.nolimit ‹_›) ?k6 ?k7 (by walk_at "MyD") ?k9 ?kB ?_ ?c2 ?c3 ?c4 ?c5
    case k6 => k_is
    case k7 => k_is
    case k9 => first | exact BindsTo.of_eq rfl | exact binds_K (by k_in) rfl (by k_is) rfl rfl rfl
    case kB => exact locs rfl
    case c5 => decide
    case c2 => exact rfl
    case c3 => exact rfl
    case c4 => exact rfl
    intro h₁ F N
    try dsimp only
    try k_fold
    k_steps
    exact ret _ _ (Fr.keep (by k_asm))
  | succ n ih =>
    have ihF : FitH w _ loose mean mg mb n := ih
    clear ih
    intro un s Q E dp fr gd T hD hu a b vs ws xs ys ha hb hi hj hn hn20 ret X
    cases hi with
    | nil =>
      w_on
      refine wpAny_call ?_
      refine' enterP (binds := [(Str.ofString "items", .ref a), (Str.ofString "row", .ref b)]) ‹Frag.In _ _› (Top.nolimit ‹_›) ?k6 ?k7 (by walk_at "MyD") ?k9 ?kB ?_ ?c2 ?c3 ?c4 ?c5
      case k6 => k_is
      case k7 => k_is
      case k9 => first | exact BindsTo.of_eq rfl | exact binds_K (by k_in) rfl (by k_is) rfl rfl rfl
      case kB => exact locs rfl
      case c5 => decide
      case c2 => exact rfl
      case c3 => exact rfl
      case c4 => exact rfl
      intro h₁ F N
      try dsimp only
      try k_fold
      k_steps
      exact ret _ _ (Fr.keep (by k_asm))
    | cons x tx hi' =>
      rename_i vi xi
      have hi9 := IntsAre.cons x tx hi'
      have g0 : (x :: xi).getD (Int.toNat 0) 0 = x := rfl
      cases hj with
      | nil =>
        have hj9 : IntsAre [] [] := .nil
        w_on
        refine wpAny_call ?_
        refine' enterP (binds := [(Str.ofString "items", .ref a), (Str.ofString "row", .ref b)]) ‹Frag.In _ _› (Top.nolimit ‹_›) ?k6 ?k7 (by walk_at "MyD") ?k9 ?kB ?_ ?c2 ?c3 ?c4 ?c5
        case k6 => k_is
        case k7 => k_is
        case k9 => first | exact BindsTo.of_eq rfl | exact binds_K (by k_in) rfl (by k_is) rfl rfl rfl
        case kB => exact locs rfl
        case c5 => decide
        case c2 => exact rfl
        case c3 => exact rfl
        case c4 => exact rfl
        intro h₁ F N
        try dsimp only
        try k_fold
        k_steps
        all_goals (refine retB ret (Fr.keep (by k_asm)) ?_)
        all_goals (clear ret T X ihF)
        all_goals (simp_all [fitsB, starF, litF])
      | cons y ty hj' =>
        rename_i wi yi
        have hj9 := IntsAre.cons y ty hj'
        have g1 : (y :: yi).getD (Int.toNat 0) 0 = y := rfl
        w_on
        refine wpAny_call ?_
        refine' enterP (binds := [(Str.ofString "items", .ref a), (Str.ofString "row", .ref b)]) ‹Frag.In _ _› (Top.nolimit ‹_›) ?k6 ?k7 (by walk_at "MyD") ?k9 ?kB ?_ ?c2 ?c3 ?c4 ?c5
        case k6 => k_is
        case k7 => k_is
        case k9 => first | exact BindsTo.of_eq rfl | exact binds_K (by k_in) rfl (by k_is) rfl rfl rfl
        case kB => exact locs rfl
        case c5 => decide
        case c2 => exact rfl
        case c3 => exact rfl
        case c4 => exact rfl
        intro h₁ F N
        try dsimp only
        try k_fold
        k_steps
        all_goals (refine retB ret (Fr.keep (by k_asm)) ?_)
        all_goals (clear ret T X ihF)
        all_goals (simp_all [fitsB, starF, litF])
end Mine

namespace Mine
section
variable {prog : Program} {w : World} {A : Around} {E : Value → Shared → Prop} {s : Shared} {t u : Tok} {Q : Value → Shared → Prop} {p q : List Nat} {value slice : PySem.Expr}
theorem slice0_t {h₀ : Heap} {L : Addr} {m : Str → Option Value} {news : List (Addr × Obj)} {j : Int} {uj : Tok} (F : Fr h₀ L s.heap m) (N : News h₀ L s.heap news) (h1 : 0 ≤ j) (hl : p.length < 1000000)
    (h : ∀ h' t' k, Fr h₀ L h' m → News h₀ L h' news → Q (.str ⟨(p.take j.toNat).toArray⟩ t') { s with heap := h', toks := k })
    (hs : subscripted slice false (.str ⟨p.toArray⟩ t) (.ref s.heap.objs.size) = operate [.ref s.heap.objs.size, .str ⟨p.toArray⟩ t] (getItem (.str ⟨p.toArray⟩ t) (.ref s.heap.objs.size)) := by with_unfolding_all rfl)
    (ht : ∀ r, letTemporaryGo value (.str ⟨p.toArray⟩ t) r = pure () := by intro _; with_unfolding_all rfl) :
    wpAny (model prog w) A (subscriptTail value slice (.str ⟨p.toArray⟩ t) (.ref s.heap.objs.size)) Q E { s with heap := s.heap.push { cls := .type "slice", data := .fields #[.none, .int j uj, .none] } } := by
  have e : Txt.slice ⟨p.toArray⟩ none (some j) = ⟨(p.take j.toNat).toArray⟩ := by
    have e1 : Txt.slice ⟨p.toArray⟩ none (some j) = Txt.slice ⟨p.toArray⟩ (some 0) (some j) := by
      have e2 : Builtin.Str.strSliceIndices none (some j) 1 (⟨p.toArray⟩ : Str).length = Builtin.Str.strSliceIndices (some 0) (some j) 1 (⟨p.toArray⟩ : Str).length := by
        unfold Builtin.Str.strSliceIndices
        simp only [show (1 : Int) > 0 by decide, if_true, show ¬ ((0 : Int) < 0) by decide, if_false]
        rw [show max 0 (min 0 ((⟨p.toArray⟩ : Str).length : Int)) = 0 by omega]
      unfold Txt.slice
      rw [e2]
    rw [e1, txt_slice (by decide) h1]
    simp
  refine slice_strN_ns F N (fun h' t' k F' N' => ?_) hs ht (by show p.toArray.size ≤ _; rw [sizeLine_eq]; simp; omega)
  rw [e]; exact h h' t' k F' N'
theorem net_eq {x : Str} (hx : x = ⟨q.toArray⟩) (hc : p = q) (h : Q (.bool false) s) : wpAny (model prog w) A (compareOp .NotEq (.str ⟨p.toArray⟩ t) (.str x u)) Q E s := by
  subst hx hc
  refine PyProof.Rows.ne_str ?_
  simpa using h
theorem net_ne {x : Str} (hx : x = ⟨q.toArray⟩) (hc : p ≠ q) (h : Q (.bool true) s) : wpAny (model prog w) A (compareOp .NotEq (.str ⟨p.toArray⟩ t) (.str x u)) Q E s := by
  subst hx
  refine PyProof.Rows.ne_str ?_
  have e := str_inj (p := p) (q := q)
  rw [decide_eq_false hc] at e
  rw [show ((⟨p.toArray⟩ : Str) != ⟨q.toArray⟩) = true by rw [bne, e]; rfl]
  exact h
end
theorem add_t0 {prog : Program} {w : World} {A : Around} {E : Value → Shared → Prop} {s : Shared} {t u : Tok} {Q : Value → Shared → Prop} {p q : List Nat} (hp : p.length < 1000) (hq : q.length < 1000) {x : Str} (hx : x = ⟨q.toArray⟩) (h : ∀ t' k, Q (.str ⟨(p ++ q).toArray⟩ t') { s with toks := k }) :
    wpAny (model prog w) A (binaryOp .Add (.str ⟨p.toArray⟩ t) (.str x u)) Q E s := by
  subst hx
  refine PyProof.Rows.add_str (fun t' tk => ?_) (by show p.toArray.size + q.toArray.size ≤ _; rw [sizeLine_eq]; simp; omega)
  have e : ((⟨p.toArray⟩ : Str) ++ ⟨q.toArray⟩) = ⟨(p ++ q).toArray⟩ := by
    show (⟨p.toArray ++ q.toArray⟩ : Str) = _
    simp
  rw [e]
  exact h t' tk
theorem getD_drop0 {q r : List Nat} {i c : Nat} (h : q.drop i = c :: r) : q.getD i 0 = c ∧ q.drop (i + 1) = r ∧ i < q.length := by
  have hl : i < q.length := by
    by_cases hh : i < q.length
    · exact hh
    · rw [List.drop_of_length_le (by omega)] at h; cases h
  rw [List.drop_eq_getElem_cons hl] at h
  injection h with h1 h2
  refine ⟨?_, h2, hl⟩
  rw [List.getD_eq_getElem?_getD, List.getElem?_eq_getElem hl]; exact h1
theorem dbl_ge : ∀ p : List Nat, p.length ≤ (dbl p).length
  | [] => Nat.le_refl _
  | c :: r => by
    have ih := dbl_ge r
    unfold dbl at ih ⊢
    rw [List.flatMap_cons, List.length_append]
    split <;> simp only [List.length_cons, List.length_nil] <;> omega
theorem dbl_cons34 {r : List Nat} : dbl (34 :: r) = 34 :: 34 :: dbl r := rfl
theorem dbl_cons {c : Nat} {r : List Nat} (h : c ≠ 34) : dbl (c :: r) = c :: dbl r := by simp [dbl, h]

theorem lines_C12_1 : True := by
  k_with_none
  k_with "MyEnter" => (
    w_on
    refine wpAny_call ?_
    refine' enterP ‹Frag.In _ _› (Top.nolimit ‹_›) ?k6 ?k7 (by walk_at "MyD") ?k9 ?kB ?_ ?c2 ?c3 ?c4 ?c5
    (case k6 => k_is)
    (case k7 => k_is)
    (case k9 => first | exact BindsTo.of_eq rfl | exact binds_K (by k_in) rfl (by k_is) rfl rfl rfl)
    (case kB => exact locs rfl)
    (case c5 => decide)
    (case c2 => exact rfl)
    (case c3 => exact rfl)
    (case c4 => exact rfl)
    intro _ _ _
    try dsimp only
    try k_fold)
  k_with "MyRoom" => (first | assumption | ((try dsimp only [Ar, Around.deeper, Around.in1, Around.mark] at *); omega))
  k_with "call type:type" => ((with_reducible show wpAny _ _ (call _ [Value.bytes _ _]) _ _ _); refine call_type_of (Tx := "bytes") rfl (by decide +kernel) ?_)
  k_with "MyX" => (first | assumption | exact Frag.In.keeps (by assumption) (Fr.keep (by k_asm)))
  k_with "MyT" => (first | assumption | exact Top.keeps (by assumption) (Fr.keep (by k_asm)))
  k_with "MyD" => (first | assumption | ((try dsimp only [Ar, Around.deeper, Around.in1, Around.mark] at *); omega))
  k_with "MyAll" => (repeat' (first | exact List.forall_mem_nil _ | refine List.forall_mem_cons.mpr ⟨by first | rfl | (k_dflt k_asm), ?_⟩))
  k_with "subscriptTail Name Slice str ref" => (k_dflt (first | (refine' slice_t ?kF ?kN ?k0 ?k1 ?kl ?_; (case kF => k_asm); (case kN => k_asm); (case k0 => omega); (case k1 => omega); (case kl => omega)) | (refine' slice0_t ?kF ?kN ?k1 ?kl ?_; (case kF => k_asm); (case kN => k_asm); (case k1 => omega); (case kl => omega)); intro _ _ _ _ _); (try k_sweep))
  k_with "compareOp NotEq str str" => (k_dflt (first | refine net_eq (by rfl) (by first | assumption | rfl) ?_ | refine net_ne (by rfl) (by first | assumption | decide) ?_))
  k_with "compareOp Eq str str" => (k_dflt (first | refine eq1_eq (by rfl) ?_ | refine eq1_ne (by rfl) (by assumption) ?_))
  k_with "call builtin:len" => (with_reducible refine len_t (by omega) ?_)
  k_with "exec While Compare cons nil" => (refine Stop.out ?_)
  trivial
theorem item_g {prog : Program} {w : World} {A : Around} {E : Value → Shared → Prop} {s : Shared} {t u : Tok} {Q : Value → Shared → Prop} {p : List Nat} {value slice : PySem.Expr} {i : Int} {j c : Nat} (hj : i = (j : Int)) (h1 : j < p.length) (hl : p.length < 1000000) (hc : p.getD j 0 = c) (h : Q (.str ⟨#[c]⟩ s.toks) { s with toks := s.toks + 1 })
    (hs : subscripted slice false (.str ⟨p.toArray⟩ t) (.int i u) = operate [.str ⟨p.toArray⟩ t, .int i u] (getItem (.str ⟨p.toArray⟩ t) (.int i u)) := by with_unfolding_all rfl)
    (ht : ∀ r, letTemporaryGo value (.str ⟨p.toArray⟩ t) r = pure () := by intro _; with_unfolding_all rfl) :
    wpAny (model prog w) A (subscriptTail value slice (.str ⟨p.toArray⟩ t) (.int i u)) Q E s := by
  refine item_t (by omega) (by omega) hl (fun c' hc' => ?_) hs ht
  have e : i.toNat = j := by omega
  rw [e, hc] at hc'
  subst hc'
  exact h
theorem lines_C12_2 : True := by
  k_with "subscriptTail Name Name str int" => (k_dflt (refine item_g (by first | rfl | exact (Int.natCast_succ _).symm) (by assumption) (by omega) (by assumption) ?_))
  k_with "binaryOp Add str str" => (refine Stop.out ?_)
  trivial

theorem p257_c {w : World} {loose : List Str} {mean : ExcName → Option Value} {mg mb : Str → Option Value} {dp un : Nat} {fr : Option (List Env)} {gd : Option (List Code)} {s : Shared} {Q : Value → Shared → Prop} {E : Value → Shared → Prop}
    (T : Top topProg loose mean mg mb s.heap) (hD : dp + 1 < recursionLimit) (hu : un + 20 < cLine) {q p : List Nat} {t : Tok} (hq : q = [50, 53, 55, 32, 34] ++ dbl p ++ [34, 32, 111, 107]) (hl : q.length < 1000)
    (ret : ∀ h' tk t', Kp s.heap h' → Q (.str ⟨p.toArray⟩ t') { s with heap := h', toks := tk }) (X : (kmk.heap_1 w.params).In s.heap) :
    wpAny (model Challenge.rw_kt0015_01.row.prog w) (Ar dp un fr gd) (call (.ref 70) [.str ⟨q.toArray⟩ t]) Q E s := by
  revert X; k_fill; intro X
  have q3 : q.take (Int.toNat 3) = [50, 53, 55] := by rw [hq]; rfl
  have q35 : (q.drop (Int.toNat 3)).take (Int.toNat (5 - 3)) = [32, 34] := by rw [hq]; rfl
  w_on
  refine wpAny_call ?_
  refine' enterP (binds := [(Str.ofString "resp", .str ⟨q.toArray⟩ t)]) ‹Frag.In _ _› (Top.nolimit ‹_›) ?k6 ?k7 (by walk_at "MyD") ?k9 ?kB ?_ ?c2 ?c3 ?c4 ?c5
  case k6 => k_is
  case k7 => k_is
  case k9 => first | exact BindsTo.of_eq rfl | exact binds_K (by k_in) rfl (by k_is) rfl rfl rfl
  case kB => exact locs rfl
  case c5 => decide
  case c2 => exact rfl
  case c3 => exact rfl
  case c4 => exact rfl
  intro h₁ F N
  try dsimp only
  try k_fold
  k_steps
  unfold Stop
  rename Fr _ _ _ _ => F0
  rename News _ _ _ _ => N0
  refine while_inv (σ := Nat × List Nat × List Nat × Tok × Tok × Tok) (fun c => [])
    (fun c => [(Str.ofString "resp", .str ⟨q.toArray⟩ t), (Str.ofString "dirname", .str ⟨c.2.1.toArray⟩ c.2.2.2.1), (Str.ofString "i", .int (c.1 : Int) c.2.2.2.2.1), (Str.ofString "n", .int (q.length : Int) c.2.2.2.2.2)])
    (fun c => q.drop c.1 = dbl c.2.2.1 ++ [34, 32, 111, 107] ∧ c.2.1 ++ c.2.2.1 = p) (fun c => c.2.2.1.length) (5, [], p, _, _, _) F0 (fun p hp => by cases hp) (by walk_at "MyAll") ⟨by rw [hq]; rfl, rfl⟩ (Nat.zero_le _) ?_
  clear F0 N0
  rintro ⟨i, d, r, td, ti, tn⟩ uu h' tk' _ ⟨hdrop, hp⟩ F' N'
  dsimp only at hdrop hp F' N'
  have hdl : d.length ≤ p.length := by rw [← hp]; simp
  have hpq : p.length < q.length := by rw [hq]; have := dbl_ge p; simp; omega
  cases r with
  | nil =>
    obtain ⟨g1, hdrop2, hl1⟩ := getD_drop0 (show q.drop i = 34 :: [32, 111, 107] from hdrop)
    obtain ⟨g2, _, hl2⟩ := getD_drop0 hdrop2
    k_steps
    dsimp only [WPost]
    k_steps
    rw [List.append_nil] at hp
    subst hp
    exact ret _ _ _ (Fr.keep (by k_asm))
  | cons c r =>
    by_cases h34 : c = 34
    · subst h34
      rw [dbl_cons34] at hdrop
      obtain ⟨g1, hdrop2, hl1⟩ := getD_drop0 (show q.drop i = 34 :: (34 :: (dbl r ++ [34, 32, 111, 107])) from hdrop)
      obtain ⟨g2, hdrop3, hl2⟩ := getD_drop0 hdrop2
      k_steps
      unfold Stop
      refine add_t0 (q := [34]) (by omega) (by decide) (by rfl) ?_
      intro t2 k2
      k_steps
      all_goals (refine WEnd.intro (i + 1 + 1, d ++ [34], r, _, _, tn) (by k_asm) (by k_asm) (fun q hq => by cases hq) (by walk_at "MyAll") ⟨hdrop3, by simpa using hp⟩ (by simp))
    · rw [dbl_cons h34] at hdrop
      obtain ⟨g1, hdrop2, hl1⟩ := getD_drop0 (show q.drop i = c :: (dbl r ++ [34, 32, 111, 107]) from hdrop)
      k_steps
      unfold Stop
      refine add_t0 (q := [c]) (by omega) (by simp) (by rfl) ?_
      intro t2 k2
      k_steps
      all_goals (refine WEnd.intro (i + 1, d ++ [c], r, _, _, tn) (by k_asm) (by k_asm) (fun q hq => by cases hq) (by walk_at "MyAll") ⟨hdrop2, by simpa using hp⟩ (by simp))

theorem lines_C12_3 : True := by
  k_with "leaving ref" => (refine Stop.out ?_)
  trivial

theorem p250_c {w : World} {loose : List Str} {mean : ExcName → Option Value} {mg mb : Str → Option Value} {dp un : Nat} {fr : Option (List Env)} {gd : Option (List Code)} {s : Shared} {Q : Value → Shared → Prop} {E : Value → Shared → Prop}
    (T : Top topProg loose mean mg mb s.heap) (hD : dp + 1 < recursionLimit) (hu : un + 20 < cLine) {q : List Nat} {t : Tok} {B : Heap} {outer : List Env} (hq : q.take 3 ≠ [50, 53, 55]) (hl : q.length < 1000) (hK : Below (Ar dp un fr gd) B outer s.heap)
    (ret : ∀ e t v h' tk, RaisedS B s.heap outer e (.ref 61) t v [] h' → s.heap.UpToSlots h' → E (.ref e) { s with heap := h', toks := tk }) (X : (kmk.heap_1 w.params).In s.heap) :
    wpAny (model Challenge.rw_kt0015_01.row.prog w) (Ar dp un fr gd) (call (.ref 70) [.str ⟨q.toArray⟩ t]) Q E s := by
  revert X; k_fill; intro X
  have q3 : q.take (Int.toNat 3) ≠ [50, 53, 55] := hq
  w_on
  refine wpAny_call ?_
  refine' enterP (binds := [(Str.ofString "resp", .str ⟨q.toArray⟩ t)]) ‹Frag.In _ _› (Top.nolimit ‹_›) ?k6 ?k7 (by walk_at "MyD") ?k9 ?kB ?_ ?c2 ?c3 ?c4 ?c5
  case k6 => k_is
  case k7 => k_is
  case k9 => first | exact BindsTo.of_eq rfl | exact binds_K (by k_in) rfl (by k_is) rfl rfl rfl
  case kB => exact locs rfl
  case c5 => decide
  case c2 => exact rfl
  case c3 => exact rfl
  case c4 => exact rfl
  intro h₁ F N
  try dsimp only
  try k_fold
  k_steps
  unfold Stop
  exact leave_raiseS hK (by assumption) (by k_asm) (by k_asm) (fun h' t' R R' U => ret _ _ _ _ _ R U)
end Mine

namespace Mine
noncomputable abbrev tupO (xs : List Value) : Obj := { cls := .type "tuple", data := .seq xs.toArray }
/-- the ledger tl holds the list v of the ints d -/
def PatL (tl : List (Addr × Obj)) (v : Value) (d : List Int) : Prop := ∃ a vs c, v = .ref a ∧ (a, W.listOf vs.toArray c) ∈ tl ∧ IntsAre vs d
def NamL (tl : List (Addr × Obj)) (v : Value) (d : List Int × Bool) : Prop := ∃ T a vs c, v = .ref T ∧ (T, tupO [.ref a, .bool d.2]) ∈ tl ∧ (a, W.listOf vs.toArray c) ∈ tl ∧ IntsAre vs d.1
def NeTl (D : Addr) (tl : List (Addr × Obj)) : Prop := ∀ p ∈ tl, p.1 ≠ D
theorem neTl_nil {D : Addr} : NeTl D [] := fun _ h => nomatch h
theorem NeTl.use {D : Addr} {tl : List (Addr × Obj)} (h : NeTl D tl) : ∀ p ∈ tl, p.1 ≠ D := h
theorem NeTl.of1 {D : Addr} : ∀ {tl : List (Addr × Obj)}, LCg.Off1 D tl → NeTl D tl
  | [], _ => fun _ h => nomatch h
  | _ :: _, h => List.forall_mem_cons.mpr ⟨h.1, NeTl.of1 h.2⟩
theorem NeTl.cons {D : Addr} {p : Addr × Obj} {tl : List (Addr × Obj)} (h : NeTl D tl) (e : @Ne Nat p.1 D) : NeTl D (p :: tl) := List.forall_mem_cons.mpr ⟨e, h⟩
theorem endW {h₀ : Heap} {L I : Addr} {oI : Obj} {rest : (Str → Option Value) → List (Addr × Obj) → Prop} {s₁ : Shared} {h' : Heap} {tk : Nat} {m' : Str → Option Value} {all news' : List (Addr × Obj)} (F : Fr h₀ L h' m') (N : News h₀ L h' all)
    (hI : (I, oI) ∈ all) (sub : ∀ p ∈ news', p ∈ all) (off : ∀ p ∈ news', p.1 ≠ I ∨ p.2.cls ≠ oI.cls) (r : rest m' news') : UnrEndW h₀ L s₁ [(I, oI)] rest { s₁ with heap := h', toks := tk } :=
  ⟨h', tk, m', news', rfl, F, fun p hp => by
    rcases List.mem_append.mp hp with hp | hp
    · rw [List.mem_singleton.mp hp]; exact N _ hI
    · exact N p (sub p hp), fun p hp q hq e => by
    rw [List.mem_singleton.mp hq] at e
    rcases off p hp with h | h
    · exact h e
    · have h1 := (N _ (sub p hp)).1
      rw [e, (N _ hI).1] at h1
      exact h (congrArg Obj.cls (Option.some.inj h1)).symm, r⟩
theorem PatL.more {tl tl' : List (Addr × Obj)} {v : Value} {d : List Int} (s : ∀ p ∈ tl, p ∈ tl') : PatL tl v d → PatL tl' v d
  | ⟨a, vs, c, e, m, i⟩ => ⟨a, vs, c, e, s _ m, i⟩
theorem NamL.more {tl tl' : List (Addr × Obj)} {v : Value} {d : List Int × Bool} (s : ∀ p ∈ tl, p ∈ tl') : NamL tl v d → NamL tl' v d
  | ⟨T, a, vs, c, e, m, m2, i⟩ => ⟨T, a, vs, c, e, s _ m, s _ m2, i⟩
theorem ints4 {a b c d a' b' c' d' : Int} {ta tb tc td : Tok} (h1 : a = a') (h2 : b = b') (h3 : c = c') (h4 : d = d') : IntsAre [.int a ta, .int b tb, .int c tc, .int d td] [a', b', c', d'] := by
  subst h1 h2 h3 h4
  exact .cons _ _ (.cons _ _ (.cons _ _ (.cons _ _ .nil)))
theorem n_ys {h₀ : Heap} {L : Addr} {h : Heap} {tl : List (Addr × Obj)} {y : Addr × Obj} {D : Addr} {a b c d a' b' c' d' : Int} {ta tb tc td : Tok} (N : News h₀ L h ((D, LCg.lst [.int a ta, .int b tb, .int c tc, .int d td]) :: y :: tl)) (h1 : a = a') (h2 : b = b') (h3 : c = c') (h4 : d = d') :
    ∃ ys, IntsAre ys [a', b', c', d'] ∧ News h₀ L h ((D, LCg.lst ys) :: tl) :=
  ⟨_, ints4 h1 h2 h3 h4, fun p hp => N p (by
    rcases List.mem_cons.mp hp with e | hp
    · exact List.mem_cons.mpr (.inl e)
    · exact List.mem_cons_of_mem _ (List.mem_cons_of_mem _ hp))⟩
theorem n_ys2 {h₀ : Heap} {L : Addr} {h : Heap} {tl : List (Addr × Obj)} {y : Addr × Obj} {T D : Addr} {a b c d a' b' c' d' : Int} {ta tb tc td : Tok} {u u' : Bool} (N : News h₀ L h ((T, tupO [.ref D, .bool u]) :: (D, LCg.lst [.int a ta, .int b tb, .int c tc, .int d td]) :: y :: tl)) (h1 : a = a') (h2 : b = b') (h3 : c = c') (h4 : d = d') (h5 : u = u') :
    ∃ ys, IntsAre ys [a', b', c', d'] ∧ News h₀ L h ((T, tupO [.ref D, .bool u']) :: (D, LCg.lst ys) :: tl) := by
  subst h5
  exact ⟨_, ints4 h1 h2 h3 h4, fun p hp => N p (by
    rcases List.mem_cons.mp hp with e | hp
    · exact List.mem_cons.mpr (.inl e)
    · rcases List.mem_cons.mp hp with e | hp
      · exact List.mem_cons_of_mem _ (List.mem_cons.mpr (.inl e))
      · exact List.mem_cons_of_mem _ (List.mem_cons_of_mem _ (List.mem_cons_of_mem _ hp)))⟩
noncomputable def figs (n : Int) : List Int := [n / 4 / 1 % 3, n / 4 / 3 % 3, n / 4 / 9 % 3, n / 4 / 27 % 3]
noncomputable def patOf (n : Int) : List Int := (figs n).map fun f => [0, 62, 63].getD f.toNat 0
noncomputable def namOf (n : Int) : List Int × Bool := ((figs n).map fun f => [0, 62, 1].getD f.toNat 0, decide (n % 4 = 1))
noncomputable def lits8 : List Int := [236, 276, 100, 49, 65, 257, 23, 89]
noncomputable def allOf (ns : List Int) : List Int := lits8 ++ ns.take 5
theorem allOf_len (ns : List Int) : (allOf ns).length ≤ 13 := by
  unfold allOf lits8
  rw [List.length_append, List.length_take]
  simp only [List.length_cons, List.length_nil]
  omega
noncomputable def patsOf (ns : List Int) : List (List Int) := (ns.filter fun n => decide (n % 2 = 0)).map patOf
noncomputable def namsOf (ns : List Int) : List (List Int × Bool) := (ns.filter fun n => !decide (n % 2 = 0)).map namOf
theorem patsOf_even {nd : List Int} {n : Int} (h : n % 2 = 0) : patsOf (nd ++ [n]) = patsOf nd ++ [patOf n] := by simp [patsOf, List.filter_append, h]
theorem patsOf_odd {nd : List Int} {n : Int} (h : n % 2 ≠ 0) : patsOf (nd ++ [n]) = patsOf nd := by simp [patsOf, List.filter_append, h]
theorem namsOf_even {nd : List Int} {n : Int} (h : n % 2 = 0) : namsOf (nd ++ [n]) = namsOf nd := by simp [namsOf, List.filter_append, h]
theorem namsOf_odd {nd : List Int} {n : Int} (h : n % 2 ≠ 0) : namsOf (nd ++ [n]) = namsOf nd ++ [namOf n] := by simp [namsOf, List.filter_append, h]

theorem lines_C13_1 : True := by
  k_with_none
  k_with "MyEnter" => (
    w_on
    refine wpAny_call ?_
    refine' enterP ‹Frag.In _ _› (Top.nolimit ‹_›) ?k6 ?k7 (by walk_at "MyD") ?k9 ?kB ?_ ?c2 ?c3 ?c4 ?c5
    (case k6 => k_is)
    (case k7 => k_is)
    (case k9 => first | exact BindsTo.of_eq rfl | exact binds_K (by k_in) rfl (by k_is) rfl rfl rfl)
    (case kB => exact locs rfl)
    (case c5 => decide)
    (case c2 => exact rfl)
    (case c3 => exact rfl)
    (case c4 => exact rfl)
    intro _ _ _
    try dsimp only
    try k_fold)
  k_with "MyRoom" => (first | assumption | ((try dsimp only [Ar, Around.deeper, Around.in1, Around.mark] at *); omega))
  k_with "call type:type" => ((with_reducible show wpAny _ _ (call _ [Value.bytes _ _]) _ _ _); refine call_type_of (Tx := "bytes") rfl (by decide +kernel) ?_)
  k_with "MyX" => (first | assumption | exact Frag.In.keeps (by assumption) (Fr.keep (by k_asm)))
  k_with "MyT" => (first | assumption | exact Top.keeps (by assumption) (Fr.keep (by k_asm)))
  k_with "MyD" => (first | assumption | ((try dsimp only [Ar, Around.deeper, Around.in1, Around.mark] at *); omega))
  k_with "MyAll" => (repeat' (first | exact List.forall_mem_nil _ | refine List.forall_mem_cons.mpr ⟨by first | rfl | (k_dflt k_asm), ?_⟩))
  k_with "MyM" => (first | ((repeat' (first | exact List.mem_cons_self .. | assumption | apply List.mem_cons_of_mem)); done) | simp)
  k_with "binaryOp FloorDiv int int" => (refine div_abs (by decide) (by decide +kernel) ?_; intro _ _ _ _)
  k_with "binaryOp Mod int int" => (refine mod_abs (by decide) ?_; intro _ _ _ _)
  k_with "binaryOp Mult int int" => (refine mul_abs (by decide +kernel) ?_; intro _ _ _ he; simp at he)
  k_with "CompSrc" => (k_dflt (refine LCg.CompSrc.range (by rfl) (by k_asm) (by k_asm) (by assumption) (by first | decide | rfl) (by first | rfl | decide) (by exact Nat.le_of_ble_eq_true rfl) ?_; intro g'; lcg_lit))
  k_with "exec For Name BinOp cons nil" => (refine Stop.out ?_)
  k_with "pyIter ref" => ((with_reducible show wpAny _ _ (pyIter (Value.ref _)) (fun it s₂ => TurnsAt _ _ _ _ _ _ _ _ _ it s₂) _ _); refine Stop.out ?_)
  k_with "assign Name" => (refine Stop.out ?_)
  k_with "CompEnd" => (k_dflt (first | refine LCg.CompEnd.intro (by k_asm) (by k_asm) _ (fun p hp => hp) (by assumption) (by lcg_src) ?_ | refine LCg.CompEnd.intro (by k_asm) (by k_asm) _ (fun p hp => List.mem_cons_of_mem _ hp) (by assumption) (by lcg_src) ?_))
  k_with "MyAll9" => ((with_reducible refine NeTl.use ?_); (with_reducible assumption))
  k_with "call builtin:list.append" => ((with_reducible show wpAny _ _ (call (Value.builtin "list.append") _) _ _ _); refine Stop.out ?_)
  k_with "UnrPostW" => (refine Stop.out ?_)
  trivial

theorem drw_c {w : World} {loose : List Str} {mean : ExcName → Option Value} {mg mb : Str → Option Value} {dp un : Nat} {fr : Option (List Env)} {gd : Option (List Code)} {s : Shared} {Q : Value → Shared → Prop} {E : Value → Shared → Prop}
    (T : Top topProg loose mean mg mb s.heap) (hD : dp + 2 < recursionLimit) (hu : un + 40 < cLine) {a : Addr} {vs : List Value} {ns : List Int} (hl : s.heap.IsList a vs.toArray) (hi : IntsAre vs ns) (hn : ns.length ≤ 63)
    (ret : ∀ T lp ln vp vn cp cn tl h' tk, Kp s.heap h' → (∀ p ∈ (T, tupO [.ref lp, .ref ln]) :: (lp, W.listOf (List.toArray vp) cp) :: (ln, W.listOf (List.toArray vn) cn) :: tl, h'.get? p.1 = some p.2 ∧ s.heap.get? p.1 = none) → Are (PatL tl) vp (patsOf (allOf ns)) → Are (NamL tl) vn (namsOf (allOf ns)) → Q (.ref T) { s with heap := h', toks := tk }) (X : (kmk.heap_1 w.params).In s.heap) :
    wpAny (model Challenge.rw_kt0015_01.row.prog w) (Ar dp un fr gd) (call (.ref 180) [.ref a]) Q E s := by
  revert X; k_fill; intro X
  w_on
  refine wpAny_call ?_
  refine' enterPC (binds := [(Str.ofString "script", .ref a)]) ‹Frag.In _ _› (Top.nolimit ‹_›) ?k6 ?k7 (by walk_at "MyD") ?k9 ?kB ?kD ?_ ?c2 ?c3 ?c4
  case k6 => k_is
  case k7 => k_is
  case k9 => first | exact BindsTo.of_eq rfl | exact binds_K (by k_in) rfl (by k_is) rfl rfl rfl
  case kB => exact rfl
  case kD => decide +kernel
  case c2 => exact rfl
  case c3 => exact rfl
  case c4 => exact rfl
  intro L' h₁ tk₁ cells' F N Y'
  k_cells Y'
  try simp only [List.cons_append, List.nil_append] at N
  all_goals (try dsimp [bindC, envOfC, Env.kindOf] at d1')
  try dsimp only
  try k_fold
  k_steps
  unfold Stop
  rename Fr _ _ _ _ => F0
  rename News _ _ _ _ => N0
  rename_i oN0 hoN0 lp _ hlp ln _ hln _ _ _ _ _ _
  refine For_turns F0 ?_
  k_steps
  unfold Stop
  rename Fr _ _ _ _ => F1
  rename News _ _ _ _ => N1
  rename IntsAre _ (_ ++ _) => hIA
  rename_i D2 lsp _ lD
  have hc0 : ∃ v, oN0.data = .cell v := ⟨_, hoN0⟩
  clear hoN0
  have N2 : News s.heap L' _ [(L' + 1, oN0), (D2, W.listOf lsp.toArray 0), (lp, W.listOf #[] 0), (ln, W.listOf #[] 0)] := fun p hp => N1 p (SubL.mem (l := [_, _, _, _]) ⟨by walk_at "MyM", by walk_at "MyM", by walk_at "MyM", by walk_at "MyM", trivial⟩ p hp)
  clear N1
  refine iter_listTurns (ax := D2) (lo := W.listOf lsp.toArray 0) (vs := lsp) rfl F1 N2 (by walk_at "MyM") rfl rfl (fun I hI => ?_)
  have k2 : @LT.lt Nat instLTNat (L' + 1) lp := hlp
  have k3 : @LT.lt Nat instLTNat (L' + 1) ln := hln.2
  have k1 : @LT.lt Nat instLTNat (L' + 1) D2 := by omega
  have k4 : @LT.lt Nat instLTNat lp ln := hln.1
  have k5 : @LT.lt Nat instLTNat ln D2 := by omega
  have hIc : I ≠ L' + 1 := Nat.ne_of_gt (hI (L' + 1, oN0) (by walk_at "MyM"))
  have hIp : lp < I := hI (lp, W.listOf #[] 0) (by walk_at "MyM")
  have hI2 : D2 < I := hI (D2, W.listOf lsp.toArray 0) (by walk_at "MyM")
  have hIn : ln < I := hI (ln, W.listOf #[] 0) (by walk_at "MyM")
  refine items_inv (σ := Obj × List Value × Nat × List Value × Nat × List (Addr × Obj)) (fun c => (L' + 1, c.1) :: (D2, W.listOf lsp.toArray 0) :: (lp, W.listOf c.2.1.toArray c.2.2.1) :: (ln, W.listOf c.2.2.2.1.toArray c.2.2.2.2.1) :: c.2.2.2.2.2)
    (fun c => [(Str.ofString "script", .ref a), (Str.ofString "patterns", .ref lp), (Str.ofString "names", .ref ln)])
    (fun r c => ∃ nd nr v₀, IntsAre r nr ∧ nd ++ nr = allOf ns ∧ Are (PatL c.2.2.2.2.2) c.2.1 (patsOf nd) ∧ Are (NamL c.2.2.2.2.2) c.2.2.2.1 (namsOf nd) ∧ c.1.data = .cell v₀ ∧ NeTl (L' + 1) c.2.2.2.2.2 ∧ NeTl D2 c.2.2.2.2.2 ∧ NeTl lp c.2.2.2.2.2 ∧ NeTl ln c.2.2.2.2.2 ∧ ∀ p ∈ c.2.2.2.2.2, p.2.cls ≠ .type "list_iterator")
    ?_ ?_ lsp _ (oN0, [], 0, [], 0, []) ⟨[], _, _, hIA, rfl, .nil, .nil, hc0.choose_spec, neTl_nil, neTl_nil, neTl_nil, neTl_nil, fun _ h => nomatch h⟩ (by walk_at "MyAll")
  · rintro v r ⟨oN, vp, cp, vn, cn, tl⟩ uu h' tk' ⟨nd, nr, v₀, hr, hnd, hvp, hvn, hoN, n1, n2, n3, n4, hcl⟩ F' oI hoI N'
    dsimp only at hvp hvn hoN n1 n2 n3 n4 hcl F' N'
    have hvpl := hvp.length
    have hvnl := hvn.length
    have hndl : nd.length ≤ 13 := by have h1 := congrArg List.length hnd; rw [List.length_append] at h1; have h2 := allOf_len ns; omega
    have hpl : (patsOf nd).length ≤ nd.length := by simp only [patsOf, List.length_map]; exact List.length_filter_le _ _
    have hnl : (namsOf nd).length ≤ nd.length := by simp only [namsOf, List.length_map]; exact List.length_filter_le _ _
    cases hr with
    | cons n tn hr' =>
      have hr9 : Stop (IntsAre r _) := hr'
      clear hr'
      k_steps
      unfold Stop
      refine wpAny_assign_Name (storeX_C F' N' rfl (UpdF.tail hIc (UpdF.head (List.forall_mem_cons.mpr ⟨Nat.ne_of_gt k1, List.forall_mem_cons.mpr ⟨Nat.ne_of_gt k2, List.forall_mem_cons.mpr ⟨Nat.ne_of_gt k3, n1.use⟩⟩⟩))) hoN (fun h2 oN1 F1 N1 hoN1 => ?_) rfl rfl)
      clear F' N'
      try dsimp only [List.cons_append, List.nil_append] at N1
      try dsimp only
      k_steps
      · unfold Stop
        rename Fr _ _ _ _ => F3
        rename News _ _ _ _ => N3
        rename (@Ne Nat I _) ∧ _ => o5
        rename_i Df _ _ o1
        obtain ⟨o1a, o1b, o1c, o1d, o1e, o1f, o1g⟩ := o1
        obtain ⟨p2, p3, p3', p4, p5, p6⟩ := o5
        have N4 : ∃ ys, IntsAre ys (patOf n) ∧ News s.heap L' _ ((Df, LCg.lst ys) :: (I, oI) :: (L' + 1, oN1) :: (D2, W.listOf lsp.toArray 0) :: (lp, W.listOf vp.toArray cp) :: (ln, W.listOf vn.toArray cn) :: tl) :=
          n_ys N3 (by subst_vars; rfl) (by subst_vars; rfl) (by subst_vars; rfl) (by subst_vars; rfl)
        have he : n % 2 = 0 := by
          rename _ = n % 2 => e2
          rename @Eq Int _ 0 => e3
          rw [← e2]; exact e3
        obtain ⟨ys, hys, N4⟩ := N4
        clear N3
        refine append_K F3 N4 (Upd.tail (Ne.symm o1e) (Upd.tail (Nat.ne_of_gt hIp) (Upd.tail (Nat.ne_of_lt k2) (Upd.tail (Nat.ne_of_gt (Nat.lt_trans k4 k5)) (Upd.head (List.forall_mem_cons.mpr ⟨Nat.ne_of_gt k4, n3.use⟩)))))) ?_ (by rw [sizeLine_eq]; simp only [List.size_toArray]; omega)
        intro h4 F4 N5
        simp only [List.push_toArray] at N5
        clear F3 N4
        k_steps
        all_goals (try unfold Stop)
        refine endW (news' := (L' + 1, oN1) :: (D2, W.listOf lsp.toArray 0) :: (lp, W.listOf (vp ++ [Value.ref Df]).toArray (cp + 1)) :: (ln, W.listOf vn.toArray cn) :: (Df, LCg.lst ys) :: tl) F4 N5 (by walk_at "MyM") ?_ ?_ ⟨⟨by walk_at "MyM", trivial⟩, (oN1, vp ++ [Value.ref Df], cp + 1, vn, cn, (Df, LCg.lst ys) :: tl), ⟨nd ++ [n], _, _, hr9, by simpa using hnd, ?_, ?_, hoN1, n1.cons (Ne.symm o1c), n2.cons (Ne.symm o1d), n3.cons (Ne.symm o1e), n4.cons (Ne.symm o1f), ?_⟩, by walk_at "MyAll", rfl⟩
        · exact List.forall_mem_cons.mpr ⟨by walk_at "MyM", List.forall_mem_cons.mpr ⟨by walk_at "MyM", List.forall_mem_cons.mpr ⟨by walk_at "MyM", List.forall_mem_cons.mpr ⟨by walk_at "MyM", List.forall_mem_cons.mpr ⟨by walk_at "MyM", fun p hp => by walk_at "MyM"⟩⟩⟩⟩⟩
        · exact List.forall_mem_cons.mpr ⟨.inl (Ne.symm hIc), List.forall_mem_cons.mpr ⟨.inl (Nat.ne_of_lt hI2), List.forall_mem_cons.mpr ⟨.inl (Nat.ne_of_lt hIp), List.forall_mem_cons.mpr ⟨.inl (Nat.ne_of_lt hIn), List.forall_mem_cons.mpr ⟨.inl (Ne.symm o1b), fun p hp => .inr (by rw [hoI]; exact hcl p hp)⟩⟩⟩⟩⟩
        · rw [patsOf_even he]
          exact (hvp.mono fun v d h => h.more (List.subset_cons_self _ _)).snoc ⟨Df, ys, _, rfl, List.mem_cons_self .., hys⟩
        · rw [namsOf_even he]
          exact hvn.mono fun v d h => h.more (List.subset_cons_self _ _)
        · exact List.forall_mem_cons.mpr ⟨by simp [LCg.lst], hcl⟩
      · unfold Stop
        rename Fr _ _ _ _ => F3
        rename News _ _ _ _ => N3
        rename_i Df _ _ o1 v4 _ _ hv4 TT _ lT
        obtain ⟨o1a, o1b, o1c, o1d, o1e, o1f, o1g⟩ := o1
        obtain ⟨q1, q2, q3, q4, q5, q6, q7, q8⟩ := lT
        have N4 : ∃ ys, IntsAre ys (namOf n).1 ∧ News s.heap L' _ ((TT, tupO [.ref Df, .bool (decide (n % 4 = 1))]) :: (Df, LCg.lst ys) :: (I, oI) :: (L' + 1, oN1) :: (D2, W.listOf lsp.toArray 0) :: (lp, W.listOf vp.toArray cp) :: (ln, W.listOf vn.toArray cn) :: tl) :=
          n_ys2 N3 (by subst_vars; rfl) (by subst_vars; rfl) (by subst_vars; rfl) (by subst_vars; rfl) (by rw [hv4]; rfl)
        have he : n % 2 ≠ 0 := by
          rename _ = n % 2 => e2
          rename @Ne Int _ 0 => e3
          rw [← e2]; exact e3
        obtain ⟨ys, hys, N4⟩ := N4
        clear N3
        refine append_K F3 N4 (Upd.tail (Nat.ne_of_gt q7) (Upd.tail (Ne.symm o1f) (Upd.tail (Nat.ne_of_gt hIn) (Upd.tail (Nat.ne_of_lt k3) (Upd.tail (Nat.ne_of_gt k5) (Upd.tail (Nat.ne_of_lt k4) (Upd.head n4.use))))))) ?_ (by rw [sizeLine_eq]; simp only [List.size_toArray]; omega)
        intro h4 F4 N5
        simp only [List.push_toArray] at N5
        clear F3 N4
        k_steps
        all_goals (try unfold Stop)
        refine endW (news' := (L' + 1, oN1) :: (D2, W.listOf lsp.toArray 0) :: (lp, W.listOf vp.toArray cp) :: (ln, W.listOf (vn ++ [Value.ref TT]).toArray (cn + 1)) :: (TT, tupO [.ref Df, .bool (decide (n % 4 = 1))]) :: (Df, LCg.lst ys) :: tl) F4 N5 (by walk_at "MyM") ?_ ?_ ⟨⟨by walk_at "MyM", trivial⟩, (oN1, vp, cp, vn ++ [Value.ref TT], cn + 1, (TT, tupO [.ref Df, .bool (decide (n % 4 = 1))]) :: (Df, LCg.lst ys) :: tl), ⟨nd ++ [n], _, _, hr9, by simpa using hnd, ?_, ?_, hoN1, (n1.cons (Ne.symm o1c)).cons (Nat.ne_of_gt q4), (n2.cons (Ne.symm o1d)).cons (Nat.ne_of_gt q5), (n3.cons (Ne.symm o1e)).cons (Nat.ne_of_gt q6), (n4.cons (Ne.symm o1f)).cons (Nat.ne_of_gt q7), ?_⟩, by walk_at "MyAll", rfl⟩
        · exact List.forall_mem_cons.mpr ⟨by walk_at "MyM", List.forall_mem_cons.mpr ⟨by walk_at "MyM", List.forall_mem_cons.mpr ⟨by walk_at "MyM", List.forall_mem_cons.mpr ⟨by walk_at "MyM", List.forall_mem_cons.mpr ⟨by walk_at "MyM", List.forall_mem_cons.mpr ⟨by walk_at "MyM", fun p hp => by walk_at "MyM"⟩⟩⟩⟩⟩⟩
        · exact List.forall_mem_cons.mpr ⟨.inl (Ne.symm hIc), List.forall_mem_cons.mpr ⟨.inl (Nat.ne_of_lt hI2), List.forall_mem_cons.mpr ⟨.inl (Nat.ne_of_lt hIp), List.forall_mem_cons.mpr ⟨.inl (Nat.ne_of_lt hIn), List.forall_mem_cons.mpr ⟨.inl (Nat.ne_of_gt q3), List.forall_mem_cons.mpr ⟨.inl (Ne.symm o1b), fun p hp => .inr (by rw [hoI]; exact hcl p hp)⟩⟩⟩⟩⟩⟩
        · rw [patsOf_odd he]
          exact hvp.mono fun v d h => h.more fun p hp => List.mem_cons_of_mem _ (List.mem_cons_of_mem _ hp)
        · rw [namsOf_odd he]
          exact (hvn.mono fun v d h => h.more fun p hp => List.mem_cons_of_mem _ (List.mem_cons_of_mem _ hp)).snoc ⟨TT, Df, ys, _, rfl, List.mem_cons_self .., List.mem_cons_of_mem _ (List.mem_cons_self ..), hys⟩
        · exact List.forall_mem_cons.mpr ⟨by walk_at "MyM", List.forall_mem_cons.mpr ⟨by simp [LCg.lst], hcl⟩⟩
  · rintro ⟨oN, vp, cp, vn, cn, tl⟩ uu h' tk' ⟨nd, nr, v₀, hr, hnd, hvp, hvn, hoN, n1, n2, n3, n4, hcl⟩ F' N'
    dsimp only at hvp hvn hoN n1 n2 n3 n4 hcl F' N'
    cases hr
    rw [List.append_nil] at hnd
    rw [hnd] at hvp hvn
    k_steps
    rename Fr _ _ _ _ => F3
    rename News _ _ _ _ => N3
    refine ret _ lp ln vp vn cp cn tl _ _ (Fr.keep F3) (fun p hp => ?_) hvp hvn
    have z := N3 p (by simp only [List.mem_cons] at hp ⊢; rcases hp with hp | hp | hp | hp <;> simp [hp])
    exact ⟨z.1, z.2.2⟩
end Mine

namespace Mine
theorem sjoin_flat : ∀ ds : List (List Nat), Str.join ⟨#[]⟩ (ds.map fun d => ⟨d.toArray⟩) = ⟨ds.flatten.toArray⟩
  | [] => rfl
  | [d] => by
    show (⟨d.toArray⟩ : Str) = _
    simp
  | d :: e :: r => by
    have ih := sjoin_flat (e :: r)
    show (⟨d.toArray⟩ : Str) ++ ⟨#[]⟩ ++ Str.join ⟨#[]⟩ ((e :: r).map fun d => ⟨d.toArray⟩) = _
    rw [ih]
    show (⟨d.toArray ++ #[] ++ (e :: r).flatten.toArray⟩ : Str) = _
    simp
theorem join_flat (ds : List (List Nat)) : Txt.join ⟨#[]⟩ (ds.map fun d => ⟨d.toArray⟩) = ⟨ds.flatten.toArray⟩ := by
  unfold Txt.join
  rw [StrLaws.glued_eq_join, sjoin_flat]
theorem Are.strs {vs : List Value} {ds : List (List Nat)} (h : Are TX vs ds) : StrsAre vs (ds.map fun d => ⟨d.toArray⟩) := by
  induction h with
  | nil => exact .nil
  | cons a _ ih =>
    obtain ⟨t, rfl⟩ := a
    exact .cons _ t ih
theorem flat_len (ds : List (List Nat)) : ((ds.map fun d => (⟨d.toArray⟩ : Str)).map (·.length)).sum = ds.flatten.length := by
  rw [List.map_map, List.length_flatten]
  congr 1
theorem flat_single {α : Type} {β : Type} (g : α → β) (l : List α) : (l.map fun f => [g f]).flatten = l.map g := by
  induction l with
  | nil => rfl
  | cons a r ih => rw [List.map_cons, List.flatten_cons, ih]; rfl
theorem take_snoc {α : Type} {β : Type} (g : α → β) {l : List α} {i : Nat} {f : α} (h : l[i]? = some f) : (l.take (i + 1)).map g = (l.take i).map g ++ [g f] := by
  rw [List.take_add_one, h]; simp
section
variable {prog : Program} {w : World} {A : Around} {E : Value → Shared → Prop} {s : Shared} {t : Tok} {Q : Value → Shared → Prop}
theorem join_t {D : Addr} {vs : List Value} {ds : List (List Nat)} {x : Str} (hx : x = ⟨#[]⟩) (hl : s.heap.IsList D vs.toArray) (hA : Are TX vs ds) (hf : ds.flatten.length ≤ 1000000) (h : ∀ t' k, Q (.str ⟨ds.flatten.toArray⟩ t') { s with toks := k }) :
    wpAny (model prog w) A (call (.builtin "str.join") [.str x t, .ref D]) Q E s := by
  subst hx
  refine join_list hl hA.strs ?_ fun t' k => ?_
  · rw [flat_len]
    show ds.flatten.length + _ * 0 ≤ _
    omega
  · rw [join_flat]; exact h t' k
end
end Mine

namespace Mine
def Loop2 : Prop := True
theorem Stop2.out {p : Prop} (_ : Loop2) (h : Stop p) : p := h
def PatH (h : Heap) (v : Value) (d : List Int) : Prop := ∃ a vs, v = .ref a ∧ h.IsList a (List.toArray vs) ∧ IntsAre vs d
def NamH (h : Heap) (v : Value) (d : List Int × Bool) : Prop := ∃ T a vs, v = .ref T ∧ IsTup h T #[.ref a, .bool d.2] ∧ h.IsList a (List.toArray vs) ∧ IntsAre vs d.1
inductive It where
  | txt (d : List Nat) : It
  | byt (d : List Int) : It
  | prs (l1 l2 : List Bool) : It
noncomputable def bls (l : List Bool) : List Value := l.map .bool
def ItL (tl : List (Addr × Obj)) (v : Value) : It → Prop
  | .txt d => ∃ t, v = .str ⟨d.toArray⟩ t
  | .byt d => ∃ b t, v = .bytes b t ∧ KBw.bInts b = d
  | .prs l1 l2 => ∃ T a b ca cb, v = .ref T ∧ (T, tupO [.ref a, .ref b]) ∈ tl ∧ (a, W.listOf (bls l1).toArray ca) ∈ tl ∧ (b, W.listOf (bls l2).toArray cb) ∈ tl
noncomputable def sg (f : Int) : Nat := if f = 62 then 34 else if f = 63 then 42 else 65
noncomputable def bareK (d : List Int) (k : Nat) : Bool := decide (d.getD k 0 ≠ 63 ∨ k = 0 ∨ d.getD (k - 1) 0 ≠ 63)
noncomputable def bareOf (d : List Int) (i : Nat) : List Int := ((List.range i).filter (bareK d)).map fun k => d.getD k 0
noncomputable def octL (d : List Int) : List Int := octs (d.getD 0 0) (d.getD 1 0) (d.getD 2 0) (d.getD 3 0)
noncomputable def errT : List Nat := [101, 114, 114, 111, 114, 95, 114, 101, 112, 108, 121]
noncomputable def dueN (ps : List (List Int)) (n : List Int × Bool) : List It := [if n.2 then .byt (octL n.1) else .txt errT, .prs (ps.map fun d => n.2 && fitsB d n.1) (ps.map fun d => n.2 && fitsB d n.1)]
theorem dueN_len {ps : List (List Int)} : ∀ pn : List (List Int × Bool), (pn.flatMap (dueN ps)).length = 2 * pn.length
  | [] => rfl
  | n :: r => by
    rw [List.flatMap_cons, List.length_append, dueN_len r]
    show 2 + 2 * r.length = 2 * (r.length + 1)
    omega
theorem ItL.more {tl tl' : List (Addr × Obj)} {v : Value} {d : It} (s : ∀ p ∈ tl, p ∈ tl') (h : ItL tl v d) : ItL tl' v d := by
  cases d with
  | txt d => exact h
  | byt d => exact h
  | prs l1 l2 =>
    obtain ⟨T, a, b, ca, cb, e, m1, m2, m3⟩ := h
    exact ⟨T, a, b, ca, cb, e, s _ m1, s _ m2, s _ m3⟩
theorem bls_snoc {α : Type} {f : α → Bool} {l : List α} {i : Nat} {d : α} (h : l[i]? = some d) : bls ((l.take (i + 1)).map f) = bls ((l.take i).map f) ++ [.bool (f d)] := by
  rw [take_snoc f h]; simp [bls]
noncomputable def dueOf (ps : List (List Int)) (ns : List (List Int × Bool)) : List It := ps.map (fun d => .txt ((bareOf d 4).map sg)) ++ ns.flatMap (dueN ps)
theorem ints4_inv {vs : List Value} {a b c d : Int} (h : IntsAre vs [a, b, c, d]) : ∃ ta tb tc td, vs = [.int a ta, .int b tb, .int c tc, .int d td] := by
  cases h with
  | cons _ ta h => cases h with
    | cons _ tb h => cases h with
      | cons _ tc h => cases h with
        | cons _ td h => cases h; exact ⟨ta, tb, tc, td, rfl⟩
theorem bare_true {d : List Int} {i : Nat} (h : bareK d i = true) : bareOf d (i + 1) = bareOf d i ++ [d.getD i 0] := by
  unfold bareOf; rw [List.range_succ, List.filter_append]; simp [h]
theorem bare_false {d : List Int} {i : Nat} (h : bareK d i = false) : bareOf d (i + 1) = bareOf d i := by
  unfold bareOf; rw [List.range_succ, List.filter_append]; simp [h]
theorem bareT {d : List Int} {i : Nat} {ys : List Value} {t : Tok} (hys : IntsAre ys (bareOf d i)) (h : bareK d i = true) : IntsAre (ys ++ [.int (d.getD (0 + (i : Int)).toNat 0) t]) (bareOf d (i + 1)) := by
  rw [bare_true h, show (0 + (i : Int)).toNat = i by omega]
  exact Are.toInts ((Are.ints hys).append (.cons ⟨t, rfl⟩ .nil))
theorem bareF {d : List Int} {i : Nat} {ys : List Value} (hys : IntsAre ys (bareOf d i)) (h : bareK d i = false) : IntsAre ys (bareOf d (i + 1)) := by
  rw [bare_false h]; exact hys
theorem bareK_0 {d : List Int} : bareK d 0 = true := by simp [bareK]
theorem bareK_ne {d : List Int} {i : Nat} (h : d.getD (0 + (i : Int)).toNat 0 ≠ 63) : bareK d i = true := by
  rw [show (0 + (i : Int)).toNat = i by omega] at h
  exact decide_eq_true (.inl h)
theorem bareK_pr {d : List Int} {i : Nat} (h : ¬ [d.getD (i - 1) 0] = [63]) : bareK d i = true :=
  decide_eq_true (.inr (.inr fun e => h (by rw [e])))
theorem bareK_no {d : List Int} {i : Nat} (h1 : d.getD (0 + (i : Int)).toNat 0 = 63) (h2 : [d.getD (i - 1) 0] = [63]) (hi : i ≠ 0) : bareK d i = false := by
  rw [show (0 + (i : Int)).toNat = i by omega] at h1
  refine decide_eq_false fun h => ?_
  rcases h with h | h | h
  · exact h h1
  · exact hi h
  · injection h2 with h2; exact h h2
theorem bare_mem {d : List Int} {i : Nat} {f : Int} (h : f ∈ bareOf d i) (hd : i ≤ d.length) : f ∈ d := by
  unfold bareOf at h
  obtain ⟨k, hk, rfl⟩ := List.mem_map.mp h
  have := List.mem_range.mp (List.mem_filter.mp hk).1
  rw [List.getD_eq_getElem?_getD, List.getElem?_eq_getElem (by omega)]
  exact List.getElem_mem _
theorem bare_len {d : List Int} {i : Nat} : (bareOf d i).length ≤ i := by
  unfold bareOf; rw [List.length_map]
  exact Nat.le_trans (List.length_filter_le _ _) (by simp)
theorem int_at' {ws : List Value} {R : List Int} (h : IntsAre ws R) {i : Nat} {v : Value} (e : ws.toArray[i]? = some v) : ∃ j t, R[i]? = some j ∧ v = .int j t := by
  obtain ⟨d, hd, t, rfl⟩ := (Are.ints h).get (by simpa using e)
  exact ⟨d, t, hd, rfl⟩
def F3 (d : List Int) (b : Int) : Prop := d.length = 4 ∧ ∀ f ∈ d, f = 0 ∨ f = 62 ∨ f = b

theorem lines_C14_1 : True := by
  k_with_none
  k_with "MyEnter" => (
    w_on
    refine wpAny_call ?_
    refine' enterP ‹Frag.In _ _› (Top.nolimit ‹_›) ?k6 ?k7 (by walk_at "MyD") ?k9 ?kB ?_ ?c2 ?c3 ?c4 ?c5
    (case k6 => k_is)
    (case k7 => k_is)
    (case k9 => first | exact BindsTo.of_eq rfl | exact binds_K (by k_in) rfl (by k_is) rfl rfl rfl)
    (case kB => exact locs rfl)
    (case c5 => decide)
    (case c2 => exact rfl)
    (case c3 => exact rfl)
    (case c4 => exact rfl)
    intro _ _ _
    try dsimp only
    try k_fold)
  k_with "MyRoom" => (first | assumption | ((try dsimp only [Ar, Around.deeper, Around.in1, Around.mark] at *); omega))
  k_with "call type:type" => ((with_reducible show wpAny _ _ (call _ [Value.bytes _ _]) _ _ _); refine call_type_of (Tx := "bytes") rfl (by decide +kernel) ?_)
  k_with "MyX" => (first | assumption | exact Frag.In.keeps (by assumption) (Fr.keep (by k_asm)))
  k_with "MyT" => (first | assumption | exact Top.keeps (by assumption) (Fr.keep (by k_asm)))
  k_with "MyD" => (first | assumption | ((try dsimp only [Ar, Around.deeper, Around.in1, Around.mark] at *); omega))
  k_with "MyAll" => (repeat' (first | exact List.forall_mem_nil _ | refine List.forall_mem_cons.mpr ⟨by first | rfl | (k_dflt k_asm), ?_⟩))
  k_with "MyM" => (first | ((repeat' (first | exact List.mem_cons_self .. | assumption | apply List.mem_cons_of_mem)); done) | simp)
  k_with "exec For Tuple Name cons nil" => (refine Stop.out ?_)
  k_with "exec For Name Name cons nil" => (refine Stop.out ?_)
  k_with "pyIter ref" => ((with_reducible show wpAny _ _ (pyIter (Value.ref _)) (fun it s₂ => TurnsAt _ _ _ _ _ _ _ _ _ it s₂) _ _); refine Stop.out ?_)
  k_with "assign Name" => (refine Stop.out ?_)
  k_with "CompSrcT" => (refine Stop.out ?_)
  k_with "call ref" => (refine Stop.out ?_)
  k_with "CompEnd" => (refine Stop.out ?_)
  k_with "FinA" => (refine Stop.out ?_)
  k_with "UnrPostW" => (refine Stop.out ?_)
  k_with "CompSrc" => (refine Stop.out ?_)
  k_with "exec Assign cons ListComp" => ((fail_if_success (have := ‹Loop2›)); k_dflt (refine LCt.Assign_ListComp_T (F₀ := by k_asm) (by rfl) (by with_unfolding_all rfl) (by with_unfolding_all rfl) (by decide) (by rfl) (by decide) (by rfl) (by rfl) (by rfl) ?_))
  k_with "call builtin:str.join" => (refine Stop.out ?_)
  k_with "call builtin:list.append" => (k_here; (dsimp only [List.nil_append, List.cons_append]); k_dflt (refine' append_K ?k1 ?k2 ?k3 ?_ ?z; (case k1 => k_asm); (case k2 => k_asm); (case k3 => k_upd); (case z => (rw [sizeLine_eq]; simp only [List.size_toArray]; omega))); intro _ _ _; (try k_sweep))
  k_with "call builtin:list.append" => ((with_reducible show wpAny _ _ (call (Value.builtin "list.append") _) _ _ _); refine Stop2.out ‹Loop2› ?_)
  trivial

theorem due_c {w : World} {loose : List Str} {mean : ExcName → Option Value} {mg mb : Str → Option Value} {dp un : Nat} {fr : Option (List Env)} {gd : Option (List Code)} {s : Shared} {Q : Value → Shared → Prop} {E : Value → Shared → Prop}
    (T : Top topProg loose mean mg mb s.heap) (hD : dp + 2 < recursionLimit) (hu : un + 40 < cLine) {lp ln : Addr} {vp vn : List Value} {ps : List (List Int)} {nms : List (List Int × Bool)} (hlp : s.heap.IsList lp vp.toArray) (hln : s.heap.IsList ln vn.toArray) (hp : Are (PatH s.heap) vp ps) (hn : Are (NamH s.heap) vn nms) (hp3 : ∀ d ∈ ps, F3 d 63) (hn3 : ∀ d ∈ nms, F3 d.1 1) (hpl : ps.length ≤ 13) (hnl : nms.length ≤ 13) (hD20 : dp + 20 < recursionLimit) (hu20 : un + 1000 < cLine)
    (ret : ∀ D vd cd tl h' tk, Kp s.heap h' → (∀ p ∈ (D, W.listOf (List.toArray vd) cd) :: tl, h'.get? p.1 = some p.2 ∧ s.heap.get? p.1 = none) → Are (ItL tl) vd (dueOf ps nms) → Q (.ref D) { s with heap := h', toks := tk }) (X : (kmk.heap_1 w.params).In s.heap) :
    wpAny (model Challenge.rw_kt0015_01.row.prog w) (Ar dp un fr gd) (call (.ref 214) [.ref lp, .ref ln]) Q E s := by
  revert X; k_fill; intro X
  w_on
  refine wpAny_call ?_
  refine' enterPC (binds := [(Str.ofString "patterns", .ref lp), (Str.ofString "names", .ref ln)]) ‹Frag.In _ _› (Top.nolimit ‹_›) ?k6 ?k7 (by walk_at "MyD") ?k9 ?kB ?kD ?_ ?c2 ?c3 ?c4
  case k6 => k_is
  case k7 => k_is
  case k9 => first | exact BindsTo.of_eq rfl | exact binds_K (by k_in) rfl (by k_is) rfl rfl rfl
  case kB => exact rfl
  case kD => decide +kernel
  case c2 => exact rfl
  case c3 => exact rfl
  case c4 => exact rfl
  intro L' h₁ tk₁ cells' F N Y'
  k_cells Y'
  try simp only [List.cons_append, List.nil_append] at N
  all_goals (try dsimp [bindC, envOfC, Env.kindOf] at d1')
  try dsimp only
  try k_fold
  k_steps
  unfold Stop
  rename Fr _ _ _ _ => F0
  rename News _ _ _ _ => N0
  rename_i oR oF oI0 hoR0 hoF0 hoI D0 _ lD _
  have hc1 : ∃ v, oF.data = .cell v := ⟨_, hoF0⟩
  have hc2 : ∃ v, oR.data = .cell v := ⟨_, hoR0⟩
  obtain ⟨vF, hoF⟩ := hc1
  obtain ⟨vR, hoR⟩ := hc2
  clear hoF0 hoR0
  have hc0 : ∃ v, oI0.data = .cell v := ⟨_, hoI⟩
  refine For_turns F0 ?_
  k_steps
  unfold Stop
  have N2 : News s.heap L' _ [(L' + 1, oI0), (L' + 1 + 1, oF), (L' + 1 + 1 + 1, oR), (D0, W.listOf #[] 0)] := fun p hp => N0 p (SubL.mem (l := [_, _, _, _]) ⟨by walk_at "MyM", by walk_at "MyM", by walk_at "MyM", by walk_at "MyM", trivial⟩ p hp)
  refine baseTurns rfl F0 N2 hlp (fun I hI => ?_)
  have kI1 : I ≠ L' + 1 := Nat.ne_of_gt (hI (L' + 1, oI0) (by walk_at "MyM"))
  have kI2 : I ≠ L' + 1 + 1 := Nat.ne_of_gt (hI (L' + 1 + 1, oF) (by walk_at "MyM"))
  have kI3 : I ≠ L' + 1 + 1 + 1 := Nat.ne_of_gt (hI (L' + 1 + 1 + 1, oR) (by walk_at "MyM"))
  have kI4 : I ≠ D0 := Nat.ne_of_gt (hI (D0, W.listOf #[] 0) (by walk_at "MyM"))
  have kD1 : D0 ≠ L' + 1 := Nat.ne_of_gt lD.2.2
  refine items_inv (σ := Obj × List Value × Nat) (fun c => [(L' + 1, c.1), (L' + 1 + 1, oF), (L' + 1 + 1 + 1, oR), (D0, W.listOf c.2.1.toArray c.2.2)])
    (fun c => [(Str.ofString "patterns", .ref lp), (Str.ofString "names", .ref ln), (Str.ofString "due", .ref D0)])
    (fun r c => ∃ pd pr v₀, Are (PatH s.heap) r pr ∧ pd ++ pr = ps ∧ Are (ItL []) c.2.1 (pd.map fun d => .txt ((bareOf d 4).map sg)) ∧ c.1.data = .cell v₀)
    ?_ ?_ vp _ (oI0, [], 0) ⟨[], ps, _, hp, rfl, .nil, hc0.choose_spec⟩ (by walk_at "MyAll")
  · rintro v r ⟨oI, vd, cd⟩ uu h' tk' ⟨pd, pr, v₀, hr, hpd, hvd, hoI⟩ F' oIt hoIt N'
    dsimp only at hvd hoI F' N'
    cases hr with
    | cons hv hr' =>
      rename_i d pr'
      have hr9 : Stop (Are (PatH s.heap) r pr') := hr'
      clear hr'
      obtain ⟨a, vs, rfl, hla, hia⟩ := hv
      obtain ⟨hd4, hdf⟩ := hp3 d (by rw [← hpd]; simp)
      obtain ⟨a0, a1, a2, a3, rfl⟩ : ∃ a0 a1 a2 a3, d = [a0, a1, a2, a3] := by
        match d, hd4 with
        | [a0, a1, a2, a3], _ => exact ⟨a0, a1, a2, a3, rfl⟩
      obtain ⟨t0, t1, t2, t3, rfl⟩ := ints4_inv hia
      k_steps
      unfold Stop
      refine wpAny_assign_Name (storeX_C F' N' rfl (UpdF.tail kI1 (UpdF.head (List.forall_mem_cons.mpr ⟨Nat.succ_ne_self _, List.forall_mem_cons.mpr ⟨Nat.ne_of_gt (Nat.lt_add_of_pos_right (n := L' + 1) (k := 2) (by decide)), List.forall_mem_cons.mpr ⟨kD1, fun _ h => nomatch h⟩⟩⟩))) hoI (fun h2 oI1 F1 N1 hoI1 => ?_) rfl rfl)
      clear F' N'
      try dsimp only [List.cons_append, List.nil_append] at N1
      try dsimp only
      k_steps
      unfold Stop
      refine LCt.CompSrcT.range rfl (by k_asm) (by k_asm) (by assumption) (by first | decide | rfl) (by first | rfl | decide) (by exact Nat.le_of_ble_eq_true rfl) ?_
      intro g
      refine compT_inv (fun i ys nw => nw = [(I, oIt), (L' + 1, oI1), (L' + 1 + 1, oF), (L' + 1 + 1 + 1, oR), (D0, W.listOf vd.toArray cd)] ∧ IntsAre ys (bareOf [a0, a1, a2, a3] i)) 4 ?_ ?_ _ 0 [] _ (by walk_at "MyM") ⟨rfl, .nil⟩
      · rintro i ys nw v I' oI' C oC E2 m₂ h3 tk3 E2' hi ⟨tv, rfl⟩ ⟨rfl, hys⟩ hC hx F2 N2 off ne
        have hi4 : i = 0 ∨ i = 1 ∨ i = 2 ∨ i = 3 := by omega
        rcases hi4 with rfl | rfl | rfl | rfl
        all_goals k_steps
        all_goals (unfold Stop; refine LCg.CompEnd.intro (by k_asm) (by k_asm) _ (by first | exact fun p hp => hp | exact fun p hp => List.mem_cons_of_mem _ hp | exact fun p hp => List.mem_cons_of_mem _ (List.mem_cons_of_mem _ hp)) off trivial ⟨rfl, ?_⟩)
        all_goals first | exact bareT hys bareK_0 | exact bareT hys (bareK_ne (by assumption)) | exact bareT hys (bareK_pr (by assumption)) | exact bareF hys (bareK_no (by assumption) (by assumption) (by decide))
      · rintro ys nw ⟨rfl, hys⟩
        intro D2 h3 tk3 F3' N3 o1
        dsimp only [LCg.Off1] at o1
        have hys9 : Stop (IntsAre ys (bareOf [a0, a1, a2, a3] 4)) := hys
        clear hys
        k_steps
        unfold Stop
        have hyl := hys9.length
        have hbl := bare_len (d := [a0, a1, a2, a3]) (i := 4)
        refine LCg.CompSrc.ledger rfl (by k_asm) N3 (ax := D2) (its := ys.toArray) (k := ys.length) (List.mem_cons_self ..) (by rw [sizeLine_eq]; simp; omega) ?_
        intro g2
        refine comp_inv (fun i zs nw => nw = [(D2, LCg.lst ys), (I, oIt), (L' + 1, oI1), (L' + 1 + 1, oF), (L' + 1 + 1 + 1, oR), (D0, W.listOf vd.toArray cd)] ∧ Are TX zs (((bareOf [a0, a1, a2, a3] 4).take i).map fun f => [sg f])) ys.length ?_ ?_ _ 0 [] _ (by walk_at "MyM") ⟨rfl, .nil⟩
        · rintro i zs nw v I' oI' C oC E2 m₂ h6 tk6 E2' hi hP ⟨rfl, hzs⟩ hC hx F2 N2 off ne
          obtain ⟨f, tf, hf, rfl⟩ := int_at' hys9 hP
          have hfm := hdf f (bare_mem (List.mem_of_getElem? hf) (Nat.le_refl _))
          have hf9 : Stop ((bareOf [a0, a1, a2, a3] 4)[i]? = some f) := hf
          clear hf hP
          rcases hfm with rfl | rfl | rfl
          all_goals k_steps
          all_goals (unfold Stop; refine LCg.CompEnd.intro (by k_asm) (by k_asm) _ (by first | exact fun p hp => hp | exact fun p hp => List.mem_cons_of_mem _ hp | exact fun p hp => List.mem_cons_of_mem _ (List.mem_cons_of_mem _ hp)) off (.inr ⟨LCg.lst ys, by walk_at "MyM", rfl, _, rfl⟩) ⟨rfl, ?_⟩)
          all_goals (rw [take_snoc (fun f => [sg f]) hf9]; exact hzs.append (.cons ⟨_, rfl⟩ .nil))
        · rintro zs nw ⟨rfl, hzs⟩
          rw [List.take_of_length_le (by omega)] at hzs
          intro DJ h7 tk7 F6 N6 o2
          dsimp only [LCg.Off1] at o2
          k_steps
          unfold Stop
          refine join_t (by rfl) (News.isList N6 (List.mem_cons_self ..)) hzs (by rw [flat_single]; simp only [List.length_map]; omega) ?_
          rw [flat_single]
          intro tj kj
          have hvl := hvd.length
          have hpl9 : pd.length ≤ 13 := by rw [← hpd] at hpl; rw [List.length_append] at hpl; omega
          rw [List.length_map] at hvl
          k_steps
          all_goals (try unfold Stop)
          rename Fr _ _ _ _ => F7
          rename News _ _ _ _ => N7
          try simp only [List.push_toArray] at N7
          refine UnrEndW.intro F7 N7 [(L' + 1, oI1), (L' + 1 + 1, oF), (L' + 1 + 1 + 1, oR), (D0, W.listOf (vd ++ [Value.str ⟨((bareOf [a0, a1, a2, a3] 4).map sg).toArray⟩ tj]).toArray (cd + 1))] ⟨by walk_at "MyM", trivial⟩ ⟨by walk_at "MyM", by walk_at "MyM", by walk_at "MyM", by walk_at "MyM", trivial⟩ ⟨⟨.inl (Ne.symm kI1), trivial⟩, ⟨.inl (Ne.symm kI2), trivial⟩, ⟨.inl (Ne.symm kI3), trivial⟩, ⟨.inl (Ne.symm kI4), trivial⟩, trivial⟩ ⟨trivial, (oI1, vd ++ [Value.str ⟨((bareOf [a0, a1, a2, a3] 4).map sg).toArray⟩ tj], cd + 1), ⟨pd ++ [[a0, a1, a2, a3]], pr', _, hr9, by simpa using hpd, ?_, hoI1⟩, by walk_at "MyAll", rfl⟩
          rw [List.map_append]
          exact hvd.append (.cons ⟨tj, rfl⟩ .nil)
  · rintro ⟨oI, vd, cd⟩ uu h' tk' ⟨pd, pr, v₀, hr, hpd, hvd, hoI⟩ F' N'
    dsimp only at hvd hoI F' N'
    cases hr
    rw [List.append_nil] at hpd
    rw [hpd] at hvd
    clear hpd
    k_steps
    unfold Stop
    refine For_turns (by assumption) ?_
    k_steps
    unfold Stop
    rename Fr _ _ _ _ => F1
    rename News _ _ _ _ => N1
    clear kI1 kI2 kI3 kI4 hI
    refine baseTurns rfl F1 N1 hln (fun I hI => ?_)
    have kI1 : I ≠ L' + 1 := Nat.ne_of_gt (hI (L' + 1, oI) (by walk_at "MyM"))
    have kI2 : I ≠ L' + 1 + 1 := Nat.ne_of_gt (hI (L' + 1 + 1, oF) (by walk_at "MyM"))
    have kI3 : I ≠ L' + 1 + 1 + 1 := Nat.ne_of_gt (hI (L' + 1 + 1 + 1, oR) (by walk_at "MyM"))
    have kI4 : I ≠ D0 := Nat.ne_of_gt (hI (D0, W.listOf vd.toArray cd) (by walk_at "MyM"))
    have kD2 : D0 ≠ L' + 1 + 1 := Nat.ne_of_gt lD.2.1
    have kD3 : D0 ≠ L' + 1 + 1 + 1 := Nat.ne_of_gt lD.1
    have kc12 : L' + 1 ≠ L' + 1 + 1 := Nat.ne_of_lt (Nat.lt_succ_self _)
    have kc23 : L' + 1 + 1 ≠ L' + 1 + 1 + 1 := Nat.ne_of_lt (Nat.lt_succ_self _)
    have kc13 : L' + 1 ≠ L' + 1 + 1 + 1 := Nat.ne_of_lt (Nat.lt_trans (Nat.lt_succ_self _) (Nat.lt_succ_self _))
    refine items_inv (σ := Obj × Obj × List Value × Nat × List (Addr × Obj)) (fun c => (L' + 1, oI) :: (L' + 1 + 1, c.1) :: (L' + 1 + 1 + 1, c.2.1) :: (D0, W.listOf c.2.2.1.toArray c.2.2.2.1) :: c.2.2.2.2)
      (fun c => [(Str.ofString "patterns", .ref lp), (Str.ofString "names", .ref ln), (Str.ofString "due", .ref D0)])
      (fun r c => ∃ pn rn v₀ v₁, Are (NamH s.heap) r rn ∧ pn ++ rn = nms ∧ Are (ItL c.2.2.2.2) c.2.2.1 (ps.map (fun d => .txt ((bareOf d 4).map sg)) ++ pn.flatMap (dueN ps)) ∧ c.1.data = .cell v₀ ∧ c.2.1.data = .cell v₁ ∧ NeTl (L' + 1) c.2.2.2.2 ∧ NeTl (L' + 1 + 1) c.2.2.2.2 ∧ NeTl (L' + 1 + 1 + 1) c.2.2.2.2 ∧ NeTl D0 c.2.2.2.2 ∧ ∀ p ∈ c.2.2.2.2, p.2.cls ≠ .type "list_iterator")
      ?_ ?_ vn _ (oF, oR, vd, cd, []) ⟨[], nms, _, _, hn, rfl, by simpa using hvd, hoF, hoR, neTl_nil, neTl_nil, neTl_nil, neTl_nil, fun _ h => nomatch h⟩ (by walk_at "MyAll")
    · rintro v r ⟨oF, oR, vd, cd, tl⟩ uu h' tk' ⟨pn, rn, v₀, v₁, hr, hpn, hvd, hoF, hoR, n1, n2, n3, n4, hcl⟩ F' oIt hoIt N'
      dsimp only at hvd hoF hoR n1 n2 n3 n4 hcl F' N'
      cases hr with
      | cons hv hr' =>
        rename_i d rn'
        have hr9 : Stop (Are (NamH s.heap) r rn') := hr'
        clear hr'
        obtain ⟨d, b⟩ := d
        obtain ⟨TT, a, vs, rfl, hTT, hla, hia⟩ := hv
        obtain ⟨hd4, hdf⟩ := hn3 (d, b) (by rw [← hpn]; simp)
        dsimp only at hia hd4 hdf hTT
        obtain ⟨a0, a1, a2, a3, rfl⟩ : ∃ a0 a1 a2 a3, d = [a0, a1, a2, a3] := by
          match d, hd4 with
          | [a0, a1, a2, a3], _ => exact ⟨a0, a1, a2, a3, rfl⟩
        obtain ⟨t0, t1, t2, t3, rfl⟩ := ints4_inv hia
        have mk2 : Loop2 := trivial
        have hvl := hvd.length
        rw [List.length_append, List.length_map, dueN_len] at hvl
        have hpnl : pn.length ≤ 13 := by rw [← hpn, List.length_append] at hnl; omega
        have hz0 : vd.toArray.size ≤ sizeLine := by rw [sizeLine_eq, List.size_toArray]; omega
        have hz1 : ∀ x, (vd ++ [x]).toArray.size ≤ sizeLine := by intro x; rw [sizeLine_eq, List.size_toArray, List.length_append]; simp only [List.length_cons, List.length_nil]; omega
        have hzp : vp.toArray.size ≤ sizeLine := by rw [sizeLine_eq, List.size_toArray, hp.length]; omega
        have hdb : ∀ f ∈ [a0, a1, a2, a3], 0 ≤ f ∧ f < 64 := fun f hf => by rcases hdf f hf with rfl | rfl | rfl <;> decide
        clear hvl hpnl
        cases b with
        | true =>
          k_steps
          unfold Stop
          rename Fr _ _ _ _ => F3
          rename News _ _ _ _ => N3
          refine wpAny_assign_Name (storeX_C F3 N3 rfl (UpdF.tail kI2 (UpdF.tail kc12 (UpdF.head (List.forall_mem_cons.mpr ⟨Ne.symm kc23, List.forall_mem_cons.mpr ⟨kD2, n2.use⟩⟩)))) hoF (fun h2 oF1 F1 N1 hoF1 => ?_) rfl rfl)
          clear F3 N3
          try dsimp only [List.cons_append, List.nil_append] at N1
          try dsimp only
          k_steps
          unfold Stop
          refine wpAny_assign_Name (storeX_C F1 N1 rfl (UpdF.tail kI3 (UpdF.tail kc13 (UpdF.tail kc23 (UpdF.head (List.forall_mem_cons.mpr ⟨kD3, n3.use⟩))))) hoR (fun h3 oR1 F3 N3 hoR1 => ?_) rfl rfl)
          clear F1 N1
          try dsimp only [List.cons_append, List.nil_append] at N3
          try dsimp only
          k_steps
          unfold Stop
          refine oct_c (by walk_at "MyT") (by walk_at "MyD") (by walk_at "MyD") (hla.at fun o e => Fr.keep F3 _ o e) (hdb a0 (by walk_at "MyM")) (hdb a1 (by walk_at "MyM")) (hdb a2 (by walk_at "MyM")) (hdb a3 (by walk_at "MyM")) ?_ (by walk_at "MyX")
          intro v5 h5 tk5 t5 hv5 hk5
          have F5 := F3.keeps hk5
          have N5 := N3.grown hk5
          clear F3 N3
          k_steps
          unfold Stop
          rename Fr _ _ _ _ => F5
          rename News _ _ _ _ => N5
          refine append_K F5 N5 (Upd.tail kI4 (Upd.tail (Ne.symm kD1) (Upd.tail (Ne.symm kD2) (Upd.tail (Ne.symm kD3) (Upd.head n4.use))))) ?_ hz0
          intro h6 F6 N6
          rw [List.push_toArray] at N6
          clear F5 N5
          generalize hK : Value.bytes v5 t5 = y1 at N6
          have hy1 : ItL tl y1 (It.byt (octL [a0, a1, a2, a3])) := by rw [← hK]; exact ⟨_, _, rfl, hv5⟩
          clear hK
          k_steps
          unfold Stop
          rename Fr _ _ _ _ => F7
          rename News _ _ _ _ => N7
          refine LCg.CompSrc.base rfl F7 N7 hlp hzp ?_
          intro g
          refine comp_inv (fun i ys nw => nw = (I, oIt) :: (L' + 1, oI) :: (L' + 1 + 1, oF1) :: (L' + 1 + 1 + 1, oR1) :: (D0, W.listOf (vd ++ [y1]).toArray (cd + 1)) :: tl ∧ ys = bls ((ps.take i).map fun d => true && fitsB d [a0, a1, a2, a3])) vp.length ?_ ?_ _ 0 [] _ (by walk_at "MyM") ⟨rfl, rfl⟩
          · rintro i ys nw v I' oI' C oC E2 m₂ h8 tk8 E2' hi hP ⟨rfl, rfl⟩ hC hx F2 N2 off ne
            obtain ⟨d, hd, ax, vx, rfl, hlx, hix⟩ := hp.get (show vp[i]? = some v by simpa using hP)
            have hd9 : Stop (ps[i]? = some d) := hd
            have hdl := (hp3 d (List.mem_of_getElem? hd)).1
            clear hd hP
            k_steps
            unfold Stop
            refine fit_use (fit_h 8) (by walk_at "MyT") (by walk_at "MyD") (by walk_at "MyD") (hlx.at fun o e => Fr.keep F2 _ o e) (hla.at fun o e => Fr.keep F2 _ o e) hix hia (by rw [hdl]; exact Nat.le_refl 8) (by decide) ?_ (by walk_at "MyX")
            intro h9 tk9 hk9
            have F9 := F2.keeps hk9
            have N9 := N2.grown hk9
            clear F2 N2
            k_steps
            unfold Stop
            refine LCg.CompEnd.intro (by k_asm) (by k_asm) _ (by first | exact fun p hp => hp | exact fun p hp => List.mem_cons_of_mem _ hp) off (.inl hlp) ⟨rfl, ?_⟩
            rw [bls_snoc hd9]; rfl
          · rintro ys nw ⟨rfl, rfl⟩
            rw [show ps.take vp.length = ps from List.take_of_length_le (by rw [hp.length]; exact Nat.le_refl _)]
            intro DT h9 tk9 F9 N9 o9
            dsimp only [LCg.Off1] at o9
            obtain ⟨e1, e2, e3, e4, e5, e6⟩ := o9
            k_steps
            unfold Stop
            rename Fr _ _ _ _ => F10
            rename News _ _ _ _ => N10
            rename_i TN _ lT
            obtain ⟨q1, q2, q3, q4, q5, q6, q7⟩ := lT
            refine append_K F10 N10 (Upd.tail (Nat.ne_of_gt q6) (Upd.tail (Ne.symm e5) (Upd.tail kI4 (Upd.tail (Ne.symm kD1) (Upd.tail (Ne.symm kD2) (Upd.tail (Ne.symm kD3) (Upd.head n4.use))))))) ?_ (hz1 _)
            intro h11 F11 N11
            rw [List.push_toArray] at N11
            clear F10 N10
            k_steps
            unfold Stop
            refine endW (news' := (L' + 1, oI) :: (L' + 1 + 1, oF1) :: (L' + 1 + 1 + 1, oR1) :: (D0, W.listOf (vd ++ [y1] ++ [Value.ref TN]).toArray (cd + 1 + 1)) :: (TN, tupO [.ref DT, .ref DT]) :: (DT, LCg.lst (bls (List.map (fun d => true && fitsB d [a0, a1, a2, a3]) ps))) :: tl) F11 N11 (by walk_at "MyM") ?_ ?_ ⟨trivial, (oF1, oR1, vd ++ [y1] ++ [Value.ref TN], cd + 1 + 1, (TN, tupO [.ref DT, .ref DT]) :: (DT, LCg.lst (bls (List.map (fun d => true && fitsB d [a0, a1, a2, a3]) ps))) :: tl), ⟨pn ++ [([a0, a1, a2, a3], true)], rn', _, _, hr9, by simpa using hpn, ?_, hoF1, hoR1, (n1.cons (Ne.symm e2)).cons (Nat.ne_of_gt q3), (n2.cons (Ne.symm e3)).cons (Nat.ne_of_gt q4), (n3.cons (Ne.symm e4)).cons (Nat.ne_of_gt q5), (n4.cons (Ne.symm e5)).cons (Nat.ne_of_gt q6), List.forall_mem_cons.mpr ⟨by walk_at "MyM", List.forall_mem_cons.mpr ⟨by simp [LCg.lst], hcl⟩⟩⟩, by walk_at "MyAll", rfl⟩
            · exact List.forall_mem_cons.mpr ⟨by walk_at "MyM", List.forall_mem_cons.mpr ⟨by walk_at "MyM", List.forall_mem_cons.mpr ⟨by walk_at "MyM", List.forall_mem_cons.mpr ⟨by walk_at "MyM", List.forall_mem_cons.mpr ⟨by walk_at "MyM", List.forall_mem_cons.mpr ⟨by walk_at "MyM", fun p hp => by walk_at "MyM"⟩⟩⟩⟩⟩⟩
            · exact List.forall_mem_cons.mpr ⟨.inl (Ne.symm kI1), List.forall_mem_cons.mpr ⟨.inl (Ne.symm kI2), List.forall_mem_cons.mpr ⟨.inl (Ne.symm kI3), List.forall_mem_cons.mpr ⟨.inl (Ne.symm kI4), List.forall_mem_cons.mpr ⟨.inl (Nat.ne_of_gt q2), List.forall_mem_cons.mpr ⟨.inl (Ne.symm e1), fun p hp => .inr (by rw [hoIt]; exact hcl p hp)⟩⟩⟩⟩⟩⟩
            · have e : (pn ++ [([a0, a1, a2, a3], true)]).flatMap (dueN ps) = pn.flatMap (dueN ps) ++ [It.byt (octL [a0, a1, a2, a3])] ++ [It.prs (List.map (fun d => true && fitsB d [a0, a1, a2, a3]) ps) (List.map (fun d => true && fitsB d [a0, a1, a2, a3]) ps)] := by
                rw [List.flatMap_append, List.append_assoc]; rfl
              rw [e, ← List.append_assoc, ← List.append_assoc]
              exact ((hvd.mono fun v d h => h.more fun p hp => List.mem_cons_of_mem _ (List.mem_cons_of_mem _ hp)).snoc (hy1.more fun p hp => List.mem_cons_of_mem _ (List.mem_cons_of_mem _ hp))).snoc ⟨TN, DT, DT, _, _, rfl, List.mem_cons_self .., List.mem_cons_of_mem _ (List.mem_cons_self ..), List.mem_cons_of_mem _ (List.mem_cons_self ..)⟩
        | false =>
          k_steps
          unfold Stop
          rename Fr _ _ _ _ => F3
          rename News _ _ _ _ => N3
          refine wpAny_assign_Name (storeX_C F3 N3 rfl (UpdF.tail kI2 (UpdF.tail kc12 (UpdF.head (List.forall_mem_cons.mpr ⟨Ne.symm kc23, List.forall_mem_cons.mpr ⟨kD2, n2.use⟩⟩)))) hoF (fun h2 oF1 F1 N1 hoF1 => ?_) rfl rfl)
          clear F3 N3
          try dsimp only [List.cons_append, List.nil_append] at N1
          try dsimp only
          k_steps
          unfold Stop
          refine wpAny_assign_Name (storeX_C F1 N1 rfl (UpdF.tail kI3 (UpdF.tail kc13 (UpdF.tail kc23 (UpdF.head (List.forall_mem_cons.mpr ⟨kD3, n3.use⟩))))) hoR (fun h3 oR1 F3 N3 hoR1 => ?_) rfl rfl)
          clear F1 N1
          try dsimp only [List.cons_append, List.nil_append] at N3
          try dsimp only
          k_steps
          unfold Stop
          rename Fr _ _ _ _ => F5
          rename News _ _ _ _ => N5
          refine append_K F5 N5 (Upd.tail kI4 (Upd.tail (Ne.symm kD1) (Upd.tail (Ne.symm kD2) (Upd.tail (Ne.symm kD3) (Upd.head n4.use))))) ?_ hz0
          intro h6 F6 N6
          rw [List.push_toArray] at N6
          clear F5 N5
          generalize hK : Value.str (Str.ofString "error_reply") _ = y1 at N6
          have hy1 : ItL tl y1 (It.txt errT) := by rw [← hK]; exact ⟨_, rfl⟩
          clear hK
          k_steps
          unfold Stop
          rename Fr _ _ _ _ => F7
          rename News _ _ _ _ => N7
          refine LCg.CompSrc.base rfl F7 N7 hlp hzp ?_
          intro g
          refine comp_inv (fun i ys nw => nw = (I, oIt) :: (L' + 1, oI) :: (L' + 1 + 1, oF1) :: (L' + 1 + 1 + 1, oR1) :: (D0, W.listOf (vd ++ [y1]).toArray (cd + 1)) :: tl ∧ ys = bls ((ps.take i).map fun d => false && fitsB d [a0, a1, a2, a3])) vp.length ?_ ?_ _ 0 [] _ (by walk_at "MyM") ⟨rfl, rfl⟩
          · rintro i ys nw v I' oI' C oC E2 m₂ h8 tk8 E2' hi hP ⟨rfl, rfl⟩ hC hx F2 N2 off ne
            obtain ⟨d, hd, ax, vx, rfl, hlx, hix⟩ := hp.get (show vp[i]? = some v by simpa using hP)
            have hd9 : Stop (ps[i]? = some d) := hd
            have hdl := (hp3 d (List.mem_of_getElem? hd)).1
            clear hd hP
            k_steps
            unfold Stop
            refine LCg.CompEnd.intro (by k_asm) (by k_asm) _ (by first | exact fun p hp => hp | exact fun p hp => List.mem_cons_of_mem _ hp) off (.inl hlp) ⟨rfl, ?_⟩
            rw [bls_snoc hd9]; rfl
          · rintro ys nw ⟨rfl, rfl⟩
            rw [show ps.take vp.length = ps from List.take_of_length_le (by rw [hp.length]; exact Nat.le_refl _)]
            intro DT h9 tk9 F9 N9 o9
            dsimp only [LCg.Off1] at o9
            obtain ⟨e1, e2, e3, e4, e5, e6⟩ := o9
            k_steps
            unfold Stop
            rename Fr _ _ _ _ => F10
            rename News _ _ _ _ => N10
            rename_i TN _ lT
            obtain ⟨q1, q2, q3, q4, q5, q6, q7⟩ := lT
            refine append_K F10 N10 (Upd.tail (Nat.ne_of_gt q6) (Upd.tail (Ne.symm e5) (Upd.tail kI4 (Upd.tail (Ne.symm kD1) (Upd.tail (Ne.symm kD2) (Upd.tail (Ne.symm kD3) (Upd.head n4.use))))))) ?_ (hz1 _)
            intro h11 F11 N11
            rw [List.push_toArray] at N11
            clear F10 N10
            k_steps
            unfold Stop
            refine endW (news' := (L' + 1, oI) :: (L' + 1 + 1, oF1) :: (L' + 1 + 1 + 1, oR1) :: (D0, W.listOf (vd ++ [y1] ++ [Value.ref TN]).toArray (cd + 1 + 1)) :: (TN, tupO [.ref DT, .ref DT]) :: (DT, LCg.lst (bls (List.map (fun d => false && fitsB d [a0, a1, a2, a3]) ps))) :: tl) F11 N11 (by walk_at "MyM") ?_ ?_ ⟨trivial, (oF1, oR1, vd ++ [y1] ++ [Value.ref TN], cd + 1 + 1, (TN, tupO [.ref DT, .ref DT]) :: (DT, LCg.lst (bls (List.map (fun d => false && fitsB d [a0, a1, a2, a3]) ps))) :: tl), ⟨pn ++ [([a0, a1, a2, a3], false)], rn', _, _, hr9, by simpa using hpn, ?_, hoF1, hoR1, (n1.cons (Ne.symm e2)).cons (Nat.ne_of_gt q3), (n2.cons (Ne.symm e3)).cons (Nat.ne_of_gt q4), (n3.cons (Ne.symm e4)).cons (Nat.ne_of_gt q5), (n4.cons (Ne.symm e5)).cons (Nat.ne_of_gt q6), List.forall_mem_cons.mpr ⟨by walk_at "MyM", List.forall_mem_cons.mpr ⟨by simp [LCg.lst], hcl⟩⟩⟩, by walk_at "MyAll", rfl⟩
            · exact List.forall_mem_cons.mpr ⟨by walk_at "MyM", List.forall_mem_cons.mpr ⟨by walk_at "MyM", List.forall_mem_cons.mpr ⟨by walk_at "MyM", List.forall_mem_cons.mpr ⟨by walk_at "MyM", List.forall_mem_cons.mpr ⟨by walk_at "MyM", List.forall_mem_cons.mpr ⟨by walk_at "MyM", fun p hp => by walk_at "MyM"⟩⟩⟩⟩⟩⟩
            · exact List.forall_mem_cons.mpr ⟨.inl (Ne.symm kI1), List.forall_mem_cons.mpr ⟨.inl (Ne.symm kI2), List.forall_mem_cons.mpr ⟨.inl (Ne.symm kI3), List.forall_mem_cons.mpr ⟨.inl (Ne.symm kI4), List.forall_mem_cons.mpr ⟨.inl (Nat.ne_of_gt q2), List.forall_mem_cons.mpr ⟨.inl (Ne.symm e1), fun p hp => .inr (by rw [hoIt]; exact hcl p hp)⟩⟩⟩⟩⟩⟩
            · have e : (pn ++ [([a0, a1, a2, a3], false)]).flatMap (dueN ps) = pn.flatMap (dueN ps) ++ [It.txt errT] ++ [It.prs (List.map (fun d => false && fitsB d [a0, a1, a2, a3]) ps) (List.map (fun d => false && fitsB d [a0, a1, a2, a3]) ps)] := by
                rw [List.flatMap_append, List.append_assoc]; rfl
              rw [e, ← List.append_assoc, ← List.append_assoc]
              exact ((hvd.mono fun v d h => h.more fun p hp => List.mem_cons_of_mem _ (List.mem_cons_of_mem _ hp)).snoc (hy1.more fun p hp => List.mem_cons_of_mem _ (List.mem_cons_of_mem _ hp))).snoc ⟨TN, DT, DT, _, _, rfl, List.mem_cons_self .., List.mem_cons_of_mem _ (List.mem_cons_self ..), List.mem_cons_of_mem _ (List.mem_cons_self ..)⟩
    · rintro ⟨oF, oR, vd, cd, tl⟩ uu h' tk' ⟨pn, rn, v₀, v₁, hr, hpn, hvd, hoF, hoR, n1, n2, n3, n4, hcl⟩ F' N'
      dsimp only at hvd hoF hoR n1 n2 n3 n4 hcl F' N'
      cases hr
      rw [List.append_nil] at hpn
      rw [hpn] at hvd
      k_steps
      refine ret D0 vd cd tl _ _ (Fr.keep (by k_asm)) (fun p hp => ?_) hvd
      have z := N' p (List.mem_cons_of_mem _ (List.mem_cons_of_mem _ (List.mem_cons_of_mem _ hp)))
      exact ⟨z.1, z.2.2⟩
end Mine

namespace Mine
/-- the ledger tl holds the list v of texts d -/
def PartL (tl : List (Addr × Obj)) (v : Value) (d : List (List Nat)) : Prop := ∃ (a : Addr) (o : Obj) (vs : List Value) (n : Nat), v = .ref a ∧ (a, o) ∈ tl ∧ o.cls = .type "list" ∧ o.data = .seq vs.toArray n ∧ Are TX vs d
theorem PartL.more {tl tl' : List (Addr × Obj)} {v : Value} {d : List (List Nat)} (s : ∀ p ∈ tl, p ∈ tl') : PartL tl v d → PartL tl' v d
  | ⟨a, o, vs, c, e, m, i⟩ => ⟨a, o, vs, c, e, s _ m, i⟩
def GO (f : List Nat → List (List Nat)) (v : Value) (its : Array Value) : Prop := ∃ d t, v = .str ⟨List.toArray d⟩ t ∧ Are TX its.toList (f d)
theorem partL_of {h₁ h : Heap} {f : List Nat → List (List Nat)} : ∀ {its ys : List Value} {ds : List (List Nat)}, Are TX its ds → Paired (LstIs h₁ (GO f) h) its ys →
    ∃ tl : List (Addr × Obj), (∀ p ∈ tl, h.get? p.1 = some p.2 ∧ h₁.get? p.1 = none ∧ p.2.cls = .type "list" ∧ .ref p.1 ∈ ys) ∧ Are (PartL tl) ys (ds.map f)
  | _, _, _, .nil, .nil => ⟨[], (fun _ h => nomatch h), .nil⟩
  | _, _, _, .cons (d := dd) a r, .cons b r' => by
    obtain ⟨tl, h1, h2⟩ := partL_of r r'
    obtain ⟨T, its, rfl, hn, ⟨o, ho, hc, n, hd⟩, d, t, rfl, hA⟩ := b
    obtain ⟨t', e⟩ := a
    have e2 : d = dd := by injection e with e _; injection e with e; simpa using congrArg Array.toList e
    subst e2
    refine ⟨(T, o) :: tl, fun p hp => ?_, .cons ⟨T, o, its.toList, n, rfl, List.mem_cons_self .., hc, by simpa using hd, hA⟩ (h2.mono fun v d h => h.more fun p hp => List.mem_cons_of_mem _ hp)⟩
    rcases List.mem_cons.mp hp with rfl | hp
    · exact ⟨ho, hn, hc, List.mem_cons_self ..⟩
    · obtain ⟨a1, a2, a3, a4⟩ := h1 p hp
      exact ⟨a1, a2, a3, List.mem_cons_of_mem _ a4⟩
section
variable {prog : Program} {w : World} {A : Around} {E : Value → Shared → Prop} {s : Shared} {h₀ : Heap} {L : Addr} {env : Env}
/-- what a turn gives: a new list of the texts g -/
def TurnO (s₃ : Shared) (h : Heap) (g : List (List Nat)) (y : Value) (s₄ : Shared) : Prop :=
  ∃ h' tk' T vs, s₄ = { s₃ with heap := h', toks := tk' } ∧ (∀ b o, h.get? b = some o → h'.get? b = some o) ∧ y = .ref T ∧ h.get? T = none ∧ h'.IsList T (List.toArray vs) ∧ Are TX vs g
def CompO (prog : Program) (w : World) (A : Around) (h₀ : Heap) (L : Addr) (env : Env) (elt : PySem.Expr) (x : Str) (scope : Scope) (cl : List (Str × Addr)) (y : Str) (Q : Flow → Shared → Prop) (xv : Value) (s₁ : Shared) : Prop :=
  ∃ (m : Str → Option Value) (ax : Addr) (its : List Value) (ds : List (List Nat)) (f : List Nat → List (List Nat)) (news : List (Addr × Obj)), xv = .ref ax ∧ A.handled = none ∧ Fr h₀ L s₁.heap m ∧ News h₀ L s₁.heap news ∧ s₁.heap.IsList ax its.toArray ∧ its.length ≤ 1000 ∧ Are TX its ds ∧
    (∀ (d : List Nat) (t : Tok) (C : Addr) (oC : Obj) (m₂ : Str → Option Value) (s₃ : Shared) (E' : Value → Shared → Prop), d ∈ ds → s₁.toks ≤ s₃.toks → LCg.NsObj oC m₂ → m₂ x = some (.str ⟨d.toArray⟩ t) → Fr h₀ L s₃.heap m → News h₀ L s₃.heap ((C, oC) :: news) →
      wpAny (model prog w) A (eval elt (compEnvC scope cl C env)) (TurnO s₃ s₃.heap (f d)) E' s₃) ∧
    (∀ D h tk ys n tl, Fr h₀ L h (fun z => if z = y then some (.ref D) else m z) → News h₀ L h ((D, W.listOf (List.toArray ys) n) :: (news ++ tl)) → (∀ p ∈ news, @Ne Nat p.1 D) → (∀ p ∈ tl, (∀ q ∈ news, @Ne Nat p.1 q.1) ∧ @Ne Nat p.1 D ∧ p.2.cls = .type "list") → Are (PartL tl) ys (ds.map f) → Q .next { s₁ with heap := h, toks := tk })
theorem Are.get2 {α : Type} {R : Value → α → Prop} {vs : List Value} {ds : List α} (h : Are R vs ds) {i : Nat} {v : Value} (e : vs[i]? = some v) : ∃ d, d ∈ ds ∧ R v d := by
  obtain ⟨d, hd, hr⟩ := h.get e
  exact ⟨d, List.mem_of_getElem? hd, hr⟩
theorem assign_O {elt iter : PySem.Expr} {x y : Str} {px py : Pos} {scope : Scope} {cl : List (Str × Addr)} {pos spos : Pos} {Q : Flow → Shared → Prop} (hLe : env.locals = L)
    (hsw : swapsWith (.ListComp elt [⟨.Name x px, iter, [], 0⟩] scope pos) (some (.Name y py)) spos.line env = pure true)
    (hclos : closureFor scope env = pure cl) (hcell : ∀ z ∈ scope.names, z.2 ≠ .cell) (hkind : scope.kind = .function)
    (hnames : ∀ z ∈ scope.names, z.2 = .local → scope.names.lookup z.1 = some .local) (hx : scope.names.lookup x = some .local)
    (hy : env.kindOf y = some .local) (hp : (env.scope.kind == .class || (env.scope.kind == .module && env.locals != env.globals)) = false)
    (h : wpAny (model prog w) A (eval iter env) (CompO prog w A h₀ L env elt x scope cl y Q) E s)
    (hs : ∀ x, foldedSetIterable iter env x = pure x := by intro _; rfl) :
    wpAny (model prog w) A (exec (.Assign [.Name y py] (.ListComp elt [⟨.Name x px, iter, [], 0⟩] scope pos) spos) env) Q E s := by
  subst hLe
  rw [exec_Assign_Name_used _ _ _ _ hsw]
  refine wpAny_bind (wpAny_standAt (wpAny_bind ?_))
  show wpAny _ A (do let _ ← comprehension (.ListComp elt [⟨.Name x px, iter, [], 0⟩] scope pos) scope env _ (newList []) false (eval iter env) (some (assign (.Name y py) env))) _ _ s
  refine wpAny_bind (wpAny_mono (wpAny_comprehension_free (use := some (assign (.Name y py) env)) (Q := fun _ s' => Q .next s') rfl hs hclos hkind hnames
    (wpAny_mono h (fun xv s₁ h₁ => ?_) fun _ _ e => e)) (fun _ s' hq => wpAny_pure (wpAny_pure hq)) fun _ _ e => e)
  obtain ⟨m, ax, its, ds, f, news, rfl, hh, F, N, hl, hlen, hA, turn, fin⟩ := h₁
  have hlt : ax < s₁.heap.objs.size := by obtain ⟨_, e, _⟩ := hl; exact Heap.lt_size e
  refine wpAny_pyIter_list hl ?_
  have up : ∀ b o, s₁.heap.get? b = some o → (s₁.heap.push { cls := .type "list_iterator", data := .fields #[.ref ax, .int 0 0] }).get? b = some o := fun b o e => Heap.get?_push_of_some _ e
  have hIL : env.locals ≠ s₁.heap.objs.size := Nat.ne_of_lt F.ns.lt
  have hI₀ : h₀.get? s₁.heap.objs.size = none := next_is_new F
  have F1 : Fr h₀ env.locals (s₁.heap.push { cls := .type "list_iterator", data := .fields #[.ref ax, .int 0 0] }) m := F.keeps up
  have N1 : News h₀ env.locals (s₁.heap.push { cls := .type "list_iterator", data := .fields #[.ref ax, .int 0 0] }) news := N.grown up
  have offI : ∀ p ∈ news, p.1 ≠ s₁.heap.objs.size := fun p hp => Nat.ne_of_lt (Heap.lt_size (N p hp).1)
  refine comp_block_walkCO (RR := fun acc C => compPost (model prog w) A E (some (assign (.Name y py) env)) (fun _ s' => Q .next s') acc C) (Walks.list hh s₁.heap.objs.size ax (Nat.ne_of_lt hlt) its.toArray) (by rw [sizeLine_eq, List.size_toArray]; omega) (fun _ => true) (GO f)
    (fun i h st b hb => by rw [List.mem_singleton.mp hb]; obtain ⟨o, e, _⟩ := st.1; exact ⟨o, e⟩) hcell hkind hx ⟨⟨_, Heap.get?_push_size _ rfl, rfl, rfl⟩, hl.push _⟩ (fun b hb => ?_) ⟨?_, ?_⟩ ?_
  · show b < (s₁.heap.push _).objs.size
    rw [Heap.size_push]
    rcases List.mem_cons.mp hb with rfl | hb
    · exact Nat.lt_succ_self _
    · rw [List.mem_singleton.mp hb]; exact Nat.lt_succ_of_lt hlt
  · intro C i v s₃ m₃ E' hC hP hn hx hk ht
    exact wpAny_pure ⟨rfl, s₃.heap, s₃.toks, rfl, fun _ _ e => e⟩
  · intro C i v s₃ m₃ E' hC hP _ hn hx hk ht
    obtain ⟨d, hd, t, rfl⟩ := hA.get2 (show its[i]? = some v by simpa using hP)
    obtain ⟨oC, hoC, hC2⟩ := LCg.ns_obj hn
    have F3 : Fr h₀ env.locals s₃.heap m := LCg.fr_but F1 hk hIL hI₀
    have N3 : News h₀ env.locals s₃.heap news := LCg.news_but N1 hk offI
    have hCs : (s₁.heap.push { cls := .type "list_iterator", data := .fields #[.ref ax, .int 0 0] }).get? C = none := by
      cases e : (s₁.heap.push { cls := .type "list_iterator", data := .fields #[.ref ax, .int 0 0] }).get? C with
      | none => rfl
      | some o' => exact absurd (Heap.lt_size e) (Nat.not_lt.mpr hC)
    have hC₀ : h₀.get? C = none := by
      cases e : h₀.get? C with
      | none => rfl
      | some o' => have := F1.keep C o' e; rw [hCs] at this; cases this
    have hCL : C ≠ env.locals := by
      rintro rfl
      exact absurd (Nat.lt_of_lt_of_le F1.ns.lt hC) (Nat.lt_irrefl _)
    refine wpAny_mono (turn d t C oC m₃ s₃ E' hd ht hC2 hx F3 (fun p hp => ?_)) (fun y s₄ h₄ => ?_) fun _ _ e => e
    · rcases List.mem_cons.mp hp with rfl | hp
      · exact ⟨hoC, hCL, hC₀⟩
      · exact N3 p hp
    · obtain ⟨h', tk', T, vs, rfl, hk', rfl, hT, hlT, hAT⟩ := h₄
      exact ⟨⟨T, _, rfl, hT, hlT, d, t, rfl, hAT⟩, h', tk', rfl, hk'⟩
  intro D C h' tk m' ys vs hD hC hDC hnC hlD hplD hlen' hP hF hdist hk
  have hn1 := F1.ns
  have hLC : env.locals ≠ C := by rintro rfl; obtain ⟨o, _, _, ho, _⟩ := hn1; rw [hC] at ho; cases ho
  have hLD : env.locals ≠ D := by rintro rfl; obtain ⟨o, _, _, ho, _⟩ := hn1; rw [hD] at ho; cases ho
  have F2 : Fr h₀ env.locals h' m := LCg.fr_but F1 hk hIL hI₀
  have N2 : News h₀ env.locals h' news := LCg.news_but N1 hk offI
  have hvs : vs = its := by
    refine List.ext_getElem? fun j => ?_
    cases e : vs[j]? with
    | some v => have := hP j v e; simpa using this.symm
    | none =>
      rw [List.getElem?_eq_none_iff] at e
      have e2 : its.length ≤ j := by rw [hlen', List.size_toArray] at e; exact e
      rw [List.getElem?_eq_none_iff.mpr e2]
  subst hvs
  show wpAny _ A (assign (.Name y py) env (.ref D)) _ _ _
  refine wpAny_assign_Name (wpAny_storeName_local hy F2.ns (fun h₂ hn₂ hs₂ => ?_) hp)
  refine ⟨m', hnC.sameBut hs₂ (Ne.symm hLC), fun h₃ hs₃ => ?_⟩
  have hfr0 : ∀ a, (s₁.heap.push { cls := .type "list_iterator", data := .fields #[.ref ax, .int 0 0] }).get? a = none → h₀.get? a = none := fun a e => by
    cases e2 : h₀.get? a with
    | none => rfl
    | some o' => have := F1.keep a o' e2; rw [e] at this; cases this
  have keep3 : ∀ b o, b ≠ env.locals → b ≠ C → h'.get? b = some o → h₃.get? b = some o := fun b o hbL hbC e => hs₃.extBut b o hbC (hs₂.extBut b o hbL e)
  have hF1 := hF
  rw [show vs.filter (fun _ => true) = vs by simp] at hF1
  have hF3 : Paired (LstIs (s₁.heap.push { cls := .type "list_iterator", data := .fields #[.ref ax, .int 0 0] }) (GO f) h₃) vs ys.toList := by
    refine Paired.mono (fun v y hy => ?_) hF1
    obtain ⟨T, its, rfl, h1, hTC, _, hTD, hlT, hG⟩ := hy
    have hTL : T ≠ env.locals := by rintro rfl; obtain ⟨o, _, _, ho, _⟩ := hn1; rw [h1] at ho; cases ho
    obtain ⟨o, ho, r⟩ := hlT
    exact ⟨T, its, rfl, h1, ⟨o, keep3 T o hTL hTC ho, r⟩, hG⟩
  obtain ⟨tl, ht1, ht2⟩ := partL_of hA hF3
  obtain ⟨n, hDo⟩ := hplD
  have hD₀ := hfr0 D hD
  have hn3 := hn₂.sameBut hs₃ hLC
  have F3 : Fr h₀ env.locals h₃ (fun z => if z = y then some (.ref D) else m z) := ⟨hn3, fun b o e => keep3 b o (by rintro rfl; exact absurd (Nat.lt_of_lt_of_le (Heap.lt_size e) F1.above) (Nat.lt_irrefl _)) (by rintro rfl; rw [hfr0 _ hC] at e; cases e) (F2.keep b o e), F1.above⟩
  have offN : ∀ a, (s₁.heap.push { cls := .type "list_iterator", data := .fields #[.ref ax, .int 0 0] }).get? a = none → ∀ q ∈ news, a ≠ q.1 := fun a e q hq e2 => by
    have := (N1 q hq).1; rw [← e2, e] at this; cases this
  refine fin D h₃ _ ys.toList n tl F3 (fun p hp => ?_) (fun p hp => Ne.symm (offN D hD p hp)) (fun p hp => ?_) ht2
  · rcases List.mem_cons.mp hp with rfl | hp
    · exact ⟨by simpa using keep3 D _ (Ne.symm hLD) hDC hDo, Ne.symm hLD, hD₀⟩
    · rcases List.mem_append.mp hp with hp | hp
      · have z := N2 p hp
        exact ⟨keep3 _ _ z.2.1 (fun e => offN C hC p hp e.symm) z.1, z.2⟩
      · obtain ⟨a1, a2, a3, a4⟩ := ht1 p hp
        refine ⟨a1, ?_, hfr0 _ a2⟩
        intro e
        obtain ⟨o, _, _, ho, _⟩ := hn1
        rw [e, ho] at a2; cases a2
  · obtain ⟨a1, a2, a3, a4⟩ := ht1 p hp
    refine ⟨offN _ a2, ?_, a3⟩
    obtain ⟨_, T, _, e', _, _, _, hTD, _, _⟩ := Paired.right hF1 _ a4
    cases e'
    exact hTD
end
end Mine

namespace Mine
theorem enterPCt {w : World} {prog : Program} {K : Frag} {A : Around} {s : Shared} {R : Result → Shared → Prop} {name qual : Str} {params : Arguments} {body : List Stmt} {scope : Scope} {dV kV doc pm cdv ct oc : Value} {an od : Option Addr} {osl : Array (Option Value)} {f : Addr} {args : Args} {binds : List (Str × Value)}
    (X : K.In s.heap) (hl : s.heap.NoLimit)
    (ho : K.lookup f = some ⟨oc, od, .func (fnOf name qual params body scope dV kV doc pm an cdv ct), osl⟩) (hcd : codeIn K cdv qual = true) (hroom : A.depth < recursionLimit)
    (hbind : BindsTo s (fnOf name qual params body scope dV kV doc pm an cdv ct) args binds) (hkind : (binds.all fun y => scope.names.lookup y.1 == some .local || scope.names.lookup y.1 == some .cell) = true)
    (hnd : ((cellsFrom 0 scope.names []).map (·.1)).Nodup)
    (h : ∀ L' h₁ tk cells, s.toks ≤ tk → Fr s.heap L' h₁ (bindL (envOfC qual scope L' f cdv).kindOf binds fun _ => none) → News s.heap L' h₁ cells →
      CellsAre (bindC (envOfC qual scope L' f cdv).kindOf binds fun _ => none) (cellsFrom (L' + 1) scope.names []) cells →
      wpAny (model prog w) (A.deeper (envOfC qual scope L' f cdv)) (execs body (envOfC qual scope L' f cdv))
        (fun fl s' => R (.ok (.ret (match fl with | .ret v => v | _ => .none))) s')
        (fun e s' => wpAny (model prog w) (A.deeper (envOfC qual scope L' f cdv)) (leaving (envOfC qual scope L' f cdv) e) (fun _ s'' => R (.error e) s'') (fun e' s'' => R (.error e') s'') s')
        { s with heap := h₁, toks := tk })
    (hco : scope.isCoroutine = false) (hgen : scope.isGenerator = false) (hk : scope.kind = .function) : codeAny (model prog w) A (.call (.ref f) args) R s := by
  refine codeAny_call_function hroom (X _ _ ho) rfl hco hgen rfl (codeRec_of X hcd) (hbind _ _ _ _ ?_)
  refine wpAny_with_toks (n := s.toks) (Nat.le_refl _) ?_
  refine wpAny_newFunctionEnv_cells hk (kindsX hkind _) fun env' he s' x => ?_
  intro htk
  subst he
  refine ⟨hl.keeps x.toInCall.keep, codeAny_func ?_⟩
  obtain ⟨h₁, tk, rfl, _⟩ := x.done
  obtain ⟨cells, NC, Y⟩ := Cl.news (h₀ := s.heap) (Nat.le_refl _) fun n c hm => ⟨x.cell n c (lookup_of_mem_nodup (cellsFrom_names scope.names 0 (s.heap.objs.size + 1) [] [] rfl ▸ hnd) hm), x.above n c hm⟩
  exact h s.heap.objs.size h₁ tk cells htk ⟨x.toInCall.ns, fun b o e => x.toInCall.keep b o e, Nat.le_refl _⟩ NC Y
section
variable {prog : Program} {w : World} {A₀ : Around} {E : Value → Shared → Prop} {s' : Shared} {B G : Heap} {outer : List Env} {env : Env} {L e t C : Addr} {m : Str → Option Value} {vs : List Value} {b₀ : Stmt} {suite : List Stmt} {pos np : Pos} {rest : List ExceptHandler}
  {Q : Flow → Shared → Prop} {KF : Frag} {p : Program} {loose : List Str} {mg mb : Str → Option Value} {x : Str} {bmB : List Value} {newId : String}
/-- an error of an own class comes into a frame whose base B is hidden from the frames above it, and is caught -/
theorem caught_M (hst : A₀.frames = some outer) (hfr : env.frame = some L) (F : Fr B L G m) (hsm : G.UpToSlots s'.heap) (R : RaisedS B G (env :: outer) e (.ref C) t vs [] s'.heap)
    (X : KF.In B) (T : TopRead p loose mg mb B) (ex : nsIn KF mainGlobals x = some (some (.ref C))) (q : excIn KF C bmB newId = true) (hbase : bmB.contains (.type "BaseException") = true)
    (hname : ∀ (h' : Heap) (Q' : Value → Shared → Prop) (E' : Value → Shared → Prop), Fr B L h' m → Q' (.ref C) { s' with heap := h' } → wpAny (model prog w) ((A₀.deeper env).mark (some (.ref e))) (eval (.Name x np) env) Q' E' { s' with heap := h' })
    (k : ∀ h', Fr B L h' m → G.UpToSlots h' → (∀ b o, G.get? b = some o → b ∉ (env :: outer).filterMap (·.frame) → h'.get? b = some o) →
      wpAny (model prog w) ((A₀.deeper env).mark (some (.ref e))) (execs (b₀ :: suite) env) Q E { s' with heap := h' })
    (hE : PassesOwnAt (model prog w) ((A₀.deeper env).mark (some (.ref e))) (A₀.deeper env) env E := by passes_own) :
    wpAny (model prog w) (A₀.deeper env) (noteFrame (.ref e) env)
      (fun _ s₂ => wpAny (model prog w) (A₀.deeper env) (setFlight (.ref e) none) (fun _ s₃ =>
        wpAny (model prog w) (A₀.deeper env) (handleBy (.ref e) env (.ExceptHandler (some (.Name x np)) none (b₀ :: suite) pos :: rest)) Q E s₃) E s₂) E s' := by
  obtain ⟨⟨B', hB, hBG, hl, hfl, hnew⟩, htup⟩ := R
  refine wpAny_looks_onW (Around.frames_deeper hst) hfr hfl fun h₄ hheld₄ hsm₄ => ?_
  refine wpAny_landsW hheld₄ fun h₅ hheld hsm₅' => ?_
  have hsm₅ := hsm₄.trans hsm₅'
  have hheld' := flyingW_base hB hheld
  have F₅ := F.of_stays hheld'.1 (hsm.trans hsm₅)
  obtain ⟨ob, hob, hobc⟩ := hheld'.there
  refine wpAny_handleBy_cons (codeAny_handlers_test (hname h₅ _ _ F₅ ?_)) (by intro q; cases q)
  obtain ⟨bm, N, nm, qn, bs, hdct, sn, sub, ab, col, dd, k0, k1, k2, k3, k5, mN, hC, hN, hni, TL⟩ := ((own_of_in X T ex q).keeps F₅.keep).obj
  refine wpAny_excMatches_sub_self hC hob hobc (TL.hasType hbase) (codeAny_handlers_suite ?_)
  refine lands_againW hheld fun h₆ hfl₆ hsm₆ => ?_
  have hfl₆' := flyingW_base hB hfl₆
  have F₆ := F.of_stays hfl₆'.1 ((hsm.trans hsm₅).trans hsm₆)
  exact wpAny_passesOwnAt hE (k h₆ F₆ ((hsm.trans hsm₅).trans hsm₆) fun b o e' nm' => hfl₆.1 b o (hBG b o e' nm'))
end
end Mine

namespace Mine
noncomputable def sgn (f : Int) : Nat := if f = 62 then 34 else if f = 63 then 42 else if f = 1 then 66 else 65
noncomputable def txtOf (d : List Int) : List Nat := d.map sgn
noncomputable def quoT (code p : List Nat) : List Nat := code ++ [32, 34] ++ dbl p ++ [34, 32, 111, 107]
noncomputable def decT (p : List Nat) : List Int := decB (b64v (d2 (p.getD 0 0))) (b64v (d2 (p.getD 1 0))) (b64v (d2 (p.getD 2 0))) (b64v (d2 (p.getD 3 0)))
noncomputable def c257 : List Nat := [50, 53, 55]
noncomputable def c250 : List Nat := [50, 53, 48]
noncomputable def toldN (ps : List (List Int)) (n : List Int × Bool) : List It :=
  [if n.2 then .byt (decT (txtOf n.1)) else .txt errT, .prs (ps.map fun d => n.2 && takesB (parts (txtOf d)) (txtOf n.1)) (ps.map fun d => takesB (parts (quoT c257 (txtOf d))) (quoT (if n.2 then c257 else c250) (txtOf n.1)))]
noncomputable def toldOf (ps : List (List Int)) (ns : List (List Int × Bool)) : List It := ps.map (fun d => .txt (parts (txtOf d)).flatten) ++ ns.flatMap (toldN ps)
theorem toldN_len {ps : List (List Int)} : ∀ pn : List (List Int × Bool), (pn.flatMap (toldN ps)).length = 2 * pn.length
  | [] => rfl
  | n :: r => by
    rw [List.flatMap_cons, List.length_append, toldN_len r]
    show 2 + 2 * r.length = 2 * (r.length + 1)
    omega
def Fg (f : Int) : Prop := f = 0 ∨ f = 62 ∨ f = 63 ∨ f = 1
theorem enc_all : ∀ a ∈ [0, 62, 63, 1], ∀ b ∈ [0, 62, 63, 1], ∀ c ∈ [0, 62, 63, 1], ∀ d ∈ [0, 62, 63, 1],
    (encB ((octs a b c d).getD 0 0) ((octs a b c d).getD 1 0) ((octs a b c d).getD 2 0)).map (fun c => (KBw.bInts (tblOf #[43, 47] #[34, 42])).getD c.toNat 0) = [(sgn a : Int), (sgn b : Int), (sgn c : Int), (sgn d : Int)] := by decide +kernel
theorem mulF {prog : Program} {w : World} {A : Around} {E : Value → Shared → Prop} {s : Shared} {h₀ : Heap} {L l : Addr} {m : Str → Option Value} {news : List (Addr × Obj)} {k n : Nat} {u : Tok} {Q : Value → Shared → Prop} (F : Fr h₀ L s.heap m) (N : News h₀ L s.heap news) (hm : (l, W.listOf #[.bool false] k) ∈ news) (hn : n ≤ 1000)
    (h : ∀ D h', Fr h₀ L h' m → News h₀ L h' ((D, W.listOf (bls (List.replicate n false)).toArray 0) :: news) → (∀ p ∈ news, @LT.lt Nat instLTNat p.1 D) → Q (.ref D) { s with heap := h' }) : wpAny (model prog w) A (binaryOp .Mult (.ref l) (.int (n : Int) u)) Q E s := by
  refine mul_list F N (N _ hm).1 (by omega) (by omega) (by show 1 * (n : Int).toNat ≤ _; rw [Int.toNat_natCast]; omega) fun h' F' N' => ?_
  refine h _ h' F' (fun p hp => ?_) (fun p hp => Heap.lt_size (N p hp).1)
  rcases List.mem_cons.mp hp with rfl | hp
  · have z := N' _ (List.mem_cons_self ..)
    rw [listMul_foldl_if, Int.toNat_natCast] at z
    have e : (List.replicate n [Value.bool false]).flatten = bls (List.replicate n false) := by simp [bls]
    have e2 : (#[Value.bool false] : Array Value).toList = [Value.bool false] := rfl
    rw [e2, e] at z
    exact z
  · exact N' p (List.mem_cons_of_mem _ hp)
theorem esc_ok (c : Nat) : escL c ≠ [] ∧ (escL c).length ≤ 2 := by unfold escL; split <;> simp
theorem trS_ok {acc : List (List Nat)} {c : Nat} (h : ∀ d ∈ acc, d ≠ [] ∧ d.length ≤ 2) : ∀ d ∈ trStep acc c, d ≠ [] ∧ d.length ≤ 2 := by
  unfold trStep
  intro d hd
  split at hd
  · split at hd
    · exact h d hd
    · rcases List.mem_append.mp hd with hd | hd
      · exact h d hd
      · rw [List.mem_singleton.mp hd]; simp
  · rcases List.mem_append.mp hd with hd | hd
    · exact h d hd
    · rw [List.mem_singleton.mp hd]; exact esc_ok c
theorem trF_ok : ∀ (p : List Nat) (acc : List (List Nat)), (∀ d ∈ acc, d ≠ [] ∧ d.length ≤ 2) → ∀ d ∈ p.foldl trStep acc, d ≠ [] ∧ d.length ≤ 2
  | [], _, h => h
  | c :: r, acc, h => by rw [List.foldl_cons]; exact trF_ok r _ (trS_ok h)
theorem parts_ok (p : List Nat) : ∀ d ∈ parts p, d ≠ [] ∧ d.length ≤ 2 := trF_ok p [] (fun _ h => nomatch h)
theorem newsC {B G h : Heap} {L La : Addr} {oL o' : Obj} {pre post : List (Addr × Obj)} (N : News B L G (pre ++ (La, oL) :: post)) (hne : ∀ p ∈ pre ++ post, p.1 ≠ La) (keep : ∀ b o, G.get? b = some o → b ∉ [L, La] → h.get? b = some o) (hsl : h.get? La = some o') : News B L h (pre ++ (La, o') :: post) := fun p hp => by
  have old : p ∈ pre ++ post → h.get? p.1 = some p.2 ∧ p.1 ≠ L ∧ B.get? p.1 = none := fun hm => by
    have z := N p (by
      rcases List.mem_append.mp hm with hm | hm
      · exact List.mem_append_left _ hm
      · exact List.mem_append_right _ (List.mem_cons_of_mem _ hm))
    refine ⟨keep _ _ z.1 (fun q => ?_), z.2⟩
    rcases List.mem_cons.mp q with q | q
    · exact z.2.1 q
    · exact hne p hm (List.mem_singleton.mp q)
  rcases List.mem_append.mp hp with hm | hm
  · exact old (List.mem_append_left _ hm)
  · rcases List.mem_cons.mp hm with rfl | hm
    · have z := N (La, oL) (List.mem_append_right _ (List.mem_cons_self ..))
      exact ⟨hsl, z.2⟩
    · exact old (List.mem_append_right _ hm)
theorem bls_false {ps : List (List Int)} {n : Nat} {f : List Int → Bool} (h : n = ps.length) : bls (List.replicate n false) = bls (ps.map fun d => false && f d) := by
  have e : (ps.map fun d => false && f d) = List.replicate ps.length false := List.map_const' ..
  rw [e, h]
theorem trS_len (acc : List (List Nat)) (c : Nat) : (trStep acc c).flatten.length ≤ acc.flatten.length + 2 := by
  unfold trStep escL
  split
  · split <;> simp
  · split <;> simp
theorem trF_len : ∀ (p : List Nat) (acc : List (List Nat)), (p.foldl trStep acc).flatten.length ≤ acc.flatten.length + 2 * p.length
  | [], acc => by simp
  | c :: r, acc => by
    have h1 := trF_len r (trStep acc c)
    have h2 := trS_len acc c
    rw [List.foldl_cons, List.length_cons]
    omega
theorem parts_len (p : List Nat) : (parts p).flatten.length ≤ 2 * p.length := by
  have := trF_len p []
  simpa [parts] using this
theorem dbl_ok {p : List Nat} {R : Nat → Prop} (h34 : R 34) (h : ∀ c ∈ p, R c) : ∀ c ∈ dbl p, R c := by
  intro c hc
  obtain ⟨d, hd, hx⟩ := List.mem_flatMap.mp hc
  split at hx
  · rcases List.mem_cons.mp hx with rfl | hx
    · exact h34
    · rw [List.mem_singleton.mp hx]; exact h34
  · rw [List.mem_singleton.mp hx]; exact h d hd
theorem quo_ok {p : List Nat} (h : ∀ c ∈ p, c = 42 ∨ Pl c ∨ c = 32) : ∀ c ∈ quoT c257 p, c = 42 ∨ Pl c ∨ c = 32 := by
  intro c hc
  unfold quoT c257 at hc
  rcases List.mem_append.mp hc with hc | hc
  · rcases List.mem_append.mp hc with hc | hc
    · simp only [List.mem_cons, List.mem_append, List.not_mem_nil, or_false] at hc
      rcases hc with (rfl | rfl | rfl) | rfl | rfl <;> unfold Pl <;> simp
    · exact dbl_ok (R := fun c => c = 42 ∨ Pl c ∨ c = 32) (by unfold Pl; simp) h c hc
  · simp only [List.mem_cons, List.not_mem_nil, or_false] at hc
    rcases hc with rfl | rfl | rfl | rfl <;> unfold Pl <;> simp
theorem Fg.pl {f : Int} (h : f = 0 ∨ f = 62 ∨ f = 63 ∨ f = 1) : sgn f = 42 ∨ Pl (sgn f) ∨ sgn f = 32 := by rcases h with rfl | rfl | rfl | rfl <;> unfold Pl sgn <;> simp
theorem txt_ok {d : List Int} (h : ∀ f ∈ d, Fg f) : ∀ c ∈ txtOf d, c = 42 ∨ Pl c ∨ c = 32 := by
  intro c hc
  obtain ⟨f, hf, rfl⟩ := List.mem_map.mp hc
  exact Fg.pl (h f hf)
theorem Fg.mem {f : Int} (h : Fg f) : f ∈ ([0, 62, 63, 1] : List Int) := by rcases h with rfl | rfl | rfl | rfl <;> simp
theorem Fg.sg {f : Int} (h : Fg f) : SgI (sgn f : Int) := by rcases h with rfl | rfl | rfl | rfl <;> unfold SgI sgn <;> decide
theorem Fg.sgN {f : Int} (h : Fg f) : SgN (sgn f) := by rcases h with rfl | rfl | rfl | rfl <;> unfold SgN sgn <;> decide
theorem Fg.b {f : Int} (h : Fg f) : 0 ≤ f ∧ f < 64 := by rcases h with rfl | rfl | rfl | rfl <;> decide
theorem newsB {g B h : Heap} {L La : Addr} {oLa : Obj} {news : List (Addr × Obj)} (N : News g L h news) (hk : ∀ b o, g.get? b = some o → h.get? b = some o) (hB : ∀ b o, B.get? b = some o → g.get? b = some o) (hLa : g.get? La = some oLa) (hBa : B.get? La = none) (hne : La ≠ L) : News B L h ((La, oLa) :: news) := fun p hp => by
  rcases List.mem_cons.mp hp with rfl | hp
  · exact ⟨hk _ _ hLa, hne, hBa⟩
  · have z := N p hp
    refine ⟨z.1, z.2.1, ?_⟩
    cases e : B.get? p.1 with
    | none => rfl
    | some o => have := hB _ _ e; rw [z.2.2] at this; cases this

theorem lines_C15_1 : True := by
  k_with_none
  k_with "MyEnter" => (
    w_on
    refine wpAny_call ?_
    refine' enterP ‹Frag.In _ _› (Top.nolimit ‹_›) ?k6 ?k7 (by walk_at "MyD") ?k9 ?kB ?_ ?c2 ?c3 ?c4 ?c5
    (case k6 => k_is)
    (case k7 => k_is)
    (case k9 => first | exact BindsTo.of_eq rfl | exact binds_K (by k_in) rfl (by k_is) rfl rfl rfl)
    (case kB => exact locs rfl)
    (case c5 => decide)
    (case c2 => exact rfl)
    (case c3 => exact rfl)
    (case c4 => exact rfl)
    intro _ _ _
    try dsimp only
    try k_fold)
  k_with "MyRoom" => (first | assumption | ((try dsimp only [Ar, Around.deeper, Around.in1, Around.mark] at *); omega))
  k_with "call type:type" => ((with_reducible show wpAny _ _ (call _ [Value.bytes _ _]) _ _ _); refine call_type_of (Tx := "bytes") rfl (by decide +kernel) ?_)
  k_with "MyX" => (first | assumption | exact Frag.In.keeps (by assumption) (Fr.keep (by k_asm)))
  k_with "MyT" => (first | assumption | exact Top.keeps (by assumption) (Fr.keep (by k_asm)))
  k_with "MyD" => (first | assumption | ((try dsimp only [Ar, Around.deeper, Around.in1, Around.mark] at *); omega))
  k_with "MyAll" => (repeat' (first | exact List.forall_mem_nil _ | refine List.forall_mem_cons.mpr ⟨by first | rfl | (k_dflt k_asm), ?_⟩))
  k_with "MyM" => (first | ((repeat' (first | exact List.mem_cons_self .. | assumption | apply List.mem_cons_of_mem)); done) | simp)
  k_with "getMethod type:bytes" => (k_here; refine' method_type ?F ?X ?m (by decide +kernel) ?e ?h ?_; (case F => k_asm); (case X => k_asm); (case m => exact metaB); (case e => k_dflt k_is); (case h => k_handed))
  k_with "getMethod bytes" => ((with_reducible refine tr_method ?_))
  k_with "call builtin:bytes.maketrans" => ((try dsimp only [List.nil_append, List.cons_append]); k_dflt (refine maketrans_call (by decide) (by decide +kernel) ?_); intro _ _)
  k_with "call builtin:bytes.translate" => ((try dsimp only [List.nil_append, List.cons_append]); k_dflt (refine tr_callI (by assumption) (by rfl) (by decide +kernel) (trOut_size (by assumption) (by rfl)) ?_); intro _ _ _ _)
  k_with "CompEnd" => (refine Stop.out ?_)
  k_with "FinA" => (refine Stop.out ?_)
  k_with "UnrPostW" => (refine Stop.out ?_)
  k_with "CompSrc" => (refine Stop.out ?_)
  k_with "call ref" => (refine Stop.out ?_)
  k_with "call builtin:bytes.decode" => (refine Stop.out ?_)
  k_with "call builtin:len" => (refine Stop.out ?_)
  k_with "call builtin:list.append" => ((with_reducible show wpAny _ _ (call (Value.builtin "list.append") _) _ _ _); refine Stop.out ?_)
  k_with "call builtin:str.join" => (refine Stop.out ?_)
  k_with "exec Assign cons ListComp" => (refine Stop2.out ‹Loop2› ?_)
  k_with "exec For Tuple Name cons nil" => (refine Stop.out ?_)
  k_with "pyIter ref" => ((with_reducible show wpAny _ _ (pyIter (Value.ref _)) (fun it s₂ => TurnsAt _ _ _ _ _ _ _ _ _ it s₂) _ _); refine Stop.out ?_)
  trivial

theorem told_c {w : World} {loose : List Str} {mean : ExcName → Option Value} {mg mb : Str → Option Value} {dp un : Nat} {fr : Option (List Env)} {gd : Option (List Code)} {s : Shared} {Q : Value → Shared → Prop} {E : Value → Shared → Prop} {B : Heap} {lawEnv : Env} {La : Addr} {oLa : Obj} {lp ln : Addr} {vp vn : List Value} {ps : List (List Int)} {nms : List (List Int × Bool)}
    (T : Top topProg loose mean mg mb B) (hD : dp + 20 < recursionLimit) (hu : un + 1000 < cLine) (hB : ∀ b o, B.get? b = some o → s.heap.get? b = some o) (hBs : B.objs.size ≤ s.heap.objs.size) (hLa : s.heap.get? La = some oLa) (hBa : B.get? La = none)
    (hst : fr = some [lawEnv]) (hlk : lawEnv.scope.kind ≠ .module) (hlf : lawEnv.frame = some La) (hLd : ∀ vs, oLa.data ≠ .fields vs)
    (h1 : 1 ≤ s.toks) (hlp : B.IsList lp vp.toArray) (hln : B.IsList ln vn.toArray) (hp : Are (PatH B) vp ps) (hn : Are (NamH B) vn nms) (hp3 : ∀ d ∈ ps, F3 d 63) (hn3 : ∀ d ∈ nms, F3 d.1 1) (hpl : ps.length ≤ 13) (hnl : nms.length ≤ 13)
    (ret : ∀ D vd cd tl h' tk sl, (∀ b o, B.get? b = some o → h'.get? b = some o) → h'.get? La = some { oLa with slots := sl } → (∀ p ∈ (D, W.listOf (List.toArray vd) cd) :: tl, h'.get? p.1 = some p.2 ∧ B.get? p.1 = none ∧ p.1 ≠ La) → Are (ItL tl) vd (toldOf ps nms) → Q (.ref D) { s with heap := h', toks := tk }) (X : (kmk.heap_1 w.params).In B) :
    wpAny (model Challenge.rw_kt0015_01.row.prog w) (Ar dp un fr gd) (call (.ref 202) [.ref lp, .ref ln]) Q E s := by
  revert X; k_fill; intro X
  have Xs := Frag.In.keeps X hB
  have Ts := Top.keeps T hB
  w_on
  refine wpAny_call ?_
  refine' enterPCt (binds := [(Str.ofString "patterns", .ref lp), (Str.ofString "names", .ref ln)]) Xs (Top.nolimit Ts) ?k6 ?k7 (by walk_at "MyD") ?k9 ?kB ?kD ?_ ?c2 ?c3 ?c4
  case k6 => k_is
  case k7 => k_is
  case k9 => first | exact BindsTo.of_eq rfl | exact binds_K (by k_in) rfl (by k_is) rfl rfl rfl
  case kB => exact rfl
  case kD => decide +kernel
  case c2 => exact rfl
  case c3 => exact rfl
  case c4 => exact rfl
  intro L' h₁ tk₁ cells' htk F N Y'
  k_cells Y'
  try simp only [List.cons_append, List.nil_append] at N
  all_goals (try dsimp [bindC, envOfC, Env.kindOf] at d1')
  have hLne : La ≠ L' := Nat.ne_of_lt (Nat.lt_of_lt_of_le (Heap.lt_size hLa) F.above)
  have N0 := newsB N F.keep hB hLa hBa hLne
  have F0 : Fr B L' h₁ _ := ⟨F.ns, fun b o e => F.keep b o (hB b o e), Nat.le_trans hBs F.above⟩
  have hLlt : @LT.lt Nat instLTNat La L' := Nat.lt_of_lt_of_le (Heap.lt_size hLa) F.above
  clear N F Xs Ts
  have ht1 : 1 ≤ tk₁ := Nat.le_trans h1 htk
  have mk2 : Loop2 := trivial
  try dsimp only
  try k_fold
  rename_i oN oR dN dR
  have hc1 : ∃ v, oN.data = .cell v := ⟨_, dN⟩
  have hc2 : ∃ v, oR.data = .cell v := ⟨_, dR⟩
  obtain ⟨vN, hoN⟩ := hc1
  obtain ⟨vR, hoR⟩ := hc2
  clear dN dR
  have hzp : vp.toArray.size ≤ sizeLine := by rw [sizeLine_eq, List.size_toArray, hp.length]; omega
  k_steps
  unfold Stop
  refine wpAny_with_toks (n := 1) ht1 ?_
  refine LCg.Assign_ListComp_U (F₀ := by k_asm) (by rfl) (by with_unfolding_all rfl) (by with_unfolding_all rfl) (by decide) (by rfl) (by decide) (by rfl) (by rfl) (by rfl) ?_
  k_steps
  unfold Stop
  refine LCg.CompSrc.base rfl (by k_asm) (by k_asm) hlp hzp ?_
  intro g
  refine comp_inv (fun i ys nw => nw = [(La, oLa), (L' + 1 + 1, oN), (L' + 1, oR)] ∧ Are TX ys ((ps.take i).map txtOf)) vp.length ?_ ?_ _ 0 [] _ (by walk_at "MyM") ⟨rfl, .nil⟩
  · rintro i ys nw v I' oI' C oC E2 m₂ h3 tk3 E2' hi hP ⟨rfl, hys⟩ hC hx F2 N2 off ne
    obtain ⟨d, hd, ax, vx, rfl, hlx, hix⟩ := hp.get (show vp[i]? = some v by simpa using hP)
    have hd9 : Stop (ps[i]? = some d) := hd
    obtain ⟨hd4, hdf⟩ := hp3 d (List.mem_of_getElem? hd)
    clear hd hP
    obtain ⟨a0, a1, a2, a3, rfl⟩ : ∃ a0 a1 a2 a3, d = [a0, a1, a2, a3] := by
      match d, hd4 with
      | [a0, a1, a2, a3], _ => exact ⟨a0, a1, a2, a3, rfl⟩
    obtain ⟨t0, t1, t2, t3, rfl⟩ := ints4_inv hix
    have hfg : ∀ f ∈ [a0, a1, a2, a3], Fg f := fun f hf => by rcases hdf f hf with h | h | h <;> simp [Fg, h]
    have g0 := hfg a0 (by walk_at "MyM")
    have g1 := hfg a1 (by walk_at "MyM")
    have g2 := hfg a2 (by walk_at "MyM")
    have g3 := hfg a3 (by walk_at "MyM")
    k_steps
    unfold Stop
    refine oct_c (by walk_at "MyT") (by walk_at "MyD") (by walk_at "MyD") (hlx.at fun o e => Fr.keep F2 _ o e) g0.b g1.b g2.b g3.b ?_ (by walk_at "MyX")
    intro v5 h5 tk5 t5 hv5 hk5
    have F5 := F2.keeps hk5
    have N5 := N2.grown hk5
    clear F2 N2
    k_steps
    unfold Stop
    refine b64e_c (by walk_at "MyT") (by walk_at "MyD") (by walk_at "MyD") hv5 ?_ (by walk_at "MyX")
    intro v6 h6 tk6 t6 hv6 hk6
    have F6 := F5.keeps hk6
    have N6 := N5.grown hk6
    clear F5 N5
    have hv7 : KBw.bInts v6 = [(sgn a0 : Int), (sgn a1 : Int), (sgn a2 : Int), (sgn a3 : Int)] := hv6.trans (enc_all a0 g0.mem a1 g1.mem a2 g2.mem a3 g3.mem)
    k_steps
    unfold Stop
    refine decode4 hv7 g0.sg g1.sg g2.sg g3.sg ?_
    intro t8 k8
    k_steps
    unfold Stop
    refine LCg.CompEnd.intro (by k_asm) (by k_asm) _ (fun p hp => hp) off (.inl hlp) ⟨rfl, ?_⟩
    rw [take_snoc txtOf hd9]
    exact hys.append (.cons ⟨_, rfl⟩ .nil)
  · rintro ys nw ⟨rfl, hys⟩
    rw [show ps.take vp.length = ps from List.take_of_length_le (by rw [hp.length]; exact Nat.le_refl _)] at hys
    intro DS h9 tk9 F9 N9 o9 ht9
    dsimp only [LCg.Off1] at o9
    have hyl := hys.length
    rw [List.length_map] at hyl
    have hfg : ∀ d ∈ ps, ∀ f ∈ d, Fg f := fun d hd f hf => by rcases (hp3 d hd).2 f hf with h | h | h <;> simp [Fg, h]
    have hsz1 : ys.length ≤ 1000 := by omega
    k_steps
    unfold Stop
    refine wpAny_with_toks (n := 1) (by dsimp only; exact ht9) ?_
    refine assign_O (h₀ := B) (L := L') (by rfl) (by with_unfolding_all rfl) (by with_unfolding_all rfl) (by decide) (by rfl) (by decide) (by rfl) (by rfl) (by rfl) ?_
    k_steps
    refine ⟨_, DS, ys, ps.map txtOf, parts, _, rfl, rfl, by k_asm, N9, News.isList N9 (List.mem_cons_self ..), hsz1, hys, ?_, ?_⟩
    · intro d t C oC m₂ s₃ E' hd ht hC hx F2 N2
      obtain ⟨d0, hd0, rfl⟩ := List.mem_map.mp hd
      have hd4 := (hp3 d0 hd0).1
      have htl : (txtOf d0).length = 4 := by rw [txtOf, List.length_map, hd4]
      have ht3 : 1 ≤ s₃.toks := Nat.le_trans ht9 ht
      k_steps
      unfold Stop
      refine trl_c (by walk_at "MyT") (by walk_at "MyD") (by walk_at "MyD") (txt_ok (hfg d0 hd0)) (by rw [htl]; decide) ht3 (by dsimp only; omega) ?_ (by walk_at "MyX")
      intro a vs n h' tk' hk hn hget hA
      show TurnO s₃ s₃.heap _ (.ref a) _
      exact ⟨h', tk', a, vs, rfl, hk, rfl, hn, ⟨_, hget, rfl, _, rfl⟩, hA.mono fun v d ⟨t, e, _⟩ => ⟨t, e⟩⟩
    · intro DP h10 tk10 yp nP tlP F10 N10 offP offT hyp ht10
      dsimp only [List.cons_append, List.nil_append] at N10
      rw [List.map_map] at hyp
      k_steps
      unfold Stop
      refine wpAny_with_toks (n := 1) (by dsimp only; exact ht10) ?_
      refine assign_O (h₀ := B) (L := L') (by rfl) (by with_unfolding_all rfl) (by with_unfolding_all rfl) (by decide) (by rfl) (by decide) (by rfl) (by rfl) (by rfl) ?_
      k_steps
      refine ⟨_, DS, ys, ps.map txtOf, fun d => parts (quoT c257 d), _, rfl, rfl, by k_asm, N10, News.isList N10 (List.mem_cons_of_mem _ (List.mem_cons_self ..)), hsz1, hys, ?_, ?_⟩
      · intro d t C oC m₂ s₃ E' hd ht hC hx F2 N2
        obtain ⟨d0, hd0, rfl⟩ := List.mem_map.mp hd
        have hd4 := (hp3 d0 hd0).1
        obtain ⟨a0, a1, a2, a3, rfl⟩ : ∃ a0 a1 a2 a3, d0 = [a0, a1, a2, a3] := by
          match d0, hd4 with
          | [a0, a1, a2, a3], _ => exact ⟨a0, a1, a2, a3, rfl⟩
        have ht3 : 1 ≤ s₃.toks := Nat.le_trans ht10 ht
        have hfd := hfg _ hd0
        k_steps
        unfold Stop
        refine wpAny_with_toks (n := 1) (by dsimp only; omega) (quo_c (code := c257) (a := sgn a0) (b := sgn a1) (c := sgn a2) (d := sgn a3) (by walk_at "MyT") (by walk_at "MyD") (by walk_at "MyD") (hfd a0 (by walk_at "MyM")).sgN (hfd a1 (by walk_at "MyM")).sgN (hfd a2 (by walk_at "MyM")).sgN (hfd a3 (by walk_at "MyM")).sgN rfl ?_ (by walk_at "MyX"))
        intro h5 tk5 t5 hk5 htk5
        have F5 := F2.keeps hk5
        have N5 := N2.grown hk5
        clear N2
        k_steps
        unfold Stop
        have hdl := dbl_len (a := sgn a0) (b := sgn a1) (c := sgn a2) (d := sgn a3)
        refine trl_c (p := quoT c257 (txtOf [a0, a1, a2, a3])) (by walk_at "MyT") (by walk_at "MyD") (by walk_at "MyD") (quo_ok (txt_ok hfd)) (by show (c257 ++ [32, 34] ++ dbl [sgn a0, sgn a1, sgn a2, sgn a3] ++ [34, 32, 111, 107]).length ≤ 20; simp only [List.length_append, List.length_cons, List.length_nil, c257]; omega) htk5 (by dsimp only; omega) ?_ (by walk_at "MyX")
        intro a vs n h' tk' hk hn hget hA
        show TurnO s₃ s₃.heap _ (.ref a) _
        refine ⟨h', tk', a, vs, rfl, fun b o e => hk b o (hk5 b o e), rfl, ?_, ⟨_, hget, rfl, _, rfl⟩, hA.mono fun v d ⟨t, e, _⟩ => ⟨t, e⟩⟩
        cases e : s₃.heap.get? a with
        | none => rfl
        | some o => have := hk5 _ _ e; dsimp only at hn; rw [this] at hn; cases hn
      · intro DW h11 tk11 yw nW tlW F11 N11 offP2 offT2 hyw ht11
        dsimp only [List.cons_append, List.nil_append] at N11
        rw [List.map_map] at hyw
        have hyp0 : Are (PartL (tlP ++ tlW)) yp (ps.map fun d => parts (txtOf d)) := hyp.mono fun v d h => h.more fun p hp => List.mem_append_left _ hp
        have hyw0 : Are (PartL (tlP ++ tlW)) yw (ps.map fun d => parts (quoT c257 (txtOf d))) := hyw.mono fun v d h => h.more fun p hp => List.mem_append_right _ hp
        have hcl0 : ∀ p ∈ tlP ++ tlW, p.2.cls = .type "list" := fun p hp => (List.mem_append.mp hp).elim (fun hp => (offT p hp).2.2) (fun hp => (offT2 p hp).2.2)
        have nR : NeTl (L' + 1) (tlP ++ tlW) := fun p hp => (List.mem_append.mp hp).elim (fun hp => (offT p hp).1 (L' + 1, oR) (by walk_at "MyM")) (fun hp => (offT2 p hp).1 (L' + 1, oR) (by walk_at "MyM"))
        have nN : NeTl (L' + 1 + 1) (tlP ++ tlW) := fun p hp => (List.mem_append.mp hp).elim (fun hp => (offT p hp).1 (L' + 1 + 1, oN) (by walk_at "MyM")) (fun hp => (offT2 p hp).1 (L' + 1 + 1, oN) (by walk_at "MyM"))
        have nL : NeTl La (tlP ++ tlW) := fun p hp => (List.mem_append.mp hp).elim (fun hp => (offT p hp).1 (La, oLa) (by walk_at "MyM")) (fun hp => (offT2 p hp).1 (La, oLa) (by walk_at "MyM"))
        have nP' : NeTl DP (tlP ++ tlW) := fun p hp => (List.mem_append.mp hp).elim (fun hp => (offT p hp).2.1) (fun hp => (offT2 p hp).1 (DP, _) (List.mem_cons_self ..))
        have nW' : NeTl DW (tlP ++ tlW) := fun p hp => (List.mem_append.mp hp).elim (fun hp => offP2 p (by walk_at "MyM")) (fun hp => (offT2 p hp).2.1)
        have eLP : La ≠ DP := offP (La, oLa) (by walk_at "MyM")
        have eNP : L' + 1 + 1 ≠ DP := offP (L' + 1 + 1, oN) (by walk_at "MyM")
        have eRP : L' + 1 ≠ DP := offP (L' + 1, oR) (by walk_at "MyM")
        have eLW : La ≠ DW := offP2 (La, oLa) (by walk_at "MyM")
        have eNW : L' + 1 + 1 ≠ DW := offP2 (L' + 1 + 1, oN) (by walk_at "MyM")
        have eRW : L' + 1 ≠ DW := offP2 (L' + 1, oR) (by walk_at "MyM")
        have ePW : DP ≠ DW := offP2 (DP, _) (List.mem_cons_self ..)
        have eLN : La ≠ L' + 1 + 1 := Nat.ne_of_lt (Nat.lt_succ_of_lt (Nat.lt_succ_of_lt hLlt))
        have eLR : La ≠ L' + 1 := Nat.ne_of_lt (Nat.lt_succ_of_lt hLlt)
        have eRN : L' + 1 ≠ L' + 1 + 1 := Nat.ne_of_lt (Nat.lt_succ_self _)
        clear hyp hyw offT offT2 offP offP2 F9 N9 F10 N10 hys ht9 ht10 htk ht1
        generalize tlP ++ tlW = tl0 at *
        have hypl := hyp0.length
        rw [List.length_map] at hypl
        have hywl := hyw0.length
        rw [List.length_map] at hywl
        k_steps
        unfold Stop
        refine wpAny_with_toks (n := 1) (by dsimp only; exact ht11) ?_
        refine LCg.Assign_ListComp_U (F₀ := by k_asm) (by rfl) (by with_unfolding_all rfl) (by with_unfolding_all rfl) (by decide) (by rfl) (by decide) (by rfl) (by rfl) (by rfl) ?_
        k_steps
        unfold Stop
        refine LCg.CompSrc.ledger rfl (by k_asm) N11 (ax := DP) (its := yp.toArray) (k := nP) (List.mem_cons_of_mem _ (List.mem_cons_self ..)) (by rw [sizeLine_eq, List.size_toArray]; omega) ?_
        intro g3
        refine comp_inv (fun i zs nw => nw = (DW, W.listOf yw.toArray nW) :: (DP, W.listOf yp.toArray nP) :: (DS, LCg.lst ys) :: (La, oLa) :: (L' + 1 + 1, oN) :: (L' + 1, oR) :: tl0 ∧ Are TX zs ((ps.take i).map fun d => (parts (txtOf d)).flatten)) yp.length ?_ ?_ _ 0 [] _ (by walk_at "MyM") ⟨rfl, .nil⟩
        · rintro i zs nw v I' oI' C oC E2 m₂ h3 tk3 E2' hi hP ⟨rfl, hzs⟩ hC hx F2 N2 off ne
          obtain ⟨g, hg, ap, op, vsp, np, rfl, hm, hcp, hdp, hAp⟩ := hyp0.get (show yp[i]? = some v by simpa using hP)
          rw [List.getElem?_map, Option.map_eq_some_iff] at hg
          obtain ⟨d, hd, rfl⟩ := hg
          have hd9 : Stop (ps[i]? = some d) := hd
          have hd4 := (hp3 d (List.mem_of_getElem? hd)).1
          have hfl : (parts (txtOf d)).flatten.length ≤ 1000000 := Nat.le_trans (parts_len _) (by rw [txtOf, List.length_map, hd4]; decide)
          clear hd hP
          k_steps
          unfold Stop
          refine join_t (by rfl) ⟨op, (N2 _ (by repeat (first | exact hm | apply List.mem_cons_of_mem))).1, hcp, np, hdp⟩ hAp hfl ?_
          intro tj kj
          k_steps
          unfold Stop
          refine LCg.CompEnd.intro (by k_asm) (by k_asm) _ (fun p hp => hp) off (.inr ⟨_, List.mem_cons_of_mem _ (List.mem_cons_self ..), rfl, _, rfl⟩) ⟨rfl, ?_⟩
          rw [take_snoc (fun d => (parts (txtOf d)).flatten) hd9]
          exact hzs.append (.cons ⟨_, rfl⟩ .nil)
        · rintro zs nw ⟨rfl, hzs⟩
          rw [show ps.take yp.length = ps from List.take_of_length_le (by rw [hypl]; exact Nat.le_refl _)] at hzs
          intro DT h12 tk12 F12 N12 o12 ht12
          dsimp only [LCg.Off1] at o12
          obtain ⟨eTW, eTP, eTS, eTL, eTN, eTR, nT⟩ := o12
          have nT' := NeTl.of1 nT
          have hvd0 : Are (ItL tl0) zs (ps.map fun d => It.txt (parts (txtOf d)).flatten) := by
            have := hzs.map It.txt (S := ItL tl0) (fun v d h => h)
            rw [List.map_map] at this
            exact this
          clear hzs nT
          k_steps
          unfold Stop
          refine For_turns (by k_asm) ?_
          k_steps
          unfold Stop
          rename Fr _ _ _ _ => F13
          have N13 : News B L' h12 ((L' + 1, oR) :: (L' + 1 + 1, oN) :: (La, oLa) :: (DP, W.listOf yp.toArray nP) :: (DW, W.listOf yw.toArray nW) :: (DT, W.listOf zs.toArray zs.length) :: tl0) := fun p hp => N12 p ((List.forall_mem_cons.mpr ⟨by walk_at "MyM", List.forall_mem_cons.mpr ⟨by walk_at "MyM", List.forall_mem_cons.mpr ⟨by walk_at "MyM", List.forall_mem_cons.mpr ⟨by walk_at "MyM", List.forall_mem_cons.mpr ⟨by walk_at "MyM", List.forall_mem_cons.mpr ⟨List.mem_cons_self .., fun p hp => by walk_at "MyM"⟩⟩⟩⟩⟩⟩ : ∀ p ∈ _, p ∈ _) p hp)
          clear N12 N11
          refine baseTurns rfl F13 N13 hln (fun I hI => ?_)
          have kI1 : I ≠ L' + 1 := Nat.ne_of_gt (hI (L' + 1, oR) (by walk_at "MyM"))
          have kI2 : I ≠ L' + 1 + 1 := Nat.ne_of_gt (hI (L' + 1 + 1, oN) (by walk_at "MyM"))
          have kIL : I ≠ La := Nat.ne_of_gt (hI (La, oLa) (by walk_at "MyM"))
          have kIP : I ≠ DP := Nat.ne_of_gt (hI (DP, W.listOf yp.toArray nP) (by walk_at "MyM"))
          have kIW : I ≠ DW := Nat.ne_of_gt (hI (DW, W.listOf yw.toArray nW) (by walk_at "MyM"))
          have kIT : I ≠ DT := Nat.ne_of_gt (hI (DT, W.listOf zs.toArray zs.length) (by walk_at "MyM"))
          clear hI
          have hLd2 : ∃ sl, oLa = { oLa with slots := sl } := ⟨oLa.slots, rfl⟩
          have hzl := hvd0.length
          rw [List.length_map] at hzl
          refine items_inv (σ := Obj × Obj × Obj × List Value × Nat × List (Addr × Obj)) (fun c => (L' + 1, c.1) :: (L' + 1 + 1, c.2.1) :: (La, c.2.2.1) :: (DP, W.listOf yp.toArray nP) :: (DW, W.listOf yw.toArray nW) :: (DT, W.listOf c.2.2.2.1.toArray c.2.2.2.2.1) :: c.2.2.2.2.2)
            (fun c => [(Str.ofString "patterns", .ref lp), (Str.ofString "names", .ref ln), (Str.ofString "signs", .ref DS), (Str.ofString "parts", .ref DP), (Str.ofString "whole", .ref DW), (Str.ofString "told", .ref DT)])
            (fun r c => ∃ pn rn v₀ v₁, Are (NamH B) r rn ∧ pn ++ rn = nms ∧ Are (PartL c.2.2.2.2.2) yp (ps.map fun d => parts (txtOf d)) ∧ Are (PartL c.2.2.2.2.2) yw (ps.map fun d => parts (quoT c257 (txtOf d))) ∧ Are (ItL c.2.2.2.2.2) c.2.2.2.1 (ps.map (fun d => It.txt (parts (txtOf d)).flatten) ++ pn.flatMap (toldN ps)) ∧ c.1.data = .cell v₀ ∧ c.2.1.data = .cell v₁ ∧ (∃ sl, c.2.2.1 = { oLa with slots := sl }) ∧
              NeTl (L' + 1) c.2.2.2.2.2 ∧ NeTl (L' + 1 + 1) c.2.2.2.2.2 ∧ NeTl La c.2.2.2.2.2 ∧ NeTl DP c.2.2.2.2.2 ∧ NeTl DW c.2.2.2.2.2 ∧ NeTl DT c.2.2.2.2.2 ∧ ∀ p ∈ c.2.2.2.2.2, p.2.cls ≠ .type "list_iterator")
            ?_ ?_ vn _ (oR, oN, oLa, zs, zs.length, tl0) ⟨[], nms, _, _, hn, rfl, hyp0, hyw0, by simpa using hvd0, hoR, hoN, hLd2, nR, nN, nL, nP', nW', nT', fun p hp => by rw [hcl0 p hp]; simp⟩ (by walk_at "MyAll")
          clear hyp0 hyw0 hvd0 hoR hoN nR nN nL nP' nW' nT' hcl0 F13 N13 hLd2
          · rintro v r ⟨oR, oN, oL, vd, cd, tl⟩ uu h' tk' ⟨pn, rn, v₀, v₁, hr, hpn, hyp, hyw, hvd, hoR, hoN, hoL, nR, nN, nL, nP', nW', nT', hcl⟩ F' oIt hoIt N'
            dsimp only at hyp hyw hvd hoR hoN hoL nR nN nL nP' nW' nT' hcl F' N'
            cases hr with
            | cons hv hr' =>
              rename_i d rn'
              have hr9 : Stop (Are (NamH B) r rn') := hr'
              clear hr'
              obtain ⟨d, b⟩ := d
              obtain ⟨TT, a, vs, rfl, hTT, hla, hia⟩ := hv
              obtain ⟨hd4, hdf⟩ := hn3 (d, b) (by rw [← hpn]; simp)
              dsimp only at hia hd4 hdf hTT
              obtain ⟨a0, a1, a2, a3, rfl⟩ : ∃ a0 a1 a2 a3, d = [a0, a1, a2, a3] := by
                match d, hd4 with
                | [a0, a1, a2, a3], _ => exact ⟨a0, a1, a2, a3, rfl⟩
              obtain ⟨t0, t1, t2, t3, rfl⟩ := ints4_inv hia
              have hfd : ∀ f ∈ [a0, a1, a2, a3], Fg f := fun f hf => by rcases hdf f hf with h | h | h <;> simp [Fg, h]
              have g0 := hfd a0 (by walk_at "MyM")
              have g1 := hfd a1 (by walk_at "MyM")
              have g2 := hfd a2 (by walk_at "MyM")
              have g3 := hfd a3 (by walk_at "MyM")
              have hvl := hvd.length
              rw [List.length_append, List.length_map, toldN_len] at hvl
              have hpnl : pn.length ≤ 13 := by rw [← hpn, List.length_append] at hnl; omega
              have hz0 : vd.toArray.size ≤ sizeLine := by rw [sizeLine_eq, List.size_toArray]; omega
              have hz1 : ∀ x, (vd ++ [x]).toArray.size ≤ sizeLine := by intro x; rw [sizeLine_eq, List.size_toArray, List.length_append]; simp only [List.length_cons, List.length_nil]; omega
              clear hvl hpnl hzl
              cases b with
              | true =>
                k_steps
                unfold Stop
                rename Fr _ _ _ _ => F2
                rename News _ _ _ _ => N2
                dsimp only [List.cons_append, List.nil_append] at N2
                refine oct_c (by walk_at "MyT") (by walk_at "MyD") (by walk_at "MyD") (hla.at fun o e => Fr.keep F2 _ o e) g0.b g1.b g2.b g3.b ?_ (by walk_at "MyX")
                intro v5 h5 tk5 t5 hv5 hk5
                have F5 := F2.keeps hk5
                have N5 := N2.grown hk5
                clear F2 N2
                k_steps
                unfold Stop
                refine b64e_c (by walk_at "MyT") (by walk_at "MyD") (by walk_at "MyD") hv5 ?_ (by walk_at "MyX")
                intro v6 h6 tk6 t6 hv6 hk6
                have F6 := F5.keeps hk6
                have N6 := N5.grown hk6
                clear F5 N5
                have hv7 : KBw.bInts v6 = [(sgn a0 : Int), (sgn a1 : Int), (sgn a2 : Int), (sgn a3 : Int)] := hv6.trans (enc_all a0 g0.mem a1 g1.mem a2 g2.mem a3 g3.mem)
                k_steps
                unfold Stop
                refine decode4 hv7 g0.sg g1.sg g2.sg g3.sg ?_
                intro t8 k8
                k_steps
                unfold Stop
                refine quo_c (code := c257) (a := sgn a0) (b := sgn a1) (c := sgn a2) (d := sgn a3) (by walk_at "MyT") (by walk_at "MyD") (by walk_at "MyD") g0.sgN g1.sgN g2.sgN g3.sgN rfl ?_ (by walk_at "MyX")
                intro h8 tk8 t8' hk8
                have F8 := F6.keeps hk8
                have N8 := N6.grown hk8
                clear F6 N6
                k_steps
                refine (storeX_C F8 N8 rfl (UpdF.tail kI1 (UpdF.head (List.forall_mem_cons.mpr ⟨Ne.symm eRN, List.forall_mem_cons.mpr ⟨eLR, List.forall_mem_cons.mpr ⟨Ne.symm eRP, List.forall_mem_cons.mpr ⟨Ne.symm eRW, List.forall_mem_cons.mpr ⟨Ne.symm eTR, nR.use⟩⟩⟩⟩⟩))) hoR (fun h9 oR1 F9 N9 hoR1 => ?_) rfl rfl)
                clear F8 N8
                try dsimp only
                k_steps
                unfold Stop
                rename Fr _ _ _ _ => F10
                rename News _ _ _ _ => N10
                rename_i l0 _ ll0
                refine PyProof.Rows.len_list (News.isList N10 (List.mem_cons_of_mem _ (List.mem_cons_of_mem _ (List.mem_cons_of_mem _ (List.mem_cons_of_mem _ (List.mem_cons_of_mem _ (List.mem_cons_self ..))))))) (by rw [List.size_toArray, hypl]; exact Int.lt_of_le_of_lt (Int.ofNat_le.mpr hpl) (by decide)) ?_
                refine mulF (n := yp.length) F10 N10 (List.mem_cons_self ..) (by rw [hypl]; exact Nat.le_trans hpl (by decide)) ?_
                intro DB h11 F11 N11 lDB
                have N12 : News B L' h11 ((DB, W.listOf (bls (List.replicate yp.length false)).toArray 0) :: (I, oIt) :: (L' + 1, oR1) :: (L' + 1 + 1, oN) :: (La, oL) :: (DP, W.listOf yp.toArray nP) :: (DW, W.listOf yw.toArray nW) :: (DT, W.listOf vd.toArray cd) :: tl) := fun p hp => N11 p (by
                  rcases List.mem_cons.mp hp with e | hp
                  · exact List.mem_cons.mpr (.inl e)
                  · exact List.mem_cons_of_mem _ (List.mem_cons_of_mem _ hp))
                have lB : ∀ p ∈ (I, oIt) :: (L' + 1, oR1) :: (L' + 1 + 1, oN) :: (La, oL) :: (DP, W.listOf yp.toArray nP) :: (DW, W.listOf yw.toArray nW) :: (DT, W.listOf vd.toArray cd) :: tl, @LT.lt Nat instLTNat p.1 DB := fun p hp => lDB p (List.mem_cons_of_mem _ hp)
                clear F10 N10 N11 lDB ll0
                k_steps
                unfold Stop
                rename Fr _ _ _ _ => F13
                rename News _ _ _ _ => N13
                have hql : (quoT c257 (txtOf [a0, a1, a2, a3])).length ≤ 20 := by
                  have hdl := dbl_len (a := sgn a0) (b := sgn a1) (c := sgn a2) (d := sgn a3)
                  show (c257 ++ [32, 34] ++ dbl [sgn a0, sgn a1, sgn a2, sgn a3] ++ [34, 32, 111, 107]).length ≤ 20
                  simp only [List.length_append, List.length_cons, List.length_nil, c257]; omega
                refine p257_c (q := quoT c257 (txtOf [a0, a1, a2, a3])) (p := txtOf [a0, a1, a2, a3]) (by walk_at "MyT") (by walk_at "MyD") (by walk_at "MyD") rfl (Nat.lt_of_le_of_lt hql (by decide)) ?_ (by walk_at "MyX")
                intro h14 tk14 t14 hk14
                have F14 := F13.keeps hk14
                have N14 := N13.grown hk14
                clear F13 N13
                refine storeX_C F14 N14 rfl (UpdF.tail (Nat.ne_of_gt (lB (L' + 1 + 1, oN) (by walk_at "MyM"))) (UpdF.tail kI2 (UpdF.tail eRN (UpdF.head (List.forall_mem_cons.mpr ⟨eLN, List.forall_mem_cons.mpr ⟨Ne.symm eNP, List.forall_mem_cons.mpr ⟨Ne.symm eNW, List.forall_mem_cons.mpr ⟨Ne.symm eTN, nN.use⟩⟩⟩⟩))))) hoN (fun h15 oN1 F15 N15 hoN1 => ?_) rfl rfl
                clear F14 N14
                try dsimp only
                k_steps
                unfold Stop
                refine b64d_c (c0 := (sgn a0 : Int)) (c1 := (sgn a1 : Int)) (c2 := (sgn a2 : Int)) (c3 := (sgn a3 : Int)) (by walk_at "MyT") (by walk_at "MyD") (by walk_at "MyD") g0.sg g1.sg g2.sg g3.sg ?_ (by walk_at "MyX")
                intro v16 h16 tk16 t16 hv16 hk16
                have F16 := F15.keeps hk16
                have N16 := N15.grown hk16
                clear F15 N15
                k_steps
                unfold Stop
                refine append_K F16 N16 (Upd.tail (Nat.ne_of_gt (lB (DT, W.listOf vd.toArray cd) (by walk_at "MyM"))) (Upd.tail kIT (Upd.tail eTR (Upd.tail eTN (Upd.tail eTL (Upd.tail eTP (Upd.tail eTW (Upd.head nT'.use)))))))) ?_ hz0
                intro h17 F17 N17
                rw [List.push_toArray] at N17
                clear F16 N16
                generalize hK : Value.bytes v16 t16 = y1 at N17
                have hy1 : ItL tl y1 (It.byt (decT (txtOf [a0, a1, a2, a3]))) := by rw [← hK]; exact ⟨_, _, rfl, hv16⟩
                clear hK
                k_steps
                unfold Stop
                refine LCg.Assign_ListComp_U (F₀ := by k_asm) (by rfl) (by with_unfolding_all rfl) (by with_unfolding_all rfl) (by decide) (by rfl) (by decide) (by rfl) (by rfl) (by rfl) ?_
                k_steps
                unfold Stop
                rename Fr _ _ _ _ => F18
                have N18 : News B L' h17 ((I, oIt) :: (L' + 1, oR1) :: (L' + 1 + 1, oN1) :: (La, oL) :: (DP, W.listOf yp.toArray nP) :: (DW, W.listOf yw.toArray nW) :: (DT, W.listOf (vd ++ [y1]).toArray (cd + 1)) :: tl) := fun p hp => N17 p (List.mem_cons_of_mem _ hp)
                clear N17
                refine LCg.CompSrc.ledger rfl F18 N18 (ax := DP) (its := yp.toArray) (k := nP) (List.mem_cons_of_mem _ (List.mem_cons_of_mem _ (List.mem_cons_of_mem _ (List.mem_cons_of_mem _ (List.mem_cons_self ..))))) (by rw [sizeLine_eq, List.size_toArray, hypl]; exact Nat.le_trans hpl (by decide)) ?_
                intro g4
                refine comp_inv (fun i zs nw => nw = (I, oIt) :: (L' + 1, oR1) :: (L' + 1 + 1, oN1) :: (La, oL) :: (DP, W.listOf yp.toArray nP) :: (DW, W.listOf yw.toArray nW) :: (DT, W.listOf (vd ++ [y1]).toArray (cd + 1)) :: tl ∧ zs = bls ((ps.take i).map fun d => true && takesB (parts (txtOf d)) (txtOf [a0, a1, a2, a3]))) yp.length ?_ ?_ _ 0 [] _ (by walk_at "MyM") ⟨rfl, rfl⟩
                · rintro i zs nw v I' oI' C oC E2 m₂ h3 tk3 E2' hi hP ⟨rfl, rfl⟩ hC hx F2 N2 off ne
                  obtain ⟨g, hg, ap, op, vsp, np, rfl, hm, hcp, hdp, hAp⟩ := hyp.get (show yp[i]? = some v by simpa using hP)
                  rw [List.getElem?_map, Option.map_eq_some_iff] at hg
                  obtain ⟨d, hd, rfl⟩ := hg
                  have hd9 : Stop (ps[i]? = some d) := hd
                  clear hd hP
                  k_steps
                  unfold Stop
                  refine tak_c (q := txtOf [a0, a1, a2, a3]) (by walk_at "MyT") (by walk_at "MyD") (by walk_at "MyD") ⟨op, (N2 _ (by repeat (first | exact hm | apply List.mem_cons_of_mem))).1, hcp, np, hdp⟩ hAp (fun d hd => (parts_ok _ d hd).1) (fun d hd => (parts_ok _ d hd).2) (by show 4 ≤ 60; decide) (by walk_at "MyD") ?_ (by walk_at "MyX")
                  intro h9 tk9 hk9
                  have F9 := F2.keeps hk9
                  have N9 := N2.grown hk9
                  clear F2 N2
                  k_steps
                  unfold Stop
                  refine LCg.CompEnd.intro (by k_asm) (by k_asm) _ (fun p hp => hp) off (.inr ⟨_, List.mem_cons_of_mem _ (List.mem_cons_of_mem _ (List.mem_cons_of_mem _ (List.mem_cons_of_mem _ (List.mem_cons_self ..)))), rfl, _, rfl⟩) ⟨rfl, ?_⟩
                  rw [bls_snoc hd9]; rfl
                rintro zs nw ⟨rfl, rfl⟩
                rw [show ps.take yp.length = ps from List.take_of_length_le (by rw [hypl]; exact Nat.le_refl _)]
                intro DB2 h19 tk19 F19 N19 o19
                dsimp only [LCg.Off1] at o19
                obtain ⟨b1, b2, b3, b4, b5, b6, b7, b8⟩ := o19
                clear F18 N18
                have eB2 : DT ≠ DB2 := b7
                generalize hB2 : LCg.lst (bls (ps.map fun d => true && takesB (parts (txtOf d)) (txtOf [a0, a1, a2, a3]))) = oB2 at N19
                k_steps
                unfold Stop
                rename Fr _ _ _ _ => F20
                rename News _ _ _ _ => N20
                refine LCg.CompSrc.ledger rfl F20 N20 (ax := DW) (its := yw.toArray) (k := nW) (List.mem_cons_of_mem _ (List.mem_cons_of_mem _ (List.mem_cons_of_mem _ (List.mem_cons_of_mem _ (List.mem_cons_of_mem _ (List.mem_cons_of_mem _ (List.mem_cons_self ..))))))) (by rw [sizeLine_eq, List.size_toArray, hywl]; exact Nat.le_trans hpl (by decide)) ?_
                intro g5
                refine comp_inv (fun i zs nw => nw = (DB2, oB2) :: (I, oIt) :: (L' + 1, oR1) :: (L' + 1 + 1, oN1) :: (La, oL) :: (DP, W.listOf yp.toArray nP) :: (DW, W.listOf yw.toArray nW) :: (DT, W.listOf (vd ++ [y1]).toArray (cd + 1)) :: tl ∧ zs = bls ((ps.take i).map fun d => takesB (parts (quoT c257 (txtOf d))) (quoT c257 (txtOf [a0, a1, a2, a3])))) yw.length ?_ ?_ _ 0 [] _ (by walk_at "MyM") ⟨rfl, rfl⟩
                · rintro i zs nw v I' oI' C oC E2 m₂ h3 tk3 E2' hi hP ⟨rfl, rfl⟩ hC hx F2 N2 off ne
                  obtain ⟨g, hg, ap, op, vsp, np, rfl, hm, hcp, hdp, hAp⟩ := hyw.get (show yw[i]? = some v by simpa using hP)
                  rw [List.getElem?_map, Option.map_eq_some_iff] at hg
                  obtain ⟨d, hd, rfl⟩ := hg
                  have hd9 : Stop (ps[i]? = some d) := hd
                  clear hd hP
                  k_steps
                  unfold Stop
                  refine tak_c (q := quoT c257 (txtOf [a0, a1, a2, a3])) (by walk_at "MyT") (by walk_at "MyD") (by walk_at "MyD") ⟨op, (N2 _ (by repeat (first | exact hm | apply List.mem_cons_of_mem))).1, hcp, np, hdp⟩ hAp (fun d hd => (parts_ok _ d hd).1) (fun d hd => (parts_ok _ d hd).2) (Nat.le_trans hql (by decide)) (by walk_at "MyD") ?_ (by walk_at "MyX")
                  intro h9 tk9 hk9
                  have F9 := F2.keeps hk9
                  have N9 := N2.grown hk9
                  clear F2 N2
                  k_steps
                  unfold Stop
                  refine LCg.CompEnd.intro (by k_asm) (by k_asm) _ (fun p hp => hp) off (.inr ⟨_, List.mem_cons_of_mem _ (List.mem_cons_of_mem _ (List.mem_cons_of_mem _ (List.mem_cons_of_mem _ (List.mem_cons_of_mem _ (List.mem_cons_of_mem _ (List.mem_cons_self ..)))))), rfl, _, rfl⟩) ⟨rfl, ?_⟩
                  rw [bls_snoc hd9]
                · rintro zs nw ⟨rfl, rfl⟩
                  rw [show ps.take yw.length = ps from List.take_of_length_le (by rw [hywl]; exact Nat.le_refl _)]
                  intro DC h21 tk21 F21 N21 o21
                  dsimp only [LCg.Off1] at o21
                  obtain ⟨c0, c1, c2, c3, c4, c5, c6, c7, c8⟩ := o21
                  clear F20 N20
                  k_steps
                  unfold Stop
                  rename Fr _ _ _ _ => F22
                  rename News _ _ _ _ => N22
                  rename_i TN _ lT
                  obtain ⟨q0, q1, q2, q3, q4, q5, q6, q7, q8, q9⟩ := lT
                  refine append_K F22 N22 (Upd.tail (Nat.ne_of_gt q8) (Upd.tail (Ne.symm c7) (Upd.tail (Ne.symm eB2) (Upd.tail kIT (Upd.tail eTR (Upd.tail eTN (Upd.tail eTL (Upd.tail eTP (Upd.tail eTW (Upd.head nT'.use)))))))))) ?_ (hz1 _)
                  intro h23 F23 N23
                  rw [List.push_toArray] at N23
                  clear F22 N22
                  k_steps
                  unfold Stop
                  subst hB2
                  refine endW (news' := (L' + 1, oR1) :: (L' + 1 + 1, oN1) :: (La, oL) :: (DP, W.listOf yp.toArray nP) :: (DW, W.listOf yw.toArray nW) :: (DT, W.listOf (vd ++ [y1] ++ [Value.ref TN]).toArray (cd + 1 + 1)) :: (TN, tupO [.ref DB2, .ref DC]) :: (DC, LCg.lst (bls (ps.map fun d => takesB (parts (quoT c257 (txtOf d))) (quoT c257 (txtOf [a0, a1, a2, a3]))))) :: (DB2, LCg.lst (bls (ps.map fun d => true && takesB (parts (txtOf d)) (txtOf [a0, a1, a2, a3])))) :: tl) F23 N23 (by walk_at "MyM") ?_ ?_ ⟨trivial, (oR1, oN1, oL, vd ++ [y1] ++ [Value.ref TN], cd + 1 + 1, (TN, tupO [.ref DB2, .ref DC]) :: (DC, LCg.lst (bls (ps.map fun d => takesB (parts (quoT c257 (txtOf d))) (quoT c257 (txtOf [a0, a1, a2, a3]))))) :: (DB2, LCg.lst (bls (ps.map fun d => true && takesB (parts (txtOf d)) (txtOf [a0, a1, a2, a3])))) :: tl), ⟨pn ++ [([a0, a1, a2, a3], true)], rn', _, _, hr9, by simpa using hpn, ?_, ?_, ?_, hoR1, hoN1, hoL, ((nR.cons (Ne.symm b2)).cons (Ne.symm c2)).cons (Nat.ne_of_gt q3), ((nN.cons (Ne.symm b3)).cons (Ne.symm c3)).cons (Nat.ne_of_gt q4), ((nL.cons (Ne.symm b4)).cons (Ne.symm c4)).cons (Nat.ne_of_gt q5), ((nP'.cons (Ne.symm b5)).cons (Ne.symm c5)).cons (Nat.ne_of_gt q6), ((nW'.cons (Ne.symm b6)).cons (Ne.symm c6)).cons (Nat.ne_of_gt q7), ((nT'.cons (Ne.symm b7)).cons (Ne.symm c7)).cons (Nat.ne_of_gt q8), List.forall_mem_cons.mpr ⟨by walk_at "MyM", List.forall_mem_cons.mpr ⟨by simp [LCg.lst], List.forall_mem_cons.mpr ⟨by simp [LCg.lst, W.listOf], hcl⟩⟩⟩⟩, by walk_at "MyAll", rfl⟩
                  · exact List.forall_mem_cons.mpr ⟨by walk_at "MyM", List.forall_mem_cons.mpr ⟨by walk_at "MyM", List.forall_mem_cons.mpr ⟨by walk_at "MyM", List.forall_mem_cons.mpr ⟨by walk_at "MyM", List.forall_mem_cons.mpr ⟨by walk_at "MyM", List.forall_mem_cons.mpr ⟨by walk_at "MyM", List.forall_mem_cons.mpr ⟨by walk_at "MyM", List.forall_mem_cons.mpr ⟨by walk_at "MyM", List.forall_mem_cons.mpr ⟨by walk_at "MyM", fun p hp => by walk_at "MyM"⟩⟩⟩⟩⟩⟩⟩⟩⟩
                  · exact List.forall_mem_cons.mpr ⟨.inl (Ne.symm kI1), List.forall_mem_cons.mpr ⟨.inl (Ne.symm kI2), List.forall_mem_cons.mpr ⟨.inl (Ne.symm kIL), List.forall_mem_cons.mpr ⟨.inl (Ne.symm kIP), List.forall_mem_cons.mpr ⟨.inl (Ne.symm kIW), List.forall_mem_cons.mpr ⟨.inl (Ne.symm kIT), List.forall_mem_cons.mpr ⟨.inl (Nat.ne_of_gt q2), List.forall_mem_cons.mpr ⟨.inl (Ne.symm c1), List.forall_mem_cons.mpr ⟨.inl (Ne.symm b1), fun p hp => .inr (by rw [hoIt]; exact hcl p hp)⟩⟩⟩⟩⟩⟩⟩⟩⟩
                  · exact hyp.mono fun v d h => h.more fun p hp => List.mem_cons_of_mem _ (List.mem_cons_of_mem _ (List.mem_cons_of_mem _ hp))
                  · exact hyw.mono fun v d h => h.more fun p hp => List.mem_cons_of_mem _ (List.mem_cons_of_mem _ (List.mem_cons_of_mem _ hp))
                  · have e : (pn ++ [([a0, a1, a2, a3], true)]).flatMap (toldN ps) = pn.flatMap (toldN ps) ++ [It.byt (decT (txtOf [a0, a1, a2, a3]))] ++ [It.prs (ps.map fun d => true && takesB (parts (txtOf d)) (txtOf [a0, a1, a2, a3])) (ps.map fun d => takesB (parts (quoT c257 (txtOf d))) (quoT c257 (txtOf [a0, a1, a2, a3])))] := by
                      rw [List.flatMap_append, List.append_assoc]; rfl
                    rw [e, ← List.append_assoc, ← List.append_assoc]
                    exact ((hvd.mono fun v d h => h.more fun p hp => List.mem_cons_of_mem _ (List.mem_cons_of_mem _ (List.mem_cons_of_mem _ hp))).snoc (hy1.more fun p hp => List.mem_cons_of_mem _ (List.mem_cons_of_mem _ (List.mem_cons_of_mem _ hp)))).snoc ⟨TN, DB2, DC, _, _, rfl, List.mem_cons_self .., List.mem_cons_of_mem _ (List.mem_cons_of_mem _ (List.mem_cons_self ..)), List.mem_cons_of_mem _ (List.mem_cons_self ..)⟩
              | false =>
                k_steps
                unfold Stop
                rename Fr _ _ _ _ => F2
                rename News _ _ _ _ => N2
                dsimp only [List.cons_append, List.nil_append] at N2
                refine oct_c (by walk_at "MyT") (by walk_at "MyD") (by walk_at "MyD") (hla.at fun o e => Fr.keep F2 _ o e) g0.b g1.b g2.b g3.b ?_ (by walk_at "MyX")
                intro v5 h5 tk5 t5 hv5 hk5
                have F5 := F2.keeps hk5
                have N5 := N2.grown hk5
                clear F2 N2
                k_steps
                unfold Stop
                refine b64e_c (by walk_at "MyT") (by walk_at "MyD") (by walk_at "MyD") hv5 ?_ (by walk_at "MyX")
                intro v6 h6 tk6 t6 hv6 hk6
                have F6 := F5.keeps hk6
                have N6 := N5.grown hk6
                clear F5 N5
                have hv7 : KBw.bInts v6 = [(sgn a0 : Int), (sgn a1 : Int), (sgn a2 : Int), (sgn a3 : Int)] := hv6.trans (enc_all a0 g0.mem a1 g1.mem a2 g2.mem a3 g3.mem)
                k_steps
                unfold Stop
                refine decode4 hv7 g0.sg g1.sg g2.sg g3.sg ?_
                intro t8 k8
                k_steps
                unfold Stop
                refine quo_c (code := c250) (a := sgn a0) (b := sgn a1) (c := sgn a2) (d := sgn a3) (by walk_at "MyT") (by walk_at "MyD") (by walk_at "MyD") g0.sgN g1.sgN g2.sgN g3.sgN rfl ?_ (by walk_at "MyX")
                intro h8 tk8 t8' hk8
                have F8 := F6.keeps hk8
                have N8 := N6.grown hk8
                clear F6 N6
                k_steps
                refine (storeX_C F8 N8 rfl (UpdF.tail kI1 (UpdF.head (List.forall_mem_cons.mpr ⟨Ne.symm eRN, List.forall_mem_cons.mpr ⟨eLR, List.forall_mem_cons.mpr ⟨Ne.symm eRP, List.forall_mem_cons.mpr ⟨Ne.symm eRW, List.forall_mem_cons.mpr ⟨Ne.symm eTR, nR.use⟩⟩⟩⟩⟩))) hoR (fun h9 oR1 F9 N9 hoR1 => ?_) rfl rfl)
                clear F8 N8
                try dsimp only
                k_steps
                unfold Stop
                rename Fr _ _ _ _ => F10
                rename News _ _ _ _ => N10
                rename_i l0 _ ll0
                refine PyProof.Rows.len_list (News.isList N10 (List.mem_cons_of_mem _ (List.mem_cons_of_mem _ (List.mem_cons_of_mem _ (List.mem_cons_of_mem _ (List.mem_cons_of_mem _ (List.mem_cons_self ..))))))) (by rw [List.size_toArray, hypl]; exact Int.lt_of_le_of_lt (Int.ofNat_le.mpr hpl) (by decide)) ?_
                refine mulF (n := yp.length) F10 N10 (List.mem_cons_self ..) (by rw [hypl]; exact Nat.le_trans hpl (by decide)) ?_
                intro DB h11 F11 N11 lDB
                have N12 : News B L' h11 ((DB, W.listOf (bls (List.replicate yp.length false)).toArray 0) :: (I, oIt) :: (L' + 1, oR1) :: (L' + 1 + 1, oN) :: (La, oL) :: (DP, W.listOf yp.toArray nP) :: (DW, W.listOf yw.toArray nW) :: (DT, W.listOf vd.toArray cd) :: tl) := fun p hp => N11 p (by
                  rcases List.mem_cons.mp hp with e | hp
                  · exact List.mem_cons.mpr (.inl e)
                  · exact List.mem_cons_of_mem _ (List.mem_cons_of_mem _ hp))
                have lB : ∀ p ∈ (I, oIt) :: (L' + 1, oR1) :: (L' + 1 + 1, oN) :: (La, oL) :: (DP, W.listOf yp.toArray nP) :: (DW, W.listOf yw.toArray nW) :: (DT, W.listOf vd.toArray cd) :: tl, @LT.lt Nat instLTNat p.1 DB := fun p hp => lDB p (List.mem_cons_of_mem _ hp)
                clear F10 N10 N11 lDB ll0
                k_steps
                unfold Stop
                rename Fr _ _ _ _ => F13
                rename News _ _ _ _ => N13
                have hql : (quoT c250 (txtOf [a0, a1, a2, a3])).length ≤ 20 := by
                  have hdl := dbl_len (a := sgn a0) (b := sgn a1) (c := sgn a2) (d := sgn a3)
                  show (c250 ++ [32, 34] ++ dbl [sgn a0, sgn a1, sgn a2, sgn a3] ++ [34, 32, 111, 107]).length ≤ 20
                  simp only [List.length_append, List.length_cons, List.length_nil, c250]; omega
                have hoLd : ∀ vs, oL.data ≠ .fields vs := by obtain ⟨sl, e⟩ := hoL; rw [e]; exact hLd
                have zL := N13 (La, oL) (List.mem_cons_of_mem _ (List.mem_cons_of_mem _ (List.mem_cons_of_mem _ (List.mem_cons_of_mem _ (List.mem_cons_self ..)))))
                refine p250_c (B := B) (q := quoT c250 (txtOf [a0, a1, a2, a3])) (by walk_at "MyT") (by walk_at "MyD") (by walk_at "MyD") (by show ([50, 53, 48] : List Nat) ≠ _; decide) (Nat.lt_of_le_of_lt hql (by decide)) ⟨Around.frames_deeper hst, F13.keep, Heap.FunFrames.cons (by show ScopeKind.function ≠ ScopeKind.module; decide) rfl F13.ns ?_ ⟨hlk, ⟨La, oL, hlf, zL.2.2, zL.1, hoLd⟩, trivial⟩⟩ ?_ (by walk_at "MyX")
                · cases e : B.get? L' with
                  | none => rfl
                  | some o => exact absurd (Nat.lt_of_lt_of_le (Heap.lt_size e) F13.above) (Nat.lt_irrefl _)
                intro e9 t9 v9 h14 tk14 R U
                try dsimp only
                refine caught_M (B := B) (outer := [lawEnv]) (L := L') (bmB := [.type "Exception", .type "BaseException", .type "object"]) (newId := "Exception.__new__") hst rfl F13 U R X (topRead_of T) (by k_is) (by k_exc) rfl ?_ ?_
                · intro h' Q' E' F' hq
                  k_steps
                  exact hq
                · intro h15 F15 U15 keep15
                  obtain ⟨sl9, hsl9⟩ := U15 La oL zL.1 hoLd
                  obtain ⟨oL2, hoL2, hgL⟩ : ∃ o2, (∃ sl, o2 = { oLa with slots := sl }) ∧ h15.get? La = some o2 := ⟨_, ⟨sl9, by obtain ⟨sl, e⟩ := hoL; rw [e]⟩, hsl9⟩
                  have N15 := newsC (pre := [(DB, W.listOf (bls (List.replicate yp.length false)).toArray 0), (I, oIt), (L' + 1, oR1), (L' + 1 + 1, oN)]) (L := L') N13 (List.forall_mem_cons.mpr ⟨Nat.ne_of_gt (lB (La, oL) (by walk_at "MyM")), List.forall_mem_cons.mpr ⟨kIL, List.forall_mem_cons.mpr ⟨Ne.symm eLR, List.forall_mem_cons.mpr ⟨Ne.symm eLN, List.forall_mem_cons.mpr ⟨Ne.symm eLP, List.forall_mem_cons.mpr ⟨Ne.symm eLW, List.forall_mem_cons.mpr ⟨Ne.symm eTL, nL.use⟩⟩⟩⟩⟩⟩⟩) (fun b o hg hm => keep15 b o hg (by
                    intro q
                    apply hm
                    obtain ⟨env, he, hf⟩ := List.mem_filterMap.mp q
                    rcases List.mem_cons.mp he with rfl | he
                    · exact List.mem_cons.mpr (.inl (Option.some.inj hf).symm)
                    · rw [List.mem_singleton.mp he, hlf] at hf
                      exact List.mem_cons_of_mem _ (List.mem_singleton.mpr (Option.some.inj hf).symm))) hgL
                  dsimp only [List.cons_append, List.nil_append] at N15
                  clear F13 N13 R U U15 keep15 zL hsl9 hgL
                  k_steps
                  unfold Stop
                  refine append_K F15 N15 (Upd.tail (Nat.ne_of_gt (lB (DT, W.listOf vd.toArray cd) (by walk_at "MyM"))) (Upd.tail kIT (Upd.tail eTR (Upd.tail eTN (Upd.tail eTL (Upd.tail eTP (Upd.tail eTW (Upd.head nT'.use)))))))) ?_ hz0
                  intro h17 F17 N17
                  rw [List.push_toArray] at N17
                  clear F15 N15
                  generalize hK : Value.str (Str.ofString "error_reply") _ = y1 at N17
                  have hy1 : ItL tl y1 (It.txt errT) := by rw [← hK]; exact ⟨_, rfl⟩
                  clear hK
                  have b1 : I ≠ DB := Nat.ne_of_lt (lB (I, oIt) (by walk_at "MyM"))
                  have b2 : L' + 1 ≠ DB := Nat.ne_of_lt (lB (L' + 1, oR1) (by walk_at "MyM"))
                  have b3 : L' + 1 + 1 ≠ DB := Nat.ne_of_lt (lB (L' + 1 + 1, oN) (by walk_at "MyM"))
                  have b4 : La ≠ DB := Nat.ne_of_lt (lB (La, oL) (by walk_at "MyM"))
                  have b5 : DP ≠ DB := Nat.ne_of_lt (lB (DP, W.listOf yp.toArray nP) (by walk_at "MyM"))
                  have b6 : DW ≠ DB := Nat.ne_of_lt (lB (DW, W.listOf yw.toArray nW) (by walk_at "MyM"))
                  have b7 : DT ≠ DB := Nat.ne_of_lt (lB (DT, W.listOf vd.toArray cd) (by walk_at "MyM"))
                  have eB2 : DT ≠ DB := b7
                  clear lB
                  rw [bls_false (f := fun d => takesB (parts (txtOf d)) (txtOf [a0, a1, a2, a3])) hypl] at N17
                  generalize hB2 : W.listOf (bls (ps.map fun d => false && takesB (parts (txtOf d)) (txtOf [a0, a1, a2, a3]))).toArray 0 = oB2 at N17
                  k_steps
                  unfold Stop
                  rename Fr _ _ _ _ => F20
                  rename News _ _ _ _ => N20
                  refine LCg.CompSrc.ledger rfl F20 N20 (ax := DW) (its := yw.toArray) (k := nW) (List.mem_cons_of_mem _ (List.mem_cons_of_mem _ (List.mem_cons_of_mem _ (List.mem_cons_of_mem _ (List.mem_cons_of_mem _ (List.mem_cons_of_mem _ (List.mem_cons_self ..))))))) (by rw [sizeLine_eq, List.size_toArray, hywl]; exact Nat.le_trans hpl (by decide)) ?_
                  intro g5
                  refine comp_inv (fun i zs nw => nw = (DB, oB2) :: (I, oIt) :: (L' + 1, oR1) :: (L' + 1 + 1, oN) :: (La, oL2) :: (DP, W.listOf yp.toArray nP) :: (DW, W.listOf yw.toArray nW) :: (DT, W.listOf (vd ++ [y1]).toArray (cd + 1)) :: tl ∧ zs = bls ((ps.take i).map fun d => takesB (parts (quoT c257 (txtOf d))) (quoT c250 (txtOf [a0, a1, a2, a3])))) yw.length ?_ ?_ _ 0 [] _ (by walk_at "MyM") ⟨rfl, rfl⟩
                  · rintro i zs nw v I' oI' C oC E2 m₂ h3 tk3 E2' hi hP ⟨rfl, rfl⟩ hC hx F2 N2 off ne
                    obtain ⟨g, hg, ap, op, vsp, np, rfl, hm, hcp, hdp, hAp⟩ := hyw.get (show yw[i]? = some v by simpa using hP)
                    rw [List.getElem?_map, Option.map_eq_some_iff] at hg
                    obtain ⟨d, hd, rfl⟩ := hg
                    have hd9 : Stop (ps[i]? = some d) := hd
                    clear hd hP
                    k_steps
                    unfold Stop
                    refine tak_c (q := quoT c250 (txtOf [a0, a1, a2, a3])) (by walk_at "MyT") (by walk_at "MyD") (by walk_at "MyD") ⟨op, (N2 _ (by repeat (first | exact hm | apply List.mem_cons_of_mem))).1, hcp, np, hdp⟩ hAp (fun d hd => (parts_ok _ d hd).1) (fun d hd => (parts_ok _ d hd).2) (Nat.le_trans hql (by decide)) (by walk_at "MyD") ?_ (by walk_at "MyX")
                    intro h9 tk9 hk9
                    have F9 := F2.keeps hk9
                    have N9 := N2.grown hk9
                    clear F2 N2
                    k_steps
                    unfold Stop
                    refine LCg.CompEnd.intro (by k_asm) (by k_asm) _ (fun p hp => hp) off (.inr ⟨_, List.mem_cons_of_mem _ (List.mem_cons_of_mem _ (List.mem_cons_of_mem _ (List.mem_cons_of_mem _ (List.mem_cons_of_mem _ (List.mem_cons_of_mem _ (List.mem_cons_self ..)))))), rfl, _, rfl⟩) ⟨rfl, ?_⟩
                    rw [bls_snoc hd9]
                  · rintro zs nw ⟨rfl, rfl⟩
                    rw [show ps.take yw.length = ps from List.take_of_length_le (by rw [hywl]; exact Nat.le_refl _)]
                    intro DC h21 tk21 F21 N21 o21
                    dsimp only [LCg.Off1] at o21
                    obtain ⟨c0, c1, c2, c3, c4, c5, c6, c7, c8⟩ := o21
                    clear F20 N20
                    k_steps
                    unfold Stop
                    rename Fr _ _ _ _ => F22
                    rename News _ _ _ _ => N22
                    rename_i TN _ lT
                    obtain ⟨q0, q1, q2, q3, q4, q5, q6, q7, q8, q9⟩ := lT
                    refine append_K F22 N22 (Upd.tail (Nat.ne_of_gt q8) (Upd.tail (Ne.symm c7) (Upd.tail (Ne.symm eB2) (Upd.tail kIT (Upd.tail eTR (Upd.tail eTN (Upd.tail eTL (Upd.tail eTP (Upd.tail eTW (Upd.head nT'.use)))))))))) ?_ (hz1 _)
                    intro h23 F23 N23
                    rw [List.push_toArray] at N23
                    clear F22 N22
                    k_steps
                    unfold Stop
                    subst hB2
                    refine endW (news' := (L' + 1, oR1) :: (L' + 1 + 1, oN) :: (La, oL2) :: (DP, W.listOf yp.toArray nP) :: (DW, W.listOf yw.toArray nW) :: (DT, W.listOf (vd ++ [y1] ++ [Value.ref TN]).toArray (cd + 1 + 1)) :: (TN, tupO [.ref DB, .ref DC]) :: (DC, LCg.lst (bls (ps.map fun d => takesB (parts (quoT c257 (txtOf d))) (quoT c250 (txtOf [a0, a1, a2, a3]))))) :: (DB, W.listOf (bls (ps.map fun d => false && takesB (parts (txtOf d)) (txtOf [a0, a1, a2, a3]))).toArray 0) :: tl) F23 N23 (by walk_at "MyM") ?_ ?_ ⟨trivial, (oR1, oN, oL2, vd ++ [y1] ++ [Value.ref TN], cd + 1 + 1, (TN, tupO [.ref DB, .ref DC]) :: (DC, LCg.lst (bls (ps.map fun d => takesB (parts (quoT c257 (txtOf d))) (quoT c250 (txtOf [a0, a1, a2, a3]))))) :: (DB, W.listOf (bls (ps.map fun d => false && takesB (parts (txtOf d)) (txtOf [a0, a1, a2, a3]))).toArray 0) :: tl), ⟨pn ++ [([a0, a1, a2, a3], false)], rn', _, _, hr9, by simpa using hpn, ?_, ?_, ?_, hoR1, hoN, hoL2, ((nR.cons (Ne.symm b2)).cons (Ne.symm c2)).cons (Nat.ne_of_gt q3), ((nN.cons (Ne.symm b3)).cons (Ne.symm c3)).cons (Nat.ne_of_gt q4), ((nL.cons (Ne.symm b4)).cons (Ne.symm c4)).cons (Nat.ne_of_gt q5), ((nP'.cons (Ne.symm b5)).cons (Ne.symm c5)).cons (Nat.ne_of_gt q6), ((nW'.cons (Ne.symm b6)).cons (Ne.symm c6)).cons (Nat.ne_of_gt q7), ((nT'.cons (Ne.symm b7)).cons (Ne.symm c7)).cons (Nat.ne_of_gt q8), List.forall_mem_cons.mpr ⟨by walk_at "MyM", List.forall_mem_cons.mpr ⟨by simp [LCg.lst], List.forall_mem_cons.mpr ⟨by simp [LCg.lst, W.listOf], hcl⟩⟩⟩⟩, by walk_at "MyAll", rfl⟩
                    · exact List.forall_mem_cons.mpr ⟨by walk_at "MyM", List.forall_mem_cons.mpr ⟨by walk_at "MyM", List.forall_mem_cons.mpr ⟨by walk_at "MyM", List.forall_mem_cons.mpr ⟨by walk_at "MyM", List.forall_mem_cons.mpr ⟨by walk_at "MyM", List.forall_mem_cons.mpr ⟨by walk_at "MyM", List.forall_mem_cons.mpr ⟨by walk_at "MyM", List.forall_mem_cons.mpr ⟨by walk_at "MyM", List.forall_mem_cons.mpr ⟨by walk_at "MyM", fun p hp => by walk_at "MyM"⟩⟩⟩⟩⟩⟩⟩⟩⟩
                    · exact List.forall_mem_cons.mpr ⟨.inl (Ne.symm kI1), List.forall_mem_cons.mpr ⟨.inl (Ne.symm kI2), List.forall_mem_cons.mpr ⟨.inl (Ne.symm kIL), List.forall_mem_cons.mpr ⟨.inl (Ne.symm kIP), List.forall_mem_cons.mpr ⟨.inl (Ne.symm kIW), List.forall_mem_cons.mpr ⟨.inl (Ne.symm kIT), List.forall_mem_cons.mpr ⟨.inl (Nat.ne_of_gt q2), List.forall_mem_cons.mpr ⟨.inl (Ne.symm c1), List.forall_mem_cons.mpr ⟨.inl (Ne.symm b1), fun p hp => .inr (by rw [hoIt]; exact hcl p hp)⟩⟩⟩⟩⟩⟩⟩⟩⟩
                    · exact hyp.mono fun v d h => h.more fun p hp => List.mem_cons_of_mem _ (List.mem_cons_of_mem _ (List.mem_cons_of_mem _ hp))
                    · exact hyw.mono fun v d h => h.more fun p hp => List.mem_cons_of_mem _ (List.mem_cons_of_mem _ (List.mem_cons_of_mem _ hp))
                    · have e : (pn ++ [([a0, a1, a2, a3], false)]).flatMap (toldN ps) = pn.flatMap (toldN ps) ++ [It.txt errT] ++ [It.prs (ps.map fun d => false && takesB (parts (txtOf d)) (txtOf [a0, a1, a2, a3])) (ps.map fun d => takesB (parts (quoT c257 (txtOf d))) (quoT c250 (txtOf [a0, a1, a2, a3])))] := by
                        rw [List.flatMap_append, List.append_assoc]; rfl
                      rw [e, ← List.append_assoc, ← List.append_assoc]
                      exact ((hvd.mono fun v d h => h.more fun p hp => List.mem_cons_of_mem _ (List.mem_cons_of_mem _ (List.mem_cons_of_mem _ hp))).snoc (hy1.more fun p hp => List.mem_cons_of_mem _ (List.mem_cons_of_mem _ (List.mem_cons_of_mem _ hp)))).snoc ⟨TN, DB, DC, _, _, rfl, List.mem_cons_self .., List.mem_cons_of_mem _ (List.mem_cons_of_mem _ (List.mem_cons_self ..)), List.mem_cons_of_mem _ (List.mem_cons_self ..)⟩
          · rintro ⟨oR, oN, oL, vd, cd, tl⟩ uu h' tk' ⟨pn, rn, v₀, v₁, hr, hpn, hyp, hyw, hvd, hoR, hoN, hoL, nR, nN, nL, nP', nW', nT', hcl⟩ F' N'
            dsimp only at hyp hyw hvd hoR hoN hoL nR nN nL nP' nW' nT' hcl F' N'
            cases hr
            rw [List.append_nil] at hpn
            rw [hpn] at hvd
            obtain ⟨sl, rfl⟩ := hoL
            have zL := N' (La, { oLa with slots := sl }) (List.mem_cons_of_mem _ (List.mem_cons_of_mem _ (List.mem_cons_self ..)))
            k_steps
            refine ret DT vd cd tl _ _ sl (fun b o e => Fr.keep F' b o e) zL.1 (fun p hp => ?_) hvd
            have z := N' p (List.mem_cons_of_mem _ (List.mem_cons_of_mem _ (List.mem_cons_of_mem _ (List.mem_cons_of_mem _ (List.mem_cons_of_mem _ hp)))))
            refine ⟨z.1, z.2.2, ?_⟩
            rcases List.mem_cons.mp hp with rfl | hp
            · exact Ne.symm eTL
            · exact nL p hp
end Mine

namespace Mine
open PySem.SeqAt
section
variable {A : Around} {s : Shared}
theorem eqAt_bytes {b : Array UInt8} {t u : Tok} : EqAt A s (.bytes b t) (.bytes b u) true := fun prog w E Q h => by
  unfold eqBool
  refine wpAny_holding ?_
  refine wpAny_ite_split (fun _ => wpAny_bind (wpAny_rule (wpAny_pure h))) (fun _ => wpAny_bind ?_)
  exact (show wpAny (model prog w) A (richCompare .Eq (.bytes b t) (.bytes b u)) _ _ _ from eq_bytes (by rw [beq_self_eq_true]; exact wpAny_truthy_bool h))
theorem all_true (n : Nat) : (List.range n).all (fun _ => true) = true := by simp
theorem eqAt_bools {l b : Addr} {xs : List Bool} (hl : s.heap.IsList l (bls xs).toArray) (hb : s.heap.IsList b (bls xs).toArray) (hu : A.units < cLine) : EqAt A s (.ref l) (.ref b) true := by
  by_cases hlb : l = b
  · subst hlb; exact EqAt.same _
  · refine EqAt.of_refs hlb ?_
    have := RcAt.lists (A := A) (e := fun _ => true) hl hb rfl hu (fun j h1 h2 => EqAt.same _)
    rw [all_true] at this
    exact this
theorem isList_of {tl : List (Addr × Obj)} {h : Heap} (N : ∀ p ∈ tl, h.get? p.1 = some p.2) {a : Addr} {vs : List Value} {c : Nat} (hm : (a, W.listOf vs.toArray c) ∈ tl) : h.IsList a vs.toArray := ⟨_, N _ hm, rfl, _, rfl⟩
theorem eqAt_it {tl tl' : List (Addr × Obj)} {v v' : Value} {i : It} (h : ItL tl v i) (h' : ItL tl' v' i) (N : ∀ p ∈ tl, s.heap.get? p.1 = some p.2) (N' : ∀ p ∈ tl', s.heap.get? p.1 = some p.2) (hu : A.units + 10 < cLine) (h1 : A.in1.units < cLine) : EqAt A s v v' true := by
  cases i with
  | txt d =>
    obtain ⟨t, rfl⟩ := h
    obtain ⟨u, rfl⟩ := h'
    have := EqAt.str_str (A := A) (s := s) ⟨d.toArray⟩ t ⟨d.toArray⟩ u
    rw [beq_self_eq_true] at this
    exact this
  | byt d =>
    obtain ⟨b, t, rfl, hb⟩ := h
    obtain ⟨b', u, rfl, hb'⟩ := h'
    have e : b = b' := by rw [bytes_of_ints hb, bytes_of_ints hb']
    subst e
    exact eqAt_bytes
  | prs l1 l2 =>
    obtain ⟨T, a, b, ca, cb, rfl, m1, m2, m3⟩ := h
    obtain ⟨T', a', b', ca', cb', rfl, m1', m2', m3'⟩ := h'
    by_cases hT : T = T'
    · subst hT; exact EqAt.same _
    · refine EqAt.of_refs hT ?_
      have := RcAt.tuples (A := A) (e := fun _ => true) (items := #[.ref a, .ref b]) (items2 := #[.ref a', .ref b']) ⟨_, N _ m1, rfl, _, rfl⟩ ⟨_, N' _ m1', rfl, _, rfl⟩ (Nat.lt_of_le_of_lt (Nat.le_add_right _ _) hu) (fun j hj1 hj2 => ?_)
      · rw [all_true] at this
        exact this
      · match j, hj1 with
        | 0, _ => exact eqAt_bools (isList_of N m2) (isList_of N' m2') h1
        | 1, _ => exact eqAt_bools (isList_of N m3) (isList_of N' m3') h1
theorem eq_its {prog : Program} {w : World} {E : Value → Shared → Prop} {Q : Value → Shared → Prop} {tl tl' : List (Addr × Obj)} {vs vs' : List Value} {its : List It} {D D' : Addr} (hl : s.heap.IsList D vs.toArray) (hl' : s.heap.IsList D' vs'.toArray) (h : Are (ItL tl) vs its) (h' : Are (ItL tl') vs' its) (N : ∀ p ∈ tl, s.heap.get? p.1 = some p.2) (N' : ∀ p ∈ tl', s.heap.get? p.1 = some p.2)
    (hu : A.units + 100 < cLine) (hq : Q (.bool true) s) : wpAny (model prog w) A (compareOp .Eq (.ref D) (.ref D')) Q E s := by
  have u1 : A.in1.units = A.units + 1 := rfl
  have u2 : A.in1.in1.units = A.units + 2 := rfl
  refine eq_listAt (e := fun _ => true) hl hl' (by simp [h.length, h'.length]) (by omega) (fun j h1 h2 => ?_) (by rw [all_true]; exact hq)
  obtain ⟨i, hi, r⟩ := h.get (show vs[j]? = some vs.toArray[j] by simp)
  obtain ⟨i', hi', r'⟩ := h'.get (show vs'[j]? = some vs'.toArray[j] by simp)
  rw [hi] at hi'
  cases hi'
  exact eqAt_it r r' N N' (by omega) (by omega)
end
end Mine

namespace Mine
theorem list_B {h : Heap} {L a : Addr} {o : Obj} {es : Array DictEntry} {ep : Nat} {its : Array Value} (ho : h.get? L = some o) (hdt : o.data = .dict es ep) (hl : h.IsList a its) : (hideAll h [L]).IsList a its := by
  obtain ⟨ob, e, hc, n, hd2⟩ := hl
  refine ⟨ob, hideAll_get _ e ?_, hc, n, hd2⟩
  intro q
  rw [List.mem_singleton.mp q, ho] at e
  cases e
  rw [hdt] at hd2; cases hd2
theorem tup_B {h : Heap} {L a : Addr} {o : Obj} {es : Array DictEntry} {ep : Nat} {its : Array Value} (ho : h.get? L = some o) (hdt : o.data = .dict es ep) (hl : IsTup h a its) : IsTup (hideAll h [L]) a its := by
  obtain ⟨ob, e, hc, n, hd2⟩ := hl
  refine ⟨ob, hideAll_get _ e ?_, hc, n, hd2⟩
  intro q
  rw [List.mem_singleton.mp q, ho] at e
  cases e
  rw [hdt] at hd2; cases hd2
theorem told_L {w : World} {loose : List Str} {mean : ExcName → Option Value} {mg mb : Str → Option Value} {dp un : Nat} {fr : Option (List Env)} {gd : Option (List Code)} {s : Shared} {Q : Value → Shared → Prop} {E : Value → Shared → Prop} {base : Heap} {L : Addr} {m : Str → Option Value} {lawEnv : Env} {lp ln : Addr} {vp vn : List Value} {ps : List (List Int)} {nms : List (List Int × Bool)}
    (T : Top topProg loose mean mg mb base) (hD : dp + 20 < recursionLimit) (hu : un + 1000 < cLine) (F : Fr base L s.heap m) (hst : fr = some [lawEnv]) (hlk : lawEnv.scope.kind ≠ .module) (hlf : lawEnv.frame = some L) (h1 : 1 ≤ s.toks)
    (hlp : s.heap.IsList lp vp.toArray) (hln : s.heap.IsList ln vn.toArray) (hp : Are (PatH s.heap) vp ps) (hn : Are (NamH s.heap) vn nms) (hp3 : ∀ d ∈ ps, F3 d 63) (hn3 : ∀ d ∈ nms, F3 d.1 1) (hpl : ps.length ≤ 13) (hnl : nms.length ≤ 13)
    (ret : ∀ D vd cd tl h' tk, Fr base L h' m → (∀ b o, b ≠ L → s.heap.get? b = some o → h'.get? b = some o) → (∀ p ∈ (D, W.listOf (List.toArray vd) cd) :: tl, h'.get? p.1 = some p.2 ∧ p.1 ≠ L ∧ s.heap.get? p.1 = none) → Are (ItL tl) vd (toldOf ps nms) → Q (.ref D) { s with heap := h', toks := tk }) (X : (kmk.heap_1 w.params).In base) :
    wpAny (model Challenge.rw_kt0015_01.row.prog w) (Ar dp un fr gd) (call (.ref 202) [.ref lp, .ref ln]) Q E s := by
  obtain ⟨o, es, ep, ho, hdt, rest⟩ := F.ns
  have hB : ∀ b ob, (hideAll s.heap [L]).get? b = some ob → s.heap.get? b = some ob := fun b ob e => of_hideAll _ e
  have hBL : (hideAll s.heap [L]).get? L = none := hideAll_none _ (List.mem_singleton.mpr rfl)
  have keepB : ∀ b ob, b ≠ L → s.heap.get? b = some ob → (hideAll s.heap [L]).get? b = some ob := fun b ob n e => hideAll_get _ e fun q => n (List.mem_singleton.mp q)
  have baseB : ∀ b ob, base.get? b = some ob → (hideAll s.heap [L]).get? b = some ob := fun b ob e => keepB b ob (by
    rintro rfl
    exact absurd (Nat.lt_of_lt_of_le (Heap.lt_size e) F.above) (Nat.lt_irrefl _)) (F.keep b ob e)
  refine told_c (B := hideAll s.heap [L]) (lawEnv := lawEnv) (La := L) (oLa := o) (T.keeps baseB) hD hu hB (by rw [hideAll_size]; exact Nat.le_refl _) ho hBL hst hlk hlf (fun vs e => by rw [hdt] at e; cases e) h1 (list_B ho hdt hlp) (list_B ho hdt hln)
    (hp.mono fun v d ⟨a, vs, e, hl, hi⟩ => ⟨a, vs, e, list_B ho hdt hl, hi⟩) (hn.mono fun v d ⟨T, a, vs, e, ht, hl, hi⟩ => ⟨T, a, vs, e, tup_B ho hdt ht, list_B ho hdt hl, hi⟩) hp3 hn3 hpl hnl ?_ (X.keeps baseB)
  intro D vd cd tl h' tk sl hB' hL' htl hvd
  refine ret D vd cd tl h' tk ⟨⟨_, es, ep, hL', hdt, rest⟩, fun b ob e => hB' _ _ (baseB b ob e), F.above⟩ (fun b ob n e => hB' b ob (keepB b ob n e)) (fun p hp => ?_) hvd
  obtain ⟨z1, z2, z3⟩ := htl p hp
  refine ⟨z1, z3, ?_⟩
  cases e : s.heap.get? p.1 with
  | none => rfl
  | some ob => rw [keepB _ _ z3 e] at z2; cases z2
theorem newsT {base h1 h2 : Heap} {L : Addr} {m : Str → Option Value} {news new all : List (Addr × Obj)} (F : Fr base L h1 m) (N : News base L h1 news) (hk : ∀ b o, h1.get? b = some o → h2.get? b = some o) (htl : ∀ p ∈ new, h2.get? p.1 = some p.2 ∧ h1.get? p.1 = none) (hall : ∀ p ∈ all, p ∈ new ∨ p ∈ news) : News base L h2 all := fun p hp => by
  rcases hall p hp with hm | hm
  · obtain ⟨z1, z2⟩ := htl p hm
    refine ⟨z1, ?_, ?_⟩
    · intro e
      obtain ⟨o, _, _, ho, _⟩ := F.ns
      rw [e, ho] at z2; cases z2
    · cases e : base.get? p.1 with
      | none => rfl
      | some o => have := F.keep _ _ e; rw [z2] at this; cases this
  · have z := N p hm
    exact ⟨hk _ _ z.1, z.2⟩
theorem newsL {base h1 h2 : Heap} {L : Addr} {m : Str → Option Value} {news new all : List (Addr × Obj)} (F : Fr base L h1 m) (N : News base L h1 news) (hk : ∀ b o, b ≠ L → h1.get? b = some o → h2.get? b = some o) (htl : ∀ p ∈ new, h2.get? p.1 = some p.2 ∧ p.1 ≠ L ∧ h1.get? p.1 = none) (hall : ∀ p ∈ all, p ∈ new ∨ p ∈ news) : News base L h2 all := fun p hp => by
  rcases hall p hp with hm | hm
  · obtain ⟨z1, z2, z3⟩ := htl p hm
    refine ⟨z1, z2, ?_⟩
    cases e : base.get? p.1 with
    | none => rfl
    | some o => have := F.keep _ _ e; rw [z3] at this; cases this
  · have z := N p hm
    exact ⟨hk _ _ z.2.1 z.1, z.2⟩
theorem patH_of {tl : List (Addr × Obj)} {h : Heap} (N : ∀ p ∈ tl, h.get? p.1 = some p.2) {v : Value} {d : List Int} : PatL tl v d → PatH h v d
  | ⟨a, vs, c, e, m, i⟩ => ⟨a, vs, e, ⟨_, N _ m, rfl, _, rfl⟩, i⟩
theorem namH_of {tl : List (Addr × Obj)} {h : Heap} (N : ∀ p ∈ tl, h.get? p.1 = some p.2) {v : Value} {d : List Int × Bool} : NamL tl v d → NamH h v d
  | ⟨T, a, vs, c, e, m, m2, i⟩ => ⟨T, a, vs, e, ⟨_, N _ m, rfl, _, rfl⟩, ⟨_, N _ m2, rfl, _, rfl⟩, i⟩
theorem get_ok {b : Int} {f : Int} (h : f = 0 ∨ f = 1 ∨ f = 2) : [0, 62, b].getD f.toNat 0 = 0 ∨ [0, 62, b].getD f.toNat 0 = 62 ∨ [0, 62, b].getD f.toNat 0 = b := by
  rcases h with rfl | rfl | rfl
  · exact .inl rfl
  · exact .inr (.inl rfl)
  · exact .inr (.inr rfl)
theorem figs_ok (n : Int) : ∀ f ∈ figs n, f = 0 ∨ f = 1 ∨ f = 2 := by
  intro f hf
  unfold figs at hf
  simp only [List.mem_cons, List.not_mem_nil, or_false] at hf
  rcases hf with rfl | rfl | rfl | rfl <;> omega
theorem pat_ok (n : Int) : F3 (patOf n) 63 := ⟨rfl, fun f hf => by
  obtain ⟨g, hg, rfl⟩ := List.mem_map.mp hf
  exact get_ok (figs_ok n g hg)⟩
theorem nam_ok (n : Int) : F3 (namOf n).1 1 := ⟨rfl, fun f hf => by
  obtain ⟨g, hg, rfl⟩ := List.mem_map.mp hf
  exact get_ok (figs_ok n g hg)⟩
theorem pats_ok (ns : List Int) : ∀ d ∈ patsOf ns, F3 d 63 := fun d hd' => by
  obtain ⟨n, _, rfl⟩ := List.mem_map.mp hd'
  exact pat_ok n
theorem nams_ok (ns : List Int) : ∀ d ∈ namsOf ns, F3 d.1 1 := fun d hd' => by
  obtain ⟨n, _, rfl⟩ := List.mem_map.mp hd'
  exact nam_ok n
theorem pats_len (ns : List Int) : (patsOf (allOf ns)).length ≤ 13 := by
  unfold patsOf; rw [List.length_map]; exact Nat.le_trans (List.length_filter_le _ _) (allOf_len ns)
theorem nams_len (ns : List Int) : (namsOf (allOf ns)).length ≤ 13 := by
  unfold namsOf; rw [List.length_map]; exact Nat.le_trans (List.length_filter_le _ _) (allOf_len ns)
end Mine

namespace Mine
theorem pl_a : ∀ a ∈ [0, 62, 63], ∀ b ∈ [0, 62, 63], ∀ c ∈ [0, 62, 63], ∀ d ∈ [0, 62, 63], (parts (txtOf [a, b, c, d])).flatten = (bareOf [a, b, c, d] 4).map sg := by decide +kernel
theorem pl_b : ∀ a ∈ [0, 62, 1], ∀ b ∈ [0, 62, 1], ∀ c ∈ [0, 62, 1], ∀ d ∈ [0, 62, 1], decT (txtOf [a, b, c, d]) = octL [a, b, c, d] := by decide +kernel
theorem pl_c0 : ∀ b ∈ [0, 62, 63], ∀ c ∈ [0, 62, 63], ∀ d ∈ [0, 62, 63], ∀ a' ∈ [0, 62, 1], ∀ b' ∈ [0, 62, 1], ∀ c' ∈ [0, 62, 1], ∀ d' ∈ [0, 62, 1], takesB (parts (txtOf [(0 : Int), b, c, d])) (txtOf [a', b', c', d']) = fitsB [(0 : Int), b, c, d] [a', b', c', d'] := by decide +kernel
theorem pl_c62 : ∀ b ∈ [0, 62, 63], ∀ c ∈ [0, 62, 63], ∀ d ∈ [0, 62, 63], ∀ a' ∈ [0, 62, 1], ∀ b' ∈ [0, 62, 1], ∀ c' ∈ [0, 62, 1], ∀ d' ∈ [0, 62, 1], takesB (parts (txtOf [(62 : Int), b, c, d])) (txtOf [a', b', c', d']) = fitsB [(62 : Int), b, c, d] [a', b', c', d'] := by decide +kernel
theorem pl_c63 : ∀ b ∈ [0, 62, 63], ∀ c ∈ [0, 62, 63], ∀ d ∈ [0, 62, 63], ∀ a' ∈ [0, 62, 1], ∀ b' ∈ [0, 62, 1], ∀ c' ∈ [0, 62, 1], ∀ d' ∈ [0, 62, 1], takesB (parts (txtOf [(63 : Int), b, c, d])) (txtOf [a', b', c', d']) = fitsB [(63 : Int), b, c, d] [a', b', c', d'] := by decide +kernel
theorem pl_c : ∀ a ∈ [0, 62, 63], ∀ b ∈ [0, 62, 63], ∀ c ∈ [0, 62, 63], ∀ d ∈ [0, 62, 63], ∀ a' ∈ [0, 62, 1], ∀ b' ∈ [0, 62, 1], ∀ c' ∈ [0, 62, 1], ∀ d' ∈ [0, 62, 1], takesB (parts (txtOf [a, b, c, d])) (txtOf [a', b', c', d']) = fitsB [a, b, c, d] [a', b', c', d'] := List.forall_mem_cons.mpr ⟨pl_c0, List.forall_mem_cons.mpr ⟨pl_c62, List.forall_mem_cons.mpr ⟨pl_c63, List.forall_mem_nil _⟩⟩⟩
theorem pl_d0 : ∀ b ∈ [0, 62, 63], ∀ c ∈ [0, 62, 63], ∀ d ∈ [0, 62, 63], ∀ a' ∈ [0, 62, 1], ∀ b' ∈ [0, 62, 1], ∀ c' ∈ [0, 62, 1], ∀ d' ∈ [0, 62, 1], takesB (parts (quoT c257 (txtOf [(0 : Int), b, c, d]))) (quoT c257 (txtOf [a', b', c', d'])) = fitsB [(0 : Int), b, c, d] [a', b', c', d'] := by decide +kernel
theorem pl_d62 : ∀ b ∈ [0, 62, 63], ∀ c ∈ [0, 62, 63], ∀ d ∈ [0, 62, 63], ∀ a' ∈ [0, 62, 1], ∀ b' ∈ [0, 62, 1], ∀ c' ∈ [0, 62, 1], ∀ d' ∈ [0, 62, 1], takesB (parts (quoT c257 (txtOf [(62 : Int), b, c, d]))) (quoT c257 (txtOf [a', b', c', d'])) = fitsB [(62 : Int), b, c, d] [a', b', c', d'] := by decide +kernel
theorem pl_d63 : ∀ b ∈ [0, 62, 63], ∀ c ∈ [0, 62, 63], ∀ d ∈ [0, 62, 63], ∀ a' ∈ [0, 62, 1], ∀ b' ∈ [0, 62, 1], ∀ c' ∈ [0, 62, 1], ∀ d' ∈ [0, 62, 1], takesB (parts (quoT c257 (txtOf [(63 : Int), b, c, d]))) (quoT c257 (txtOf [a', b', c', d'])) = fitsB [(63 : Int), b, c, d] [a', b', c', d'] := by decide +kernel
theorem pl_d : ∀ a ∈ [0, 62, 63], ∀ b ∈ [0, 62, 63], ∀ c ∈ [0, 62, 63], ∀ d ∈ [0, 62, 63], ∀ a' ∈ [0, 62, 1], ∀ b' ∈ [0, 62, 1], ∀ c' ∈ [0, 62, 1], ∀ d' ∈ [0, 62, 1], takesB (parts (quoT c257 (txtOf [a, b, c, d]))) (quoT c257 (txtOf [a', b', c', d'])) = fitsB [a, b, c, d] [a', b', c', d'] := List.forall_mem_cons.mpr ⟨pl_d0, List.forall_mem_cons.mpr ⟨pl_d62, List.forall_mem_cons.mpr ⟨pl_d63, List.forall_mem_nil _⟩⟩⟩
theorem pl_e0 : ∀ b ∈ [0, 62, 63], ∀ c ∈ [0, 62, 63], ∀ d ∈ [0, 62, 63], ∀ a' ∈ [0, 62, 1], ∀ b' ∈ [0, 62, 1], ∀ c' ∈ [0, 62, 1], ∀ d' ∈ [0, 62, 1], takesB (parts (quoT c257 (txtOf [(0 : Int), b, c, d]))) (quoT c250 (txtOf [a', b', c', d'])) = false := by decide +kernel
theorem pl_e62 : ∀ b ∈ [0, 62, 63], ∀ c ∈ [0, 62, 63], ∀ d ∈ [0, 62, 63], ∀ a' ∈ [0, 62, 1], ∀ b' ∈ [0, 62, 1], ∀ c' ∈ [0, 62, 1], ∀ d' ∈ [0, 62, 1], takesB (parts (quoT c257 (txtOf [(62 : Int), b, c, d]))) (quoT c250 (txtOf [a', b', c', d'])) = false := by decide +kernel
theorem pl_e63 : ∀ b ∈ [0, 62, 63], ∀ c ∈ [0, 62, 63], ∀ d ∈ [0, 62, 63], ∀ a' ∈ [0, 62, 1], ∀ b' ∈ [0, 62, 1], ∀ c' ∈ [0, 62, 1], ∀ d' ∈ [0, 62, 1], takesB (parts (quoT c257 (txtOf [(63 : Int), b, c, d]))) (quoT c250 (txtOf [a', b', c', d'])) = false := by decide +kernel
theorem pl_e : ∀ a ∈ [0, 62, 63], ∀ b ∈ [0, 62, 63], ∀ c ∈ [0, 62, 63], ∀ d ∈ [0, 62, 63], ∀ a' ∈ [0, 62, 1], ∀ b' ∈ [0, 62, 1], ∀ c' ∈ [0, 62, 1], ∀ d' ∈ [0, 62, 1], takesB (parts (quoT c257 (txtOf [a, b, c, d]))) (quoT c250 (txtOf [a', b', c', d'])) = false := List.forall_mem_cons.mpr ⟨pl_e0, List.forall_mem_cons.mpr ⟨pl_e62, List.forall_mem_cons.mpr ⟨pl_e63, List.forall_mem_nil _⟩⟩⟩
theorem f3_mk {d : List Int} {b : Int} (h : F3 d b) : ∃ x ∈ [0, 62, b], ∃ y ∈ [0, 62, b], ∃ z ∈ [0, 62, b], ∃ u ∈ [0, 62, b], d = [x, y, z, u] := by
  obtain ⟨h4, hf⟩ := h
  match d, h4 with
  | [x, y, z, u], _ =>
    have m : ∀ f ∈ [x, y, z, u], f ∈ [0, 62, b] := fun f hf' => by
      rcases hf f hf' with h | h | h <;> simp [h]
    exact ⟨x, m x (by simp), y, m y (by simp), z, m z (by simp), u, m u (by simp), rfl⟩
theorem pl_a' {d : List Int} (h : F3 d 63) : (parts (txtOf d)).flatten = (bareOf d 4).map sg := by
  obtain ⟨x, hx, y, hy, z, hz, u, hu, rfl⟩ := f3_mk h
  exact pl_a x hx y hy z hz u hu
theorem pl_b' {d : List Int} (h : F3 d 1) : decT (txtOf d) = octL d := by
  obtain ⟨x, hx, y, hy, z, hz, u, hu, rfl⟩ := f3_mk h
  exact pl_b x hx y hy z hz u hu
theorem pl_c' {d r : List Int} (h : F3 d 63) (hr : F3 r 1) : takesB (parts (txtOf d)) (txtOf r) = fitsB d r := by
  obtain ⟨x, hx, y, hy, z, hz, u, hu, rfl⟩ := f3_mk h
  obtain ⟨x', hx', y', hy', z', hz', u', hu', rfl⟩ := f3_mk hr
  exact pl_c x hx y hy z hz u hu x' hx' y' hy' z' hz' u' hu'
theorem pl_d' {d r : List Int} (h : F3 d 63) (hr : F3 r 1) : takesB (parts (quoT c257 (txtOf d))) (quoT c257 (txtOf r)) = fitsB d r := by
  obtain ⟨x, hx, y, hy, z, hz, u, hu, rfl⟩ := f3_mk h
  obtain ⟨x', hx', y', hy', z', hz', u', hu', rfl⟩ := f3_mk hr
  exact pl_d x hx y hy z hz u hu x' hx' y' hy' z' hz' u' hu'
theorem pl_e' {d r : List Int} (h : F3 d 63) (hr : F3 r 1) : takesB (parts (quoT c257 (txtOf d))) (quoT c250 (txtOf r)) = false := by
  obtain ⟨x, hx, y, hy, z, hz, u, hu, rfl⟩ := f3_mk h
  obtain ⟨x', hx', y', hy', z', hz', u', hu', rfl⟩ := f3_mk hr
  exact pl_e x hx y hy z hz u hu x' hx' y' hy' z' hz' u' hu'
theorem flat_congr {α β : Type} {f g : α → List β} : ∀ {l : List α}, (∀ a ∈ l, f a = g a) → l.flatMap f = l.flatMap g
  | [], _ => rfl
  | a :: r, h => by
    rw [List.flatMap_cons, List.flatMap_cons, h a (List.mem_cons_self ..), flat_congr fun b hb => h b (List.mem_cons_of_mem _ hb)]
theorem told_dueN {ps : List (List Int)} (hp : ∀ d ∈ ps, F3 d 63) {n : List Int × Bool} (hn : F3 n.1 1) : toldN ps n = dueN ps n := by
  obtain ⟨r, b⟩ := n
  cases b with
  | false =>
    have e : (ps.map fun d => takesB (parts (quoT c257 (txtOf d))) (quoT c250 (txtOf r))) = ps.map fun d => false && fitsB d r := List.map_congr_left fun d hd' => pl_e' (hp d hd') hn
    show [It.txt errT, It.prs (ps.map fun d => false && takesB (parts (txtOf d)) (txtOf r)) (ps.map fun d => takesB (parts (quoT c257 (txtOf d))) (quoT c250 (txtOf r)))] = [It.txt errT, It.prs (ps.map fun d => false && fitsB d r) (ps.map fun d => false && fitsB d r)]
    rw [e]
    rfl
  | true =>
    have e1 : (ps.map fun d => takesB (parts (quoT c257 (txtOf d))) (quoT c257 (txtOf r))) = ps.map fun d => true && fitsB d r := List.map_congr_left fun d hd' => pl_d' (hp d hd') hn
    have e2 : (ps.map fun d => true && takesB (parts (txtOf d)) (txtOf r)) = ps.map fun d => true && fitsB d r := List.map_congr_left fun d hd' => pl_c' (hp d hd') hn
    show [It.byt (decT (txtOf r)), It.prs (ps.map fun d => true && takesB (parts (txtOf d)) (txtOf r)) (ps.map fun d => takesB (parts (quoT c257 (txtOf d))) (quoT c257 (txtOf r)))] = [It.byt (octL r), It.prs (ps.map fun d => true && fitsB d r) (ps.map fun d => true && fitsB d r)]
    rw [e1, e2, pl_b' hn]
theorem told_due' {ps : List (List Int)} {nms : List (List Int × Bool)} (hp : ∀ d ∈ ps, F3 d 63) (hn : ∀ d ∈ nms, F3 d.1 1) : toldOf ps nms = dueOf ps nms := by
  unfold toldOf dueOf
  rw [List.map_congr_left (g := fun d => It.txt ((bareOf d 4).map sg)) fun d hd' => by rw [pl_a' (hp d hd')], flat_congr fun n hn' => told_dueN hp (hn n hn')]
end Mine

section Final
open Mine
theorem lines_M1_1 : True := by
  k_with_none
  k_with "MyEnter" => (
    w_on
    refine wpAny_call ?_
    refine' enterP ‹Frag.In _ _› (Top.nolimit ‹_›) ?k6 ?k7 (by walk_at "MyD") ?k9 ?kB ?_ ?c2 ?c3 ?c4 ?c5
    (case k6 => k_is)
    (case k7 => k_is)
    (case k9 => first | exact BindsTo.of_eq rfl | exact binds_K (by k_in) rfl (by k_is) rfl rfl rfl)
    (case kB => exact locs rfl)
    (case c5 => decide)
    (case c2 => exact rfl)
    (case c3 => exact rfl)
    (case c4 => exact rfl)
    intro _ _ _
    try dsimp only
    try k_fold)
  k_with "MyRoom" => (first | assumption | ((try dsimp only [Ar, Around.deeper, Around.in1, Around.mark] at *); omega))
  k_with "call type:type" => ((with_reducible show wpAny _ _ (call _ [Value.bytes _ _]) _ _ _); refine call_type_of (Tx := "bytes") rfl (by decide +kernel) ?_)
  k_with "MyX" => (first | assumption | exact Frag.In.keeps (by assumption) (Fr.keep (by k_asm)))
  k_with "MyT" => (first | assumption | exact Top.keeps (by assumption) (Fr.keep (by k_asm)))
  k_with "MyD" => (first | assumption | ((try dsimp only [Ar, Around.deeper, Around.in1, Around.mark] at *); omega))
  k_with "execs cons" => ((with_reducible show wpAny _ _ _ _ _ (Shared.mk _ _ _ (_ + _) _)); refine' gentoks ‹TL _› ?hn ?_; (case hn => (first | (dsimp only; omega) | (simp only [List.length_cons, List.length_nil]; omega))); intro _ _; (try dsimp only))
  k_with "call ref" => (refine Stop.out ?_)
  k_with "compareOp Eq ref ref" => (refine Stop.out ?_)
  trivial
theorem PySem.Challenge.cw_kt0015_01_holds : PySem.Challenge.rw_kt0015_01.Holds :=
  hd (by
  k_go0
  k_steps
  unfold Stop
  rename Fr _ _ _ _ => F1
  rename News _ _ _ _ => N1
  rename IntsAre _ _ => hi
  rename Top _ _ _ _ _ _ => T9
  rename Frag.In _ _ => X9
  refine drw_c (T9.keeps F1.keep) (Nat.le_of_ble_eq_true rfl) (Nat.le_of_ble_eq_true rfl) (lifted.at fun o e => Fr.keep F1 _ o e) hi (by omega) ?_ (X9.keeps F1.keep)
  intro TT lp ln vp vn cp cn tl h2 tk2 hk2 htl hvp hvn
  have F2 := F1.keeps hk2
  have N2 := newsT (all := (TT, tupO [.ref lp, .ref ln]) :: (lp, W.listOf vp.toArray cp) :: (ln, W.listOf vn.toArray cn) :: (170, tabObj #[]) :: tl) F1 N1 hk2 htl (fun p hp => by
    simp only [List.mem_cons] at hp ⊢
    rcases hp with hp | hp | hp | hp | hp <;> simp [hp])
  clear htl hk2 N1
  have tl9 : TL 1 := trivial
  k_steps
  unfold Stop
  rename Fr _ _ _ _ => F3
  rename News _ _ _ _ => N3
  have NP : ∀ p ∈ tl, _ := fun p hp => (N3 p (List.mem_cons_of_mem _ (List.mem_cons_of_mem _ (List.mem_cons_of_mem _ (List.mem_cons_of_mem _ hp))))).1
  refine told_L T9 (Nat.le_of_ble_eq_true rfl) (Nat.le_of_ble_eq_true rfl) F3 rfl (by show ScopeKind.function ≠ ScopeKind.module; decide) rfl (by dsimp only; omega) (News.isList N3 (List.mem_cons_of_mem _ (List.mem_cons_self ..))) (News.isList N3 (List.mem_cons_of_mem _ (List.mem_cons_of_mem _ (List.mem_cons_self ..)))) (hvp.mono fun v d h => patH_of NP h) (hvn.mono fun v d h => namH_of NP h) (pats_ok _) (nams_ok _) (pats_len _) (nams_len _) ?_ X9
  intro D vd cd tl2 h4 tk4 F4 hk4 htl2 hvd
  have N4 := newsL (all := (D, W.listOf vd.toArray cd) :: (lp, W.listOf vp.toArray cp) :: (ln, W.listOf vn.toArray cn) :: (170, tabObj #[]) :: (tl ++ tl2)) F3 N3 hk4 htl2 (fun p hp => by
    simp only [List.mem_cons, List.mem_append] at hp ⊢
    rcases hp with hp | hp | hp | hp | hp | hp <;> simp [hp])
  clear htl2 hk4 N3 NP F3
  k_steps
  unfold Stop
  have NP4 : ∀ p ∈ tl, _ := fun p hp => (N4 p (List.mem_cons_of_mem _ (List.mem_cons_of_mem _ (List.mem_cons_of_mem _ (List.mem_cons_of_mem _ (List.mem_append_left _ hp)))))).1
  refine due_c (T9.keeps F4.keep) (Nat.le_of_ble_eq_true rfl) (Nat.le_of_ble_eq_true rfl) (News.isList N4 (List.mem_cons_of_mem _ (List.mem_cons_self ..))) (News.isList N4 (List.mem_cons_of_mem _ (List.mem_cons_of_mem _ (List.mem_cons_self ..)))) (hvp.mono fun v d h => patH_of NP4 h) (hvn.mono fun v d h => namH_of NP4 h) (pats_ok _) (nams_ok _) (pats_len _) (nams_len _) (Nat.le_of_ble_eq_true rfl) (Nat.le_of_ble_eq_true rfl) ?_ (X9.keeps F4.keep)
  intro D5 vd5 cd5 tl5 h5 tk5 hk5 htl5 hvd5
  have F5 := F4.keeps hk5
  have N5 := N4.grown hk5
  clear NP4 N4 F4 hk5
  rw [← told_due' (pats_ok _) (nams_ok _)] at hvd5
  k_steps
  unfold Stop
  refine eq_its (News.isList N5 (List.mem_cons_self ..)) ⟨_, (htl5 _ (List.mem_cons_self ..)).1, rfl, _, rfl⟩ hvd hvd5 (fun p hp => (N5 p (List.mem_cons_of_mem _ (List.mem_cons_of_mem _ (List.mem_cons_of_mem _ (List.mem_cons_of_mem _ (List.mem_append_right _ hp)))))).1) (fun p hp => (htl5 p (List.mem_cons_of_mem _ hp)).1) (Nat.le_of_ble_eq_true rfl) ?_
  k_steps)
end Final
end Common
