import PyProof.Rows.All
import Wide.All
import OpenK.AllK
import Wide.FinOn
import PySem.Challenge.RW_uc0025_01
set_option Elab.async false
set_option linter.all false
set_option genSizeOf false
set_option genInjectivity false

/-! P0 -/
section
/- eliminations that copy the goal once -/
namespace Mine
theorem exE1 {α1 : Type} {p : α1 → Prop} {c : Prop} (h : ∃ x1, p x1) (f : ∀ x1, p x1 → c) : c :=
  h.elim fun x1 h => f x1 h
theorem exE2 {α1 α2 : Type} {p : α1 → α2 → Prop} {c : Prop} (h : ∃ x1 x2, p x1 x2) (f : ∀ x1 x2, p x1 x2 → c) : c :=
  h.elim fun x1 h => h.elim fun x2 h => f x1 x2 h
theorem exE3 {α1 α2 α3 : Type} {p : α1 → α2 → α3 → Prop} {c : Prop} (h : ∃ x1 x2 x3, p x1 x2 x3) (f : ∀ x1 x2 x3, p x1 x2 x3 → c) : c :=
  h.elim fun x1 h => h.elim fun x2 h => h.elim fun x3 h => f x1 x2 x3 h
theorem exE4 {α1 α2 α3 α4 : Type} {p : α1 → α2 → α3 → α4 → Prop} {c : Prop} (h : ∃ x1 x2 x3 x4, p x1 x2 x3 x4) (f : ∀ x1 x2 x3 x4, p x1 x2 x3 x4 → c) : c :=
  h.elim fun x1 h => h.elim fun x2 h => h.elim fun x3 h => h.elim fun x4 h => f x1 x2 x3 x4 h
theorem exE5 {α1 α2 α3 α4 α5 : Type} {p : α1 → α2 → α3 → α4 → α5 → Prop} {c : Prop} (h : ∃ x1 x2 x3 x4 x5, p x1 x2 x3 x4 x5) (f : ∀ x1 x2 x3 x4 x5, p x1 x2 x3 x4 x5 → c) : c :=
  h.elim fun x1 h => h.elim fun x2 h => h.elim fun x3 h => h.elim fun x4 h => h.elim fun x5 h => f x1 x2 x3 x4 x5 h
theorem exE6 {α1 α2 α3 α4 α5 α6 : Type} {p : α1 → α2 → α3 → α4 → α5 → α6 → Prop} {c : Prop} (h : ∃ x1 x2 x3 x4 x5 x6, p x1 x2 x3 x4 x5 x6) (f : ∀ x1 x2 x3 x4 x5 x6, p x1 x2 x3 x4 x5 x6 → c) : c :=
  h.elim fun x1 h => h.elim fun x2 h => h.elim fun x3 h => h.elim fun x4 h => h.elim fun x5 h => h.elim fun x6 h => f x1 x2 x3 x4 x5 x6 h
theorem exE7 {α1 α2 α3 α4 α5 α6 α7 : Type} {p : α1 → α2 → α3 → α4 → α5 → α6 → α7 → Prop} {c : Prop} (h : ∃ x1 x2 x3 x4 x5 x6 x7, p x1 x2 x3 x4 x5 x6 x7) (f : ∀ x1 x2 x3 x4 x5 x6 x7, p x1 x2 x3 x4 x5 x6 x7 → c) : c :=
  h.elim fun x1 h => h.elim fun x2 h => h.elim fun x3 h => h.elim fun x4 h => h.elim fun x5 h => h.elim fun x6 h => h.elim fun x7 h => f x1 x2 x3 x4 x5 x6 x7 h
theorem andE2 {p1 p2 c : Prop} (h : p1 ∧ p2) (f : p1 → p2 → c) : c := f h.1 h.2
theorem andE3 {p1 p2 p3 c : Prop} (h : p1 ∧ p2 ∧ p3) (f : p1 → p2 → p3 → c) : c := f h.1 h.2.1 h.2.2
theorem andE4 {p1 p2 p3 p4 c : Prop} (h : p1 ∧ p2 ∧ p3 ∧ p4) (f : p1 → p2 → p3 → p4 → c) : c := f h.1 h.2.1 h.2.2.1 h.2.2.2
theorem andE5 {p1 p2 p3 p4 p5 c : Prop} (h : p1 ∧ p2 ∧ p3 ∧ p4 ∧ p5) (f : p1 → p2 → p3 → p4 → p5 → c) : c := f h.1 h.2.1 h.2.2.1 h.2.2.2.1 h.2.2.2.2
theorem andE6 {p1 p2 p3 p4 p5 p6 c : Prop} (h : p1 ∧ p2 ∧ p3 ∧ p4 ∧ p5 ∧ p6) (f : p1 → p2 → p3 → p4 → p5 → p6 → c) : c := f h.1 h.2.1 h.2.2.1 h.2.2.2.1 h.2.2.2.2.1 h.2.2.2.2.2
theorem andE7 {p1 p2 p3 p4 p5 p6 p7 c : Prop} (h : p1 ∧ p2 ∧ p3 ∧ p4 ∧ p5 ∧ p6 ∧ p7) (f : p1 → p2 → p3 → p4 → p5 → p6 → p7 → c) : c := f h.1 h.2.1 h.2.2.1 h.2.2.2.1 h.2.2.2.2.1 h.2.2.2.2.2.1 h.2.2.2.2.2.2
theorem andE8 {p1 p2 p3 p4 p5 p6 p7 p8 c : Prop} (h : p1 ∧ p2 ∧ p3 ∧ p4 ∧ p5 ∧ p6 ∧ p7 ∧ p8) (f : p1 → p2 → p3 → p4 → p5 → p6 → p7 → p8 → c) : c := f h.1 h.2.1 h.2.2.1 h.2.2.2.1 h.2.2.2.2.1 h.2.2.2.2.2.1 h.2.2.2.2.2.2.1 h.2.2.2.2.2.2.2
theorem andE9 {p1 p2 p3 p4 p5 p6 p7 p8 p9 c : Prop} (h : p1 ∧ p2 ∧ p3 ∧ p4 ∧ p5 ∧ p6 ∧ p7 ∧ p8 ∧ p9) (f : p1 → p2 → p3 → p4 → p5 → p6 → p7 → p8 → p9 → c) : c := f h.1 h.2.1 h.2.2.1 h.2.2.2.1 h.2.2.2.2.1 h.2.2.2.2.2.1 h.2.2.2.2.2.2.1 h.2.2.2.2.2.2.2.1 h.2.2.2.2.2.2.2.2
theorem andE10 {p1 p2 p3 p4 p5 p6 p7 p8 p9 p10 c : Prop} (h : p1 ∧ p2 ∧ p3 ∧ p4 ∧ p5 ∧ p6 ∧ p7 ∧ p8 ∧ p9 ∧ p10) (f : p1 → p2 → p3 → p4 → p5 → p6 → p7 → p8 → p9 → p10 → c) : c := f h.1 h.2.1 h.2.2.1 h.2.2.2.1 h.2.2.2.2.1 h.2.2.2.2.2.1 h.2.2.2.2.2.2.1 h.2.2.2.2.2.2.2.1 h.2.2.2.2.2.2.2.2.1 h.2.2.2.2.2.2.2.2.2
theorem andE11 {p1 p2 p3 p4 p5 p6 p7 p8 p9 p10 p11 c : Prop} (h : p1 ∧ p2 ∧ p3 ∧ p4 ∧ p5 ∧ p6 ∧ p7 ∧ p8 ∧ p9 ∧ p10 ∧ p11) (f : p1 → p2 → p3 → p4 → p5 → p6 → p7 → p8 → p9 → p10 → p11 → c) : c := f h.1 h.2.1 h.2.2.1 h.2.2.2.1 h.2.2.2.2.1 h.2.2.2.2.2.1 h.2.2.2.2.2.2.1 h.2.2.2.2.2.2.2.1 h.2.2.2.2.2.2.2.2.1 h.2.2.2.2.2.2.2.2.2.1 h.2.2.2.2.2.2.2.2.2.2
theorem andE12 {p1 p2 p3 p4 p5 p6 p7 p8 p9 p10 p11 p12 c : Prop} (h : p1 ∧ p2 ∧ p3 ∧ p4 ∧ p5 ∧ p6 ∧ p7 ∧ p8 ∧ p9 ∧ p10 ∧ p11 ∧ p12) (f : p1 → p2 → p3 → p4 → p5 → p6 → p7 → p8 → p9 → p10 → p11 → p12 → c) : c := f h.1 h.2.1 h.2.2.1 h.2.2.2.1 h.2.2.2.2.1 h.2.2.2.2.2.1 h.2.2.2.2.2.2.1 h.2.2.2.2.2.2.2.1 h.2.2.2.2.2.2.2.2.1 h.2.2.2.2.2.2.2.2.2.1 h.2.2.2.2.2.2.2.2.2.2.1 h.2.2.2.2.2.2.2.2.2.2.2
theorem andE13 {p1 p2 p3 p4 p5 p6 p7 p8 p9 p10 p11 p12 p13 c : Prop} (h : p1 ∧ p2 ∧ p3 ∧ p4 ∧ p5 ∧ p6 ∧ p7 ∧ p8 ∧ p9 ∧ p10 ∧ p11 ∧ p12 ∧ p13) (f : p1 → p2 → p3 → p4 → p5 → p6 → p7 → p8 → p9 → p10 → p11 → p12 → p13 → c) : c := f h.1 h.2.1 h.2.2.1 h.2.2.2.1 h.2.2.2.2.1 h.2.2.2.2.2.1 h.2.2.2.2.2.2.1 h.2.2.2.2.2.2.2.1 h.2.2.2.2.2.2.2.2.1 h.2.2.2.2.2.2.2.2.2.1 h.2.2.2.2.2.2.2.2.2.2.1 h.2.2.2.2.2.2.2.2.2.2.2.1 h.2.2.2.2.2.2.2.2.2.2.2.2
end Mine
/- plain functions -/
namespace Mine
def bisL (lt : Nat → Bool) : Nat → Nat → Nat → Nat
  | 0, lo, _ => lo
  | f + 1, lo, hi => if lo < hi then (if lt ((lo + hi) / 2) then bisL lt f lo ((lo + hi) / 2) else bisL lt f ((lo + hi) / 2 + 1) hi) else lo
theorem bisL_fuel (lt : Nat → Bool) : ∀ (f lo hi : Nat), hi - lo ≤ f → bisL lt f lo hi = bisL lt (hi - lo) lo hi := by
  intro f
  induction f using Nat.strongRecOn with
  | _ f ih =>
    intro lo hi h
    cases f with
    | zero => rw [show hi - lo = 0 by omega]
    | succ f =>
      by_cases hl : lo < hi
      · obtain ⟨k, hk⟩ : ∃ k, hi - lo = k + 1 := ⟨hi - lo - 1, by omega⟩
        rw [hk]
        simp only [bisL, if_pos hl]
        split
        · by_cases hf : f = k
          · rw [hf]
          · rw [ih f (by omega) _ _ (by omega), ← ih k (by omega) _ _ (by omega)]
        · by_cases hf : f = k
          · rw [hf]
          · rw [ih f (by omega) _ _ (by omega), ← ih k (by omega) _ _ (by omega)]
      · have : hi - lo = 0 := by omega
        rw [this]
        simp [bisL, hl]
def bis (lt : Nat → Bool) (lo hi : Nat) : Nat := bisL lt (hi - lo) lo hi
theorem bis_stop {lt : Nat → Bool} {lo hi : Nat} (h : ¬ lo < hi) : bis lt lo hi = lo := by
  unfold bis; rw [show hi - lo = 0 by omega]; rfl
theorem bis_left {lt : Nat → Bool} {lo hi : Nat} (h : lo < hi) (c : lt ((lo + hi) / 2) = true) : bis lt lo hi = bis lt lo ((lo + hi) / 2) := by
  unfold bis
  obtain ⟨k, hk⟩ : ∃ k, hi - lo = k + 1 := ⟨hi - lo - 1, by omega⟩
  rw [hk]; simp only [bisL, if_pos h, if_pos c]
  exact bisL_fuel lt _ _ _ (by omega)
theorem bis_right {lt : Nat → Bool} {lo hi : Nat} (h : lo < hi) (c : lt ((lo + hi) / 2) = false) : bis lt lo hi = bis lt ((lo + hi) / 2 + 1) hi := by
  unfold bis
  obtain ⟨k, hk⟩ : ∃ k, hi - lo = k + 1 := ⟨hi - lo - 1, by omega⟩
  rw [hk]; simp only [bisL, if_pos h, if_neg (by rw [c]; decide : ¬ lt ((lo + hi) / 2) = true)]
  exact bisL_fuel lt _ _ _ (by omega)
theorem bis_le {lt : Nat → Bool} {lo hi : Nat} (h : lo ≤ hi) : lo ≤ bis lt lo hi ∧ bis lt lo hi ≤ hi := by
  obtain ⟨k, hk⟩ : ∃ k, k = hi - lo := ⟨_, rfl⟩
  induction k using Nat.strongRecOn generalizing lo hi with
  | _ k ih =>
    by_cases hl : lo < hi
    · cases c : lt ((lo + hi) / 2) with
      | true => rw [bis_left hl c]; have := @ih (((lo + hi) / 2) - lo) (by omega) lo ((lo + hi) / 2) (by omega) rfl; omega
      | false => rw [bis_right hl c]; have := @ih (hi - ((lo + hi) / 2 + 1)) (by omega) ((lo + hi) / 2 + 1) hi (by omega) rfl; omega
    · rw [bis_stop hl]; omega
end Mine
namespace Mine
def cntB (f : Nat → Bool) : Nat → Nat
  | 0 => 0
  | n + 1 => cntB f n + (if f n then 1 else 0)
end Mine
end

/-! Hd8 -/
section
open PySem PySem.W PyProof.Rows
set_option Elab.async false
namespace Mine
set_option maxRecDepth 100000
set_option maxHeartbeats 8000000
set_option linter.all false
/-- the program, of its top the statements that the head asks for -/
def view : Program := { PySem.Challenge.rw_uc0025_01.prog with main := { PySem.Challenge.rw_uc0025_01.prog.main with body := [0, 1, 6, 7, 8, 9, 10, 11, 13, 14, 15, 17, 19, 20, 21, 22, 23, 24].filterMap fun i => PySem.Challenge.rw_uc0025_01.prog.main.body[i]? } }
def loose : List Str := [Str.ofString "insort_right", Str.ofString "bisect_right", Str.ofString "tspecials", Str.ofString "_name_disallowed_re", Str.ofString "_value_disallowed_re", Str.ofString "_formatparam"]
def hsE (P : Params) (k : String) (n : Nat) (v : Value) : DictEntry := ⟨PyData.keyHash P (Str.ofString k), .str (Str.ofString k) n, v⟩
def hsS (k : String) (n : Nat) : Value := .str (Str.ofString k) n
def hsB : Obj → Obj
  | ⟨_, _, .func f, _⟩ => ⟨.none, none, .func { f with globals := 0, closure := [], defaults := .none, kwdefaults := .none, pyModule := .none, code := .none, closureTuple := .none }, #[]⟩
  | o => o
def hsF (F : Params → Frag) (P : Params) (a : Nat) : Obj := ((F P).lookup a).getD ⟨.none, none, .plain, #[]⟩
noncomputable def hs0 (P : Params) : List Obj :=
 [boot_o_0 P, { cls := .type "dict", data := .dict #[hsE P "builtins" 162 (.ref 4), hsE P "__main__" 163 (.ref 5), hsE P "_sre" 244 (.ref 12)] 3 },
  { cls := .none, data := .dict #[hsE P "\x69mport.loaded._sre" 183 (.bool true), hsE P "class._frozen_importlib.BuiltinImporter" 185 (.ref 14), hsE P "watched.\x69mport" 206 (.ref 18), hsE P "class._frozen_importlib.ModuleSpec" 216 (.ref 22), hsE P "sys.modules.booked-epoch" 245 (.int 3 0), hsE P "\x69mport.later-laid._sre" 270 (.bool true), hsE P "watched.library" 272 (.ref 27), hsE P "watched.library-objects" 0 (hsS "\x0c" 0), hsE P "watched.library-deep._sre" 273 (hsS "\x04\x00\x00\x0b\x04\x00\x00\x0b\x04\x00\x00\x03\x04\x00\x00\x0b\x08\x04dict\x02" 0)] 9 },
  { cls := .type "dict", data := .dict #[hsE P "__name__" 165 (hsS "__main__" 164), hsE P "__doc__" 166 .none, hsE P "__package__" 167 .none, hsE P "__loader__" 168 (.builtin "__main__.__loader__#opaque"), hsE P "__spec__" 169 .none, hsE P "__annotations__" 170 (.ref 6), hsE P "__builtins__" 171 (.ref 4), hsE P "__file__" 173 (hsS "/claim/cut.py" 172), hsE P "__cached__" 174 .none, hsE P "_sre" 275 (.ref 12)] 10 },
  boot_o_4 P, boot_o_5 P, boot_o_6 P, boot_o_7 P, boot_o_8 P, boot_o_9 P, boot_o_10 P,
  { cls := .type "dict", data := .dict #[hsE P "__name__" 247 (hsS "_sre" 246), hsE P "__doc__" 248 .none, hsE P "__package__" 250 (hsS "" 249), hsE P "__loader__" 251 (.builtin "off-the-table:_sre.__loader__:shared#opaque"), hsE P "__spec__" 252 (.builtin "off-the-table:_sre.__spec__:shared#opaque"), hsE P "compile" 253 (.builtin "_sre.compile"), hsE P "template" 254 (.builtin "off-the-table:_sre.template:shared#opaque"), hsE P "getcodesize" 255 (.builtin "off-the-table:_sre.getcodesize:shared#opaque"), hsE P "ascii_iscased" 256 (.builtin "off-the-table:_sre.ascii_iscased:shared#opaque"), hsE P "unicode_iscased" 257 (.builtin "off-the-table:_sre.unicode_iscased:shared#opaque"), hsE P "ascii_tolower" 258 (.builtin "off-the-table:_sre.ascii_tolower:shared#opaque"), hsE P "unicode_tolower" 259 (.builtin "off-the-table:_sre.unicode_tolower:shared#opaque"), hsE P "MAGIC" 261 (.int 20230612 260), hsE P "CODESIZE" 263 (.int 4 262), hsE P "MAXREPEAT" 265 (.int 4294967295 264), hsE P "MAXGROUPS" 267 (.int 1073741823 266), hsE P "copyright" 269 (hsS " SRE 2.2.2 Copyright (c) 1997-2002 by Secret Labs AB " 268)] 17 },
  { cls := .type "module", dict := some 11 },
  { cls := .type "dict", data := .dict #[hsE P "__module__" 189 (hsS "_frozen_importlib" 186), hsE P "__firstlineno__" 190 (.int 971 187), hsE P "__doc__" 191 (.builtin "_frozen_importlib.BuiltinImporter.__doc__:str#opaque"), hsE P "_ORIGIN" 192 (hsS "built-in" 188), hsE P "find_spec" 193 (.builtin "_frozen_importlib.BuiltinImporter.find_spec#opaque"), hsE P "create_module" 194 (.builtin "_frozen_importlib.BuiltinImporter.create_module#opaque"), hsE P "exec_module" 195 (.builtin "_frozen_importlib.BuiltinImporter.exec_module#opaque"), hsE P "get_code" 196 (.builtin "_frozen_importlib.BuiltinImporter.get_code#opaque"), hsE P "get_source" 197 (.builtin "_frozen_importlib.BuiltinImporter.get_source#opaque"), hsE P "is_package" 198 (.builtin "_frozen_importlib.BuiltinImporter.is_package#opaque"), hsE P "load_module" 199 (.builtin "_frozen_importlib.BuiltinImporter.load_module#opaque"), hsE P "__static_attributes__" 200 (.ref 15), hsE P "__dict__" 202 (.ref 16), hsE P "__weakref__" 204 (.ref 17)] 14 },
  { cls := .type "type", data := .cls { name := Str.ofString "BuiltinImporter", bases := [.type "object"], mro := [.ref 14, .type "object"], ns := 13, qualname := Str.ofString "BuiltinImporter" } },
  { cls := .type "tuple", data := .seq #[] }, { cls := .type "getset_descriptor", data := .fields #[hsS "__dict__" 201, .ref 14, .builtin "function.__dict__", .builtin "function.__dict__#set"] },
  { cls := .type "getset_descriptor", data := .fields #[hsS "__weakref__" 203, .ref 14, .builtin "ExceptionGroup.__weakref__", .none] },
  { cls := .none, data := .seq #[.int 13 0, .str ⟨#[6, 189, 10, 95, 95, 109, 111, 100, 117, 108, 101, 95, 95, 6, 186, 17, 95, 102, 114, 111, 122, 101, 110, 95, 105, 109, 112, 111, 114, 116, 108, 105, 98, 6, 190, 15, 95, 95, 102, 105, 114, 115, 116, 108, 105, 110, 101, 110, 111, 95, 95, 4, 187, 0, 971, 6, 191, 7, 95, 95, 100, 111, 99, 95, 95, 9, 52, 95, 102, 114, 111, 122, 101, 110, 95, 105, 109, 112, 111, 114, 116, 108, 105, 98, 46, 66, 117, 105, 108, 116, 105, 110, 73, 109, 112, 111, 114, 116, 101, 114, 46, 95, 95, 100, 111, 99, 95, 95, 58, 115, 116, 114, 35, 111, 112, 97, 113, 117, 101, 6, 192, 7, 95, 79, 82, 73, 71, 73, 78, 6, 188, 8, 98, 117, 105, 108, 116, 45, 105, 110, 6, 193, 9, 102, 105, 110, 100, 95, 115, 112, 101, 99, 9, 50, 95, 102, 114, 111, 122, 101, 110, 95, 105, 109, 112, 111, 114, 116, 108, 105, 98, 46, 66, 117, 105, 108, 116, 105, 110, 73, 109, 112, 111, 114, 116, 101, 114, 46, 102, 105, 110, 100, 95, 115, 112, 101, 99, 35, 111, 112, 97, 113, 117, 101, 6, 194, 13, 99, 114, 101, 97, 116, 101, 95, 109, 111, 100, 117, 108, 101, 9, 54, 95, 102, 114, 111, 122, 101, 110, 95, 105, 109, 112, 111, 114, 116, 108, 105, 98, 46, 66, 117, 105, 108, 116, 105, 110, 73, 109, 112, 111, 114, 116, 101, 114, 46, 99, 114, 101, 97, 116, 101, 95, 109, 111, 100, 117, 108, 101, 35, 111, 112, 97, 113, 117, 101, 6, 195, 11, 101, 120, 101, 99, 95, 109, 111, 100, 117, 108, 101, 9, 52, 95, 102, 114, 111, 122, 101, 110, 95, 105, 109, 112, 111, 114, 116, 108, 105, 98, 46, 66, 117, 105, 108, 116, 105, 110, 73, 109, 112, 111, 114, 116, 101, 114, 46, 101, 120, 101, 99, 95, 109, 111, 100, 117, 108, 101, 35, 111, 112, 97, 113, 117, 101, 6, 196, 8, 103, 101, 116, 95, 99, 111, 100, 101, 9, 49, 95, 102, 114, 111, 122, 101, 110, 95, 105, 109, 112, 111, 114, 116, 108, 105, 98, 46, 66, 117, 105, 108, 116, 105, 110, 73, 109, 112, 111, 114, 116, 101, 114, 46, 103, 101, 116, 95, 99, 111, 100, 101, 35, 111, 112, 97, 113, 117, 101, 6, 197, 10, 103, 101, 116, 95, 115, 111, 117, 114, 99, 101, 9, 51, 95, 102, 114, 111, 122, 101, 110, 95, 105, 109, 112, 111, 114, 116, 108, 105, 98, 46, 66, 117, 105, 108, 116, 105, 110, 73, 109, 112, 111, 114, 116, 101, 114, 46, 103, 101, 116, 95, 115, 111, 117, 114, 99, 101, 35, 111, 112, 97, 113, 117, 101, 6, 198, 10, 105, 115, 95, 112, 97, 99, 107, 97, 103, 101, 9, 51, 95, 102, 114, 111, 122, 101, 110, 95, 105, 109, 112, 111, 114, 116, 108, 105, 98, 46, 66, 117, 105, 108, 116, 105, 110, 73, 109, 112, 111, 114, 116, 101, 114, 46, 105, 115, 95, 112, 97, 99, 107, 97, 103, 101, 35, 111, 112, 97, 113, 117, 101, 6, 199, 11, 108, 111, 97, 100, 95, 109, 111, 100, 117, 108, 101, 9, 52, 95, 102, 114, 111, 122, 101, 110, 95, 105, 109, 112, 111, 114, 116, 108, 105, 98, 46, 66, 117, 105, 108, 116, 105, 110, 73, 109, 112, 111, 114, 116, 101, 114, 46, 108, 111, 97, 100, 95, 109, 111, 100, 117, 108, 101, 35, 111, 112, 97, 113, 117, 101, 6, 200, 21, 95, 95, 115, 116, 97, 116, 105, 99, 95, 97, 116, 116, 114, 105, 98, 117, 116, 101, 115, 95, 95, 4, 0, 0, 15, 6, 202, 8, 95, 95, 100, 105, 99, 116, 95, 95, 4, 0, 0, 16, 6, 204, 11, 95, 95, 119, 101, 97, 107, 114, 101, 102, 95, 95, 4, 0, 0, 17]⟩ 0, .bool true, .bool true, hsS "" 205, .int 21 0, .str ⟨#[6, 227, 10, 95, 95, 109, 111, 100, 117, 108, 101, 95, 95, 6, 217, 17, 95, 102, 114, 111, 122, 101, 110, 95, 105, 109, 112, 111, 114, 116, 108, 105, 98, 6, 228, 15, 95, 95, 102, 105, 114, 115, 116, 108, 105, 110, 101, 110, 111, 95, 95, 4, 218, 0, 562, 6, 229, 7, 95, 95, 100, 111, 99, 95, 95, 9, 47, 95, 102, 114, 111, 122, 101, 110, 95, 105, 109, 112, 111, 114, 116, 108, 105, 98, 46, 77, 111, 100, 117, 108, 101, 83, 112, 101, 99, 46, 95, 95, 100, 111, 99, 95, 95, 58, 115, 116, 114, 35, 111, 112, 97, 113, 117, 101, 6, 230, 8, 95, 95, 105, 110, 105, 116, 95, 95, 9, 44, 95, 102, 114, 111, 122, 101, 110, 95, 105, 109, 112, 111, 114, 116, 108, 105, 98, 46, 77, 111, 100, 117, 108, 101, 83, 112, 101, 99, 46, 95, 95, 105, 110, 105, 116, 95, 95, 35, 111, 112, 97, 113, 117, 101, 6, 231, 8, 95, 95, 114, 101, 112, 114, 95, 95, 9, 44, 95, 102, 114, 111, 122, 101, 110, 95, 105, 109, 112, 111, 114, 116, 108, 105, 98, 46, 77, 111, 100, 117, 108, 101, 83, 112, 101, 99, 46, 95, 95, 114, 101, 112, 114, 95, 95, 35, 111, 112, 97, 113, 117, 101, 6, 232, 6, 95, 95, 101, 113, 95, 95, 9, 42, 95, 102, 114, 111, 122, 101, 110, 95, 105, 109, 112, 111, 114, 116, 108, 105, 98, 46, 77, 111, 100, 117, 108, 101, 83, 112, 101, 99, 46, 95, 95, 101, 113, 95, 95, 35, 111, 112, 97, 113, 117, 101, 6, 233, 6, 99, 97, 99, 104, 101, 100, 9, 42, 95, 102, 114, 111, 122, 101, 110, 95, 105, 109, 112, 111, 114, 116, 108, 105, 98, 46, 77, 111, 100, 117, 108, 101, 83, 112, 101, 99, 46, 99, 97, 99, 104, 101, 100, 35, 111, 112, 97, 113, 117, 101, 6, 234, 6, 112, 97, 114, 101, 110, 116, 9, 42, 95, 102, 114, 111, 122, 101, 110, 95, 105, 109, 112, 111, 114, 116, 108, 105, 98, 46, 77, 111, 100, 117, 108, 101, 83, 112, 101, 99, 46, 112, 97, 114, 101, 110, 116, 35, 111, 112, 97, 113, 117, 101, 6, 235, 12, 104, 97, 115, 95, 108, 111, 99, 97, 116, 105, 111, 110, 9, 48, 95, 102, 114, 111, 122, 101, 110, 95, 105, 109, 112, 111, 114, 116, 108, 105, 98, 46, 77, 111, 100, 117, 108, 101, 83, 112, 101, 99, 46, 104, 97, 115, 95, 108, 111, 99, 97, 116, 105, 111, 110, 35, 111, 112, 97, 113, 117, 101, 6, 236, 21, 95, 95, 115, 116, 97, 116, 105, 99, 95, 97, 116, 116, 114, 105, 98, 117, 116, 101, 115, 95, 95, 4, 0, 0, 23, 6, 238, 8, 95, 95, 100, 105, 99, 116, 95, 95, 4, 0, 0, 24, 6, 240, 11, 95, 95, 119, 101, 97, 107, 114, 101, 102, 95, 95, 4, 0, 0, 25, 6, 241, 8, 95, 95, 104, 97, 115, 104, 95, 95, 0]⟩ 0, .bool true, .bool true, hsS "" 242] 1 },
  { cls := .type "list", data := .seq #[] },
  { cls := .type "dict", data := .dict #[hsE P "name" 208 (hsS "_sre" 207), hsE P "loader" 209 (.ref 14), hsE P "origin" 210 (hsS "built-in" 184), hsE P "loader_state" 211 .none, hsE P "submodule_search_locations" 212 .none, hsE P "_uninitialized_submodules" 213 (.ref 19), hsE P "_set_fileattr" 214 (.bool false), hsE P "_cached" 215 .none, hsE P "_initializing" 243 (.bool false)] 9 },
  { cls := .type "dict", data := .dict #[hsE P "__module__" 227 (hsS "_frozen_importlib" 217), hsE P "__firstlineno__" 228 (.int 562 218), hsE P "__doc__" 229 (.builtin "_frozen_importlib.ModuleSpec.__doc__:str#opaque"), hsE P "__init__" 230 (.builtin "_frozen_importlib.ModuleSpec.__init__#opaque"), hsE P "__repr__" 231 (.builtin "_frozen_importlib.ModuleSpec.__repr__#opaque"), hsE P "__eq__" 232 (.builtin "_frozen_importlib.ModuleSpec.__eq__#opaque"), hsE P "cached" 233 (.builtin "_frozen_importlib.ModuleSpec.cached#opaque"), hsE P "parent" 234 (.builtin "_frozen_importlib.ModuleSpec.parent#opaque"), hsE P "has_location" 235 (.builtin "_frozen_importlib.ModuleSpec.has_location#opaque"), hsE P "__static_attributes__" 236 (.ref 23), hsE P "__dict__" 238 (.ref 24), hsE P "__weakref__" 240 (.ref 25), hsE P "__hash__" 241 .none] 13 },
  { cls := .type "type", data := .cls { name := Str.ofString "ModuleSpec", bases := [.type "object"], mro := [.ref 22, .type "object"], ns := 21, qualname := Str.ofString "ModuleSpec" } },
  { cls := .type "tuple", data := .seq #[hsS "_cached" 219, hsS "_set_fileattr" 220, hsS "_uninitialized_submodules" 221, hsS "loader" 222, hsS "loader_state" 223, hsS "name" 224, hsS "origin" 225, hsS "submodule_search_locations" 226] },
  { cls := .type "getset_descriptor", data := .fields #[hsS "__dict__" 237, .ref 22, .builtin "function.__dict__", .builtin "function.__dict__#set"] },
  { cls := .type "getset_descriptor", data := .fields #[hsS "__weakref__" 239, .ref 22, .builtin "ExceptionGroup.__weakref__", .none] }, { cls := .ref 22, dict := some 20 },
  { cls := .none, data := .seq #[.int 11 0, .str { cps := #[6, 247, 8, 95, 95, 110, 97, 109, 101, 95, 95, 6, 246, 4, 95, 115, 114, 101, 6, 248, 7, 95, 95, 100, 111, 99, 95, 95, 0, 6, 250, 11, 95, 95, 112, 97, 99, 107, 97, 103, 101, 95, 95, 6, 249, 0, 6, 251, 10, 95, 95, 108, 111, 97, 100, 101, 114, 95, 95, 4, 0, 0, 14, 6, 252, 8, 95, 95, 115, 112, 101, 99, 95, 95, 4, 0, 0, 26, 6, 253, 7, 99, 111, 109, 112, 105, 108, 101, 9, 12, 95, 115, 114, 101, 46, 99, 111, 109, 112, 105, 108, 101, 6, 254, 8, 116, 101, 109, 112, 108, 97, 116, 101, 9, 13, 95, 115, 114, 101, 46, 116, 101, 109, 112, 108, 97, 116, 101, 6, 255, 11, 103, 101, 116, 99, 111, 100, 101, 115, 105, 122, 101, 9, 16, 95, 115, 114, 101, 46, 103, 101, 116, 99, 111, 100, 101, 115, 105, 122, 101, 6, 256, 13, 97, 115, 99, 105, 105, 95, 105, 115, 99, 97, 115, 101, 100, 9, 18, 95, 115, 114, 101, 46, 97, 115, 99, 105, 105, 95, 105, 115, 99, 97, 115, 101, 100, 6, 257, 15, 117, 110, 105, 99, 111, 100, 101, 95, 105, 115, 99, 97, 115, 101, 100, 9, 20, 95, 115, 114, 101, 46, 117, 110, 105, 99, 111, 100, 101, 95, 105, 115, 99, 97, 115, 101, 100, 6, 258, 13, 97, 115, 99, 105, 105, 95, 116, 111, 108, 111, 119, 101, 114, 9, 18, 95, 115, 114, 101, 46, 97, 115, 99, 105, 105, 95, 116, 111, 108, 111, 119, 101, 114, 6, 259, 15, 117, 110, 105, 99, 111, 100, 101, 95, 116, 111, 108, 111, 119, 101, 114, 9, 20, 95, 115, 114, 101, 46, 117, 110, 105, 99, 111, 100, 101, 95, 116, 111, 108, 111, 119, 101, 114, 6, 261, 5, 77, 65, 71, 73, 67, 4, 260, 0, 20230612, 6, 263, 8, 67, 79, 68, 69, 83, 73, 90, 69, 4, 262, 0, 4, 6, 265, 9, 77, 65, 88, 82, 69, 80, 69, 65, 84, 4, 264, 0, 4294967295, 6, 267, 9, 77, 65, 88, 71, 82, 79, 85, 80, 83, 4, 266, 0, 1073741823, 6, 269, 9, 99, 111, 112, 121, 114, 105, 103, 104, 116, 6, 268, 53, 32, 83, 82, 69, 32, 50, 46, 50, 46, 50, 32, 67, 111, 112, 121, 114, 105, 103, 104, 116, 32, 40, 99, 41, 32, 49, 57, 57, 55, 45, 50, 48, 48, 50, 32, 98, 121, 32, 83, 101, 99, 114, 101, 116, 32, 76, 97, 98, 115, 32, 65, 66, 32] } 0, .bool true, .bool false, hsS "_sre" 271] }]
noncomputable def hsP (P : Params) (a : Nat) : Obj := (hs0 P).getD a ⟨.none, none, .plain, #[]⟩
noncomputable def hs1 (F : Params → Frag) (P : Params) : List Obj :=
 have f := hsF F P
 [hsP P 0, hsP P 1, hsP P 2, f 3, hsP P 4, hsP P 5, hsP P 6, hsP P 7, hsP P 8, hsP P 9, hsP P 10, hsP P 11, hsP P 12, hsP P 13, hsP P 14, hsP P 15, hsP P 16, hsP P 17, hsP P 18, hsP P 19, hsP P 20,
  hsP P 21, hsP P 22, hsP P 23, hsP P 24, hsP P 25, hsP P 26, hsP P 27, { cls := .type "tuple", data := .seq #[] },
  { cls := .none, data := .fields #[.int 2 0, .int 0 0, .ref 37, .int 6 0, .int 0 0, .ref 46, .int 12 0, .int 0 0, .ref 55, .int 33 0, .int 0 0, .ref 62, .int 35 0, .int 0 0, .ref 69, .int 37 0, .int 0 0, .ref 76, .int 43 0, .int 0 0, .ref 83, .int 45 0, .int 0 0, .ref 90, .int 51 0, .int 0 0, .ref 97, .int 57 0, .int 0 0, .ref 120, .int 66 0, .int 0 0, .ref 127, .int 149 0, .int 0 0, .ref 252, .int 151 0, .int 0 0, .ref 257, .int 154 0, .int 0 0, .ref 264, .int 169 0, .int 0 0, .ref 269, .int 177 0, .int 0 0, .ref 274, .int 182 0, .int 0 0, .ref 279] },
  { cls := .type "code", data := .fields #[hsS "<module>" 277, hsS "<module>" 278, hsS "/claim/cut.py" 279, .int 1 0, .int 0 0, .int 0 0, .int 0 0, .int 0 0, .ref 28, .bool false, .int 276 0, .ref 29, .none, .none, .none, .none, .int 280 0, .int 1 0, hsS "/claim/cut.py" 281] },
  { cls := .type "frame", slots := #[some (.ref 30), some (.ref 3), some (.ref 3), none, some (hsS "__main__" 164), none, some (.ref 0)] }, f 32, { cls := .none, data := .fields #[] }, f 34, f 35,
  hsB (f 38), f 37, f 38, f 39, f 40, f 41, { cls := .none, data := .fields #[] }, f 43, f 44, hsB (f 47), f 46, f 47, f 48, f 49, f 50, { cls := .none, data := .fields #[] }, f 52, f 53, hsB (f 56),
  f 55, f 56, f 57, { cls := .none, data := .fields #[] }, f 59, f 60, hsB (f 63), f 62, f 63, f 64, { cls := .none, data := .fields #[] }, f 66, f 67, hsB (f 70), f 69, f 70, f 71,
  { cls := .none, data := .fields #[] }, f 73, f 74, hsB (f 77), f 76, f 77, f 78, { cls := .none, data := .fields #[] }, f 80, f 81, hsB (f 84), f 83, f 84, f 85,
  { cls := .none, data := .fields #[] }, f 87, f 88, hsB (f 91), f 90, f 91, f 92, { cls := .none, data := .fields #[] }, f 94, f 95, hsB (f 98), f 97, f 98,
  { cls := .type "list", data := .seq #[.int 14 378, .int 14 379, .int 4 380, .int 1 381, .int 1 382, .int 9 383, .int 0 384, .int 4227896069 385, .int 939524097 386, .int 0 387, .int 0 388, .int 0 389, .int 0 390, .int 0 391, .int 0 392, .int 13 393, .int 11 394, .int 9 395, .int 0 396, .int 4227896069 397, .int 939524097 398, .int 0 399, .int 0 400, .int 0 401, .int 0 402, .int 0 403, .int 0 404, .int 1 405] },
  { cls := .type "dict", data := .dict #[] }, { cls := .type "tuple", data := .seq #[.none] }, f 102, f 103,
  { cls := .type "list", data := .seq #[.int 14 412, .int 10 413, .int 4 414, .int 1 415, .int 1 416, .int 22 417, .int 0 418, .int 31 419, .int 16 420, .int 127 421, .int 0 422, .int 13 423, .int 7 424, .int 22 425, .int 0 426, .int 31 427, .int 16 428, .int 127 429, .int 0 430, .int 1 431] },
  { cls := .type "dict", data := .dict #[] }, { cls := .type "tuple", data := .seq #[.none] }, f 107, f 108,
  { cls := .type "list", data := .seq #[.int 14 438, .int 14 439, .int 4 440, .int 1 441, .int 1 442, .int 9 443, .int 4294966783 444, .int 0 445, .int 0 446, .int 2147483648 447, .int 0 448, .int 0 449, .int 0 450, .int 0 451, .int 0 452, .int 13 453, .int 11 454, .int 9 455, .int 4294966783 456, .int 0 457, .int 0 458, .int 2147483648 459, .int 0 460, .int 0 461, .int 0 462, .int 0 463, .int 0 464, .int 1 465] },
  { cls := .type "dict", data := .dict #[] }, { cls := .type "tuple", data := .seq #[.none] }, f 112, f 113, f 114, f 115, { cls := .none, data := .fields #[] }, f 117, f 118, hsB (f 121), f 120,
  f 121, { cls := .type "tuple", data := .seq #[] }, { cls := .type "builtin_function_or_method", data := .fields #[.builtin "type.__prepare__", .type "type"] },
  { cls := .type "dict", data := .dict #[hsE P "__module__" 486 (hsS "cpy313.wsgiref.headers" 373), hsE P "__qualname__" 488 (hsS "Headers" 487), hsE P "__firstlineno__" 490 (.int 66 489), hsE P "__init__" 500 (.ref 136), hsE P "_convert_string_type" 510 (.ref 143), hsE P "__len__" 517 (.ref 150), hsE P "__setitem__" 526 (.ref 157), hsE P "__delitem__" 532 (.ref 162), hsE P "__getitem__" 540 (.ref 169), hsE P "__contains__" 548 (.ref 176), hsE P "get_all" 554 (.ref 181), hsE P "get" 565 (.ref 189), hsE P "keys" 571 (.ref 194), hsE P "values" 577 (.ref 199), hsE P "items" 584 (.ref 206), hsE P "__repr__" 591 (.ref 213), hsE P "__str__" 597 (.ref 218), hsE P "__bytes__" 604 (.ref 225), hsE P "setdefault" 613 (.ref 232), hsE P "add_header" 626 (.ref 239), hsE P "__static_attributes__" 628 (.ref 240)] 21 },
  { cls := .type "tuple", data := .seq #[] },
  { cls := .none, data := .fields #[.int 68 0, .int 4 0, .ref 135, .int 78 0, .int 4 0, .ref 142, .int 86 0, .int 4 0, .ref 149, .int 89 0, .int 4 0, .ref 156, .int 93 0, .int 4 0, .ref 161, .int 97 0, .int 4 0, .ref 168, .int 100 0, .int 4 0, .ref 175, .int 103 0, .int 4 0, .ref 180, .int 107 0, .int 4 0, .ref 188, .int 114 0, .int 4 0, .ref 193, .int 117 0, .int 4 0, .ref 198, .int 120 0, .int 4 0, .ref 205, .int 123 0, .int 4 0, .ref 212, .int 126 0, .int 4 0, .ref 217, .int 129 0, .int 4 0, .ref 224, .int 132 0, .int 4 0, .ref 231, .int 135 0, .int 4 0, .ref 238] },
  { cls := .type "code", data := .fields #[hsS "Headers" 481, hsS "Headers" 482, hsS "/claim/cut.py" 483, .int 66 0, .int 0 0, .int 0 0, .int 0 0, .int 0 0, .ref 125, .bool false, .int 276 0, .ref 126, .none, .none, .none, .none, .int 484 0, .int 66 0, hsS "/claim/cut.py" 485] },
  { cls := .type "frame", slots := #[some (.ref 127), some (.ref 3), some (.ref 124), none, some (hsS "cpy313.wsgiref.headers" 373), none, some (.ref 0)] }, f 129, f 130,
  { cls := .none, data := .fields #[] }, f 132, f 133, hsB (f 136), f 135, f 136, f 137, { cls := .none, data := .fields #[] }, f 139, f 140, hsB (f 143), f 142, f 143, f 144,
  { cls := .none, data := .fields #[] }, f 146, f 147, hsB (f 150), f 149, f 150, f 151, { cls := .none, data := .fields #[] }, f 153, f 154, hsB (f 157), f 156, f 157, f 158,
  { cls := .none, data := .fields #[] }, hsB (f 162), f 161, f 162, f 163, { cls := .none, data := .fields #[] }, f 165, f 166, hsB (f 169), f 168, f 169, f 170,
  { cls := .none, data := .fields #[] }, f 172, f 173, hsB (f 176), f 175, f 176, f 177, { cls := .none, data := .fields #[] }, hsB (f 181), f 180, f 181, f 182, f 183,
  { cls := .none, data := .fields #[] }, f 185, f 186, hsB (f 189), f 188, f 189, f 190, { cls := .none, data := .fields #[] }, hsB (f 194), f 193, f 194, f 195,
  { cls := .none, data := .fields #[] }, hsB (f 199), f 198, f 199, f 200, { cls := .none, data := .fields #[] }, f 202, f 203, hsB (f 206), f 205, f 206, f 207,
  { cls := .none, data := .fields #[] }, f 209, f 210, hsB (f 213), f 212, f 213, f 214, { cls := .none, data := .fields #[] }, hsB (f 218), f 217, f 218, f 219,
  { cls := .none, data := .fields #[] }, f 221, f 222, hsB (f 225), f 224, f 225, f 226, { cls := .none, data := .fields #[] }, f 228, f 229, hsB (f 232), f 231, f 232, f 233,
  { cls := .none, data := .fields #[] }, f 235, f 236, hsB (f 239), f 238, f 239, f 240, f 241, f 242, f 243, f 244, { cls := .type "super", data := .fields #[.ref 242, .ref 242, .ref 242] },
  { cls := .type "builtin_function_or_method", data := .fields #[.builtin "object.__init_subclass__", .ref 242] }, f 247, { cls := .none, data := .fields #[] }, f 249, f 250, hsB (f 253), f 252,
  f 253, f 254, { cls := .none, data := .fields #[] }, hsB (f 258), f 257, f 258, f 259, { cls := .none, data := .fields #[] }, f 261, f 262, hsB (f 265), f 264, f 265, f 266,
  { cls := .none, data := .fields #[] }, hsB (f 270), f 269, f 270, f 271, { cls := .none, data := .fields #[] }, hsB (f 275), f 274, f 275, f 276, { cls := .none, data := .fields #[] }, hsB (f 280),
  f 279, f 280]

/-- what is read of an array: its size, and what stands at each place -/
def hsO (n : Nat) (a : Array Obj) : Nat × List (Option Obj) := (a.size, (List.range n).map fun i => a[i]?)
theorem hs_arr {a : Array Obj} {l : List Obj} {n : Nat} (h : hsO n a = (n, l.map some)) : a = ⟨l⟩ := by
  obtain ⟨h1, h2⟩ := Prod.mk.inj h
  have hl : l.length = n := by have := congrArg List.length h2; simp only [List.length_map, List.length_range] at this; exact this.symm
  apply Array.ext (by simp only [h1, List.size_toArray, hl])
  intro i hi hj
  have hn : i < n := h1 ▸ hi
  have := congrArg (fun x => x[i]?) h2
  simp only [List.getElem?_map, List.getElem?_range hn, Option.map_some, Array.getElem?_eq_getElem hi] at this
  have hj' : i < l.length := hl ▸ hn
  rw [List.getElem?_eq_getElem hj'] at this
  simpa using this
abbrev hsAt (n : Nat) (s : Shared) := (hsO n s.heap.objs, s.heap.life, s.gens, s.drawn, s.toks)
theorem hs_open {x : Option Shared} {l : List Obj} {n k : Nat} (h : x.map (hsAt n) = some ((n, l.map some), {}, #[], ⟨0, 0, 0, 0⟩, k)) :
    x.map (fun s => (s.heap, s.gens, s.drawn, s.toks)) = some ((⟨⟨l⟩, {}⟩ : Heap), (#[] : Array GenState), (⟨0, 0, 0, 0⟩ : Drawn), k) := by
  obtain ⟨⟨⟨a, f⟩, g, d, t, o⟩, rfl, e⟩ := Option.map_eq_some_iff.mp h
  simp only [hsAt, Prod.mk.injEq] at e
  obtain ⟨e1, rfl, rfl, rfl, rfl⟩ := e
  cases hs_arr e1
  rfl
theorem hs_run {x : Option Shared} {l : List Obj} {n k : Nat} {os : OsState} (h : x.map (fun s => (hsAt n s, s.os)) = some (((n, l.map some), {}, #[], ⟨0, 0, 0, 0⟩, k), os)) :
    x = some ⟨⟨⟨l⟩, {}⟩, #[], ⟨0, 0, 0, 0⟩, k, os⟩ := by
  obtain ⟨⟨⟨a, f⟩, g, d, t, o⟩, rfl, e⟩ := Option.map_eq_some_iff.mp h
  simp only [hsAt, Prod.mk.injEq] at e
  obtain ⟨⟨e1, rfl, rfl, rfl, rfl⟩, rfl⟩ := e
  cases hs_arr e1
  rfl
abbrev hsP1 : Program := PySem.Challenge.rw_uc0025_01.row.prog
/-- the state behind some statements: the last one, cut short: N objects, the module's names up to K (__name__ NM), the frame's calls up to J -/
noncomputable def hsG (F : Params → Frag) (P : Params) (k : Nat) (nm : Str) (t : Nat) : Obj := match hsF F P 3 with
  | ⟨c, d, .dict es _, s⟩ => ⟨c, d, .dict ⟨(⟨PyData.keyHash P (Str.ofString "__name__"), .str (Str.ofString "__name__") 165, .str nm t⟩ :: (es.toList.drop 1).take k)⟩ (k + 1), s⟩
  | o => o
def hsC (o : Obj) (k : Nat) : Obj := match o with
  | ⟨c, d, .fields vs, s⟩ => ⟨c, d, .fields ⟨vs.toList.take k⟩, s⟩
  | o => o
noncomputable def hsM (F : Params → Frag) (P : Params) (n k : Nat) (nm : Str) (t j : Nat) : List Obj :=
  ((hs1 F P).take 3 ++ hsG F P k nm t :: ((hs1 F P).drop 4).take 25) ++ hsC ((hs1 F P).getD 29 (tabObj #[])) j :: ((hs1 F P).drop 30).take (n - 30)
abbrev hsS1 (l : List Obj) (k : Nat) (os : OsState) : Shared := ⟨⟨⟨l⟩, {}⟩, #[], ⟨0, 0, 0, 0⟩, k, os⟩
noncomputable abbrev hs_a (F : Params → Frag) (P : Params) (os : OsState) := hsS1 (hsM F P 32 9 (Str.ofString "__main__") 164 0) 282 os
noncomputable abbrev hs_A (F : Params → Frag) (P : Params) (os : OsState) := hsS1 (hsM F P 122 22 (Str.ofString "cpy313.wsgiref.headers") 373 30) 479 os
noncomputable abbrev hs_B (F : Params → Frag) (P : Params) (os : OsState) := hsS1 (hsM F P 247 23 (Str.ofString "cpy313.wsgiref.headers") 373 33) 636 os
noncomputable abbrev hs_D (F : Params → Frag) (P : Params) (os : OsState) := hsS1 (hs1 F P) 690 os
noncomputable def hsBody : List Stmt := behindTheImports hsP1
noncomputable abbrev hsEnv : Env := { scope := hsP1.main.scope, locals := mainNs, globals := mainNs, cells := [], code := .ref 30, frame := some 31 }
noncomputable abbrev hsCode : Code := .body (behindTheImports hsP1) hsEnv
abbrev hsp0 : Pos := ⟨0, 0, 0, 0⟩
abbrev hspA : Pos := ⟨57, 0, 65, 20⟩
abbrev hspB : Pos := ⟨66, 0, 147, 93⟩
abbrev hspD : Pos := ⟨182, 0, 207, 57⟩
theorem hs_seg {x : Option (Flow × Shared × Code × Pos)} {f : Flow} {c : Code} {p : Pos} {l : List Obj} {n k : Nat} {os : OsState}
    (h : x.map (fun r => (r.1, hsAt n r.2.1, r.2.1.os, r.2.2)) = some (f, ((n, l.map some), {}, #[], ⟨0, 0, 0, 0⟩, k), os, c, p)) :
    x = some (f, hsS1 l k os, c, p) := by
  obtain ⟨⟨f', ⟨⟨a, lf⟩, g, d, t, o⟩, cp⟩, rfl, e⟩ := Option.map_eq_some_iff.mp h
  simp only [hsAt, Prod.mk.injEq] at e
  obtain ⟨rfl, ⟨e1, rfl, rfl, rfl, rfl⟩, rfl, rfl⟩ := e
  cases hs_arr e1
  rfl
theorem hs_go {x : Option (Shared × Thread)} {th : Thread} {l : List Obj} {n k : Nat} {os : OsState}
    (h : x.map (fun r => (hsAt n r.1, r.1.os, r.2)) = some (((n, l.map some), {}, #[], ⟨0, 0, 0, 0⟩, k), os, th)) : x = some (hsS1 l k os, th) := by
  obtain ⟨⟨⟨⟨a, lf⟩, g, d, t, o⟩, cp⟩, rfl, e⟩ := Option.map_eq_some_iff.mp h
  simp only [hsAt, Prod.mk.injEq] at e
  obtain ⟨⟨e1, rfl, rfl, rfl, rfl⟩, rfl, rfl⟩ := e
  cases hs_arr e1
  rfl
theorem hs_chain {F : Params → Frag} {w : World} {os : OsState}
    (p0 : topGo treeTable hsP1 w 28 (some (.ref 6)) 12 (hsS1 (hs0 w.params) 276 os) (topStub hsP1) = some (hs_a F w.params os, ⟨denote treeTable hsCode, hsCode, hsp0, [topFrame hsp0]⟩))
    (p1 : segRun treeTable hsP1 w 28 (some (.ref 6)) 1 1 (hs_a F w.params os) (blockOf (behindTheImports hsP1) hsEnv hsCode hsp0 [topFrame hsp0]) = some (.next, hs_a F w.params os, hsCode, hsp0))
    (p2 : segRun treeTable hsP1 w 28 (some (.ref 6)) 1 580 (hs_a F w.params os) (piecesOf ((behindTheImports hsP1).take 16) hsEnv hsCode hsp0 [topFrame hsp0]) = some (.next, hs_A F w.params os, hsCode, hspA))
    (p3 : segRun treeTable hsP1 w 28 (some (.ref 6)) 1 728 (hs_A F w.params os) (piecesOf (((behindTheImports hsP1).drop 16).take 1) hsEnv hsCode hspA [topFrame hsp0]) = some (.next, hs_B F w.params os, hsCode, hspB))
    (p4 : segRun treeTable hsP1 w 28 (some (.ref 6)) 1 187 (hs_B F w.params os) (piecesOf (((behindTheImports hsP1).drop 16).drop 1) hsEnv hsCode hspB [topFrame hsp0]) = some (.next, hs_D F w.params os, hsCode, hspD))
    (p5 : topRun treeTable hsP1 w 28 (some (.ref 6)) 2 (hs_D F w.params os) ⟨doneF .next, hsCode, hspD, [topFrame hsp0]⟩ = some (hs_D F w.params os)) :
    topRun treeTable hsP1 w 28 (some (.ref 6)) 1510 (hsS1 (hs0 w.params) 276 os) (topStub hsP1) = some (hs_D F w.params os) := by
  have k5 := piece_nil (env := hsEnv) p5
  have k4 := piece_app p4 k5
  have k3 := piece_app p3 k4
  have k2 := piece_app p2 k3
  rw [List.append_nil, List.take_append_drop, List.take_append_drop] at k2
  have k1 := piece_block p1 k2
  exact go_top p0 k1
section
local macro_rules | `(tactic| o_head $_) => `(tactic| assumption)
/-- the frame's objects, by the library's own line -/
theorem hd0 (h : PySem.Challenge.rw_uc0025_01.row.Holds) : PySem.Challenge.rw_uc0025_01.row.Holds := by
  w_on
  k_head
end
noncomputable abbrev hsK : Params → Frag := Mine.hd0.heap_1
theorem hs_p0 (w : World) (os : OsState) : topGo treeTable hsP1 w 28 (some (.ref 6)) 12 (hsS1 (hs0 w.params) 276 os) (topStub hsP1) = some (hs_a hsK w.params os, ⟨denote treeTable hsCode, hsCode, hsp0, [topFrame hsp0]⟩) := by
  refine hs_go (n := 32) ?_
  simp only [PySem.W.Fast.te14374325043358763698, PySem.W.Fast.te15667345088766844465, PySem.W.Fast.te12563942051412417395, PySem.W.Fast.te1066825118222455980, PySem.W.Fast.te11892475500146522536, PySem.W.Fast.te14364793385576792824, PySem.W.Fast.te14082659384304107361]
  kernel_rfl
theorem hs_p1 (w : World) (os : OsState) : segRun treeTable hsP1 w 28 (some (.ref 6)) 1 1 (hs_a hsK w.params os) (blockOf (behindTheImports hsP1) hsEnv hsCode hsp0 [topFrame hsp0]) = some (.next, hs_a hsK w.params os, hsCode, hsp0) := by
  refine hs_seg (n := 32) ?_
  simp only [PySem.W.Fast.te14374325043358763698, PySem.W.Fast.te15667345088766844465, PySem.W.Fast.te12563942051412417395, PySem.W.Fast.te1066825118222455980, PySem.W.Fast.te11892475500146522536, PySem.W.Fast.te14364793385576792824, PySem.W.Fast.te14082659384304107361]
  kernel_rfl
theorem hs_p2 (w : World) (os : OsState) : segRun treeTable hsP1 w 28 (some (.ref 6)) 1 580 (hs_a hsK w.params os) (piecesOf ((behindTheImports hsP1).take 16) hsEnv hsCode hsp0 [topFrame hsp0]) = some (.next, hs_A hsK w.params os, hsCode, hspA) := by
  refine hs_seg (n := 122) ?_
  simp only [PySem.W.Fast.te14374325043358763698, PySem.W.Fast.te15667345088766844465, PySem.W.Fast.te12563942051412417395, PySem.W.Fast.te1066825118222455980, PySem.W.Fast.te11892475500146522536, PySem.W.Fast.te14364793385576792824, PySem.W.Fast.te14082659384304107361]
  kernel_rfl
theorem hs_p3 (w : World) (os : OsState) : segRun treeTable hsP1 w 28 (some (.ref 6)) 1 728 (hs_A hsK w.params os) (piecesOf (((behindTheImports hsP1).drop 16).take 1) hsEnv hsCode hspA [topFrame hsp0]) = some (.next, hs_B hsK w.params os, hsCode, hspB) := by
  refine hs_seg (n := 247) ?_
  simp only [PySem.W.Fast.te14374325043358763698, PySem.W.Fast.te15667345088766844465, PySem.W.Fast.te12563942051412417395, PySem.W.Fast.te1066825118222455980, PySem.W.Fast.te11892475500146522536, PySem.W.Fast.te14364793385576792824, PySem.W.Fast.te14082659384304107361]
  kernel_rfl
theorem hs_p4 (w : World) (os : OsState) : segRun treeTable hsP1 w 28 (some (.ref 6)) 1 187 (hs_B hsK w.params os) (piecesOf (((behindTheImports hsP1).drop 16).drop 1) hsEnv hsCode hspB [topFrame hsp0]) = some (.next, hs_D hsK w.params os, hsCode, hspD) := by
  refine hs_seg (n := 281) ?_
  simp only [PySem.W.Fast.te14374325043358763698, PySem.W.Fast.te15667345088766844465, PySem.W.Fast.te12563942051412417395, PySem.W.Fast.te1066825118222455980, PySem.W.Fast.te11892475500146522536, PySem.W.Fast.te14364793385576792824, PySem.W.Fast.te14082659384304107361]
  kernel_rfl
theorem hs_p5 (w : World) (os : OsState) : topRun treeTable hsP1 w 28 (some (.ref 6)) 2 (hs_D hsK w.params os) ⟨doneF .next, hsCode, hspD, [topFrame hsp0]⟩ = some (hs_D hsK w.params os) := by
  simp only [PySem.W.Fast.te14374325043358763698, PySem.W.Fast.te15667345088766844465, PySem.W.Fast.te12563942051412417395, PySem.W.Fast.te1066825118222455980, PySem.W.Fast.te11892475500146522536, PySem.W.Fast.te14364793385576792824, PySem.W.Fast.te14082659384304107361]
  kernel_rfl
theorem hs_op (w : World) : (fencedOpening treeTable hsP1 w 3104).map (fun s => (s.heap, s.gens, s.drawn, s.toks)) = some ((⟨⟨hs0 w.params⟩, {}⟩ : Heap), (#[] : Array GenState), (⟨0, 0, 0, 0⟩ : Drawn), 276) := by
  refine hs_open (n := 28) ?_
  unfold fencedOpening
  simp only [PySem.W.Fast.te14364793385576792824, PySem.W.Fast.te10274390034422433532, PySem.W.Fast.te14289696077712309145, PySem.W.Fast.te1435165496053646825]
  kernel_rfl
theorem hs_size (w : World) : ((⟨⟨hs0 w.params⟩, {}⟩ : Heap).isNs mainGlobals && (#[] : Array GenState).size == 0, (⟨⟨hs0 w.params⟩, {}⟩ : Heap).objs.size, (⟨⟨hs0 w.params⟩, {}⟩ : Heap).nsMap mainGlobals "__annotations__") = (true, 28, some (.ref 6)) := by kernel_rfl
theorem hs_l1 (w : World) (os : OsState) : (staticsOk (importedModules hsP1.main.body) ⟨⟨hs0 w.params⟩, {}⟩ ⟨⟨hs1 hsK w.params⟩, {}⟩ && namesBound hsP1 ⟨⟨hs1 hsK w.params⟩, {}⟩ && gensDone (hs_D hsK w.params os) && laidKept ⟨⟨hs0 w.params⟩, {}⟩ ⟨⟨hs1 hsK w.params⟩, {}⟩) = true := by
  unfold staticsOk namesBound laidKept
  simp only [PySem.W.Fast.te5923862056798008813, PySem.W.Fast.te8920871248978507458]
  kernel_rfl
noncomputable abbrev hsX : Shared → Bool := fun s => xlAt Mine.view [] s && recOk (RowW.records PySem.Challenge.rw_uc0025_01.row.toRowW) s
theorem hs_l2 (w : World) (os : OsState) : openSeen Mine.view Mine.loose (importedModules hsP1.main.body) hsX true (hs_D hsK w.params os) = openGood Mine.view Mine.loose := by
  rw [PySem.W.Fast.te4187177175401517315]
  unfold PySem.W.Fast.tw4187177175401517315 openGood
  repeat' (with_reducible refine looks_pair ?_ ?_)
  all_goals (as_aux_lemma => kernel_rfl)
theorem hs_l3 (w : World) (os : OsState) : ((hsK w.params).map fun q => (hs_D hsK w.params os).heap.get? q.1, ([277] : List Addr).map (hs_D hsK w.params os).heap.get?) = ((hsK w.params).map fun p => some p.2, ([277] : List Addr).map fun _ => some (tabObj #[])) := by kernel_rfl
theorem hs_left {as : List Addr} {e : ∀ P, as = (hsK P).map (·.1)} :
    LeftO hsP1 Mine.view Mine.loose hsX (Hook.obs (kmHook hsK as e [277])) (Hook.val (kmHook hsK as e [277])) 3104 true :=
  LeftO.of_pieces (H₀ := fun P => ⟨⟨hs0 P⟩, {}⟩) (H₁ := fun P => ⟨⟨hs1 hsK P⟩, {}⟩) (gs₀ := #[]) (gs₁ := #[]) (d₀ := ⟨0, 0, 0, 0⟩) (d₁ := ⟨0, 0, 0, 0⟩) (k₀ := 276) (k₁ := 690)
    hs_op hs_size (fun w os => hs_chain (hs_p0 w os) (hs_p1 w os) (hs_p2 w os) (hs_p3 w os) (hs_p4 w os) (hs_p5 w os)) (rfl : Nat.ble 1510 3104 = true)
    fun w => funext fun os => looks_pair (hs_l1 w os) (looks_pair (hs_l2 w os) (by
      show (as.map (hs_D hsK w.params os).heap.get?, ([277] : List Addr).map (hs_D hsK w.params os).heap.get?) = ((hsK w.params).map fun p => some p.2, ([277] : List Addr).map fun _ => some (tabObj #[]))
      have h : as.map (hs_D hsK w.params os).heap.get? = (hsK w.params).map fun q => (hs_D hsK w.params os).heap.get? q.1 := by
        rw [e w.params, List.map_map]
        rfl
      rw [h]
      exact hs_l3 w os))
theorem said_row : PySem.Challenge.rw_uc0025_01.row.wellSaid = true := by
  rw [PySem.W.Fast.te17960256430627541270]
  unfold PySem.W.Fast.tw17960256430627541270 PySem.W.Fast.tw2436336058641802641 PySem.W.Fast.tw12908688711261696721
  repeat' (with_reducible refine look_both ?_ ?_)
  all_goals (as_aux_lemma => kernel_rfl)
theorem said_law : PySem.Challenge.rw_uc0025_01.wellSaid = true := by
  rw [PySem.W.Fast.te9446332074065402090]
  unfold PySem.W.Fast.tw9446332074065402090
  repeat' (with_reducible refine look_both ?_ ?_)
  · rw [← PySem.W.Fast.te17960256430627541270]; exact said_row
  all_goals (as_aux_lemma => kernel_rfl)
local macro_rules | `(tactic| o_law) => `(tactic| refine holds_law said_law fun said => ?_)
local macro_rules | `(tactic| o_head $H) => `(tactic| (refine holds_open (q := Mine.view) (loose := Mine.loose) (Xt := fun s => xlAt Mine.view [] s && recOk (RowW.records PySem.Challenge.rw_uc0025_01.row.toRowW) s) (XP := XL Mine.view []) (Yf := Hook.obs $H) (Ya := Hook.val $H) (YP := Hook.says $H) (N := 3104) ?hl (Hook.of $H) (Hook.keeps $H) (fun s e => xl_of s (Bool.and_eq_true_iff.mp e).1) XL.keeps (by rfl) (by rfl) (by rfl) (fun s e => recFacts_of (Bool.and_eq_true_iff.mp e).2) (by rfl) (by first | assumption | decide +kernel) (by decide +kernel) ⟨rfl, rfl, rfl, rfl, rfl, by decide +kernel⟩ ?hw ?hc; (case hl => exact hs_left)))
open_top hd for PySem.Challenge.rw_uc0025_01
end Mine
end

/-! B0 -/
section
open PySem PySem.W PySem.Calls PySem.Spec PyProof.Rows
set_option Elab.async false
set_option maxRecDepth 100000
set_option maxHeartbeats 4000000
namespace Mine

theorem fill (w : World) : hd.heap_1 w.params = hd.heap_1 w.params ∧ PySem.Challenge.rw_uc0025_01.row.prog = PySem.Challenge.rw_uc0025_01.row.prog := by
  k_fill
  exact ⟨rfl, rfl⟩

theorem binds_peek {K : Frag} {s : Shared} {fd : FuncData} {args : Args} {binds : List (Str × Value)} (X : K.In s.heap) (e : ∀ S, peek K S (bindArgs fd args) = some binds) : BindsTo s fd args binds :=
  fun _ _ _ _ hq _ _ _ => wp_of_peek X hq _ (e _)

abbrev Kp (h h' : Heap) : Prop := ∀ b o, h.get? b = some o → h'.get? b = some o

section
variable {prog : Program} {w : World} {A₀ A : Around} {s : Shared} {base h₀ : Heap} {outer : List Env} {L : Addr} {m : Str → Option Value} {env : Env} {news : List (Addr × Obj)}
  {K : Frag} {p : Program} {loose : List Str} {mean : ExcName → Option Value} {mg mb : Str → Option Value} {R : Result → Shared → Prop} {name qual : Str} {params : Arguments} {body : List Stmt} {scope : Scope} {dV kV doc pm cdv ct oc : Value} {an od : Option Addr} {osl : Array (Option Value)} {f : Addr} {args : Args} {binds : List (Str × Value)}

theorem enterP (B : Below A₀ base outer h₀) (F : Fr h₀ L s.heap m) (X₀ : K.In h₀) (N : News h₀ L s.heap news) (T : Top p loose mean mg mb h₀) (hA : A.frames = some (env :: outer)) (hf : env.frame = some L) (hke : env.scope.kind = .function)
    (ho : K.lookup f = some ⟨oc, od, .func (fnOf name qual params body scope dV kV doc pm an cdv ct), osl⟩) (hcd : codeIn K cdv qual = true) (hroom : A.depth < recursionLimit)
    (hbind : BindsTo s (fnOf name qual params body scope dV kV doc pm an cdv ct) args binds) (hloc : ∀ y ∈ binds, scope.names.lookup y.1 = some .local)
    (h : ∀ g L' h₁, Fr h₀ L g m → Fr g L' h₁ (fun y => binds.reverse.lookup y) → News g L' h₁ news → Below A base (env :: outer) g → K.In g → Top p loose mean mg mb g → GSub s.heap g (news.map (·.1)) →
      wpAny (model prog w) (A.deeper (envOf qual scope L' f cdv)) (execs body (envOf qual scope L' f cdv))
        (fun fl s' => R (.ok (.ret (match fl with | .ret v => v | _ => .none))) s')
        (fun e s' => wpAny (model prog w) (A.deeper (envOf qual scope L' f cdv)) (leaving (envOf qual scope L' f cdv) e) (fun _ s'' => R (.error e) s'') (fun e' s'' => R (.error e') s'') s')
        { s with heap := h₁, toks := s.toks + binds.length })
    (hco : scope.isCoroutine = false) (hgen : scope.isGenerator = false) (hk : scope.kind = .function)
    (hcell : ∀ x ∈ scope.names, x.2 ≠ .cell) : codeAny (model prog w) A (.call (.ref f) args) R s := by
  obtain ⟨FG, BG, st, _⟩ := groundX (R := R) B F N hA hf hke
  refine codeAny_call_def (fd := fnX name qual params body scope [] dV kV doc pm an cdv ct) (body := body) (binds := binds) hroom ((X₀.keeps F.keep) _ _ ho) rfl (T.nolimit.keeps F.keep) (codeRec_of (X₀.keeps F.keep) hcd) rfl hbind hcell hloc (fun h₁ hns hk₁ => ?_) hco hgen hk
  exact h _ s.heap.objs.size h₁ FG ⟨hns, fun b o e => hk₁ b o (of_hideAll _ e), Nat.le_of_eq (hideAll_size _ _)⟩
    (fun p hp => ⟨hk₁ _ _ (N p hp).1, Nat.ne_of_lt (Heap.lt_size (N p hp).1), hideAll_none _ (List.mem_map_of_mem hp)⟩) BG (X₀.keeps st) (T.keeps st) (fun b o e n => hideAll_get _ e n)

theorem enterC (B : Below A₀ base outer h₀) (F : Fr h₀ L s.heap m) (X₀ : K.In h₀) (N : News h₀ L s.heap news) (T : Top p loose mean mg mb h₀) (hA : A.frames = some (env :: outer)) (hf : env.frame = some L) (hke : env.scope.kind = .function)
    (ho : K.lookup f = some ⟨oc, od, .func (fnOf name qual params body scope dV kV doc pm an cdv ct), osl⟩) (hcd : codeIn K cdv qual = true) (hroom : A.depth < recursionLimit)
    (hbind : BindsTo s (fnOf name qual params body scope dV kV doc pm an cdv ct) args binds) (hkind : (binds.all fun y => scope.names.lookup y.1 == some .local || scope.names.lookup y.1 == some .cell) = true)
    (hnd : ((cellsFrom 0 scope.names []).map (·.1)).Nodup)
    (h : ∀ g L' h₁ tk cells, Fr h₀ L g m → Fr g L' h₁ (bindL (envOfC qual scope L' f cdv).kindOf binds fun _ => none) → News g L' h₁ (cells ++ news) →
      CellsAre (bindC (envOfC qual scope L' f cdv).kindOf binds fun _ => none) (cellsFrom (L' + 1) scope.names []) cells → Below A base (env :: outer) g → K.In g → Top p loose mean mg mb g → (∀ p ∈ news, p.1 < L') → GSub s.heap g (news.map (·.1)) →
      wpAny (model prog w) (A.deeper (envOfC qual scope L' f cdv)) (execs body (envOfC qual scope L' f cdv))
        (fun fl s' => R (.ok (.ret (match fl with | .ret v => v | _ => .none))) s')
        (fun e s' => wpAny (model prog w) (A.deeper (envOfC qual scope L' f cdv)) (leaving (envOfC qual scope L' f cdv) e) (fun _ s'' => R (.error e) s'') (fun e' s'' => R (.error e') s'') s')
        { s with heap := h₁, toks := tk })
    (hco : scope.isCoroutine = false) (hgen : scope.isGenerator = false) (hk : scope.kind = .function) : codeAny (model prog w) A (.call (.ref f) args) R s := by
  obtain ⟨FG, BG, st, _⟩ := groundX (R := R) B F N hA hf hke
  refine codeAny_call_function hroom ((X₀.keeps F.keep) _ _ ho) rfl hco hgen rfl (codeRec_of (X₀.keeps F.keep) hcd) (hbind _ _ _ _ ?_)
  refine wpAny_newFunctionEnv_cells hk (kindsX hkind _) fun env' he s' x => ?_
  subst he
  refine ⟨(T.nolimit.keeps F.keep).keeps x.toInCall.keep, codeAny_func ?_⟩
  obtain ⟨h₁, tk, rfl, _⟩ := x.done
  have hk₁ := x.toInCall.keep
  obtain ⟨cells, NC, Y⟩ := Cl.news (h₀ := s.heap) (Nat.le_refl _) fun n c hm => ⟨x.cell n c (lookup_of_mem_nodup (cellsFrom_names scope.names 0 (s.heap.objs.size + 1) [] [] rfl ▸ hnd) hm), x.above n c hm⟩
  refine h _ s.heap.objs.size h₁ tk cells FG ⟨x.toInCall.ns, fun b o e => hk₁ b o (of_hideAll _ e), Nat.le_of_eq (hideAll_size _ _)⟩ (fun p hp => ?_) Y BG (X₀.keeps st) (T.keeps st) (fun p hp => Heap.lt_size (N p hp).1) (fun b o e n => hideAll_get _ e n)
  rcases List.mem_append.mp hp with hp | hp
  · refine ⟨(NC p hp).1, (NC p hp).2.1, ?_⟩
    cases q : (hideAll s.heap (news.map (·.1))).get? p.1 with
    | none => rfl
    | some o => have := of_hideAll _ q; rw [(NC p hp).2.2] at this; cases this
  · exact ⟨hk₁ _ _ (N p hp).1, Nat.ne_of_lt (Heap.lt_size (N p hp).1), hideAll_none _ (List.mem_map_of_mem hp)⟩
end

theorem list_up {H g h : Heap} {adr : List Addr} {L l : Addr} {m : Str → Option Value} {vs : Array Value} (hl : H.IsList l vs) (G : GSub H g adr) (F : Fr g L h m) (hn : l ∉ adr) : h.IsList l vs :=
  hl.at fun o e => F.keep l o (G l o e hn)
section
variable {prog : Program} {w : World} {A : Around} {E : Value → Shared → Prop} {s : Shared} {l : Addr} {vs : List Value} {k : Int} {u : Tok} {v : Value} {Q : Value → Shared → Prop}
theorem my_item {value slice : PySem.Expr} {j : Nat} (hl : s.heap.IsList l vs.toArray) (hx : vs[j]? = some v) (hk : k = (j : Int)) (hn : vs.length < 2 ^ 62) (h : Q v s)
    (hs : subscripted slice false (.ref l) (.int k u) = operate [.ref l, .int k u] (getItem (.ref l) (.int k u)) := by with_unfolding_all rfl) :
    wpAny (model prog w) A (subscriptTail value slice (.ref l) (.int k u)) Q E s := by
  subst hk
  have hj : j < vs.length := by
    rcases Nat.lt_or_ge j vs.length with h | h
    · exact h
    · rw [List.getElem?_eq_none h] at hx; cases hx
  exact tail_any hl.typeIs slot_list_getitem.lookup (wpAny_getItem_list hl (by omega) (by omega) (by simpa using hx) h) hs
end

section
variable {prog : Program} {w : World} {A : Around} {E : Value → Shared → Prop} {s : Shared} {l : Addr} {vs : List Value} {Q : Value → Shared → Prop}
theorem my_len (hl : s.heap.IsList l vs.toArray) (hfit : vs.length < 2 ^ 62) (h : ∀ t tk, Q (.int (vs.length : Int) t) { s with toks := tk }) :
    wpAny (model prog w) A (call (.builtin "len") [.ref l]) Q E s :=
  len_list hl (by simp; omega) (by simpa using h _ _)
end

def Stop (P : Prop) : Prop := P
theorem stopHere {P : Prop} (h : Stop P) : P := h

theorem fr_kp {g h h' : Heap} {L : Addr} {m : Str → Option Value} (F : Fr g L h m) (k : Kp h h') : Fr g L h' m := F.keeps k
theorem news_kp {g h h' : Heap} {L : Addr} {news : List (Addr × Obj)} (N : News g L h news) (k : Kp h h') : News g L h' news := N.grown k
theorem fnAt_kp {h h' : Heap} {q : Addr} (x : FnAt q h) (k : Kp h h') : FnAt q h' := let ⟨oc, od, fd, sl, e⟩ := x; ⟨oc, od, fd, sl, k _ _ e⟩
theorem fnAt_up {H g h : Heap} {adr : List Addr} {L q : Addr} {m : Str → Option Value} (x : FnAt q H) (G : GSub H g adr) (F : Fr g L h m) (hn : q ∉ adr) : FnAt q h :=
  let ⟨oc, od, fd, sl, e⟩ := x; ⟨oc, od, fd, sl, F.keep _ _ (G _ _ e hn)⟩
theorem kp_up {H g h : Heap} {L : Addr} {m : Str → Option Value} (G : GSub H g []) (F : Fr g L h m) : Kp H h := fun b o e => F.keep b o (G b o e (by simp))

abbrev KeySpec (w : World) (p : Program) (loose : List Str) (mean : ExcName → Option Value) (mg mb : Str → Option Value) (H : Heap) (f v : Value) (Y : Tok → Value) : Prop :=
  ∀ {dp un : Nat} {gd : Option (List Code)} {cn : Str} {cs : Scope} {a : Addr} {ccd : Value} {cl : List (Str × Addr)} {outer : List Env} {A₀ : Around} {base h₀ : Heap} {L : Addr} {m : Str → Option Value} {s : Shared} {Q E : Value → Shared → Prop},
    Below A₀ base outer h₀ → Fr h₀ L s.heap m → (hd.heap_1 w.params).In h₀ → Top p loose mean mg mb h₀ → cs.kind = .function → dp + 10 < recursionLimit → un + 100 < cLine → Kp H s.heap →
    (∀ (t : Tok) (h' : Heap) (tk' : Nat), Kp s.heap h' → Q (Y t) { s with heap := h', toks := tk' }) →
    wpAny (model PySem.Challenge.rw_uc0025_01.row.prog w) (ktrTop dp un gd cn cs L a ccd cl outer) (call f [v]) Q E s
theorem room_le {dp a b R : Nat} (h : dp + a < R) (e : Nat.ble (1 + b) a = true) : dp + 1 + b < R :=
  Nat.lt_of_le_of_lt (by rw [Nat.add_assoc]; exact Nat.add_le_add_left (Nat.le_of_ble_eq_true e) _) h
theorem units_le {un a b R : Nat} (h : un + a < R) (e : Nat.ble (3 + b) a = true) : un + 3 + b < R :=
  Nat.lt_of_le_of_lt (by rw [Nat.add_assoc]; exact Nat.add_le_add_left (Nat.le_of_ble_eq_true e) _) h
end Mine
end

/-! L1 -/
section
open PySem PySem.W PySem.Calls PySem.Spec PyProof.Rows
open PySem.AutoSeq1 (wpAny_loadPart')
open PySem.MeetsSeq PySem.MeetsSeq3
set_option Elab.async false
set_option maxRecDepth 100000
set_option maxHeartbeats 4000000
namespace Mine

theorem lt1_loop1 (l b : Addr) (items items2 : Array Value) (n n2 : Nat) (h1 : items.size = 1) (h2 : items2.size = 1) : Meets (Builtin.«list.__eq__.loop» ⟨[.ref l, .ref b, rawInt (0 + 1), rawInt 0], []⟩)
      (fun _ R s => s.heap.get? l = some { cls := .type "list", dict := none, data := .seq items n, slots := #[] } ∧ s.heap.get? b = some { cls := .type "list", dict := none, data := .seq items2 n2, slots := #[] } ∧
        R (.ok (.ret (.bool false))) s) := by
  intro prog w A R s h
  obtain ⟨hp, g, d, tk, os⟩ := s; obtain ⟨hl, hb, h⟩ := h
  have e1 : items[((0 : Int) + 1).toNat]? = none := by simp; omega
  have e2 : items2[((0 : Int) + 1).toNat]? = none := by simp; omega
  wp_walk using wpAny_loadPart' hl, wpAny_loadPart' hb
  rw [e1, e2]
  wp_walk using wpAny_loadPart' hl, wpAny_loadPart' hb
  show R (.ok (.ret (.bool (decide (items.size < items2.size))))) _
  rw [h1, h2]
  exact h

theorem lt1_loop (l b : Addr) (items items2 : Array Value) (x y : Int) (t u : Tok) (n n2 : Nat) (h1 : items.size = 1) (h2 : items2.size = 1) (g1 : items[0]? = some (.int x t)) (g2 : items2[0]? = some (.int y u)) :
    Meets (Builtin.«list.__eq__.loop» ⟨[.ref l, .ref b, rawInt 0, rawInt 0], []⟩)
      (fun _ R s => s.heap.get? l = some { cls := .type "list", dict := none, data := .seq items n, slots := #[] } ∧ s.heap.get? b = some { cls := .type "list", dict := none, data := .seq items2 n2, slots := #[] } ∧
        R (.ok (.ret (.bool (decide (x < y))))) s) := by
  intro prog w A R s h
  obtain ⟨hp, g, d, tk, os⟩ := s; obtain ⟨hl, hb, h⟩ := h
  have e1 : items[(0 : Int).toNat]? = some (.int x t) := g1
  have e2 : items2[(0 : Int).toNat]? = some (.int y u) := g2
  wp_walk using wpAny_loadPart' hl, wpAny_loadPart' hb
  rw [e1, e2]
  refine wpAny_bind (EqGives.int x y t u prog w _ _ _ _ ?_)
  by_cases e : x = y
  · rw [show (x == y) = true by simp [e]]
    wp_walk
    refine ⟨plainId_quiet plain_eq_loop _, codeAny_builtin entry_eq_loop (by
      rw [Around.under_plainId plain_eq_loop _]
      refine lt1_loop1 l b items items2 n n2 h1 h2 prog w A R _ ⟨hl, hb, ?_⟩
      subst e
      simpa using h)⟩
  · rw [show (x == y) = false by simp [e]]
    wp_walk using wpAny_loadPart' hl, wpAny_loadPart' hb
    rw [e1, e2]
    refine wpAny_bind (wpAny_lt_int (a := x) (b := y) (t := t) (u := u) ?_)
    wp_walk
    exact h

theorem list_lt1 (l b : Addr) (items items2 : Array Value) (x y : Int) (t u : Tok) (n n2 : Nat) (h1 : items.size = 1) (h2 : items2.size = 1) (g1 : items[0]? = some (.int x t)) (g2 : items2[0]? = some (.int y u)) :
    Meets (Builtin.«list.__lt__» ⟨[.ref l, .ref b], []⟩)
      (fun _ R s => s.heap.get? l = some { cls := .type "list", dict := none, data := .seq items n, slots := #[] } ∧ s.heap.get? b = some { cls := .type "list", dict := none, data := .seq items2 n2, slots := #[] } ∧
        R (.ok (.ret (.bool (decide (x < y))))) s) := by
  intro prog w A R s h
  obtain ⟨hp, g, d, tk, os⟩ := s; obtain ⟨hl, hb, h⟩ := h
  have f3 := AutoSeq1.sub_list_list
  wp_walk using wpAny_loadPart' hl, wpAny_loadPart' hb
  exact ⟨plainId_quiet plain_eq_loop _, codeAny_builtin entry_eq_loop (by
    rw [Around.under_plainId plain_eq_loop _]
    exact lt1_loop l b items items2 x y t u n n2 h1 h2 g1 g2 prog w A R _ ⟨hl, hb, h⟩)⟩

theorem my_lt1 {prog : Program} {w : World} {A : Around} {E : Value → Shared → Prop} {s : Shared} {l b : Addr} {x y : Int} {t u : Tok} {n n2 : Nat} {Q : Value → Shared → Prop}
    (hl : s.heap.get? l = some (listOf #[.int x t] n)) (hb : s.heap.get? b = some (listOf #[.int y u] n2)) (hu : A.units < cLine) (h : Q (.bool (decide (x < y))) s) :
    wpAny (model prog w) A (compareOp .Lt (.ref l) (.ref b)) Q E s := by
  show wpAny _ _ (richCompare .Lt (.ref l) (.ref b)) Q E s
  exact richCompare_meets_room (op := .Lt) ⟨_, hl, rfl⟩ ⟨_, hb, rfl⟩ F.slot_list_lt F.entry_list_lt (F.args_list_lt_2 _ _) (list_lt1 l b _ _ x y t u n n2 rfl rfl rfl rfl)
    ⟨hl, hb, show Value.bool (decide (x < y)) ≠ Value.notImplemented ∧ Q _ s from ⟨(fun x => nomatch x), h⟩⟩ hu
end Mine
end

/-! L2 -/
section
open PySem PySem.W PySem.Calls PySem.Spec PyProof.Rows
set_option Elab.async false
set_option maxRecDepth 100000
set_option maxHeartbeats 4000000
namespace Mine
abbrev LL (h : Heap) (l : Addr) (vs : List Value) : Prop := h.PlainList l vs.toArray
abbrev Kx (W : List Addr) (h h' : Heap) : Prop := ∀ b o, h.get? b = some o → b ∉ W → h'.get? b = some o
theorem Kp.kx {h h' : Heap} {W : List Addr} (k : Kp h h') : Kx W h h' := fun b o e _ => k b o e
theorem Kx.trans {h h' h'' : Heap} {W : List Addr} (k : Kx W h h') (k' : Kx W h' h'') : Kx W h h'' := fun b o e n => k' b o (k b o e n) n
theorem Kp.trans {h h' h'' : Heap} (k : Kp h h') (k' : Kp h' h'') : Kp h h'' := fun b o e => k' b o (k b o e)
theorem Kx.same {h h' : Heap} {l : Addr} (hs : Heap.SameBut l h h') : Kx [l] h h' := fun b o e n => hs.extBut b o (fun q => n (by simp [q])) e
theorem Kx.more {h h' : Heap} {W W' : List Addr} (k : Kx W h h') (hs : ∀ b ∈ W, b ∈ W') : Kx W' h h' := fun b o e n => k b o e fun q => n (hs b q)
theorem fr_kx {g h h' : Heap} {L : Addr} {W : List Addr} {m : Str → Option Value} (F : Fr g L h m) (k : Kx W h h') (hW : ∀ b ∈ W, g.get? b = none ∧ b ≠ L) : Fr g L h' m := by
  obtain ⟨oL, es, ep, hL, r⟩ := F.ns
  exact ⟨⟨oL, es, ep, k _ _ hL (fun q => (hW _ q).2 rfl), r⟩, fun b o e => k _ _ (F.keep b o e) (fun q => by rw [(hW _ q).1] at e; cases e), F.above⟩
theorem LL.kp {h h' : Heap} {l : Addr} {vs : List Value} (x : LL h l vs) (k : Kp h h') : LL h' l vs := x.at fun _ e => k _ _ e
theorem LL.kx {h h' : Heap} {l : Addr} {vs : List Value} {W : List Addr} (x : LL h l vs) (k : Kx W h h') (hn : l ∉ W) : LL h' l vs := x.at fun _ e => k _ _ e hn
theorem LL.of_news {g h : Heap} {L l : Addr} {vs : List Value} {n : Nat} {news : List (Addr × Obj)} (N : News g L h news) (hm : (l, listOf vs.toArray n) ∈ news) : LL h l vs := ⟨n, (N _ hm).1⟩
theorem kx_up {H g h : Heap} {L : Addr} {m : Str → Option Value} {W : List Addr} (G : GSub H g W) (F : Fr g L h m) : Kx W H h := fun b o e n => F.keep b o (G b o e n)
theorem none_news {g h : Heap} {L : Addr} {news : List (Addr × Obj)} (N : News g L h news) : ∀ b ∈ news.map (·.1), g.get? b = none ∧ b ≠ L := fun b hb => by
  obtain ⟨p, hp, rfl⟩ := List.mem_map.mp hb
  exact ⟨(N p hp).2.2, (N p hp).2.1⟩
theorem kp_full {H g h : Heap} {L : Addr} {m : Str → Option Value} {news : List (Addr × Obj)} (G : GSub H g (news.map (·.1))) (F : Fr g L h m) (N : News g L h news) (hH : ∀ p ∈ news, H.get? p.1 = some p.2) : Kp H h := fun b o e => by
  by_cases hb : b ∈ news.map (·.1)
  · obtain ⟨p, hp, rfl⟩ := List.mem_map.mp hb
    rw [hH p hp] at e
    cases e
    exact (N p hp).1
  · exact F.keep b o (G b o e hb)
theorem keySpec_up {w : World} {p : Program} {loose : List Str} {mean : ExcName → Option Value} {mg mb : Str → Option Value} {H H' : Heap} {f v : Value} {Y : Tok → Value} (x : KeySpec w p loose mean mg mb H f v Y) (k : Kp H H') : KeySpec w p loose mean mg mb H' f v Y :=
  fun B F X T hk hd hu k' hret => x B F X T hk hd hu (Kp.trans k k') hret
theorem LL.inj {h : Heap} {l : Addr} {vs vs' : List Value} (x : LL h l vs) (y : LL h l vs') : vs = vs' := by
  obtain ⟨n, e⟩ := x; obtain ⟨n', e'⟩ := y
  rw [e] at e'
  injection e' with e'
  injection e' with _ _ e' _
  injection e' with e' _
  simpa using congrArg Array.toList e'

section
variable {prog : Program} {w : World} {A : Around} {E : Value → Shared → Prop} {s : Shared} {l : Addr} {vs : List Value} {u : Tok} {y : Value}
theorem myRoom {vs : List Value} (hn : vs.length < 2 ^ 20) : vs.toArray.size ≤ sizeLine := by
  have e := sizeLine_eq
  rw [List.size_toArray]
  omega
theorem insert_LL' {x : Int} {Q : Value → Shared → Prop} (hl : LL s.heap l vs) (hf : Builtin.List.listFitsIndex x = true) (hz : vs.toArray.size ≤ sizeLine)
    (h : ∀ h', LL h' l (kl_ins vs x y) → Kx [l] s.heap h' → Q .none { s with heap := h' }) :
    wpAny (model prog w) A (call (.builtin "list.insert") [.ref l, .int x u, y]) Q E s := by
  obtain ⟨n, ho⟩ := hl
  refine call_meets PySem.F.slot_list_insert ⟨_, ho, rfl⟩ PySem.F.entry_list_insert (PySem.F.args_list_insert_3 _ _ _) (PySem.AutoSeq1.list_insert_list_int_val_1 l _ n x u y (by simp [hf]) hz) ⟨ho, h _ ?_ (Kx.same (Heap.SameBut.update ..))⟩
  have q := PySem.IsL.update (n := n) ho (fun xs => have k := if x < 0 then (x + (xs.size : Int)).toNat else min x.toNat xs.size; (xs.extract 0 k).push y ++ xs.extract k)
  have e : ∀ f : Array Value → Array Value, f = (fun xs => have k := if x < 0 then (x + (xs.size : Int)).toNat else min x.toNat xs.size; (xs.extract 0 k).push y ++ xs.extract k) → f vs.toArray = (kl_ins vs x y).toArray := by
    rintro f rfl
    show (vs.toArray.extract 0 (if x < 0 then (x + (vs.toArray.size : Int)).toNat else min x.toNat vs.toArray.size)).push y ++ vs.toArray.extract (if x < 0 then (x + (vs.toArray.size : Int)).toNat else min x.toNat vs.toArray.size) = _
    rw [kl_ins_eq, List.size_toArray]
    rfl
  exact ⟨_, (e _ rfl) ▸ q⟩
theorem fits_small {x : Int} (h0 : 0 ≤ x) (h1 : x < 2 ^ 62) : Builtin.List.listFitsIndex x = true := by
  show (decide _ && decide _) = true
  simp; omega
theorem insert_LL {j : Nat} {Q : Value → Shared → Prop} (hl : LL s.heap l vs) (hj : j ≤ vs.length) (hn : vs.length < 2 ^ 20)
    (h : ∀ h', LL h' l (vs.take j ++ y :: vs.drop j) → Kx [l] s.heap h' → Q .none { s with heap := h' }) :
    wpAny (model prog w) A (call (.builtin "list.insert") [.ref l, .int (j : Int) u, y]) Q E s := by
  refine insert_LL' hl (fits_small (by omega) (by omega)) (myRoom hn) fun h' hl' hk => h h' ?_ hk
  have e : (if (j : Int) < 0 then ((j : Int) + (vs.length : Int)).toNat else min (j : Int).toNat vs.length) = j := by
    rw [if_neg (by omega)]; omega
  unfold kl_ins at hl'
  rw [e] at hl'
  exact hl'
theorem append_LL {Q : Value → Shared → Prop} (hl : LL s.heap l vs) (hn : vs.length < 2 ^ 20)
    (h : ∀ h', LL h' l (vs ++ [y]) → Kx [l] s.heap h' → Q .none { s with heap := h' }) :
    wpAny (model prog w) A (call (.builtin "list.append") [.ref l, y]) Q E s :=
  wpAny_list_append_plain hl (fun h' x hs => h h' (by simpa using x) (Kx.same hs)) (myRoom hn)
theorem set_LL' {k : Int} {Q : Unit → Shared → Prop} (hl : LL s.heap l vs) (h0 : 0 ≤ k) (hfit : k < 2 ^ 63) (hj : k.toNat < vs.length)
    (hQ : ∀ h', LL h' l (vs.set k.toNat y) → Kx [l] s.heap h' → Q () { s with heap := h' }) :
    wpAny (model prog w) A (setItem (.ref l) (.int k u) y) Q E s := by
  obtain ⟨ne, ho⟩ := id hl
  have hl' : s.heap.IsList l vs.toArray := hl.isList
  unfold setItem
  try with_reducible refine wpAny_holding ?_
  first | refine wpAny_bind (wpAny_pure ?_) | skip
  refine wpAny_bind (wpAny_sequenceKey hl'.typeIs (by decide) ?_)
  refine wpAny_bind (wpAny_callSpecial?_slot (name := Str.ofString "__setitem__") hl'.typeIs slot_list_setitem
    (wpAny_call_entry slot_list_setitem hl'.typeIs entry_list_setitem ?_ (args_list_setitem _ _ _)))
  show wpAny _ _ (Builtin.List.listSubscript? (.int k u) >>= _) _ _ s
  refine wpAny_bind (wpAny_listSubscript_int (fitsIndex_of h0 hfit) ?_)
  clear hfit
  obtain ⟨j, rfl⟩ := Int.eq_ofNat_of_zero_le h0
  have hj' : j < vs.length := hj
  have hx' : vs.toArray[j]? = some vs[j] := by simp [hj']
  show wpAny _ _ ((seqItemAt l j >>= fun r => pure (r.map (j, ·))) >>= _) _ _ s
  refine wpAny_bind (wpAny_bind (wpAny_seqItemAt ho rfl (wpAny_pure ?_)))
  rw [hx']
  show wpAny _ _ (setSeqItemAt l j y >>= _) _ _ s
  have hfin : LL (s.heap.update l (Obj.mapSeq (·.setIfInBounds j y))) l (vs.set j y) := by
    have q := PySem.IsL.update (n := ne) ho (·.setIfInBounds j y)
    have e : vs.toArray.setIfInBounds j y = (vs.set j y).toArray := by simp
    rw [e] at q
    exact ⟨_, q⟩
  refine wpAny_bind (wpAny_setSeqItemAt (items := vs.toArray) (n := ne) ho rfl ?_)
  first
    | exact wpAny_bind (wpAny_pure (wpAny_pure ⟨.none, rfl, wpAny_pure (hQ _ hfin (Kx.same (Heap.SameBut.update ..)))⟩))
    | exact wpAny_pure ⟨.none, rfl, wpAny_pure (hQ _ hfin (Kx.same (Heap.SameBut.update ..)))⟩
theorem set_LL {j : Nat} {Q : Unit → Shared → Prop} (hl : LL s.heap l vs) (hj : j < vs.length) (hn : vs.length < 2 ^ 20)
    (hQ : ∀ h', LL h' l (vs.set j y) → Kx [l] s.heap h' → Q () { s with heap := h' }) :
    wpAny (model prog w) A (setItem (.ref l) (.int (j : Int) u) y) Q E s :=
  set_LL' hl (by omega) (by omega) (by simpa using hj) (by simpa using hQ)
end
end Mine
end

/-! L3 -/
section
open PySem PySem.W PySem.Calls PySem.Spec PyProof.Rows
set_option Elab.async false
set_option maxRecDepth 100000
set_option maxHeartbeats 4000000
namespace Mine
section
variable {prog : Program} {w : World} {A : Around} {s : Shared} {env : Env} {g : Heap} {R : Result → Shared → Prop} {l : Addr} {vs : List Value} {m : Str → Option Value}

def TurnEnd (g : Heap) (L : Addr) (s : Shared) (its : List (Addr × Obj)) (J : (Str → Option Value) → Prop) (R : Result → Shared → Prop) (f : Flow) (s₂ : Shared) : Prop :=
  match f with
  | .ret v => R (.ok (.ret v)) s₂
  | .next => ∃ h' tk' m', s₂ = { s with heap := h', toks := tk' } ∧ Fr g L h' m' ∧ News g L h' its ∧ J m'
  | _ => False

theorem for_enum {xi xv : Str} {pi pv pt : Pos} {x1} {body orelse : List Stmt} {e it : Addr}
    (hh : A.handled = none) (hxi : env.kindOf xi = some .local) (hxv : env.kindOf xv = some .local)
    (hp : (env.scope.kind == .class || (env.scope.kind == .module && env.locals != env.globals)) = false)
    (F : Fr g env.locals s.heap m) (he : IsEnum s.heap e it 0 .none) (hit : s.heap.IsListIter it l 0) (hl : g.IsList l vs.toArray)
    (hei : e ≠ it) (hge : g.get? e = none) (hgi : g.get? it = none) (heL : e ≠ env.locals) (hiL : it ≠ env.locals)
    (J : Nat → (Str → Option Value) → Prop) (h0 : J 0 m) (hend : ∀ m, ¬ J vs.length m)
    (step : ∀ i v tk tk2 m₁ h eo ito, vs[i]? = some v → J i m₁ → Fr g env.locals h (fun y => if y = xv then some v else if y = xi then some (.int (i : Int) tk) else m₁ y) → News g env.locals h [(e, eo), (it, ito)] →
      wpAny (model prog w) A (execs body env) (TurnEnd g env.locals s [(e, eo), (it, ito)] (J (i + 1)) R) (fun _ _ => False) { s with heap := h, toks := tk2 }) :
    codeAny (model prog w) A (.forLoop (.Tuple [.Name xi pi, .Name xv pv] x1 pt) (.ref e) body orelse env) R s := by
  have hle : l ≠ e := fun q => by obtain ⟨o, ho, _⟩ := hl; rw [q, hge] at ho; cases ho
  have hli : l ≠ it := fun q => by obtain ⟨o, ho, _⟩ := hl; rw [q, hgi] at ho; cases ho
  refine codeAny_forLoop_any
    (fun k s' => ∃ h' tk m' i old, s' = { s with heap := h', toks := tk } ∧ IsEnum h' e it ((i : Nat) : Int) old ∧ h'.IsListIter it l i ∧ Fr g env.locals h' m' ∧ J i m' ∧ i ≤ vs.length ∧
      k = vs.length + 1 - i) ?_ (vs.length + 1) ⟨s.heap, s.toks, m, 0, .none, rfl, he, hit, F, h0, Nat.zero_le _, rfl⟩
  rintro k s' zz
  refine exE5 zz fun H tk m' i old jj => andE7 jj fun ez5 he' hit' F' hJ hi ez11 => ?_
  clear jj zz
  subst ez5
  subst ez11
  have hl' : H.IsList l vs.toArray := hl.at fun o e => F'.keep l o e
  by_cases hil : i = vs.length
  · subst hil; exact absurd hJ (hend _)
  have hlt : i < vs.length := by omega
  obtain ⟨v, hv⟩ : ∃ v, vs[i]? = some v := ⟨_, List.getElem?_eq_getElem hlt⟩
  have hv' : vs.toArray[i]? = some v := by simpa using hv
  have heH : e < H.objs.size := Heap.lt_size he'
  have hLH : env.locals < H.objs.size := F'.ns.lt
  have hiH : it < H.objs.size := by obtain ⟨oi, hoi, _⟩ := id hit'; exact Heap.lt_size hoi
  refine wpAny_pyNext_enum_item he' hit' hl' hv' hei fun h₁ heo hit₁ ht₁ hz₁ hk₁ => ?_
  refine wpAny_letOwnedTupleGo_enum heo fun h₂ he₂ hs₂ => ?_
  replace hs₂ : Heap.SameBut e h₁ h₂ := hs₂
  have ht₂ : h₂.IsTuple H.objs.size #[.int i tk, v] := ⟨_, (hs₂.2 _ (Nat.ne_of_gt heH)).trans ht₁, rfl, _, rfl⟩
  have hz₂ : h₂.objs.size = H.objs.size + 1 := hs₂.1.trans hz₁
  refine wpAny_assign_Tuple hh ht₂ rfl rfl fun h₃ hx₃ => ?_
  replace hx₃ : Heap.ExtBut h₂.objs.size h₂ h₃ := hx₃
  have old₃ : ∀ b o, b < H.objs.size → h₂.get? b = some o → h₃.get? b = some o := fun b o hb x => hx₃ b o (by rw [hz₂]; exact Nat.ne_of_lt (Nat.lt_succ_of_lt hb)) x
  have hn₃ : h₃.Ns env.locals m' := ((F'.ns.at fun o x => hk₁ _ o (Ne.symm heL) (Ne.symm hiL) x).sameBut hs₂ (Ne.symm heL)).at fun o x => old₃ _ o hLH x
  show wpAny _ A (do holding [v] (assign (.Name xi pi) env (.int i tk)); do holding [] (assign (.Name xv pv) env v); pure ()) _ _ _
  refine wpAny_bind (wpAny_holding (wpAny_assign_Name (wpAny_storeName_local hxi hn₃ (fun h₄ hn₄ hs₄ => ?_) hp)))
  replace hs₄ : Heap.SameBut env.locals h₃ h₄ := hs₄
  refine wpAny_bind (wpAny_holding (wpAny_assign_Name (wpAny_storeName_local hxv hn₄ (fun h₅ hn₅ hs₅ => wpAny_pure ?_) hp)))
  replace hs₅ : Heap.SameBut env.locals h₄ h₅ := hs₅
  have up : ∀ b o, b ≠ env.locals → b < H.objs.size → h₂.get? b = some o → h₅.get? b = some o := fun b o hbL hb x =>
    hs₅.extBut b o hbL (hs₄.extBut b o hbL (old₃ b o hb x))
  have F₅ : Fr g env.locals h₅ (fun y => if y = xv then some v else if y = xi then some (.int (i : Int) tk) else m' y) := by
    refine ⟨hn₅, fun b o x => ?_, F'.above⟩
    have xb := F'.keep b o x
    have hbe : b ≠ e := fun q => by rw [q, hge] at x; cases x
    have hbi : b ≠ it := fun q => by rw [q, hgi] at x; cases x
    have hbL : b ≠ env.locals := Nat.ne_of_lt (Nat.lt_of_lt_of_le (Heap.lt_size x) F'.above)
    exact up b o hbL (Heap.lt_size xb) (hs₂.extBut b o hbe (hk₁ b o hbe hbi xb))
  have he₅ := up e _ heL heH he₂
  obtain ⟨ito, hito, hitc⟩ := (hit₁.extBut hs₂.extBut (Ne.symm hei)).at fun o x => up it o hiL hiH x
  have N₅ : News g env.locals h₅ [(e, _), (it, ito)] := fun p hp => by
    rcases List.mem_cons.mp hp with rfl | hp
    · exact ⟨he₅, heL, hge⟩
    · rw [List.mem_singleton.mp hp]
      exact ⟨hito, hiL, hgi⟩
  refine wpAny_mono (step i v tk _ m' h₅ _ _ hv hJ F₅ N₅) (fun f s₃ h₆ => ?_) fun _ _ x => x.elim
  cases f with
  | ret v => exact h₆
  | brk => exact h₆.elim
  | cont => exact h₆.elim
  | next =>
    obtain ⟨h₆, tk₆, m₂, rfl, F₆, N₆, hJ₆⟩ := h₆
    refine ⟨vs.length + 1 - (i + 1), by omega, h₆, tk₆, m₂, i + 1, v, rfl, ?_, ⟨ito, (N₆ _ (.tail _ (.head _))).1, hitc⟩, F₆, hJ₆, hlt, rfl⟩
    have : ((i + 1 : Nat) : Int) = (i : Int) + 1 := by push_cast; rfl
    rw [this]
    exact (N₆ _ (.head _)).1

theorem for_list {x : Str} {px : Pos} {body : List Stmt} {it : Addr}
    (hh : A.handled = none) (hx : env.kindOf x = some .local)
    (hp : (env.scope.kind == .class || (env.scope.kind == .module && env.locals != env.globals)) = false)
    (F : Fr g env.locals s.heap m) (hit : s.heap.IsListIter it l 0) (hl : g.IsList l vs.toArray)
    (hgi : g.get? it = none) (hiL : it ≠ env.locals)
    (J : Nat → (Str → Option Value) → Prop) (h0 : J 0 m)
    (step : ∀ i v tk2 m₁ h ito, vs[i]? = some v → J i m₁ → Fr g env.locals h (fun y => if y = x then some v else m₁ y) → News g env.locals h [(it, ito)] →
      wpAny (model prog w) A (execs body env) (TurnEnd g env.locals s [(it, ito)] (J (i + 1)) R) (fun _ _ => False) { s with heap := h, toks := tk2 })
    (done : ∀ m₁ h tk2, J vs.length m₁ → Fr g env.locals h m₁ → R (.ok .next) { s with heap := h, toks := tk2 }) :
    codeAny (model prog w) A (.forLoop (.Name x px) (.ref it) body [] env) R s := by
  have hli : l ≠ it := fun q => by obtain ⟨o, ho, _⟩ := hl; rw [q, hgi] at ho; cases ho
  refine codeAny_forLoop
    (fun k s' => ∃ h' tk m' i, s' = { s with heap := h', toks := tk } ∧ h'.IsListIter it l i ∧ Fr g env.locals h' m' ∧ J i m' ∧ i ≤ vs.length ∧
      k = vs.length + 1 - i) ?_ (vs.length + 1) ⟨s.heap, s.toks, m, 0, rfl, hit, F, h0, Nat.zero_le _, rfl⟩
  rintro k s' zz
  refine exE4 zz fun H tk m' i jj => andE6 jj fun ez4 hit' F' hJ hi ez9 => ?_
  clear jj zz
  subst ez4
  subst ez9
  have hl' : H.IsList l vs.toArray := hl.at fun o e => F'.keep l o e
  by_cases hil : i = vs.length
  · subst hil
    refine wpAny_pyNext_list_end hh hit' hl' (by simp) fun h₁ he₁ => wpAny_execs_nil ?_
    exact done m' h₁ tk hJ ⟨F'.ns.extBut he₁ (Ne.symm hiL), fun b o e => he₁ b o (fun q => by rw [q, hgi] at e; cases e) (F'.keep b o e), F'.above⟩
  have hlt : i < vs.length := by omega
  obtain ⟨v, hv⟩ : ∃ v, vs[i]? = some v := ⟨_, List.getElem?_eq_getElem hlt⟩
  have hv' : vs.toArray[i]? = some v := by simpa using hv
  have hLH : env.locals < H.objs.size := F'.ns.lt
  refine wpAny_pyNext_list_item hit' hl' hv' fun h₁ hit₁ hs₁ => ?_
  replace hs₁ : Heap.SameBut it H h₁ := hs₁
  refine wpAny_assign_Name (wpAny_storeName_local hx (F'.ns.sameBut hs₁ (Ne.symm hiL)) (fun h₂ hn₂ hs₂ => ?_) hp)
  replace hs₂ : Heap.SameBut env.locals h₁ h₂ := hs₂
  have F₂ : Fr g env.locals h₂ (fun y => if y = x then some v else m' y) := by
    refine ⟨hn₂, fun b o x => ?_, F'.above⟩
    have hbi : b ≠ it := fun q => by rw [q, hgi] at x; cases x
    have hbL : b ≠ env.locals := Nat.ne_of_lt (Nat.lt_of_lt_of_le (Heap.lt_size x) F'.above)
    exact hs₂.extBut b o hbL (hs₁.extBut b o hbi (F'.keep b o x))
  obtain ⟨ito, hito, hitc⟩ := hit₁.at fun o x => hs₂.extBut it o hiL x
  have N₂ : News g env.locals h₂ [(it, ito)] := fun p hp => by
    rw [List.mem_singleton.mp hp]
    exact ⟨hito, hiL, hgi⟩
  refine wpAny_mono (step i v _ m' h₂ _ hv hJ F₂ N₂) (fun f s₃ h₆ => ?_) fun _ _ x => x.elim
  cases f with
  | ret v => exact h₆
  | brk => exact h₆.elim
  | cont => exact h₆.elim
  | next =>
    obtain ⟨h₆, tk₆, m₂, rfl, F₆, N₆, hJ₆⟩ := h₆
    exact ⟨vs.length + 1 - (i + 1), by omega, h₆, tk₆, m₂, i + 1, rfl, ⟨ito, (N₆ _ (.head _)).1, hitc⟩, F₆, hJ₆, hlt, rfl⟩
end

theorem fr_reads {g h : Heap} {L : Addr} {m : Str → Option Value} (ps : List (Str × Value)) (F : Fr g L h m) (hr : ∀ p ∈ ps, m p.1 = some p.2) : Fr g L h (kstB m ps) := by
  have e : kstB m ps = m := funext fun z => kstB_eq hr fun _ => rfl
  rw [e]; exact F
theorem wpAny_noRaise' {α : Type} {M : Model} {A : Around} {E : Value → Shared → Prop} {s : Shared} {t : Sem α} {Q : α → Shared → Prop}
    (h : wpAny M A t Q (fun _ _ => False) s) : wpAny M A t Q E s := wpAny_mono h (fun _ _ x => x) (fun _ _ x => x.elim)

section
variable {prog : Program} {w : World} {A : Around} {E : Value → Shared → Prop} {s : Shared} {g : Heap} {L l : Addr} {vs : List Value} {m : Str → Option Value} {news : List (Addr × Obj)}
theorem size_none {g h : Heap} {L : Addr} {m : Str → Option Value} (F : Fr g L h m) {b : Addr} (hb : h.objs.size ≤ b) : g.get? b = none ∧ b ≠ L := by
  refine ⟨?_, fun q => absurd F.ns.lt (by rw [← q]; exact Nat.not_lt.mpr hb)⟩
  cases e : g.get? b with
  | none => rfl
  | some o => exact absurd (Heap.lt_size (F.keep _ _ e)) (Nat.not_lt.mpr hb)
theorem iter_list {Q : Value → Shared → Prop} (F : Fr g L s.heap m) (hl : s.heap.IsList l vs.toArray)
    (h : ∀ it h', Fr g L h' m → Kp s.heap h' → h'.IsListIter it l 0 → g.get? it = none → it ≠ L → Q (.ref it) { s with heap := h' }) : wpAny (model prog w) A (pyIter (.ref l)) Q E s := by
  refine wpAny_pyIter_list hl ?_
  have hb := size_none F (Nat.le_refl _)
  exact h _ _ (F.push _) (fun b o e => Heap.get?_push_of_some _ e) ⟨_, Heap.get?_push_size _ rfl, rfl, rfl⟩ hb.1 hb.2
theorem iter_enum {Q : Value → Shared → Prop} (F : Fr g L s.heap m) (hl : LL s.heap l vs)
    (h : ∀ e it h', Fr g L h' m → Kp s.heap h' → IsEnum h' e it 0 .none → h'.IsListIter it l 0 → g.get? e = none → g.get? it = none → e ≠ L → it ≠ L → e ≠ it → Q (.ref e) { s with heap := h' }) :
    wpAny (model prog w) A (call (.type "enumerate") [.ref l]) Q E s := by
  obtain ⟨n, ho⟩ := hl
  refine call_enumerate_1 ho fun h' he hit hz hk => ?_
  have b1 := size_none F (Nat.le_refl _)
  have b2 := size_none F (Nat.le_succ _)
  exact h _ _ h' (F.keeps hk) hk he hit b2.1 b1.1 b2.2 b1.2 (Nat.succ_ne_self _)
end

theorem told_none (w : World) : nsIn (hd.heap_1 w.params) cStatics sharingNotToldKey = some none := by kernel_rfl
section
variable {w : World} {A : Around} {E : Value → Shared → Prop} {s : Shared} {t u : Tok} {Q : Value → Shared → Prop}
theorem told_K {prog : Program} {b : Tok} {Q : Bool → Shared → Prop} (X : (hd.heap_1 w.params).In s.heap) (h : Q false s) : wpAny (model prog w) A (sharingNotTold b) Q E s := by
  unfold sharingNotTold
  exact wpAny_bind ((looks_nsIn X (told_none w)).here (wpAny_pure h))
theorem created_K {prog : Program} {c : Bool} {R : Bool → Shared → Prop} (X : (hd.heap_1 w.params).In s.heap) (ht : t ≠ 0) (hu : u ≠ 0) (htu : t = u → c = true) (h : ∀ b, (b = true → c = true) → R b s) :
    wpAny (model prog w) A (isSame.created c t u) R E s := by
  unfold isSame.created
  have h1 : ¬ ((t == 0 || u == 0) = true) := by simp [ht, hu]
  rw [if_neg h1]
  by_cases htu' : t = u
  · rw [if_pos (by simpa using htu')]
    exact wpAny_pure (h true fun _ => htu htu')
  · rw [if_neg (by simpa using htu')]
    cases c with
    | false => exact wpAny_pure (h false fun q => by cases q)
    | true =>
      simp only [Bool.not_true, Bool.false_eq_true, if_false]
      refine wpAny_bind (told_K X ?_)
      simp only [Bool.false_eq_true, if_false]
      refine wpAny_bind (told_K X ?_)
      simp only [Bool.false_eq_true, if_false]
      exact wpAny_bind (wpAny_rule (wpAny_bind ((wpAny_askSetting (wpAny_pure (h _ fun _ => rfl))))))
theorem my_is_int {prog : Program} {x y : Int} (X : (hd.heap_1 w.params).In s.heap) (ht : t ≠ 0) (hu : u ≠ 0) (htu : t = u → x = y) (h : ∀ b, (b = true → x = y) → Q (.bool b) s) :
    wpAny (model prog w) A (compareOp .Is (.int x t) (.int y u)) Q E s := by
  show wpAny _ A (do return .bool (← isSame (.int x t) (.int y u))) Q E s
  refine wpAny_bind ?_
  show wpAny _ A (if (x == y && smallInt x) = true then isSame.cachedInt t u else isSame.created (x == y) t u) _ E s
  by_cases hs : (x == y && smallInt x) = true
  · rw [if_pos hs]
    unfold isSame.cachedInt
    rw [if_neg (by simp [ht, hu])]
    exact wpAny_bind (wpAny_rule (wpAny_pure (wpAny_pure (h true fun _ => by simp at hs; exact hs.1))))
  · rw [if_neg hs]
    exact created_K X ht hu (fun q => by simpa using htu q) fun b hb => wpAny_pure (h b fun q => by simpa using hb q)
theorem my_is_str {prog : Program} {x y : Str} (X : (hd.heap_1 w.params).In s.heap) (ht : t ≠ 0) (hu : u ≠ 0) (htu : t = u → x = y) (h : ∀ b, (b = true → x = y) → Q (.bool b) s) :
    wpAny (model prog w) A (compareOp .Is (.str x t) (.str y u)) Q E s := by
  show wpAny _ A (do return .bool (← isSame (.str x t) (.str y u))) Q E s
  refine wpAny_bind ?_
  exact created_K X ht hu (fun q => by simpa using htu q) fun b hb => wpAny_pure (h b fun q => by simpa using hb q)
end

abbrev TT (h : Heap) (a : Addr) (vs : List Value) : Prop := ∃ n, h.get? a = some { cls := .type "tuple", data := .seq vs.toArray n }
theorem TT.kp {h h' : Heap} {a : Addr} {vs : List Value} (x : TT h a vs) (k : Kp h h') : TT h' a vs := let ⟨n, e⟩ := x; ⟨n, k _ _ e⟩
theorem TT.kx {h h' : Heap} {a : Addr} {vs : List Value} {W : List Addr} (x : TT h a vs) (k : Kx W h h') (hn : a ∉ W) : TT h' a vs := let ⟨n, e⟩ := x; ⟨n, k _ _ e hn⟩
theorem TT.up {H g h : Heap} {adr : List Addr} {L a : Addr} {m : Str → Option Value} {vs : List Value} (x : TT H a vs) (G : GSub H g adr) (F : Fr g L h m) (hn : a ∉ adr) : TT h a vs := let ⟨n, e⟩ := x; ⟨n, F.keep _ _ (G _ _ e hn)⟩
section
variable {prog : Program} {w : World} {A : Around} {E : Value → Shared → Prop} {s : Shared} {l : Addr} {vs : List Value} {k : Int} {u : Tok} {v : Value} {Q : Value → Shared → Prop}
theorem my_titem {value slice : PySem.Expr} (hl : TT s.heap l vs) (h0 : 0 ≤ k) (hx : vs[k.toNat]? = some v) (hn : vs.length < 2 ^ 62) (h : Q v s)
    (hs : subscripted slice false (.ref l) (.int k u) = operate [.ref l, .int k u] (getItem (.ref l) (.int k u)) := by with_unfolding_all rfl) :
    wpAny (model prog w) A (subscriptTail value slice (.ref l) (.int k u)) Q E s := by
  obtain ⟨j, rfl⟩ := Int.eq_ofNat_of_zero_le h0
  have hx : vs[j]? = some v := hx
  obtain ⟨n, ho⟩ := hl
  have hj : j < vs.length := by
    rcases Nat.lt_or_ge j vs.length with h | h
    · exact h
    · rw [List.getElem?_eq_none h] at hx; cases hx
  refine item_tupleT (l := vs) ⟨_, ho, rfl, n, rfl⟩ (by omega) (by omega) (j := j) ?_ hx h hs
  unfold seqIndex?
  simp
  omega
end
end Mine
end

/-! N1 -/
section
open PySem PySem.W PySem.Calls PySem.Spec PyProof.Rows
set_option Elab.async false
set_option autoImplicit false
set_option maxRecDepth 100000
set_option maxHeartbeats 4000000
namespace Mine
def nm : Nat → Str
  | 0 => Str.ofString "a"
  | 1 => Str.ofString "ab"
  | 2 => Str.ofString "b"
  | 3 => Str.ofString "A"
  | 4 => Str.ofString "AB"
  | _ => Str.ofString "B"
def sg : Nat → Str
  | 0 => Str.ofString "0"
  | 1 => Str.ofString "1"
  | 2 => Str.ofString "2"
  | 3 => Str.ofString "3"
  | 4 => Str.ofString "4"
  | _ => Str.ofString "5"
theorem nm_lower : ∀ c, c < 6 → Txt.lower (nm c) = nm (c % 3) ∧ PySem.Builtin.Str.tooLong (Txt.lower (nm c)).length = false := by decide +kernel
theorem sg_lower : ∀ c, c < 6 → Txt.lower (sg c) = sg c ∧ PySem.Builtin.Str.tooLong (Txt.lower (sg c)).length = false := by decide +kernel
theorem nm_inj : ∀ c d, c < 6 → d < 6 → (nm c = nm d ↔ c = d) := by
  have h : ∀ c, c < 6 → ∀ d, d < 6 → (nm c = nm d ↔ c = d) := by decide +kernel
  exact fun c d hc hd => h c hc d hd
theorem sg_inj : ∀ c d, c < 6 → d < 6 → (sg c = sg d ↔ c = d) := by
  have h : ∀ c, c < 6 → ∀ d, d < 6 → (sg c = sg d ↔ c = d) := by decide +kernel
  exact fun c d hc hd => h c hc d hd
theorem sg_lt : ∀ c d, c < 6 → d < 6 → (((sg c).cps.toList < (sg d).cps.toList) ↔ c < d) := by
  have h : ∀ c, c < 6 → ∀ d, d < 6 → (((sg c).cps.toList < (sg d).cps.toList) ↔ c < d) := by decide +kernel
  exact fun c d hc hd => h c hc d hd
theorem nm_lt : ∀ c d, c < 3 → d < 3 → (((nm c).cps.toList < (nm d).cps.toList) ↔ c < d) := by
  have h : ∀ c, c < 3 → ∀ d, d < 3 → (((nm c).cps.toList < (nm d).cps.toList) ↔ c < d) := by decide +kernel
  exact fun c d hc hd => h c hc d hd
end Mine
end

/-! Re -/
section
open PySem PySem.W PySem.Calls PySem.Spec PyProof.Rows
set_option Elab.async false
set_option autoImplicit false
set_option maxRecDepth 100000
set_option maxHeartbeats 4000000
namespace Mine
theorem plainAttrs_re : PlainAttrs "re.Pattern" :=
  ⟨⟨"object.__getattribute__", by rw [typeLookup_type, builtinLookup_eq_fast]; kernel_rfl, by decide +kernel⟩, by rw [typeLookup_type, builtinLookup_eq_fast]; kernel_rfl⟩
theorem slot_re_search : Slot "re.Pattern" "search" "re.Pattern.search" :=
  .of (owner := "re.Pattern") (n := "search") (by rw [typeLookup_type, builtinLookup_eq_fast]; kernel_rfl) (by decide +kernel) (by decide +kernel) (by decide +kernel)
    (by first | exact .inl (by decide +kernel) | exact .inr (by decide +kernel)) (by rw [isSubtype_type]; kernel_rfl)
theorem type_re_search : typeOf (.builtin "re.Pattern.search") = pure (.type "method_descriptor") := by show builtinType _ = _; rw [builtinType_eq_fast]; kernel_rfl
theorem entry_re_search : entryFor table "re.Pattern.search" = some Builtin.«re.Pattern.search» := entryFor_of_tree (by kernel_rfl)
theorem args_re_search (a b : Value) : argsOk "re.Pattern.search" ⟨[a, b], []⟩ := by
  unfold argsOk; kernel_rfl

theorem search_nm (w : World) (S : Setting) (t : Tok) : ∀ c, c < 6 → peek (hd.heap_1 w.params) S (Builtin.«re.Pattern.search» ⟨[.ref 108, .str (nm c) t], []⟩) = some (.done (.ret .none))
  | 0, _ => by kernel_rfl
  | 1, _ => by kernel_rfl
  | 2, _ => by kernel_rfl
  | 3, _ => by kernel_rfl
  | 4, _ => by kernel_rfl
  | 5, _ => by kernel_rfl
  | n + 6, h => by omega
theorem search_sg (w : World) (S : Setting) (t : Tok) : ∀ c, c < 6 → peek (hd.heap_1 w.params) S (Builtin.«re.Pattern.search» ⟨[.ref 113, .str (sg c) t], []⟩) = some (.done (.ret .none))
  | 0, _ => by kernel_rfl
  | 1, _ => by kernel_rfl
  | 2, _ => by kernel_rfl
  | 3, _ => by kernel_rfl
  | 4, _ => by kernel_rfl
  | 5, _ => by kernel_rfl
  | n + 6, h => by omega
theorem patK0 (w : World) : ((hd.heap_1 w.params).lookup 108).any (fun o => o.cls == .type "re.Pattern" && o.dict.isNone) = true := by kernel_rfl
theorem patK1 (w : World) : ((hd.heap_1 w.params).lookup 113).any (fun o => o.cls == .type "re.Pattern" && o.dict.isNone) = true := by kernel_rfl
theorem patK (w : World) (r : Addr) (hr : r = 108 ∨ r = 113) : ∃ o : Obj, (hd.heap_1 w.params).lookup r = some o ∧ o.cls = .type "re.Pattern" ∧ o.dict = none := by
  have h : ((hd.heap_1 w.params).lookup r).any (fun o => o.cls == .type "re.Pattern" && o.dict.isNone) = true := by
    rcases hr with rfl | rfl
    · exact patK0 w
    · exact patK1 w
  cases e : (hd.heap_1 w.params).lookup r with
  | none => rw [e] at h; cases h
  | some o =>
    rw [e] at h
    simp only [Option.any_some, Bool.and_eq_true, beq_iff_eq, Option.isNone_iff_eq_none] at h
    exact ⟨o, rfl, h.1, h.2⟩
section
variable {prog : Program} {w : World} {A : Around} {E : Value → Shared → Prop} {s : Shared} {r : Addr} {v : Str} {t : Tok}
theorem my_getSearch {pl : Sem Bool} {Q : Value × List Value → Shared → Prop} (X : (hd.heap_1 w.params).In s.heap) (hr : r = 108 ∨ r = 113) (h : Q (.builtin "re.Pattern.search", [.ref r]) s) :
    wpAny (model prog w) A (getMethod (.ref r) "search" pl) Q E s := by
  obtain ⟨o, h1, h2, h3⟩ := patK w r hr
  exact getMethod_builtin ⟨o, X _ _ h1, h2⟩ plainAttrs_re slot_re_search type_re_search (fun a e => by cases e; exact ⟨o, X _ _ h1, h3⟩) h
theorem my_search {Q : Value → Shared → Prop} (X : (hd.heap_1 w.params).In s.heap) (hr : r = 108 ∨ r = 113) (e : ∀ S, peek (hd.heap_1 w.params) S (Builtin.«re.Pattern.search» ⟨[.ref r, .str v t], []⟩) = some (.done (.ret .none))) (h : Q .none s) :
    wpAny (model prog w) A (call (.builtin "re.Pattern.search") [.ref r, .str v t]) Q E s := by
  obtain ⟨o, h1, h2, h3⟩ := patK w r hr
  have M : MeetsIn prog w (Builtin.«re.Pattern.search» ⟨[.ref r, .str v t], []⟩) (fun _ R s => (hd.heap_1 w.params).In s.heap ∧ R (.ok (.ret .none)) s) := by
    intro A R s hs
    intro Γ p _
    exact wp_of_peek hs.1 hs.2 _ (e _)
  exact call_meetsIn slot_re_search ⟨o, X _ _ h1, h2⟩ entry_re_search (args_re_search _ _) M ⟨X, h⟩
end
end Mine
end

/-! L4 -/
section
open PySem PySem.W PySem.Calls PySem.Spec PyProof.Rows
set_option Elab.async false
set_option autoImplicit false
set_option maxRecDepth 100000
set_option maxHeartbeats 4000000
namespace Mine
structure MWalk (prog : Program) (w : World) (A : Around) (I : Addr) (fp wr : List Addr) (n : Nat) (P : Nat → Value → Nat → Nat → Prop) (Nx : Nat → Heap → Prop) : Prop where
  sub : ∀ b ∈ wr, b ∈ fp
  frame : ∀ i h h', Nx i h → (∀ b ∈ fp, ∀ o, h.get? b = some o → h'.get? b = some o) → Nx i h'
  item : ∀ i (s : Shared) (Q : Option Value → Shared → Prop) (E : Value → Shared → Prop), i < n → Nx i s.heap →
    (∀ v h' tk, P i v s.toks tk → s.toks ≤ tk → Nx (i + 1) h' → (∀ b o, b ∉ wr → s.heap.get? b = some o → h'.get? b = some o) → Q (some v) { s with heap := h', toks := tk }) → wpAny (model prog w) A (pyNext (.ref I)) Q E s
  done : ∀ (s : Shared) (Q : Option Value → Shared → Prop) (E : Value → Shared → Prop), Nx n s.heap →
    (∀ h' tk, s.toks ≤ tk → (∀ b o, b ∉ wr → s.heap.get? b = some o → h'.get? b = some o) → Q none { s with heap := h', toks := tk }) → wpAny (model prog w) A (pyNext (.ref I)) Q E s
  self : ∀ i (s : Shared) (Q : Value → Shared → Prop) (E : Value → Shared → Prop), Nx i s.heap → Q (.ref I) s → wpAny (model prog w) A (pyIter (.ref I)) Q E s

theorem mwalk_list {prog : Program} {w : World} {A : Around} (hh : A.handled = none) (I ax : Addr) (hne : ax ≠ I) (vs : List Value) :
    MWalk prog w A I [I, ax] [I] vs.length (fun i v lo hi => vs[i]? = some v ∧ lo ≤ hi) (fun i h => h.IsListIter I ax i ∧ h.IsList ax vs.toArray) where
  sub := fun b hb => by simp at hb; simp [hb]
  frame := fun _ _ _ st hk => ⟨st.1.at fun o e => hk I (by simp) o e, st.2.at fun o e => hk ax (by simp) o e⟩
  item := fun i s Q E hi st hQ => by
    refine wpAny_pyNext_list_item st.1 st.2 (x := vs[i]) (by simp [hi]) fun h' hit' hs' => ?_
    exact hQ _ h' s.toks ⟨by simp [hi], Nat.le_refl _⟩ (Nat.le_refl _) ⟨hit', st.2.extBut hs'.extBut hne⟩ fun b o hb e => hs'.extBut b o (fun h => hb (by simp [h])) e
  done := fun s Q E st hQ => wpAny_pyNext_list_end hh st.1 st.2 (by simp) fun h' he' => hQ h' s.toks (Nat.le_refl _) fun b o hb e => he' b o (fun h => hb (by simp [h])) e
  self := fun _ _ _ _ st hQ => wpAny_pyIter_listiter st.1 hQ

theorem mwalk_range {prog : Program} {w : World} {A : Around} (hh : A.handled = none) (I : Addr) (n : Nat) :
    MWalk prog w A I [I] [I] n (fun i v lo hi => ∃ t, v = .int (i : Int) t ∧ lo ≤ t ∧ t < hi) (fun i h => IsRangeIter h I (i : Nat) ((n : Int) - (i : Nat)) 1) where
  sub := fun _ hb => hb
  frame := fun _ _ _ st hk => hk I (by simp) _ st
  item := fun i s Q E hi st hQ => by
    refine wpAny_pyNext_range_item st (by omega) fun h' hit' hs' => ?_
    refine hQ _ h' _ ⟨_, rfl, Nat.le_refl _, Nat.lt_succ_self _⟩ (Nat.le_succ _) ?_ fun b o hb e => hs'.extBut b o (fun h => hb (by simp [h])) e
    have e1 : ((i + 1 : Nat) : Int) = (i : Int) + 1 := by push_cast; rfl
    have e2 : (n : Int) - ((i + 1 : Nat) : Int) = (n : Int) - (i : Int) - 1 := by push_cast; omega
    rw [e1, e1] at *
    have e3 : (n : Int) - ((i : Int) + 1) = (n : Int) - (i : Int) - 1 := by omega
    rw [e3]; exact hit'
  done := fun s Q E st hQ => wpAny_pyNext_range_end hh st (by omega) fun h' he' => hQ h' s.toks (Nat.le_refl _) fun b o hb e => he' b o (fun h => hb (by simp [h])) e
  self := fun _ _ _ _ st hQ => wpAny_pyIter_rangeiter st hQ

structure LogE where
  i : Nat
  y : Value
  as : List (Addr × Obj)
  lo : Nat
  hi : Nat
abbrev Gr := Nat → Value → List (Addr × Obj) → Nat → Nat → Prop
def LogOk (G : Gr) (base : Nat) (fresh : Addr → Prop) (h : Heap) (tk : Nat) (log : List LogE) : Prop :=
  (∀ e ∈ log, base ≤ e.lo ∧ e.hi ≤ tk ∧ G e.i e.y e.as e.lo e.hi ∧ ∀ q ∈ e.as, h.get? q.1 = some q.2 ∧ fresh q.1) ∧ log.Pairwise (fun a b => a.hi ≤ b.lo)
theorem LogOk.nil {G : Gr} {base : Nat} {fresh : Addr → Prop} {h : Heap} {tk : Nat} : LogOk G base fresh h tk [] := ⟨(fun _ h => nomatch h), List.Pairwise.nil⟩
theorem LogOk.mono {G : Gr} {base : Nat} {fresh : Addr → Prop} {h h' : Heap} {tk tk' : Nat} {log : List LogE} (x : LogOk G base fresh h tk log) (ht : tk ≤ tk') (hk : ∀ b o, fresh b → h.get? b = some o → h'.get? b = some o) :
    LogOk G base fresh h' tk' log :=
  ⟨fun e he => let ⟨a, b, c, d⟩ := x.1 e he; ⟨a, Nat.le_trans b ht, c, fun q hq => ⟨hk _ _ (d q hq).2 (d q hq).1, (d q hq).2⟩⟩, x.2⟩
theorem LogOk.snoc {G : Gr} {base : Nat} {fresh : Addr → Prop} {h : Heap} {tk tk' : Nat} {log : List LogE} {e : LogE} (x : LogOk G base fresh h tk log) (hlo : tk ≤ e.lo) (hb : base ≤ e.lo) (hhi : e.hi ≤ tk') (hll : e.lo ≤ e.hi)
    (hg : G e.i e.y e.as e.lo e.hi) (hq : ∀ q ∈ e.as, h.get? q.1 = some q.2 ∧ fresh q.1) : LogOk G base fresh h tk' (log ++ [e]) := by
  refine ⟨fun e' he => ?_, ?_⟩
  · rcases List.mem_append.mp he with he | he
    · obtain ⟨a, b, c, d⟩ := x.1 e' he
      exact ⟨a, by omega, c, d⟩
    · rw [List.mem_singleton.mp he]; exact ⟨hb, hhi, hg, hq⟩
  · refine List.pairwise_append.mpr ⟨x.2, List.Pairwise.cons (fun _ hh => (nomatch hh)) List.Pairwise.nil, fun a ha b hb' => ?_⟩
    rw [List.mem_singleton.mp hb']
    exact Nat.le_trans (x.1 a ha).2.1 hlo

section
variable {prog : Program} {w : World} {A : Around} {E : Value → Shared → Prop} {R : Result → Shared → Prop} {s : Shared}

theorem codeAny_compLoop_any {elt target iter : Expr} {ifs : List Expr} {scope : Scope} {pos : Pos} {it acc : Value} {env : Env} (I : Nat → Shared → Prop)
    (turn : ∀ n s, I n s → wpAny (model prog w) A (pyNext it) (fun r s₁ => match r with
      | none => R (.ok .next) s₁
      | some v => wpAny (model prog w) A (letOwnedTupleGo target it v) (fun _ s₁' => wpAny (model prog w) A (assign target env v) (fun _ s₂ =>
          wpAny (model prog w) A (forIn ifs true fun c r => if r = true then do let ok ← isTrue c env (eval c env); pure (ForInStep.yield ok) else pure (ForInStep.yield r)) (fun ok s₃ =>
            if ok = true then wpAny (model prog w) A (eval elt env) (fun x s₄ =>
              wpAny (model prog w) A (call (.builtin "list.append") [acc, x]) (fun _ s₅ => ∃ m, m < n ∧ I m s₅) (notedBy (model prog w) A env fun e s' => R (.error e) s') s₄) (notedBy (model prog w) A env fun e s' => R (.error e) s') s₃
            else ∃ m, m < n ∧ I m s₃) (notedBy (model prog w) A env fun e s' => R (.error e) s') s₂) (notedBy (model prog w) A env fun e s' => R (.error e) s') s₁') (notedBy (model prog w) A env fun e s' => R (.error e) s') s₁) (notedBy (model prog w) A env fun e s' => R (.error e) s') s)
    (n : Nat) (h : I n s) :
    codeAny (model prog w) A (.compLoop (.ListComp elt [⟨target, iter, ifs, 0⟩] scope pos) 0 it acc env) R s := by
  refine codeAny_loop rfl I (fun n s hI => ?_) n h
  show wpAny _ A ((compTurn (.ListComp elt [⟨target, iter, ifs, 0⟩] scope pos) 0 it acc env).onRaise (fun x => do noteFrame x env; theTreesLotGoes x)) _ _ s
  refine wpAny_noted ?_
  rw [compTurn_list]
  refine wpAny_bind (wpAny_standAt (wpAny_bind (wpAny_mono (turn n s hI) (fun r s₁ h₁ => ?_) fun _ _ h' => h')))
  cases r with
  | none => exact wpAny_pure h₁
  | some v =>
    refine wpAny_bind (wpAny_mono h₁ (fun _ s₁' h₁' => ?_) fun _ _ h' => h')
    refine wpAny_bind (wpAny_mono h₁' (fun _ s₂ h₂ => wpAny_bind (wpAny_mono h₂ (fun ok s₃ h₃ => ?_) fun _ _ h' => h')) fun _ _ h' => h')
    cases ok with
    | false => exact wpAny_pure ⟨rfl, h₃⟩
    | true =>
      exact wpAny_bind (wpAny_bind (wpAny_mono h₃ (fun x s₄ h₄ => wpAny_bind (wpAny_mono h₄ (fun _ s₅ h₅ => wpAny_pure (wpAny_pure ⟨rfl, h₅⟩)) fun _ _ h' => h')) fun _ _ h' => h'))

theorem range_filter_succ (pz : Nat → Bool) (i : Nat) : (List.range (i + 1)).filter pz = (List.range i).filter pz ++ (if pz i = true then [i] else []) := by
  rw [List.range_succ, List.filter_append]
  congr 1
  by_cases h : pz i = true <;> simp [h]
end

section
variable {prog : Program} {w : World} {A : Around} {E : Value → Shared → Prop} {R : Result → Shared → Prop} {s : Shared}

def BindsAt (prog : Program) (w : World) (A : Around) (target : PySem.Expr) (I D : Addr) (cenv : Env) (s : Shared) (v : Value) (Bd : (Str → Option Value) → Prop) : Prop :=
  ∀ (Q : Unit → Shared → Prop) (E : Value → Shared → Prop) h tk mC, h.Ns cenv.locals mC → (∀ b o, b ≠ cenv.locals → b ≠ I → b ≠ D → s.heap.get? b = some o → h.get? b = some o) →
    (∃ o, h.get? I = some o ∧ (o.cls = .type "list_iterator" ∨ o.cls = .type "range_iterator")) →
    (∀ h' tk' m', h'.Ns cenv.locals m' → Bd m' → (∀ b o, b ≠ cenv.locals → h.get? b = some o → h'.get? b = some o) → tk ≤ tk' → Q () { s with heap := h', toks := tk' }) →
    wpAny (model prog w) A (letOwnedTupleGo target (.ref I) v) (fun _ s₁ => wpAny (model prog w) A (assign target cenv v) Q E s₁) E { s with heap := h, toks := tk }

theorem comp_core {elt target iter : PySem.Expr} {ifs : List PySem.Expr} {scope : Scope} {pos : Pos} {I D : Addr} {cenv : Env} {fp wr : List Addr} {n : Nat} {P : Nat → Value → Nat → Nat → Prop} {Nx : Nat → Heap → Prop} {m : Str → Option Value}
    (W : MWalk prog w A I fp wr n P Nx) (hn20 : n < 2 ^ 20) (pz : Nat → Bool) (G : Gr) (Bd : Nat → Value → (Str → Option Value) → Prop)
    (hIf : I ∈ fp) (hIw : I ∈ wr) (hwrI : ∀ b ∈ wr, b = I) (hDC : D ≠ cenv.locals) (hDf : D ∉ fp) (hCf : cenv.locals ∉ fp)
    (hit : ∀ i h, Nx i h → ∃ o, h.get? I = some o ∧ (o.cls = .type "list_iterator" ∨ o.cls = .type "range_iterator"))
    (hst : Nx 0 s.heap) (hacc : LL s.heap D []) (hn : s.heap.Ns cenv.locals m)
    (hbind : ∀ i v lo hi, i < n → P i v lo hi → BindsAt prog w A target I D cenv s v (Bd i v))
    (tests : ∀ i v lo hi h3 tk3 m3, i < n → P i v lo hi → hi ≤ tk3 → s.toks ≤ lo → h3.Ns cenv.locals m3 → Bd i v m3 → (∀ b o, b ≠ cenv.locals → b ≠ I → b ≠ D → s.heap.get? b = some o → h3.get? b = some o) →
      wpAny (model prog w) A (forIn ifs true fun c r => if r = true then do let ok ← isTrue c cenv (eval c cenv); pure (ForInStep.yield ok) else pure (ForInStep.yield r))
        (fun ok s₄ => ok = pz i ∧ Keeps { s with heap := h3, toks := tk3 } s₄) (fun _ _ => False) { s with heap := h3, toks := tk3 })
    (elts : ∀ i v lo hi h3 tk3 m3, i < n → pz i = true → P i v lo hi → hi ≤ tk3 → s.toks ≤ lo → h3.Ns cenv.locals m3 → Bd i v m3 → (∀ b o, b ≠ cenv.locals → b ≠ I → b ≠ D → s.heap.get? b = some o → h3.get? b = some o) →
      wpAny (model prog w) A (eval elt cenv) (fun y s₄ => Keeps { s with heap := h3, toks := tk3 } s₄ ∧ ∃ as, (∀ hh, s₄.toks ≤ hh → G i y as lo hh) ∧ ∀ q ∈ as, h3.get? q.1 = none ∧ s₄.heap.get? q.1 = some q.2) (fun _ _ => False) { s with heap := h3, toks := tk3 })
    (done : ∀ h' tk m' log, h'.Ns cenv.locals m' → LL h' D (log.map (·.y)) → log.map (·.i) = (List.range n).filter pz → LogOk G s.toks (fun b => b ≠ cenv.locals ∧ b ≠ I ∧ b ≠ D ∧ s.heap.get? b = none) h' tk log →
      (∀ b o, b ≠ cenv.locals → b ≠ I → b ≠ D → s.heap.get? b = some o → h'.get? b = some o) → s.toks ≤ tk → R (.ok .next) { s with heap := h', toks := tk }) :
    codeAny (model prog w) A (.compLoop (.ListComp elt [⟨target, iter, ifs, 0⟩] scope pos) 0 (.ref I) (.ref D) cenv) R s := by
  have hIC : I ≠ cenv.locals := fun q => hCf (q ▸ hIf)
  have hDI : D ≠ I := fun q => hDf (q ▸ hIf)
  have hwrI' : ∀ b, b ∉ wr → b ≠ I := fun b hb q => hb (q ▸ hIw)
  refine codeAny_compLoop_any
    (fun k s' => ∃ h' tk m' log i, s' = { s with heap := h', toks := tk } ∧ Nx i h' ∧ LL h' D (log.map (·.y)) ∧ h'.Ns cenv.locals m' ∧ log.map (·.i) = (List.range i).filter pz ∧
      LogOk G s.toks (fun b => b ≠ cenv.locals ∧ b ≠ I ∧ b ≠ D ∧ s.heap.get? b = none) h' tk log ∧ i ≤ n ∧ k = n + 1 - i ∧ s.toks ≤ tk ∧
      ∀ b o, b ≠ cenv.locals → b ≠ I → b ≠ D → s.heap.get? b = some o → h'.get? b = some o) ?_ (n + 1)
    ⟨s.heap, s.toks, m, [], 0, rfl, hst, hacc, hn, rfl, LogOk.nil, Nat.zero_le _, rfl, Nat.le_refl _, fun _ _ _ _ _ e => e⟩
  rintro k s' zz
  refine exE5 zz fun H tk m' log i jj => andE10 jj fun ez5 hst' hacc' hn' hidx hlog hi ez12 htk hk => ?_
  clear jj zz
  subst ez5
  subst ez12
  by_cases hin : i = n
  · subst hin
    refine W.done _ _ _ hst' fun h₁ tk₁ ht₁ hk₁ => ?_
    have hk₁' : ∀ b o, b ≠ I → H.get? b = some o → h₁.get? b = some o := fun b o hb e => hk₁ b o (fun q => hb (hwrI b q)) e
    exact done h₁ tk₁ m' log (hn'.at fun o e => hk₁' _ o (Ne.symm hIC) e) (hacc'.at fun o e => hk₁' _ o hDI e) hidx (hlog.mono ht₁ fun b o fb e => hk₁' b o fb.2.1 e)
      (fun b o hbC hbI hbD e => hk₁' b o hbI (hk b o hbC hbI hbD e)) (Nat.le_trans htk ht₁)
  have hlt : i < n := by omega
  refine W.item i _ _ _ hlt hst' fun v h₁ tk₁ hP ht₁ hNx₁ hk₁ => ?_
  replace ht₁ : tk ≤ tk₁ := ht₁
  have hk₁' : ∀ b o, b ≠ I → H.get? b = some o → h₁.get? b = some o := fun b o hb e => hk₁ b o (fun q => hb (hwrI b q)) e
  have hn₁ : h₁.Ns cenv.locals m' := hn'.at fun o e => hk₁' _ o (Ne.symm hIC) e
  have k₁ : ∀ b o, b ≠ cenv.locals → b ≠ I → b ≠ D → s.heap.get? b = some o → h₁.get? b = some o := fun b o hbC hbI hbD e => hk₁' b o hbI (hk b o hbC hbI hbD e)
  refine hbind i v _ _ hlt hP _ _ h₁ tk₁ m' hn₁ k₁ (hit _ _ hNx₁) fun h₂ tk₂ m₂ hn₂ hB₂ hk₂ ht₂ => ?_
  have k₂ : ∀ b o, b ≠ cenv.locals → b ≠ I → b ≠ D → s.heap.get? b = some o → h₂.get? b = some o := fun b o hbC hbI hbD e => hk₂ b o hbC (k₁ b o hbC hbI hbD e)
  have hNx₂ : Nx (i + 1) h₂ := W.frame _ _ _ hNx₁ fun b hb o e => hk₂ b o (fun q => hCf (q ▸ hb)) e
  have hacc₂ : LL h₂ D (log.map (·.y)) := hacc'.at fun o e => hk₂ D o hDC (hk₁' D o hDI e)
  have hlog₂ : LogOk G s.toks (fun b => b ≠ cenv.locals ∧ b ≠ I ∧ b ≠ D ∧ s.heap.get? b = none) h₂ tk log := hlog.mono (Nat.le_refl _) fun b o fb e => hk₂ b o fb.1 (hk₁' b o fb.2.1 e)
  refine wpAny_mono (wpAny_toks (tests i v tk tk₁ h₂ tk₂ m₂ hlt hP ht₂ htk hn₂ hB₂ k₂)) (fun ok s₃ h₃ => ?_) fun _ _ x => x.2.elim
  obtain ⟨ht₃, rfl, h₃, tk₃, rfl, hk₃⟩ := h₃
  replace ht₃ : tk₂ ≤ tk₃ := ht₃
  replace hk₃ : ∀ b o, h₂.get? b = some o → h₃.get? b = some o := hk₃
  have k₃ : ∀ b o, b ≠ cenv.locals → b ≠ I → b ≠ D → s.heap.get? b = some o → h₃.get? b = some o := fun b o hbC hbI hbD e => hk₃ b o (k₂ b o hbC hbI hbD e)
  have hNx₃ : Nx (i + 1) h₃ := W.frame _ _ _ hNx₂ fun b hb o e => hk₃ b o e
  have hacc₃ : LL h₃ D (log.map (·.y)) := hacc₂.at fun o e => hk₃ D o e
  have hn₃ : h₃.Ns cenv.locals m₂ := hn₂.keeps hk₃
  have hlog₃ : LogOk G s.toks (fun b => b ≠ cenv.locals ∧ b ≠ I ∧ b ≠ D ∧ s.heap.get? b = none) h₃ tk log := hlog₂.mono (Nat.le_refl _) fun b o _ e => hk₃ b o e
  by_cases hpz : pz i = true
  · rw [if_pos hpz]
    refine wpAny_mono (wpAny_toks (elts i v tk tk₁ h₃ tk₃ m₂ hlt hpz hP (Nat.le_trans ht₂ ht₃) htk hn₃ hB₂ k₃)) (fun y s₄ h₄ => ?_) fun _ _ x => x.2.elim
    obtain ⟨ht₄, ⟨h₄, tk₄, rfl, hk₄⟩, as, hG, has⟩ := h₄
    replace ht₄ : tk₃ ≤ tk₄ := ht₄
    replace hk₄ : ∀ b o, h₃.get? b = some o → h₄.get? b = some o := hk₄
    have hlen : (log.map (·.y)).length < 2 ^ 20 := by
      have e := congrArg List.length hidx
      simp only [List.length_map] at e ⊢
      have e2 : ((List.range i).filter pz).length ≤ i := by
        have := List.length_filter_le pz (List.range i)
        simpa using this
      omega
    refine append_LL (hacc₃.at fun o e => hk₄ D o e) hlen fun h₅ l₅ k₅ => ?_
    have hk₅ : ∀ b o, b ≠ D → h₃.get? b = some o → h₅.get? b = some o := fun b o hb e => k₅ b o (hk₄ b o e) (by simpa using hb)
    refine ⟨n + 1 - (i + 1), by omega, h₅, tk₄, m₂, log ++ [⟨i, y, as, tk, tk₄⟩], i + 1, rfl, ?_, ?_, ?_, ?_, ?_, by omega, rfl, by omega, ?_⟩
    · exact W.frame _ _ _ hNx₃ fun b hb o e => hk₅ b o (fun q => hDf (q ▸ hb)) e
    · simpa using l₅
    · exact hn₃.at fun o e => hk₅ _ o (Ne.symm hDC) e
    · rw [range_filter_succ, List.map_append, hidx, if_pos hpz]; rfl
    · refine (hlog₃.mono (Nat.le_refl _) fun b o fb e => hk₅ b o fb.2.2.1 e).snoc (Nat.le_refl _) htk (Nat.le_refl _) (show tk ≤ tk₄ by omega) (hG tk₄ (Nat.le_refl _)) fun q hq => ?_
      obtain ⟨q1, q2⟩ := has q hq
      have hqD : q.1 ≠ D := fun e => by obtain ⟨_, e2⟩ := hacc₃; rw [e, e2] at q1; cases q1
      refine ⟨k₅ _ _ q2 (by simpa using hqD), fun e => ?_, fun e => ?_, hqD, ?_⟩
      · obtain ⟨_, _, _, e2, _⟩ := hn₃; rw [e, e2] at q1; cases q1
      · obtain ⟨o, e2, _⟩ := hit _ _ hNx₃; rw [e, e2] at q1; cases q1
      · cases e : s.heap.get? q.1 with
        | none => rfl
        | some o =>
          have hqC : q.1 ≠ cenv.locals := fun e => by obtain ⟨_, _, _, e2, _⟩ := hn₃; rw [e, e2] at q1; cases q1
          have hqI : q.1 ≠ I := fun e => by obtain ⟨o, e2, _⟩ := hit _ _ hNx₃; rw [e, e2] at q1; cases q1
          rw [k₃ _ _ hqC hqI hqD e] at q1; cases q1
    · exact fun b o hbC hbI hbD e => hk₅ b o hbD (k₃ b o hbC hbI hbD e)
  · rw [if_neg hpz]
    exact ⟨n + 1 - (i + 1), by omega, h₃, tk₃, m₂, log, i + 1, rfl, hNx₃, hacc₃, hn₃, by rw [range_filter_succ, hidx, if_neg hpz, List.append_nil], hlog₃.mono (by omega) (fun _ _ _ e => e), by omega, rfl, by omega, k₃⟩
end
end Mine
end

/-! L5 -/
section
open PySem PySem.W PySem.Calls PySem.Spec PyProof.Rows
set_option Elab.async false
set_option autoImplicit false
set_option maxRecDepth 100000
set_option maxHeartbeats 4000000
namespace Mine
section
variable {prog : Program} {w : World} {A : Around} {E : Value → Shared → Prop} {s : Shared} {env : Env}

theorem binds_name {x : Str} {px : Pos} {I D : Addr} {cenv : Env} {v : Value} (hx : cenv.kindOf x = some .local) (hp : (cenv.scope.kind == .class || (cenv.scope.kind == .module && cenv.locals != cenv.globals)) = false) :
    BindsAt prog w A (.Name x px) I D cenv s v (fun m => m x = some v) := by
  intro Q E h tk mC hn hk hI hQ
  refine wpAny_pure ?_
  refine wpAny_assign_Name (wpAny_storeName_local hx hn (fun h' hn' hs' => ?_) hp)
  exact hQ h' _ _ hn' (by simp) (fun b o hb e => hs'.extBut b o hb e) (Nat.le_succ _)

theorem binds_pair {x y : Str} {px py pt : Pos} {x1} {I D a : Addr} {cenv : Env} {u v : Value} (hh : A.handled = none) (hx : cenv.kindOf x = some .local) (hy : cenv.kindOf y = some .local) (hxy : x ≠ y)
    (hp : (cenv.scope.kind == .class || (cenv.scope.kind == .module && cenv.locals != cenv.globals)) = false) (hT : TT s.heap a [u, v]) (haC : a ≠ cenv.locals) (haI : a ≠ I) (haD : a ≠ D) :
    BindsAt prog w A (.Tuple [.Name x px, .Name y py] x1 pt) I D cenv s (.ref a) (fun m => m x = some u ∧ m y = some v) := by
  intro Q E h tk mC hn hk hI hQ
  obtain ⟨oI, hoI, hcI⟩ := hI
  obtain ⟨n, ho⟩ := hT
  have hoa := hk a _ haC haI haD ho
  have hT' : h.IsTuple a #[u, v] := ⟨_, hoa, rfl, _, rfl⟩
  unfold letOwnedTupleGo
  refine wpAny_bind (wpAny_load hoI ?_)
  have hgo : ∀ Q : Unit → Shared → Prop, Q () { s with heap := h, toks := tk } → wpAny (model prog w) A (match oI.cls, oI.data with
      | .type n, .fields vs =>
        if ["enumerate", "zip", "dict_itemiterator", "dict_reverseitemiterator", "odict_iterator", "itertools.zip_longest", "itertools.pairwise"].contains n && vs[0]? == some (rawInt a) then (do
          rule "for.unpacks-the-owned-tuple"
          updateField I 0 .none)
        else pure ()
      | _, _ => pure ()) Q E { s with heap := h, toks := tk } := by
    intro Q hq
    rcases hcI with e | e <;> rw [e] <;> cases oI.data <;> exact wpAny_pure hq
  refine hgo _ ?_
  refine wpAny_assign_Tuple hh hT' rfl rfl fun h₃ hx₃ => ?_
  replace hx₃ : Heap.ExtBut h.objs.size h h₃ := hx₃
  have old₃ : ∀ b o, h.get? b = some o → h₃.get? b = some o := fun b o e => hx₃ b o (Nat.ne_of_lt (Heap.lt_size e)) e
  show wpAny _ A (do holding [v] (assign (.Name x px) cenv u); do holding [] (assign (.Name y py) cenv v); pure ()) _ _ _
  refine wpAny_bind (wpAny_holding (wpAny_assign_Name (wpAny_storeName_local hx (hn.keeps old₃) (fun h₄ hn₄ hs₄ => ?_) hp)))
  refine wpAny_bind (wpAny_holding (wpAny_assign_Name (wpAny_storeName_local hy hn₄ (fun h₅ hn₅ hs₅ => wpAny_pure ?_) hp)))
  refine hQ h₅ _ _ hn₅ ⟨?_, by simp⟩ (fun b o hb e => hs₅.extBut b o hb (hs₄.extBut b o hb (old₃ b o e))) ?_
  · rw [if_neg hxy]; simp
  · show tk ≤ tk + 1 + 1
    omega

theorem comp_block {elt target iter : PySem.Expr} {ifs : List PySem.Expr} {scope : Scope} {cl : List (Str × Addr)} {pos : Pos} {I : Addr} {fp wr : List Addr} {n : Nat} {P : Nat → Value → Nat → Nat → Prop} {Nx : Nat → Heap → Prop} {Q : Value → Shared → Prop}
    (W : MWalk prog w A I fp wr n P Nx) (hn20 : n < 2 ^ 20) (pz : Nat → Bool) (G : Gr) (Bd : Nat → Value → (Str → Option Value) → Prop)
    (hcell : ∀ y ∈ scope.names, y.2 ≠ .cell) (hkind : scope.kind = .function)
    (hIf : I ∈ fp) (hIw : I ∈ wr) (hwrI : ∀ b ∈ wr, b = I) (hit : ∀ i h, Nx i h → ∃ o, h.get? I = some o ∧ (o.cls = .type "list_iterator" ∨ o.cls = .type "range_iterator"))
    (hst : Nx 0 s.heap) (hfp : ∀ b ∈ fp, b < s.heap.objs.size)
    (hbind : ∀ C D (s' : Shared) i v lo hi, s.heap.objs.size ≤ C → s.heap.objs.size ≤ D → Kp s.heap s'.heap → i < n → P i v lo hi → BindsAt prog w A target I D (compEnvC scope cl C env) s' v (Bd i v))
    (tests : ∀ C i v lo hi h3 tk3 m3, s.heap.objs.size ≤ C → i < n → P i v lo hi → hi ≤ tk3 → s.toks ≤ lo → h3.Ns C m3 → Bd i v m3 → (∀ b o, b ≠ I → s.heap.get? b = some o → h3.get? b = some o) →
      wpAny (model prog w) A (forIn ifs true fun c r => if r = true then do let ok ← isTrue c (compEnvC scope cl C env) (eval c (compEnvC scope cl C env)); pure (ForInStep.yield ok) else pure (ForInStep.yield r))
        (fun ok s₄ => ok = pz i ∧ Keeps { s with heap := h3, toks := tk3 } s₄) (fun _ _ => False) { s with heap := h3, toks := tk3 })
    (elts : ∀ C i v lo hi h3 tk3 m3, s.heap.objs.size ≤ C → i < n → pz i = true → P i v lo hi → hi ≤ tk3 → s.toks ≤ lo → h3.Ns C m3 → Bd i v m3 → (∀ b o, b ≠ I → s.heap.get? b = some o → h3.get? b = some o) →
      wpAny (model prog w) A (eval elt (compEnvC scope cl C env)) (fun y s₄ => Keeps { s with heap := h3, toks := tk3 } s₄ ∧ ∃ as, (∀ hh, s₄.toks ≤ hh → G i y as lo hh) ∧ ∀ q ∈ as, h3.get? q.1 = none ∧ s₄.heap.get? q.1 = some q.2) (fun _ _ => False) { s with heap := h3, toks := tk3 })
    (done : ∀ D h' tk log, s.heap.objs.size ≤ D → LL h' D (log.map (·.y)) → log.map (·.i) = (List.range n).filter pz → LogOk G s.toks (fun b => b ≠ D ∧ s.heap.get? b = none) h' tk log →
      (∀ b o, b ≠ I → s.heap.get? b = some o → h'.get? b = some o) → s.toks ≤ tk → Q (.ref D) { s with heap := h', toks := tk }) :
    wpAny (model prog w) A (newList []) (fun acc s₃ => wpAny (model prog w) A (newFunctionEnv scope env.globals cl [] env.qual none .none (some env)) (fun cenv s₄ =>
      codeAny (model prog w) A (.compStart (.ListComp elt [⟨target, iter, ifs, 0⟩] scope pos) 0 (.ref I) acc { cenv with scope := relabel scope env }) (compPost (model prog w) A E none Q acc cenv.locals) s₄) E s₃) E s := by
  refine wpAny_newObj_type (wpAny_newFunctionEnv hcell (by intro y hy; simp at hy) (fun h₁ hns₁ hsb₁ => ?_) hkind)
  dsimp only at hns₁ hsb₁ ⊢
  generalize hH2 : s.heap.push { cls := .type "list", dict := none, data := .seq ([] : List Value).toArray } = H2 at hns₁ hsb₁ ⊢
  have hC : H2.objs.size = s.heap.objs.size + 1 := by rw [← hH2, Heap.size_push]
  have hDC : s.heap.objs.size ≠ H2.objs.size := by rw [hC]; exact Nat.ne_of_lt (Nat.lt_succ_self _)
  have hCle : s.heap.objs.size ≤ H2.objs.size := by rw [hC]; exact Nat.le_succ _
  have below : ∀ b, b < s.heap.objs.size → b ≠ H2.objs.size ∧ b ≠ s.heap.objs.size := fun b hb => ⟨by rw [hC]; exact Nat.ne_of_lt (Nat.lt_succ_of_lt hb), Nat.ne_of_lt hb⟩
  have hDf : s.heap.objs.size ∉ fp := fun hm => Nat.lt_irrefl _ (hfp _ hm)
  have hCf : H2.objs.size ∉ fp := fun hm => by have := hfp _ hm; rw [hC] at this; exact Nat.lt_irrefl _ (Nat.lt_of_succ_lt this)
  have old : ∀ b o, s.heap.get? b = some o → h₁.get? b = some o := fun b o e => hsb₁.extBut b o (below b (Heap.lt_size e)).1 (Heap.get?_push_of_some _ (hH2 ▸ Heap.get?_push_of_some _ e))
  have hacc : LL h₁ s.heap.objs.size [] := ⟨_, hsb₁.extBut _ _ hDC (Heap.get?_push_of_some _ (hH2 ▸ Heap.get?_push_size _ rfl))⟩
  have hst₁ : Nx 0 h₁ := W.frame _ _ _ hst fun b _ o e => old b o e
  have up : ∀ {h3 : Heap}, (∀ b o, b ≠ H2.objs.size → b ≠ I → b ≠ s.heap.objs.size → h₁.get? b = some o → h3.get? b = some o) → ∀ b o, b ≠ I → s.heap.get? b = some o → h3.get? b = some o := fun hk b o hbI e =>
    hk b o (below b (Heap.lt_size e)).1 hbI (below b (Heap.lt_size e)).2 (old b o e)
  have loop : ∀ s₃ : Shared, s₃ = { s with heap := h₁, toks := s.toks + ([] : List (Str × Value)).length } →
      codeAny (model prog w) A (.compLoop (.ListComp elt [⟨target, iter, ifs, 0⟩] scope pos) 0 (.ref I) (.ref s.heap.objs.size) (compEnvC scope cl H2.objs.size env))
        (compPost (model prog w) A E none Q (.ref s.heap.objs.size) H2.objs.size) s₃ := by
    rintro s₃ rfl
    refine comp_core (cenv := compEnvC scope cl H2.objs.size env) W hn20 pz G Bd hIf hIw hwrI hDC hDf hCf hit hst₁ hacc hns₁
      (fun i v lo hi hin hP => hbind _ _ _ i v lo hi hCle (Nat.le_refl _) old hin hP)
      (fun i v lo hi h3 tk3 m3 hin hP h1 h2 hn hb hk => tests _ i v lo hi h3 tk3 m3 hCle hin hP h1 (by simpa using h2) hn hb (up hk))
      (fun i v lo hi h3 tk3 m3 hin hz hP h1 h2 hn hb hk => elts _ i v lo hi h3 tk3 m3 hCle hin hz hP h1 (by simpa using h2) hn hb (up hk)) fun h' tk m' log hn hD hidx hlog hk htk => ?_
    refine ⟨m', hn, fun h'' hs'' => ?_⟩
    have hsC : ∀ b o, b ≠ H2.objs.size → h'.get? b = some o → h''.get? b = some o := fun b o hb e => hs''.extBut b o hb e
    refine done _ h'' tk log (Nat.le_refl _) (hD.at fun o e => hsC _ o hDC e) hidx ?_ (fun b o hbI e => hsC b o (below b (Heap.lt_size e)).1 (up hk b o hbI e)) (by simpa using htk)
    refine ⟨fun e he => ?_, hlog.2⟩
    obtain ⟨a1, a2, a3, a4⟩ := hlog.1 e he
    refine ⟨by simpa using a1, a2, a3, fun q hq => ⟨hsC _ _ (a4 q hq).2.1 (a4 q hq).1, (a4 q hq).2.2.2.1, ?_⟩⟩
    cases e : s.heap.get? q.1 with
    | none => rfl
    | some o => have := (a4 q hq).2.2.2.2; rw [old _ _ e] at this; cases this
  exact codeAny_compStart_list (loop _ rfl) (W.self 0 _ _ _ hst₁ (loop _ rfl))
end
end Mine
end

/-! L6 -/
section
open PySem PySem.W PySem.Calls PySem.Spec PyProof.Rows
set_option Elab.async false
set_option autoImplicit false
set_option maxRecDepth 100000
set_option maxHeartbeats 4000000
namespace Mine
section
variable {prog : Program} {w : World} {A : Around} {E : Value → Shared → Prop} {s : Shared} {env : Env} {g : Heap} {L : Addr}

def TestIs (b : Bool) (s₃ : Shared) (ok : Bool) (s₄ : Shared) : Prop := ok = b ∧ Keeps s₃ s₄
def EltIs (G : Gr) (i base : Nat) (s₃ : Shared) (y : Value) (s₄ : Shared) : Prop :=
  Keeps s₃ s₄ ∧ ∃ as, (∀ lo hh, base ≤ lo → lo ≤ s₃.toks → s₄.toks ≤ hh → G i y as lo hh) ∧ ∀ q ∈ as, s₃.heap.get? q.1 = none ∧ s₄.heap.get? q.1 = some q.2
theorem TestIs.intro {b ok : Bool} {s₃ : Shared} {h' : Heap} {tk' : Nat} (e : ok = b) (k : ∀ b o, s₃.heap.get? b = some o → h'.get? b = some o) : TestIs b s₃ ok { s₃ with heap := h', toks := tk' } := ⟨e, h', tk', rfl, k⟩
theorem EltIs.plain {G : Gr} {i base : Nat} {s₃ : Shared} {y : Value} {h' : Heap} {tk' : Nat} (k : ∀ b o, s₃.heap.get? b = some o → h'.get? b = some o) (e : ∀ lo hh, base ≤ lo → lo ≤ s₃.toks → tk' ≤ hh → G i y [] lo hh) : EltIs G i base s₃ y { s₃ with heap := h', toks := tk' } :=
  ⟨⟨h', tk', rfl, k⟩, [], e, by simp⟩
theorem EltIs.news {G : Gr} {i base : Nat} {s₃ : Shared} {y : Value} {h' : Heap} {tk' : Nat} (as : List (Addr × Obj)) (k : ∀ b o, s₃.heap.get? b = some o → h'.get? b = some o) (e : ∀ lo hh, base ≤ lo → lo ≤ s₃.toks → tk' ≤ hh → G i y as lo hh)
    (q : ∀ q ∈ as, s₃.heap.get? q.1 = none ∧ h'.get? q.1 = some q.2) : EltIs G i base s₃ y { s₃ with heap := h', toks := tk' } := ⟨⟨h', tk', rfl, k⟩, as, e, q⟩
/-- what a comprehension's test or element is asked, from the state s₁ behind its source -/
def CompAsk (prog : Program) (w : World) (A : Around) (env : Env) (scope : Scope) (cl : List (Str × Addr)) (g : Heap) (L : Addr) (m : Str → Option Value) (news : List (Addr × Obj)) (ifs : List PySem.Expr) (elt : PySem.Expr) (n : Nat)
    (Pv : Nat → Value → Nat → Prop) (pz : Nat → Bool) (G : Gr) (Bd : Nat → Value → (Str → Option Value) → Prop) (s₁ : Shared) : Prop :=
  ∀ C i v h3 tk3 m3, C ≠ L → s₁.heap.get? C = none → i < n → Pv i v tk3 → s₁.toks ≤ tk3 → h3.Ns C m3 → Bd i v m3 → Kp s₁.heap h3 → Fr g L h3 m → News g L h3 news →
    wpAny (model prog w) A (forIn ifs true fun c r => if r = true then do let ok ← isTrue c (compEnvC scope cl C env) (eval c (compEnvC scope cl C env)); pure (ForInStep.yield ok) else pure (ForInStep.yield r))
        (TestIs (pz i) { s₁ with heap := h3, toks := tk3 }) (fun _ _ => False) { s₁ with heap := h3, toks := tk3 } ∧
    (pz i = true → wpAny (model prog w) A (eval elt (compEnvC scope cl C env)) (EltIs G i s₁.toks { s₁ with heap := h3, toks := tk3 }) (fun _ _ => False) { s₁ with heap := h3, toks := tk3 })

def CompEndK (g : Heap) (L : Addr) (m : Str → Option Value) (news : List (Addr × Obj)) (n : Nat) (pz : Nat → Bool) (G : Gr) (Q : Value → Shared → Prop) (s₁ : Shared) : Prop :=
  ∀ D h' tk log, s₁.heap.get? D = none → g.get? D = none → D ≠ L → LL h' D (log.map (·.y)) → log.map (·.i) = (List.range n).filter pz → LogOk G s₁.toks (fun b => b ≠ D ∧ s₁.heap.get? b = none) h' tk log → Kp s₁.heap h' →
    Fr g L h' m → News g L h' news → s₁.toks ≤ tk → Q (.ref D) { s₁ with heap := h', toks := tk }

def ListSrc (prog : Program) (w : World) (A : Around) (env : Env) (scope : Scope) (cl : List (Str × Addr)) (target : PySem.Expr) (ifs : List PySem.Expr) (elt : PySem.Expr) (g : Heap) (L : Addr) (pz : Nat → Bool) (G : Gr) (Bd : Nat → Value → (Str → Option Value) → Prop) (Q : Value → Shared → Prop) (xv : Value) (s₁ : Shared) : Prop :=
  ∃ (ax : Addr) (vs : List Value) (m : Str → Option Value) (news : List (Addr × Obj)), xv = .ref ax ∧ s₁.heap.IsList ax vs.toArray ∧ vs.length < 2 ^ 20 ∧ Fr g L s₁.heap m ∧ News g L s₁.heap news ∧
      (∀ I C D (s' : Shared) i v, s₁.heap.get? I = none → s₁.heap.get? C = none → s₁.heap.get? D = none → Kp s₁.heap s'.heap → vs[i]? = some v → BindsAt prog w A target I D (compEnvC scope cl C env) s' v (Bd i v)) ∧
      CompAsk prog w A env scope cl g L m news ifs elt vs.length (fun i v _ => vs[i]? = some v) pz G Bd s₁ ∧
      CompEndK g L m news vs.length pz G Q s₁

def RangeSrc (prog : Program) (w : World) (A : Around) (env : Env) (scope : Scope) (cl : List (Str × Addr)) (target : PySem.Expr) (ifs : List PySem.Expr) (elt : PySem.Expr) (g : Heap) (L : Addr) (pz : Nat → Bool) (G : Gr) (Bd : Nat → Value → (Str → Option Value) → Prop) (Q : Value → Shared → Prop) (xv : Value) (s₁ : Shared) : Prop :=
  ∃ (r : Addr) (n : Nat) (t u v : Tok) (m : Str → Option Value) (news : List (Addr × Obj)), xv = .ref r ∧ IsRange s₁.heap r 0 (n : Int) 1 t u v ∧ n < 2 ^ 20 ∧ Fr g L s₁.heap m ∧ News g L s₁.heap news ∧
      (∀ I C D (s' : Shared) i v, s₁.heap.get? I = none → s₁.heap.get? C = none → s₁.heap.get? D = none → Kp s₁.heap s'.heap → BindsAt prog w A target I D (compEnvC scope cl C env) s' v (Bd i v)) ∧
      CompAsk prog w A env scope cl g L m news ifs elt n (fun i v tk3 => ∃ t, v = .int (i : Int) t ∧ s₁.toks ≤ t ∧ t < tk3) pz G Bd s₁ ∧
      CompEndK g L m news n pz G Q s₁

theorem ListSrc.intro {scope : Scope} {cl : List (Str × Addr)} {target : PySem.Expr} {ifs : List PySem.Expr} {elt : PySem.Expr} {pz : Nat → Bool} {G : Gr} {Bd : Nat → Value → (Str → Option Value) → Prop} {Q : Value → Shared → Prop} {ax : Addr} {s₁ : Shared} {m : Str → Option Value} {news : List (Addr × Obj)} (vs : List Value)
    (F : Fr g L s₁.heap m) (N : News g L s₁.heap news) (hl : LL s₁.heap ax vs) (hn : vs.length < 2 ^ 20)
    (hb : ∀ I C D (s' : Shared) i v, s₁.heap.get? I = none → s₁.heap.get? C = none → s₁.heap.get? D = none → Kp s₁.heap s'.heap → vs[i]? = some v → BindsAt prog w A target I D (compEnvC scope cl C env) s' v (Bd i v))
    (ask : CompAsk prog w A env scope cl g L m news ifs elt vs.length (fun i v _ => vs[i]? = some v) pz G Bd s₁)
    (fin : CompEndK g L m news vs.length pz G Q s₁) : ListSrc prog w A env scope cl target ifs elt g L pz G Bd Q (.ref ax) s₁ :=
  ⟨ax, vs, m, news, rfl, hl.isList, hn, F, N, hb, ask, fin⟩
theorem RangeSrc.intro {scope : Scope} {cl : List (Str × Addr)} {target : PySem.Expr} {ifs : List PySem.Expr} {elt : PySem.Expr} {pz : Nat → Bool} {G : Gr} {Bd : Nat → Value → (Str → Option Value) → Prop} {Q : Value → Shared → Prop} {r : Addr} {s₁ : Shared} {m : Str → Option Value} {news : List (Addr × Obj)} {t u v : Tok} (n : Nat)
    (F : Fr g L s₁.heap m) (N : News g L s₁.heap news) (hl : IsRange s₁.heap r 0 (n : Int) 1 t u v) (hn : n < 2 ^ 20)
    (hb : ∀ I C D (s' : Shared) i v, s₁.heap.get? I = none → s₁.heap.get? C = none → s₁.heap.get? D = none → Kp s₁.heap s'.heap → BindsAt prog w A target I D (compEnvC scope cl C env) s' v (Bd i v))
    (ask : CompAsk prog w A env scope cl g L m news ifs elt n (fun i v tk3 => ∃ t, v = .int (i : Int) t ∧ s₁.toks ≤ t ∧ t < tk3) pz G Bd s₁)
    (fin : CompEndK g L m news n pz G Q s₁) : RangeSrc prog w A env scope cl target ifs elt g L pz G Bd Q (.ref r) s₁ :=
  ⟨r, n, t, u, v, m, news, rfl, hl, hn, F, N, hb, ask, fin⟩

theorem ge_none {h : Heap} {b : Addr} (hb : h.objs.size ≤ b) : h.get? b = none := by
  cases e : h.get? b with
  | none => rfl
  | some o => exact absurd (Heap.lt_size e) (Nat.not_lt.mpr hb)

theorem comp_list {elt target iter : PySem.Expr} {ifs : List PySem.Expr} {scope : Scope} {cl : List (Str × Addr)} {pos : Pos} {Q : Value → Shared → Prop} (pz : Nat → Bool) (G : Gr) (Bd : Nat → Value → (Str → Option Value) → Prop)
    (hh : A.handled = none) (hclos : closureFor scope env = pure cl) (hcell : ∀ y ∈ scope.names, y.2 ≠ .cell) (hkind : scope.kind = .function) (hnames : ∀ y ∈ scope.names, y.2 = .local → scope.names.lookup y.1 = some .local)
    (h : wpAny (model prog w) A (eval iter env) (ListSrc prog w A env scope cl target ifs elt g L pz G Bd Q) E s)
    (hs : ∀ x, foldedSetIterable iter env x = pure x := by intro _; rfl) :
    wpAny (model prog w) A (eval (.ListComp elt [⟨target, iter, ifs, 0⟩] scope pos) env) Q E s := by
  rw [eval_ListComp]
  refine wpAny_comprehension_free (use := none) rfl hs hclos hkind hnames (wpAny_mono h (fun xv s₁ h₁ => ?_) fun _ _ e => e)
  refine exE4 h₁ fun ax vs m news jj => andE8 jj fun ez4 hl hn20 F N hbind hask hend => ?_
  clear jj
  clear h₁
  subst ez4
  obtain ⟨ol, hol, _⟩ := id hl
  have hax : ax < s₁.heap.objs.size := Heap.lt_size hol
  refine wpAny_pyIter_list hl ?_
  generalize hH1 : s₁.heap.push { cls := .type "list_iterator", data := .fields #[.ref ax, .int 0 0] } = H1
  have hz : H1.objs.size = s₁.heap.objs.size + 1 := by rw [← hH1, Heap.size_push]
  have k₁ : Kp s₁.heap H1 := fun b o e => hH1 ▸ Heap.get?_push_of_some _ e
  have hI : H1.get? s₁.heap.objs.size = some { cls := .type "list_iterator", data := .fields #[.ref ax, .int 0 0] } := hH1 ▸ Heap.get?_push_size _ rfl
  have up : ∀ {h3 : Heap}, (∀ b o, b ≠ s₁.heap.objs.size → H1.get? b = some o → h3.get? b = some o) → Kp s₁.heap h3 := fun hk b o e => hk b o (Nat.ne_of_lt (Heap.lt_size e)) (k₁ b o e)
  have hCL : ∀ {C : Addr}, H1.objs.size ≤ C → C ≠ L ∧ s₁.heap.get? C = none := fun hC => ⟨(size_none F (by omega)).2, ge_none (by omega)⟩
  refine comp_block (W := mwalk_list hh s₁.heap.objs.size ax (Nat.ne_of_lt hax) vs) hn20 pz G Bd hcell hkind (by simp) (by simp) (by simp) (fun i h st => ?_) ⟨⟨_, hI, rfl, rfl⟩, hl.at fun o e => k₁ _ _ e⟩ ?_ ?_ ?_ ?_ ?_
  · obtain ⟨o, e, hc, _⟩ := st.1
    exact ⟨o, e, .inl hc⟩
  · intro b hb
    show b < H1.objs.size
    rw [hz]
    rcases List.mem_cons.mp hb with rfl | hb
    · exact Nat.lt_succ_self _
    · rw [List.mem_singleton.mp hb]; exact Nat.lt_succ_of_lt hax
  · intro C D s' i v lo hi hC hD hk hin hP
    exact hbind _ C D s' i v (ge_none (Nat.le_refl _)) (hCL hC).2 (hCL hD).2 (Kp.trans k₁ hk) hP.1
  · intro C i v lo hi h3 tk3 m3 hC hin hP h1 h2 hn hb hk
    have k3 := up hk
    exact (hask C i v h3 tk3 m3 (hCL hC).1 (hCL hC).2 hin hP.1 (Nat.le_trans h2 (Nat.le_trans hP.2 h1)) hn hb k3 (F.keeps k3) (N.grown k3)).1
  · intro C i v lo hi h3 tk3 m3 hC hin hz hP h1 h2 hn hb hk
    have k3 := up hk
    refine wpAny_mono ((hask C i v h3 tk3 m3 (hCL hC).1 (hCL hC).2 hin hP.1 (Nat.le_trans h2 (Nat.le_trans hP.2 h1)) hn hb k3 (F.keeps k3) (N.grown k3)).2 hz) (fun y s₄ h₄ => ?_) fun _ _ e => e
    obtain ⟨q1, as, q2, q3⟩ := h₄
    exact ⟨q1, as, fun hh' hle => q2 lo hh' h2 (Nat.le_trans hP.2 h1) hle, q3⟩
  · intro D h' tk log hD hl' hidx hlog hk htk
    have k3 := up hk
    refine hend D h' tk log (hCL hD).2 (size_none F (show s₁.heap.objs.size ≤ D from Nat.le_trans (by rw [hz]; exact Nat.le_succ _) hD)).1 (hCL hD).1 hl' hidx ⟨fun e he => ?_, hlog.2⟩ k3 (F.keeps k3) (N.grown k3) htk
    obtain ⟨a1, a2, a3, a4⟩ := hlog.1 e he
    refine ⟨a1, a2, a3, fun q hq => ⟨(a4 q hq).1, (a4 q hq).2.1, ?_⟩⟩
    cases e : s₁.heap.get? q.1 with
    | none => rfl
    | some o => have := (a4 q hq).2.2; rw [k₁ _ _ e] at this; cases this

theorem comp_range {elt target iter : PySem.Expr} {ifs : List PySem.Expr} {scope : Scope} {cl : List (Str × Addr)} {pos : Pos} {Q : Value → Shared → Prop} (pz : Nat → Bool) (G : Gr) (Bd : Nat → Value → (Str → Option Value) → Prop)
    (hh : A.handled = none) (hclos : closureFor scope env = pure cl) (hcell : ∀ y ∈ scope.names, y.2 ≠ .cell) (hkind : scope.kind = .function) (hnames : ∀ y ∈ scope.names, y.2 = .local → scope.names.lookup y.1 = some .local)
    (h : wpAny (model prog w) A (eval iter env) (RangeSrc prog w A env scope cl target ifs elt g L pz G Bd Q) E s)
    (hs : ∀ x, foldedSetIterable iter env x = pure x := by intro _; rfl) :
    wpAny (model prog w) A (eval (.ListComp elt [⟨target, iter, ifs, 0⟩] scope pos) env) Q E s := by
  rw [eval_ListComp]
  refine wpAny_comprehension_free (use := none) rfl hs hclos hkind hnames (wpAny_mono h (fun xv s₁ h₁ => ?_) fun _ _ e => e)
  refine exE7 h₁ fun r n t u v m news jj => andE8 jj fun ez7 hr hn20 F N hbind hask hend => ?_
  clear jj
  clear h₁
  subst ez7
  have hsize : Builtin.Range.rangeSize 0 (n : Int) 1 = (n : Int) := by
    unfold Builtin.Range.rangeSize
    simp
    omega
  have hsmall : Builtin.Range.small 0 (n : Int) 1 = true := by
    unfold Builtin.Range.small Builtin.Range.rangeFitsLong
    rw [hsize]
    simp
    omega
  refine wpAny_pyIter_range hr hsmall ?_
  rw [hsize]
  generalize hH1 : s₁.heap.push { cls := .type "range_iterator", data := .fields #[rawInt 0, rawInt (n : Int), rawInt 1] } = H1
  have hz : H1.objs.size = s₁.heap.objs.size + 1 := by rw [← hH1, Heap.size_push]
  have k₁ : Kp s₁.heap H1 := fun b o e => hH1 ▸ Heap.get?_push_of_some _ e
  have hI : H1.get? s₁.heap.objs.size = some { cls := .type "range_iterator", data := .fields #[rawInt 0, rawInt (n : Int), rawInt 1] } := hH1 ▸ Heap.get?_push_size _ rfl
  have up : ∀ {h3 : Heap}, (∀ b o, b ≠ s₁.heap.objs.size → H1.get? b = some o → h3.get? b = some o) → Kp s₁.heap h3 := fun hk b o e => hk b o (Nat.ne_of_lt (Heap.lt_size e)) (k₁ b o e)
  have hCL : ∀ {C : Addr}, H1.objs.size ≤ C → C ≠ L ∧ s₁.heap.get? C = none := fun hC => ⟨(size_none F (by omega)).2, ge_none (by omega)⟩
  refine comp_block (W := mwalk_range hh s₁.heap.objs.size n) hn20 pz G Bd hcell hkind (by simp) (by simp) (by simp) (fun i h st => ⟨_, st, .inr rfl⟩) (by simpa using hI) ?_ ?_ ?_ ?_ ?_
  · intro b hb
    show b < H1.objs.size
    rw [List.mem_singleton.mp hb, hz]; exact Nat.lt_succ_self _
  · intro C D s' i v lo hi hC hD hk hin hP
    exact hbind _ C D s' i v (ge_none (Nat.le_refl _)) (hCL hC).2 (hCL hD).2 (Kp.trans k₁ hk)
  · intro C i v lo hi h3 tk3 m3 hC hin hP h1 h2 hn hb hk
    have k3 := up hk
    have h2 : s₁.toks ≤ lo := h2
    obtain ⟨t9, e9, l9, u9⟩ := hP
    exact (hask C i v h3 tk3 m3 (hCL hC).1 (hCL hC).2 hin ⟨t9, e9, Nat.le_trans h2 l9, Nat.lt_of_lt_of_le u9 h1⟩ (Nat.le_trans h2 (Nat.le_trans (Nat.le_trans l9 (Nat.le_of_lt u9)) h1)) hn hb k3 (F.keeps k3) (N.grown k3)).1
  · intro C i v lo hi h3 tk3 m3 hC hin hz hP h1 h2 hn hb hk
    have k3 := up hk
    have h2 : s₁.toks ≤ lo := h2
    obtain ⟨t9, e9, l9, u9⟩ := hP
    refine wpAny_mono ((hask C i v h3 tk3 m3 (hCL hC).1 (hCL hC).2 hin ⟨t9, e9, Nat.le_trans h2 l9, Nat.lt_of_lt_of_le u9 h1⟩ (Nat.le_trans h2 (Nat.le_trans (Nat.le_trans l9 (Nat.le_of_lt u9)) h1)) hn hb k3 (F.keeps k3) (N.grown k3)).2 hz) (fun y s₄ h₄ => ?_) fun _ _ e => e
    obtain ⟨q1, as, q2, q3⟩ := h₄
    exact ⟨q1, as, fun hh' hle => q2 lo hh' h2 (Nat.le_trans (Nat.le_trans l9 (Nat.le_of_lt u9)) h1) hle, q3⟩
  · intro D h' tk log hD hl' hidx hlog hk htk
    have k3 := up hk
    refine hend D h' tk log (hCL hD).2 (size_none F (show s₁.heap.objs.size ≤ D from Nat.le_trans (by rw [hz]; exact Nat.le_succ _) hD)).1 (hCL hD).1 hl' hidx ⟨fun e he => ?_, hlog.2⟩ k3 (F.keeps k3) (N.grown k3) htk
    obtain ⟨a1, a2, a3, a4⟩ := hlog.1 e he
    refine ⟨a1, a2, a3, fun q hq => ⟨(a4 q hq).1, (a4 q hq).2.1, ?_⟩⟩
    cases e : s₁.heap.get? q.1 with
    | none => rfl
    | some o => have := (a4 q hq).2.2; rw [k₁ _ _ e] at this; cases this
end
end Mine
end

/-! L7 -/
section
open PySem PySem.W PySem.Calls PySem.Spec PyProof.Rows
set_option Elab.async false
set_option autoImplicit false
set_option maxRecDepth 100000
set_option maxHeartbeats 4000000
namespace Mine
structure Row where
  a : Addr
  c : Nat
  t : Tok
  d : Nat
  u : Tok
deriving Inhabited
abbrev Row.ref (r : Row) : Value := .ref r.a
abbrev Row.name (r : Row) : Value := .str (nm r.c) r.t
abbrev Row.val (r : Row) : Value := .str (sg r.d) r.u
def Rows (h : Heap) (rs : List Row) : Prop := ∀ r ∈ rs, r.c < 6 ∧ r.d < 6 ∧ TT h r.a [r.name, r.val]
def HT (h : Heap) (x hl : Addr) : Prop := ∃ dx ehash te nx, h.get? x = some (instObj 242 dx) ∧ h.get? dx = some (dictOf [⟨ehash, .str (Str.ofString "_headers") te, .ref hl⟩] nx)
theorem Rows.kp {h h' : Heap} {rs : List Row} (x : Rows h rs) (k : Kp h h') : Rows h' rs := fun r hr => let ⟨a, b, c⟩ := x r hr; ⟨a, b, c.kp k⟩
theorem TT.notList {h : Heap} {a : Addr} {vs us : List Value} (x : TT h a vs) (y : LL h a us) : False := by
  obtain ⟨n, e⟩ := x; obtain ⟨n', e'⟩ := y
  rw [e] at e'
  have e2 := congrArg Obj.cls (Option.some.inj e')
  injection e2 with e2
  exact absurd e2 (by decide)
theorem Rows.kx {h h' : Heap} {rs : List Row} {l : Addr} {us : List Value} (x : Rows h rs) (k : Kx [l] h h') (y : LL h l us) : Rows h' rs := fun r hr => by
  obtain ⟨a, b, n, e⟩ := x r hr
  refine ⟨a, b, n, k _ _ e fun q => ?_⟩
  rw [List.mem_singleton.mp q] at e
  exact TT.notList ⟨n, e⟩ y
theorem HT.kp {h h' : Heap} {x hl : Addr} (y : HT h x hl) (k : Kp h h') : HT h' x hl := let ⟨dx, a, b, c, e, f⟩ := y; ⟨dx, a, b, c, k _ _ e, k _ _ f⟩
theorem HT.kx {h h' : Heap} {x hl l : Addr} {us : List Value} (y : HT h x hl) (k : Kx [l] h h') (z : LL h l us) : HT h' x hl := by
  obtain ⟨dx, a, b, c, e, f⟩ := y
  obtain ⟨n, e'⟩ := z
  refine ⟨dx, a, b, c, k _ _ e fun q => ?_, k _ _ f fun q => ?_⟩
  · rw [List.mem_singleton.mp q, e'] at e
    have e2 := congrArg Obj.cls (Option.some.inj e)
    cases e2
  · rw [List.mem_singleton.mp q, e'] at f
    have e2 := congrArg Obj.data (Option.some.inj f)
    cases e2
theorem inst_fr {g h : Heap} {L x dx : Addr} {m : Str → Option Value} {d : Obj} {c : Addr} (I : InstAt g x (instObj c dx) c (some d)) (F : Fr g L h m) : InstAt h x (instObj c dx) c (some d) := ⟨F.keep _ _ I.at_, rfl, rfl, F.keep _ _ I.dict⟩
theorem logs {log : List LogE} {n : Nat} {pz : Nat → Bool} {f : Nat → Value} (hi : log.map (·.i) = (List.range n).filter pz) (hv : ∀ e ∈ log, e.y = f e.i) : log.map (·.y) = ((List.range n).filter pz).map f := by
  rw [← hi, List.map_map]
  exact List.map_congr_left fun e he => hv e he
theorem range_map {α β : Type} [Inhabited α] (xs : List α) (P : α → Bool) (f : α → β) :
    (((List.range xs.length).filter fun i => P (xs.getD i default)).map fun i => f (xs.getD i default)) = (xs.filter P).map f := by
  have e : xs = (List.range xs.length).map fun i => xs.getD i default := by
    apply List.ext_getElem
    · simp
    · intro i h1 h2
      simp [h1]
  conv => rhs; rw [e]
  rw [List.filter_map, List.map_map]
  rfl
theorem getD_of {α : Type} [Inhabited α] {xs : List α} {i : Nat} {x : α} (h : xs[i]? = some x) : xs.getD i default = x := by
  rw [List.getD_eq_getElem?_getD, h]; rfl
theorem row_at {rs : List Row} {i : Nat} {v : Value} (h : (rs.map Row.ref)[i]? = some v) : ∃ r, rs[i]? = some r ∧ r ∈ rs ∧ v = .ref r.a := by
  rw [List.getElem?_map] at h
  cases e : rs[i]? with
  | none => rw [e] at h; cases h
  | some r => rw [e] at h; cases h; exact ⟨r, rfl, List.mem_of_getElem? e, rfl⟩
theorem nm_beq {c d : Nat} (hc : c < 6) (hd : d < 6) : (nm c == nm d) = (c == d) := by
  rw [Bool.eq_iff_iff, beq_iff_eq, beq_iff_eq]; exact nm_inj c d hc hd
theorem sg_beq {c d : Nat} (hc : c < 6) (hd : d < 6) : (sg c == sg d) = (c == d) := by
  rw [Bool.eq_iff_iff, beq_iff_eq, beq_iff_eq]; exact sg_inj c d hc hd
theorem none_of_kp {h h' : Heap} {b : Addr} (k : Kp h h') (e : h'.get? b = none) : h.get? b = none := by
  cases q : h.get? b with
  | none => rfl
  | some o => rw [k _ _ q] at e; cases e
theorem TT.ne {h : Heap} {a b : Addr} {vs : List Value} (x : TT h a vs) (e : h.get? b = none) : a ≠ b := fun q => by
  obtain ⟨n, e'⟩ := x; rw [q, e] at e'; cases e'
theorem LL.ne {h : Heap} {a b : Addr} {vs : List Value} (x : LL h a vs) (e : h.get? b = none) : a ≠ b := fun q => by
  obtain ⟨n, e'⟩ := x; rw [q, e] at e'; cases e'
theorem HT.apart {h : Heap} {x hl l : Addr} {us : List Value} (y : HT h x hl) (z : LL h l us) :
    ∃ dx ehash te nx, h.get? x = some (instObj 242 dx) ∧ h.get? dx = some (dictOf [⟨ehash, .str (Str.ofString "_headers") te, .ref hl⟩] nx) ∧ x ≠ l ∧ dx ≠ l := by
  obtain ⟨dx, a, b, c, e, f⟩ := y
  obtain ⟨n, e'⟩ := z
  refine ⟨dx, a, b, c, e, f, fun q => ?_, fun q => ?_⟩
  · rw [q, e'] at e
    have e2 := congrArg Obj.cls (Option.some.inj e)
    cases e2
  · rw [q, e'] at f
    have e2 := congrArg Obj.data (Option.some.inj f)
    cases e2
end Mine
end

/-! L8 -/
section
open PySem PySem.W PySem.Calls PySem.Spec PyProof.Rows
set_option Elab.async false
set_option autoImplicit false
set_option maxRecDepth 100000
set_option maxHeartbeats 4000000
namespace Mine
section
variable {prog : Program} {w : World} {A₀ A : Around} {s : Shared} {base h₀ : Heap} {outer : List Env} {L : Addr} {m : Str → Option Value} {env : Env} {news : List (Addr × Obj)}
  {K : Frag} {p : Program} {loose : List Str} {mean : ExcName → Option Value} {mg mb : Str → Option Value} {R : Result → Shared → Prop} {name qual : Str} {params : Arguments} {body : List Stmt} {scope : Scope} {dV kV doc pm cdv ct oc : Value} {an od : Option Addr} {osl : Array (Option Value)} {f : Addr} {args : Args} {binds : List (Str × Value)}
theorem enterK (B : Below A₀ base outer h₀) (F : Fr h₀ L s.heap m) (X₀ : K.In h₀) (N : News h₀ L s.heap news) (T : Top p loose mean mg mb h₀) (hA : A.frames = some (env :: outer)) (hf : env.frame = some L) (hke : env.scope.kind = .function)
    (ho : K.lookup f = some ⟨oc, od, .func (fnOf name qual params body scope dV kV doc pm an cdv ct), osl⟩) (hcd : codeIn K cdv qual = true) (hroom : A.depth < recursionLimit)
    (hbind : bindArgs (fnOf name qual params body scope dV kV doc pm an cdv ct) args = alloc ({ cls := .type "dict", data := .dict #[] } : Obj) >>= fun d => pure (binds ++ [((Str.ofString "_params"), Value.ref d)])) (hloc : ∀ y ∈ binds, scope.names.lookup y.1 = some .local)
    (hloc' : scope.names.lookup (Str.ofString "_params") = some .local)
    (h : ∀ g L' h₁ d, Fr h₀ L g m → Fr g L' h₁ (fun y => (binds ++ [((Str.ofString "_params"), Value.ref d)]).reverse.lookup y) → News g L' h₁ ((d, ({ cls := .type "dict", data := .dict #[] } : Obj)) :: news) → Below A base (env :: outer) g → K.In g → Top p loose mean mg mb g → GSub s.heap g (news.map (·.1)) → (d == sysModules) = false →
      wpAny (model prog w) (A.deeper (envOf qual scope L' f cdv)) (execs body (envOf qual scope L' f cdv))
        (fun fl s' => R (.ok (.ret (match fl with | .ret v => v | _ => .none))) s')
        (fun e s' => wpAny (model prog w) (A.deeper (envOf qual scope L' f cdv)) (leaving (envOf qual scope L' f cdv) e) (fun _ s'' => R (.error e) s'') (fun e' s'' => R (.error e') s'') s')
        { s with heap := h₁, toks := s.toks + (binds ++ [((Str.ofString "_params"), Value.ref d)]).length })
    (hco : scope.isCoroutine = false) (hgen : scope.isGenerator = false) (hk : scope.kind = .function)
    (hcell : ∀ x ∈ scope.names, x.2 ≠ .cell) : codeAny (model prog w) A (.call (.ref f) args) R s := by
  refine codeAny_call_function hroom ((X₀.keeps F.keep) _ _ ho) rfl hco hgen rfl (codeRec_of (X₀.keeps F.keep) hcd) ?_
  show wpAny _ _ (bindArgs (fnOf name qual params body scope dV kV doc pm an cdv ct) args) _ _ _
  rw [hbind]
  refine wpAny_bind (wpAny_alloc (wpAny_pure ?_))
  have F1 : Fr h₀ L (s.heap.push ({ cls := .type "dict", data := .dict #[] } : Obj)) m := F.push _
  have k1 : Kp s.heap (s.heap.push ({ cls := .type "dict", data := .dict #[] } : Obj)) := fun b o e => Heap.get?_push_of_some _ e
  have hb := size_none F (Nat.le_refl _)
  have N1 : News h₀ L (s.heap.push ({ cls := .type "dict", data := .dict #[] } : Obj)) ((s.heap.objs.size, ({ cls := .type "dict", data := .dict #[] } : Obj)) :: news) := fun p hp => by
    rcases List.mem_cons.mp hp with rfl | hp
    · exact ⟨Heap.get?_push_size _ rfl, hb.2, hb.1⟩
    · exact ⟨k1 _ _ (N p hp).1, (N p hp).2⟩
  obtain ⟨FG, BG, st, _⟩ := groundX (s := { s with heap := s.heap.push ({ cls := .type "dict", data := .dict #[] } : Obj) }) (R := R) B F1 N1 hA hf hke
  refine wpAny_newFunctionEnv hcell (fun y hy => ?_) (fun h₁ hns hsb => ?_) hk
  · rcases List.mem_append.mp hy with hy | hy
    · exact hloc y hy
    · rw [List.mem_singleton.mp hy]; exact hloc'
  · have hk₁ : ∀ b o, (s.heap.push ({ cls := .type "dict", data := .dict #[] } : Obj)).get? b = some o → h₁.get? b = some o := fun b o e =>
      hsb.extBut b o (Nat.ne_of_lt (Heap.lt_size e)) (Heap.get?_push_of_some _ e)
    refine ⟨(T.nolimit.keeps F1.keep).fresh _ hsb, codeAny_func ?_⟩
    refine h _ _ h₁ s.heap.objs.size FG ⟨hns, fun b o e => hk₁ b o (of_hideAll _ e), Nat.le_of_eq (hideAll_size _ _)⟩
      (fun p hp => ⟨hk₁ _ _ (N1 p hp).1, Nat.ne_of_lt (Heap.lt_size (N1 p hp).1), hideAll_none _ (List.mem_map_of_mem hp)⟩) BG (X₀.keeps st) (T.keeps st) (fun b o e n => hideAll_get _ (k1 b o e) fun q => ?_) ?_
    rcases List.mem_cons.mp q with q | q
    · rw [q] at e
      exact absurd (Heap.lt_size e) (Nat.lt_irrefl _)
    · exact n q
    · have h1 := modules_low T.nolimit
      have h2 : sysModules < s.heap.objs.size := Nat.lt_of_lt_of_le h1 (Nat.le_of_lt (Nat.lt_of_le_of_lt F.above F.ns.lt))
      exact beq_eq_false_iff_ne.mpr (Ne.symm (Nat.ne_of_lt h2))
end
section
variable {prog : Program} {w : World} {A : Around} {E : Value → Shared → Prop} {s : Shared} {env : Env} {g : Heap} {d : Addr} {m : Str → Option Value}
abbrev dict0 : Obj := { cls := .type "dict", data := .dict #[] }
theorem dict0_of {h : Heap} (e : h.get? d = some dict0) : h.DictAt (strKind prog w) d [] 0 := ⟨_, #[], e, ⟨rfl, rfl, rfl⟩, rfl, (by intro e he; simp at he), .nil, .nil⟩
theorem items_get {pl : Sem Bool} {Q : Value × List Value → Shared → Prop} (e : s.heap.get? d = some dict0) (h : Q (.builtin "dict.items", [.ref d]) s) :
    wpAny (model prog w) A (getMethod (.ref d) "items" pl) Q E s :=
  getMethod_builtin ⟨_, e, rfl⟩ F.plainAttrs_dict F.slot_dict_items F.type_dict_items (fun a q => by cases q; exact ⟨_, e, rfl⟩) h
theorem items_call {Q : Value → Shared → Prop} (e : s.heap.get? d = some dict0) (hd : (d == sysModules) = false)
    (h : ∀ v, v = s.heap.objs.size → Q (.ref v) { s with heap := s.heap.push { cls := .type "dict_items", data := .fields #[.ref d] } }) :
    wpAny (model prog w) A (call (.builtin "dict.items") [.ref d]) Q E s :=
  call_meetsIn F.slot_dict_items ⟨_, e, rfl⟩ F.entry_dict_items (F.args_dict_items_1 _) (meets_dict_items (strKind prog w) d hd)
    ⟨⟨[], ⟨_, #[], 0, e, ⟨rfl, rfl, rfl⟩, rfl, (by intro e he; simp at he), .nil, .nil⟩⟩, h _ rfl⟩
theorem items_iter {v : Addr} {Q : Value → Shared → Prop} (e : s.heap.get? d = some dict0) (hv : s.heap.IsItemsView v d)
    (h : ∀ it h', s.heap.get? it = none → Kp s.heap h' → (∀ {g : Heap} {L : Addr} {m : Str → Option Value}, Fr g L s.heap m → Fr g L h' m ∧ g.get? it = none ∧ it ≠ L) → IsItemIter h' it d 0 0 0 .none .none → d ≠ it → Q (.ref it) { s with heap := h' }) : wpAny (model prog w) A (pyIter (.ref v)) Q E s := by
  refine wpAny_pyIter_items (knd := strKind prog w) (kvs := []) (ep := 0) hv (dict0_of e) ?_
  exact h _ _ (ge_none (Nat.le_refl _)) (fun b o q => Heap.get?_push_of_some _ q) (fun F => ⟨F.push _, size_none F (Nat.le_refl _)⟩) (Heap.get?_push_size _ rfl) (Nat.ne_of_lt (Heap.lt_size e))
theorem for_items {R : Result → Shared → Prop} {xk xv : Str} {pk pv pt : Pos} {x1} {body : List Stmt} {it : Addr}
    (hh : A.handled = none) (hxk : env.kindOf xk = some .local) (hxv : env.kindOf xv = some .local)
    (hp : (env.scope.kind == .class || (env.scope.kind == .module && env.locals != env.globals)) = false)
    (F : Fr g env.locals s.heap m) (hgi : g.get? it = none) (hiL : it ≠ env.locals) (hdL : d ≠ env.locals) (hdi : d ≠ it)
    (hit : IsItemIter s.heap it d 0 0 0 .none .none) (e : s.heap.get? d = some dict0)
    (done : ∀ h' tk, Fr g env.locals h' m → (∀ b o, b ≠ env.locals → b ≠ it → s.heap.get? b = some o → h'.get? b = some o) → R (.ok .next) { s with heap := h', toks := tk }) :
    codeAny (model prog w) A (.forLoop (.Tuple [.Name xk pk, .Name xv pv] x1 pt) (.ref it) body [] env) R s := by
  refine codeAny_forLoop_items_locals (knd := strKind prog w) (kvs := []) (ep := 0) hh hxk hxv hp hiL hdL hdi hit (dict0_of e) F.ns (fun _ m' => m' = m) rfl (fun i k v key m₁ s₁ h => by simp at h) fun h' tk m' hn hm hk => ?_
  subst hm
  exact done h' tk ⟨hn, fun b o x => hk b o (Nat.ne_of_lt (Nat.lt_of_lt_of_le (Heap.lt_size x) F.above)) (fun q => by rw [q, hgi] at x; cases x) (F.keep b o x), F.above⟩ hk
end
end Mine
end

/-! L9 -/
section
open PySem PySem.W PySem.Calls PySem.Spec PyProof.Rows
set_option Elab.async false
set_option autoImplicit false
set_option maxRecDepth 100000
set_option maxHeartbeats 4000000
namespace Mine
section
variable {prog : Program} {w : World} {A : Around} {s : Shared} {env : Env} {g : Heap} {R : Result → Shared → Prop} {l : Addr} {vs : List Value} {m : Str → Option Value}
theorem iter_list' {E : Value → Shared → Prop} {L : Addr} {Q : Value → Shared → Prop} (F : Fr g L s.heap m) (hl : s.heap.IsList l vs.toArray)
    (h : ∀ it h', Fr g L h' m → Kp s.heap h' → h'.IsListIter it l 0 → g.get? it = none → it ≠ L → s.heap.get? it = none → Q (.ref it) { s with heap := h' }) : wpAny (model prog w) A (pyIter (.ref l)) Q E s := by
  refine wpAny_pyIter_list hl ?_
  have hb := size_none F (Nat.le_refl _)
  exact h _ _ (F.push _) (fun b o e => Heap.get?_push_of_some _ e) ⟨_, Heap.get?_push_size _ rfl, rfl, rfl⟩ hb.1 hb.2 (ge_none (Nat.le_refl _))
theorem news_off {h : Heap} {L it : Addr} {news : List (Addr × Obj)} (N : News g L h news) (e : h.get? it = none) : ∀ p ∈ news, p.1 ≠ it := fun p hp q => by
  have := (N p hp).1; rw [q, e] at this; cases this
theorem for_pairs {x y : Str} {px py pt : Pos} {x1} {body : List Stmt} {it : Addr} {news : List (Addr × Obj)} {f : Nat → Addr × Value × Value}
    (hh : A.handled = none) (hx : env.kindOf x = some .local) (hy : env.kindOf y = some .local)
    (hp : (env.scope.kind == .class || (env.scope.kind == .module && env.locals != env.globals)) = false)
    (F : Fr g env.locals s.heap m) (N : News g env.locals s.heap news) (hit : s.heap.IsListIter it l 0) (hl : g.IsList l vs.toArray)
    (hgi : g.get? it = none) (hiL : it ≠ env.locals) (hin : ∀ p ∈ news, p.1 ≠ it) (hf : ∀ i, i < vs.length → vs[i]? = some (.ref (f i).1) ∧ TT g (f i).1 [(f i).2.1, (f i).2.2])
    (J : Nat → (Str → Option Value) → Prop) (h0 : J 0 m)
    (step : ∀ i tk2 m₁ h ito, i < vs.length → J i m₁ → Fr g env.locals h (fun z => if z = y then some (f i).2.2 else if z = x then some (f i).2.1 else m₁ z) → News g env.locals h ((it, ito) :: news) →
      wpAny (model prog w) A (execs body env) (TurnEnd g env.locals s ((it, ito) :: news) (J (i + 1)) R) (fun _ _ => False) { s with heap := h, toks := tk2 })
    (done : ∀ m₁ h tk2, J vs.length m₁ → Fr g env.locals h m₁ → News g env.locals h news → R (.ok .next) { s with heap := h, toks := tk2 }) :
    codeAny (model prog w) A (.forLoop (.Tuple [.Name x px, .Name y py] x1 pt) (.ref it) body [] env) R s := by
  have hli : l ≠ it := fun q => by obtain ⟨o, ho, _⟩ := hl; rw [q, hgi] at ho; cases ho
  refine codeAny_forLoop_any
    (fun k s' => ∃ h' tk m' i, s' = { s with heap := h', toks := tk } ∧ h'.IsListIter it l i ∧ Fr g env.locals h' m' ∧ News g env.locals h' news ∧ J i m' ∧ i ≤ vs.length ∧
      k = vs.length + 1 - i) ?_ (vs.length + 1) ⟨s.heap, s.toks, m, 0, rfl, hit, F, N, h0, Nat.zero_le _, rfl⟩
  rintro k s' zz
  refine exE4 zz fun H tk m' i jj => andE7 jj fun ez4 hit' F' N' hJ hi ez10 => ?_
  clear jj zz
  subst ez4
  subst ez10
  have hl' : H.IsList l vs.toArray := hl.at fun o e => F'.keep l o e
  by_cases hil : i = vs.length
  · subst hil
    refine wpAny_pyNext_list_end hh hit' hl' (by simp) fun h₁ he₁ => wpAny_execs_nil ?_
    exact done m' h₁ tk hJ ⟨F'.ns.extBut he₁ (Ne.symm hiL), fun b o e => he₁ b o (fun q => by rw [q, hgi] at e; cases e) (F'.keep b o e), F'.above⟩
      fun p hp => ⟨he₁ _ _ (hin p hp) (N' p hp).1, (N' p hp).2⟩
  have hlt : i < vs.length := by omega
  obtain ⟨hv, nT, hT⟩ := hf i hlt
  have hv' : vs.toArray[i]? = some (.ref (f i).1) := by simpa using hv
  have hLH : env.locals < H.objs.size := F'.ns.lt
  refine wpAny_pyNext_list_item hit' hl' hv' fun h₁ hit₁ hs₁ => ?_
  replace hs₁ : Heap.SameBut it H h₁ := hs₁
  have hTi : (f i).1 ≠ it := fun q => by rw [q, hgi] at hT; cases hT
  have hT₁ : h₁.IsTuple (f i).1 #[(f i).2.1, (f i).2.2] := ⟨_, hs₁.extBut _ _ hTi (F'.keep _ _ hT), rfl, _, rfl⟩
  obtain ⟨oI, hoI, hcI, hdI⟩ := id hit₁
  unfold letOwnedTupleGo
  refine wpAny_bind (wpAny_load hoI ?_)
  have hgo : ∀ Q : Unit → Shared → Prop, Q () { s with heap := h₁, toks := tk } → wpAny (model prog w) A (match oI.cls, oI.data with
      | .type n, .fields vs =>
        if ["enumerate", "zip", "dict_itemiterator", "dict_reverseitemiterator", "odict_iterator", "itertools.zip_longest", "itertools.pairwise"].contains n && vs[0]? == some (rawInt (f i).1) then (do
          rule "for.unpacks-the-owned-tuple"
          updateField it 0 .none)
        else pure ()
      | _, _ => pure ()) Q (notedBy (model prog w) A env fun e s' => R (.error e) s') { s with heap := h₁, toks := tk } := by
    intro Q hq
    rw [hcI]
    cases oI.data <;> exact wpAny_pure hq
  refine hgo _ ?_
  refine wpAny_assign_Tuple hh hT₁ rfl rfl fun h₃ hx₃ => ?_
  replace hx₃ : Heap.ExtBut h₁.objs.size h₁ h₃ := hx₃
  have old₃ : ∀ b o, h₁.get? b = some o → h₃.get? b = some o := fun b o e => hx₃ b o (Nat.ne_of_lt (Heap.lt_size e)) e
  have hn₃ : h₃.Ns env.locals m' := (F'.ns.sameBut hs₁ (Ne.symm hiL)).keeps old₃
  show wpAny _ A (do holding [(f i).2.2] (assign (.Name x px) env (f i).2.1); do holding [] (assign (.Name y py) env (f i).2.2); pure ()) _ _ _
  refine wpAny_bind (wpAny_holding (wpAny_assign_Name (wpAny_storeName_local hx hn₃ (fun h₄ hn₄ hs₄ => ?_) hp)))
  replace hs₄ : Heap.SameBut env.locals h₃ h₄ := hs₄
  refine wpAny_bind (wpAny_holding (wpAny_assign_Name (wpAny_storeName_local hy hn₄ (fun h₅ hn₅ hs₅ => wpAny_pure ?_) hp)))
  replace hs₅ : Heap.SameBut env.locals h₄ h₅ := hs₅
  have up : ∀ b o, b ≠ env.locals → b ≠ it → H.get? b = some o → h₅.get? b = some o := fun b o hb hb2 e => hs₅.extBut b o hb (hs₄.extBut b o hb (old₃ b o (hs₁.extBut b o hb2 e)))
  have F₅ : Fr g env.locals h₅ (fun z => if z = y then some (f i).2.2 else if z = x then some (f i).2.1 else m' z) := by
    refine ⟨hn₅, fun b o x => ?_, F'.above⟩
    exact up b o (Nat.ne_of_lt (Nat.lt_of_lt_of_le (Heap.lt_size x) F'.above)) (fun q => by rw [q, hgi] at x; cases x) (F'.keep b o x)
  obtain ⟨ito, hito, hitc⟩ := hit₁.at fun o x => hs₅.extBut it o hiL (hs₄.extBut it o hiL (old₃ it o x))
  have N₅ : News g env.locals h₅ ((it, ito) :: news) := fun p hp => by
    rcases List.mem_cons.mp hp with rfl | hp
    · exact ⟨hito, hiL, hgi⟩
    · exact ⟨up _ _ (N' p hp).2.1 (hin p hp) (N' p hp).1, (N' p hp).2⟩
  refine wpAny_mono (step i _ m' h₅ _ hlt hJ F₅ N₅) (fun fl s₃ h₆ => ?_) fun _ _ x => x.elim
  cases fl with
  | ret v => exact h₆
  | brk => exact h₆.elim
  | cont => exact h₆.elim
  | next =>
    obtain ⟨h₆, tk₆, m₂, rfl, F₆, N₆, hJ₆⟩ := h₆
    exact ⟨vs.length + 1 - (i + 1), by omega, h₆, tk₆, m₂, i + 1, rfl, ⟨ito, (N₆ _ (.head _)).1, hitc⟩, F₆, fun p hp => N₆ p (.tail _ hp), hJ₆, hlt, rfl⟩
theorem for_nil {target : PySem.Expr} {body : List Stmt} {it : Addr} {news : List (Addr × Obj)}
    (hh : A.handled = none) (F : Fr g env.locals s.heap m) (N : News g env.locals s.heap news) (hit : s.heap.IsListIter it l 0) (hl : s.heap.IsList l #[])
    (hgi : g.get? it = none) (hiL : it ≠ env.locals) (hin : ∀ p ∈ news, p.1 ≠ it)
    (done : ∀ h tk2, Fr g env.locals h m → News g env.locals h news → R (.ok .next) { s with heap := h, toks := tk2 }) :
    codeAny (model prog w) A (.forLoop target (.ref it) body [] env) R s := by
  refine codeAny_forLoop_any (fun _ s' => s' = s) ?_ 0 rfl
  rintro k s' rfl
  refine wpAny_pyNext_list_end hh hit hl (by simp) fun h₁ he₁ => wpAny_execs_nil ?_
  exact done h₁ _ ⟨F.ns.extBut he₁ (Ne.symm hiL), fun b o e => he₁ b o (fun q => by rw [q, hgi] at e; cases e) (F.keep b o e), F.above⟩
      fun p hp => ⟨he₁ _ _ (hin p hp) (N p hp).1, (N p hp).2⟩
end
end Mine
end

/-! L10 -/
section
open PySem PySem.W PySem.Calls PySem.Spec PyProof.Rows
set_option Elab.async false
set_option autoImplicit false
set_option maxRecDepth 100000
set_option maxHeartbeats 4000000
namespace Mine
theorem fresh_of {g h : Heap} {L a : Addr} {m : Str → Option Value} (F : Fr g L h m) (e : h.get? a = none) : g.get? a = none ∧ a ≠ L := by
  refine ⟨none_of_kp F.keep e, fun q => ?_⟩
  obtain ⟨oL, es, ep, hL, _⟩ := F.ns
  rw [q, hL] at e; cases e
/-- what an element of a comprehension left behind -/
theorem log_new {G : Gr} {base : Nat} {h₁ h' : Heap} {D : Addr} {tk : Nat} {log : List LogE} (x : LogOk G base (fun b => b ≠ D ∧ h₁.get? b = none) h' tk log) {e : LogE} (he : e ∈ log) :
    G e.i e.y e.as e.lo e.hi ∧ ∀ a o, (a, o) ∈ e.as → h'.get? a = some o ∧ a ≠ D ∧ h₁.get? a = none :=
  ⟨(x.1 e he).2.2.1, fun a o hm => (x.1 e he).2.2.2 (a, o) hm⟩
theorem log_at {log : List LogE} {n : Nat} (hi : log.map (·.i) = List.range n) {i : Nat} (h : i < n) : ∃ e, log[i]? = some e ∧ e ∈ log ∧ e.i = i := by
  have hl : log.length = n := by have := congrArg List.length hi; simpa using this
  have h' : i < log.length := by omega
  refine ⟨log[i], List.getElem?_eq_getElem h', List.getElem_mem h', ?_⟩
  have e := congrArg (fun l => l[i]?) hi
  simp only [List.getElem?_map, List.getElem?_eq_getElem h', Option.map_some] at e
  rw [List.getElem?_range h] at e
  exact Option.some.inj e
theorem range_all {n : Nat} : ((List.range n).filter fun _ => true) = List.range n := List.filter_eq_self.mpr (by simp)
theorem log_three {log : List LogE} (hi : log.map (·.i) = [0, 1, 2]) : ∃ a b c, log = [a, b, c] ∧ a.i = 0 ∧ b.i = 1 ∧ c.i = 2 := by
  match log, hi with
  | [a, b, c], h =>
    simp only [List.map_cons, List.map_nil, List.cons.injEq, and_true] at h
    exact ⟨a, b, c, rfl, h.1, h.2.1, h.2.2⟩
  | [], h => simp at h
  | [a], h => simp at h
  | [a, b], h => simp at h
  | a :: b :: c :: d :: r, h => simp at h
theorem all_cons {α : Type} {P : α → Prop} {x : α} {l : List α} (h : P x) (t : ∀ q, q ∈ l → P q) : ∀ q, q ∈ x :: l → P q := fun q hq => by
  cases hq with
  | head => exact h
  | tail _ hq => exact t q hq
end Mine
end

/-! PL1 -/
section
open PySem PySem.W PySem.Calls PySem.Spec PyProof.Rows
set_option Elab.async false
set_option autoImplicit false
set_option maxRecDepth 100000
set_option maxHeartbeats 4000000
namespace Mine
def rowOf (rs : List Row) (k : Nat) : List Row := rs.filter fun r => r.c % 3 == k
def colIn (rs : List Row) (c k : Nat) : Bool := decide (k ≤ c ∧ c - k < (rowOf rs k).length)
def colOf (rs : List Row) (c : Nat) : List Row := ((List.range 3).filter (colIn rs c)).map fun k => (rowOf rs k).getD (c - k) default
def Row.ab (r : Row) : Nat × Nat := (r.c, r.d)
def rowA (hs : List (Nat × Nat)) (k : Nat) : List Nat := (hs.filter fun r => r.1 % 3 == k).map (·.2)
def colA (hs : List (Nat × Nat)) (c : Nat) : List Nat := ((List.range 3).filter fun k => decide (k ≤ c ∧ c - k < (rowA hs k).length)).map fun k => (rowA hs k).getD (c - k) 0
def bisD (xs : List Nat) (m : Nat) : Nat := bis (fun i => decide (m < xs.getD i 0)) 0 xs.length
def insA (hs : List (Nat × Nat)) (x : Nat × Nat) : List (Nat × Nat) :=
  hs.take (bis (fun i => decide (x.1 % 3 < (hs.getD i (0, 0)).1 % 3)) 0 hs.length) ++ x :: hs.drop (bis (fun i => decide (x.1 % 3 < (hs.getD i (0, 0)).1 % 3)) 0 hs.length)
def placeA (hs : List (Nat × Nat)) (v : Nat) : Nat := hs.findIdx fun r => r.2 == v
def putF (circ : Bool) : Nat → Bool → Nat → Nat → List (Nat × Nat) → Option (Nat × Bool × List (Nat × Nat))
  | 0, _, _, _, _ => none
  | f + 1, falls, line, mv, hs =>
    have seen := if falls then colA hs line else rowA hs line
    have spot := bisD seen mv
    have row := if falls then spot else line
    have column := if falls then line else line + spot
    if row < 3 ∧ column < 100 then
      have name := if falls && circ then 3 + row else row
      if spot = seen.length then some (row, falls, insA hs (name, mv))
      else
        have place := placeA hs (seen.getD spot 0)
        have driven := hs.getD place (0, 0)
        have falls' := column == row || (if circ then decide (driven.1 ≠ driven.1 % 3) else falls)
        putF circ f falls' ((if falls' then column else row) + 1) driven.2 (hs.set place (name, mv))
    else none
theorem rowA_eq (rs : List Row) (k : Nat) : (rowOf rs k).map (·.d) = rowA (rs.map Row.ab) k := by
  unfold rowOf rowA
  rw [List.filter_map, List.map_map]
  rfl
theorem colA_eq (rs : List Row) (c : Nat) : (colOf rs c).map (·.d) = colA (rs.map Row.ab) c := by
  unfold colOf colA
  rw [List.map_map]
  have e1 : ∀ k, (rowA (rs.map Row.ab) k).length = (rowOf rs k).length := fun k => by rw [← rowA_eq, List.length_map]
  have e2 : (colIn rs c) = fun k => decide (k ≤ c ∧ c - k < (rowA (rs.map Row.ab) k).length) := by
    funext k; unfold colIn; rw [e1]
  rw [← e2]
  apply List.map_congr_left
  intro k hk
  have hk' := (List.mem_filter.mp hk).2
  unfold colIn at hk'
  have hk2 := (of_decide_eq_true hk').2
  rw [← rowA_eq]
  simp only [Function.comp_apply, List.getD_eq_getElem?_getD, List.getElem?_map]
  rw [List.getElem?_eq_getElem hk2]
  rfl
theorem colOf_mem {rs : List Row} {c : Nat} {r : Row} (h : r ∈ colOf rs c) : r ∈ rs := by
  obtain ⟨k, hk, rfl⟩ := List.mem_map.mp h
  have hk' := (List.mem_filter.mp hk).2
  unfold colIn at hk'
  have hk2 := (of_decide_eq_true hk').2
  have : (rowOf rs k).getD (c - k) default ∈ rowOf rs k := by
    rw [List.getD_eq_getElem?_getD, List.getElem?_eq_getElem hk2]
    exact List.getElem_mem hk2
  exact (List.mem_filter.mp this).1
theorem colOf_len (rs : List Row) (c : Nat) : (colOf rs c).length ≤ 3 := by
  unfold colOf
  rw [List.length_map]
  have := List.length_filter_le (colIn rs c) (List.range 3)
  simpa using this
theorem bisD_strs (xs : List Nat) (m : Nat) (hm : m < 6) (hx : ∀ x ∈ xs, x < 6) : bis (fun i => decide ((sg m).cps.toList < (sg (xs.getD i 0)).cps.toList)) 0 xs.length = bisD xs m := by
  unfold bisD
  congr 1
  funext i
  apply decide_eq_decide.mpr
  apply sg_lt _ _ hm
  rw [List.getD_eq_getElem?_getD]
  cases e : xs[i]? with
  | none => decide
  | some x => exact hx x (List.mem_of_getElem? e)
theorem insA_strs (hs : List (Nat × Nat)) (c : Nat) : bis (fun i => decide ((nm (c % 3)).cps.toList < (nm ((hs.getD i (0, 0)).1 % 3)).cps.toList)) 0 hs.length = bis (fun i => decide (c % 3 < (hs.getD i (0, 0)).1 % 3)) 0 hs.length := by
  congr 1
  funext i
  exact decide_eq_decide.mpr (nm_lt _ _ (by omega) (by omega))
theorem placeA_at {hs : List (Nat × Nat)} {v : Nat} (h : ∃ r ∈ hs, r.2 = v) :
    placeA hs v < hs.length ∧ (hs.getD (placeA hs v) (0, 0)).2 = v ∧ ∀ i, i < placeA hs v → (hs.getD i (0, 0)).2 ≠ v := by
  obtain ⟨r, hr, e⟩ := h
  unfold placeA
  have hl : hs.findIdx (fun r => r.2 == v) < hs.length := List.findIdx_lt_length_of_exists ⟨r, hr, by simpa using e⟩
  refine ⟨hl, ?_, fun i hi => ?_⟩
  · have := List.findIdx_getElem (xs := hs) (p := fun r : Nat × Nat => r.2 == v) (w := hl)
    rw [List.getD_eq_getElem?_getD, List.getElem?_eq_getElem hl]
    simpa using this
  · have hi' : i < hs.length := Nat.lt_trans hi hl
    have := List.not_of_lt_findIdx (xs := hs) (p := fun r : Nat × Nat => r.2 == v) hi
    rw [List.getD_eq_getElem?_getD, List.getElem?_eq_getElem hi']
    simpa using this
end Mine
end

/-! L11 -/
section
open PySem PySem.W PySem.Calls PySem.Spec PyProof.Rows
set_option Elab.async false
set_option autoImplicit false
set_option maxRecDepth 100000
set_option maxHeartbeats 4000000
namespace Mine
theorem news_kx {g h h' : Heap} {L : Addr} {news : List (Addr × Obj)} {W : List Addr} (N : News g L h news) (k : Kx W h h') (hn : ∀ p ∈ news, p.1 ∉ W) : News g L h' news :=
  fun p hp => ⟨k _ _ (N p hp).1 (hn p hp), (N p hp).2⟩
def tupO (r : Row) : Obj := { cls := .type "tuple", data := .seq #[r.name, r.val] }
def Led (rs : List Row) : List (Addr × Obj) := rs.map fun r => (r.a, tupO r)
theorem led_mem {rs : List Row} {r : Row} (h : r ∈ rs) : (r.a, tupO r) ∈ Led rs := List.mem_map_of_mem h
theorem tupO_tt {h : Heap} {r : Row} (e : h.get? r.a = some (tupO r)) : TT h r.a [r.name, r.val] := ⟨_, e⟩
def RowsP (h : Heap) (rs : List Row) : Prop := ∀ r ∈ rs, r.c < 6 ∧ r.d < 6 ∧ h.get? r.a = some (tupO r)
theorem RowsP.rows {h : Heap} {rs : List Row} (x : RowsP h rs) : Rows h rs := fun r hr => ⟨(x r hr).1, (x r hr).2.1, tupO_tt (x r hr).2.2⟩
theorem fnAt_K {K : Frag} {h : Heap} {q : Addr} {oc : Value} {od : Option Addr} {fd : FuncData} {sl : Array (Option Value)} (X : K.In h) (e : K.lookup q = some ⟨oc, od, .func fd, sl⟩) : FnAt q h := ⟨oc, od, fd, sl, X _ _ e⟩
theorem K_ne {K : Frag} {g : Heap} {q a : Addr} {o : Obj} (X : K.In g) (e : K.lookup q = some o) (n : g.get? a = none) : q ≠ a := fun h => by
  have := X _ _ e; rw [h, n] at this; cases this
theorem rep_snoc {n : Nat} {v : Value} : List.replicate n v ++ [v] = List.replicate (n + 1) v := by
  rw [List.replicate_succ']
theorem map_ins {α β : Type} (f : α → β) (l : List α) (j : Nat) (x : α) : (l.take j ++ x :: l.drop j).map f = (l.map f).take j ++ f x :: (l.map f).drop j := by
  simp [List.map_take, List.map_drop]
section
variable {prog : Program} {w : World} {A : Around} {E : Value → Shared → Prop} {s : Shared} {g : Heap} {L l : Addr} {news : List (Addr × Obj)}
theorem my_lit3 {value slice : PySem.Expr} {x0 x1 x2 : Str} {t0 t1 t2 u : Tok} {n j : Nat} {Q : Value → Shared → Prop} (f : Nat → Str) (N : News g L s.heap news) (hm : (l, W.listOf #[.str x0 t0, .str x1 t1, .str x2 t2] n) ∈ news) (e0 : f 0 = x0) (e1 : f 1 = x1) (e2 : f 2 = x2)
    (hj : j < 3) (h : ∀ t, Q (.str (f j) t) s) (hs : subscripted slice false (.ref l) (.int (j : Int) u) = operate [.ref l, .int (j : Int) u] (getItem (.ref l) (.int (j : Int) u)) := by with_unfolding_all rfl) :
    wpAny (model prog w) A (subscriptTail value slice (.ref l) (.int (j : Int) u)) Q E s := by
  have hl : LL s.heap l [.str x0 t0, .str x1 t1, .str x2 t2] := ⟨n, (N _ hm).1⟩
  obtain ⟨t, ht⟩ : ∃ t, [Value.str x0 t0, .str x1 t1, .str x2 t2][j]? = some (.str (f j) t) := by
    match j, hj with
    | 0, _ => exact ⟨t0, by rw [e0]; rfl⟩
    | 1, _ => exact ⟨t1, by rw [e1]; rfl⟩
    | 2, _ => exact ⟨t2, by rw [e2]; rfl⟩
  exact my_item hl.isList ht rfl (by simp) (h t) hs
def CutEnd (g : Heap) (L : Addr) (m : Str → Option Value) (s : Shared) (Mid : Value → Heap → Nat → List (Addr × Obj) → Prop) (v : Value) (s' : Shared) : Prop :=
  ∃ h' tk' news', s' = { s with heap := h', toks := tk' } ∧ Fr g L h' m ∧ News g L h' news' ∧ Mid v h' tk' news'
theorem CutEnd.intro {m : Str → Option Value} {Mid : Value → Heap → Nat → List (Addr × Obj) → Prop} {v : Value} {h' : Heap} {tk' : Nat} {news' : List (Addr × Obj)} (F : Fr g L h' m) (N : News g L h' news') (x : Mid v h' tk' news') : CutEnd g L m s Mid v { s with heap := h', toks := tk' } :=
  ⟨h', tk', news', rfl, F, N, x⟩
theorem cut_at {t : Sem Value} {m : Str → Option Value} {Q : Value → Shared → Prop} (F : Fr g L s.heap m) (Mid : Value → Heap → Nat → List (Addr × Obj) → Prop)
    (h1 : wpAny (model prog w) A t (CutEnd g L m s Mid) E s)
    (h2 : ∀ v h' tk' news', Fr g L h' m → News g L h' news' → Mid v h' tk' news' → Q v { s with heap := h', toks := tk' }) : wpAny (model prog w) A t Q E s :=
  wpAny_mono h1 (fun v s' ⟨h', tk', news', e, F', N', x⟩ => e ▸ h2 v h' tk' news' F' N' x) fun _ _ x => x
end
end Mine
end

/-! L12 -/
section
open PySem PySem.W PySem.Calls PySem.Spec PyProof.Rows
set_option Elab.async false
set_option autoImplicit false
set_option maxRecDepth 100000
set_option maxHeartbeats 4000000
namespace Mine
section
variable {prog : Program} {w : World} {A : Around} {s : Shared} {env : Env} {g : Heap} {R : Result → Shared → Prop} {m : Str → Option Value}
def TurnEndJ (g : Heap) (L : Addr) (s : Shared) (it : Addr) (ito : Obj) (J : Nat → (Str → Option Value) → List (Addr × Obj) → Prop) (R : Result → Shared → Prop) (f : Flow) (s₂ : Shared) : Prop :=
  match f with
  | .ret v => R (.ok (.ret v)) s₂
  | .next => ∃ h' tk' m' nx', s₂ = { s with heap := h', toks := tk' } ∧ Fr g L h' m' ∧ News g L h' ((it, ito) :: nx') ∧ (∀ p ∈ nx', p.1 ≠ it) ∧ J tk' m' nx'
  | _ => False
/-- `for x in range(n)`, with an invariant over the turn's number, the tokens, the locals and the ledger -/
theorem for_rangeJ {x : Str} {px : Pos} {body : List Stmt} {it : Addr} {news : List (Addr × Obj)} {n : Nat}
    (hh : A.handled = none) (hx : env.kindOf x = some .local)
    (hp : (env.scope.kind == .class || (env.scope.kind == .module && env.locals != env.globals)) = false)
    (F : Fr g env.locals s.heap m) (N : News g env.locals s.heap news) (hit : IsRangeIter s.heap it 0 (n : Int) 1)
    (hgi : g.get? it = none) (hiL : it ≠ env.locals) (hin : ∀ p ∈ news, p.1 ≠ it)
    (J : Nat → Nat → (Str → Option Value) → List (Addr × Obj) → Prop) (h0 : J 0 s.toks m news)
    (step : ∀ i tk tk2 m₁ nx h ito, i < n → tk < tk2 → J i tk m₁ nx → (∀ p ∈ nx, p.1 ≠ it) → ito.cls = .type "range_iterator" → Fr g env.locals h (fun z => if z = x then some (.int (i : Int) tk) else m₁ z) → News g env.locals h ((it, ito) :: nx) →
      wpAny (model prog w) A (execs body env) (TurnEndJ g env.locals s it ito (J (i + 1)) R) (fun _ _ => False) { s with heap := h, toks := tk2 })
    (done : ∀ tk m₁ nx h, J n tk m₁ nx → Fr g env.locals h m₁ → News g env.locals h nx → R (.ok .next) { s with heap := h, toks := tk }) :
    codeAny (model prog w) A (.forLoop (.Name x px) (.ref it) body [] env) R s := by
  refine codeAny_forLoop
    (fun k s' => ∃ h' tk m' nx i, s' = { s with heap := h', toks := tk } ∧ IsRangeIter h' it (i : Nat) ((n : Int) - (i : Nat)) 1 ∧ Fr g env.locals h' m' ∧ News g env.locals h' nx ∧ (∀ p ∈ nx, p.1 ≠ it) ∧ J i tk m' nx ∧ i ≤ n ∧
      k = n + 1 - i) ?_ (n + 1) ⟨s.heap, s.toks, m, news, 0, rfl, by simpa using hit, F, N, hin, h0, Nat.zero_le _, rfl⟩
  rintro k s' zz
  refine exE5 zz fun H tk m' nx i jj => andE8 jj fun ez5 hit' F' N' hn' hJ hi ez12 => ?_
  clear jj zz
  subst ez5
  subst ez12
  by_cases hil : i = n
  · subst hil
    refine wpAny_pyNext_range_end hh hit' (by omega) fun h₁ he₁ => wpAny_execs_nil ?_
    exact done tk m' nx h₁ hJ ⟨F'.ns.extBut he₁ (Ne.symm hiL), fun b o e => he₁ b o (fun q => by rw [q, hgi] at e; cases e) (F'.keep b o e), F'.above⟩
      fun p hp => ⟨he₁ _ _ (hn' p hp) (N' p hp).1, (N' p hp).2⟩
  have hlt : i < n := by omega
  have hLH : env.locals < H.objs.size := F'.ns.lt
  refine wpAny_pyNext_range_item hit' (by omega) fun h₁ hit₁ hs₁ => ?_
  replace hs₁ : Heap.SameBut it H h₁ := hs₁
  refine wpAny_assign_Name (wpAny_storeName_local hx (F'.ns.sameBut hs₁ (Ne.symm hiL)) (fun h₂ hn₂ hs₂ => ?_) hp)
  replace hs₂ : Heap.SameBut env.locals h₁ h₂ := hs₂
  have F₂ : Fr g env.locals h₂ (fun y => if y = x then some (.int (i : Int) tk) else m' y) := by
    refine ⟨hn₂, fun b o x => ?_, F'.above⟩
    have hbi : b ≠ it := fun q => by rw [q, hgi] at x; cases x
    have hbL : b ≠ env.locals := Nat.ne_of_lt (Nat.lt_of_lt_of_le (Heap.lt_size x) F'.above)
    exact hs₂.extBut b o hbL (hs₁.extBut b o hbi (F'.keep b o x))
  have hit₂ : IsRangeIter h₂ it ((i : Int) + 1) ((n : Int) - i - 1) 1 := hs₂.extBut it _ hiL hit₁
  have N₂ : News g env.locals h₂ ((it, _) :: nx) := fun p hp => by
    rcases List.mem_cons.mp hp with rfl | hp
    · exact ⟨hit₂, hiL, hgi⟩
    · exact ⟨hs₂.extBut _ _ (N' p hp).2.1 (hs₁.extBut _ _ (hn' p hp) (N' p hp).1), (N' p hp).2⟩
  refine wpAny_mono (step i tk _ m' nx h₂ _ hlt ?_ hJ hn' rfl F₂ N₂) (fun fl s₃ h₆ => ?_) fun _ _ e => False.elim e
  · show tk < tk + 1 + 1
    omega
  cases fl with
  | ret v => exact h₆
  | brk => exact h₆.elim
  | cont => exact h₆.elim
  | next =>
    obtain ⟨h₆, tk₆, m₂, nx₂, rfl, F₆, N₆, hn₆, hJ₆⟩ := h₆
    refine ⟨n + 1 - (i + 1), by omega, h₆, tk₆, m₂, nx₂, i + 1, rfl, ?_, F₆, fun p hp => N₆ p (.tail _ hp), hn₆, hJ₆, hlt, rfl⟩
    have e1 : ((i + 1 : Nat) : Int) = (i : Int) + 1 := by push_cast; rfl
    have e2 : (n : Int) - ((i + 1 : Nat) : Int) = (n : Int) - (i : Int) - 1 := by push_cast; omega
    rw [e2, e1]
    exact (N₆ _ (.head _)).1
theorem iter_rangeJ {E : Value → Shared → Prop} {L r : Addr} {n : Nat} {t u v : Tok} {Q : Value → Shared → Prop} (F : Fr g L s.heap m) (hr : IsRange s.heap r 0 (n : Int) 1 t u v) (hn : n < 2 ^ 20)
    (h : ∀ it h', Fr g L h' m → Kp s.heap h' → IsRangeIter h' it 0 (n : Int) 1 → g.get? it = none → it ≠ L → s.heap.get? it = none → Q (.ref it) { s with heap := h' }) : wpAny (model prog w) A (pyIter (.ref r)) Q E s := by
  have hsize : Builtin.Range.rangeSize 0 (n : Int) 1 = (n : Int) := by
    unfold Builtin.Range.rangeSize
    simp
    omega
  have hsmall : Builtin.Range.small 0 (n : Int) 1 = true := by
    unfold Builtin.Range.small Builtin.Range.rangeFitsLong
    rw [hsize]
    simp
    omega
  refine wpAny_pyIter_range hr hsmall ?_
  rw [hsize]
  have hb := size_none F (Nat.le_refl _)
  exact h _ _ (F.push _) (fun b o e => Heap.get?_push_of_some _ e) (Heap.get?_push_size _ rfl) hb.1 hb.2 (ge_none (Nat.le_refl _))
end
end Mine
end

/-! L13 -/
section
open PySem PySem.W PySem.Calls PySem.Spec PyProof.Rows
set_option Elab.async false
set_option autoImplicit false
set_option maxRecDepth 100000
set_option maxHeartbeats 4000000
namespace Mine
def turnsF (circ : Bool) : List Nat → Nat → List (Nat × Nat) → List (Nat × Nat) → Option (List (Nat × Nat) × List (Nat × Nat))
  | [], _, hs, bs => some (hs, bs)
  | d :: ss, t, hs, bs => match putF circ 40 false 0 d hs with
    | none => none
    | some (row, fell, hs') => turnsF circ ss (t + 1) hs' (bs ++ [((if (fell && !circ) = true then 3 + row else row), t)])
theorem putF_row {circ : Bool} : ∀ {f : Nat} {falls : Bool} {line mv : Nat} {hs : List (Nat × Nat)} {row : Nat} {fell : Bool} {hs' : List (Nat × Nat)}, putF circ f falls line mv hs = some (row, fell, hs') → row < 3 ∧ hs'.length = hs.length + 1
  | 0, _, _, _, _, _, _, _, h => by cases h
  | f + 1, falls, line, mv, hs, row, fell, hs', h => by
    unfold putF at h
    dsimp only at h
    generalize (if falls = true then colA hs line else rowA hs line) = seen at h
    generalize bisD seen mv = spot at h
    generalize (if falls = true then spot else line) = row1 at h
    generalize (if falls = true then line else line + spot) = col1 at h
    by_cases hc : row1 < 3 ∧ col1 < 100
    · rw [if_pos hc] at h
      by_cases hq : spot = seen.length
      · rw [if_pos hq] at h
        cases h
        refine ⟨hc.1, ?_⟩
        unfold insA
        simp only [List.length_append, List.length_cons, List.length_take, List.length_drop]
        omega
      · rw [if_neg hq] at h
        have := putF_row h
        refine ⟨this.1, this.2.trans ?_⟩
        rw [List.length_set]
    · rw [if_neg hc] at h
      cases h
theorem led_off {h : Heap} {rs : List Row} {l : Addr} {us : List Value} (hr : RowsP h rs) (hl : LL h l us) : ∀ r ∈ rs, r.a ≠ l := fun r hr' q => TT.notList (tupO_tt (hr r hr').2.2) (q ▸ hl)
theorem RowsP.news {g h : Heap} {L : Addr} {rs : List Row} {news : List (Addr × Obj)} (N : News g L h news) (hc : ∀ r ∈ rs, r.c < 6 ∧ r.d < 6) (hs : ∀ q ∈ Led rs, q ∈ news) : RowsP h rs := fun r hr => ⟨(hc r hr).1, (hc r hr).2, (N _ (hs _ (led_mem hr))).1⟩
theorem sg_of {d : Nat} (h : d < 6) : Str.ofString (toString (d : Int)) = sg d := by
  match d, h with
  | 0, _ => decide +kernel
  | 1, _ => decide +kernel
  | 2, _ => decide +kernel
  | 3, _ => decide +kernel
  | 4, _ => decide +kernel
  | 5, _ => decide +kernel
theorem off_seq {h : Heap} {a l : Addr} {o : Obj} {vs : Array Value} {n : Nat} (e1 : h.get? a = some o) (e2 : h.get? l = some (listOf vs n)) (hd : ∀ us k, o.data ≠ .seq us k) : a ≠ l := fun q => by
  rw [q, e2] at e1
  cases e1
  exact hd _ _ rfl
theorem keepW {g h h' : Heap} {L a x y : Addr} {o : Obj} (N : h.get? a = some o ∧ a ≠ L ∧ g.get? a = none) (k : Kx [x, y] h h') (n1 : a ≠ x) (n2 : a ≠ y) : h'.get? a = some o ∧ a ≠ L ∧ g.get? a = none :=
  ⟨k _ _ N.1 (by simpa using ⟨n1, n2⟩), N.2⟩
theorem keepV {g h h' : Heap} {L a x : Addr} {o : Obj} (N : h.get? a = some o ∧ a ≠ L ∧ g.get? a = none) (k : Kx [x] h h') (n1 : a ≠ x) : h'.get? a = some o ∧ a ≠ L ∧ g.get? a = none :=
  ⟨k _ _ N.1 (by simpa using n1), N.2⟩
def sval (p : Nat × Tok) : Value := .int (p.1 : Int) p.2
end Mine
end

/-! L14 -/
section
open PySem PySem.W PySem.Calls PySem.Spec PyProof.Rows
set_option Elab.async false
set_option autoImplicit false
set_option maxRecDepth 100000
set_option maxHeartbeats 4000000
namespace Mine
abbrev hdObj (h : Int) (t : Tok) (l : Addr) (n : Nat) : Obj := dictOf [⟨h, .str (Str.ofString "_headers") t, .ref l⟩] n
/-- what `_law_tables` leaves: the names, the table over `held`, the book, the answers -/
structure TabD where
  dn : Addr
  x : Addr
  dx : Addr
  hl : Addr
  b : Addr
  db : Addr
  bl : Addr
  al : Addr
  xh : Int
  xt : Tok
  xn : Nat
  bh : Int
  bt : Tok
  bn : Nat
  vs : List Value
  rs : List Row
  bs : List Row
  k : Nat
  nh : Nat
  nb : Nat
  na : Nat
  nn : Nat
def nameAt (hs : List (Nat × Nat)) (k : Nat) : Nat := (hs.getD (placeA hs k) (0, 0)).1
structure TabOk (as : List (Addr × Obj)) (hs bs : List (Nat × Nat)) (d : TabD) : Prop where
  mdn : (d.dn, listOf d.vs.toArray d.nn) ∈ as
  mx : (d.x, instObj 242 d.dx) ∈ as
  mdx : (d.dx, hdObj d.xh d.xt d.hl d.xn) ∈ as
  mhl : (d.hl, listOf (d.rs.map Row.ref).toArray d.nh) ∈ as
  mb : (d.b, instObj 242 d.db) ∈ as
  mdb : (d.db, hdObj d.bh d.bt d.bl d.bn) ∈ as
  mbl : (d.bl, listOf (d.bs.map Row.ref).toArray d.nb) ∈ as
  mal : (d.al, listOf (List.replicate d.k Value.none).toArray d.na) ∈ as
  mrs : ∀ r ∈ d.rs, (r.a, tupO r) ∈ as
  mbs : ∀ r ∈ d.bs, (r.a, tupO r) ∈ as
  ers : d.rs.map Row.ab = hs
  ebs : d.bs.map Row.ab = bs
  crs : ∀ r ∈ d.rs, r.c < 6 ∧ r.d < 6
  cbs : ∀ r ∈ d.bs, r.c < 6 ∧ r.d < 6
  hk : d.k ≤ 606
  evs : d.vs.length = 6
  hvs : ∀ i, i < 6 → ∃ t, d.vs[i]? = some (.str (nm (nameAt hs i)) t)
end Mine
end

/-! LC -/
section
open PySem PySem.W PySem.Calls PySem.Spec PyProof.Rows
set_option Elab.async false
set_option autoImplicit false
set_option maxRecDepth 100000
set_option maxHeartbeats 4000000
namespace Mine
section
variable {prog : Program} {w : World} {A : Around} {E : Value → Shared → Prop} {s : Shared} {env : Env}
theorem comp_blockR {elt target iter : PySem.Expr} {ifs : List PySem.Expr} {scope : Scope} {cl : List (Str × Addr)} {pos : Pos} {I : Addr} {fp wr : List Addr} {n : Nat} {P : Nat → Value → Nat → Nat → Prop} {Nx : Nat → Heap → Prop} {RR : Value → Addr → Result → Shared → Prop}
    (W : MWalk prog w A I fp wr n P Nx) (hn20 : n < 2 ^ 20) (pz : Nat → Bool) (G : Gr) (Bd : Nat → Value → (Str → Option Value) → Prop)
    (hcell : ∀ y ∈ scope.names, y.2 ≠ .cell) (hkind : scope.kind = .function)
    (hIf : I ∈ fp) (hIw : I ∈ wr) (hwrI : ∀ b ∈ wr, b = I) (hit : ∀ i h, Nx i h → ∃ o, h.get? I = some o ∧ (o.cls = .type "list_iterator" ∨ o.cls = .type "range_iterator"))
    (hst : Nx 0 s.heap) (hfp : ∀ b ∈ fp, b < s.heap.objs.size)
    (hbind : ∀ C D (s' : Shared) i v lo hi, s.heap.objs.size ≤ C → s.heap.objs.size ≤ D → Kp s.heap s'.heap → i < n → P i v lo hi → BindsAt prog w A target I D (compEnvC scope cl C env) s' v (Bd i v))
    (tests : ∀ C i v lo hi h3 tk3 m3, s.heap.objs.size ≤ C → i < n → P i v lo hi → hi ≤ tk3 → s.toks ≤ lo → h3.Ns C m3 → Bd i v m3 → (∀ b o, b ≠ I → s.heap.get? b = some o → h3.get? b = some o) →
      wpAny (model prog w) A (forIn ifs true fun c r => if r = true then do let ok ← isTrue c (compEnvC scope cl C env) (eval c (compEnvC scope cl C env)); pure (ForInStep.yield ok) else pure (ForInStep.yield r))
        (fun ok s₄ => ok = pz i ∧ Keeps { s with heap := h3, toks := tk3 } s₄) (fun _ _ => False) { s with heap := h3, toks := tk3 })
    (elts : ∀ C i v lo hi h3 tk3 m3, s.heap.objs.size ≤ C → i < n → pz i = true → P i v lo hi → hi ≤ tk3 → s.toks ≤ lo → h3.Ns C m3 → Bd i v m3 → (∀ b o, b ≠ I → s.heap.get? b = some o → h3.get? b = some o) →
      wpAny (model prog w) A (eval elt (compEnvC scope cl C env)) (fun y s₄ => Keeps { s with heap := h3, toks := tk3 } s₄ ∧ ∃ as, (∀ hh, s₄.toks ≤ hh → G i y as lo hh) ∧ ∀ q ∈ as, h3.get? q.1 = none ∧ s₄.heap.get? q.1 = some q.2) (fun _ _ => False) { s with heap := h3, toks := tk3 })
    (done : ∀ D C h' tk m' log, s.heap.objs.size ≤ D → s.heap.objs.size ≤ C → D ≠ C → h'.Ns C m' → LL h' D (log.map (·.y)) → log.map (·.i) = (List.range n).filter pz → LogOk G s.toks (fun b => b ≠ D ∧ b ≠ C ∧ s.heap.get? b = none) h' tk log →
      (∀ b o, b ≠ I → s.heap.get? b = some o → h'.get? b = some o) → s.toks ≤ tk → RR (.ref D) C (.ok .next) { s with heap := h', toks := tk }) :
    wpAny (model prog w) A (newList []) (fun acc s₃ => wpAny (model prog w) A (newFunctionEnv scope env.globals cl [] env.qual none .none (some env)) (fun cenv s₄ =>
      codeAny (model prog w) A (.compStart (.ListComp elt [⟨target, iter, ifs, 0⟩] scope pos) 0 (.ref I) acc { cenv with scope := relabel scope env }) (RR acc cenv.locals) s₄) E s₃) E s := by
  refine wpAny_newObj_type (wpAny_newFunctionEnv hcell (by intro y hy; simp at hy) (fun h₁ hns₁ hsb₁ => ?_) hkind)
  dsimp only at hns₁ hsb₁ ⊢
  generalize hH2 : s.heap.push { cls := .type "list", dict := none, data := .seq ([] : List Value).toArray } = H2 at hns₁ hsb₁ ⊢
  have hC : H2.objs.size = s.heap.objs.size + 1 := by rw [← hH2, Heap.size_push]
  have hDC : s.heap.objs.size ≠ H2.objs.size := by rw [hC]; exact Nat.ne_of_lt (Nat.lt_succ_self _)
  have hCle : s.heap.objs.size ≤ H2.objs.size := by rw [hC]; exact Nat.le_succ _
  have below : ∀ b, b < s.heap.objs.size → b ≠ H2.objs.size ∧ b ≠ s.heap.objs.size := fun b hb => ⟨by rw [hC]; exact Nat.ne_of_lt (Nat.lt_succ_of_lt hb), Nat.ne_of_lt hb⟩
  have hDf : s.heap.objs.size ∉ fp := fun hm => Nat.lt_irrefl _ (hfp _ hm)
  have hCf : H2.objs.size ∉ fp := fun hm => by have := hfp _ hm; rw [hC] at this; exact Nat.lt_irrefl _ (Nat.lt_of_succ_lt this)
  have old : ∀ b o, s.heap.get? b = some o → h₁.get? b = some o := fun b o e => hsb₁.extBut b o (below b (Heap.lt_size e)).1 (Heap.get?_push_of_some _ (hH2 ▸ Heap.get?_push_of_some _ e))
  have hacc : LL h₁ s.heap.objs.size [] := ⟨_, hsb₁.extBut _ _ hDC (Heap.get?_push_of_some _ (hH2 ▸ Heap.get?_push_size _ rfl))⟩
  have hst₁ : Nx 0 h₁ := W.frame _ _ _ hst fun b _ o e => old b o e
  have up : ∀ {h3 : Heap}, (∀ b o, b ≠ H2.objs.size → b ≠ I → b ≠ s.heap.objs.size → h₁.get? b = some o → h3.get? b = some o) → ∀ b o, b ≠ I → s.heap.get? b = some o → h3.get? b = some o := fun hk b o hbI e =>
    hk b o (below b (Heap.lt_size e)).1 hbI (below b (Heap.lt_size e)).2 (old b o e)
  have loop : ∀ s₃ : Shared, s₃ = { s with heap := h₁, toks := s.toks + ([] : List (Str × Value)).length } →
      codeAny (model prog w) A (.compLoop (.ListComp elt [⟨target, iter, ifs, 0⟩] scope pos) 0 (.ref I) (.ref s.heap.objs.size) (compEnvC scope cl H2.objs.size env))
        (RR (.ref s.heap.objs.size) H2.objs.size) s₃ := by
    rintro s₃ rfl
    refine comp_core (cenv := compEnvC scope cl H2.objs.size env) W hn20 pz G Bd hIf hIw hwrI hDC hDf hCf hit hst₁ hacc hns₁
      (fun i v lo hi hin hP => hbind _ _ _ i v lo hi hCle (Nat.le_refl _) old hin hP)
      (fun i v lo hi h3 tk3 m3 hin hP h1 h2 hn hb hk => tests _ i v lo hi h3 tk3 m3 hCle hin hP h1 (by simpa using h2) hn hb (up hk))
      (fun i v lo hi h3 tk3 m3 hin hz hP h1 h2 hn hb hk => elts _ i v lo hi h3 tk3 m3 hCle hin hz hP h1 (by simpa using h2) hn hb (up hk)) fun h' tk m' log hn hD hidx hlog hk htk => ?_
    refine done _ _ h' tk m' log (Nat.le_refl _) hCle hDC hn hD hidx ⟨fun e he => ?_, hlog.2⟩ (fun b o hbI e => up hk b o hbI e) (by simpa using htk)
    obtain ⟨a1, a2, a3, a4⟩ := hlog.1 e he
    refine ⟨by simpa using a1, a2, a3, fun q hq => ⟨(a4 q hq).1, (a4 q hq).2.2.2.1, (a4 q hq).2.1, ?_⟩⟩
    cases e : s.heap.get? q.1 with
    | none => rfl
    | some o => have := (a4 q hq).2.2.2.2; rw [old _ _ e] at this; cases this
  exact codeAny_compStart_list (loop _ rfl) (W.self 0 _ _ _ hst₁ (loop _ rfl))
end
section
variable {prog : Program} {w : World} {A : Around} {E : Value → Shared → Prop} {s : Shared} {env : Env} {g : Heap} {L : Addr}
def CompEndA (g : Heap) (L : Addr) (m : Str → Option Value) (y : Str) (news : List (Addr × Obj)) (n : Nat) (pz : Nat → Bool) (G : Gr) (Qf : Flow → Shared → Prop) (s₁ : Shared) : Prop :=
  ∀ D h' tk log, s₁.heap.get? D = none → g.get? D = none → D ≠ L → LL h' D (log.map (·.y)) → log.map (·.i) = (List.range n).filter pz → LogOk G s₁.toks (fun b => b ≠ D ∧ s₁.heap.get? b = none) h' tk log → (∀ b o, b ≠ L → s₁.heap.get? b = some o → h'.get? b = some o) →
    Fr g L h' (fun z => if z = y then some (.ref D) else m z) → News g L h' news → s₁.toks ≤ tk → Qf .next { s₁ with heap := h', toks := tk }
def ListSrcA (prog : Program) (w : World) (A : Around) (env : Env) (scope : Scope) (cl : List (Str × Addr)) (target : PySem.Expr) (ifs : List PySem.Expr) (elt : PySem.Expr) (g : Heap) (L : Addr) (pz : Nat → Bool) (G : Gr) (Bd : Nat → Value → (Str → Option Value) → Prop) (y : Str) (Qf : Flow → Shared → Prop) (xv : Value) (s₁ : Shared) : Prop :=
  ∃ (ax : Addr) (vs : List Value) (m : Str → Option Value) (news : List (Addr × Obj)), xv = .ref ax ∧ s₁.heap.IsList ax vs.toArray ∧ vs.length < 2 ^ 20 ∧ Fr g L s₁.heap m ∧ News g L s₁.heap news ∧
      (∀ I C D (s' : Shared) i v, s₁.heap.get? I = none → s₁.heap.get? C = none → s₁.heap.get? D = none → Kp s₁.heap s'.heap → vs[i]? = some v → BindsAt prog w A target I D (compEnvC scope cl C env) s' v (Bd i v)) ∧
      CompAsk prog w A env scope cl g L m news ifs elt vs.length (fun i v _ => vs[i]? = some v) pz G Bd s₁ ∧
      CompEndA g L m y news vs.length pz G Qf s₁

def RangeSrcA (prog : Program) (w : World) (A : Around) (env : Env) (scope : Scope) (cl : List (Str × Addr)) (target : PySem.Expr) (ifs : List PySem.Expr) (elt : PySem.Expr) (g : Heap) (L : Addr) (pz : Nat → Bool) (G : Gr) (Bd : Nat → Value → (Str → Option Value) → Prop) (y : Str) (Qf : Flow → Shared → Prop) (xv : Value) (s₁ : Shared) : Prop :=
  ∃ (r : Addr) (n : Nat) (t u v : Tok) (m : Str → Option Value) (news : List (Addr × Obj)), xv = .ref r ∧ IsRange s₁.heap r 0 (n : Int) 1 t u v ∧ n < 2 ^ 20 ∧ Fr g L s₁.heap m ∧ News g L s₁.heap news ∧
      (∀ I C D (s' : Shared) i v, s₁.heap.get? I = none → s₁.heap.get? C = none → s₁.heap.get? D = none → Kp s₁.heap s'.heap → BindsAt prog w A target I D (compEnvC scope cl C env) s' v (Bd i v)) ∧
      CompAsk prog w A env scope cl g L m news ifs elt n (fun i v tk3 => ∃ t, v = .int (i : Int) t ∧ s₁.toks ≤ t ∧ t < tk3) pz G Bd s₁ ∧
      CompEndA g L m y news n pz G Qf s₁

theorem ListSrcA.intro {scope : Scope} {cl : List (Str × Addr)} {target : PySem.Expr} {ifs : List PySem.Expr} {elt : PySem.Expr} {pz : Nat → Bool} {G : Gr} {Bd : Nat → Value → (Str → Option Value) → Prop} {y : Str} {Qf : Flow → Shared → Prop} {ax : Addr} {s₁ : Shared} {m : Str → Option Value} {news : List (Addr × Obj)} (vs : List Value)
    (F : Fr g L s₁.heap m) (N : News g L s₁.heap news) (hl : LL s₁.heap ax vs) (hn : vs.length < 2 ^ 20)
    (hb : ∀ I C D (s' : Shared) i v, s₁.heap.get? I = none → s₁.heap.get? C = none → s₁.heap.get? D = none → Kp s₁.heap s'.heap → vs[i]? = some v → BindsAt prog w A target I D (compEnvC scope cl C env) s' v (Bd i v))
    (ask : CompAsk prog w A env scope cl g L m news ifs elt vs.length (fun i v _ => vs[i]? = some v) pz G Bd s₁)
    (fin : CompEndA g L m y news vs.length pz G Qf s₁) : ListSrcA prog w A env scope cl target ifs elt g L pz G Bd y Qf (.ref ax) s₁ :=
  ⟨ax, vs, m, news, rfl, hl.isList, hn, F, N, hb, ask, fin⟩
theorem RangeSrcA.intro {scope : Scope} {cl : List (Str × Addr)} {target : PySem.Expr} {ifs : List PySem.Expr} {elt : PySem.Expr} {pz : Nat → Bool} {G : Gr} {Bd : Nat → Value → (Str → Option Value) → Prop} {y : Str} {Qf : Flow → Shared → Prop} {r : Addr} {s₁ : Shared} {m : Str → Option Value} {news : List (Addr × Obj)} {t u v : Tok} (n : Nat)
    (F : Fr g L s₁.heap m) (N : News g L s₁.heap news) (hl : IsRange s₁.heap r 0 (n : Int) 1 t u v) (hn : n < 2 ^ 20)
    (hb : ∀ I C D (s' : Shared) i v, s₁.heap.get? I = none → s₁.heap.get? C = none → s₁.heap.get? D = none → Kp s₁.heap s'.heap → BindsAt prog w A target I D (compEnvC scope cl C env) s' v (Bd i v))
    (ask : CompAsk prog w A env scope cl g L m news ifs elt n (fun i v tk3 => ∃ t, v = .int (i : Int) t ∧ s₁.toks ≤ t ∧ t < tk3) pz G Bd s₁)
    (fin : CompEndA g L m y news n pz G Qf s₁) : RangeSrcA prog w A env scope cl target ifs elt g L pz G Bd y Qf (.ref r) s₁ :=
  ⟨r, n, t, u, v, m, news, rfl, hl, hn, F, N, hb, ask, fin⟩

theorem comp_listA {elt target iter : PySem.Expr} {ifs : List PySem.Expr} {scope : Scope} {cl : List (Str × Addr)} {pos spos py : Pos} {y : Str} {Qf : Flow → Shared → Prop} (pz : Nat → Bool) (G : Gr) (Bd : Nat → Value → (Str → Option Value) → Prop)
    (hh : A.handled = none) (hL : env.locals = L) (hsw : swapsWith (.ListComp elt [⟨target, iter, ifs, 0⟩] scope pos) (some (.Name y py)) spos.line env = pure true) (hy : env.kindOf y = some .local) (hp : (env.scope.kind == .class || (env.scope.kind == .module && env.locals != env.globals)) = false) (hclos : closureFor scope env = pure cl) (hcell : ∀ y ∈ scope.names, y.2 ≠ .cell) (hkind : scope.kind = .function) (hnames : ∀ y ∈ scope.names, y.2 = .local → scope.names.lookup y.1 = some .local)
    (h : wpAny (model prog w) A (eval iter env) (ListSrcA prog w A env scope cl target ifs elt g L pz G Bd y Qf) E s)
    (hs : ∀ x, foldedSetIterable iter env x = pure x := by intro _; rfl) :
    wpAny (model prog w) A (exec (.Assign [.Name y py] (.ListComp elt [⟨target, iter, ifs, 0⟩] scope pos) spos) env) Qf E s := by
  subst hL
  rw [exec_Assign_Name_used _ _ _ _ hsw]
  refine wpAny_bind (wpAny_standAt (wpAny_bind ?_))
  show wpAny _ A (do let _ ← comprehension (.ListComp elt [⟨target, iter, ifs, 0⟩] scope pos) scope env _ (newList []) false (eval iter env) (some (assign (.Name y py) env))) _ _ s
  refine wpAny_bind (wpAny_mono (wpAny_comprehension_free (use := some (assign (.Name y py) env)) (Q := fun _ s' => Qf .next s') rfl hs hclos hkind hnames
    (wpAny_mono h (fun xv s₁ h₁ => ?_) fun _ _ e => e)) (fun _ s' hq => wpAny_pure (wpAny_pure hq)) fun _ _ e => e)
  refine exE4 h₁ fun ax vs m news jj => andE8 jj fun ez4 hl hn20 F N hbind hask hend => ?_
  clear jj
  clear h₁
  subst ez4
  obtain ⟨ol, hol, _⟩ := id hl
  have hax : ax < s₁.heap.objs.size := Heap.lt_size hol
  refine wpAny_pyIter_list hl ?_
  generalize hH1 : s₁.heap.push { cls := .type "list_iterator", data := .fields #[.ref ax, .int 0 0] } = H1
  have hz : H1.objs.size = s₁.heap.objs.size + 1 := by rw [← hH1, Heap.size_push]
  have k₁ : Kp s₁.heap H1 := fun b o e => hH1 ▸ Heap.get?_push_of_some _ e
  have hI : H1.get? s₁.heap.objs.size = some { cls := .type "list_iterator", data := .fields #[.ref ax, .int 0 0] } := hH1 ▸ Heap.get?_push_size _ rfl
  have up : ∀ {h3 : Heap}, (∀ b o, b ≠ s₁.heap.objs.size → H1.get? b = some o → h3.get? b = some o) → Kp s₁.heap h3 := fun hk b o e => hk b o (Nat.ne_of_lt (Heap.lt_size e)) (k₁ b o e)
  have hCL : ∀ {C : Addr}, H1.objs.size ≤ C → C ≠ env.locals ∧ s₁.heap.get? C = none := fun hC => ⟨(size_none F (by omega)).2, ge_none (by omega)⟩
  refine comp_blockR (RR := fun acc C => compPost (model prog w) A E (some (assign (.Name y py) env)) (fun _ s' => Qf .next s') acc C) (W := mwalk_list hh s₁.heap.objs.size ax (Nat.ne_of_lt hax) vs) hn20 pz G Bd hcell hkind (by simp) (by simp) (by simp) (fun i h st => ?_) ⟨⟨_, hI, rfl, rfl⟩, hl.at fun o e => k₁ _ _ e⟩ ?_ ?_ ?_ ?_ ?_
  · obtain ⟨o, e, hc, _⟩ := st.1
    exact ⟨o, e, .inl hc⟩
  · intro b hb
    show b < H1.objs.size
    rw [hz]
    rcases List.mem_cons.mp hb with rfl | hb
    · exact Nat.lt_succ_self _
    · rw [List.mem_singleton.mp hb]; exact Nat.lt_succ_of_lt hax
  · intro C D s' i v lo hi hC hD hk hin hP
    exact hbind _ C D s' i v (ge_none (Nat.le_refl _)) (hCL hC).2 (hCL hD).2 (Kp.trans k₁ hk) hP.1
  · intro C i v lo hi h3 tk3 m3 hC hin hP h1 h2 hn hb hk
    have k3 := up hk
    exact (hask C i v h3 tk3 m3 (hCL hC).1 (hCL hC).2 hin hP.1 (Nat.le_trans h2 (Nat.le_trans hP.2 h1)) hn hb k3 (F.keeps k3) (N.grown k3)).1
  · intro C i v lo hi h3 tk3 m3 hC hin hz hP h1 h2 hn hb hk
    have k3 := up hk
    refine wpAny_mono ((hask C i v h3 tk3 m3 (hCL hC).1 (hCL hC).2 hin hP.1 (Nat.le_trans h2 (Nat.le_trans hP.2 h1)) hn hb k3 (F.keeps k3) (N.grown k3)).2 hz) (fun y s₄ h₄ => ?_) fun _ _ e => e
    obtain ⟨q1, as, q2, q3⟩ := h₄
    exact ⟨q1, as, fun hh' hle => q2 lo hh' h2 (Nat.le_trans hP.2 h1) hle, q3⟩
  · intro D C h' tk mC log hD hC hDC hnC hl' hidx hlog hk htk
    have k3 := up hk
    have hD0 := (hCL hD).2
    have hDL := (hCL hD).1
    have hLC : env.locals ≠ C := Ne.symm (hCL hC).1
    show wpAny _ A (assign (.Name y py) env (.ref D)) _ _ _
    refine wpAny_assign_Name (wpAny_storeName_local hy (F.keeps k3).ns (fun h₂ hn₂ hs₂ => ?_) hp)
    replace hs₂ : Heap.SameBut env.locals h' h₂ := hs₂
    refine ⟨mC, hnC.sameBut hs₂ (Ne.symm hLC), fun h₃ hs₃ => ?_⟩
    replace hs₃ : Heap.SameBut C h₂ h₃ := hs₃
    have upA : ∀ b o, b ≠ env.locals → b ≠ C → h'.get? b = some o → h₃.get? b = some o := fun b o q1 q2 e => hs₃.extBut b o q2 (hs₂.extBut b o q1 e)
    have old1 : ∀ b o, s₁.heap.get? b = some o → b ≠ C := fun b o e q => by rw [q, (hCL hC).2] at e; cases e
    obtain ⟨nD, eD⟩ := hl'
    have F3 := F.keeps k3
    refine hend D h₃ _ log hD0 (size_none F (show s₁.heap.objs.size ≤ D from Nat.le_trans (by rw [hz]; exact Nat.le_succ _) hD)).1 hDL ⟨nD, upA _ _ hDL hDC eD⟩ hidx ⟨fun e he => ?_, hlog.2⟩ (fun b o q e => upA b o q (old1 b o e) (k3 b o e)) ?_ (fun p hp => ⟨upA _ _ (N p hp).2.1 (old1 _ _ (N p hp).1) (k3 _ _ (N p hp).1), (N p hp).2⟩) (show s₁.toks ≤ tk + 1 from Nat.le_succ_of_le htk)
    · obtain ⟨a1, a2, a3, a4⟩ := hlog.1 e he
      refine ⟨a1, Nat.le_succ_of_le a2, a3, fun q hq => ?_⟩
      obtain ⟨b1, b2, b3, b4⟩ := a4 q hq
      have hq0 : s₁.heap.get? q.1 = none := by
        cases e : s₁.heap.get? q.1 with
        | none => rfl
        | some o => rw [k₁ _ _ e] at b4; cases b4
      have hqL : q.1 ≠ env.locals := fun w => by
        obtain ⟨o, _, _, ho, _⟩ := F.ns
        rw [w, ho] at hq0
        cases hq0
      exact ⟨upA _ _ hqL b3 b1, b2, hq0⟩
    · exact ⟨hn₂.sameBut hs₃ hLC, fun b o x => upA b o (Nat.ne_of_lt (Nat.lt_of_lt_of_le (Heap.lt_size x) F.above)) (old1 _ _ (F.keep b o x)) (F3.keep b o x), F.above⟩
theorem comp_rangeA {elt target iter : PySem.Expr} {ifs : List PySem.Expr} {scope : Scope} {cl : List (Str × Addr)} {pos spos py : Pos} {y : Str} {Qf : Flow → Shared → Prop} (pz : Nat → Bool) (G : Gr) (Bd : Nat → Value → (Str → Option Value) → Prop)
    (hh : A.handled = none) (hL : env.locals = L) (hsw : swapsWith (.ListComp elt [⟨target, iter, ifs, 0⟩] scope pos) (some (.Name y py)) spos.line env = pure true) (hy : env.kindOf y = some .local) (hp : (env.scope.kind == .class || (env.scope.kind == .module && env.locals != env.globals)) = false) (hclos : closureFor scope env = pure cl) (hcell : ∀ y ∈ scope.names, y.2 ≠ .cell) (hkind : scope.kind = .function) (hnames : ∀ y ∈ scope.names, y.2 = .local → scope.names.lookup y.1 = some .local)
    (h : wpAny (model prog w) A (eval iter env) (RangeSrcA prog w A env scope cl target ifs elt g L pz G Bd y Qf) E s)
    (hs : ∀ x, foldedSetIterable iter env x = pure x := by intro _; rfl) :
    wpAny (model prog w) A (exec (.Assign [.Name y py] (.ListComp elt [⟨target, iter, ifs, 0⟩] scope pos) spos) env) Qf E s := by
  subst hL
  rw [exec_Assign_Name_used _ _ _ _ hsw]
  refine wpAny_bind (wpAny_standAt (wpAny_bind ?_))
  show wpAny _ A (do let _ ← comprehension (.ListComp elt [⟨target, iter, ifs, 0⟩] scope pos) scope env _ (newList []) false (eval iter env) (some (assign (.Name y py) env))) _ _ s
  refine wpAny_bind (wpAny_mono (wpAny_comprehension_free (use := some (assign (.Name y py) env)) (Q := fun _ s' => Qf .next s') rfl hs hclos hkind hnames
    (wpAny_mono h (fun xv s₁ h₁ => ?_) fun _ _ e => e)) (fun _ s' hq => wpAny_pure (wpAny_pure hq)) fun _ _ e => e)
  refine exE7 h₁ fun r n t u v m news jj => andE8 jj fun ez7 hr hn20 F N hbind hask hend => ?_
  clear jj
  clear h₁
  subst ez7
  have hsize : Builtin.Range.rangeSize 0 (n : Int) 1 = (n : Int) := by
    unfold Builtin.Range.rangeSize
    simp
    omega
  have hsmall : Builtin.Range.small 0 (n : Int) 1 = true := by
    unfold Builtin.Range.small Builtin.Range.rangeFitsLong
    rw [hsize]
    simp
    omega
  refine wpAny_pyIter_range hr hsmall ?_
  rw [hsize]
  generalize hH1 : s₁.heap.push { cls := .type "range_iterator", data := .fields #[rawInt 0, rawInt (n : Int), rawInt 1] } = H1
  have hz : H1.objs.size = s₁.heap.objs.size + 1 := by rw [← hH1, Heap.size_push]
  have k₁ : Kp s₁.heap H1 := fun b o e => hH1 ▸ Heap.get?_push_of_some _ e
  have hI : H1.get? s₁.heap.objs.size = some { cls := .type "range_iterator", data := .fields #[rawInt 0, rawInt (n : Int), rawInt 1] } := hH1 ▸ Heap.get?_push_size _ rfl
  have up : ∀ {h3 : Heap}, (∀ b o, b ≠ s₁.heap.objs.size → H1.get? b = some o → h3.get? b = some o) → Kp s₁.heap h3 := fun hk b o e => hk b o (Nat.ne_of_lt (Heap.lt_size e)) (k₁ b o e)
  have hCL : ∀ {C : Addr}, H1.objs.size ≤ C → C ≠ env.locals ∧ s₁.heap.get? C = none := fun hC => ⟨(size_none F (by omega)).2, ge_none (by omega)⟩
  refine comp_blockR (RR := fun acc C => compPost (model prog w) A E (some (assign (.Name y py) env)) (fun _ s' => Qf .next s') acc C) (W := mwalk_range hh s₁.heap.objs.size n) hn20 pz G Bd hcell hkind (by simp) (by simp) (by simp) (fun i h st => ⟨_, st, .inr rfl⟩) (by simpa using hI) ?_ ?_ ?_ ?_ ?_
  · intro b hb
    show b < H1.objs.size
    rw [List.mem_singleton.mp hb, hz]; exact Nat.lt_succ_self _
  · intro C D s' i v lo hi hC hD hk hin hP
    exact hbind _ C D s' i v (ge_none (Nat.le_refl _)) (hCL hC).2 (hCL hD).2 (Kp.trans k₁ hk)
  · intro C i v lo hi h3 tk3 m3 hC hin hP h1 h2 hn hb hk
    have k3 := up hk
    have h2 : s₁.toks ≤ lo := h2
    obtain ⟨t9, e9, l9, u9⟩ := hP
    exact (hask C i v h3 tk3 m3 (hCL hC).1 (hCL hC).2 hin ⟨t9, e9, Nat.le_trans h2 l9, Nat.lt_of_lt_of_le u9 h1⟩ (Nat.le_trans h2 (Nat.le_trans (Nat.le_trans l9 (Nat.le_of_lt u9)) h1)) hn hb k3 (F.keeps k3) (N.grown k3)).1
  · intro C i v lo hi h3 tk3 m3 hC hin hz hP h1 h2 hn hb hk
    have k3 := up hk
    have h2 : s₁.toks ≤ lo := h2
    obtain ⟨t9, e9, l9, u9⟩ := hP
    refine wpAny_mono ((hask C i v h3 tk3 m3 (hCL hC).1 (hCL hC).2 hin ⟨t9, e9, Nat.le_trans h2 l9, Nat.lt_of_lt_of_le u9 h1⟩ (Nat.le_trans h2 (Nat.le_trans (Nat.le_trans l9 (Nat.le_of_lt u9)) h1)) hn hb k3 (F.keeps k3) (N.grown k3)).2 hz) (fun y s₄ h₄ => ?_) fun _ _ e => e
    obtain ⟨q1, as, q2, q3⟩ := h₄
    exact ⟨q1, as, fun hh' hle => q2 lo hh' h2 (Nat.le_trans (Nat.le_trans l9 (Nat.le_of_lt u9)) h1) hle, q3⟩
  · intro D C h' tk mC log hD hC hDC hnC hl' hidx hlog hk htk
    have k3 := up hk
    have hD0 := (hCL hD).2
    have hDL := (hCL hD).1
    have hLC : env.locals ≠ C := Ne.symm (hCL hC).1
    show wpAny _ A (assign (.Name y py) env (.ref D)) _ _ _
    refine wpAny_assign_Name (wpAny_storeName_local hy (F.keeps k3).ns (fun h₂ hn₂ hs₂ => ?_) hp)
    replace hs₂ : Heap.SameBut env.locals h' h₂ := hs₂
    refine ⟨mC, hnC.sameBut hs₂ (Ne.symm hLC), fun h₃ hs₃ => ?_⟩
    replace hs₃ : Heap.SameBut C h₂ h₃ := hs₃
    have upA : ∀ b o, b ≠ env.locals → b ≠ C → h'.get? b = some o → h₃.get? b = some o := fun b o q1 q2 e => hs₃.extBut b o q2 (hs₂.extBut b o q1 e)
    have old1 : ∀ b o, s₁.heap.get? b = some o → b ≠ C := fun b o e q => by rw [q, (hCL hC).2] at e; cases e
    obtain ⟨nD, eD⟩ := hl'
    have F3 := F.keeps k3
    refine hend D h₃ _ log hD0 (size_none F (show s₁.heap.objs.size ≤ D from Nat.le_trans (by rw [hz]; exact Nat.le_succ _) hD)).1 hDL ⟨nD, upA _ _ hDL hDC eD⟩ hidx ⟨fun e he => ?_, hlog.2⟩ (fun b o q e => upA b o q (old1 b o e) (k3 b o e)) ?_ (fun p hp => ⟨upA _ _ (N p hp).2.1 (old1 _ _ (N p hp).1) (k3 _ _ (N p hp).1), (N p hp).2⟩) (show s₁.toks ≤ tk + 1 from Nat.le_succ_of_le htk)
    · obtain ⟨a1, a2, a3, a4⟩ := hlog.1 e he
      refine ⟨a1, Nat.le_succ_of_le a2, a3, fun q hq => ?_⟩
      obtain ⟨b1, b2, b3, b4⟩ := a4 q hq
      have hq0 : s₁.heap.get? q.1 = none := by
        cases e : s₁.heap.get? q.1 with
        | none => rfl
        | some o => rw [k₁ _ _ e] at b4; cases b4
      have hqL : q.1 ≠ env.locals := fun w => by
        obtain ⟨o, _, _, ho, _⟩ := F.ns
        rw [w, ho] at hq0
        cases hq0
      exact ⟨upA _ _ hqL b3 b1, b2, hq0⟩
    · exact ⟨hn₂.sameBut hs₃ hLC, fun b o x => upA b o (Nat.ne_of_lt (Nat.lt_of_lt_of_le (Heap.lt_size x) F.above)) (old1 _ _ (F.keep b o x)) (F3.keep b o x), F.above⟩
end
end Mine
end

/-! L15 -/
section
open PySem PySem.W PySem.Calls PySem.Spec PyProof.Rows
set_option Elab.async false
set_option autoImplicit false
set_option maxRecDepth 100000
set_option maxHeartbeats 4000000
namespace Mine
section
variable {prog : Program} {w : World} {A : Around} {s : Shared} {env : Env} {g : Heap} {R : Result → Shared → Prop} {m : Str → Option Value}
def CellJ (c : Addr) (J : Nat → (Str → Option Value) → List (Addr × Obj) → Prop) (tk : Nat) (m : Str → Option Value) (nx : List (Addr × Obj)) : Prop :=
  ∃ oc nx', nx = (c, oc) :: nx' ∧ (∃ v, oc.data = .cell v) ∧ (∀ p ∈ nx', p.1 ≠ c) ∧ J tk m nx'
/-- `for x in range(n)` where x is a cell -/
theorem for_rangeJC {x : Str} {px : Pos} {body : List Stmt} {it c : Addr} {news : List (Addr × Obj)} {n : Nat} {oc : Obj} {v : Option Value}
    (hh : A.handled = none) (hx : env.kindOf x = some .cell) (hkf : env.scope.kind = .function) (hc : env.cells.lookup x = some c)
    (F : Fr g env.locals s.heap m) (N : News g env.locals s.heap ((c, oc) :: news)) (hoc : oc.data = .cell v) (hit : IsRangeIter s.heap it 0 (n : Int) 1)
    (hgi : g.get? it = none) (hiL : it ≠ env.locals) (hci : c ≠ it) (hin : ∀ p ∈ news, p.1 ≠ it) (hinc : ∀ p ∈ news, p.1 ≠ c)
    (J : Nat → Nat → (Str → Option Value) → List (Addr × Obj) → Prop) (h0 : J 0 s.toks m news)
    (step : ∀ i tk tk2 m₁ nx h ito oc, i < n → tk < tk2 → J i tk m₁ nx → (∀ p ∈ nx, p.1 ≠ it ∧ p.1 ≠ c) → ito.cls = .type "range_iterator" → oc.data = .cell (some (.int (i : Int) tk)) → Fr g env.locals h m₁ → News g env.locals h ((it, ito) :: (c, oc) :: nx) →
      wpAny (model prog w) A (execs body env) (TurnEndJ g env.locals s it ito (CellJ c (J (i + 1))) R) (fun _ _ => False) { s with heap := h, toks := tk2 })
    (done : ∀ tk m₁ nx oc h, J n tk m₁ nx → (∀ p ∈ nx, p.1 ≠ c) → (∃ v, oc.data = .cell v) → Fr g env.locals h m₁ → News g env.locals h ((c, oc) :: nx) → R (.ok .next) { s with heap := h, toks := tk }) :
    codeAny (model prog w) A (.forLoop (.Name x px) (.ref it) body [] env) R s := by
  have hcL : c ≠ env.locals := (N (c, oc) (.head _)).2.1
  have hcg : g.get? c = none := (N (c, oc) (.head _)).2.2
  refine codeAny_forLoop
    (fun k s' => ∃ h' tk m' nx i oc, s' = { s with heap := h', toks := tk } ∧ IsRangeIter h' it (i : Nat) ((n : Int) - (i : Nat)) 1 ∧ Fr g env.locals h' m' ∧ News g env.locals h' ((c, oc) :: nx) ∧ (∃ v, oc.data = .cell v) ∧ (∀ p ∈ nx, p.1 ≠ it ∧ p.1 ≠ c) ∧ J i tk m' nx ∧ i ≤ n ∧
      k = n + 1 - i) ?_ (n + 1) ⟨s.heap, s.toks, m, news, 0, oc, rfl, by simpa using hit, F, N, ⟨v, hoc⟩, fun p hp => ⟨hin p hp, hinc p hp⟩, h0, Nat.zero_le _, rfl⟩
  rintro k s' zz
  refine exE6 zz fun H tk m' nx i oc' jj => andE9 jj fun ez6 hit' F' N' nz10 hn' hJ hi ez14 => ?_
  clear jj zz
  subst ez6
  obtain ⟨v', hoc'⟩ := nz10
  subst ez14
  by_cases hil : i = n
  · subst hil
    refine wpAny_pyNext_range_end hh hit' (by omega) fun h₁ he₁ => wpAny_execs_nil ?_
    refine done tk m' nx oc' h₁ hJ (fun p hp => (hn' p hp).2) ⟨v', hoc'⟩ ⟨F'.ns.extBut he₁ (Ne.symm hiL), fun b o e => he₁ b o (fun q => by rw [q, hgi] at e; cases e) (F'.keep b o e), F'.above⟩ fun p hp => ?_
    rcases List.mem_cons.mp hp with rfl | hp'
    · exact ⟨he₁ _ _ hci (N' _ hp).1, (N' _ hp).2⟩
    · exact ⟨he₁ _ _ (hn' p hp').1 (N' p hp).1, (N' p hp).2⟩
  have hlt : i < n := by omega
  have hLH : env.locals < H.objs.size := F'.ns.lt
  refine wpAny_pyNext_range_item hit' (by omega) fun h₁ hit₁ hs₁ => ?_
  replace hs₁ : Heap.SameBut it H h₁ := hs₁
  have hcell : h₁.IsCell c v' := ⟨oc', hs₁.extBut _ _ hci (N' _ (.head _)).1, hoc'⟩
  refine wpAny_assign_Name (wpAny_storeName_cell hkf hx hc hcell (fun h₂ hc₂ hs₂ => ?_))
  replace hs₂ : Heap.SameBut c h₁ h₂ := hs₂
  obtain ⟨o₂, ho₂, hd₂⟩ := hc₂
  have F₂ : Fr g env.locals h₂ m' := by
    refine ⟨(F'.ns.sameBut hs₁ (Ne.symm hiL)).sameBut hs₂ (Ne.symm hcL), fun b o x => ?_, F'.above⟩
    have hbi : b ≠ it := fun q => by rw [q, hgi] at x; cases x
    have hbc : b ≠ c := fun q => by rw [q, hcg] at x; cases x
    exact hs₂.extBut b o hbc (hs₁.extBut b o hbi (F'.keep b o x))
  have hit₂ : IsRangeIter h₂ it ((i : Int) + 1) ((n : Int) - i - 1) 1 := hs₂.extBut it _ (Ne.symm hci) hit₁
  have N₂ : News g env.locals h₂ ((it, _) :: (c, o₂) :: nx) := fun p hp => by
    rcases List.mem_cons.mp hp with rfl | hp
    · exact ⟨hit₂, hiL, hgi⟩
    rcases List.mem_cons.mp hp with rfl | hp
    · exact ⟨ho₂, hcL, hcg⟩
    · have e := N' p (.tail _ hp)
      exact ⟨hs₂.extBut _ _ (hn' p hp).2 (hs₁.extBut _ _ (hn' p hp).1 e.1), e.2⟩
  refine wpAny_mono (step i tk _ m' nx h₂ _ o₂ hlt ?_ hJ hn' rfl hd₂ F₂ N₂) (fun fl s₃ h₆ => ?_) fun _ _ e => False.elim e
  · show tk < tk + 1
    omega
  cases fl with
  | ret v => exact h₆
  | brk => exact h₆.elim
  | cont => exact h₆.elim
  | next =>
    obtain ⟨h₆, tk₆, m₂, nx₂, rfl, F₆, N₆, hn₆, oc₆, nx₃, rfl, hv₆, hc₆, hJ₆⟩ := h₆
    refine ⟨n + 1 - (i + 1), by omega, h₆, tk₆, m₂, nx₃, i + 1, oc₆, rfl, ?_, F₆, fun p hp => N₆ p (.tail _ hp), hv₆, fun p hp => ⟨hn₆ p (.tail _ hp), hc₆ p hp⟩, hJ₆, hlt, rfl⟩
    have e1 : ((i + 1 : Nat) : Int) = (i : Int) + 1 := by push_cast; rfl
    have e2 : (n : Int) - ((i + 1 : Nat) : Int) = (n : Int) - (i : Int) - 1 := by push_cast; omega
    rw [e2, e1]
    exact (N₆ _ (.head _)).1
end
end Mine
end

/-! PL2 -/
section
open PySem PySem.W PySem.Calls PySem.Spec PyProof.Rows
set_option Elab.async false
set_option autoImplicit false
set_option maxRecDepth 100000
set_option maxHeartbeats 4000000
namespace Mine
def maxN (xs : List Nat) : Nat := xs.foldl max 0
theorem le_maxN (xs : List Nat) : ∀ b, b ≤ xs.foldl max b ∧ (∀ a ∈ xs, a ≤ xs.foldl max b) ∧ (xs.foldl max b = b ∨ xs.foldl max b ∈ xs) := by
  induction xs with
  | nil => exact fun b => ⟨Nat.le_refl _, nofun, .inl rfl⟩
  | cons x xs ih =>
    intro b
    obtain ⟨h1, h2, h3⟩ := ih (max b x)
    simp only [List.foldl_cons]
    refine ⟨Nat.le_trans (Nat.le_max_left _ _) h1, fun a ha => ?_, ?_⟩
    · rcases List.mem_cons.mp ha with rfl | ha
      · exact Nat.le_trans (Nat.le_max_right _ _) h1
      · exact h2 a ha
    · rcases h3 with h3 | h3
      · rcases Nat.le_total b x with q | q
        · rw [h3, Nat.max_eq_right q]; exact .inr (.head _)
        · rw [h3, Nat.max_eq_left q]; exact .inl rfl
      · exact .inr (.tail _ h3)
/-- what `max` hands back is the pure maximum -/
theorem maxN_of {xs : List Nat} {M : Int} (hm : M ∈ (0 :: xs).map (fun n : Nat => (n : Int))) (hle : ∀ a ∈ (0 :: xs).map (fun n : Nat => (n : Int)), a ≤ M) : M = (maxN xs : Nat) := by
  obtain ⟨h1, h2, h3⟩ := le_maxN xs 0
  unfold maxN
  have a1 : ((xs.foldl max 0 : Nat) : Int) ≤ M := by
    apply hle
    rcases h3 with h3 | h3
    · rw [h3]; exact .head _
    · exact List.mem_map_of_mem (.tail _ h3)
  obtain ⟨n, hn, rfl⟩ := List.mem_map.mp hm
  rcases List.mem_cons.mp hn with rfl | hn
  · omega
  · have := h2 n hn; omega
def fallsF (ss : List Nat) : Nat → List Nat
  | 0 => []
  | n + 1 => fallsF ss n ++ [1 + maxN (((List.range n).filter fun j => decide (ss.getD n 0 < ss.getD j 0)).map fun j => (fallsF ss n).getD j 0)]
theorem fallsF_len (ss : List Nat) : ∀ n, (fallsF ss n).length = n
  | 0 => rfl
  | n + 1 => by unfold fallsF; rw [List.length_append, fallsF_len ss n]; rfl
/-- a list of ints of given values -/
def IL (ns : List Nat) (vs : List Value) : Prop := vs.length = ns.length ∧ ∀ i, i < ns.length → ∃ t, vs[i]? = some (.int ((ns.getD i 0 : Nat) : Int) t)
theorem IL.nil : IL [] [] := ⟨rfl, nofun⟩
theorem IL.snoc {ns : List Nat} {vs : List Value} (x : IL ns vs) (n : Nat) (t : Tok) : IL (ns ++ [n]) (vs ++ [.int (n : Int) t]) := by
  refine ⟨by rw [List.length_append, List.length_append, x.1]; rfl, fun i hi => ?_⟩
  rw [List.length_append] at hi
  have hi : i < ns.length + 1 := hi
  by_cases h : i < ns.length
  · obtain ⟨t', e⟩ := x.2 i h
    refine ⟨t', ?_⟩
    rw [List.getElem?_append_left (by rw [x.1]; exact h), e]
    simp [List.getD_eq_getElem?_getD, List.getElem?_append_left h]
  · have : i = ns.length := by omega
    subst this
    refine ⟨t, ?_⟩
    rw [List.getElem?_append_right (by rw [x.1]; exact Nat.le_refl _)]
    simp [x.1, List.getD_eq_getElem?_getD]
theorem IL.ints : ∀ {vs : List Value} {ns : List Nat}, IL ns vs → IntsAre vs (ns.map fun n : Nat => (n : Int))
  | [], [], _ => .nil
  | [], _ :: _, x => nomatch x.1
  | _ :: _, [], x => nomatch x.1
  | v :: vs, n :: ns, x => by
    obtain ⟨t, e⟩ := x.2 0 (Nat.succ_pos _)
    have e' : v = .int ((n : Nat) : Int) t := by simpa using e
    subst e'
    refine .cons _ _ (IL.ints ⟨Nat.succ.inj x.1, fun i hi => ?_⟩)
    obtain ⟨t', e'⟩ := x.2 (i + 1) (Nat.succ_lt_succ hi)
    exact ⟨t', by simpa using e'⟩
theorem IL.of_map {sv : List (Nat × Tok)} : IL (sv.map (·.1)) (sv.map sval) := by
  refine ⟨by simp, fun i hi => ?_⟩
  rw [List.length_map] at hi
  refine ⟨sv[i].2, ?_⟩
  simp [hi, sval, List.getD_eq_getElem?_getD]
theorem IL.get {ns : List Nat} {vs : List Value} (x : IL ns vs) {i : Nat} (h : i < vs.length) : ∃ t, vs[i]? = some (.int ((ns.getD i 0 : Nat) : Int) t) := x.2 i (x.1 ▸ h)
theorem ints_log (f : Nat → Nat) : ∀ {log : List LogE}, (∀ e ∈ log, ∃ t, e.y = .int ((f e.i : Nat) : Int) t) → IntsAre (log.map (·.y)) (((log.map (·.i)).map f).map fun n : Nat => (n : Int))
  | [], _ => .nil
  | e :: log, h => by
    obtain ⟨t, ht⟩ := h e (.head _)
    simp only [List.map_cons, ht]
    exact .cons _ _ (ints_log f fun e he => h e (.tail _ he))
end Mine
end

/-! L16 -/
section
open PySem PySem.W PySem.Calls PySem.Spec PyProof.Rows
set_option Elab.async false
set_option autoImplicit false
set_option maxRecDepth 100000
set_option maxHeartbeats 4000000
namespace Mine
section
variable {prog : Program} {w : World} {A : Around} {E : Value → Shared → Prop} {s : Shared} {g : Heap} {L : Addr}
/-- the rest of `law` from its k-th statement on, in the frame L -/
def LawRun (w : World) (k : Nat) (L : Addr) (Q : Flow → Shared → Prop) (s : Shared) : Prop :=
  ∀ name qual params body scope dV kV doc pm an cdv ct oc od osl, (hd.heap_1 w.params).lookup 280 = some ⟨oc, od, .func (fnOf name qual params body scope dV kV doc pm an cdv ct), osl⟩ →
    wpAny (model PySem.Challenge.rw_uc0025_01.row.prog w) (callerA.deeper (envOfC qual scope L 280 cdv)) (execs (body.drop k) (envOfC qual scope L 280 cdv)) Q (fun _ _ => False) s
variable {name qual : Str} {params : Arguments} {body : List Stmt} {scope : Scope} {dV kV doc pm : Value} {an : Option Addr} {cdv ct oc : Value} {od : Option Addr} {osl : Array (Option Value)}
theorem LawRun.intro {k : Nat} {Q : Flow → Shared → Prop} (h6 : (hd.heap_1 w.params).lookup 280 = some ⟨oc, od, .func (fnOf name qual params body scope dV kV doc pm an cdv ct), osl⟩)
    (h : wpAny (model PySem.Challenge.rw_uc0025_01.row.prog w) (callerA.deeper (envOfC qual scope L 280 cdv)) (execs (body.drop k) (envOfC qual scope L 280 cdv)) Q (fun _ _ => False) s) : LawRun w k L Q s := by
  intro name' qual' params' body' scope' dV' kV' doc' pm' an' cdv' ct' oc' od' osl' h7
  have e := Option.some.inj (h6.symm.trans h7)
  cases e
  exact h
theorem LawRun.elim {k : Nat} {Q : Flow → Shared → Prop} {body' : List Stmt} (h6 : (hd.heap_1 w.params).lookup 280 = some ⟨oc, od, .func (fnOf name qual params body scope dV kV doc pm an cdv ct), osl⟩)
    (h : LawRun w k L Q s) (e : body.drop k = body') : wpAny (model PySem.Challenge.rw_uc0025_01.row.prog w) (callerA.deeper (envOfC qual scope L 280 cdv)) (execs body' (envOfC qual scope L 280 cdv)) Q (fun _ _ => False) s :=
  e ▸ h _ _ _ _ _ _ _ _ _ _ _ _ _ _ _ h6
end
/-- the namespace of a running comprehension, as an entry of the ledger -/
def NsC (C : Addr) (o : Obj) (m : Str → Option Value) : Prop := ∀ h : Heap, h.get? C = some o → h.Ns C m
theorem nsC_get {g h : Heap} {L C : Addr} {o : Obj} {m : Str → Option Value} {news : List (Addr × Obj)} (x : NsC C o m) (N : News g L h news) (hm : (C, o) ∈ news) : h.Ns C m := x h (N _ hm).1
theorem nsC_led {g h h1 : Heap} {L C : Addr} {m m1 : Str → Option Value} {news : List (Addr × Obj)} (hn : h.Ns C m) (hC : C ≠ L) (h0 : h1.get? C = none) (F : Fr g L h1 m1) (N : News g L h news) : ∃ o, NsC C o m ∧ News g L h ((C, o) :: news) := by
  obtain ⟨o, es, ep, ho, hr⟩ := hn
  refine ⟨o, fun h' e => ⟨o, es, ep, e, hr⟩, fun p hp => ?_⟩
  rcases List.mem_cons.mp hp with rfl | hp
  · exact ⟨ho, hC, (fresh_of F h0).1⟩
  · exact N p hp
end Mine
end

/-! LD -/
section
open PySem PySem.W PySem.Calls PySem.Spec PyProof.Rows
set_option Elab.async false
set_option autoImplicit false
set_option maxRecDepth 100000
set_option maxHeartbeats 4000000
namespace Mine
theorem frB {g h h' : Heap} {L x : Addr} {m : Str → Option Value} (F : Fr g L h m) (hx : g.get? x = none) (hL : L ≠ x) (k : ∀ b o, b ≠ x → h.get? b = some o → h'.get? b = some o) : Fr g L h' m :=
  ⟨F.ns.at fun o e => k _ o hL e, fun b o e => k b o (fun q => by rw [q, hx] at e; cases e) (F.keep b o e), F.above⟩
theorem fresh_ne {g h : Heap} {L b c : Addr} {o : Obj} {news : List (Addr × Obj)} (e : h.get? b = none) (N : News g L h news) (hm : (c, o) ∈ news) : b ≠ c := fun q => by
  have := (N _ hm).1
  rw [← q, e] at this
  cases this
def KeepsL (g : Heap) (L : Addr) (m : Str → Option Value) (s₃ s₄ : Shared) : Prop := ∃ h' tk', s₄ = { s₃ with heap := h', toks := tk' } ∧ (∀ b o, b ≠ L → s₃.heap.get? b = some o → h'.get? b = some o) ∧ Fr g L h' m
section
variable {prog : Program} {w : World} {A : Around} {E : Value → Shared → Prop} {R : Result → Shared → Prop} {s : Shared} {g : Heap} {L : Addr} {mL : Str → Option Value}
theorem comp_core2 {elt target iter : PySem.Expr} {ifs : List PySem.Expr} {scope : Scope} {pos : Pos} {I D : Addr} {cenv : Env} {fp wr : List Addr} {n : Nat} {P : Nat → Value → Nat → Nat → Prop} {Nx : Nat → Heap → Prop} {m : Str → Option Value}
    (W : MWalk prog w A I fp wr n P Nx) (hn20 : n < 2 ^ 20) (pz : Nat → Bool) (G : Gr) (Bd : Nat → Value → (Str → Option Value) → Prop)
    (hIf : I ∈ fp) (hIw : I ∈ wr) (hwrI : ∀ b ∈ wr, b = I) (hDC : D ≠ cenv.locals) (hDf : D ∉ fp) (hCf : cenv.locals ∉ fp)
    (hit : ∀ i h, Nx i h → ∃ o, h.get? I = some o ∧ (o.cls = .type "list_iterator" ∨ o.cls = .type "range_iterator"))
    (F0 : Fr g L s.heap mL) (hLC : L ≠ cenv.locals) (hLI : L ≠ I) (hLD : L ≠ D) (hgC : g.get? cenv.locals = none) (hgI : g.get? I = none) (hgD : g.get? D = none) (hLf : L ∉ fp) (hst : Nx 0 s.heap) (hacc : LL s.heap D []) (hn : s.heap.Ns cenv.locals m)
    (hbind : ∀ s' i v lo hi, i < n → P i v lo hi → BindsAt prog w A target I D cenv s' v (Bd i v))
    (tests : ∀ i v lo hi h3 tk3 m3, i < n → P i v lo hi → hi ≤ tk3 → s.toks ≤ lo → h3.Ns cenv.locals m3 → Bd i v m3 → (∀ b o, b ≠ cenv.locals → b ≠ I → b ≠ D → b ≠ L → s.heap.get? b = some o → h3.get? b = some o) → Fr g L h3 mL →
      wpAny (model prog w) A (forIn ifs true fun c r => if r = true then do let ok ← isTrue c cenv (eval c cenv); pure (ForInStep.yield ok) else pure (ForInStep.yield r))
        (fun ok s₄ => ok = pz i ∧ KeepsL g L mL { s with heap := h3, toks := tk3 } s₄) (fun _ _ => False) { s with heap := h3, toks := tk3 })
    (elts : ∀ i v lo hi h3 tk3 m3, i < n → pz i = true → P i v lo hi → hi ≤ tk3 → s.toks ≤ lo → h3.Ns cenv.locals m3 → Bd i v m3 → (∀ b o, b ≠ cenv.locals → b ≠ I → b ≠ D → b ≠ L → s.heap.get? b = some o → h3.get? b = some o) → Fr g L h3 mL →
      wpAny (model prog w) A (eval elt cenv) (fun y s₄ => KeepsL g L mL { s with heap := h3, toks := tk3 } s₄ ∧ ∃ as, (∀ hh, s₄.toks ≤ hh → G i y as lo hh) ∧ ∀ q ∈ as, h3.get? q.1 = none ∧ s₄.heap.get? q.1 = some q.2) (fun _ _ => False) { s with heap := h3, toks := tk3 })
    (done : ∀ h' tk m' log, h'.Ns cenv.locals m' → LL h' D (log.map (·.y)) → log.map (·.i) = (List.range n).filter pz → LogOk G s.toks (fun b => b ≠ cenv.locals ∧ b ≠ I ∧ b ≠ D ∧ b ≠ L ∧ s.heap.get? b = none) h' tk log →
      (∀ b o, b ≠ cenv.locals → b ≠ I → b ≠ D → b ≠ L → s.heap.get? b = some o → h'.get? b = some o) → Fr g L h' mL → s.toks ≤ tk → R (.ok .next) { s with heap := h', toks := tk }) :
    codeAny (model prog w) A (.compLoop (.ListComp elt [⟨target, iter, ifs, 0⟩] scope pos) 0 (.ref I) (.ref D) cenv) R s := by
  have hIC : I ≠ cenv.locals := fun q => hCf (q ▸ hIf)
  have hDI : D ≠ I := fun q => hDf (q ▸ hIf)
  have hwrI' : ∀ b, b ∉ wr → b ≠ I := fun b hb q => hb (q ▸ hIw)
  refine codeAny_compLoop_any
    (fun k s' => ∃ h' tk m' log i, s' = { s with heap := h', toks := tk } ∧ Nx i h' ∧ LL h' D (log.map (·.y)) ∧ h'.Ns cenv.locals m' ∧ log.map (·.i) = (List.range i).filter pz ∧
      LogOk G s.toks (fun b => b ≠ cenv.locals ∧ b ≠ I ∧ b ≠ D ∧ b ≠ L ∧ s.heap.get? b = none) h' tk log ∧ i ≤ n ∧ k = n + 1 - i ∧ s.toks ≤ tk ∧
      Fr g L h' mL ∧ ∀ b o, b ≠ cenv.locals → b ≠ I → b ≠ D → b ≠ L → s.heap.get? b = some o → h'.get? b = some o) ?_ (n + 1)
    ⟨s.heap, s.toks, m, [], 0, rfl, hst, hacc, hn, rfl, LogOk.nil, Nat.zero_le _, rfl, Nat.le_refl _, F0, fun _ _ _ _ _ _ e => e⟩
  rintro k s' zz
  refine exE5 zz fun H tk m' log i jj => andE11 jj fun ez5 hst' hacc' hn' hidx hlog hi ez12 htk FH hk => ?_
  clear jj zz
  subst ez5
  subst ez12
  by_cases hin : i = n
  · subst hin
    refine W.done _ _ _ hst' fun h₁ tk₁ ht₁ hk₁ => ?_
    have hk₁' : ∀ b o, b ≠ I → H.get? b = some o → h₁.get? b = some o := fun b o hb e => hk₁ b o (fun q => hb (hwrI b q)) e
    exact done h₁ tk₁ m' log (hn'.at fun o e => hk₁' _ o (Ne.symm hIC) e) (hacc'.at fun o e => hk₁' _ o hDI e) hidx (hlog.mono ht₁ fun b o fb e => hk₁' b o fb.2.1 e)
      (fun b o hbC hbI hbD hbL e => hk₁' b o hbI (hk b o hbC hbI hbD hbL e)) (frB FH hgI hLI hk₁') (Nat.le_trans htk ht₁)
  have hlt : i < n := by omega
  refine W.item i _ _ _ hlt hst' fun v h₁ tk₁ hP ht₁ hNx₁ hk₁ => ?_
  replace ht₁ : tk ≤ tk₁ := ht₁
  have hk₁' : ∀ b o, b ≠ I → H.get? b = some o → h₁.get? b = some o := fun b o hb e => hk₁ b o (fun q => hb (hwrI b q)) e
  have hn₁ : h₁.Ns cenv.locals m' := hn'.at fun o e => hk₁' _ o (Ne.symm hIC) e
  have k₁ : ∀ b o, b ≠ cenv.locals → b ≠ I → b ≠ D → b ≠ L → s.heap.get? b = some o → h₁.get? b = some o := fun b o hbC hbI hbD hbL e => hk₁' b o hbI (hk b o hbC hbI hbD hbL e)
  have F₁ := frB FH hgI hLI hk₁'
  refine hbind { s with heap := h₁, toks := tk₁ } i v _ _ hlt hP _ _ h₁ tk₁ m' hn₁ (fun _ _ _ _ _ e => e) (hit _ _ hNx₁) fun h₂ tk₂ m₂ hn₂ hB₂ hk₂ ht₂ => ?_
  have k₂ : ∀ b o, b ≠ cenv.locals → b ≠ I → b ≠ D → b ≠ L → s.heap.get? b = some o → h₂.get? b = some o := fun b o hbC hbI hbD hbL e => hk₂ b o hbC (k₁ b o hbC hbI hbD hbL e)
  have F₂ := frB F₁ hgC hLC hk₂
  have hNx₂ : Nx (i + 1) h₂ := W.frame _ _ _ hNx₁ fun b hb o e => hk₂ b o (fun q => hCf (q ▸ hb)) e
  have hacc₂ : LL h₂ D (log.map (·.y)) := hacc'.at fun o e => hk₂ D o hDC (hk₁' D o hDI e)
  have hlog₂ : LogOk G s.toks (fun b => b ≠ cenv.locals ∧ b ≠ I ∧ b ≠ D ∧ b ≠ L ∧ s.heap.get? b = none) h₂ tk log := hlog.mono (Nat.le_refl _) fun b o fb e => hk₂ b o fb.1 (hk₁' b o fb.2.1 e)
  refine wpAny_mono (wpAny_toks (tests i v tk tk₁ h₂ tk₂ m₂ hlt hP ht₂ htk hn₂ hB₂ k₂ F₂)) (fun ok s₃ h₃ => ?_) fun _ _ x => x.2.elim
  obtain ⟨ht₃, rfl, h₃, tk₃, rfl, hk₃, F₃⟩ := h₃
  replace ht₃ : tk₂ ≤ tk₃ := ht₃
  replace hk₃ : ∀ b o, b ≠ L → h₂.get? b = some o → h₃.get? b = some o := hk₃
  have k₃ : ∀ b o, b ≠ cenv.locals → b ≠ I → b ≠ D → b ≠ L → s.heap.get? b = some o → h₃.get? b = some o := fun b o hbC hbI hbD hbL e => hk₃ b o hbL (k₂ b o hbC hbI hbD hbL e)
  have hNx₃ : Nx (i + 1) h₃ := W.frame _ _ _ hNx₂ fun b hb o e => hk₃ b o (fun q => hLf (q ▸ hb)) e
  have hacc₃ : LL h₃ D (log.map (·.y)) := hacc₂.at fun o e => hk₃ D o (Ne.symm hLD) e
  have hn₃ : h₃.Ns cenv.locals m₂ := hn₂.at fun o e => hk₃ _ o (Ne.symm hLC) e
  have hlog₃ : LogOk G s.toks (fun b => b ≠ cenv.locals ∧ b ≠ I ∧ b ≠ D ∧ b ≠ L ∧ s.heap.get? b = none) h₃ tk log := hlog₂.mono (Nat.le_refl _) fun b o fb e => hk₃ b o fb.2.2.2.1 e
  by_cases hpz : pz i = true
  · rw [if_pos hpz]
    refine wpAny_mono (wpAny_toks (elts i v tk tk₁ h₃ tk₃ m₂ hlt hpz hP (Nat.le_trans ht₂ ht₃) htk hn₃ hB₂ k₃ F₃)) (fun y s₄ h₄ => ?_) fun _ _ x => x.2.elim
    obtain ⟨ht₄, ⟨h₄, tk₄, rfl, hk₄, F₄⟩, as, hG, has⟩ := h₄
    replace ht₄ : tk₃ ≤ tk₄ := ht₄
    replace hk₄ : ∀ b o, b ≠ L → h₃.get? b = some o → h₄.get? b = some o := hk₄
    have hlen : (log.map (·.y)).length < 2 ^ 20 := by
      have e := congrArg List.length hidx
      simp only [List.length_map] at e ⊢
      have e2 : ((List.range i).filter pz).length ≤ i := by
        have := List.length_filter_le pz (List.range i)
        simpa using this
      omega
    refine append_LL (hacc₃.at fun o e => hk₄ D o (Ne.symm hLD) e) hlen fun h₅ l₅ k₅ => ?_
    have hk₅ : ∀ b o, b ≠ D → b ≠ L → h₃.get? b = some o → h₅.get? b = some o := fun b o hb hbL e => k₅ b o (hk₄ b o hbL e) (by simpa using hb)
    have F₅ : Fr g L h₅ mL := frB F₄ hgD hLD fun b o hb e => k₅ b o e (by simpa using hb)
    refine ⟨n + 1 - (i + 1), by omega, h₅, tk₄, m₂, log ++ [⟨i, y, as, tk, tk₄⟩], i + 1, rfl, ?_, ?_, ?_, ?_, ?_, by omega, rfl, by omega, F₅, ?_⟩
    · exact W.frame _ _ _ hNx₃ fun b hb o e => hk₅ b o (fun q => hDf (q ▸ hb)) (fun q => hLf (q ▸ hb)) e
    · simpa using l₅
    · exact hn₃.at fun o e => hk₅ _ o (Ne.symm hDC) (Ne.symm hLC) e
    · rw [range_filter_succ, List.map_append, hidx, if_pos hpz]; rfl
    · refine (hlog₃.mono (Nat.le_refl _) fun b o fb e => hk₅ b o fb.2.2.1 fb.2.2.2.1 e).snoc (Nat.le_refl _) htk (Nat.le_refl _) (show tk ≤ tk₄ by omega) (hG tk₄ (Nat.le_refl _)) fun q hq => ?_
      obtain ⟨q1, q2⟩ := has q hq
      have hqD : q.1 ≠ D := fun e => by obtain ⟨_, e2⟩ := hacc₃; rw [e, e2] at q1; cases q1
      have hqL : q.1 ≠ L := fun e => by obtain ⟨_, _, _, e2, _⟩ := F₃.ns; rw [e, e2] at q1; cases q1
      refine ⟨k₅ _ _ q2 (by simpa using hqD), fun e => ?_, fun e => ?_, hqD, hqL, ?_⟩
      · obtain ⟨_, _, _, e2, _⟩ := hn₃; rw [e, e2] at q1; cases q1
      · obtain ⟨o, e2, _⟩ := hit _ _ hNx₃; rw [e, e2] at q1; cases q1
      · cases e : s.heap.get? q.1 with
        | none => rfl
        | some o =>
          have hqC : q.1 ≠ cenv.locals := fun e => by obtain ⟨_, _, _, e2, _⟩ := hn₃; rw [e, e2] at q1; cases q1
          have hqI : q.1 ≠ I := fun e => by obtain ⟨o, e2, _⟩ := hit _ _ hNx₃; rw [e, e2] at q1; cases q1
          rw [k₃ _ _ hqC hqI hqD hqL e] at q1; cases q1
    · exact fun b o hbC hbI hbD hbL e => hk₅ b o hbD hbL (k₃ b o hbC hbI hbD hbL e)
  · rw [if_neg hpz]
    exact ⟨n + 1 - (i + 1), by omega, h₃, tk₃, m₂, log, i + 1, rfl, hNx₃, hacc₃, hn₃, by rw [range_filter_succ, hidx, if_neg hpz, List.append_nil], hlog₃.mono (by omega) (fun _ _ _ e => e), by omega, rfl, by omega, F₃, k₃⟩
end
section
variable {prog : Program} {w : World} {A : Around} {E : Value → Shared → Prop} {s : Shared} {env : Env} {g : Heap} {L : Addr} {mL : Str → Option Value}
theorem comp_block2 {elt target iter : PySem.Expr} {ifs : List PySem.Expr} {scope : Scope} {cl : List (Str × Addr)} {pos : Pos} {I : Addr} {fp wr : List Addr} {n : Nat} {P : Nat → Value → Nat → Nat → Prop} {Nx : Nat → Heap → Prop} {Q : Value → Shared → Prop}
    (W : MWalk prog w A I fp wr n P Nx) (hn20 : n < 2 ^ 20) (pz : Nat → Bool) (G : Gr) (Bd : Nat → Value → (Str → Option Value) → Prop)
    (hcell : ∀ y ∈ scope.names, y.2 ≠ .cell) (hkind : scope.kind = .function)
    (hIf : I ∈ fp) (hIw : I ∈ wr) (hwrI : ∀ b ∈ wr, b = I) (hit : ∀ i h, Nx i h → ∃ o, h.get? I = some o ∧ (o.cls = .type "list_iterator" ∨ o.cls = .type "range_iterator"))
    (F0 : Fr g L s.heap mL) (hLI : L ≠ I) (hgI : g.get? I = none) (hLf : L ∉ fp) (hst : Nx 0 s.heap) (hfp : ∀ b ∈ fp, b < s.heap.objs.size)
    (hbind : ∀ C D (s' : Shared) i v lo hi, i < n → P i v lo hi → BindsAt prog w A target I D (compEnvC scope cl C env) s' v (Bd i v))
    (tests : ∀ C i v lo hi h3 tk3 m3, s.heap.objs.size ≤ C → i < n → P i v lo hi → hi ≤ tk3 → s.toks ≤ lo → h3.Ns C m3 → Bd i v m3 → (∀ b o, b ≠ I → b ≠ L → s.heap.get? b = some o → h3.get? b = some o) → Fr g L h3 mL →
      wpAny (model prog w) A (forIn ifs true fun c r => if r = true then do let ok ← isTrue c (compEnvC scope cl C env) (eval c (compEnvC scope cl C env)); pure (ForInStep.yield ok) else pure (ForInStep.yield r))
        (fun ok s₄ => ok = pz i ∧ KeepsL g L mL { s with heap := h3, toks := tk3 } s₄) (fun _ _ => False) { s with heap := h3, toks := tk3 })
    (elts : ∀ C i v lo hi h3 tk3 m3, s.heap.objs.size ≤ C → i < n → pz i = true → P i v lo hi → hi ≤ tk3 → s.toks ≤ lo → h3.Ns C m3 → Bd i v m3 → (∀ b o, b ≠ I → b ≠ L → s.heap.get? b = some o → h3.get? b = some o) → Fr g L h3 mL →
      wpAny (model prog w) A (eval elt (compEnvC scope cl C env)) (fun y s₄ => KeepsL g L mL { s with heap := h3, toks := tk3 } s₄ ∧ ∃ as, (∀ hh, s₄.toks ≤ hh → G i y as lo hh) ∧ ∀ q ∈ as, h3.get? q.1 = none ∧ s₄.heap.get? q.1 = some q.2) (fun _ _ => False) { s with heap := h3, toks := tk3 })
    (done : ∀ D h' tk log, s.heap.objs.size ≤ D → LL h' D (log.map (·.y)) → log.map (·.i) = (List.range n).filter pz → LogOk G s.toks (fun b => b ≠ D ∧ b ≠ L ∧ s.heap.get? b = none) h' tk log →
      (∀ b o, b ≠ I → b ≠ L → s.heap.get? b = some o → h'.get? b = some o) → Fr g L h' mL → s.toks ≤ tk → Q (.ref D) { s with heap := h', toks := tk }) :
    wpAny (model prog w) A (newList []) (fun acc s₃ => wpAny (model prog w) A (newFunctionEnv scope env.globals cl [] env.qual none .none (some env)) (fun cenv s₄ =>
      codeAny (model prog w) A (.compStart (.ListComp elt [⟨target, iter, ifs, 0⟩] scope pos) 0 (.ref I) acc { cenv with scope := relabel scope env }) (compPost (model prog w) A E none Q acc cenv.locals) s₄) E s₃) E s := by
  refine wpAny_newObj_type (wpAny_newFunctionEnv hcell (by intro y hy; simp at hy) (fun h₁ hns₁ hsb₁ => ?_) hkind)
  dsimp only at hns₁ hsb₁ ⊢
  generalize hH2 : s.heap.push { cls := .type "list", dict := none, data := .seq ([] : List Value).toArray } = H2 at hns₁ hsb₁ ⊢
  have hC : H2.objs.size = s.heap.objs.size + 1 := by rw [← hH2, Heap.size_push]
  have hDC : s.heap.objs.size ≠ H2.objs.size := by rw [hC]; exact Nat.ne_of_lt (Nat.lt_succ_self _)
  have hCle : s.heap.objs.size ≤ H2.objs.size := by rw [hC]; exact Nat.le_succ _
  have below : ∀ b, b < s.heap.objs.size → b ≠ H2.objs.size ∧ b ≠ s.heap.objs.size := fun b hb => ⟨by rw [hC]; exact Nat.ne_of_lt (Nat.lt_succ_of_lt hb), Nat.ne_of_lt hb⟩
  have hDf : s.heap.objs.size ∉ fp := fun hm => Nat.lt_irrefl _ (hfp _ hm)
  have hCf : H2.objs.size ∉ fp := fun hm => by have := hfp _ hm; rw [hC] at this; exact Nat.lt_irrefl _ (Nat.lt_of_succ_lt this)
  have old : ∀ b o, s.heap.get? b = some o → h₁.get? b = some o := fun b o e => hsb₁.extBut b o (below b (Heap.lt_size e)).1 (Heap.get?_push_of_some _ (hH2 ▸ Heap.get?_push_of_some _ e))
  have hacc : LL h₁ s.heap.objs.size [] := ⟨_, hsb₁.extBut _ _ hDC (Heap.get?_push_of_some _ (hH2 ▸ Heap.get?_push_size _ rfl))⟩
  have hst₁ : Nx 0 h₁ := W.frame _ _ _ hst fun b _ o e => old b o e
  have up : ∀ {h3 : Heap}, (∀ b o, b ≠ H2.objs.size → b ≠ I → b ≠ s.heap.objs.size → b ≠ L → h₁.get? b = some o → h3.get? b = some o) → ∀ b o, b ≠ I → b ≠ L → s.heap.get? b = some o → h3.get? b = some o := fun hk b o hbI hbL e =>
    hk b o (below b (Heap.lt_size e)).1 hbI (below b (Heap.lt_size e)).2 hbL (old b o e)
  have hLs : L < s.heap.objs.size := F0.ns.lt
  have F1 : Fr g L h₁ mL := F0.keeps old
  have hgs := (size_none F0 (Nat.le_refl _)).1
  have hgC := (size_none F0 hCle).1
  have loop : ∀ s₃ : Shared, s₃ = { s with heap := h₁, toks := s.toks + ([] : List (Str × Value)).length } →
      codeAny (model prog w) A (.compLoop (.ListComp elt [⟨target, iter, ifs, 0⟩] scope pos) 0 (.ref I) (.ref s.heap.objs.size) (compEnvC scope cl H2.objs.size env))
        (compPost (model prog w) A E none Q (.ref s.heap.objs.size) H2.objs.size) s₃ := by
    rintro s₃ rfl
    refine comp_core2 (g := g) (L := L) (mL := mL) (cenv := compEnvC scope cl H2.objs.size env) W hn20 pz G Bd hIf hIw hwrI hDC hDf hCf hit F1 (below L hLs).1 hLI (below L hLs).2 hgC hgI hgs hLf hst₁ hacc hns₁
      (fun s' i v lo hi hin hP => hbind _ _ s' i v lo hi hin hP)
      (fun i v lo hi h3 tk3 m3 hin hP h1 h2 hn hb hk F3 => tests _ i v lo hi h3 tk3 m3 hCle hin hP h1 (by simpa using h2) hn hb (up hk) F3)
      (fun i v lo hi h3 tk3 m3 hin hz hP h1 h2 hn hb hk F3 => elts _ i v lo hi h3 tk3 m3 hCle hin hz hP h1 (by simpa using h2) hn hb (up hk) F3) fun h' tk m' log hn hD hidx hlog hk F3 htk => ?_
    refine ⟨m', hn, fun h'' hs'' => ?_⟩
    have hsC : ∀ b o, b ≠ H2.objs.size → h'.get? b = some o → h''.get? b = some o := fun b o hb e => hs''.extBut b o hb e
    refine done _ h'' tk log (Nat.le_refl _) (hD.at fun o e => hsC _ o hDC e) hidx ?_ (fun b o hbI hbL e => hsC b o (below b (Heap.lt_size e)).1 (up hk b o hbI hbL e)) (frB F3 hgC (below L hLs).1 hsC) (by simpa using htk)
    refine ⟨fun e he => ?_, hlog.2⟩
    obtain ⟨a1, a2, a3, a4⟩ := hlog.1 e he
    refine ⟨by simpa using a1, a2, a3, fun q hq => ⟨hsC _ _ (a4 q hq).2.1 (a4 q hq).1, (a4 q hq).2.2.2.1, (a4 q hq).2.2.2.2.1, ?_⟩⟩
    cases e : s.heap.get? q.1 with
    | none => rfl
    | some o => have := (a4 q hq).2.2.2.2.2; rw [old _ _ e] at this; cases this
  exact codeAny_compStart_list (loop _ rfl) (W.self 0 _ _ _ hst₁ (loop _ rfl))

/-- all of a heap that is neither in g nor the frame L -/
def RestOk (g : Heap) (L : Addr) (h : Heap) (R : List (Addr × Obj)) : Prop := ∀ b o, h.get? b = some o → b ≠ L → g.get? b = some o ∨ (b, o) ∈ R
theorem rest_of {h : Heap} {m : Str → Option Value} (F : Fr g L h m) : ∃ R, RestOk g L h R ∧ News g L h R := by
  refine ⟨(List.range h.objs.size).filterMap fun b => match h.get? b with | some o => if b ≠ L ∧ g.get? b = none then some (b, o) else none | none => none, fun b o e hb => ?_, fun p hp => ?_⟩
  · cases q : g.get? b with
    | some o' => rw [F.keep b o' q] at e; exact .inl (by rw [e])
    | none =>
      refine .inr (List.mem_filterMap.mpr ⟨b, List.mem_range.mpr (Heap.lt_size e), ?_⟩)
      rw [e]
      dsimp only
      rw [if_pos ⟨hb, q⟩]
  · obtain ⟨b, hb, e⟩ := List.mem_filterMap.mp hp
    cases q : h.get? b with
    | none => rw [q] at e; cases e
    | some o =>
      rw [q] at e
      dsimp only at e
      split at e
      · rename_i hc; cases e; exact ⟨q, hc⟩
      · cases e
theorem kept_rest {h h' : Heap} {m' : Str → Option Value} {R news' : List (Addr × Obj)} (hR : RestOk g L h R) (F' : Fr g L h' m') (N' : News g L h' news') (hs : ∀ q ∈ R, q ∈ news') : ∀ b o, b ≠ L → h.get? b = some o → h'.get? b = some o := fun b o hb e => by
  rcases hR b o e hb with q | q
  · exact F'.keep b o q
  · exact (N' _ (hs _ q)).1
def TestIs2 (g : Heap) (L : Addr) (m : Str → Option Value) (b : Bool) (s₃ : Shared) (ok : Bool) (s₄ : Shared) : Prop := ok = b ∧ KeepsL g L m s₃ s₄
def EltIs2 (g : Heap) (L : Addr) (m : Str → Option Value) (G : Gr) (i base : Nat) (s₃ : Shared) (y : Value) (s₄ : Shared) : Prop :=
  KeepsL g L m s₃ s₄ ∧ ∃ as, (∀ lo hh, base ≤ lo → lo ≤ s₃.toks → s₄.toks ≤ hh → G i y as lo hh) ∧ ∀ q ∈ as, s₃.heap.get? q.1 = none ∧ s₄.heap.get? q.1 = some q.2
theorem TestIs2.intro {m : Str → Option Value} {b ok : Bool} {s₃ : Shared} {h' : Heap} {tk' : Nat} {R news' : List (Addr × Obj)} (e : ok = b) (hR : RestOk g L s₃.heap R) (F' : Fr g L h' m) (N' : News g L h' news') (hs : ∀ q ∈ R, q ∈ news') : TestIs2 g L m b s₃ ok { s₃ with heap := h', toks := tk' } :=
  ⟨e, h', tk', rfl, kept_rest hR F' N' hs, F'⟩
theorem EltIs2.news {m : Str → Option Value} {G : Gr} {i base : Nat} {s₃ : Shared} {y : Value} {h' : Heap} {tk' : Nat} {R news' : List (Addr × Obj)} (as : List (Addr × Obj)) (hR : RestOk g L s₃.heap R) (F' : Fr g L h' m) (N' : News g L h' news') (hs : ∀ q ∈ R, q ∈ news')
    (e : ∀ lo hh, base ≤ lo → lo ≤ s₃.toks → tk' ≤ hh → G i y as lo hh) (q : ∀ q ∈ as, s₃.heap.get? q.1 = none ∧ h'.get? q.1 = some q.2) : EltIs2 g L m G i base s₃ y { s₃ with heap := h', toks := tk' } :=
  ⟨⟨h', tk', rfl, kept_rest hR F' N' hs, F'⟩, as, e, q⟩
theorem EltIs2.plain {m : Str → Option Value} {G : Gr} {i base : Nat} {s₃ : Shared} {y : Value} {h' : Heap} {tk' : Nat} {R news' : List (Addr × Obj)} (hR : RestOk g L s₃.heap R) (F' : Fr g L h' m) (N' : News g L h' news') (hs : ∀ q ∈ R, q ∈ news')
    (e : ∀ lo hh, base ≤ lo → lo ≤ s₃.toks → tk' ≤ hh → G i y [] lo hh) : EltIs2 g L m G i base s₃ y { s₃ with heap := h', toks := tk' } :=
  EltIs2.news [] hR F' N' hs e (by simp)
def CompAsk2 (prog : Program) (w : World) (A : Around) (env : Env) (scope : Scope) (cl : List (Str × Addr)) (g : Heap) (L : Addr) (m : Str → Option Value) (news : List (Addr × Obj)) (ifs : List PySem.Expr) (elt : PySem.Expr) (n : Nat)
    (Pv : Nat → Value → Nat → Prop) (pz : Nat → Bool) (G : Gr) (Bd : Nat → Value → (Str → Option Value) → Prop) (s₁ : Shared) : Prop :=
  ∀ C i v h3 tk3 m3 oC R, i < n → Pv i v tk3 → s₁.toks ≤ tk3 → Bd i v m3 → NsC C oC m3 → RestOk g L h3 R → Fr g L h3 m → News g L h3 ((C, oC) :: (news ++ R)) →
    wpAny (model prog w) A (forIn ifs true fun c r => if r = true then do let ok ← isTrue c (compEnvC scope cl C env) (eval c (compEnvC scope cl C env)); pure (ForInStep.yield ok) else pure (ForInStep.yield r))
        (TestIs2 g L m (pz i) { s₁ with heap := h3, toks := tk3 }) (fun _ _ => False) { s₁ with heap := h3, toks := tk3 } ∧
    (pz i = true → wpAny (model prog w) A (eval elt (compEnvC scope cl C env)) (EltIs2 g L m G i s₁.toks { s₁ with heap := h3, toks := tk3 }) (fun _ _ => False) { s₁ with heap := h3, toks := tk3 })
def CompEnd2 (g : Heap) (L : Addr) (m : Str → Option Value) (news : List (Addr × Obj)) (n : Nat) (pz : Nat → Bool) (G : Gr) (Q : Value → Shared → Prop) (s₁ : Shared) : Prop :=
  ∀ D h' tk log, s₁.heap.get? D = none → g.get? D = none → D ≠ L → LL h' D (log.map (·.y)) → log.map (·.i) = (List.range n).filter pz → LogOk G s₁.toks (fun b => b ≠ D ∧ b ≠ L ∧ s₁.heap.get? b = none) h' tk log → (∀ b o, b ≠ L → s₁.heap.get? b = some o → h'.get? b = some o) →
    Fr g L h' m → News g L h' news → s₁.toks ≤ tk → Q (.ref D) { s₁ with heap := h', toks := tk }
theorem ask2 {scope : Scope} {cl : List (Str × Addr)} {ifs : List PySem.Expr} {elt : PySem.Expr} {n : Nat} {Pv : Nat → Value → Nat → Prop} {pz : Nat → Bool} {G : Gr} {Bd : Nat → Value → (Str → Option Value) → Prop} {s₁ : Shared} {m : Str → Option Value} {news : List (Addr × Obj)}
    (a : CompAsk2 prog w A env scope cl g L m news ifs elt n Pv pz G Bd s₁) {C : Addr} {i : Nat} {v : Value} {h3 : Heap} {tk3 : Nat} {m3 : Str → Option Value} (hC : C ≠ L) (hgC : g.get? C = none) (hi : i < n) (hP : Pv i v tk3) (ht : s₁.toks ≤ tk3) (hn : h3.Ns C m3) (hB : Bd i v m3) (F3 : Fr g L h3 m) (N3 : News g L h3 news) :
    wpAny (model prog w) A (forIn ifs true fun c r => if r = true then do let ok ← isTrue c (compEnvC scope cl C env) (eval c (compEnvC scope cl C env)); pure (ForInStep.yield ok) else pure (ForInStep.yield r))
        (TestIs2 g L m (pz i) { s₁ with heap := h3, toks := tk3 }) (fun _ _ => False) { s₁ with heap := h3, toks := tk3 } ∧
    (pz i = true → wpAny (model prog w) A (eval elt (compEnvC scope cl C env)) (EltIs2 g L m G i s₁.toks { s₁ with heap := h3, toks := tk3 }) (fun _ _ => False) { s₁ with heap := h3, toks := tk3 }) := by
  obtain ⟨R, hR, NR⟩ := rest_of F3
  obtain ⟨o, es, ep, ho, hr⟩ := hn
  refine a C i v h3 tk3 m3 o R hi hP ht hB (fun h' e => ⟨o, es, ep, e, hr⟩) hR F3 fun p hp => ?_
  rcases List.mem_cons.mp hp with rfl | hp
  · exact ⟨ho, hC, hgC⟩
  rcases List.mem_append.mp hp with hp | hp
  · exact N3 p hp
  · exact NR p hp
def ListSrc2 (prog : Program) (w : World) (A : Around) (env : Env) (scope : Scope) (cl : List (Str × Addr)) (target : PySem.Expr) (ifs : List PySem.Expr) (elt : PySem.Expr) (g : Heap) (L : Addr) (pz : Nat → Bool) (G : Gr) (Bd : Nat → Value → (Str → Option Value) → Prop) (Q : Value → Shared → Prop) (xv : Value) (s₁ : Shared) : Prop :=
  ∃ (ax : Addr) (vs : List Value) (m : Str → Option Value) (news : List (Addr × Obj)), xv = .ref ax ∧ s₁.heap.IsList ax vs.toArray ∧ vs.length < 2 ^ 20 ∧ Fr g L s₁.heap m ∧ News g L s₁.heap news ∧
      (∀ I C D (s' : Shared) i v, vs[i]? = some v → BindsAt prog w A target I D (compEnvC scope cl C env) s' v (Bd i v)) ∧
      CompAsk2 prog w A env scope cl g L m news ifs elt vs.length (fun i v _ => vs[i]? = some v) pz G Bd s₁ ∧
      CompEnd2 g L m news vs.length pz G Q s₁

def RangeSrc2 (prog : Program) (w : World) (A : Around) (env : Env) (scope : Scope) (cl : List (Str × Addr)) (target : PySem.Expr) (ifs : List PySem.Expr) (elt : PySem.Expr) (g : Heap) (L : Addr) (pz : Nat → Bool) (G : Gr) (Bd : Nat → Value → (Str → Option Value) → Prop) (Q : Value → Shared → Prop) (xv : Value) (s₁ : Shared) : Prop :=
  ∃ (r : Addr) (n : Nat) (t u v : Tok) (m : Str → Option Value) (news : List (Addr × Obj)), xv = .ref r ∧ IsRange s₁.heap r 0 (n : Int) 1 t u v ∧ n < 2 ^ 20 ∧ Fr g L s₁.heap m ∧ News g L s₁.heap news ∧
      (∀ I C D (s' : Shared) i v, BindsAt prog w A target I D (compEnvC scope cl C env) s' v (Bd i v)) ∧
      CompAsk2 prog w A env scope cl g L m news ifs elt n (fun i v tk3 => ∃ t, v = .int (i : Int) t ∧ s₁.toks ≤ t ∧ t < tk3) pz G Bd s₁ ∧
      CompEnd2 g L m news n pz G Q s₁

theorem ListSrc2.intro {scope : Scope} {cl : List (Str × Addr)} {target : PySem.Expr} {ifs : List PySem.Expr} {elt : PySem.Expr} {pz : Nat → Bool} {G : Gr} {Bd : Nat → Value → (Str → Option Value) → Prop} {Q : Value → Shared → Prop} {ax : Addr} {s₁ : Shared} {m : Str → Option Value} {news : List (Addr × Obj)} (vs : List Value)
    (F : Fr g L s₁.heap m) (N : News g L s₁.heap news) (hl : LL s₁.heap ax vs) (hn : vs.length < 2 ^ 20)
    (hb : ∀ I C D (s' : Shared) i v, vs[i]? = some v → BindsAt prog w A target I D (compEnvC scope cl C env) s' v (Bd i v))
    (ask : CompAsk2 prog w A env scope cl g L m news ifs elt vs.length (fun i v _ => vs[i]? = some v) pz G Bd s₁)
    (fin : CompEnd2 g L m news vs.length pz G Q s₁) : ListSrc2 prog w A env scope cl target ifs elt g L pz G Bd Q (.ref ax) s₁ :=
  ⟨ax, vs, m, news, rfl, hl.isList, hn, F, N, hb, ask, fin⟩
theorem RangeSrc2.intro {scope : Scope} {cl : List (Str × Addr)} {target : PySem.Expr} {ifs : List PySem.Expr} {elt : PySem.Expr} {pz : Nat → Bool} {G : Gr} {Bd : Nat → Value → (Str → Option Value) → Prop} {Q : Value → Shared → Prop} {r : Addr} {s₁ : Shared} {m : Str → Option Value} {news : List (Addr × Obj)} {t u v : Tok} (n : Nat)
    (F : Fr g L s₁.heap m) (N : News g L s₁.heap news) (hl : IsRange s₁.heap r 0 (n : Int) 1 t u v) (hn : n < 2 ^ 20)
    (hb : ∀ I C D (s' : Shared) i v, BindsAt prog w A target I D (compEnvC scope cl C env) s' v (Bd i v))
    (ask : CompAsk2 prog w A env scope cl g L m news ifs elt n (fun i v tk3 => ∃ t, v = .int (i : Int) t ∧ s₁.toks ≤ t ∧ t < tk3) pz G Bd s₁)
    (fin : CompEnd2 g L m news n pz G Q s₁) : RangeSrc2 prog w A env scope cl target ifs elt g L pz G Bd Q (.ref r) s₁ :=
  ⟨r, n, t, u, v, m, news, rfl, hl, hn, F, N, hb, ask, fin⟩

theorem comp_list2 {elt target iter : PySem.Expr} {ifs : List PySem.Expr} {scope : Scope} {cl : List (Str × Addr)} {pos : Pos} {Q : Value → Shared → Prop} (pz : Nat → Bool) (G : Gr) (Bd : Nat → Value → (Str → Option Value) → Prop)
    (hh : A.handled = none) (hclos : closureFor scope env = pure cl) (hcell : ∀ y ∈ scope.names, y.2 ≠ .cell) (hkind : scope.kind = .function) (hnames : ∀ y ∈ scope.names, y.2 = .local → scope.names.lookup y.1 = some .local)
    (h : wpAny (model prog w) A (eval iter env) (ListSrc2 prog w A env scope cl target ifs elt g L pz G Bd Q) E s)
    (hs : ∀ x, foldedSetIterable iter env x = pure x := by intro _; rfl) :
    wpAny (model prog w) A (eval (.ListComp elt [⟨target, iter, ifs, 0⟩] scope pos) env) Q E s := by
  rw [eval_ListComp]
  refine wpAny_comprehension_free (use := none) rfl hs hclos hkind hnames (wpAny_mono h (fun xv s₁ h₁ => ?_) fun _ _ e => e)
  refine exE4 h₁ fun ax vs m news jj => andE8 jj fun ez4 hl hn20 F N hbind hask hend => ?_
  clear jj
  clear h₁
  subst ez4
  obtain ⟨ol, hol, _⟩ := id hl
  have hax : ax < s₁.heap.objs.size := Heap.lt_size hol
  refine wpAny_pyIter_list hl ?_
  generalize hH1 : s₁.heap.push { cls := .type "list_iterator", data := .fields #[.ref ax, .int 0 0] } = H1
  have hz : H1.objs.size = s₁.heap.objs.size + 1 := by rw [← hH1, Heap.size_push]
  have hzz := hz
  have k₁ : Kp s₁.heap H1 := fun b o e => hH1 ▸ Heap.get?_push_of_some _ e
  have hI : H1.get? s₁.heap.objs.size = some { cls := .type "list_iterator", data := .fields #[.ref ax, .int 0 0] } := hH1 ▸ Heap.get?_push_size _ rfl
  have up : ∀ {h3 : Heap}, (∀ b o, b ≠ s₁.heap.objs.size → b ≠ L → H1.get? b = some o → h3.get? b = some o) → ∀ b o, b ≠ L → s₁.heap.get? b = some o → h3.get? b = some o := fun hk b o hbL e => hk b o (Nat.ne_of_lt (Heap.lt_size e)) hbL (k₁ b o e)
  have F1 : Fr g L H1 m := F.keeps k₁
  have hLs : L < s₁.heap.objs.size := F.ns.lt
  have hLI : L ≠ s₁.heap.objs.size := Nat.ne_of_lt hLs
  have hgI := (size_none F (Nat.le_refl _)).1
  have Nup : ∀ {h3 : Heap}, (∀ b o, b ≠ L → s₁.heap.get? b = some o → h3.get? b = some o) → News g L h3 news := fun hk p hp => ⟨hk _ _ (N p hp).2.1 (N p hp).1, (N p hp).2⟩
  have hCL : ∀ {C : Addr}, H1.objs.size ≤ C → C ≠ L ∧ s₁.heap.get? C = none := fun hC => ⟨(size_none F (by omega)).2, ge_none (by omega)⟩
  refine comp_block2 (g := g) (L := L) (mL := m) (W := mwalk_list hh s₁.heap.objs.size ax (Nat.ne_of_lt hax) vs) hn20 pz G Bd hcell hkind (by simp) (by simp) (by simp) (fun i h st => ?_) F1 hLI hgI ?Lf ⟨⟨_, hI, rfl, rfl⟩, hl.at fun o e => k₁ _ _ e⟩ ?_ ?_ ?_ ?_ ?_
  case Lf =>
    refine fun hm => ?_
    rcases List.mem_cons.mp hm with q | hm
    · exact hLI q
    · have hLax : L = ax := List.mem_singleton.mp hm
      obtain ⟨oL, es, ep, e1, e2, _⟩ := F.ns
      obtain ⟨o', e3, _, n, e4⟩ := hl
      rw [hLax, e3] at e1
      cases e1
      rw [e4] at e2
      cases e2
  · obtain ⟨o, e, hc, _⟩ := st.1
    exact ⟨o, e, .inl hc⟩
  · intro b hb
    show b < H1.objs.size
    rw [hz]
    rcases List.mem_cons.mp hb with rfl | hb
    · exact Nat.lt_succ_self _
    · rw [List.mem_singleton.mp hb]; exact Nat.lt_succ_of_lt hax
  · intro C D s' i v lo hi hin hP
    exact hbind _ C D s' i v hP.1
  · intro C i v lo hi h3 tk3 m3 hC hin hP h1 h2 hn hb hk F3
    have k3 := up hk
    exact (ask2 hask (hCL hC).1 (size_none F (Nat.le_trans (by rw [hzz]; exact Nat.le_succ _ : s₁.heap.objs.size ≤ H1.objs.size) hC)).1 hin hP.1 (Nat.le_trans h2 (Nat.le_trans hP.2 h1)) hn hb F3 (Nup k3)).1
  · intro C i v lo hi h3 tk3 m3 hC hin hz hP h1 h2 hn hb hk F3
    have k3 := up hk
    refine wpAny_mono ((ask2 hask (hCL hC).1 (size_none F (Nat.le_trans (by rw [hzz]; exact Nat.le_succ _ : s₁.heap.objs.size ≤ H1.objs.size) hC)).1 hin hP.1 (Nat.le_trans h2 (Nat.le_trans hP.2 h1)) hn hb F3 (Nup k3)).2 hz) (fun y s₄ h₄ => ?_) fun _ _ e => e
    obtain ⟨q1, as, q2, q3⟩ := h₄
    exact ⟨q1, as, fun hh' hle => q2 lo hh' h2 (Nat.le_trans hP.2 h1) hle, q3⟩
  · intro D h' tk log hD hl' hidx hlog hk F3 htk
    have k3 := up hk
    refine hend D h' tk log (hCL hD).2 (size_none F (show s₁.heap.objs.size ≤ D from Nat.le_trans (by rw [hz]; exact Nat.le_succ _) hD)).1 (hCL hD).1 hl' hidx ⟨fun e he => ?_, hlog.2⟩ k3 F3 (Nup k3) htk
    obtain ⟨a1, a2, a3, a4⟩ := hlog.1 e he
    refine ⟨a1, a2, a3, fun q hq => ⟨(a4 q hq).1, (a4 q hq).2.1, (a4 q hq).2.2.1, ?_⟩⟩
    cases e : s₁.heap.get? q.1 with
    | none => rfl
    | some o => have := (a4 q hq).2.2.2; rw [k₁ _ _ e] at this; cases this

theorem comp_range2 {elt target iter : PySem.Expr} {ifs : List PySem.Expr} {scope : Scope} {cl : List (Str × Addr)} {pos : Pos} {Q : Value → Shared → Prop} (pz : Nat → Bool) (G : Gr) (Bd : Nat → Value → (Str → Option Value) → Prop)
    (hh : A.handled = none) (hclos : closureFor scope env = pure cl) (hcell : ∀ y ∈ scope.names, y.2 ≠ .cell) (hkind : scope.kind = .function) (hnames : ∀ y ∈ scope.names, y.2 = .local → scope.names.lookup y.1 = some .local)
    (h : wpAny (model prog w) A (eval iter env) (RangeSrc2 prog w A env scope cl target ifs elt g L pz G Bd Q) E s)
    (hs : ∀ x, foldedSetIterable iter env x = pure x := by intro _; rfl) :
    wpAny (model prog w) A (eval (.ListComp elt [⟨target, iter, ifs, 0⟩] scope pos) env) Q E s := by
  rw [eval_ListComp]
  refine wpAny_comprehension_free (use := none) rfl hs hclos hkind hnames (wpAny_mono h (fun xv s₁ h₁ => ?_) fun _ _ e => e)
  refine exE7 h₁ fun r n t u v m news jj => andE8 jj fun ez7 hr hn20 F N hbind hask hend => ?_
  clear jj
  clear h₁
  subst ez7
  have hsize : Builtin.Range.rangeSize 0 (n : Int) 1 = (n : Int) := by
    unfold Builtin.Range.rangeSize
    simp
    omega
  have hsmall : Builtin.Range.small 0 (n : Int) 1 = true := by
    unfold Builtin.Range.small Builtin.Range.rangeFitsLong
    rw [hsize]
    simp
    omega
  refine wpAny_pyIter_range hr hsmall ?_
  rw [hsize]
  generalize hH1 : s₁.heap.push { cls := .type "range_iterator", data := .fields #[rawInt 0, rawInt (n : Int), rawInt 1] } = H1
  have hz : H1.objs.size = s₁.heap.objs.size + 1 := by rw [← hH1, Heap.size_push]
  have hzz := hz
  have k₁ : Kp s₁.heap H1 := fun b o e => hH1 ▸ Heap.get?_push_of_some _ e
  have hI : H1.get? s₁.heap.objs.size = some { cls := .type "range_iterator", data := .fields #[rawInt 0, rawInt (n : Int), rawInt 1] } := hH1 ▸ Heap.get?_push_size _ rfl
  have up : ∀ {h3 : Heap}, (∀ b o, b ≠ s₁.heap.objs.size → b ≠ L → H1.get? b = some o → h3.get? b = some o) → ∀ b o, b ≠ L → s₁.heap.get? b = some o → h3.get? b = some o := fun hk b o hbL e => hk b o (Nat.ne_of_lt (Heap.lt_size e)) hbL (k₁ b o e)
  have F1 : Fr g L H1 m := F.keeps k₁
  have hLs : L < s₁.heap.objs.size := F.ns.lt
  have hLI : L ≠ s₁.heap.objs.size := Nat.ne_of_lt hLs
  have hgI := (size_none F (Nat.le_refl _)).1
  have Nup : ∀ {h3 : Heap}, (∀ b o, b ≠ L → s₁.heap.get? b = some o → h3.get? b = some o) → News g L h3 news := fun hk p hp => ⟨hk _ _ (N p hp).2.1 (N p hp).1, (N p hp).2⟩
  have hCL : ∀ {C : Addr}, H1.objs.size ≤ C → C ≠ L ∧ s₁.heap.get? C = none := fun hC => ⟨(size_none F (by omega)).2, ge_none (by omega)⟩
  refine comp_block2 (g := g) (L := L) (mL := m) (W := mwalk_range hh s₁.heap.objs.size n) hn20 pz G Bd hcell hkind (by simp) (by simp) (by simp) (fun i h st => ⟨_, st, .inr rfl⟩) F1 hLI hgI ?Lf (by simpa using hI) ?_ ?_ ?_ ?_ ?_
  case Lf => exact fun hm => hLI (List.mem_singleton.mp hm)
  · intro b hb
    show b < H1.objs.size
    rw [List.mem_singleton.mp hb, hz]; exact Nat.lt_succ_self _
  · intro C D s' i v lo hi hin hP
    exact hbind _ C D s' i v
  · intro C i v lo hi h3 tk3 m3 hC hin hP h1 h2 hn hb hk F3
    have k3 := up hk
    have h2 : s₁.toks ≤ lo := h2
    obtain ⟨t9, e9, l9, u9⟩ := hP
    exact (ask2 hask (hCL hC).1 (size_none F (Nat.le_trans (by rw [hzz]; exact Nat.le_succ _ : s₁.heap.objs.size ≤ H1.objs.size) hC)).1 hin ⟨t9, e9, Nat.le_trans h2 l9, Nat.lt_of_lt_of_le u9 h1⟩ (Nat.le_trans h2 (Nat.le_trans (Nat.le_trans l9 (Nat.le_of_lt u9)) h1)) hn hb F3 (Nup k3)).1
  · intro C i v lo hi h3 tk3 m3 hC hin hz hP h1 h2 hn hb hk F3
    have k3 := up hk
    have h2 : s₁.toks ≤ lo := h2
    obtain ⟨t9, e9, l9, u9⟩ := hP
    refine wpAny_mono ((ask2 hask (hCL hC).1 (size_none F (Nat.le_trans (by rw [hzz]; exact Nat.le_succ _ : s₁.heap.objs.size ≤ H1.objs.size) hC)).1 hin ⟨t9, e9, Nat.le_trans h2 l9, Nat.lt_of_lt_of_le u9 h1⟩ (Nat.le_trans h2 (Nat.le_trans (Nat.le_trans l9 (Nat.le_of_lt u9)) h1)) hn hb F3 (Nup k3)).2 hz) (fun y s₄ h₄ => ?_) fun _ _ e => e
    obtain ⟨q1, as, q2, q3⟩ := h₄
    exact ⟨q1, as, fun hh' hle => q2 lo hh' h2 (Nat.le_trans (Nat.le_trans l9 (Nat.le_of_lt u9)) h1) hle, q3⟩
  · intro D h' tk log hD hl' hidx hlog hk F3 htk
    have k3 := up hk
    refine hend D h' tk log (hCL hD).2 (size_none F (show s₁.heap.objs.size ≤ D from Nat.le_trans (by rw [hz]; exact Nat.le_succ _) hD)).1 (hCL hD).1 hl' hidx ⟨fun e he => ?_, hlog.2⟩ k3 F3 (Nup k3) htk
    obtain ⟨a1, a2, a3, a4⟩ := hlog.1 e he
    refine ⟨a1, a2, a3, fun q hq => ⟨(a4 q hq).1, (a4 q hq).2.1, (a4 q hq).2.2.1, ?_⟩⟩
    cases e : s₁.heap.get? q.1 with
    | none => rfl
    | some o => have := (a4 q hq).2.2.2; rw [k₁ _ _ e] at this; cases this
end
end Mine
end

/-! L17 -/
section
open PySem PySem.W PySem.Calls PySem.Spec PyProof.Rows
set_option Elab.async false
set_option autoImplicit false
set_option maxRecDepth 100000
set_option maxHeartbeats 4000000
namespace Mine
/-- insertion of the place k, by the numbers (any linear order): the places laid so far -/
def insP (lt : Nat → Nat → Bool) : Nat → List Nat
  | 0 => []
  | k + 1 => have P := insP lt k
    have b := bis (fun i => lt k (P.getD i 0)) 0 P.length
    P.take b ++ k :: P.drop b
theorem insP_len (lt : Nat → Nat → Bool) : ∀ k, (insP lt k).length = k
  | 0 => rfl
  | k + 1 => by
    unfold insP
    simp only [List.length_append, List.length_cons, List.length_take, List.length_drop]
    have := insP_len lt k
    omega
theorem insP_lt (lt : Nat → Nat → Bool) : ∀ k, ∀ x ∈ insP lt k, x < k
  | 0, _, h => nomatch h
  | k + 1, x, h => by
    unfold insP at h
    rcases List.mem_append.mp h with h | h
    · exact Nat.lt_succ_of_lt (insP_lt lt k x (List.mem_of_mem_take h))
    · rcases List.mem_cons.mp h with h | h
      · rw [h]; exact Nat.lt_succ_self _
      · exact Nat.lt_succ_of_lt (insP_lt lt k x (List.mem_of_mem_drop h))
theorem insP_at (lt : Nat → Nat → Bool) (k j : Nat) (h : j < k) : ∃ x, (insP lt k)[j]? = some x ∧ (insP lt k).getD j 0 = x ∧ x < k := by
  have hj : j < (insP lt k).length := by rw [insP_len]; exact h
  exact ⟨_, List.getElem?_eq_getElem hj, by simp [List.getD_eq_getElem?_getD, hj], insP_lt _ _ _ (List.getElem_mem hj)⟩
theorem off_seqL {h : Heap} {a l : Addr} {o : Obj} {vs : Array Value} {n : Nat} (e1 : h.get? a = some o) (e2 : h.get? l = some (listOf vs n)) (hd : ∀ us k, o.data ≠ .seq us k) : a ≠ l := off_seq e1 e2 hd
/-- a number, its token, and the one-element list that holds it -/
structure Th where
  a : Addr
  n : Int
  t : Tok
deriving Inhabited
abbrev Th.val (x : Th) : Value := .int x.n x.t
abbrev Th.ref (x : Th) : Value := .ref x.a
def thO (x : Th) : Obj := listOf #[.int x.n x.t] 0
def ThLed (ths : List Th) : List (Addr × Obj) := ths.map fun x => (x.a, thO x)
theorem th_mem {ths : List Th} {x : Th} (h : x ∈ ths) : (x.a, thO x) ∈ ThLed ths := List.mem_map_of_mem h
/-- the numbers of a log, with tokens that grow -/
theorem nums_of : ∀ {log : List LogE}, (∀ e ∈ log, ∃ n t, e.y = Value.int n t ∧ e.lo < t ∧ t < e.hi) → log.Pairwise (fun a b => a.hi ≤ b.lo) →
    ∃ nt : List (Int × Tok), log.map (·.y) = nt.map (fun p => Value.int p.1 p.2) ∧ nt.Pairwise (fun a b => a.2 < b.2) ∧ ∀ p ∈ nt, 0 < p.2 ∧ ∃ e ∈ log, e.lo < p.2 ∧ p.2 < e.hi
  | [], _, _ => ⟨[], rfl, .nil, nofun⟩
  | e :: log, h, hp => by
    obtain ⟨n, t, e1, e2, e3⟩ := h e (.head _)
    obtain ⟨hp1, hp2⟩ := List.pairwise_cons.mp hp
    obtain ⟨nt, q1, q2, q3⟩ := nums_of (fun e he => h e (.tail _ he)) hp2
    refine ⟨(n, t) :: nt, by simp only [List.map_cons, e1, q1], List.pairwise_cons.mpr ⟨fun p hp' => ?_, q2⟩, fun p hp' => ?_⟩
    · obtain ⟨_, e', he', q4, q5⟩ := q3 p hp'
      exact Nat.lt_trans (Nat.lt_of_lt_of_le e3 (hp1 e' he')) q4
    · rcases List.mem_cons.mp hp' with rfl | hp'
      · exact ⟨Nat.lt_of_le_of_lt (Nat.zero_le _) e2, e, .head _, e2, e3⟩
      · obtain ⟨a, e', he', q⟩ := q3 p hp'
        exact ⟨a, e', .tail _ he', q⟩
/-- the things of the second log, over the numbers of the first -/
theorem ths_of : ∀ (nt : List (Int × Tok)) (log : List LogE), nt.length = log.length → (∀ i (hi : i < log.length) (hj : i < nt.length), ∃ D, log[i].y = Value.ref D ∧ (D, (listOf #[.int nt[i].1 nt[i].2] 0 : Obj)) ∈ log[i].as) →
    ∃ ths : List Th, ths.map (fun x => (x.n, x.t)) = nt ∧ log.map (·.y) = ths.map Th.ref ∧ ∀ x ∈ ths, ∃ e ∈ log, (x.a, thO x) ∈ e.as
  | [], [], _, _ => ⟨[], rfl, rfl, nofun⟩
  | [], _ :: _, h, _ => nomatch h
  | _ :: _, [], h, _ => nomatch h
  | p :: nt, e :: log, h, hh => by
    obtain ⟨D, e1, e2⟩ := hh 0 (Nat.succ_pos _) (Nat.succ_pos _)
    obtain ⟨ths, q1, q2, q3⟩ := ths_of nt log (Nat.succ.inj h) fun i hi hj => hh (i + 1) (Nat.succ_lt_succ hi) (Nat.succ_lt_succ hj)
    refine ⟨⟨D, p.1, p.2⟩ :: ths, by simp only [List.map_cons, q1], ?_, fun x hx => ?_⟩
    · simp only [List.map_cons, q2]
      have e1' : e.y = Value.ref D := e1
      rw [e1']
    · rcases List.mem_cons.mp hx with rfl | hx
      · exact ⟨e, .head _, e2⟩
      · obtain ⟨e', he', q⟩ := q3 x hx
        exact ⟨e', .tail _ he', q⟩
/-- the five lists lie apart, from each other and from the things -/
structure Apart5 (ths : List Th) (nl tl ll pl al : Addr) : Prop where
  ll_nl : ll ≠ nl
  ll_tl : ll ≠ tl
  pl_nl : pl ≠ nl
  pl_tl : pl ≠ tl
  al_nl : al ≠ nl
  al_tl : al ≠ tl
  pl_ll : pl ≠ ll
  al_ll : al ≠ ll
  al_pl : al ≠ pl
  tll : ∀ x ∈ ths, x.a ≠ ll
  tpl : ∀ x ∈ ths, x.a ≠ pl
  tal : ∀ x ∈ ths, x.a ≠ al
theorem rest_fresh {g h h5 : Heap} {L D : Addr} {o : Obj} {R news : List (Addr × Obj)} (hR : RestOk g L h R) (N5 : News g L h5 ((D, o) :: news)) (lt : AllLt D news) (hs : ∀ q ∈ R, q ∈ news) : h.get? D = none := by
  cases e : h.get? D with
  | none => rfl
  | some o' =>
    obtain ⟨_, h1, h2⟩ := N5 (D, o) (.head _)
    rcases hR D o' e h1 with q | q
    · rw [h2] at q; cases q
    · exact absurd (kst_ltOf lt _ (hs _ q)) (Nat.lt_irrefl _)
end Mine
end

/-! L18 -/
section
open PySem PySem.W PySem.Calls PySem.Spec PyProof.Rows
set_option Elab.async false
set_option autoImplicit false
set_option maxRecDepth 100000
set_option maxHeartbeats 4000000
namespace Mine
theorem IL.pairs : ∀ {ns : List Nat} {vs : List Value}, IL ns vs → ∃ ps : List (Nat × Tok), ns = ps.map (·.1) ∧ vs = ps.map sval
  | [], [], _ => ⟨[], rfl, rfl⟩
  | [], _ :: _, x => nomatch x.1
  | _ :: _, [], x => nomatch x.1
  | n :: ns, v :: vs, x => by
    obtain ⟨t, e⟩ := x.2 0 (Nat.succ_pos _)
    have e' : v = .int ((n : Nat) : Int) t := by simpa using e
    subst e'
    obtain ⟨ps, e1, e2⟩ := IL.pairs (ns := ns) (vs := vs) ⟨Nat.succ.inj x.1, fun i hi => by
      obtain ⟨t', e'⟩ := x.2 (i + 1) (Nat.succ_lt_succ hi)
      exact ⟨t', by simpa using e'⟩⟩
    exact ⟨(n, t) :: ps, by rw [e1]; rfl, by rw [e2]; rfl⟩
theorem IL.of_pairs {ps : List (Nat × Tok)} : IL (ps.map (·.1)) (ps.map sval) := IL.of_map
theorem IL.ins {ns : List Nat} {vs : List Value} (x : IL ns vs) (b n : Nat) (t : Tok) : IL (ns.take b ++ n :: ns.drop b) (vs.take b ++ Value.int (n : Int) t :: vs.drop b) := by
  obtain ⟨ps, rfl, rfl⟩ := x.pairs
  have e1 := map_ins (fun p : Nat × Tok => p.1) ps b (n, t)
  have e2 := map_ins sval ps b (n, t)
  rw [← e1, show Value.int (n : Int) t = sval (n, t) from rfl, ← e2]
  exact IL.of_map
/-- the code table of `law`: empty, or with the code of its lambda -/
def TabSt (tab : Array Value) (cobs : List (Addr × Obj)) : Prop :=
  (tab = #[] ∧ cobs = []) ∨ ∃ c' oc vs t, tab = #[rawInt 187, rawInt 51, .ref c'] ∧ cobs = [(c', oc)] ∧ oc.data = .fields vs ∧ vs[1]? = some (.str (Str.ofString "law.<locals>.<lambda>") t)
section
variable {prog : Program} {w : World} {A : Around} {s : Shared}
/-- a call of a lambda that lies in the heap: its frame is a fresh namespace -/
theorem enterLam {R : Result → Shared → Prop} {name qual : Str} {params : Arguments} {body : PySem.Expr} {scope : Scope} {cl : List (Str × Addr)} {pm ctv : Value} {c' f : Addr} {args : Args} {binds : List (Str × Value)}
    (ho : s.heap.get? f = some (kla_obj name qual params body scope cl pm c' ctv)) (hcd : s.heap.CodeRec (.ref c') qual) (hroom : A.depth < recursionLimit) (hlim : s.heap.NoLimit)
    (hbind : bindArgs (kla_fn name qual params body scope cl pm (.ref c') ctv) args = pure binds) (hloc : ∀ y ∈ binds, scope.names.lookup y.1 = some .local)
    (h : ∀ L' h₁, h₁.Ns L' (fun y => binds.reverse.lookup y) → Kp s.heap h₁ →
      wpAny (model prog w) (A.deeper (envX qual scope L' f (.ref c') cl)) (eval body (envX qual scope L' f (.ref c') cl)) (fun v s' => R (.ok (.ret v)) s') (fun _ _ => False) { s with heap := h₁, toks := s.toks + binds.length })
    (hco : scope.isCoroutine = false) (hgen : scope.isGenerator = false) (hk : scope.kind = .function)
    (hcell : ∀ x ∈ scope.names, x.2 ≠ .cell) : codeAny (model prog w) A (.call (.ref f) args) R s := by
  refine kla_callFunE hroom ho rfl hco hgen rfl hcd ?_
  rw [hbind]
  refine wpAny_pure (wpAny_newFunctionEnv hcell hloc (fun h₁ hns hsb => ⟨hlim.fresh _ hsb, ?_⟩) hk)
  show codeAny _ _ (.expr body (envX qual scope s.heap.objs.size f (.ref c') cl)) _ _
  have hk₁ : ∀ b o, s.heap.get? b = some o → h₁.get? b = some o := fun b o e => hsb.extBut b o (Nat.ne_of_lt (Heap.lt_size e)) (Heap.get?_push_of_some _ e)
  exact kla_codeExpr (wpAny_noRaise' (h _ h₁ hns hk₁))
end
end Mine
end

/-! L19 -/
section
open PySem PySem.W PySem.Calls PySem.Spec PyProof.Rows
set_option Elab.async false
set_option autoImplicit false
set_option maxRecDepth 100000
set_option maxHeartbeats 4000000
namespace Mine
structure LawD where
  ths : List Th
  pvs : List Value
  nl : Addr
  tl : Addr
  ll : Addr
  pl : Addr
  al : Addr
  nn : Nat
  nt : Nat
  na : Nat
  np : Nat
  nq : Nat
abbrev LawD.n (d : LawD) (k : Nat) : Int := (d.ths.getD k default).n
abbrev LawD.th (d : LawD) (k : Nat) : Th := d.ths.getD k default
def LawD.P (d : LawD) : List Nat := insP (fun a b => decide ((d.ths.getD a default).n < (d.ths.getD b default).n)) 6
structure LawOk (TL : List (Addr × Obj)) (d : LawD) (tk : Nat) : Prop where
  hthl : d.ths.length = 6
  htp : d.ths.Pairwise (fun a b => a.t < b.t)
  hth0 : ∀ x ∈ d.ths, 0 < x.t ∧ x.t < tk
  mnl : (d.nl, listOf (d.ths.map Th.val).toArray d.nn) ∈ TL
  mtl : (d.tl, listOf (d.ths.map Th.ref).toArray d.nt) ∈ TL
  mll : (d.ll, listOf (d.P.map fun j => (d.ths.getD j default).ref).toArray d.nq) ∈ TL
  mpl : (d.pl, listOf d.pvs.toArray d.np) ∈ TL
  mal : (d.al, listOf (List.replicate 12 Value.none).toArray d.na) ∈ TL
  mth : ∀ x ∈ d.ths, (x.a, thO x) ∈ TL
  jv : IL d.P d.pvs
  jt : ∀ v ∈ d.pvs, ∃ n t, v = Value.int n t ∧ 0 < t ∧ t < tk
theorem LawOk.mono {TL TL' : List (Addr × Obj)} {d : LawD} {tk tk' : Nat} (x : LawOk TL d tk) (h : ∀ q ∈ TL, q ∈ TL') (ht : tk ≤ tk') : LawOk TL' d tk' :=
  ⟨x.hthl, x.htp, fun y hy => ⟨(x.hth0 y hy).1, Nat.lt_of_lt_of_le (x.hth0 y hy).2 ht⟩, h _ x.mnl, h _ x.mtl, h _ x.mll, h _ x.mpl, h _ x.mal, fun y hy => h _ (x.mth y hy), x.jv,
    fun v hv => let ⟨n, t, a, b, c⟩ := x.jt v hv; ⟨n, t, a, b, Nat.lt_of_lt_of_le c ht⟩⟩
theorem LawOk.th_mem {TL : List (Addr × Obj)} {d : LawD} {tk : Nat} (x : LawOk TL d tk) {k : Nat} (h : k < 6) : d.ths.getD k default ∈ d.ths := by
  have hj' : k < d.ths.length := by rw [x.hthl]; exact h
  rw [List.getD_eq_getElem?_getD, List.getElem?_eq_getElem hj']
  exact List.getElem_mem hj'
theorem LawOk.val_at {TL : List (Addr × Obj)} {d : LawD} {tk : Nat} (x : LawOk TL d tk) {k : Nat} (h : k < 6) : (d.ths.map Th.val)[k]? = some (.int (d.n k) (d.th k).t) := by
  have hj' : k < d.ths.length := by rw [x.hthl]; exact h
  have e : d.ths.getD k default = d.ths[k] := by simp [List.getD_eq_getElem?_getD, hj']
  rw [List.getElem?_map, List.getElem?_eq_getElem hj']
  show some (Th.val d.ths[k]) = some (Th.val (d.ths.getD k default))
  rw [e]
theorem LawD.P_len (d : LawD) : d.P.length = 6 := insP_len _ _
theorem LawD.P_at (d : LawD) {j : Nat} (h : j < 6) : ∃ x, d.P[j]? = some x ∧ d.P.getD j 0 = x ∧ x < 6 := insP_at _ _ _ h
/-- equal tokens of the numbers: equal numbers -/
theorem LawOk.tok_inj {TL : List (Addr × Obj)} {d : LawD} {tk : Nat} (x : LawOk TL d tk) {j k : Nat} (hj : j < 6) (hk : k < 6) (h : (d.th j).t = (d.th k).t) : j = k := by
  have hj' : j < d.ths.length := by rw [x.hthl]; exact hj
  have hk' : k < d.ths.length := by rw [x.hthl]; exact hk
  have ej : d.th j = d.ths[j] := by simp [List.getD_eq_getElem?_getD, hj']
  have ek : d.th k = d.ths[k] := by simp [List.getD_eq_getElem?_getD, hk']
  rw [ej, ek] at h
  rcases Nat.lt_trichotomy j k with q | q | q
  · exact absurd h (Nat.ne_of_lt (List.pairwise_iff_getElem.mp x.htp j k hj' hk' q))
  · exact q
  · exact absurd h (Nat.ne_of_gt (List.pairwise_iff_getElem.mp x.htp k j hk' hj' q))
theorem range_getD {α : Type} (P : List Nat) (f : Nat → α) {n : Nat} (h : P.length = n) : (List.range n).map (fun i => f (P.getD i 0)) = P.map f := by
  subst h
  apply List.ext_getElem
  · simp
  · intro i h1 h2
    rw [List.length_map] at h2
    simp [List.getD_eq_getElem?_getD, h2]
theorem swap_mem {α : Type} {A B : List α} {x q : α} (h : q ∈ A ++ x :: B) : q ∈ x :: (A ++ B) := by
  rcases List.mem_append.mp h with h | h
  · exact .tail _ (List.mem_append_left _ h)
  · rcases List.mem_cons.mp h with h | h
    · rw [h]; exact .head _
    · exact .tail _ (List.mem_append_right _ h)
theorem isl_news {g h : Heap} {L l : Addr} {vs : List Value} {n : Nat} {news : List (Addr × Obj)} (N : News g L h news) (hm : (l, listOf vs.toArray n) ∈ news) : h.IsList l vs.toArray := (LL.of_news N hm).isList
theorem insP_has (lt : Nat → Nat → Bool) : ∀ k, ∀ j, j < k → j ∈ insP lt k
  | 0, _, h => absurd h (Nat.not_lt_zero _)
  | k + 1, j, h => by
    unfold insP
    dsimp only
    by_cases e : j = k
    · rw [e]; exact List.mem_append_right _ (.head _)
    · have := insP_has lt k j (by omega)
      rw [← List.take_append_drop (bis (fun i => lt k ((insP lt k).getD i 0)) 0 (insP lt k).length) (insP lt k)] at this
      rcases List.mem_append.mp this with h | h
      · exact List.mem_append_left _ h
      · exact List.mem_append_right _ (.tail _ h)
/-- the first place of a number among the sorted ones, and the count of its likes before it -/
def LawD.fst (d : LawD) (k : Nat) : Nat := d.P.findIdx fun j => decide (d.n j = d.n k)
def LawD.rank (d : LawD) (k : Nat) : Nat := d.fst k + cntB (fun i => decide (d.n i = d.n k)) k
theorem first_at {P : List Nat} {f : Nat → Int} {x : Int} (h : ∃ j ∈ P, f j = x) : ∀ m, m = P.findIdx (fun j => decide (f j = x)) → m < P.length ∧ f (P.getD m 0) = x ∧ ∀ i, i < m → f (P.getD i 0) ≠ x := by
  obtain ⟨j, hj, e⟩ := h
  have hl : P.findIdx (fun j => decide (f j = x)) < P.length := List.findIdx_lt_length_of_exists ⟨j, hj, decide_eq_true e⟩
  intro m hm
  subst hm
  refine ⟨hl, ?_, fun i hi => ?_⟩
  · have := List.findIdx_getElem (xs := P) (p := fun j => decide (f j = x)) (w := hl)
    rw [List.getD_eq_getElem?_getD, List.getElem?_eq_getElem hl]
    exact of_decide_eq_true this
  · have hi' : i < P.length := Nat.lt_trans hi hl
    have := List.not_of_lt_findIdx hi
    rw [List.getD_eq_getElem?_getD, List.getElem?_eq_getElem hi']
    simpa using this
theorem LawD.fst_at (d : LawD) {k : Nat} (h : k < 6) : d.fst k < 6 ∧ d.n (d.P.getD (d.fst k) 0) = d.n k ∧ ∀ i, i < d.fst k → d.n (d.P.getD i 0) ≠ d.n k := by
  have hmem : k ∈ d.P := by unfold LawD.P; exact insP_has _ _ _ h
  have := first_at (P := d.P) (f := d.n) (x := d.n k) ⟨k, hmem, rfl⟩ (d.fst k) rfl
  rw [d.P_len] at this
  exact this
theorem slice_to {vs : List Value} (h : vs.length = 6) {k : Nat} (hk : k < 6) : slicePick vs.toArray none (some (k : Int)) none = (vs.take k).toArray := by
  have e : sliceBounds none (some (k : Int)) none vs.toArray.size = (((0 : Nat) : Int), ((k : Nat) : Int), 1) := by
    rw [List.size_toArray, h]
    match k, hk with
    | 0, _ | 1, _ | 2, _ | 3, _ | 4, _ | 5, _ => decide
  rw [kmk_pick_nat vs.toArray e]
  simp
theorem slice_from {vs : List Value} (h : vs.length = 6) {k : Nat} (hk : k < 6) : slicePick vs.toArray (some (k : Int)) none none = (vs.drop k).toArray := by
  have e : sliceBounds (some (k : Int)) none none vs.toArray.size = (((k : Nat) : Int), ((6 : Nat) : Int), 1) := by
    rw [List.size_toArray, h]
    match k, hk with
    | 0, _ | 1, _ | 2, _ | 3, _ | 4, _ | 5, _ => decide
  rw [kmk_pick_nat vs.toArray e]
  rw [List.take_of_length_le (by simp [h])]
theorem il_log {f : Nat → Nat} {log : List LogE} {n : Nat} (h : ∀ e ∈ log, ∃ t, e.y = Value.int ((f e.i : Nat) : Int) t) (hi : log.map (·.i) = List.range n) : IL ((List.range n).map f) (log.map (·.y)) := by
  have hl : log.length = n := by have := congrArg List.length hi; rw [List.length_map, List.length_range] at this; exact this
  refine ⟨by rw [List.length_map, List.length_map, List.length_range, hl], fun i hi' => ?_⟩
  rw [List.length_map, List.length_range] at hi'
  obtain ⟨e, he, hm, hie⟩ := log_at hi hi'
  obtain ⟨t, ht⟩ := h e hm
  refine ⟨t, ?_⟩
  rw [List.getElem?_map, he]
  simp [ht, hie, List.getD_eq_getElem?_getD, hi']
theorem il_logZ {f : Nat → Int} {log : List LogE} {n : Nat} (h : ∀ e ∈ log, ∃ t, e.y = Value.int (f e.i) t) (hi : log.map (·.i) = List.range n) : (log.map (·.y)).length = n ∧ ∀ i, i < n → ∃ t, (log.map (·.y))[i]? = some (Value.int (f i) t) := by
  have hl : log.length = n := by have := congrArg List.length hi; rw [List.length_map, List.length_range] at this; exact this
  refine ⟨by rw [List.length_map, hl], fun i hi' => ?_⟩
  obtain ⟨e, he, hm, hie⟩ := log_at hi hi'
  obtain ⟨t, ht⟩ := h e hm
  refine ⟨t, ?_⟩
  rw [List.getElem?_map, he]
  simp [ht, hie]
def LawD.again (d : LawD) (k : Nat) : Int := ((cntB (fun i => decide (d.n (k + i) = d.n k)) (6 - k) : Nat) : Int) - ((bis (fun i => decide (d.n k < d.n (d.P.getD i 0))) 0 6 : Nat) : Int)
def OffC (L : Addr) (TL : List (Addr × Obj)) : Prop := ∀ p ∈ TL, p.1 ≠ L + 1 ∧ p.1 ≠ L + 1 + 1 ∧ p.1 ≠ L + 1 + 1 + 1 ∧ p.1 ≠ L + 1 + 1 + 1 + 1 ∧ p.1 ≠ L + 1 + 1 + 1 + 1 + 1 ∧ p.1 ≠ L + 1 + 1 + 1 + 1 + 1 + 1 ∧ p.1 ≠ L + 1 + 1 + 1 + 1 + 1 + 1 + 1 ∧ p.1 ≠ L + 1 + 1 + 1 + 1 + 1 + 1 + 1 + 1 ∧ p.1 ≠ L + 1 + 1 + 1 + 1 + 1 + 1 + 1 + 1 + 1 ∧ p.1 ≠ L + 1 + 1 + 1 + 1 + 1 + 1 + 1 + 1 + 1 + 1 ∧ p.1 ≠ L + 1 + 1 + 1 + 1 + 1 + 1 + 1 + 1 + 1 + 1 + 1 ∧ p.1 ≠ L + 1 + 1 + 1 + 1 + 1 + 1 + 1 + 1 + 1 + 1 + 1 + 1
theorem OffC.cons {L : Addr} {TL : List (Addr × Obj)} {q : Addr × Obj} (x : OffC L TL) (h : q.1 ≠ L + 1 ∧ q.1 ≠ L + 1 + 1 ∧ q.1 ≠ L + 1 + 1 + 1 ∧ q.1 ≠ L + 1 + 1 + 1 + 1 ∧ q.1 ≠ L + 1 + 1 + 1 + 1 + 1 ∧ q.1 ≠ L + 1 + 1 + 1 + 1 + 1 + 1 ∧ q.1 ≠ L + 1 + 1 + 1 + 1 + 1 + 1 + 1 ∧ q.1 ≠ L + 1 + 1 + 1 + 1 + 1 + 1 + 1 + 1 ∧ q.1 ≠ L + 1 + 1 + 1 + 1 + 1 + 1 + 1 + 1 + 1 ∧ q.1 ≠ L + 1 + 1 + 1 + 1 + 1 + 1 + 1 + 1 + 1 + 1 ∧ q.1 ≠ L + 1 + 1 + 1 + 1 + 1 + 1 + 1 + 1 + 1 + 1 + 1 ∧ q.1 ≠ L + 1 + 1 + 1 + 1 + 1 + 1 + 1 + 1 + 1 + 1 + 1 + 1) : OffC L (q :: TL) := fun p hp => by
  rcases List.mem_cons.mp hp with rfl | hp
  · exact h
  · exact x p hp
theorem OffC.append {L : Addr} {A B : List (Addr × Obj)} (x : OffC L A) (y : OffC L B) : OffC L (A ++ B) := fun p hp => by
  rcases List.mem_append.mp hp with hp | hp
  · exact x p hp
  · exact y p hp
end Mine
end

/-! PL3 -/
section
open PySem PySem.W PySem.Calls PySem.Spec PyProof.Rows
set_option Elab.async false
set_option autoImplicit false
set_option maxRecDepth 100000
set_option maxHeartbeats 4000000
namespace Mine
def insR (r : List Nat) : Nat → List Nat := insP fun k j => decide (r.getD k 0 < r.getD j 0)
def chkT (r : List Nat) : Bool :=
  have P := insR r 6
  match turnsF true r 0 [] [], turnsF false P 0 [] [] with
  | some (hs, bs), some (hs2, bs2) =>
    ((List.range 6).all fun k => P.getD (r.getD k 0) 0 == k) && P.length == 6 && (P.all fun x => x < 6) &&
    ((List.range 6).all fun k => (hs.any fun x => x.2 == k) && (hs2.any fun x => x.2 == k) && nameAt hs k == (bs2.getD k (9, 9)).1 && nameAt hs2 k == (bs.getD k (8, 8)).1) &&
    hs.length == 6 && hs2.length == 6 && bs.length == 6 && bs2.length == 6 && bs.map (·.2) == List.range 6 && bs2.map (·.2) == List.range 6 &&
    (rowA hs 0).length == maxN ((List.range 6).map fun k => (fallsF r 6).getD k 0 + ((fallsF r.reverse 6).reverse).getD k 0 - 1)
  | _, _ => false
def chkL (f : List Nat → Bool) (a b : Nat) : Bool :=
  (List.range 6).all fun c => c == a || c == b || (List.range 6).all fun d => d == a || d == b || d == c ||
    (List.range 6).all fun e => e == a || e == b || e == c || e == d || (List.range 6).all fun g => g == a || g == b || g == c || g == d || g == e || f [a, b, c, d, e, g]
theorem chk_0_1 : chkL chkT 0 1 = true := by decide +kernel
theorem chk_0_2 : chkL chkT 0 2 = true := by decide +kernel
theorem chk_0_3 : chkL chkT 0 3 = true := by decide +kernel
theorem chk_0_4 : chkL chkT 0 4 = true := by decide +kernel
theorem chk_0_5 : chkL chkT 0 5 = true := by decide +kernel
theorem chk_1_0 : chkL chkT 1 0 = true := by decide +kernel
theorem chk_1_2 : chkL chkT 1 2 = true := by decide +kernel
theorem chk_1_3 : chkL chkT 1 3 = true := by decide +kernel
theorem chk_1_4 : chkL chkT 1 4 = true := by decide +kernel
theorem chk_1_5 : chkL chkT 1 5 = true := by decide +kernel
theorem chk_2_0 : chkL chkT 2 0 = true := by decide +kernel
theorem chk_2_1 : chkL chkT 2 1 = true := by decide +kernel
theorem chk_2_3 : chkL chkT 2 3 = true := by decide +kernel
theorem chk_2_4 : chkL chkT 2 4 = true := by decide +kernel
theorem chk_2_5 : chkL chkT 2 5 = true := by decide +kernel
theorem chk_3_0 : chkL chkT 3 0 = true := by decide +kernel
theorem chk_3_1 : chkL chkT 3 1 = true := by decide +kernel
theorem chk_3_2 : chkL chkT 3 2 = true := by decide +kernel
theorem chk_3_4 : chkL chkT 3 4 = true := by decide +kernel
theorem chk_3_5 : chkL chkT 3 5 = true := by decide +kernel
theorem chk_4_0 : chkL chkT 4 0 = true := by decide +kernel
theorem chk_4_1 : chkL chkT 4 1 = true := by decide +kernel
theorem chk_4_2 : chkL chkT 4 2 = true := by decide +kernel
theorem chk_4_3 : chkL chkT 4 3 = true := by decide +kernel
theorem chk_4_5 : chkL chkT 4 5 = true := by decide +kernel
theorem chk_5_0 : chkL chkT 5 0 = true := by decide +kernel
theorem chk_5_1 : chkL chkT 5 1 = true := by decide +kernel
theorem chk_5_2 : chkL chkT 5 2 = true := by decide +kernel
theorem chk_5_3 : chkL chkT 5 3 = true := by decide +kernel
theorem chk_5_4 : chkL chkT 5 4 = true := by decide +kernel
theorem chk_ab {a b : Nat} (ha : a < 6) (hb : b < 6) (h : a ≠ b) : chkL chkT a b = true := by
  match a, ha, b, hb, h with
  | 0, _, 0, _, h => exact absurd rfl h
  | 0, _, 1, _, _ => exact chk_0_1
  | 0, _, 2, _, _ => exact chk_0_2
  | 0, _, 3, _, _ => exact chk_0_3
  | 0, _, 4, _, _ => exact chk_0_4
  | 0, _, 5, _, _ => exact chk_0_5
  | 1, _, 0, _, _ => exact chk_1_0
  | 1, _, 1, _, h => exact absurd rfl h
  | 1, _, 2, _, _ => exact chk_1_2
  | 1, _, 3, _, _ => exact chk_1_3
  | 1, _, 4, _, _ => exact chk_1_4
  | 1, _, 5, _, _ => exact chk_1_5
  | 2, _, 0, _, _ => exact chk_2_0
  | 2, _, 1, _, _ => exact chk_2_1
  | 2, _, 2, _, h => exact absurd rfl h
  | 2, _, 3, _, _ => exact chk_2_3
  | 2, _, 4, _, _ => exact chk_2_4
  | 2, _, 5, _, _ => exact chk_2_5
  | 3, _, 0, _, _ => exact chk_3_0
  | 3, _, 1, _, _ => exact chk_3_1
  | 3, _, 2, _, _ => exact chk_3_2
  | 3, _, 3, _, h => exact absurd rfl h
  | 3, _, 4, _, _ => exact chk_3_4
  | 3, _, 5, _, _ => exact chk_3_5
  | 4, _, 0, _, _ => exact chk_4_0
  | 4, _, 1, _, _ => exact chk_4_1
  | 4, _, 2, _, _ => exact chk_4_2
  | 4, _, 3, _, _ => exact chk_4_3
  | 4, _, 4, _, h => exact absurd rfl h
  | 4, _, 5, _, _ => exact chk_4_5
  | 5, _, 0, _, _ => exact chk_5_0
  | 5, _, 1, _, _ => exact chk_5_1
  | 5, _, 2, _, _ => exact chk_5_2
  | 5, _, 3, _, _ => exact chk_5_3
  | 5, _, 4, _, _ => exact chk_5_4
  | 5, _, 5, _, h => exact absurd rfl h
theorem chk_of {r : List Nat} (hl : r.length = 6) (h6 : ∀ x ∈ r, x < 6) (hn : r.Nodup) : chkT r = true := by
  match r, hl with
  | [a, b, c, d, e, g], _ =>
    simp only [List.mem_cons, List.not_mem_nil, or_false, forall_eq_or_imp, forall_eq] at h6
    simp only [List.nodup_cons, List.mem_cons, List.not_mem_nil, or_false, not_or] at hn
    obtain ⟨⟨n1, n2, n3, n4, n5⟩, ⟨n6, n7, n8, n9⟩, ⟨n10, n11, n12⟩, ⟨n13, n14⟩, n15, _⟩ := hn
    obtain ⟨m1, m2, m3, m4, m5, m6⟩ := h6
    have h := chk_ab m1 m2 n1
    unfold chkL at h
    simp only [List.all_eq_true, List.mem_range, Bool.or_eq_true, beq_iff_eq] at h
    have h2 := (h c m3).resolve_left (by simp only [not_or]; exact ⟨Ne.symm n2, Ne.symm n6⟩)
    have h3 := (h2 d m4).resolve_left (by simp only [not_or]; exact ⟨⟨Ne.symm n3, Ne.symm n7⟩, Ne.symm n10⟩)
    have h4 := (h3 e m5).resolve_left (by simp only [not_or]; exact ⟨⟨⟨Ne.symm n4, Ne.symm n8⟩, Ne.symm n11⟩, Ne.symm n13⟩)
    exact (h4 g m6).resolve_left (by simp only [not_or]; exact ⟨⟨⟨⟨Ne.symm n5, Ne.symm n9⟩, Ne.symm n12⟩, Ne.symm n14⟩, Ne.symm n15⟩)
end Mine
end

/-! PL4 -/
section
open PySem PySem.W PySem.Calls PySem.Spec PyProof.Rows
set_option Elab.async false
set_option autoImplicit false
set_option maxRecDepth 100000
set_option maxHeartbeats 4000000
namespace Mine
theorem bis_split (f : Nat → Bool) (m : Nat) : ∀ lo hi, hi - lo ≤ m → lo ≤ hi → (∀ i j, i ≤ j → j < hi → f i = true → f j = true) →
    (∀ i, lo ≤ i → i < bis f lo hi → f i = false) ∧ (∀ i, bis f lo hi ≤ i → i < hi → f i = true) := by
  induction m with
  | zero =>
    intro lo hi h1 h2 _
    rw [bis_stop (by omega)]
    exact ⟨fun i a b => by omega, fun i a b => by omega⟩
  | succ m ih =>
    intro lo hi h1 h2 hm
    by_cases h : lo < hi
    · have b1 : lo ≤ (lo + hi) / 2 := by omega
      have b2 : (lo + hi) / 2 < hi := by omega
      generalize e : (lo + hi) / 2 = mid at b1 b2
      cases c : f mid with
      | true =>
        rw [bis_left h (by rw [e]; exact c), e]
        obtain ⟨q1, q2⟩ := ih lo mid (by omega) b1 (fun i j a b => hm i j a (by omega))
        refine ⟨q1, fun i a b => ?_⟩
        by_cases hh : i < mid
        · exact q2 i a hh
        · exact hm mid i (by omega) b c
      | false =>
        rw [bis_right h (by rw [e]; exact c), e]
        obtain ⟨q1, q2⟩ := ih (mid + 1) hi (by omega) (by omega) hm
        refine ⟨fun i a b => ?_, q2⟩
        by_cases hh : mid < i
        · exact q1 i (by omega) b
        · cases ci : f i with
          | false => rfl
          | true => rw [hm i mid (by omega) b2 ci] at c; cases c
    · rw [bis_stop h]
      exact ⟨fun i a b => by omega, fun i a b => by omega⟩
theorem bis_congr {f g : Nat → Bool} (m : Nat) : ∀ lo hi, hi - lo ≤ m → (∀ i, i < hi → f i = g i) → bis f lo hi = bis g lo hi := by
  induction m with
  | zero => intro lo hi h1 _; rw [bis_stop (by omega), bis_stop (by omega)]
  | succ m ih =>
    intro lo hi h1 hm
    by_cases h : lo < hi
    · have b2 : (lo + hi) / 2 < hi := by omega
      cases c : f ((lo + hi) / 2) with
      | true =>
        rw [bis_left h c, bis_left h (by rw [← hm _ b2]; exact c)]
        exact ih _ _ (by omega) (fun i a => hm i (by omega))
      | false =>
        rw [bis_right h c, bis_right h (by rw [← hm _ b2]; exact c)]
        exact ih _ _ (by omega) hm
    · rw [bis_stop h, bis_stop h]
theorem insP_congr {f g : Nat → Nat → Bool} : ∀ k, (∀ a b, b < a → a < k → f a b = g a b) → insP f k = insP g k
  | 0, _ => rfl
  | k + 1, h => by
    have e := insP_congr k (fun a b x y => h a b x (by omega))
    unfold insP
    dsimp only
    rw [e]
    have : bis (fun i => f k ((insP g k).getD i 0)) 0 (insP g k).length = bis (fun i => g k ((insP g k).getD i 0)) 0 (insP g k).length := by
      refine bis_congr _ _ _ (Nat.le_refl _) fun i hi => ?_
      have hx : (insP g k).getD i 0 < k := by
        rw [List.getD_eq_getElem?_getD, List.getElem?_eq_getElem hi]
        exact insP_lt _ _ _ (List.getElem_mem hi)
      exact h _ _ hx (Nat.lt_succ_self _)
    rw [this]
section
variable (n : Nat → Int)
abbrev ahead (i j : Nat) : Prop := n i < n j ∨ (n i = n j ∧ i < j)
variable {n}
theorem insP_sorted : ∀ k, (insP (fun a b => decide (n a < n b)) k).Pairwise (ahead n)
  | 0 => by unfold insP; exact .nil
  | k + 1 => by
    have h := insP_sorted k
    unfold insP
    dsimp only
    generalize hP : insP (fun a b => decide (n a < n b)) k = P at *
    have hlt : ∀ x ∈ P, x < k := hP ▸ insP_lt _ _
    have hs := bis_split (fun i => decide (n k < n (P.getD i 0))) _ 0 P.length (Nat.le_refl _) (Nat.zero_le _) (fun i j hij hj hi => by
      rcases Nat.lt_or_eq_of_le hij with q | q
      · have hi' : i < P.length := by omega
        have := List.pairwise_iff_getElem.mp h i j hi' hj q
        simp only [List.getD_eq_getElem?_getD, List.getElem?_eq_getElem hj, List.getElem?_eq_getElem hi', Option.getD_some, decide_eq_true_eq] at hi ⊢
        rcases this with r | r <;> omega
      · rw [← q]; exact hi)
    have hb := bis_le (lt := fun i => decide (n k < n (P.getD i 0))) (Nat.zero_le P.length)
    generalize bis (fun i => decide (n k < n (P.getD i 0))) 0 P.length = b at *
    obtain ⟨s1, s2⟩ := hs
    have t1 : ∀ x ∈ P.take b, ahead n x k := by
      intro x hx
      obtain ⟨i, hi, e⟩ := List.mem_iff_getElem.mp hx
      have hi2 : i < b ∧ i < P.length := by rw [List.length_take] at hi; omega
      rw [List.getElem_take] at e
      have := s1 i (Nat.zero_le _) hi2.1
      simp only [List.getD_eq_getElem?_getD, List.getElem?_eq_getElem hi2.2, Option.getD_some, e, decide_eq_false_iff_not] at this
      have hxk := hlt x (List.mem_of_mem_take hx)
      unfold ahead; omega
    have t2 : ∀ x ∈ P.drop b, n k < n x := by
      intro x hx
      obtain ⟨i, hi, e⟩ := List.mem_iff_getElem.mp hx
      have hi2 : b + i < P.length := by rw [List.length_drop] at hi; omega
      rw [List.getElem_drop] at e
      have := s2 (b + i) (Nat.le_add_right _ _) hi2
      simpa only [List.getD_eq_getElem?_getD, List.getElem?_eq_getElem hi2, Option.getD_some, e, decide_eq_true_eq] using this
    rw [← List.take_append_drop b P] at h
    rw [List.pairwise_append] at h ⊢
    refine ⟨h.1, List.pairwise_cons.mpr ⟨fun x hx => .inl (t2 x hx), h.2.1⟩, fun x hx y hy => ?_⟩
    rcases List.mem_cons.mp hy with rfl | hy
    · exact t1 x hx
    · exact h.2.2 x hx y hy
theorem insP_perm (lt : Nat → Nat → Bool) : ∀ k, (insP lt k).Perm (List.range k)
  | 0 => by unfold insP; exact .refl _
  | k + 1 => by
    unfold insP
    dsimp only
    rw [List.range_succ]
    refine (List.perm_middle).trans ?_
    rw [List.take_append_drop]
    exact ((insP_perm lt k).cons k).trans (List.perm_append_singleton k _).symm
theorem sorted_at {R : Nat → Nat → Prop} [DecidableRel R] (hir : ∀ a, ¬ R a a) (has : ∀ a b, R a b → ¬ R b a) {k : Nat} : ∀ {l : List Nat}, l.Pairwise R → k ∈ l → l[l.countP (fun j => decide (R j k))]? = some k
  | [], _, h => absurd h (List.not_mem_nil)
  | x :: t, hp, h => by
    rw [List.pairwise_cons] at hp
    by_cases e : x = k
    · subst e
      have : (x :: t).countP (fun j => decide (R j x)) = 0 := by
        rw [List.countP_eq_zero]
        intro y hy
        rcases List.mem_cons.mp hy with rfl | hy
        · simpa using hir _
        · simpa using has _ _ (hp.1 y hy)
      rw [this]; rfl
    · have hk : k ∈ t := (List.mem_cons.mp h).resolve_left (Ne.symm e)
      rw [List.countP_cons_of_pos (by simpa using hp.1 k hk), List.getElem?_cons_succ]
      exact sorted_at hir has hp.2 hk
theorem fst_count {k : Nat} : ∀ {l : List Nat}, l.Pairwise (ahead n) → k ∈ l → l.findIdx (fun j => decide (n j = n k)) = l.countP (fun j => decide (n j < n k))
  | [], _, h => absurd h (List.not_mem_nil)
  | x :: t, hp, h => by
    rw [List.pairwise_cons] at hp
    by_cases e : n x = n k
    · rw [List.findIdx_cons]
      simp only [e, decide_true, cond_true]
      symm
      rw [List.countP_eq_zero]
      intro y hy
      rcases List.mem_cons.mp hy with rfl | hy
      · simp [e]
      · have := hp.1 y hy
        unfold ahead at this
        simp only [decide_eq_true_eq]; omega
    · have hk : k ∈ t := by
        rcases List.mem_cons.mp h with q | q
        · exact absurd (by rw [q]) e
        · exact q
      have hlt : n x < n k := by
        have := hp.1 k hk
        unfold ahead at this; omega
      rw [List.findIdx_cons, List.countP_cons_of_pos (by simpa using hlt)]
      simp only [e, decide_false, cond_false]
      rw [fst_count hp.2 hk]
theorem bis_count {k : Nat} {l : List Nat} (hp : l.Pairwise (ahead n)) : bis (fun i => decide (n k < n (l.getD i 0))) 0 l.length = l.countP (fun j => decide (n j ≤ n k)) := by
  have hs := bis_split (fun i => decide (n k < n (l.getD i 0))) _ 0 l.length (Nat.le_refl _) (Nat.zero_le _) (fun i j hij hj hi => by
      rcases Nat.lt_or_eq_of_le hij with q | q
      · have hi' : i < l.length := by omega
        have := List.pairwise_iff_getElem.mp hp i j hi' hj q
        simp only [List.getD_eq_getElem?_getD, List.getElem?_eq_getElem hj, List.getElem?_eq_getElem hi', Option.getD_some, decide_eq_true_eq] at hi ⊢
        rcases this with r | r <;> omega
      · rw [← q]; exact hi)
  have hb := bis_le (lt := fun i => decide (n k < n (l.getD i 0))) (Nat.zero_le l.length)
  generalize bis (fun i => decide (n k < n (l.getD i 0))) 0 l.length = b at *
  obtain ⟨s1, s2⟩ := hs
  conv => rhs; rw [← List.take_append_drop b l]
  rw [List.countP_append]
  have c1 : (l.take b).countP (fun j => decide (n j ≤ n k)) = (l.take b).length := by
    rw [List.countP_eq_length]
    intro x hx
    obtain ⟨i, hi, e⟩ := List.mem_iff_getElem.mp hx
    have hi2 : i < b ∧ i < l.length := by rw [List.length_take] at hi; omega
    rw [List.getElem_take] at e
    have := s1 i (Nat.zero_le _) hi2.1
    simp only [List.getD_eq_getElem?_getD, List.getElem?_eq_getElem hi2.2, Option.getD_some, e, decide_eq_false_iff_not] at this
    simp only [decide_eq_true_eq]; omega
  have c2 : (l.drop b).countP (fun j => decide (n j ≤ n k)) = 0 := by
    rw [List.countP_eq_zero]
    intro x hx
    obtain ⟨i, hi, e⟩ := List.mem_iff_getElem.mp hx
    have hi2 : b + i < l.length := by rw [List.length_drop] at hi; omega
    rw [List.getElem_drop] at e
    have := s2 (b + i) (Nat.le_add_right _ _) hi2
    simp only [List.getD_eq_getElem?_getD, List.getElem?_eq_getElem hi2, Option.getD_some, e, decide_eq_true_eq] at this
    simp only [decide_eq_true_eq]; omega
  rw [c1, c2, List.length_take]; omega
theorem cntB_count (f : Nat → Bool) : ∀ k, cntB f k = (List.range k).countP f
  | 0 => rfl
  | k + 1 => by
    rw [List.range_succ, List.countP_append, ← cntB_count f k]
    have : cntB f (k + 1) = cntB f k + (if f k then 1 else 0) := rfl
    rw [this, List.countP_cons, List.countP_nil, Nat.zero_add]
theorem cnt_ahead {n : Nat → Int} {k N : Nat} (hk : k < N) : (List.range N).countP (fun j => decide (n j < n k)) + (List.range k).countP (fun i => decide (n i = n k)) = (List.range N).countP (fun j => decide (ahead n j k)) := by
  have h6 : List.range N = List.range k ++ (List.range (N - k)).map (k + ·) := by
    rw [← List.range_add]; congr 1; omega
  have e2 : (List.range k).countP (fun i => decide (n i = n k)) = (List.range N).countP (fun i => decide (n i = n k ∧ i < k)) := by
    rw [h6, List.countP_append]
    have z : ((List.range (N - k)).map (k + ·)).countP (fun i => decide (n i = n k ∧ i < k)) = 0 := by
      rw [List.countP_eq_zero]
      intro x hx
      obtain ⟨y, _, rfl⟩ := List.mem_map.mp hx
      simp only [decide_eq_true_eq]; omega
    rw [z, Nat.add_zero]
    refine List.countP_congr fun x hx => ?_
    have := List.mem_range.mp hx
    simp [this]
  rw [e2]
  clear h6 e2
  generalize List.range N = l
  induction l with
  | nil => rfl
  | cons x t ih =>
    simp only [List.countP_cons]
    have : (if decide (ahead n x k) = true then 1 else 0) = (if decide (n x < n k) = true then 1 else 0) + (if decide (n x = n k ∧ x < k) = true then 1 else 0) := by
      unfold ahead
      by_cases h1 : n x < n k
      · simp only [h1, true_or, decide_true, if_true]
        rw [if_neg (by simp only [decide_eq_true_eq]; omega)]
      · simp [h1]
    omega
theorem cnt_le {n : Nat → Int} {k N : Nat} (hk : k < N) : (List.range N).countP (fun j => decide (n j ≤ n k)) = (List.range N).countP (fun j => decide (n j < n k)) + ((List.range k).countP (fun i => decide (n i = n k)) + ((List.range (N - k)).map (k + ·)).countP (fun i => decide (n i = n k))) := by
  have h6 : List.range N = List.range k ++ (List.range (N - k)).map (k + ·) := by
    rw [← List.range_add]; congr 1; omega
  rw [← List.countP_append, ← h6]
  clear h6
  generalize List.range N = l
  induction l with
  | nil => rfl
  | cons x t ih =>
    simp only [List.countP_cons]
    have : (if decide (n x ≤ n k) = true then 1 else 0) = (if decide (n x < n k) = true then 1 else 0) + (if decide (n x = n k) = true then 1 else 0) := by
      rcases Int.lt_trichotomy (n x) (n k) with q | q | q
      · rw [if_pos (by simp only [decide_eq_true_eq]; omega), if_pos (by simp only [decide_eq_true_eq]; omega), if_neg (by simp only [decide_eq_true_eq]; omega)]
      · rw [if_pos (by simp only [decide_eq_true_eq]; omega), if_neg (by simp only [decide_eq_true_eq]; omega), if_pos (by simp only [decide_eq_true_eq]; omega)]
      · rw [if_neg (by simp only [decide_eq_true_eq]; omega), if_neg (by simp only [decide_eq_true_eq]; omega), if_neg (by simp only [decide_eq_true_eq]; omega)]
    omega
theorem cnt_off {p : Nat → Prop} [DecidablePred p] {k m : Nat} : cntB (fun i => decide (p (k + i))) m = ((List.range m).map (k + ·)).countP (fun i => decide (p i)) := by
  rw [cntB_count, List.countP_map]; rfl
end
section
variable (d : LawD)
theorem LawD.P_sorted : d.P.Pairwise (ahead d.n) := insP_sorted (n := d.n) 6
theorem LawD.P_perm : d.P.Perm (List.range 6) := insP_perm _ 6
theorem LawD.rank_count {k : Nat} (hk : k < 6) : d.rank k = d.P.countP (fun j => decide (ahead d.n j k)) := by
  have hm : k ∈ d.P := insP_has _ _ _ hk
  have e1 : d.fst k = d.P.countP (fun j => decide (d.n j < d.n k)) := fst_count d.P_sorted hm
  have e0 : d.rank k = d.fst k + cntB (fun i => decide (d.n i = d.n k)) k := rfl
  rw [e0, e1, d.P_perm.countP_eq, d.P_perm.countP_eq, cntB_count]
  exact cnt_ahead hk
theorem ahead_irr {n : Nat → Int} (a : Nat) : ¬ ahead n a a := by unfold ahead; omega
theorem ahead_asy {n : Nat → Int} (a b : Nat) : ahead n a b → ¬ ahead n b a := by unfold ahead; omega
theorem LawD.P_rank? {k : Nat} (hk : k < 6) : d.P[d.rank k]? = some k := by
  rw [d.rank_count hk]
  exact sorted_at ahead_irr ahead_asy d.P_sorted (insP_has _ _ _ hk)
theorem LawD.rank_lt {k : Nat} (hk : k < 6) : d.rank k < 6 := by
  have := List.getElem?_eq_some_iff.mp (d.P_rank? hk)
  obtain ⟨h, _⟩ := this
  rw [d.P_len] at h
  exact h
theorem LawD.P_rank {k : Nat} (hk : k < 6) : d.P.getD (d.rank k) 0 = k := by
  rw [List.getD_eq_getElem?_getD, d.P_rank? hk]; rfl
theorem LawD.P_before {k : Nat} (hk : k < 6) {i : Nat} (hi : i < d.rank k) : ((d.P.getD i 0 : Nat) : Int) ≠ (k : Int) := fun q => by
  have hr := d.rank_lt hk
  have hn : d.P.Nodup := d.P_perm.nodup_iff.mpr List.nodup_range
  have hil : i < d.P.length := by rw [d.P_len]; omega
  have hjl : d.rank k < d.P.length := by rw [d.P_len]; exact hr
  have e1 : d.P[i] = k := by
    have : d.P.getD i 0 = k := by omega
    rw [List.getD_eq_getElem?_getD, List.getElem?_eq_getElem hil] at this
    exact this
  have e2 : d.P[d.rank k] = k := (List.getElem?_eq_some_iff.mp (d.P_rank? hk)).2
  exact List.pairwise_iff_getElem.mp hn i (d.rank k) hil hjl hi (e1.trans e2.symm)
theorem LawD.rank_inj {j k : Nat} (hj : j < 6) (hk : k < 6) (h : d.rank j = d.rank k) : j = k := by
  rw [← d.P_rank hj, h, d.P_rank hk]
theorem LawD.again_eq {k : Nat} (hk : k < 6) : d.again k = - (d.rank k : Int) := by
  have hm : k ∈ d.P := insP_has _ _ _ hk
  have e1 : d.fst k = d.P.countP (fun j => decide (d.n j < d.n k)) := fst_count d.P_sorted hm
  have e2 : bis (fun i => decide (d.n k < d.n (d.P.getD i 0))) 0 6 = d.P.countP (fun j => decide (d.n j ≤ d.n k)) := by
    have := bis_count (n := d.n) (k := k) d.P_sorted
    rw [d.P_len] at this
    exact this
  have e0 : d.rank k = d.fst k + cntB (fun i => decide (d.n i = d.n k)) k := rfl
  have e4 : d.again k = ((cntB (fun i => decide (d.n (k + i) = d.n k)) (6 - k) : Nat) : Int) - ((bis (fun i => decide (d.n k < d.n (d.P.getD i 0))) 0 6 : Nat) : Int) := rfl
  have e5 : cntB (fun i => decide (d.n (k + i) = d.n k)) (6 - k) = ((List.range (6 - k)).map (k + ·)).countP (fun i => decide (d.n i = d.n k)) := cnt_off (p := fun j => d.n j = d.n k)
  rw [e4, e2, e0, e1, e5, d.P_perm.countP_eq, d.P_perm.countP_eq, cntB_count, cnt_le hk]
  omega
def LawD.ranks : List Nat := (List.range 6).map d.rank
theorem LawD.ranks_at {k : Nat} (hk : k < 6) : d.ranks.getD k 0 = d.rank k := by
  unfold LawD.ranks
  rw [List.getD_eq_getElem?_getD, List.getElem?_map, List.getElem?_range hk]; rfl
theorem LawD.rank_ahead {j k : Nat} (hj : j < 6) (hk : k < 6) : d.rank j < d.rank k ↔ ahead d.n j k := by
  have pj := List.getElem?_eq_some_iff.mp (d.P_rank? hj)
  have pk := List.getElem?_eq_some_iff.mp (d.P_rank? hk)
  obtain ⟨lj, ej⟩ := pj
  obtain ⟨lk, ek⟩ := pk
  constructor
  · intro h
    have := List.pairwise_iff_getElem.mp d.P_sorted _ _ lj lk h
    rw [ej, ek] at this
    exact this
  · intro h
    rcases Nat.lt_trichotomy (d.rank j) (d.rank k) with q | q | q
    · exact q
    · rw [d.rank_inj hj hk q] at h; exact absurd h (ahead_irr _)
    · have := List.pairwise_iff_getElem.mp d.P_sorted _ _ lk lj q
      rw [ej, ek] at this
      exact absurd h (ahead_asy _ _ this)
theorem LawD.P_ranks : insP (fun k j => decide (d.ranks.getD k 0 < d.ranks.getD j 0)) 6 = d.P := by
  unfold LawD.P
  refine insP_congr 6 fun a b hb ha => ?_
  rw [d.ranks_at ha, d.ranks_at (Nat.lt_trans hb ha)]
  have := d.rank_ahead ha (Nat.lt_trans hb ha)
  have h2 : ahead d.n a b ↔ d.n a < d.n b := by unfold ahead; omega
  exact decide_eq_decide.mpr (this.trans h2)
theorem LawD.ranks_len : d.ranks.length = 6 := by unfold LawD.ranks; simp
theorem LawD.ranks_lt : ∀ x ∈ d.ranks, x < 6 := by
  intro x hx
  obtain ⟨k, hk, rfl⟩ := List.mem_map.mp hx
  exact d.rank_lt (List.mem_range.mp hk)
theorem LawD.ranks_nodup : d.ranks.Nodup := by
  unfold LawD.ranks List.Nodup
  rw [List.pairwise_map]
  refine List.Pairwise.imp_of_mem ?_ (List.nodup_range (n := 6))
  intro a b ha hb h q
  exact h (d.rank_inj (List.mem_range.mp ha) (List.mem_range.mp hb) q)
end
end Mine
end

/-! PL5 -/
section
open PySem PySem.W PySem.Calls PySem.Spec PyProof.Rows
set_option Elab.async false
set_option autoImplicit false
set_option maxRecDepth 100000
set_option maxHeartbeats 4000000
namespace Mine
structure TabsLaw (d : LawD) (hs bs hs2 bs2 : List (Nat × Nat)) : Prop where
  p1 : turnsF true d.ranks 0 [] [] = some (hs, bs)
  p2 : turnsF false d.P 0 [] [] = some (hs2, bs2)
  a1 : ∀ k, k < 6 → ∃ r ∈ hs, r.2 = k
  a2 : ∀ k, k < 6 → ∃ r ∈ hs2, r.2 = k
  n1 : ∀ k, k < 6 → nameAt hs k = (bs2.getD k (9, 9)).1
  n2 : ∀ k, k < 6 → nameAt hs2 k = (bs.getD k (8, 8)).1
  l1 : hs.length = 6
  l2 : hs2.length = 6
  l3 : bs.length = 6
  l4 : bs2.length = 6
  v1 : bs.map (·.2) = List.range 6
  v2 : bs2.map (·.2) = List.range 6
  lg : (rowA hs 0).length = maxN ((List.range 6).map fun k => (fallsF d.ranks 6).getD k 0 + ((fallsF d.ranks.reverse 6).reverse).getD k 0 - 1)
theorem LawD.tabs (d : LawD) : ∃ hs bs hs2 bs2, TabsLaw d hs bs hs2 bs2 := by
  have h := chk_of d.ranks_len d.ranks_lt d.ranks_nodup
  unfold chkT at h
  have e : insR d.ranks 6 = d.P := d.P_ranks
  dsimp only at h
  rw [e] at h
  cases q1 : turnsF true d.ranks 0 [] [] with
  | none => rw [q1] at h; cases h
  | some x =>
    cases q2 : turnsF false d.P 0 [] [] with
    | none => rw [q1, q2] at h; cases h
    | some y =>
      obtain ⟨hs, bs⟩ := x
      obtain ⟨hs2, bs2⟩ := y
      rw [q1, q2] at h
      dsimp only at h
      simp only [Bool.and_eq_true, List.all_eq_true, List.mem_range, beq_iff_eq, List.any_eq_true] at h
      obtain ⟨⟨⟨⟨⟨⟨⟨⟨⟨⟨h1, h2⟩, h3⟩, h4⟩, h5⟩, h6⟩, h7⟩, h8⟩, h9⟩, h10⟩, h11⟩ := h
      exact ⟨hs, bs, hs2, bs2, q1, q2, fun k hk => (h4 k hk).1.1.1, fun k hk => (h4 k hk).1.1.2, fun k hk => (h4 k hk).1.2, fun k hk => (h4 k hk).2, h5, h6, h7, h8, h9, h10, h11⟩
theorem TabOk.mono {as as' : List (Addr × Obj)} {hs bs : List (Nat × Nat)} {d : TabD} (x : TabOk as hs bs d) (h : ∀ q ∈ as, q ∈ as') : TabOk as' hs bs d :=
  ⟨h _ x.mdn, h _ x.mx, h _ x.mdx, h _ x.mhl, h _ x.mb, h _ x.mdb, h _ x.mbl, h _ x.mal, fun r hr => h _ (x.mrs r hr), fun r hr => h _ (x.mbs r hr), x.ers, x.ebs, x.crs, x.cbs, x.hk, x.evs, x.hvs⟩
/-- the locals behind the two calls of `_law_tables` -/
abbrev m8 (m : Str → Option Value) (t : TabD) : Str → Option Value := fun y =>
  if y = Str.ofString "deeds" then some (Value.ref t.al) else if y = Str.ofString "book" then some (Value.ref t.b) else if y = Str.ofString "table" then some (Value.ref t.x) else m y
abbrev m9 (m : Str → Option Value) (t : TabD) : Str → Option Value := fun y =>
  if y = Str.ofString "done" then some (Value.ref t.al) else if y = Str.ofString "other" then some (Value.ref t.b) else if y = Str.ofString "apart" then some (Value.ref t.x) else if y = Str.ofString "plain" then some (Value.ref t.dn) else m y
theorem LawD.P_lt (d : LawD) : ∀ x ∈ d.P, x < 6 := insP_lt _ _
theorem LawD.P_nodup (d : LawD) : d.P.Nodup := d.P_perm.nodup_iff.mpr List.nodup_range
end Mine
end

/-! L20 -/
section
open PySem PySem.W PySem.Calls PySem.Spec PyProof.Rows PyProof.V
set_option Elab.async false
set_option autoImplicit false
set_option maxRecDepth 100000
set_option maxHeartbeats 4000000
namespace Mine
/-- a table and its book, as they stand in a heap -/
structure TabAt (h : Heap) (t : TabD) : Prop where
  hb : HT h t.b t.bl
  lb : LL h t.bl (t.bs.map Row.ref)
  rb : Rows h t.bs
  hx : HT h t.x t.hl
  lx : LL h t.hl (t.rs.map Row.ref)
  rx : Rows h t.rs
theorem TabOk.at {TL : List (Addr × Obj)} {hs bs : List (Nat × Nat)} {t : TabD} {g h : Heap} {L : Addr} {news : List (Addr × Obj)} (x : TabOk TL hs bs t) (N : News g L h news) (hsub : ∀ q ∈ TL, q ∈ news) : TabAt h t := by
  have e : ∀ q ∈ TL, h.get? q.1 = some q.2 := fun q hq => (N q (hsub q hq)).1
  exact ⟨⟨_, _, _, _, e _ x.mb, e _ x.mdb⟩, ⟨_, e _ x.mbl⟩, fun r hr => ⟨(x.cbs r hr).1, (x.cbs r hr).2, ⟨_, e _ (x.mbs r hr)⟩⟩, ⟨_, _, _, _, e _ x.mx, e _ x.mdx⟩, ⟨_, e _ x.mhl⟩, fun r hr => ⟨(x.crs r hr).1, (x.crs r hr).2, ⟨_, e _ (x.mrs r hr)⟩⟩⟩
theorem TabAt.kp {h h' : Heap} {t : TabD} (x : TabAt h t) (k : Kp h h') : TabAt h' t := ⟨x.hb.kp k, x.lb.kp k, x.rb.kp k, x.hx.kp k, x.lx.kp k, x.rx.kp k⟩
theorem inst_news {g h : Heap} {L x dx : Addr} {c : Addr} {d : Obj} {news : List (Addr × Obj)} (N : News g L h news) (m1 : (x, instObj c dx) ∈ news) (m2 : (dx, d) ∈ news) : InstAt h x (instObj c dx) c (some d) := ⟨(N _ m1).1, rfl, rfl, (N _ m2).1⟩
/-- lists of texts compared -/
theorem my_ts_canLayAll0 : ∀ ss : List Str, (∀ x ∈ ss, PyData.strOk x = true) → PyData.canLayAll0 (ss.map PyData.str) = true
  | [], _ => rfl
  | x :: r, h => by simp [PyData.canLayAll0, PyData.canLay0, my_ts_canLayAll0 r fun y hy => h y (.tail _ hy), h x (.head _)]
theorem my_ts_depthAll : ∀ ss : List Str, PyData.depthAll (ss.map PyData.str) = 0
  | [] => rfl
  | _ :: r => by simp [PyData.depthAll, PyData.depth, my_ts_depthAll r]
theorem my_ts_eqvAll : ∀ ns ms : List Str, PyData.eqvAll (ns.map PyData.str) (ms.map PyData.str) = decide (ns = ms)
  | [], [] => by simp [PyData.eqvAll]
  | [], _ :: _ => by simp [PyData.eqvAll]
  | _ :: _, [] => by simp [PyData.eqvAll]
  | a :: r, b :: t => by
    simp only [List.map_cons, PyData.eqvAll, PyData.eqv, my_ts_eqvAll r t]
    by_cases h : a = b <;> by_cases h' : r = t <;> simp [h, h']
/-- a list of texts of given values -/
inductive TsAre : List Value → List Str → Prop
  | nil : TsAre [] []
  | cons (x : Str) (t : Tok) {vs : List Value} {ss : List Str} (r : TsAre vs ss) : TsAre (.str x t :: vs) (x :: ss)
theorem TsAre.carried : ∀ {vs : List Value} {ss : List Str}, TsAre vs ss → CarriedAll vs (ss.map PyData.str)
  | _, _, .nil => .nil
  | _, _, .cons x t r => .cons (.str x t) r.carried
theorem my_shaped_ts {ss : List Str} (h : ∀ x ∈ ss, PyData.strOk x = true) : SeqAt.shaped (.list (ss.map PyData.str)) = true := by
  simp [SeqAt.shaped, PyData.canLay0, PyData.depth, my_ts_canLayAll0 ss h, my_ts_depthAll]
section
variable {prog : Program} {w : World} {A : Around} {E : Value → Shared → Prop} {s : Shared} {a b : Addr} {xs ys : List Value} {ns ms : List Str} {Q : Value → Shared → Prop}
theorem my_eq_ts (ha : s.heap.IsList a xs.toArray) (hb : s.heap.IsList b ys.toArray) (hi : TsAre xs ns) (hj : TsAre ys ms) (oi : ∀ x ∈ ns, PyData.strOk x = true) (oj : ∀ x ∈ ms, PyData.strOk x = true) (hu : A.units + 64 < cLine) (h : Q (.bool (decide (ns = ms))) s) :
    wpAny (model prog w) A (compareOp .Eq (.ref a) (.ref b)) Q E s :=
  eq_dataH (reads_newData ha hi.carried) (reads_newData hb hj.carried) (my_shaped_ts oi) (my_shaped_ts oj) hu (by rw [PyData.eqv, my_ts_eqvAll]; exact h)
theorem my_ne_ts (ha : s.heap.IsList a xs.toArray) (hb : s.heap.IsList b ys.toArray) (hi : TsAre xs ns) (hj : TsAre ys ms) (oi : ∀ x ∈ ns, PyData.strOk x = true) (oj : ∀ x ∈ ms, PyData.strOk x = true) (hu : A.units + 64 < cLine) (h : Q (.bool (!decide (ns = ms))) s) :
    wpAny (model prog w) A (compareOp .NotEq (.ref a) (.ref b)) Q E s :=
  ne_dataH (reads_newData ha hi.carried) (reads_newData hb hj.carried) (my_shaped_ts oi) (my_shaped_ts oj) hu (by rw [PyData.eqv, my_ts_eqvAll]; exact h)
end
theorem sg_ok : ∀ c, c < 6 → PyData.strOk (sg c) = true := by decide +kernel
theorem nm_ok : ∀ c, c < 6 → PyData.strOk (nm c) = true := by decide +kernel
theorem ts_vals : ∀ {rs : List Row}, TsAre (rs.map Row.val) (rs.map fun r => sg r.d)
  | [] => .nil
  | r :: _ => .cons _ _ ts_vals
theorem ts_names : ∀ {rs : List Row}, TsAre (rs.map Row.name) (rs.map fun r => nm r.c)
  | [] => .nil
  | r :: _ => .cons _ _ ts_names
theorem vals_of {rs : List Row} {hs : List (Nat × Nat)} (e : rs.map Row.ab = hs) : (rs.map fun r => sg r.d) = hs.map fun q => sg q.2 := by
  subst e; rw [List.map_map]; rfl
theorem names_of {rs : List Row} {hs : List (Nat × Nat)} (e : rs.map Row.ab = hs) : (rs.map fun r => nm r.c) = hs.map fun q => nm q.1 := by
  subst e; rw [List.map_map]; rfl
theorem rows_len {rs : List Row} {hs : List (Nat × Nat)} (e : rs.map Row.ab = hs) (h : hs.length = 6) : rs.length = 6 := by
  have := congrArg List.length e
  rw [List.length_map] at this
  omega
theorem sgs_of {hs : List (Nat × Nat)} (h : hs.map (·.2) = List.range 6) : (hs.map fun q => sg q.2) = (List.range 6).map sg := by
  rw [← h, List.map_map]; rfl
theorem ok_sgs : ∀ x ∈ (List.range 6).map sg, PyData.strOk x = true := by
  intro x hx
  obtain ⟨k, hk, rfl⟩ := List.mem_map.mp hx
  exact sg_ok k (List.mem_range.mp hk)
theorem news_add {g h h' : Heap} {L D : Addr} {m : Str → Option Value} {o : Obj} {news : List (Addr × Obj)} (F : Fr g L h m) (N : News g L h news) (k : Kp h h') (e : h.get? D = none) (e' : h'.get? D = some o) : News g L h' ((D, o) :: news) := fun q hq => by
  rcases List.mem_cons.mp hq with rfl | hq
  · exact ⟨e', (fresh_of F e).2, (fresh_of F e).1⟩
  · exact (news_kp N k) q hq
theorem rows_of0 {f : Nat → Nat × Nat} : ∀ {log : List LogE}, (∀ e ∈ log, ∃ r : Row, e.y = .ref r.a ∧ (r.a, tupO r) ∈ e.as ∧ r.ab = f e.i) →
    ∃ rs : List Row, log.map (·.y) = rs.map Row.ref ∧ rs.map Row.ab = (log.map (·.i)).map f ∧ ∀ r ∈ rs, ∃ e ∈ log, (r.a, tupO r) ∈ e.as
  | [], _ => ⟨[], rfl, rfl, nofun⟩
  | e :: log, h => by
    obtain ⟨r, e1, e2, e3⟩ := h e (.head _)
    obtain ⟨rs, q1, q2, q3⟩ := rows_of0 (log := log) fun e he => h e (.tail _ he)
    refine ⟨r :: rs, by simp only [List.map_cons, e1, q1], by simp only [List.map_cons, e3, q2], fun x hx => ?_⟩
    rcases List.mem_cons.mp hx with rfl | hx
    · exact ⟨e, .head _, e2⟩
    · obtain ⟨e', he', q⟩ := q3 x hx
      exact ⟨e', .tail _ he', q⟩
theorem rows_of {f : Nat → Nat × Nat} {log : List LogE} {n : Nat} (h : ∀ e ∈ log, ∃ r : Row, e.y = .ref r.a ∧ (r.a, tupO r) ∈ e.as ∧ r.ab = f e.i) (hi : log.map (·.i) = List.range n) :
    ∃ rs : List Row, log.map (·.y) = rs.map Row.ref ∧ rs.map Row.ab = (List.range n).map f ∧ ∀ r ∈ rs, ∃ e ∈ log, (r.a, tupO r) ∈ e.as := hi ▸ rows_of0 h
theorem nameAt_lt {TL : List (Addr × Obj)} {hs bs : List (Nat × Nat)} {t : TabD} (x : TabOk TL hs bs t) (k : Nat) : nameAt hs k < 6 := by
  unfold nameAt
  rw [List.getD_eq_getElem?_getD]
  cases e : hs[placeA hs k]? with
  | none => decide
  | some q =>
    have hm := List.mem_of_getElem? e
    rw [← x.ers] at hm
    obtain ⟨r, hr, rfl⟩ := List.mem_map.mp hm
    exact (x.crs r hr).1
/-- the third Headers: the signs as they came -/
structure CamD where
  x : Addr
  dx : Addr
  cl : Addr
  eh : Int
  et : Tok
  en : Nat
  nc : Nat
  rs : List Row
structure CamOk (TL : List (Addr × Obj)) (hs : List (Nat × Nat)) (d : LawD) (c : CamD) : Prop where
  mx : (c.x, instObj 242 c.dx) ∈ TL
  mdx : (c.dx, hdObj c.eh c.et c.cl c.en) ∈ TL
  mcl : (c.cl, listOf (c.rs.map Row.ref).toArray c.nc) ∈ TL
  mrs : ∀ r ∈ c.rs, (r.a, tupO r) ∈ TL
  ers : c.rs.map Row.ab = (List.range 6).map fun i => (nameAt hs (d.rank i), d.rank i / 2)
  crs : ∀ r ∈ c.rs, r.c < 6 ∧ r.d < 6
theorem offC_new {g H : Heap} {L : Addr} {o1 o2 o3 o4 o5 o6 o7 o8 o9 o10 o11 o12 : Obj} {TL as : List (Addr × Obj)} (h : ∀ q ∈ as, H.get? q.1 = none) (N : News g L H ((L + 1 + 1 + 1 + 1 + 1 + 1 + 1 + 1 + 1 + 1 + 1 + 1, o12) :: (L + 1 + 1 + 1 + 1 + 1 + 1 + 1 + 1 + 1 + 1 + 1, o11) :: (L + 1 + 1 + 1 + 1 + 1 + 1 + 1 + 1 + 1 + 1, o10) :: (L + 1 + 1 + 1 + 1 + 1 + 1 + 1 + 1 + 1, o9) :: (L + 1 + 1 + 1 + 1 + 1 + 1 + 1 + 1, o8) :: (L + 1 + 1 + 1 + 1 + 1 + 1 + 1, o7) :: (L + 1 + 1 + 1 + 1 + 1 + 1, o6) :: (L + 1 + 1 + 1 + 1 + 1, o5) :: (L + 1 + 1 + 1 + 1, o4) :: (L + 1 + 1 + 1, o3) :: (L + 1 + 1, o2) :: (L + 1, o1) :: TL)) : OffC L as := fun q hq =>
  ⟨fresh_ne (h q hq) N (c := L + 1) (o := o1) (.tail _ (.tail _ (.tail _ (.tail _ (.tail _ (.tail _ (.tail _ (.tail _ (.tail _ (.tail _ (.tail _ (.head _)))))))))))), fresh_ne (h q hq) N (c := L + 1 + 1) (o := o2) (.tail _ (.tail _ (.tail _ (.tail _ (.tail _ (.tail _ (.tail _ (.tail _ (.tail _ (.tail _ (.head _))))))))))), fresh_ne (h q hq) N (c := L + 1 + 1 + 1) (o := o3) (.tail _ (.tail _ (.tail _ (.tail _ (.tail _ (.tail _ (.tail _ (.tail _ (.tail _ (.head _)))))))))), fresh_ne (h q hq) N (c := L + 1 + 1 + 1 + 1) (o := o4) (.tail _ (.tail _ (.tail _ (.tail _ (.tail _ (.tail _ (.tail _ (.tail _ (.head _))))))))), fresh_ne (h q hq) N (c := L + 1 + 1 + 1 + 1 + 1) (o := o5) (.tail _ (.tail _ (.tail _ (.tail _ (.tail _ (.tail _ (.tail _ (.head _)))))))), fresh_ne (h q hq) N (c := L + 1 + 1 + 1 + 1 + 1 + 1) (o := o6) (.tail _ (.tail _ (.tail _ (.tail _ (.tail _ (.tail _ (.head _))))))), fresh_ne (h q hq) N (c := L + 1 + 1 + 1 + 1 + 1 + 1 + 1) (o := o7) (.tail _ (.tail _ (.tail _ (.tail _ (.tail _ (.head _)))))), fresh_ne (h q hq) N (c := L + 1 + 1 + 1 + 1 + 1 + 1 + 1 + 1) (o := o8) (.tail _ (.tail _ (.tail _ (.tail _ (.head _))))), fresh_ne (h q hq) N (c := L + 1 + 1 + 1 + 1 + 1 + 1 + 1 + 1 + 1) (o := o9) (.tail _ (.tail _ (.tail _ (.head _)))), fresh_ne (h q hq) N (c := L + 1 + 1 + 1 + 1 + 1 + 1 + 1 + 1 + 1 + 1) (o := o10) (.tail _ (.tail _ (.head _))), fresh_ne (h q hq) N (c := L + 1 + 1 + 1 + 1 + 1 + 1 + 1 + 1 + 1 + 1 + 1) (o := o11) (.tail _ (.head _)), fresh_ne (h q hq) N (c := L + 1 + 1 + 1 + 1 + 1 + 1 + 1 + 1 + 1 + 1 + 1 + 1) (o := o12) (.head _)⟩
end Mine
end

/-! LE -/
section
open PySem PySem.W PySem.Calls PySem.Spec PyProof.Rows PyProof.V
set_option Elab.async false
set_option autoImplicit false
set_option maxRecDepth 100000
set_option maxHeartbeats 4000000
namespace Mine
section
variable {prog : Program} {w : World} {A : Around} {E : Value → Shared → Prop} {R : Result → Shared → Prop} {s : Shared} {g : Heap} {L : Addr} {mL : Str → Option Value}
theorem cell_at {h h' : Heap} {c : Addr} {v : Option Value} (x : h.IsCell c v) (k : ∀ o, h.get? c = some o → h'.get? c = some o) : h'.IsCell c v := let ⟨o, e, d⟩ := x; ⟨o, k o e, d⟩
def BindsCell (prog : Program) (w : World) (A : Around) (target : PySem.Expr) (I : Addr) (cenv : Env) (c : Addr) (s : Shared) (v : Value) : Prop :=
  ∀ (Q : Unit → Shared → Prop) (E : Value → Shared → Prop) h tk v0, h.IsCell c v0 →
    (∀ h', h'.IsCell c (some v) → (∀ b o, b ≠ c → h.get? b = some o → h'.get? b = some o) → Q () { s with heap := h', toks := tk }) →
    wpAny (model prog w) A (letOwnedTupleGo target (.ref I) v) (fun _ s₁ => wpAny (model prog w) A (assign target cenv v) Q E s₁) E { s with heap := h, toks := tk }
theorem binds_cell {x : Str} {px : Pos} {I c : Addr} {cenv : Env} {v : Value} (hk : cenv.scope.kind = .function) (hl : cenv.kindOf x = some .cell) (hc : cenv.cells.lookup x = some c) :
    BindsCell prog w A (.Name x px) I cenv c s v := by
  intro Q E h tk v0 hn hQ
  refine wpAny_pure ?_
  refine wpAny_assign_Name (wpAny_storeName_cell hk hl hc hn fun h' hn' hs' => ?_)
  exact hQ h' hn' (fun b o hb e => hs'.extBut b o hb e)
theorem comp_core3 {elt target iter : PySem.Expr} {ifs : List PySem.Expr} {scope : Scope} {pos : Pos} {I D : Addr} {cenv : Env} {fp wr : List Addr} {n : Nat} {P : Nat → Value → Nat → Nat → Prop} {Nx : Nat → Heap → Prop} {c : Addr} {v0 : Option Value}
    (W : MWalk prog w A I fp wr n P Nx) (hn20 : n < 2 ^ 20) (pz : Nat → Bool) (G : Gr)
    (hIf : I ∈ fp) (hIw : I ∈ wr) (hwrI : ∀ b ∈ wr, b = I) (hDC : D ≠ c) (hDf : D ∉ fp) (hCf : c ∉ fp)
    (hit : ∀ i h, Nx i h → ∃ o, h.get? I = some o ∧ (o.cls = .type "list_iterator" ∨ o.cls = .type "range_iterator"))
    (F0 : Fr g L s.heap mL) (hLC : L ≠ c) (hLI : L ≠ I) (hLD : L ≠ D) (hgC : g.get? c = none) (hgI : g.get? I = none) (hgD : g.get? D = none) (hLf : L ∉ fp) (hst : Nx 0 s.heap) (hacc : LL s.heap D []) (hn : s.heap.IsCell c v0)
    (hbind : ∀ s' i v lo hi, i < n → P i v lo hi → BindsCell prog w A target I cenv c s' v)
    (tests : ∀ i v lo hi h3 tk3, i < n → P i v lo hi → hi ≤ tk3 → s.toks ≤ lo → h3.IsCell c (some v) → (∀ b o, b ≠ c → b ≠ I → b ≠ D → b ≠ L → s.heap.get? b = some o → h3.get? b = some o) → Fr g L h3 mL →
      wpAny (model prog w) A (forIn ifs true fun c r => if r = true then do let ok ← isTrue c cenv (eval c cenv); pure (ForInStep.yield ok) else pure (ForInStep.yield r))
        (fun ok s₄ => ok = pz i ∧ KeepsL g L mL { s with heap := h3, toks := tk3 } s₄) (fun _ _ => False) { s with heap := h3, toks := tk3 })
    (elts : ∀ i v lo hi h3 tk3, i < n → pz i = true → P i v lo hi → hi ≤ tk3 → s.toks ≤ lo → h3.IsCell c (some v) → (∀ b o, b ≠ c → b ≠ I → b ≠ D → b ≠ L → s.heap.get? b = some o → h3.get? b = some o) → Fr g L h3 mL →
      wpAny (model prog w) A (eval elt cenv) (fun y s₄ => KeepsL g L mL { s with heap := h3, toks := tk3 } s₄ ∧ ∃ as, (∀ hh, s₄.toks ≤ hh → G i y as lo hh) ∧ ∀ q ∈ as, h3.get? q.1 = none ∧ s₄.heap.get? q.1 = some q.2) (fun _ _ => False) { s with heap := h3, toks := tk3 })
    (done : ∀ h' tk v' log, h'.IsCell c v' → LL h' D (log.map (·.y)) → log.map (·.i) = (List.range n).filter pz → LogOk G s.toks (fun b => b ≠ c ∧ b ≠ I ∧ b ≠ D ∧ b ≠ L ∧ s.heap.get? b = none) h' tk log →
      (∀ b o, b ≠ c → b ≠ I → b ≠ D → b ≠ L → s.heap.get? b = some o → h'.get? b = some o) → Fr g L h' mL → s.toks ≤ tk → R (.ok .next) { s with heap := h', toks := tk }) :
    codeAny (model prog w) A (.compLoop (.ListComp elt [⟨target, iter, ifs, 0⟩] scope pos) 0 (.ref I) (.ref D) cenv) R s := by
  have hIC : I ≠ c := fun q => hCf (q ▸ hIf)
  have hDI : D ≠ I := fun q => hDf (q ▸ hIf)
  have hwrI' : ∀ b, b ∉ wr → b ≠ I := fun b hb q => hb (q ▸ hIw)
  refine codeAny_compLoop_any
    (fun k s' => ∃ h' tk v' log i, s' = { s with heap := h', toks := tk } ∧ Nx i h' ∧ LL h' D (log.map (·.y)) ∧ h'.IsCell c v' ∧ log.map (·.i) = (List.range i).filter pz ∧
      LogOk G s.toks (fun b => b ≠ c ∧ b ≠ I ∧ b ≠ D ∧ b ≠ L ∧ s.heap.get? b = none) h' tk log ∧ i ≤ n ∧ k = n + 1 - i ∧ s.toks ≤ tk ∧
      Fr g L h' mL ∧ ∀ b o, b ≠ c → b ≠ I → b ≠ D → b ≠ L → s.heap.get? b = some o → h'.get? b = some o) ?_ (n + 1)
    ⟨s.heap, s.toks, v0, [], 0, rfl, hst, hacc, hn, rfl, LogOk.nil, Nat.zero_le _, rfl, Nat.le_refl _, F0, fun _ _ _ _ _ _ e => e⟩
  rintro k s' zz
  refine exE5 zz fun H tk v' log i jj => andE11 jj fun ez5 hst' hacc' hn' hidx hlog hi ez12 htk FH hk => ?_
  clear jj zz
  subst ez5
  subst ez12
  by_cases hin : i = n
  · subst hin
    refine W.done _ _ _ hst' fun h₁ tk₁ ht₁ hk₁ => ?_
    have hk₁' : ∀ b o, b ≠ I → H.get? b = some o → h₁.get? b = some o := fun b o hb e => hk₁ b o (fun q => hb (hwrI b q)) e
    exact done h₁ tk₁ v' log (cell_at hn' fun o e => hk₁' _ o (Ne.symm hIC) e) (hacc'.at fun o e => hk₁' _ o hDI e) hidx (hlog.mono ht₁ fun b o fb e => hk₁' b o fb.2.1 e)
      (fun b o hbC hbI hbD hbL e => hk₁' b o hbI (hk b o hbC hbI hbD hbL e)) (frB FH hgI hLI hk₁') (Nat.le_trans htk ht₁)
  have hlt : i < n := by omega
  refine W.item i _ _ _ hlt hst' fun v h₁ tk₁ hP ht₁ hNx₁ hk₁ => ?_
  replace ht₁ : tk ≤ tk₁ := ht₁
  have hk₁' : ∀ b o, b ≠ I → H.get? b = some o → h₁.get? b = some o := fun b o hb e => hk₁ b o (fun q => hb (hwrI b q)) e
  have hn₁ : h₁.IsCell c v' := cell_at hn' fun o e => hk₁' _ o (Ne.symm hIC) e
  have k₁ : ∀ b o, b ≠ c → b ≠ I → b ≠ D → b ≠ L → s.heap.get? b = some o → h₁.get? b = some o := fun b o hbC hbI hbD hbL e => hk₁' b o hbI (hk b o hbC hbI hbD hbL e)
  have F₁ := frB FH hgI hLI hk₁'
  refine hbind { s with heap := h₁, toks := tk₁ } i v _ _ hlt hP _ _ h₁ tk₁ v' hn₁ fun h₂ hn₂ hk₂ => ?_
  have ht₂ : tk₁ ≤ tk₁ := Nat.le_refl _
  have k₂ : ∀ b o, b ≠ c → b ≠ I → b ≠ D → b ≠ L → s.heap.get? b = some o → h₂.get? b = some o := fun b o hbC hbI hbD hbL e => hk₂ b o hbC (k₁ b o hbC hbI hbD hbL e)
  have F₂ := frB F₁ hgC hLC hk₂
  have hNx₂ : Nx (i + 1) h₂ := W.frame _ _ _ hNx₁ fun b hb o e => hk₂ b o (fun q => hCf (q ▸ hb)) e
  have hacc₂ : LL h₂ D (log.map (·.y)) := hacc'.at fun o e => hk₂ D o hDC (hk₁' D o hDI e)
  have hlog₂ : LogOk G s.toks (fun b => b ≠ c ∧ b ≠ I ∧ b ≠ D ∧ b ≠ L ∧ s.heap.get? b = none) h₂ tk log := hlog.mono (Nat.le_refl _) fun b o fb e => hk₂ b o fb.1 (hk₁' b o fb.2.1 e)
  refine wpAny_mono (wpAny_toks (tests i v tk tk₁ h₂ tk₁ hlt hP ht₂ htk hn₂ k₂ F₂)) (fun ok s₃ h₃ => ?_) fun _ _ x => x.2.elim
  obtain ⟨ht₃, rfl, h₃, tk₃, rfl, hk₃, F₃⟩ := h₃
  replace ht₃ : tk₁ ≤ tk₃ := ht₃
  replace hk₃ : ∀ b o, b ≠ L → h₂.get? b = some o → h₃.get? b = some o := hk₃
  have k₃ : ∀ b o, b ≠ c → b ≠ I → b ≠ D → b ≠ L → s.heap.get? b = some o → h₃.get? b = some o := fun b o hbC hbI hbD hbL e => hk₃ b o hbL (k₂ b o hbC hbI hbD hbL e)
  have hNx₃ : Nx (i + 1) h₃ := W.frame _ _ _ hNx₂ fun b hb o e => hk₃ b o (fun q => hLf (q ▸ hb)) e
  have hacc₃ : LL h₃ D (log.map (·.y)) := hacc₂.at fun o e => hk₃ D o (Ne.symm hLD) e
  have hn₃ : h₃.IsCell c (some v) := cell_at hn₂ fun o e => hk₃ _ o (Ne.symm hLC) e
  have hlog₃ : LogOk G s.toks (fun b => b ≠ c ∧ b ≠ I ∧ b ≠ D ∧ b ≠ L ∧ s.heap.get? b = none) h₃ tk log := hlog₂.mono (Nat.le_refl _) fun b o fb e => hk₃ b o fb.2.2.2.1 e
  by_cases hpz : pz i = true
  · rw [if_pos hpz]
    refine wpAny_mono (wpAny_toks (elts i v tk tk₁ h₃ tk₃ hlt hpz hP (Nat.le_trans ht₂ ht₃) htk hn₃ k₃ F₃)) (fun y s₄ h₄ => ?_) fun _ _ x => x.2.elim
    obtain ⟨ht₄, ⟨h₄, tk₄, rfl, hk₄, F₄⟩, as, hG, has⟩ := h₄
    replace ht₄ : tk₃ ≤ tk₄ := ht₄
    replace hk₄ : ∀ b o, b ≠ L → h₃.get? b = some o → h₄.get? b = some o := hk₄
    have hlen : (log.map (·.y)).length < 2 ^ 20 := by
      have e := congrArg List.length hidx
      simp only [List.length_map] at e ⊢
      have e2 : ((List.range i).filter pz).length ≤ i := by
        have := List.length_filter_le pz (List.range i)
        simpa using this
      omega
    refine append_LL (hacc₃.at fun o e => hk₄ D o (Ne.symm hLD) e) hlen fun h₅ l₅ k₅ => ?_
    have hk₅ : ∀ b o, b ≠ D → b ≠ L → h₃.get? b = some o → h₅.get? b = some o := fun b o hb hbL e => k₅ b o (hk₄ b o hbL e) (by simpa using hb)
    have F₅ : Fr g L h₅ mL := frB F₄ hgD hLD fun b o hb e => k₅ b o e (by simpa using hb)
    refine ⟨n + 1 - (i + 1), by omega, h₅, tk₄, some v, log ++ [⟨i, y, as, tk, tk₄⟩], i + 1, rfl, ?_, ?_, ?_, ?_, ?_, by omega, rfl, by omega, F₅, ?_⟩
    · exact W.frame _ _ _ hNx₃ fun b hb o e => hk₅ b o (fun q => hDf (q ▸ hb)) (fun q => hLf (q ▸ hb)) e
    · simpa using l₅
    · exact cell_at hn₃ fun o e => hk₅ _ o (Ne.symm hDC) (Ne.symm hLC) e
    · rw [range_filter_succ, List.map_append, hidx, if_pos hpz]; rfl
    · refine (hlog₃.mono (Nat.le_refl _) fun b o fb e => hk₅ b o fb.2.2.1 fb.2.2.2.1 e).snoc (Nat.le_refl _) htk (Nat.le_refl _) (show tk ≤ tk₄ by omega) (hG tk₄ (Nat.le_refl _)) fun q hq => ?_
      obtain ⟨q1, q2⟩ := has q hq
      have hqD : q.1 ≠ D := fun e => by obtain ⟨_, e2⟩ := hacc₃; rw [e, e2] at q1; cases q1
      have hqL : q.1 ≠ L := fun e => by obtain ⟨_, _, _, e2, _⟩ := F₃.ns; rw [e, e2] at q1; cases q1
      refine ⟨k₅ _ _ q2 (by simpa using hqD), fun e => ?_, fun e => ?_, hqD, hqL, ?_⟩
      · obtain ⟨_, e2, _⟩ := hn₃; rw [e, e2] at q1; cases q1
      · obtain ⟨o, e2, _⟩ := hit _ _ hNx₃; rw [e, e2] at q1; cases q1
      · cases e : s.heap.get? q.1 with
        | none => rfl
        | some o =>
          have hqC : q.1 ≠ c := fun e => by obtain ⟨_, e2, _⟩ := hn₃; rw [e, e2] at q1; cases q1
          have hqI : q.1 ≠ I := fun e => by obtain ⟨o, e2, _⟩ := hit _ _ hNx₃; rw [e, e2] at q1; cases q1
          rw [k₃ _ _ hqC hqI hqD hqL e] at q1; cases q1
    · exact fun b o hbC hbI hbD hbL e => hk₅ b o hbD hbL (k₃ b o hbC hbI hbD hbL e)
  · rw [if_neg hpz]
    exact ⟨n + 1 - (i + 1), by omega, h₃, tk₃, some v, log, i + 1, rfl, hNx₃, hacc₃, hn₃, by rw [range_filter_succ, hidx, if_neg hpz, List.append_nil], hlog₃.mono (by omega) (fun _ _ _ e => e), by omega, rfl, by omega, F₃, k₃⟩
end
section
variable {prog : Program} {w : World} {A : Around} {E : Value → Shared → Prop} {s : Shared} {env : Env} {g : Heap} {L : Addr} {mL : Str → Option Value}
theorem comp_block3 {elt target iter : PySem.Expr} {ifs : List PySem.Expr} {scope : Scope} {cl : List (Str × Addr)} {pos : Pos} {I : Addr} {fp wr : List Addr} {n : Nat} {P : Nat → Value → Nat → Nat → Prop} {Nx : Nat → Heap → Prop} {Q : Value → Shared → Prop} {x : Str}
    (W : MWalk prog w A I fp wr n P Nx) (hn20 : n < 2 ^ 20) (pz : Nat → Bool) (G : Gr)
    (hcells : ∀ k, cellsFrom k scope.names cl = (x, k) :: cl) (hpush : ∀ h : Heap, pushCells h scope.names = h.push { cls := .type "cell", data := .cell none })
    (hIf : I ∈ fp) (hIw : I ∈ wr) (hwrI : ∀ b ∈ wr, b = I) (hit : ∀ i h, Nx i h → ∃ o, h.get? I = some o ∧ (o.cls = .type "list_iterator" ∨ o.cls = .type "range_iterator"))
    (F0 : Fr g L s.heap mL) (hLI : L ≠ I) (hgI : g.get? I = none) (hLf : L ∉ fp) (hst : Nx 0 s.heap) (hfp : ∀ b ∈ fp, b < s.heap.objs.size)
    (hbind : ∀ C c (s' : Shared) i v lo hi, i < n → P i v lo hi → BindsCell prog w A target I (compEnvC scope ((x, c) :: cl) C env) c s' v)
    (tests : ∀ C c i v lo hi h3 tk3, s.heap.objs.size ≤ c → i < n → P i v lo hi → hi ≤ tk3 → s.toks ≤ lo → h3.IsCell c (some v) → (∀ b o, b ≠ I → b ≠ L → s.heap.get? b = some o → h3.get? b = some o) → Fr g L h3 mL →
      wpAny (model prog w) A (forIn ifs true fun c' r => if r = true then do let ok ← isTrue c' (compEnvC scope ((x, c) :: cl) C env) (eval c' (compEnvC scope ((x, c) :: cl) C env)); pure (ForInStep.yield ok) else pure (ForInStep.yield r))
        (fun ok s₄ => ok = pz i ∧ KeepsL g L mL { s with heap := h3, toks := tk3 } s₄) (fun _ _ => False) { s with heap := h3, toks := tk3 })
    (elts : ∀ C c i v lo hi h3 tk3, s.heap.objs.size ≤ c → i < n → pz i = true → P i v lo hi → hi ≤ tk3 → s.toks ≤ lo → h3.IsCell c (some v) → (∀ b o, b ≠ I → b ≠ L → s.heap.get? b = some o → h3.get? b = some o) → Fr g L h3 mL →
      wpAny (model prog w) A (eval elt (compEnvC scope ((x, c) :: cl) C env)) (fun y s₄ => KeepsL g L mL { s with heap := h3, toks := tk3 } s₄ ∧ ∃ as, (∀ hh, s₄.toks ≤ hh → G i y as lo hh) ∧ ∀ q ∈ as, h3.get? q.1 = none ∧ s₄.heap.get? q.1 = some q.2) (fun _ _ => False) { s with heap := h3, toks := tk3 })
    (done : ∀ D h' tk log, s.heap.objs.size ≤ D → LL h' D (log.map (·.y)) → log.map (·.i) = (List.range n).filter pz → LogOk G s.toks (fun b => b ≠ D ∧ b ≠ L ∧ s.heap.get? b = none) h' tk log →
      (∀ b o, b ≠ I → b ≠ L → s.heap.get? b = some o → h'.get? b = some o) → Fr g L h' mL → s.toks ≤ tk → Q (.ref D) { s with heap := h', toks := tk }) :
    wpAny (model prog w) A (newList []) (fun acc s₃ => wpAny (model prog w) A (newFunctionEnv scope env.globals cl [] env.qual none .none (some env)) (fun cenv s₄ =>
      codeAny (model prog w) A (.compStart (.ListComp elt [⟨target, iter, ifs, 0⟩] scope pos) 0 (.ref I) acc { cenv with scope := relabel scope env }) (compPost (model prog w) A E none Q acc cenv.locals) s₄) E s₃) E s := by
  refine wpAny_newObj_type ?_
  simp only [newFunctionEnv, Option.isSome_some, if_true]
  refine wpAny_bind (wpAny_alloc ?_)
  refine wpAny_bind (wpAny_layCells _ (fun name kind cells => by cases hkc : kind == NameKind.cell <;> simp [hkc]) _ _ _ _ ?_)
  rw [hcells, hpush]
  refine wpAny_bind (wpAny_pure (wpAny_pure ?_))
  dsimp only
  generalize hH2 : s.heap.push { cls := .type "list", dict := none, data := .seq ([] : List Value).toArray } = H2
  have hC : H2.objs.size = s.heap.objs.size + 1 := by rw [← hH2, Heap.size_push]
  generalize hH3 : H2.push { cls := .type "dict", data := .dict #[] } = H3
  have hc : H3.objs.size = s.heap.objs.size + 1 + 1 := by rw [← hH3, Heap.size_push, hC]
  generalize hH4 : H3.push { cls := .type "cell", data := .cell none } = H4
  have hCc : H2.objs.size ≠ H3.objs.size := by omega
  have hDC : s.heap.objs.size ≠ H2.objs.size := by omega
  have hDc : s.heap.objs.size ≠ H3.objs.size := by omega
  have hCle : s.heap.objs.size ≤ H2.objs.size := by omega
  have hcle : s.heap.objs.size ≤ H3.objs.size := by omega
  have below : ∀ b, b < s.heap.objs.size → b ≠ H2.objs.size ∧ b ≠ H3.objs.size ∧ b ≠ s.heap.objs.size := fun b hb => ⟨Nat.ne_of_lt (Nat.lt_of_lt_of_le hb hCle), Nat.ne_of_lt (Nat.lt_of_lt_of_le hb hcle), Nat.ne_of_lt hb⟩
  have hDf : s.heap.objs.size ∉ fp := fun hm => Nat.lt_irrefl _ (hfp _ hm)
  have hcf : H3.objs.size ∉ fp := fun hm => Nat.lt_irrefl _ (Nat.lt_of_lt_of_le (hfp _ hm) hcle)
  have hCf : H2.objs.size ∉ fp := fun hm => Nat.lt_irrefl _ (Nat.lt_of_lt_of_le (hfp _ hm) hCle)
  have old : ∀ b o, s.heap.get? b = some o → H4.get? b = some o := fun b o e => hH4 ▸ Heap.get?_push_of_some _ (hH3 ▸ Heap.get?_push_of_some _ (hH2 ▸ Heap.get?_push_of_some _ e))
  have hacc : LL H4 s.heap.objs.size [] := ⟨_, hH4 ▸ Heap.get?_push_of_some _ (hH3 ▸ Heap.get?_push_of_some _ (hH2 ▸ Heap.get?_push_size _ rfl))⟩
  have hns : H4.Ns H2.objs.size (fun _ => none) := hH4 ▸ ((hH3 ▸ Heap.Ns.new H2 (.type "dict")).keeps (fun b o e => Heap.get?_push_of_some _ e))
  have hcl : H4.IsCell H3.objs.size none := ⟨_, hH4 ▸ Heap.get?_push_size _ rfl, rfl⟩
  have hst₁ : Nx 0 H4 := W.frame _ _ _ hst fun b _ o e => old b o e
  have up : ∀ {h3 : Heap}, (∀ b o, b ≠ H3.objs.size → b ≠ I → b ≠ s.heap.objs.size → b ≠ L → H4.get? b = some o → h3.get? b = some o) → ∀ b o, b ≠ I → b ≠ L → s.heap.get? b = some o → h3.get? b = some o := fun hk b o hbI hbL e =>
    hk b o (below b (Heap.lt_size e)).2.1 hbI (below b (Heap.lt_size e)).2.2 hbL (old b o e)
  have hLs : L < s.heap.objs.size := F0.ns.lt
  have F1 : Fr g L H4 mL := F0.keeps old
  have hgs := (size_none F0 (Nat.le_refl _)).1
  have hgC := (size_none F0 hCle).1
  have hgc := (size_none F0 hcle).1
  have hIC : H2.objs.size ≠ I := fun q => hCf (q ▸ hIf)
  have loop : ∀ s₃ : Shared, s₃ = { s with heap := H4, toks := s.toks } →
      codeAny (model prog w) A (.compLoop (.ListComp elt [⟨target, iter, ifs, 0⟩] scope pos) 0 (.ref I) (.ref s.heap.objs.size) (compEnvC scope ((x, H3.objs.size) :: cl) H2.objs.size env))
        (compPost (model prog w) A E none Q (.ref s.heap.objs.size) H2.objs.size) s₃ := by
    rintro s₃ rfl
    refine comp_core3 (g := g) (L := L) (mL := mL) (c := H3.objs.size) (cenv := compEnvC scope ((x, H3.objs.size) :: cl) H2.objs.size env) W hn20 pz G hIf hIw hwrI hDc hDf hcf hit F1 (below L hLs).2.1 hLI (below L hLs).2.2 hgc hgI hgs hLf hst₁ hacc hcl
      (fun s' i v lo hi hin hP => hbind _ _ s' i v lo hi hin hP)
      (fun i v lo hi h3 tk3 hin hP h1 h2 hn hk F3 => tests _ _ i v lo hi h3 tk3 hcle hin hP h1 h2 hn (up hk) F3)
      (fun i v lo hi h3 tk3 hin hz hP h1 h2 hn hk F3 => elts _ _ i v lo hi h3 tk3 hcle hin hz hP h1 h2 hn (up hk) F3) fun h' tk v' log hn hD hidx hlog hk F3 htk => ?_
    refine ⟨_, hns.at fun o e => hk _ o hCc hIC (Ne.symm hDC) (Ne.symm (below L hLs).1) e, fun h'' hs'' => ?_⟩
    have hsC : ∀ b o, b ≠ H2.objs.size → h'.get? b = some o → h''.get? b = some o := fun b o hb e => hs''.extBut b o hb e
    refine done _ h'' tk log (Nat.le_refl _) (hD.at fun o e => hsC _ o hDC e) hidx ?_ (fun b o hbI hbL e => hsC b o (below b (Heap.lt_size e)).1 (up hk b o hbI hbL e)) (frB F3 hgC (below L hLs).1 hsC) htk
    refine ⟨fun e he => ?_, hlog.2⟩
    obtain ⟨a1, a2, a3, a4⟩ := hlog.1 e he
    refine ⟨a1, a2, a3, fun q hq => ⟨hsC _ _ ?_ (a4 q hq).1, (a4 q hq).2.2.2.1, (a4 q hq).2.2.2.2.1, ?_⟩⟩
    · intro qe
      have := (a4 q hq).2.2.2.2.2
      obtain ⟨oc, _, _, ec, _⟩ := hns
      rw [qe, ec] at this
      cases this
    · cases e : s.heap.get? q.1 with
      | none => rfl
      | some o => have := (a4 q hq).2.2.2.2.2; rw [old _ _ e] at this; cases this
  exact codeAny_compStart_list (loop _ rfl) (W.self 0 _ _ _ hst₁ (loop _ rfl))

/-- what a comprehension over a cell's name is asked -/
def CompAsk3 (prog : Program) (w : World) (A : Around) (env : Env) (scope : Scope) (cl : List (Str × Addr)) (x : Str) (g : Heap) (L : Addr) (m : Str → Option Value) (news : List (Addr × Obj)) (ifs : List PySem.Expr) (elt : PySem.Expr) (n : Nat)
    (Pv : Nat → Value → Nat → Prop) (pz : Nat → Bool) (G : Gr) (s₁ : Shared) : Prop :=
  ∀ (C c : Addr) i v h3 tk3 oc R, i < n → Pv i v tk3 → s₁.toks ≤ tk3 → oc.data = .cell (some v) → RestOk g L h3 R → Fr g L h3 m → News g L h3 ((c, oc) :: (news ++ R)) →
    wpAny (model prog w) A (forIn ifs true fun c' r => if r = true then do let ok ← isTrue c' (compEnvC scope ((x, c) :: cl) C env) (eval c' (compEnvC scope ((x, c) :: cl) C env)); pure (ForInStep.yield ok) else pure (ForInStep.yield r))
        (TestIs2 g L m (pz i) { s₁ with heap := h3, toks := tk3 }) (fun _ _ => False) { s₁ with heap := h3, toks := tk3 } ∧
    (pz i = true → wpAny (model prog w) A (eval elt (compEnvC scope ((x, c) :: cl) C env)) (EltIs2 g L m G i s₁.toks { s₁ with heap := h3, toks := tk3 }) (fun _ _ => False) { s₁ with heap := h3, toks := tk3 })
theorem ask3 {scope : Scope} {cl : List (Str × Addr)} {x : Str} {ifs : List PySem.Expr} {elt : PySem.Expr} {n : Nat} {Pv : Nat → Value → Nat → Prop} {pz : Nat → Bool} {G : Gr} {s₁ : Shared} {m : Str → Option Value} {news : List (Addr × Obj)}
    (a : CompAsk3 prog w A env scope cl x g L m news ifs elt n Pv pz G s₁) {C c : Addr} {i : Nat} {v : Value} {h3 : Heap} {tk3 : Nat} (hc : c ≠ L) (hgc : g.get? c = none) (hi : i < n) (hP : Pv i v tk3) (ht : s₁.toks ≤ tk3) (hn : h3.IsCell c (some v)) (F3 : Fr g L h3 m) (N3 : News g L h3 news) :
    wpAny (model prog w) A (forIn ifs true fun c' r => if r = true then do let ok ← isTrue c' (compEnvC scope ((x, c) :: cl) C env) (eval c' (compEnvC scope ((x, c) :: cl) C env)); pure (ForInStep.yield ok) else pure (ForInStep.yield r))
        (TestIs2 g L m (pz i) { s₁ with heap := h3, toks := tk3 }) (fun _ _ => False) { s₁ with heap := h3, toks := tk3 } ∧
    (pz i = true → wpAny (model prog w) A (eval elt (compEnvC scope ((x, c) :: cl) C env)) (EltIs2 g L m G i s₁.toks { s₁ with heap := h3, toks := tk3 }) (fun _ _ => False) { s₁ with heap := h3, toks := tk3 }) := by
  obtain ⟨R, hR, NR⟩ := rest_of F3
  obtain ⟨o, ho, hd⟩ := hn
  refine a C c i v h3 tk3 o R hi hP ht hd hR F3 fun p hp => ?_
  rcases List.mem_cons.mp hp with rfl | hp
  · exact ⟨ho, hc, hgc⟩
  rcases List.mem_append.mp hp with hp | hp
  · exact N3 p hp
  · exact NR p hp
def ListSrc3 (prog : Program) (w : World) (A : Around) (env : Env) (scope : Scope) (cl : List (Str × Addr)) (x : Str) (ifs : List PySem.Expr) (elt : PySem.Expr) (g : Heap) (L : Addr) (pz : Nat → Bool) (G : Gr) (Q : Value → Shared → Prop) (xv : Value) (s₁ : Shared) : Prop :=
  ∃ (ax : Addr) (vs : List Value) (m : Str → Option Value) (news : List (Addr × Obj)), xv = .ref ax ∧ s₁.heap.IsList ax vs.toArray ∧ vs.length < 2 ^ 20 ∧ Fr g L s₁.heap m ∧ News g L s₁.heap news ∧
      CompAsk3 prog w A env scope cl x g L m news ifs elt vs.length (fun i v _ => vs[i]? = some v) pz G s₁ ∧
      CompEnd2 g L m news vs.length pz G Q s₁
theorem ListSrc3.intro {scope : Scope} {cl : List (Str × Addr)} {x : Str} {ifs : List PySem.Expr} {elt : PySem.Expr} {pz : Nat → Bool} {G : Gr} {Q : Value → Shared → Prop} {ax : Addr} {s₁ : Shared} {m : Str → Option Value} {news : List (Addr × Obj)} (vs : List Value)
    (F : Fr g L s₁.heap m) (N : News g L s₁.heap news) (hl : LL s₁.heap ax vs) (hn : vs.length < 2 ^ 20)
    (ask : CompAsk3 prog w A env scope cl x g L m news ifs elt vs.length (fun i v _ => vs[i]? = some v) pz G s₁)
    (fin : CompEnd2 g L m news vs.length pz G Q s₁) : ListSrc3 prog w A env scope cl x ifs elt g L pz G Q (.ref ax) s₁ :=
  ⟨ax, vs, m, news, rfl, hl.isList, hn, F, N, ask, fin⟩
theorem comp_list3 {elt iter : PySem.Expr} {x : Str} {px : Pos} {ifs : List PySem.Expr} {scope : Scope} {cl : List (Str × Addr)} {pos : Pos} {Q : Value → Shared → Prop} (pz : Nat → Bool) (G : Gr)
    (hh : A.handled = none) (hclos : closureFor scope env = pure cl) (hcells : ∀ k, cellsFrom k scope.names cl = (x, k) :: cl) (hpush : ∀ h : Heap, pushCells h scope.names = h.push { cls := .type "cell", data := .cell none }) (hxk : ∀ C c, (compEnvC scope ((x, c) :: cl) C env).kindOf x = some .cell) (hkind : scope.kind = .function) (hnames : ∀ y ∈ scope.names, y.2 = .local → scope.names.lookup y.1 = some .local)
    (h : wpAny (model prog w) A (eval iter env) (ListSrc3 prog w A env scope cl x ifs elt g L pz G Q) E s)
    (hs : ∀ x, foldedSetIterable iter env x = pure x := by intro _; rfl) :
    wpAny (model prog w) A (eval (.ListComp elt [⟨.Name x px, iter, ifs, 0⟩] scope pos) env) Q E s := by
  rw [eval_ListComp]
  refine wpAny_comprehension_free (use := none) rfl hs hclos hkind hnames (wpAny_mono h (fun xv s₁ h₁ => ?_) fun _ _ e => e)
  refine exE4 h₁ fun ax vs m news jj => andE7 jj fun ez4 hl hn20 F N hask hend => ?_
  clear jj
  clear h₁
  subst ez4
  obtain ⟨ol, hol, _⟩ := id hl
  have hax : ax < s₁.heap.objs.size := Heap.lt_size hol
  refine wpAny_pyIter_list hl ?_
  generalize hH1 : s₁.heap.push { cls := .type "list_iterator", data := .fields #[.ref ax, .int 0 0] } = H1
  have hz : H1.objs.size = s₁.heap.objs.size + 1 := by rw [← hH1, Heap.size_push]
  have hzz := hz
  have k₁ : Kp s₁.heap H1 := fun b o e => hH1 ▸ Heap.get?_push_of_some _ e
  have hI : H1.get? s₁.heap.objs.size = some { cls := .type "list_iterator", data := .fields #[.ref ax, .int 0 0] } := hH1 ▸ Heap.get?_push_size _ rfl
  have up : ∀ {h3 : Heap}, (∀ b o, b ≠ s₁.heap.objs.size → b ≠ L → H1.get? b = some o → h3.get? b = some o) → ∀ b o, b ≠ L → s₁.heap.get? b = some o → h3.get? b = some o := fun hk b o hbL e => hk b o (Nat.ne_of_lt (Heap.lt_size e)) hbL (k₁ b o e)
  have F1 : Fr g L H1 m := F.keeps k₁
  have hLs : L < s₁.heap.objs.size := F.ns.lt
  have hLI : L ≠ s₁.heap.objs.size := Nat.ne_of_lt hLs
  have hgI := (size_none F (Nat.le_refl _)).1
  have Nup : ∀ {h3 : Heap}, (∀ b o, b ≠ L → s₁.heap.get? b = some o → h3.get? b = some o) → News g L h3 news := fun hk p hp => ⟨hk _ _ (N p hp).2.1 (N p hp).1, (N p hp).2⟩
  have hCL : ∀ {C : Addr}, H1.objs.size ≤ C → C ≠ L ∧ s₁.heap.get? C = none := fun hC => ⟨(size_none F (by omega)).2, ge_none (by omega)⟩
  refine comp_block3 (g := g) (L := L) (mL := m) (W := mwalk_list hh s₁.heap.objs.size ax (Nat.ne_of_lt hax) vs) hn20 pz G hcells hpush (by simp) (by simp) (by simp) (fun i h st => ?_) F1 hLI hgI ?Lf ⟨⟨_, hI, rfl, rfl⟩, hl.at fun o e => k₁ _ _ e⟩ ?_ ?_ ?_ ?_ ?_
  case Lf =>
    refine fun hm => ?_
    rcases List.mem_cons.mp hm with q | hm
    · exact hLI q
    · have hLax : L = ax := List.mem_singleton.mp hm
      obtain ⟨oL, es, ep, e1, e2, _⟩ := F.ns
      obtain ⟨o', e3, _, n, e4⟩ := hl
      rw [hLax, e3] at e1
      cases e1
      rw [e4] at e2
      cases e2
  · obtain ⟨o, e, hc, _⟩ := st.1
    exact ⟨o, e, .inl hc⟩
  · intro b hb
    show b < H1.objs.size
    rw [hz]
    rcases List.mem_cons.mp hb with rfl | hb
    · exact Nat.lt_succ_self _
    · rw [List.mem_singleton.mp hb]; exact Nat.lt_succ_of_lt hax
  · intro C c s' i v lo hi hin hP
    exact binds_cell hkind (hxk C c) (by simp [compEnvC])
  · intro C c i v lo hi h3 tk3 hC hin hP h1 h2 hn hk F3
    have k3 := up hk
    exact (ask3 hask (hCL hC).1 (size_none F (Nat.le_trans (by rw [hzz]; exact Nat.le_succ _ : s₁.heap.objs.size ≤ H1.objs.size) hC)).1 hin hP.1 (Nat.le_trans h2 (Nat.le_trans hP.2 h1)) hn F3 (Nup k3)).1
  · intro C c i v lo hi h3 tk3 hC hin hz hP h1 h2 hn hk F3
    have k3 := up hk
    refine wpAny_mono ((ask3 hask (hCL hC).1 (size_none F (Nat.le_trans (by rw [hzz]; exact Nat.le_succ _ : s₁.heap.objs.size ≤ H1.objs.size) hC)).1 hin hP.1 (Nat.le_trans h2 (Nat.le_trans hP.2 h1)) hn F3 (Nup k3)).2 hz) (fun y s₄ h₄ => ?_) fun _ _ e => e
    obtain ⟨q1, as, q2, q3⟩ := h₄
    exact ⟨q1, as, fun hh' hle => q2 lo hh' h2 (Nat.le_trans hP.2 h1) hle, q3⟩
  · intro D h' tk log hD hl' hidx hlog hk F3 htk
    have k3 := up hk
    refine hend D h' tk log (hCL hD).2 (size_none F (show s₁.heap.objs.size ≤ D from Nat.le_trans (by rw [hz]; exact Nat.le_succ _) hD)).1 (hCL hD).1 hl' hidx ⟨fun e he => ?_, hlog.2⟩ k3 F3 (Nup k3) htk
    obtain ⟨a1, a2, a3, a4⟩ := hlog.1 e he
    refine ⟨a1, a2, a3, fun q hq => ⟨(a4 q hq).1, (a4 q hq).2.1, (a4 q hq).2.2.1, ?_⟩⟩
    cases e : s₁.heap.get? q.1 with
    | none => rfl
    | some o => have := (a4 q hq).2.2.2; rw [k₁ _ _ e] at this; cases this

end
theorem ts_log {f : Nat → Str} : ∀ {log : List LogE}, (∀ e ∈ log, ∃ t, e.y = Value.str (f e.i) t) → TsAre (log.map (·.y)) ((log.map (·.i)).map f)
  | [], _ => .nil
  | e :: log, h => by
    obtain ⟨t, ht⟩ := h e (.head _)
    simp only [List.map_cons, ht]
    exact .cons _ _ (ts_log fun e he => h e (.tail _ he))
theorem came_row {rs : List Row} {n : Nat} {f : Nat → Nat × Nat} (e : rs.map Row.ab = (List.range n).map f) (i : Nat) :
    ((rs.filter fun r => r.c % 3 == i).map fun r => sg r.d) = (((List.range n).filter fun j => (f j).1 % 3 == i).map fun j => sg (f j).2) := by
  have h1 : ((rs.filter fun r => r.c % 3 == i).map fun r => sg r.d) = ((rs.map Row.ab).filter fun q => q.1 % 3 == i).map fun q => sg q.2 := by
    rw [List.filter_map, List.map_map]; rfl
  rw [h1, e, List.filter_map, List.map_map]; rfl
section
variable {prog : Program} {w : World} {A : Around} {E : Value → Shared → Prop} {s : Shared} {g : Heap} {L a b : Addr} {news : List (Addr × Obj)} {Q : Value → Shared → Prop} {a0 a1 a2 b0 b1 b2 : Addr} {na nb : Nat} {x0 x1 x2 y0 y1 y2 : List Value} {s0 s1 s2 t0 t1 t2 : List Str}
theorem my_tss_shaped (h0 : ∀ x ∈ s0, PyData.strOk x = true) (h1 : ∀ x ∈ s1, PyData.strOk x = true) (h2 : ∀ x ∈ s2, PyData.strOk x = true) : SeqAt.shaped (.list [.list (s0.map PyData.str), .list (s1.map PyData.str), .list (s2.map PyData.str)]) = true := by
  simp [SeqAt.shaped, PyData.canLay0, PyData.canLayAll0, PyData.depth, PyData.depthAll, my_ts_canLayAll0 s0 h0, my_ts_canLayAll0 s1 h1, my_ts_canLayAll0 s2 h2, my_ts_depthAll]
theorem my_ne_tss (N : News g L s.heap news) (ma : (a, listOf #[.ref a0, .ref a1, .ref a2] na) ∈ news) (mb : (b, listOf #[.ref b0, .ref b1, .ref b2] nb) ∈ news)
    (i0 : s.heap.IsList a0 x0.toArray) (i1 : s.heap.IsList a1 x1.toArray) (i2 : s.heap.IsList a2 x2.toArray) (j0 : s.heap.IsList b0 y0.toArray) (j1 : s.heap.IsList b1 y1.toArray) (j2 : s.heap.IsList b2 y2.toArray)
    (p0 : TsAre x0 s0) (p1 : TsAre x1 s1) (p2 : TsAre x2 s2) (q0 : TsAre y0 t0) (q1 : TsAre y1 t1) (q2 : TsAre y2 t2)
    (o0 : ∀ x ∈ s0, PyData.strOk x = true) (o1 : ∀ x ∈ s1, PyData.strOk x = true) (o2 : ∀ x ∈ s2, PyData.strOk x = true) (e0 : s0 = t0) (e1 : s1 = t1) (e2 : s2 = t2)
    (hu : A.units + 64 < cLine) (h : Q (.bool false) s) : wpAny (model prog w) A (compareOp .NotEq (.ref a) (.ref b)) Q E s := by
  subst e0 e1 e2
  have ra := reads_list_at (N.get ma) rfl rfl (ReadsAll.cons (reads_newData i0 p0.carried) (ReadsAll.cons (reads_newData i1 p1.carried) (ReadsAll.cons (reads_newData i2 p2.carried) ReadsAll.nil)))
  have rb := reads_list_at (N.get mb) rfl rfl (ReadsAll.cons (reads_newData j0 q0.carried) (ReadsAll.cons (reads_newData j1 q1.carried) (ReadsAll.cons (reads_newData j2 q2.carried) ReadsAll.nil)))
  refine ne_dataH ra rb (my_tss_shaped o0 o1 o2) (my_tss_shaped o0 o1 o2) hu ?_
  have : (PyData.list [.list (s0.map PyData.str), .list (s1.map PyData.str), .list (s2.map PyData.str)]).eqv (.list [.list (s0.map PyData.str), .list (s1.map PyData.str), .list (s2.map PyData.str)]) = true := by
    simp [PyData.eqv, PyData.eqvAll, my_ts_eqvAll]
  rw [this]
  exact h
end
theorem IL.rev {ns : List Nat} {vs : List Value} (x : IL ns vs) : IL ns.reverse vs.reverse := by
  obtain ⟨ps, rfl, rfl⟩ := x.pairs
  rw [← List.map_reverse, ← List.map_reverse]
  exact IL.of_map
theorem offC_lt {L D : Addr} {o1 o2 o3 o4 o5 o6 o7 o8 o9 o10 o11 o12 o : Obj} {TL : List (Addr × Obj)} (h : ∀ p ∈ ((L + 1 + 1 + 1 + 1 + 1 + 1 + 1 + 1 + 1 + 1 + 1 + 1, o12) :: (L + 1 + 1 + 1 + 1 + 1 + 1 + 1 + 1 + 1 + 1 + 1, o11) :: (L + 1 + 1 + 1 + 1 + 1 + 1 + 1 + 1 + 1 + 1, o10) :: (L + 1 + 1 + 1 + 1 + 1 + 1 + 1 + 1 + 1, o9) :: (L + 1 + 1 + 1 + 1 + 1 + 1 + 1 + 1, o8) :: (L + 1 + 1 + 1 + 1 + 1 + 1 + 1, o7) :: (L + 1 + 1 + 1 + 1 + 1 + 1, o6) :: (L + 1 + 1 + 1 + 1 + 1, o5) :: (L + 1 + 1 + 1 + 1, o4) :: (L + 1 + 1 + 1, o3) :: (L + 1 + 1, o2) :: (L + 1, o1) :: TL), p.1 < D) : OffC L [(D, o)] := fun q hq => by
  rw [List.mem_singleton.mp hq]
  exact ⟨Nat.ne_of_gt (h (L + 1, o1) (.tail _ (.tail _ (.tail _ (.tail _ (.tail _ (.tail _ (.tail _ (.tail _ (.tail _ (.tail _ (.tail _ (.head _))))))))))))), Nat.ne_of_gt (h (L + 1 + 1, o2) (.tail _ (.tail _ (.tail _ (.tail _ (.tail _ (.tail _ (.tail _ (.tail _ (.tail _ (.tail _ (.head _)))))))))))), Nat.ne_of_gt (h (L + 1 + 1 + 1, o3) (.tail _ (.tail _ (.tail _ (.tail _ (.tail _ (.tail _ (.tail _ (.tail _ (.tail _ (.head _))))))))))), Nat.ne_of_gt (h (L + 1 + 1 + 1 + 1, o4) (.tail _ (.tail _ (.tail _ (.tail _ (.tail _ (.tail _ (.tail _ (.tail _ (.head _)))))))))), Nat.ne_of_gt (h (L + 1 + 1 + 1 + 1 + 1, o5) (.tail _ (.tail _ (.tail _ (.tail _ (.tail _ (.tail _ (.tail _ (.head _))))))))), Nat.ne_of_gt (h (L + 1 + 1 + 1 + 1 + 1 + 1, o6) (.tail _ (.tail _ (.tail _ (.tail _ (.tail _ (.tail _ (.head _)))))))), Nat.ne_of_gt (h (L + 1 + 1 + 1 + 1 + 1 + 1 + 1, o7) (.tail _ (.tail _ (.tail _ (.tail _ (.tail _ (.head _))))))), Nat.ne_of_gt (h (L + 1 + 1 + 1 + 1 + 1 + 1 + 1 + 1, o8) (.tail _ (.tail _ (.tail _ (.tail _ (.head _)))))), Nat.ne_of_gt (h (L + 1 + 1 + 1 + 1 + 1 + 1 + 1 + 1 + 1, o9) (.tail _ (.tail _ (.tail _ (.head _))))), Nat.ne_of_gt (h (L + 1 + 1 + 1 + 1 + 1 + 1 + 1 + 1 + 1 + 1, o10) (.tail _ (.tail _ (.head _)))), Nat.ne_of_gt (h (L + 1 + 1 + 1 + 1 + 1 + 1 + 1 + 1 + 1 + 1 + 1, o11) (.tail _ (.head _))), Nat.ne_of_gt (h (L + 1 + 1 + 1 + 1 + 1 + 1 + 1 + 1 + 1 + 1 + 1 + 1, o12) (.head _))⟩
theorem maxN_of' {xs : List Nat} {M : Int} (hm : M ∈ xs.map (fun n : Nat => (n : Int))) (hle : ∀ a ∈ xs.map (fun n : Nat => (n : Int)), a ≤ M) : M = (maxN xs : Nat) := by
  refine maxN_of (List.mem_cons_of_mem _ hm) fun a ha => ?_
  rcases List.mem_cons.mp ha with rfl | ha
  · obtain ⟨n, _, rfl⟩ := List.mem_map.mp hm
    exact Int.natCast_nonneg n
  · exact hle a ha
theorem fallsF_pos (ss : List Nat) : ∀ n k, k < n → 1 ≤ (fallsF ss n).getD k 0
  | 0, _, h => absurd h (Nat.not_lt_zero _)
  | n + 1, k, h => by
    unfold fallsF
    rw [List.getD_eq_getElem?_getD]
    by_cases hk : k < n
    · rw [List.getElem?_append_left (by rw [fallsF_len]; exact hk), ← List.getD_eq_getElem?_getD]
      exact fallsF_pos ss n k hk
    · have : k = n := by omega
      subst this
      rw [List.getElem?_append_right (by rw [fallsF_len]; exact Nat.le_refl _), fallsF_len]
      simp
end Mine
end

/-! L21 -/
section
open PySem PySem.W PySem.Calls PySem.Spec PyProof.Rows PyProof.V
set_option Elab.async false
set_option autoImplicit false
set_option maxRecDepth 100000
set_option maxHeartbeats 4000000
namespace Mine
theorem nones_lay : ∀ n : Nat, PyData.canLayAll0 (List.replicate n PyData.none) = true ∧ PyData.depthAll (List.replicate n PyData.none) = 0 ∧ PyData.eqvAll (List.replicate n PyData.none) (List.replicate n PyData.none) = true
  | 0 => ⟨rfl, rfl, rfl⟩
  | n + 1 => by
    obtain ⟨h1, h2, h3⟩ := nones_lay n
    simp only [List.replicate_succ, PyData.canLayAll0, PyData.canLay0, PyData.depthAll, PyData.depth, PyData.eqvAll, PyData.eqv, h1, h2, h3]
    exact ⟨rfl, rfl, rfl⟩
theorem nones_carried : ∀ n : Nat, CarriedAll (List.replicate n Value.none) (List.replicate n PyData.none)
  | 0 => .nil
  | n + 1 => .cons .none (nones_carried n)
section
variable {prog : Program} {w : World} {A : Around} {E : Value → Shared → Prop} {s : Shared} {a b : Addr} {Q : Value → Shared → Prop} {n : Nat}
theorem ne_nones (ha : s.heap.IsList a (List.replicate n Value.none).toArray) (hb : s.heap.IsList b (List.replicate n Value.none).toArray) (hu : A.units + 64 < cLine) (h : Q (.bool false) s) :
    wpAny (model prog w) A (compareOp .NotEq (.ref a) (.ref b)) Q E s := by
  obtain ⟨h1, h2, h3⟩ := nones_lay n
  have hs : SeqAt.shaped (.list (List.replicate n PyData.none)) = true := by
    simp only [SeqAt.shaped, PyData.canLay0, PyData.depth, h1, h2]
    rfl
  refine ne_dataH (reads_newData ha (nones_carried n)) (reads_newData hb (nones_carried n)) hs hs hu ?_
  rw [PyData.eqv, h3]
  exact h
variable {h₀ : Heap} {L l : Addr} {m : Str → Option Value} {news : List (Addr × Obj)} {u : Tok}
theorem none_mul (Fm : Fr h₀ L s.heap m) (N : News h₀ L s.heap news) {k : Nat} (hm : (l, listOf #[Value.none] k) ∈ news) (hn : n < 2 ^ 20)
    (h : ∀ D h', Fr h₀ L h' m → News h₀ L h' ((D, listOf (List.replicate n Value.none).toArray 0) :: news) → (∀ p ∈ news, p.1 < D) → Q (.ref D) { s with heap := h' }) :
    wpAny (model prog w) A (binaryOp .Mult (.ref l) (.int (n : Int) u)) Q E s := by
  have ho := (N _ hm).1
  have hT : s.TypeIs (.ref l) "list" := ⟨_, ho, rfl⟩
  have e0 : (List.foldl (fun x1 x2 => x1 ++ x2) #[] (List.replicate (if (#[Value.none] : Array Value).isEmpty = true then 0 else (n : Int).toNat) #[Value.none])) = (List.replicate n Value.none).toArray := by
    rw [listMul_foldl_if]
    simp
  refine wpAny_binaryOp_repeat_ref (T := "list") (U := "int") (by decide) hT (fun s' => typeIs_int s' _ u) noFill_list_mul F.fills_int_mul F.slot_int_rmul repeat_list F.slot_int_index.lookup
    (call_meets F.slot_int_rmul (typeIs_int s _ u) F.entry_int_rmul (F.args_int_rmul_2 _ _) (lm_int_rmul_list_any _ u l #[Value.none] k none #[]) ⟨ho, rfl, hT, ?_⟩)
  refine call_meets F.slot_list_mul hT F.entry_list_mul (F.args_list_mul_2 _ _) (lm_list_mul_any l #[Value.none] k none #[] _ u ?_ ?_ ?_) ⟨ho, ?_⟩
  · simp [Builtin.List.listFitsIndex]; omega
  · simp; omega
  · simp [Builtin.List.listTooLong, sizeLine]; omega
  · rw [e0]
    exact h _ _ (Fm.push _) (News.push Fm N _) (fun p hp => Heap.lt_size (N p hp).1)
end
theorem ts_at : ∀ {vs : List Value} {f : Nat → Str} (n : Nat), vs.length = n → (∀ i, i < n → ∃ t, vs[i]? = some (.str (f i) t)) → TsAre vs ((List.range n).map f)
  | [], _, 0, _, _ => .nil
  | [], _, n + 1, h, _ => nomatch h
  | _ :: _, _, 0, h, _ => nomatch h
  | v :: vs, f, n + 1, h, hh => by
    obtain ⟨t, e⟩ := hh 0 (Nat.succ_pos _)
    have e' : v = .str (f 0) t := by simpa using e
    subst e'
    rw [List.range_succ_eq_map, List.map_cons, List.map_map]
    exact .cons _ _ (ts_at n (Nat.succ.inj h) fun i hi => by
      obtain ⟨t', e'⟩ := hh (i + 1) (Nat.succ_lt_succ hi)
      exact ⟨t', by simpa using e'⟩)
theorem book_names {bs : List (Nat × Nat)} {f : Nat → Nat} {z : Nat × Nat} (h : bs.length = 6) (e : ∀ k, k < 6 → f k = (bs.getD k z).1) : (List.range 6).map (fun k => nm (f k)) = bs.map fun q => nm q.1 := by
  apply List.ext_getElem
  · rw [List.length_map, List.length_map, List.length_range, h]
  · intro i h1 h2
    rw [List.length_map, List.length_range] at h1
    rw [List.length_map] at h2
    rw [List.getElem_map, List.getElem_map, List.getElem_range, e i h1, List.getD_eq_getElem?_getD, List.getElem?_eq_getElem h2]
    rfl
theorem ok_nms {TL : List (Addr × Obj)} {hs bs : List (Nat × Nat)} {t : TabD} (x : TabOk TL hs bs t) : ∀ y ∈ bs.map (fun q => nm q.1), PyData.strOk y = true := fun y hy => by
  obtain ⟨q, hq, rfl⟩ := List.mem_map.mp hy
  rw [← x.ebs] at hq
  obtain ⟨r, hr, rfl⟩ := List.mem_map.mp hq
  exact nm_ok _ (x.cbs r hr).1
end Mine
end

/-! the walk -/
section
open PySem PySem.W PySem.Calls PySem.Spec PyProof.Rows
set_option Elab.async false
set_option autoImplicit false
set_option maxRecDepth 100000
set_option maxHeartbeats 8000000
namespace Mine
theorem top_off : True := by
  w_top off
  trivial
local macro_rules | `(tactic| walk_at $s:str) => `(tactic| k_extra $s)
local macro_rules | `(tactic| k_inst) => `(tactic| k_extra "own k_inst")
local macro_rules | `(tactic| k_updF) => `(tactic| k_extra "own k_updF")
section
variable {w : World} {p : Program} {loose : List Str} {mean : ExcName → Option Value} {mg mb : Str → Option Value} {dp un : Nat} {gd : Option (List Code)} {cn : Str} {cs : Scope} {a : Addr} {ccd : Value} {cl : List (Str × Addr)} {outer : List Env} {A₀ : Around} {base h₀ : Heap} {L : Addr} {m : Str → Option Value} {s : Shared} {Q E : Value → Shared → Prop}

/-! C1 -/
example : True := by
  k_with_none
  k_with "subscriptTail" => (k_here; (with_reducible show wpAny _ _ (subscriptTail _ _ (Value.ref _) (Value.int _ _)) _ _ _); (with_unfolding_all refine' my_item ?q_k1 ?q_k2 ?q_k3 ?q_k4 ?_ ?q_k6; (case q_k1 => first | assumption | ((rename GSub _ _ _ => kG9); (rename Fr _ _ _ _ => F9); refine' list_up ?q_t9 kG9 F9 (by simp); (case q_t9 => assumption))); (case q_k2 => assumption); (case q_k3 => first | rfl | assumption | omega | (simp only [Int.fdiv_eq_ediv_of_nonneg _ (by decide : (0 : Int) ≤ 2)]; omega)); (case q_k4 => first | assumption | omega); (case q_k6 => with_unfolding_all rfl); k_whole))
  k_with "call builtin:len" => (k_here; (with_reducible show wpAny _ _ (call (Value.builtin "len") [Value.ref _]) _ _ _); refine' my_len ?q_k1 ?q_k2 ?_; (case q_k1 => first | assumption | ((rename GSub _ _ _ => kG9); (rename Fr _ _ _ _ => F9); refine' list_up ?q_t9 kG9 F9 (by simp); (case q_t9 => assumption))); (case q_k2 => first | assumption | omega); intro _ _)
  k_with "subscriptTail" => (k_here; (with_reducible show wpAny _ _ (subscriptTail _ _ (Value.ref _) (Value.int _ _)) _ _ _); (with_unfolding_all refine' my_titem ?q_k1 ?q_k2 ?q_k3 ?q_k4 ?_ ?q_k6; (case q_k1 => first | assumption | ((rename GSub _ _ _ => kG9); (rename Fr _ _ _ _ => F9); refine' TT.up ?q_t9 kG9 F9 (by simp); (case q_t9 => assumption))); (case q_k2 => first | assumption | decide | omega); (case q_k3 => first | assumption | exact rfl); (case q_k4 => first | assumption | (simp only [List.length_cons, List.length_nil]; decide)); (case q_k6 => with_unfolding_all rfl); k_whole))
  trivial
theorem add_c (B : Below A₀ base outer h₀) (F : Fr h₀ L s.heap m) (X : (hd.heap_1 w.params).In h₀) (T : Top p loose mean mg mb h₀) (hk : cs.kind = .function) (hd1 : dp + 20 < recursionLimit) (hu : un + 200 < cLine)
    (x y : Int) (tx ty : Tok)
    (hret : ∀ (t : Tok) (h' : Heap) (tk' : Nat), Kp s.heap h' → Q (.int (x + y) t) { s with heap := h', toks := tk' }) :
    wpAny (model PySem.Challenge.rw_uc0025_01.row.prog w) (ktrTop dp un gd cn cs L a ccd cl outer) (call (.ref 63) [.int x tx, .int y ty]) Q E s := by
  refine wpAny_call ?_
  k_dflt (refine' enterP ?k1 ?k2 ?k3 ?k4 ?k5 ?kA ?kF ?kK ?k6 ?k7 ?k8 ?k9 ?kB ?_ ?c2 ?c3 ?c4 ?c5; (case kA => exact rfl); (case kF => exact rfl); (case kK => assumption); (case k1 => k_asm); (case k2 => k_asm); (case k3 => k_asm); (case k4 => first | assumption | exact News.nil); (case k5 => k_asm); (case k6 => k_is); (case k7 => k_is); (case k8 => ktr_room); (case k9 => first | exact BindsTo.of_eq rfl | exact binds_K (by k_in) rfl (by k_is) rfl rfl rfl | exact binds_peek (by k_in) (fun _ => rfl)); (case c5 => decide); (case kB => exact locs rfl); (case c2 => exact rfl); (case c3 => exact rfl); (case c4 => exact rfl); k_whole; intro g1 L1 h1 FG1 F0 N1 B1 X1 T1 kG1; (try dsimp only); (try k_lift B1); (try k_fold))
  k_steps
  dsimp only
  exact hret _ _ _ (by (intro b9 o9 e9; (rename GSub _ _ _ => kG9); (rename Fr _ _ _ _ => F9); exact F9.keep b9 o9 (kG9 b9 o9 e9 (by simp))))
theorem sub_c (B : Below A₀ base outer h₀) (F : Fr h₀ L s.heap m) (X : (hd.heap_1 w.params).In h₀) (T : Top p loose mean mg mb h₀) (hk : cs.kind = .function) (hd1 : dp + 20 < recursionLimit) (hu : un + 200 < cLine)
    (x y : Int) (tx ty : Tok)
    (hret : ∀ (t : Tok) (h' : Heap) (tk' : Nat), Kp s.heap h' → Q (.int (x - y) t) { s with heap := h', toks := tk' }) :
    wpAny (model PySem.Challenge.rw_uc0025_01.row.prog w) (ktrTop dp un gd cn cs L a ccd cl outer) (call (.ref 70) [.int x tx, .int y ty]) Q E s := by
  refine wpAny_call ?_
  k_dflt (refine' enterP ?k1 ?k2 ?k3 ?k4 ?k5 ?kA ?kF ?kK ?k6 ?k7 ?k8 ?k9 ?kB ?_ ?c2 ?c3 ?c4 ?c5; (case kA => exact rfl); (case kF => exact rfl); (case kK => assumption); (case k1 => k_asm); (case k2 => k_asm); (case k3 => k_asm); (case k4 => first | assumption | exact News.nil); (case k5 => k_asm); (case k6 => k_is); (case k7 => k_is); (case k8 => ktr_room); (case k9 => first | exact BindsTo.of_eq rfl | exact binds_K (by k_in) rfl (by k_is) rfl rfl rfl | exact binds_peek (by k_in) (fun _ => rfl)); (case c5 => decide); (case kB => exact locs rfl); (case c2 => exact rfl); (case c3 => exact rfl); (case c4 => exact rfl); k_whole; intro g1 L1 h1 FG1 F0 N1 B1 X1 T1 kG1; (try dsimp only); (try k_lift B1); (try k_fold))
  k_steps
  dsimp only
  exact hret _ _ _ (by (intro b9 o9 e9; (rename GSub _ _ _ => kG9); (rename Fr _ _ _ _ => F9); exact F9.keep b9 o9 (kG9 b9 o9 e9 (by simp))))

/-! C3 -/
example : True := by
  k_with_none
  k_with "subscriptTail" => (k_here; (with_reducible show wpAny _ _ (subscriptTail _ _ (Value.ref _) (Value.int _ _)) _ _ _); (with_unfolding_all refine' my_item ?q_k1 ?q_k2 ?q_k3 ?q_k4 ?_ ?q_k6; (case q_k1 => first | assumption | ((rename GSub _ _ _ => kG9); (rename Fr _ _ _ _ => F9); refine' list_up ?q_t9 kG9 F9 (by simp); (case q_t9 => assumption))); (case q_k2 => assumption); (case q_k3 => first | rfl | assumption | omega | (simp only [Int.fdiv_eq_ediv_of_nonneg _ (by decide : (0 : Int) ≤ 2)]; omega)); (case q_k4 => first | assumption | omega); (case q_k6 => with_unfolding_all rfl); k_whole))
  k_with "call builtin:len" => (k_here; (with_reducible show wpAny _ _ (call (Value.builtin "len") [Value.ref _]) _ _ _); refine' my_len ?q_k1 ?q_k2 ?_; (case q_k1 => first | assumption | ((rename GSub _ _ _ => kG9); (rename Fr _ _ _ _ => F9); refine' list_up ?q_t9 kG9 F9 (by simp); (case q_t9 => assumption))); (case q_k2 => first | assumption | omega); intro _ _)
  k_with "subscriptTail" => (k_here; (with_reducible show wpAny _ _ (subscriptTail _ _ (Value.ref _) (Value.int _ _)) _ _ _); (with_unfolding_all refine' my_titem ?q_k1 ?q_k2 ?q_k3 ?q_k4 ?_ ?q_k6; (case q_k1 => first | assumption | ((rename GSub _ _ _ => kG9); (rename Fr _ _ _ _ => F9); refine' TT.up ?q_t9 kG9 F9 (by simp); (case q_t9 => assumption))); (case q_k2 => first | assumption | decide | omega); (case q_k3 => first | assumption | exact rfl); (case q_k4 => first | assumption | (simp only [List.length_cons, List.length_nil]; decide)); (case q_k6 => with_unfolding_all rfl); k_whole))
  trivial
theorem getitem_c (B : Below A₀ base outer h₀) (F : Fr h₀ L s.heap m) (X : (hd.heap_1 w.params).In h₀) (T : Top p loose mean mg mb h₀) (hk : cs.kind = .function) (hd1 : dp + 20 < recursionLimit) (hu : un + 200 < cLine)
    (l : Addr) (vs : List Value) (hl : s.heap.IsList l vs.toArray) (hn : vs.length < 2 ^ 62) (k : Int) (tk : Tok) (v : Value) (j : Nat) (hx : vs[j]? = some v) (hj : k = (j : Int))
    (hret : ∀ (h' : Heap) (tk' : Nat), Kp s.heap h' → Q v { s with heap := h', toks := tk' }) :
    wpAny (model PySem.Challenge.rw_uc0025_01.row.prog w) (ktrTop dp un gd cn cs L a ccd cl outer) (call (.ref 84) [.ref l, .int k tk]) Q E s := by
  refine wpAny_call ?_
  k_dflt (refine' enterP ?k1 ?k2 ?k3 ?k4 ?k5 ?kA ?kF ?kK ?k6 ?k7 ?k8 ?k9 ?kB ?_ ?c2 ?c3 ?c4 ?c5; (case kA => exact rfl); (case kF => exact rfl); (case kK => assumption); (case k1 => k_asm); (case k2 => k_asm); (case k3 => k_asm); (case k4 => first | assumption | exact News.nil); (case k5 => k_asm); (case k6 => k_is); (case k7 => k_is); (case k8 => ktr_room); (case k9 => first | exact BindsTo.of_eq rfl | exact binds_K (by k_in) rfl (by k_is) rfl rfl rfl | exact binds_peek (by k_in) (fun _ => rfl)); (case c5 => decide); (case kB => exact locs rfl); (case c2 => exact rfl); (case c3 => exact rfl); (case c4 => exact rfl); k_whole; intro g1 L1 h1 FG1 F0 N1 B1 X1 T1 kG1; (try dsimp only); (try k_lift B1); (try k_fold))
  k_steps
  dsimp only
  exact hret _ _ (by (intro b9 o9 e9; (rename GSub _ _ _ => kG9); (rename Fr _ _ _ _ => F9); exact F9.keep b9 o9 (kG9 b9 o9 e9 (by simp))))

/-! C4 -/
example : True := by
  k_with_none
  k_with "subscriptTail" => (k_here; (with_reducible show wpAny _ _ (subscriptTail _ _ (Value.ref _) (Value.int _ _)) _ _ _); (with_unfolding_all refine' my_item ?q_k1 ?q_k2 ?q_k3 ?q_k4 ?_ ?q_k6; (case q_k1 => first | assumption | ((rename GSub _ _ _ => kG9); (rename Fr _ _ _ _ => F9); refine' list_up ?q_t9 kG9 F9 (by simp); (case q_t9 => assumption))); (case q_k2 => assumption); (case q_k3 => first | rfl | assumption | omega | (simp only [Int.fdiv_eq_ediv_of_nonneg _ (by decide : (0 : Int) ≤ 2)]; omega)); (case q_k4 => first | assumption | omega); (case q_k6 => with_unfolding_all rfl); k_whole))
  k_with "call builtin:len" => (k_here; (with_reducible show wpAny _ _ (call (Value.builtin "len") [Value.ref _]) _ _ _); refine' my_len ?q_k1 ?q_k2 ?_; (case q_k1 => first | assumption | ((rename GSub _ _ _ => kG9); (rename Fr _ _ _ _ => F9); refine' list_up ?q_t9 kG9 F9 (by simp); (case q_t9 => assumption))); (case q_k2 => first | assumption | omega); intro _ _)
  k_with "subscriptTail" => (k_here; (with_reducible show wpAny _ _ (subscriptTail _ _ (Value.ref _) (Value.int _ _)) _ _ _); (with_unfolding_all refine' my_titem ?q_k1 ?q_k2 ?q_k3 ?q_k4 ?_ ?q_k6; (case q_k1 => first | assumption | ((rename GSub _ _ _ => kG9); (rename Fr _ _ _ _ => F9); refine' TT.up ?q_t9 kG9 F9 (by simp); (case q_t9 => assumption))); (case q_k2 => first | assumption | decide | omega); (case q_k3 => first | assumption | exact rfl); (case q_k4 => first | assumption | (simp only [List.length_cons, List.length_nil]; decide)); (case q_k6 => with_unfolding_all rfl); k_whole))
  k_with "exec While Compare cons nil" => (k_here; refine stopHere ?_)
  trivial
section
theorem bis_ints (B : Below A₀ base outer h₀) (F : Fr h₀ L s.heap m) (X : (hd.heap_1 w.params).In h₀) (T : Top p loose mean mg mb h₀) (hk : cs.kind = .function) (hd1 : dp + 20 < recursionLimit) (hu : un + 200 < cLine)
    (l : Addr) (vs : List Value) (hl : s.heap.IsList l vs.toArray) (hn : vs.length < 2 ^ 20) (ns : Nat → Int) (hi : ∀ i, i < vs.length → ∃ t, vs[i]? = some (.int (ns i) t)) (x : Int) (tx : Tok)
    (hret : ∀ (t : Tok) (h' : Heap) (tk' : Nat), Kp s.heap h' → Q (.int (bis (fun i => decide (x < ns i)) 0 vs.length : Nat) t) { s with heap := h', toks := tk' }) :
    wpAny (model PySem.Challenge.rw_uc0025_01.row.prog w) (ktrTop dp un gd cn cs L a ccd cl outer) (call (.ref 56) [.ref l, .int x tx]) Q E s := by
  refine wpAny_call ?_
  k_dflt (refine' enterP ?k1 ?k2 ?k3 ?k4 ?k5 ?kA ?kF ?kK ?k6 ?k7 ?k8 ?k9 ?kB ?_ ?c2 ?c3 ?c4 ?c5; (case kA => exact rfl); (case kF => exact rfl); (case kK => assumption); (case k1 => k_asm); (case k2 => k_asm); (case k3 => k_asm); (case k4 => first | assumption | exact News.nil); (case k5 => k_asm); (case k6 => k_is); (case k7 => k_is); (case k8 => ktr_room); (case k9 => first | exact BindsTo.of_eq rfl | exact binds_K (by k_in) rfl (by k_is) rfl rfl rfl | exact binds_peek (by k_in) (fun _ => rfl)); (case c5 => decide); (case kB => exact locs rfl); (case c2 => exact rfl); (case c3 => exact rfl); (case c4 => exact rfl); k_whole; intro g1 L1 h1 FG1 F0 N1 B1 X1 T1 kG1; (try dsimp only); (try k_lift B1); (try k_fold))
  have F1 : Fr g1 L1 h1 (fun y => List.lookup y [(Str.ofString "key", Value.none), (Str.ofString "hi", Value.none), (Str.ofString "lo", Value.int 0 304), (Str.ofString "x", Value.int x tx), (Str.ofString "a", Value.ref l)]) := F0
  clear F0

  have hn' : vs.length < 2 ^ 62 := by omega
  k_steps
  unfold Stop
  rename_i t2 tk2 h2 F2 N2
  generalize hlt : (fun i => decide (x < ns i)) = lt at hret
  refine ksw_while (σ := Nat × Nat × Tok × Tok) (fun _ => []) (fun c => [(Str.ofString "lo", Value.int (c.1 : Int) c.2.2.1), (Str.ofString "hi", Value.int (c.2.1 : Int) c.2.2.2)]) (fun _ => True) [Str.ofString "mid"]
    (fun c => c.1 ≤ c.2.1 ∧ c.2.1 ≤ vs.length ∧ bis lt c.1 c.2.1 = bis lt 0 vs.length) (fun c => c.2.1 - c.1) (0, vs.length, 304, t2) F2 N2 trivial ?_ ⟨Nat.zero_le _, Nat.le_refl _, rfl⟩ ?_
  · intro q hq
    simp only [List.mem_cons, List.not_mem_nil, or_false] at hq
    rcases hq with rfl | rfl <;> rfl
  · rintro ⟨lo, hi', t3, t4⟩ u h3 tk3 _ ⟨c1, c2, c3⟩ F3 N3
    dsimp only at c1 c2 c3
    clear F2 N2
    by_cases hlh : lo < hi'
    · obtain ⟨tm, hmid⟩ := hi ((lo + hi') / 2) (by omega)
      dsimp only at F3 ⊢
      k_steps
      · rename_i hc h4 F4 N4
        have e : Int.fdiv ((lo : Int) + (hi' : Int)) 2 = (((lo + hi') / 2 : Nat) : Int) := by rw [Int.fdiv_eq_ediv_of_nonneg _ (by decide)]; omega
        simp only [e] at F4
        refine' ksw_end (lo, (lo + hi') / 2, t3, ?tt) F4 N4 (fun _ h => h) trivial ?ks ?kr ⟨?p1, ?p2, ?p3⟩ ?mu
        case ks => kst_all
        case kr => (intro z9 h2 h3; (simp only [List.forall_mem_cons, List.not_mem_nil, false_implies, implies_true, and_true, ne_eq] at h2); (simp only [List.contains_cons, List.contains_nil, Bool.or_false, Bool.or_eq_false_iff, beq_eq_false_iff_ne, ne_eq] at h3); (simp [kstB, h2, h3]))
        case p1 => dsimp only; omega
        case p2 => dsimp only; omega
        case p3 =>
          dsimp only
          rw [← c3]
          exact (bis_left hlh (by rw [← hlt]; exact decide_eq_true hc)).symm
        case mu => dsimp only; omega
      · rename_i hc h4 F4 N4
        have e : Int.fdiv ((lo : Int) + (hi' : Int)) 2 + 1 = (((lo + hi') / 2 + 1 : Nat) : Int) := by rw [Int.fdiv_eq_ediv_of_nonneg _ (by decide)]; omega
        simp only [e] at F4
        refine' ksw_end ((lo + hi') / 2 + 1, hi', ?ttb, t4) F4 N4 (fun _ h => h) trivial ?ks ?kr ⟨?p1, ?p2, ?p3⟩ ?mu
        case ks => kst_all
        case kr => (intro z9 h2 h3; (simp only [List.forall_mem_cons, List.not_mem_nil, false_implies, implies_true, and_true, ne_eq] at h2); (simp only [List.contains_cons, List.contains_nil, Bool.or_false, Bool.or_eq_false_iff, beq_eq_false_iff_ne, ne_eq] at h3); (simp [kstB, h2, h3]))
        case p1 => dsimp only; omega
        case p2 => dsimp only; omega
        case p3 =>
          dsimp only
          rw [← c3]
          exact (bis_right hlh (by rw [← hlt]; exact decide_eq_false hc)).symm
        case mu => dsimp only; omega
    · dsimp only at F3 ⊢
      k_steps
      dsimp only
      rw [bis_stop hlh] at c3
      rw [← c3] at hret
      exact hret _ _ _ (by (intro b9 o9 e9; (rename GSub _ _ _ => kG9); (rename Fr _ _ _ _ => F9); exact F9.keep b9 o9 (kG9 b9 o9 e9 (by simp))))
end

/-! C5 -/
example : True := by
  k_with_none
  k_with "subscriptTail" => (k_here; (with_reducible show wpAny _ _ (subscriptTail _ _ (Value.ref _) (Value.int _ _)) _ _ _); (with_unfolding_all refine' my_item ?q_k1 ?q_k2 ?q_k3 ?q_k4 ?_ ?q_k6; (case q_k1 => first | assumption | ((rename GSub _ _ _ => kG9); (rename Fr _ _ _ _ => F9); refine' list_up ?q_t9 kG9 F9 (by simp); (case q_t9 => assumption))); (case q_k2 => assumption); (case q_k3 => first | rfl | assumption | omega | (simp only [Int.fdiv_eq_ediv_of_nonneg _ (by decide : (0 : Int) ≤ 2)]; omega)); (case q_k4 => first | assumption | omega); (case q_k6 => with_unfolding_all rfl); k_whole))
  k_with "call builtin:len" => (k_here; (with_reducible show wpAny _ _ (call (Value.builtin "len") [Value.ref _]) _ _ _); refine' my_len ?q_k1 ?q_k2 ?_; (case q_k1 => first | assumption | ((rename GSub _ _ _ => kG9); (rename Fr _ _ _ _ => F9); refine' list_up ?q_t9 kG9 F9 (by simp); (case q_t9 => assumption))); (case q_k2 => first | assumption | omega); intro _ _)
  k_with "subscriptTail" => (k_here; (with_reducible show wpAny _ _ (subscriptTail _ _ (Value.ref _) (Value.int _ _)) _ _ _); (with_unfolding_all refine' my_titem ?q_k1 ?q_k2 ?q_k3 ?q_k4 ?_ ?q_k6; (case q_k1 => first | assumption | ((rename GSub _ _ _ => kG9); (rename Fr _ _ _ _ => F9); refine' TT.up ?q_t9 kG9 F9 (by simp); (case q_t9 => assumption))); (case q_k2 => first | assumption | decide | omega); (case q_k3 => first | assumption | exact rfl); (case q_k4 => first | assumption | (simp only [List.length_cons, List.length_nil]; decide)); (case q_k6 => with_unfolding_all rfl); k_whole))
  k_with "exec While Compare cons nil" => (k_here; refine stopHere ?_)
  trivial
section
theorem bis_strs (B : Below A₀ base outer h₀) (F : Fr h₀ L s.heap m) (X : (hd.heap_1 w.params).In h₀) (T : Top p loose mean mg mb h₀) (hk : cs.kind = .function) (hd1 : dp + 20 < recursionLimit) (hu : un + 200 < cLine)
    (l : Addr) (vs : List Value) (hl : s.heap.IsList l vs.toArray) (hn : vs.length < 2 ^ 20) (ns : Nat → Str) (hi : ∀ i, i < vs.length → ∃ t, vs[i]? = some (.str (ns i) t)) (x : Str) (tx : Tok)
    (hret : ∀ (t : Tok) (h' : Heap) (tk' : Nat), Kp s.heap h' → Q (.int (bis (fun i => decide (x.cps.toList < (ns i).cps.toList)) 0 vs.length : Nat) t) { s with heap := h', toks := tk' }) :
    wpAny (model PySem.Challenge.rw_uc0025_01.row.prog w) (ktrTop dp un gd cn cs L a ccd cl outer) (call (.ref 56) [.ref l, .str x tx]) Q E s := by
  refine wpAny_call ?_
  k_dflt (refine' enterP ?k1 ?k2 ?k3 ?k4 ?k5 ?kA ?kF ?kK ?k6 ?k7 ?k8 ?k9 ?kB ?_ ?c2 ?c3 ?c4 ?c5; (case kA => exact rfl); (case kF => exact rfl); (case kK => assumption); (case k1 => k_asm); (case k2 => k_asm); (case k3 => k_asm); (case k4 => first | assumption | exact News.nil); (case k5 => k_asm); (case k6 => k_is); (case k7 => k_is); (case k8 => ktr_room); (case k9 => first | exact BindsTo.of_eq rfl | exact binds_K (by k_in) rfl (by k_is) rfl rfl rfl | exact binds_peek (by k_in) (fun _ => rfl)); (case c5 => decide); (case kB => exact locs rfl); (case c2 => exact rfl); (case c3 => exact rfl); (case c4 => exact rfl); k_whole; intro g1 L1 h1 FG1 F0 N1 B1 X1 T1 kG1; (try dsimp only); (try k_lift B1); (try k_fold))
  have F1 : Fr g1 L1 h1 (fun y => List.lookup y [(Str.ofString "key", Value.none), (Str.ofString "hi", Value.none), (Str.ofString "lo", Value.int 0 304), (Str.ofString "x", Value.str x tx), (Str.ofString "a", Value.ref l)]) := F0
  clear F0

  have hn' : vs.length < 2 ^ 62 := by omega
  k_steps
  unfold Stop
  rename_i t2 tk2 h2 F2 N2
  generalize hlt : (fun i => decide (x.cps.toList < (ns i).cps.toList)) = lt at hret
  refine ksw_while (σ := Nat × Nat × Tok × Tok) (fun _ => []) (fun c => [(Str.ofString "lo", Value.int (c.1 : Int) c.2.2.1), (Str.ofString "hi", Value.int (c.2.1 : Int) c.2.2.2)]) (fun _ => True) [Str.ofString "mid"]
    (fun c => c.1 ≤ c.2.1 ∧ c.2.1 ≤ vs.length ∧ bis lt c.1 c.2.1 = bis lt 0 vs.length) (fun c => c.2.1 - c.1) (0, vs.length, 304, t2) F2 N2 trivial ?_ ⟨Nat.zero_le _, Nat.le_refl _, rfl⟩ ?_
  · intro q hq
    simp only [List.mem_cons, List.not_mem_nil, or_false] at hq
    rcases hq with rfl | rfl <;> rfl
  · rintro ⟨lo, hi', t3, t4⟩ u h3 tk3 _ ⟨c1, c2, c3⟩ F3 N3
    dsimp only at c1 c2 c3
    clear F2 N2
    by_cases hlh : lo < hi'
    · obtain ⟨tm, hmid⟩ := hi ((lo + hi') / 2) (by omega)
      dsimp only at F3 ⊢
      k_steps
      · rename_i hc h4 F4 N4
        have e : Int.fdiv ((lo : Int) + (hi' : Int)) 2 = (((lo + hi') / 2 : Nat) : Int) := by rw [Int.fdiv_eq_ediv_of_nonneg _ (by decide)]; omega
        simp only [e] at F4
        refine' ksw_end (lo, (lo + hi') / 2, t3, ?tta2) F4 N4 (fun _ h => h) trivial ?ks ?kr ⟨?p1, ?p2, ?p3⟩ ?mu
        case ks => kst_all
        case kr => (intro z9 h2 h3; (simp only [List.forall_mem_cons, List.not_mem_nil, false_implies, implies_true, and_true, ne_eq] at h2); (simp only [List.contains_cons, List.contains_nil, Bool.or_false, Bool.or_eq_false_iff, beq_eq_false_iff_ne, ne_eq] at h3); (simp [kstB, h2, h3]))
        case p1 => dsimp only; omega
        case p2 => dsimp only; omega
        case p3 =>
          dsimp only
          rw [← c3]
          exact (bis_left hlh (by rw [← hlt]; exact decide_eq_true hc)).symm
        case mu => dsimp only; omega
      · rename_i hc h4 F4 N4
        have e : Int.fdiv ((lo : Int) + (hi' : Int)) 2 + 1 = (((lo + hi') / 2 + 1 : Nat) : Int) := by rw [Int.fdiv_eq_ediv_of_nonneg _ (by decide)]; omega
        simp only [e] at F4
        refine' ksw_end ((lo + hi') / 2 + 1, hi', ?ttb2, t4) F4 N4 (fun _ h => h) trivial ?ks ?kr ⟨?p1, ?p2, ?p3⟩ ?mu
        case ks => kst_all
        case kr => (intro z9 h2 h3; (simp only [List.forall_mem_cons, List.not_mem_nil, false_implies, implies_true, and_true, ne_eq] at h2); (simp only [List.contains_cons, List.contains_nil, Bool.or_false, Bool.or_eq_false_iff, beq_eq_false_iff_ne, ne_eq] at h3); (simp [kstB, h2, h3]))
        case p1 => dsimp only; omega
        case p2 => dsimp only; omega
        case p3 =>
          dsimp only
          rw [← c3]
          exact (bis_right hlh (by rw [← hlt]; exact decide_eq_false hc)).symm
        case mu => dsimp only; omega
    · dsimp only at F3 ⊢
      k_steps
      dsimp only
      rw [bis_stop hlh] at c3
      rw [← c3] at hret
      exact hret _ _ _ (by (intro b9 o9 e9; (rename GSub _ _ _ => kG9); (rename Fr _ _ _ _ => F9); exact F9.keep b9 o9 (kG9 b9 o9 e9 (by simp))))
end

/-! C6 -/
example : True := by
  k_with_none
  k_with "subscriptTail" => (k_here; (with_reducible show wpAny _ _ (subscriptTail _ _ (Value.ref _) (Value.int _ _)) _ _ _); (with_unfolding_all refine' my_item ?q_k1 ?q_k2 ?q_k3 ?q_k4 ?_ ?q_k6; (case q_k1 => first | assumption | ((rename GSub _ _ _ => kG9); (rename Fr _ _ _ _ => F9); refine' list_up ?q_t9 kG9 F9 (by simp); (case q_t9 => assumption))); (case q_k2 => assumption); (case q_k3 => first | rfl | assumption | omega | (simp only [Int.fdiv_eq_ediv_of_nonneg _ (by decide : (0 : Int) ≤ 2)]; omega)); (case q_k4 => first | assumption | omega); (case q_k6 => with_unfolding_all rfl); k_whole))
  k_with "call builtin:len" => (k_here; (with_reducible show wpAny _ _ (call (Value.builtin "len") [Value.ref _]) _ _ _); refine' my_len ?q_k1 ?q_k2 ?_; (case q_k1 => first | assumption | ((rename GSub _ _ _ => kG9); (rename Fr _ _ _ _ => F9); refine' list_up ?q_t9 kG9 F9 (by simp); (case q_t9 => assumption))); (case q_k2 => first | assumption | omega); intro _ _)
  k_with "subscriptTail" => (k_here; (with_reducible show wpAny _ _ (subscriptTail _ _ (Value.ref _) (Value.int _ _)) _ _ _); (with_unfolding_all refine' my_titem ?q_k1 ?q_k2 ?q_k3 ?q_k4 ?_ ?q_k6; (case q_k1 => first | assumption | ((rename GSub _ _ _ => kG9); (rename Fr _ _ _ _ => F9); refine' TT.up ?q_t9 kG9 F9 (by simp); (case q_t9 => assumption))); (case q_k2 => first | assumption | decide | omega); (case q_k3 => first | assumption | exact rfl); (case q_k4 => first | assumption | (simp only [List.length_cons, List.length_nil]; decide)); (case q_k6 => with_unfolding_all rfl); k_whole))
  k_with "exec While Compare cons nil" => (k_here; refine stopHere ?_)
  k_with "compareOp Lt ref" => (k_here; refine' my_lt1 ?q_k1 ?q_k2 ?q_k3 ?_; (case q_k1 => first | assumption | ((rename GSub _ _ _ => kG9); (rename Fr _ _ _ _ => F9); refine F9.keep _ _ (kG9 _ _ ?_ (by simp)); assumption)); (case q_k2 => first | assumption | ((rename GSub _ _ _ => kG9); (rename Fr _ _ _ _ => F9); refine F9.keep _ _ (kG9 _ _ ?_ (by simp)); assumption)); (case q_k3 => ((have hcL9 := cLine_is); (simp only [units_in1, units_deeper, Around.mark_units]); (try dsimp only [ktrTop]); omega)))
  trivial
section
theorem bis_lists (B : Below A₀ base outer h₀) (F : Fr h₀ L s.heap m) (X : (hd.heap_1 w.params).In h₀) (T : Top p loose mean mg mb h₀) (hk : cs.kind = .function) (hd1 : dp + 20 < recursionLimit) (hu : un + 200 < cLine)
    (l : Addr) (vs : List Value) (hl : s.heap.IsList l vs.toArray) (hn : vs.length < 2 ^ 20) (ns : Nat → Int) (hi : ∀ i, i < vs.length → ∃ a t c, vs[i]? = some (.ref a) ∧ s.heap.get? a = some (listOf #[.int (ns i) t] c)) (lx : Addr) (x : Int) (tx : Tok) (cx : Nat) (t0 : Tok) (hx : s.heap.get? lx = some (listOf #[.int x tx] cx))
    (hret : ∀ (t : Tok) (h' : Heap) (tk' : Nat), Kp s.heap h' → Q (.int (bis (fun i => decide (x < ns i)) 0 vs.length : Nat) t) { s with heap := h', toks := tk' }) :
    wpAny (model PySem.Challenge.rw_uc0025_01.row.prog w) (ktrTop dp un gd cn cs L a ccd cl outer) (call (.ref 56) [.ref l, .ref lx, .int 0 t0, .none]) Q E s := by
  refine wpAny_call ?_
  k_dflt (refine' enterP ?k1 ?k2 ?k3 ?k4 ?k5 ?kA ?kF ?kK ?k6 ?k7 ?k8 ?k9 ?kB ?_ ?c2 ?c3 ?c4 ?c5; (case kA => exact rfl); (case kF => exact rfl); (case kK => assumption); (case k1 => k_asm); (case k2 => k_asm); (case k3 => k_asm); (case k4 => first | assumption | exact News.nil); (case k5 => k_asm); (case k6 => k_is); (case k7 => k_is); (case k8 => ktr_room); (case k9 => first | exact BindsTo.of_eq rfl | exact binds_K (by k_in) rfl (by k_is) rfl rfl rfl | exact binds_peek (by k_in) (fun _ => rfl)); (case c5 => decide); (case kB => exact locs rfl); (case c2 => exact rfl); (case c3 => exact rfl); (case c4 => exact rfl); k_whole; intro g1 L1 h1 FG1 F0 N1 B1 X1 T1 kG1; (try dsimp only); (try k_lift B1); (try k_fold))
  have F1 : Fr g1 L1 h1 (fun y => List.lookup y [(Str.ofString "key", Value.none), (Str.ofString "hi", Value.none), (Str.ofString "lo", Value.int 0 t0), (Str.ofString "x", Value.ref lx), (Str.ofString "a", Value.ref l)]) := F0
  clear F0

  have hn' : vs.length < 2 ^ 62 := by omega
  k_steps
  unfold Stop
  rename_i t2 tk2 h2 F2 N2
  generalize hlt : (fun i => decide (x < ns i)) = lt at hret
  refine ksw_while (σ := Nat × Nat × Tok × Tok) (fun _ => []) (fun c => [(Str.ofString "lo", Value.int (c.1 : Int) c.2.2.1), (Str.ofString "hi", Value.int (c.2.1 : Int) c.2.2.2)]) (fun _ => True) [Str.ofString "mid"]
    (fun c => c.1 ≤ c.2.1 ∧ c.2.1 ≤ vs.length ∧ bis lt c.1 c.2.1 = bis lt 0 vs.length) (fun c => c.2.1 - c.1) (0, vs.length, t0, t2) F2 N2 trivial ?_ ⟨Nat.zero_le _, Nat.le_refl _, rfl⟩ ?_
  · intro q hq
    simp only [List.mem_cons, List.not_mem_nil, or_false] at hq
    rcases hq with rfl | rfl <;> rfl
  · rintro ⟨lo, hi', t3, t4⟩ u h3 tk3 _ ⟨c1, c2, c3⟩ F3 N3
    dsimp only at c1 c2 c3
    clear F2 N2
    by_cases hlh : lo < hi'
    · obtain ⟨am, tm, cm, hmid, hmid2⟩ := hi ((lo + hi') / 2) (by omega)
      dsimp only at F3 ⊢
      k_steps
      · rename_i hc h4 F4 N4
        have e : Int.fdiv ((lo : Int) + (hi' : Int)) 2 = (((lo + hi') / 2 : Nat) : Int) := by rw [Int.fdiv_eq_ediv_of_nonneg _ (by decide)]; omega
        simp only [e] at F4
        refine' ksw_end (lo, (lo + hi') / 2, t3, ?tta3) F4 N4 (fun _ h => h) trivial ?ks ?kr ⟨?p1, ?p2, ?p3⟩ ?mu
        case ks => kst_all
        case kr => (intro z9 h2 h3; (simp only [List.forall_mem_cons, List.not_mem_nil, false_implies, implies_true, and_true, ne_eq] at h2); (simp only [List.contains_cons, List.contains_nil, Bool.or_false, Bool.or_eq_false_iff, beq_eq_false_iff_ne, ne_eq] at h3); (simp [kstB, h2, h3]))
        case p1 => dsimp only; omega
        case p2 => dsimp only; omega
        case p3 =>
          dsimp only
          rw [← c3]
          exact (bis_left hlh (by rw [← hlt]; exact decide_eq_true hc)).symm
        case mu => dsimp only; omega
      · rename_i hc h4 F4 N4
        have e : Int.fdiv ((lo : Int) + (hi' : Int)) 2 + 1 = (((lo + hi') / 2 + 1 : Nat) : Int) := by rw [Int.fdiv_eq_ediv_of_nonneg _ (by decide)]; omega
        simp only [e] at F4
        refine' ksw_end ((lo + hi') / 2 + 1, hi', ?ttb3, t4) F4 N4 (fun _ h => h) trivial ?ks ?kr ⟨?p1, ?p2, ?p3⟩ ?mu
        case ks => kst_all
        case kr => (intro z9 h2 h3; (simp only [List.forall_mem_cons, List.not_mem_nil, false_implies, implies_true, and_true, ne_eq] at h2); (simp only [List.contains_cons, List.contains_nil, Bool.or_false, Bool.or_eq_false_iff, beq_eq_false_iff_ne, ne_eq] at h3); (simp [kstB, h2, h3]))
        case p1 => dsimp only; omega
        case p2 => dsimp only; omega
        case p3 =>
          dsimp only
          rw [← c3]
          exact (bis_right hlh (by rw [← hlt]; exact decide_eq_false hc)).symm
        case mu => dsimp only; omega
    · dsimp only at F3 ⊢
      k_steps
      dsimp only
      rw [bis_stop hlh] at c3
      rw [← c3] at hret
      exact hret _ _ _ (by (intro b9 o9 e9; (rename GSub _ _ _ => kG9); (rename Fr _ _ _ _ => F9); exact F9.keep b9 o9 (kG9 b9 o9 e9 (by simp))))
end

/-! C7 -/
example : True := by
  k_with_none
  k_with "subscriptTail" => (k_here; (with_reducible show wpAny _ _ (subscriptTail _ _ (Value.ref _) (Value.int _ _)) _ _ _); (with_unfolding_all refine' my_item ?q_k1 ?q_k2 ?q_k3 ?q_k4 ?_ ?q_k6; (case q_k1 => first | assumption | ((rename GSub _ _ _ => kG9); (rename Fr _ _ _ _ => F9); refine' list_up ?q_t9 kG9 F9 (by simp); (case q_t9 => assumption))); (case q_k2 => assumption); (case q_k3 => first | rfl | assumption | omega | (simp only [Int.fdiv_eq_ediv_of_nonneg _ (by decide : (0 : Int) ≤ 2)]; omega)); (case q_k4 => first | assumption | omega); (case q_k6 => with_unfolding_all rfl); k_whole))
  k_with "call builtin:len" => (k_here; (with_reducible show wpAny _ _ (call (Value.builtin "len") [Value.ref _]) _ _ _); refine' my_len ?q_k1 ?q_k2 ?_; (case q_k1 => first | assumption | ((rename GSub _ _ _ => kG9); (rename Fr _ _ _ _ => F9); refine' list_up ?q_t9 kG9 F9 (by simp); (case q_t9 => assumption))); (case q_k2 => first | assumption | omega); intro _ _)
  k_with "subscriptTail" => (k_here; (with_reducible show wpAny _ _ (subscriptTail _ _ (Value.ref _) (Value.int _ _)) _ _ _); (with_unfolding_all refine' my_titem ?q_k1 ?q_k2 ?q_k3 ?q_k4 ?_ ?q_k6; (case q_k1 => first | assumption | ((rename GSub _ _ _ => kG9); (rename Fr _ _ _ _ => F9); refine' TT.up ?q_t9 kG9 F9 (by simp); (case q_t9 => assumption))); (case q_k2 => first | assumption | decide | omega); (case q_k3 => first | assumption | exact rfl); (case q_k4 => first | assumption | (simp only [List.length_cons, List.length_nil]; decide)); (case q_k6 => with_unfolding_all rfl); k_whole))
  k_with "exec While Compare cons nil" => (k_here; refine stopHere ?_)
  k_with "callWith ref" => (k_here; k_dflt (refine' callWith_F ?q_k1 ?_; (case q_k1 => first | assumption | ((rename GSub _ _ _ => kG9); (rename Fr _ _ _ _ => F9); refine' fnAt_up ?q_t9 kG9 F9 (by simp); (case q_t9 => assumption))); k_whole))
  k_with "And" => ((with_reducible show FnAt _ _ ∧ _); (refine ⟨by first | assumption | ((rename GSub _ _ _ => kG9); (rename Fr _ _ _ _ => F9); refine' fnAt_up ?q_t9 kG9 F9 (by simp); (case q_t9 => assumption)), ?_⟩); (try dsimp only [List.nil_append, List.cons_append]))
  k_with "call ref" => (k_here; (rename KeySpec _ _ _ _ _ _ _ _ _ _ => hk9); k_dflt (refine' hk9 ?q_k1 ?q_k2 ?q_k3 ?q_k4 ?q_k5 ?q_k6 ?q_k7 ?q_k8 ?_; (case q_k1 => k_asm); (case q_k2 => k_asm); (case q_k3 => k_asm); (case q_k4 => k_asm); (case q_k5 => first | exact rfl | assumption); (case q_k6 => ktr_room); (case q_k7 => ktr_units); (case q_k8 => ((rename GSub _ _ _ => kG9); (rename Fr _ _ _ _ => F9); exact kp_up kG9 F9))); intro _ _ _ _; ((rename Kp _ _ => k9); (rename Fr _ _ _ _ => F9); (rename News _ _ _ _ => N9); (have F8 := fr_kp F9 k9); (have N8 := news_kp N9 k9); (try dsimp only); (try k_fold)))
  trivial
section
theorem bis_key_ints (B : Below A₀ base outer h₀) (F : Fr h₀ L s.heap m) (X : (hd.heap_1 w.params).In h₀) (T : Top p loose mean mg mb h₀) (hk : cs.kind = .function) (hd1 : dp + 20 < recursionLimit) (hu : un + 200 < cLine)
    (l : Addr) (vs : List Value) (hl : s.heap.IsList l vs.toArray) (hn : vs.length < 2 ^ 20) (ns : Nat → Int) (f : Addr) (hf : FnAt f s.heap) (hi : ∀ i, i < vs.length → ∃ v, vs[i]? = some v ∧ KeySpec w p loose mean mg mb s.heap (.ref f) v (fun t => .int (ns i) t)) (x : Int) (tx t0 : Tok)
    (hret : ∀ (t : Tok) (h' : Heap) (tk' : Nat), Kp s.heap h' → Q (.int (bis (fun i => decide (x < ns i)) 0 vs.length : Nat) t) { s with heap := h', toks := tk' }) :
    wpAny (model PySem.Challenge.rw_uc0025_01.row.prog w) (ktrTop dp un gd cn cs L a ccd cl outer) (call (.ref 56) [.ref l, .int x tx, .int 0 t0, .none] [(Str.ofString "key", .ref f)]) Q E s := by
  refine wpAny_call ?_
  k_dflt (refine' enterP ?k1 ?k2 ?k3 ?k4 ?k5 ?kA ?kF ?kK ?k6 ?k7 ?k8 ?k9 ?kB ?_ ?c2 ?c3 ?c4 ?c5; (case kA => exact rfl); (case kF => exact rfl); (case kK => assumption); (case k1 => k_asm); (case k2 => k_asm); (case k3 => k_asm); (case k4 => first | assumption | exact News.nil); (case k5 => k_asm); (case k6 => k_is); (case k7 => k_is); (case k8 => ktr_room); (case k9 => first | exact BindsTo.of_eq rfl | exact binds_K (by k_in) rfl (by k_is) rfl rfl rfl | exact binds_peek (by k_in) (fun _ => rfl)); (case c5 => decide); (case kB => exact locs rfl); (case c2 => exact rfl); (case c3 => exact rfl); (case c4 => exact rfl); k_whole; intro g1 L1 h1 FG1 F0 N1 B1 X1 T1 kG1; (try dsimp only); (try k_lift B1); (try k_fold))
  have F1 : Fr g1 L1 h1 (fun y => List.lookup y [(Str.ofString "key", Value.ref f), (Str.ofString "hi", Value.none), (Str.ofString "lo", Value.int 0 t0), (Str.ofString "x", Value.int x tx), (Str.ofString "a", Value.ref l)]) := F0
  clear F0

  have hn' : vs.length < 2 ^ 62 := by omega
  k_steps
  unfold Stop
  rename_i t2 tk2 h2 F2 N2
  generalize hlt : (fun i => decide (x < ns i)) = lt at hret
  refine ksw_while (σ := Nat × Nat × Tok × Tok) (fun _ => []) (fun c => [(Str.ofString "lo", Value.int (c.1 : Int) c.2.2.1), (Str.ofString "hi", Value.int (c.2.1 : Int) c.2.2.2)]) (fun _ => True) [Str.ofString "mid"]
    (fun c => c.1 ≤ c.2.1 ∧ c.2.1 ≤ vs.length ∧ bis lt c.1 c.2.1 = bis lt 0 vs.length) (fun c => c.2.1 - c.1) (0, vs.length, t0, t2) F2 N2 trivial ?_ ⟨Nat.zero_le _, Nat.le_refl _, rfl⟩ ?_
  · intro q hq
    simp only [List.mem_cons, List.not_mem_nil, or_false] at hq
    rcases hq with rfl | rfl <;> rfl
  · rintro ⟨lo, hi', t3, t4⟩ u h3 tk3 _ ⟨c1, c2, c3⟩ F3 N3
    dsimp only at c1 c2 c3
    clear F2 N2
    by_cases hlh : lo < hi'
    · obtain ⟨vm, hmid, hkm⟩ := hi ((lo + hi') / 2) (by omega)
      dsimp only at F3 ⊢
      k_steps
      · rename_i hc h4 F4 N4
        have e : Int.fdiv ((lo : Int) + (hi' : Int)) 2 = (((lo + hi') / 2 : Nat) : Int) := by rw [Int.fdiv_eq_ediv_of_nonneg _ (by decide)]; omega
        simp only [e] at F4
        refine' ksw_end (lo, (lo + hi') / 2, t3, ?tta4) F4 N4 (fun _ h => h) trivial ?ks ?kr ⟨?p1, ?p2, ?p3⟩ ?mu
        case ks => kst_all
        case kr => (intro z9 h2 h3; (simp only [List.forall_mem_cons, List.not_mem_nil, false_implies, implies_true, and_true, ne_eq] at h2); (simp only [List.contains_cons, List.contains_nil, Bool.or_false, Bool.or_eq_false_iff, beq_eq_false_iff_ne, ne_eq] at h3); (simp [kstB, h2, h3]))
        case p1 => dsimp only; omega
        case p2 => dsimp only; omega
        case p3 =>
          dsimp only
          rw [← c3]
          exact (bis_left hlh (by rw [← hlt]; exact decide_eq_true hc)).symm
        case mu => dsimp only; omega
      · rename_i hc h4 F4 N4
        have e : Int.fdiv ((lo : Int) + (hi' : Int)) 2 + 1 = (((lo + hi') / 2 + 1 : Nat) : Int) := by rw [Int.fdiv_eq_ediv_of_nonneg _ (by decide)]; omega
        simp only [e] at F4
        refine' ksw_end ((lo + hi') / 2 + 1, hi', ?ttb4, t4) F4 N4 (fun _ h => h) trivial ?ks ?kr ⟨?p1, ?p2, ?p3⟩ ?mu
        case ks => kst_all
        case kr => (intro z9 h2 h3; (simp only [List.forall_mem_cons, List.not_mem_nil, false_implies, implies_true, and_true, ne_eq] at h2); (simp only [List.contains_cons, List.contains_nil, Bool.or_false, Bool.or_eq_false_iff, beq_eq_false_iff_ne, ne_eq] at h3); (simp [kstB, h2, h3]))
        case p1 => dsimp only; omega
        case p2 => dsimp only; omega
        case p3 =>
          dsimp only
          rw [← c3]
          exact (bis_right hlh (by rw [← hlt]; exact decide_eq_false hc)).symm
        case mu => dsimp only; omega
    · dsimp only at F3 ⊢
      k_steps
      dsimp only
      rw [bis_stop hlh] at c3
      rw [← c3] at hret
      exact hret _ _ _ (by (intro b9 o9 e9; (rename GSub _ _ _ => kG9); (rename Fr _ _ _ _ => F9); exact F9.keep b9 o9 (kG9 b9 o9 e9 (by simp))))
end

/-! C8 -/
example : True := by
  k_with_none
  k_with "subscriptTail" => (k_here; (with_reducible show wpAny _ _ (subscriptTail _ _ (Value.ref _) (Value.int _ _)) _ _ _); (with_unfolding_all refine' my_item ?q_k1 ?q_k2 ?q_k3 ?q_k4 ?_ ?q_k6; (case q_k1 => first | assumption | ((rename GSub _ _ _ => kG9); (rename Fr _ _ _ _ => F9); refine' list_up ?q_t9 kG9 F9 (by simp); (case q_t9 => assumption))); (case q_k2 => assumption); (case q_k3 => first | rfl | assumption | omega | (simp only [Int.fdiv_eq_ediv_of_nonneg _ (by decide : (0 : Int) ≤ 2)]; omega)); (case q_k4 => first | assumption | omega); (case q_k6 => with_unfolding_all rfl); k_whole))
  k_with "call builtin:len" => (k_here; (with_reducible show wpAny _ _ (call (Value.builtin "len") [Value.ref _]) _ _ _); refine' my_len ?q_k1 ?q_k2 ?_; (case q_k1 => first | assumption | ((rename GSub _ _ _ => kG9); (rename Fr _ _ _ _ => F9); refine' list_up ?q_t9 kG9 F9 (by simp); (case q_t9 => assumption))); (case q_k2 => first | assumption | omega); intro _ _)
  k_with "subscriptTail" => (k_here; (with_reducible show wpAny _ _ (subscriptTail _ _ (Value.ref _) (Value.int _ _)) _ _ _); (with_unfolding_all refine' my_titem ?q_k1 ?q_k2 ?q_k3 ?q_k4 ?_ ?q_k6; (case q_k1 => first | assumption | ((rename GSub _ _ _ => kG9); (rename Fr _ _ _ _ => F9); refine' TT.up ?q_t9 kG9 F9 (by simp); (case q_t9 => assumption))); (case q_k2 => first | assumption | decide | omega); (case q_k3 => first | assumption | exact rfl); (case q_k4 => first | assumption | (simp only [List.length_cons, List.length_nil]; decide)); (case q_k6 => with_unfolding_all rfl); k_whole))
  k_with "exec While Compare cons nil" => (k_here; refine stopHere ?_)
  k_with "callWith ref" => (k_here; k_dflt (refine' callWith_F ?q_k1 ?_; (case q_k1 => first | assumption | ((rename GSub _ _ _ => kG9); (rename Fr _ _ _ _ => F9); refine' fnAt_up ?q_t9 kG9 F9 (by simp); (case q_t9 => assumption))); k_whole))
  k_with "And" => ((with_reducible show FnAt _ _ ∧ _); (refine ⟨by first | assumption | ((rename GSub _ _ _ => kG9); (rename Fr _ _ _ _ => F9); refine' fnAt_up ?q_t9 kG9 F9 (by simp); (case q_t9 => assumption)), ?_⟩); (try dsimp only [List.nil_append, List.cons_append]))
  k_with "call ref" => (k_here; (rename KeySpec _ _ _ _ _ _ _ _ _ _ => hk9); k_dflt (refine' hk9 ?q_k1 ?q_k2 ?q_k3 ?q_k4 ?q_k5 ?q_k6 ?q_k7 ?q_k8 ?_; (case q_k1 => k_asm); (case q_k2 => k_asm); (case q_k3 => k_asm); (case q_k4 => k_asm); (case q_k5 => first | exact rfl | assumption); (case q_k6 => ktr_room); (case q_k7 => ktr_units); (case q_k8 => ((rename GSub _ _ _ => kG9); (rename Fr _ _ _ _ => F9); exact kp_up kG9 F9))); intro _ _ _ _; ((rename Kp _ _ => k9); (rename Fr _ _ _ _ => F9); (rename News _ _ _ _ => N9); (have F8 := fr_kp F9 k9); (have N8 := news_kp N9 k9); (try dsimp only); (try k_fold)))
  trivial
section
theorem bis_key_strs (B : Below A₀ base outer h₀) (F : Fr h₀ L s.heap m) (X : (hd.heap_1 w.params).In h₀) (T : Top p loose mean mg mb h₀) (hk : cs.kind = .function) (hd1 : dp + 20 < recursionLimit) (hu : un + 200 < cLine)
    (l : Addr) (vs : List Value) (hl : s.heap.IsList l vs.toArray) (hn : vs.length < 2 ^ 20) (ns : Nat → Str) (f : Addr) (hf : FnAt f s.heap) (hi : ∀ i, i < vs.length → ∃ v, vs[i]? = some v ∧ KeySpec w p loose mean mg mb s.heap (.ref f) v (fun t => .str (ns i) t)) (x : Str) (tx t0 : Tok)
    (hret : ∀ (t : Tok) (h' : Heap) (tk' : Nat), Kp s.heap h' → Q (.int (bis (fun i => decide (x.cps.toList < (ns i).cps.toList)) 0 vs.length : Nat) t) { s with heap := h', toks := tk' }) :
    wpAny (model PySem.Challenge.rw_uc0025_01.row.prog w) (ktrTop dp un gd cn cs L a ccd cl outer) (call (.ref 56) [.ref l, .str x tx, .int 0 t0, .none] [(Str.ofString "key", .ref f)]) Q E s := by
  refine wpAny_call ?_
  k_dflt (refine' enterP ?k1 ?k2 ?k3 ?k4 ?k5 ?kA ?kF ?kK ?k6 ?k7 ?k8 ?k9 ?kB ?_ ?c2 ?c3 ?c4 ?c5; (case kA => exact rfl); (case kF => exact rfl); (case kK => assumption); (case k1 => k_asm); (case k2 => k_asm); (case k3 => k_asm); (case k4 => first | assumption | exact News.nil); (case k5 => k_asm); (case k6 => k_is); (case k7 => k_is); (case k8 => ktr_room); (case k9 => first | exact BindsTo.of_eq rfl | exact binds_K (by k_in) rfl (by k_is) rfl rfl rfl | exact binds_peek (by k_in) (fun _ => rfl)); (case c5 => decide); (case kB => exact locs rfl); (case c2 => exact rfl); (case c3 => exact rfl); (case c4 => exact rfl); k_whole; intro g1 L1 h1 FG1 F0 N1 B1 X1 T1 kG1; (try dsimp only); (try k_lift B1); (try k_fold))
  have F1 : Fr g1 L1 h1 (fun y => List.lookup y [(Str.ofString "key", Value.ref f), (Str.ofString "hi", Value.none), (Str.ofString "lo", Value.int 0 t0), (Str.ofString "x", Value.str x tx), (Str.ofString "a", Value.ref l)]) := F0
  clear F0

  have hn' : vs.length < 2 ^ 62 := by omega
  k_steps
  unfold Stop
  rename_i t2 tk2 h2 F2 N2
  generalize hlt : (fun i => decide (x.cps.toList < (ns i).cps.toList)) = lt at hret
  refine ksw_while (σ := Nat × Nat × Tok × Tok) (fun _ => []) (fun c => [(Str.ofString "lo", Value.int (c.1 : Int) c.2.2.1), (Str.ofString "hi", Value.int (c.2.1 : Int) c.2.2.2)]) (fun _ => True) [Str.ofString "mid"]
    (fun c => c.1 ≤ c.2.1 ∧ c.2.1 ≤ vs.length ∧ bis lt c.1 c.2.1 = bis lt 0 vs.length) (fun c => c.2.1 - c.1) (0, vs.length, t0, t2) F2 N2 trivial ?_ ⟨Nat.zero_le _, Nat.le_refl _, rfl⟩ ?_
  · intro q hq
    simp only [List.mem_cons, List.not_mem_nil, or_false] at hq
    rcases hq with rfl | rfl <;> rfl
  · rintro ⟨lo, hi', t3, t4⟩ u h3 tk3 _ ⟨c1, c2, c3⟩ F3 N3
    dsimp only at c1 c2 c3
    clear F2 N2
    by_cases hlh : lo < hi'
    · obtain ⟨vm, hmid, hkm⟩ := hi ((lo + hi') / 2) (by omega)
      dsimp only at F3 ⊢
      k_steps
      · rename_i hc h4 F4 N4
        have e : Int.fdiv ((lo : Int) + (hi' : Int)) 2 = (((lo + hi') / 2 : Nat) : Int) := by rw [Int.fdiv_eq_ediv_of_nonneg _ (by decide)]; omega
        simp only [e] at F4
        refine' ksw_end (lo, (lo + hi') / 2, t3, ?tta5) F4 N4 (fun _ h => h) trivial ?ks ?kr ⟨?p1, ?p2, ?p3⟩ ?mu
        case ks => kst_all
        case kr => (intro z9 h2 h3; (simp only [List.forall_mem_cons, List.not_mem_nil, false_implies, implies_true, and_true, ne_eq] at h2); (simp only [List.contains_cons, List.contains_nil, Bool.or_false, Bool.or_eq_false_iff, beq_eq_false_iff_ne, ne_eq] at h3); (simp [kstB, h2, h3]))
        case p1 => dsimp only; omega
        case p2 => dsimp only; omega
        case p3 =>
          dsimp only
          rw [← c3]
          exact (bis_left hlh (by rw [← hlt]; exact decide_eq_true hc)).symm
        case mu => dsimp only; omega
      · rename_i hc h4 F4 N4
        have e : Int.fdiv ((lo : Int) + (hi' : Int)) 2 + 1 = (((lo + hi') / 2 + 1 : Nat) : Int) := by rw [Int.fdiv_eq_ediv_of_nonneg _ (by decide)]; omega
        simp only [e] at F4
        refine' ksw_end ((lo + hi') / 2 + 1, hi', ?ttb5, t4) F4 N4 (fun _ h => h) trivial ?ks ?kr ⟨?p1, ?p2, ?p3⟩ ?mu
        case ks => kst_all
        case kr => (intro z9 h2 h3; (simp only [List.forall_mem_cons, List.not_mem_nil, false_implies, implies_true, and_true, ne_eq] at h2); (simp only [List.contains_cons, List.contains_nil, Bool.or_false, Bool.or_eq_false_iff, beq_eq_false_iff_ne, ne_eq] at h3); (simp [kstB, h2, h3]))
        case p1 => dsimp only; omega
        case p2 => dsimp only; omega
        case p3 =>
          dsimp only
          rw [← c3]
          exact (bis_right hlh (by rw [← hlt]; exact decide_eq_false hc)).symm
        case mu => dsimp only; omega
    · dsimp only at F3 ⊢
      k_steps
      dsimp only
      rw [bis_stop hlh] at c3
      rw [← c3] at hret
      exact hret _ _ _ (by (intro b9 o9 e9; (rename GSub _ _ _ => kG9); (rename Fr _ _ _ _ => F9); exact F9.keep b9 o9 (kG9 b9 o9 e9 (by simp))))
end

/-! I1 -/
example : True := by
  k_with_none
  k_with "subscriptTail" => (k_here; (with_reducible show wpAny _ _ (subscriptTail _ _ (Value.ref _) (Value.int _ _)) _ _ _); (with_unfolding_all refine' my_item ?q_k1 ?q_k2 ?q_k3 ?q_k4 ?_ ?q_k6; (case q_k1 => first | assumption | ((rename GSub _ _ _ => kG9); (rename Fr _ _ _ _ => F9); refine' list_up ?q_t9 kG9 F9 (by simp); (case q_t9 => assumption))); (case q_k2 => assumption); (case q_k3 => first | rfl | assumption | omega | (simp only [Int.fdiv_eq_ediv_of_nonneg _ (by decide : (0 : Int) ≤ 2)]; omega)); (case q_k4 => first | assumption | omega); (case q_k6 => with_unfolding_all rfl); k_whole))
  k_with "call builtin:len" => (k_here; (with_reducible show wpAny _ _ (call (Value.builtin "len") [Value.ref _]) _ _ _); refine' my_len ?q_k1 ?q_k2 ?_; (case q_k1 => first | assumption | ((rename GSub _ _ _ => kG9); (rename Fr _ _ _ _ => F9); refine' list_up ?q_t9 kG9 F9 (by simp); (case q_t9 => assumption))); (case q_k2 => first | assumption | omega); intro _ _)
  k_with "subscriptTail" => (k_here; (with_reducible show wpAny _ _ (subscriptTail _ _ (Value.ref _) (Value.int _ _)) _ _ _); (with_unfolding_all refine' my_titem ?q_k1 ?q_k2 ?q_k3 ?q_k4 ?_ ?q_k6; (case q_k1 => first | assumption | ((rename GSub _ _ _ => kG9); (rename Fr _ _ _ _ => F9); refine' TT.up ?q_t9 kG9 F9 (by simp); (case q_t9 => assumption))); (case q_k2 => first | assumption | decide | omega); (case q_k3 => first | assumption | exact rfl); (case q_k4 => first | assumption | (simp only [List.length_cons, List.length_nil]; decide)); (case q_k6 => with_unfolding_all rfl); k_whole))
  k_with "call ref" => (k_here; refine stopHere ?_)
  k_with "call builtin:list.insert" => (k_here; refine stopHere ?_)
  trivial
section
theorem insort_lists (B : Below A₀ base outer h₀) (F : Fr h₀ L s.heap m) (X : (hd.heap_1 w.params).In h₀) (T : Top p loose mean mg mb h₀) (hk : cs.kind = .function) (hd1 : dp + 30 < recursionLimit) (hu : un + 300 < cLine)
    (l : Addr) (vs : List Value) (hl : LL s.heap l vs) (hn : vs.length < 2 ^ 19) (hf0 : h₀.get? l = none) (hlL : l ≠ L)
    (ns : Nat → Int) (hi : ∀ i, i < vs.length → ∃ a t c, vs[i]? = some (.ref a) ∧ s.heap.get? a = some (listOf #[.int (ns i) t] c) ∧ a ≠ l)
    (lx : Addr) (x : Int) (tx : Tok) (cx : Nat) (hx : s.heap.get? lx = some (listOf #[.int x tx] cx)) (hxl : lx ≠ l)
    (hret : ∀ (h' : Heap) (tk' : Nat), LL h' l (vs.take (bis (fun i => decide (x < ns i)) 0 vs.length) ++ .ref lx :: vs.drop (bis (fun i => decide (x < ns i)) 0 vs.length)) → Kx [l] s.heap h' → Q .none { s with heap := h', toks := tk' }) :
    wpAny (model PySem.Challenge.rw_uc0025_01.row.prog w) (ktrTop dp un gd cn cs L a ccd cl outer) (call (.ref 47) [.ref l, .ref lx]) Q E s := by
  obtain ⟨nl, ho⟩ := id hl
  have N : News h₀ L s.heap [(l, listOf vs.toArray nl)] := fun q hq => by
    rw [List.mem_singleton.mp hq]
    exact ⟨ho, hlL, hf0⟩
  refine wpAny_call ?_
  k_dflt (refine' enterP ?k1 ?k2 ?k3 ?k4 ?k5 ?kA ?kF ?kK ?k6 ?k7 ?k8 ?k9 ?kB ?_ ?c2 ?c3 ?c4 ?c5; (case kA => exact rfl); (case kF => exact rfl); (case kK => assumption); (case k1 => k_asm); (case k2 => k_asm); (case k3 => k_asm); (case k4 => first | assumption | exact News.nil); (case k5 => k_asm); (case k6 => k_is); (case k7 => k_is); (case k8 => ktr_room); (case k9 => first | exact BindsTo.of_eq rfl | exact binds_K (by k_in) rfl (by k_is) rfl rfl rfl | exact binds_peek (by k_in) (fun _ => rfl)); (case c5 => decide); (case kB => exact locs rfl); (case c2 => exact rfl); (case c3 => exact rfl); (case c4 => exact rfl); k_whole; intro g1 L1 h1 FG1 F0 N1 B1 X1 T1 kG1; (try dsimp only); (try k_lift B1); (try k_fold))
  have F1 : Fr g1 L1 h1 (fun y => List.lookup y [(Str.ofString "key", Value.none), (Str.ofString "hi", Value.none), (Str.ofString "lo", Value.int 0 291), (Str.ofString "x", Value.ref lx), (Str.ofString "a", Value.ref l)]) := F0
  clear F0
  k_steps
  unfold Stop
  k_dflt (refine' bis_lists ?b ?f ?x ?t ?k ?d ?u l vs ?hl ?hn ns ?hi lx x tx cx 291 ?hx ?_)
  case b => exact B1
  case f => exact F1
  case x => exact X1
  case t => exact T1
  case k => exact rfl
  case d => first | exact room_le hd1 rfl | ktr_room
  case u => first | exact units_le hu rfl | ktr_units
  case hl => exact (LL.of_news N1 (.head _)).isList
  case hn => omega
  case hi =>
    intro i h9
    obtain ⟨a9, t9, c9, e1, e2, e3⟩ := hi i h9
    exact ⟨a9, t9, c9, e1, F1.keep _ _ (kG1 _ _ e2 (by simpa using e3)), ⟩
  case hx => exact F1.keep _ _ (kG1 _ _ hx (by simpa using hxl))
  intro t9 h9 tk9 k9
  have F2 := fr_kp F1 k9
  have N2 := news_kp N1 k9
  dsimp only at F2 N2 ⊢
  clear F1 N1
  k_steps
  unfold Stop
  rename_i h3 F3 N3
  refine insert_LL (LL.of_news N3 (.head _)) (bis_le (Nat.zero_le _)).2 (by omega) fun h4 l4 k4 => ?_
  have F4 := fr_kx F3 k4 (none_news N3)
  have N4 : News g1 L1 h4 [] := News.nil
  dsimp only at F4 N4 ⊢
  clear F3 N3
  k_steps
  (try dsimp only)
  exact hret _ _ l4 (kx_up kG1 F4)
end

/-! I2 -/
example : True := by
  k_with_none
  k_with "subscriptTail" => (k_here; (with_reducible show wpAny _ _ (subscriptTail _ _ (Value.ref _) (Value.int _ _)) _ _ _); (with_unfolding_all refine' my_item ?q_k1 ?q_k2 ?q_k3 ?q_k4 ?_ ?q_k6; (case q_k1 => first | assumption | ((rename GSub _ _ _ => kG9); (rename Fr _ _ _ _ => F9); refine' list_up ?q_t9 kG9 F9 (by simp); (case q_t9 => assumption))); (case q_k2 => assumption); (case q_k3 => first | rfl | assumption | omega | (simp only [Int.fdiv_eq_ediv_of_nonneg _ (by decide : (0 : Int) ≤ 2)]; omega)); (case q_k4 => first | assumption | omega); (case q_k6 => with_unfolding_all rfl); k_whole))
  k_with "call builtin:len" => (k_here; (with_reducible show wpAny _ _ (call (Value.builtin "len") [Value.ref _]) _ _ _); refine' my_len ?q_k1 ?q_k2 ?_; (case q_k1 => first | assumption | ((rename GSub _ _ _ => kG9); (rename Fr _ _ _ _ => F9); refine' list_up ?q_t9 kG9 F9 (by simp); (case q_t9 => assumption))); (case q_k2 => first | assumption | omega); intro _ _)
  k_with "subscriptTail" => (k_here; (with_reducible show wpAny _ _ (subscriptTail _ _ (Value.ref _) (Value.int _ _)) _ _ _); (with_unfolding_all refine' my_titem ?q_k1 ?q_k2 ?q_k3 ?q_k4 ?_ ?q_k6; (case q_k1 => first | assumption | ((rename GSub _ _ _ => kG9); (rename Fr _ _ _ _ => F9); refine' TT.up ?q_t9 kG9 F9 (by simp); (case q_t9 => assumption))); (case q_k2 => first | assumption | decide | omega); (case q_k3 => first | assumption | exact rfl); (case q_k4 => first | assumption | (simp only [List.length_cons, List.length_nil]; decide)); (case q_k6 => with_unfolding_all rfl); k_whole))
  k_with "call ref" => (k_here; refine stopHere ?_)
  k_with "callWith ref" => (k_here; k_dflt (refine' callWith_F ?q_k1 ?_; (case q_k1 => first | assumption | ((rename GSub _ _ _ => kG9); (rename Fr _ _ _ _ => F9); refine' fnAt_up ?q_t9 kG9 F9 (by simp); (case q_t9 => assumption))); k_whole))
  k_with "And" => ((with_reducible show FnAt _ _ ∧ _); (refine ⟨by first | assumption | ((rename GSub _ _ _ => kG9); (rename Fr _ _ _ _ => F9); refine' fnAt_up ?q_t9 kG9 F9 (by simp); (case q_t9 => assumption)), ?_⟩); (try dsimp only [List.nil_append, List.cons_append]))
  k_with "call builtin:list.insert" => (k_here; refine stopHere ?_)
  trivial
section
theorem insort_key_ints (B : Below A₀ base outer h₀) (F : Fr h₀ L s.heap m) (X : (hd.heap_1 w.params).In h₀) (T : Top p loose mean mg mb h₀) (hk : cs.kind = .function) (hd1 : dp + 30 < recursionLimit) (hu : un + 300 < cLine)
    (l : Addr) (vs : List Value) (hl : LL s.heap l vs) (hn : vs.length < 2 ^ 19) (hf0 : h₀.get? l = none) (hlL : l ≠ L) (f : Addr) (hf : FnAt f s.heap) (hfl : f ≠ l)
    (ns : Nat → Int) (hi : ∀ i, i < vs.length → ∃ v, vs[i]? = some v ∧ KeySpec w p loose mean mg mb s.heap (.ref f) v (fun t => .int (ns i) t))
    (xv : Value) (x : Int) (hx : KeySpec w p loose mean mg mb s.heap (.ref f) xv (fun t => .int x t))
    (hret : ∀ (h' : Heap) (tk' : Nat), LL h' l (vs.take (bis (fun i => decide (x < ns i)) 0 vs.length) ++ xv :: vs.drop (bis (fun i => decide (x < ns i)) 0 vs.length)) → Kx [l] s.heap h' → Q .none { s with heap := h', toks := tk' }) :
    wpAny (model PySem.Challenge.rw_uc0025_01.row.prog w) (ktrTop dp un gd cn cs L a ccd cl outer) (call (.ref 47) [.ref l, xv] [(Str.ofString "key", .ref f)]) Q E s := by
  obtain ⟨nl, ho⟩ := id hl
  have N : News h₀ L s.heap [(l, listOf vs.toArray nl)] := fun q hq => by
    rw [List.mem_singleton.mp hq]
    exact ⟨ho, hlL, hf0⟩
  refine wpAny_call ?_
  k_dflt (refine' enterP ?k1 ?k2 ?k3 ?k4 ?k5 ?kA ?kF ?kK ?k6 ?k7 ?k8 ?k9 ?kB ?_ ?c2 ?c3 ?c4 ?c5; (case kA => exact rfl); (case kF => exact rfl); (case kK => assumption); (case k1 => k_asm); (case k2 => k_asm); (case k3 => k_asm); (case k4 => first | assumption | exact News.nil); (case k5 => k_asm); (case k6 => k_is); (case k7 => k_is); (case k8 => ktr_room); (case k9 => first | exact BindsTo.of_eq rfl | exact binds_K (by k_in) rfl (by k_is) rfl rfl rfl | exact binds_peek (by k_in) (fun _ => rfl)); (case c5 => decide); (case kB => exact locs rfl); (case c2 => exact rfl); (case c3 => exact rfl); (case c4 => exact rfl); k_whole; intro g1 L1 h1 FG1 F0 N1 B1 X1 T1 kG1; (try dsimp only); (try k_lift B1); (try k_fold))
  have F1 : Fr g1 L1 h1 (fun y => List.lookup y [(Str.ofString "key", Value.ref f), (Str.ofString "hi", Value.none), (Str.ofString "lo", Value.int 0 291), (Str.ofString "x", xv), (Str.ofString "a", Value.ref l)]) := F0
  clear F0
  have K1 : Kp s.heap h1 := kp_full kG1 F1 N1 (fun q hq => by rw [List.mem_singleton.mp hq]; exact ho)
  have hfn := fnAt_kp hf K1
  k_steps
  unfold Stop
  k_dflt (refine' hx B1 F1 X1 T1 ?k ?d ?u K1 ?_)
  case k => exact rfl
  case d => first | exact room_le hd1 rfl | ktr_room
  case u => first | exact units_le hu rfl | ktr_units
  intro t9 h9 tk9 k9
  have F2 := fr_kp F1 k9
  have N2 := news_kp N1 k9
  have K2 := Kp.trans K1 k9
  have hfn2 := fnAt_kp hfn k9
  dsimp only at F2 N2 K2 hfn2 ⊢
  clear F1 N1 hfn
  k_steps
  unfold Stop
  k_dflt (refine' bis_key_ints B1 F2 X1 T1 ?k ?d ?u l vs ?hl ?hn ns f ?hf ?hi x t9 291 ?_)
  case k => exact rfl
  case d => first | exact room_le hd1 rfl | ktr_room
  case u => first | exact units_le hu rfl | ktr_units
  case hl => exact (LL.of_news N2 (.head _)).isList
  case hn => omega
  case hf => exact hfn2
  case hi =>
    intro i h9
    obtain ⟨v9, e1, e2⟩ := hi i h9
    exact ⟨v9, e1, keySpec_up e2 K2⟩
  intro t10 h10 tk10 k10
  have F3 := fr_kp F2 k10
  have N3 := news_kp N2 k10
  dsimp only at F3 N3 ⊢
  clear F2 N2
  k_steps
  unfold Stop
  rename_i h3 F4 N4
  refine insert_LL (LL.of_news N4 (.head _)) (bis_le (Nat.zero_le _)).2 (by omega) fun h5 l5 k5 => ?_
  have F5 := fr_kx F4 k5 (none_news N4)
  have N5 : News g1 L1 h5 [] := News.nil
  dsimp only at F5 N5 ⊢
  clear F4 N4
  k_steps
  (try dsimp only)
  exact hret _ _ l5 (kx_up kG1 F5)
end

/-! I3 -/
example : True := by
  k_with_none
  k_with "subscriptTail" => (k_here; (with_reducible show wpAny _ _ (subscriptTail _ _ (Value.ref _) (Value.int _ _)) _ _ _); (with_unfolding_all refine' my_item ?q_k1 ?q_k2 ?q_k3 ?q_k4 ?_ ?q_k6; (case q_k1 => first | assumption | ((rename GSub _ _ _ => kG9); (rename Fr _ _ _ _ => F9); refine' list_up ?q_t9 kG9 F9 (by simp); (case q_t9 => assumption))); (case q_k2 => assumption); (case q_k3 => first | rfl | assumption | omega | (simp only [Int.fdiv_eq_ediv_of_nonneg _ (by decide : (0 : Int) ≤ 2)]; omega)); (case q_k4 => first | assumption | omega); (case q_k6 => with_unfolding_all rfl); k_whole))
  k_with "call builtin:len" => (k_here; (with_reducible show wpAny _ _ (call (Value.builtin "len") [Value.ref _]) _ _ _); refine' my_len ?q_k1 ?q_k2 ?_; (case q_k1 => first | assumption | ((rename GSub _ _ _ => kG9); (rename Fr _ _ _ _ => F9); refine' list_up ?q_t9 kG9 F9 (by simp); (case q_t9 => assumption))); (case q_k2 => first | assumption | omega); intro _ _)
  k_with "subscriptTail" => (k_here; (with_reducible show wpAny _ _ (subscriptTail _ _ (Value.ref _) (Value.int _ _)) _ _ _); (with_unfolding_all refine' my_titem ?q_k1 ?q_k2 ?q_k3 ?q_k4 ?_ ?q_k6; (case q_k1 => first | assumption | ((rename GSub _ _ _ => kG9); (rename Fr _ _ _ _ => F9); refine' TT.up ?q_t9 kG9 F9 (by simp); (case q_t9 => assumption))); (case q_k2 => first | assumption | decide | omega); (case q_k3 => first | assumption | exact rfl); (case q_k4 => first | assumption | (simp only [List.length_cons, List.length_nil]; decide)); (case q_k6 => with_unfolding_all rfl); k_whole))
  k_with "call ref" => (k_here; refine stopHere ?_)
  k_with "callWith ref" => (k_here; k_dflt (refine' callWith_F ?q_k1 ?_; (case q_k1 => first | assumption | ((rename GSub _ _ _ => kG9); (rename Fr _ _ _ _ => F9); refine' fnAt_up ?q_t9 kG9 F9 (by simp); (case q_t9 => assumption))); k_whole))
  k_with "And" => ((with_reducible show FnAt _ _ ∧ _); (refine ⟨by first | assumption | ((rename GSub _ _ _ => kG9); (rename Fr _ _ _ _ => F9); refine' fnAt_up ?q_t9 kG9 F9 (by simp); (case q_t9 => assumption)), ?_⟩); (try dsimp only [List.nil_append, List.cons_append]))
  k_with "call builtin:list.insert" => (k_here; refine stopHere ?_)
  trivial
section
theorem insort_key_strs (B : Below A₀ base outer h₀) (F : Fr h₀ L s.heap m) (X : (hd.heap_1 w.params).In h₀) (T : Top p loose mean mg mb h₀) (hk : cs.kind = .function) (hd1 : dp + 30 < recursionLimit) (hu : un + 300 < cLine)
    (l : Addr) (vs : List Value) (hl : LL s.heap l vs) (hn : vs.length < 2 ^ 19) (hf0 : h₀.get? l = none) (hlL : l ≠ L) (f : Addr) (hf : FnAt f s.heap) (hfl : f ≠ l)
    (ns : Nat → Str) (hi : ∀ i, i < vs.length → ∃ v, vs[i]? = some v ∧ KeySpec w p loose mean mg mb s.heap (.ref f) v (fun t => .str (ns i) t))
    (xv : Value) (x : Str) (hx : KeySpec w p loose mean mg mb s.heap (.ref f) xv (fun t => .str x t))
    (hret : ∀ (h' : Heap) (tk' : Nat), LL h' l (vs.take (bis (fun i => decide (x.cps.toList < (ns i).cps.toList)) 0 vs.length) ++ xv :: vs.drop (bis (fun i => decide (x.cps.toList < (ns i).cps.toList)) 0 vs.length)) → Kx [l] s.heap h' → Q .none { s with heap := h', toks := tk' }) :
    wpAny (model PySem.Challenge.rw_uc0025_01.row.prog w) (ktrTop dp un gd cn cs L a ccd cl outer) (call (.ref 47) [.ref l, xv] [(Str.ofString "key", .ref f)]) Q E s := by
  obtain ⟨nl, ho⟩ := id hl
  have N : News h₀ L s.heap [(l, listOf vs.toArray nl)] := fun q hq => by
    rw [List.mem_singleton.mp hq]
    exact ⟨ho, hlL, hf0⟩
  refine wpAny_call ?_
  k_dflt (refine' enterP ?k1 ?k2 ?k3 ?k4 ?k5 ?kA ?kF ?kK ?k6 ?k7 ?k8 ?k9 ?kB ?_ ?c2 ?c3 ?c4 ?c5; (case kA => exact rfl); (case kF => exact rfl); (case kK => assumption); (case k1 => k_asm); (case k2 => k_asm); (case k3 => k_asm); (case k4 => first | assumption | exact News.nil); (case k5 => k_asm); (case k6 => k_is); (case k7 => k_is); (case k8 => ktr_room); (case k9 => first | exact BindsTo.of_eq rfl | exact binds_K (by k_in) rfl (by k_is) rfl rfl rfl | exact binds_peek (by k_in) (fun _ => rfl)); (case c5 => decide); (case kB => exact locs rfl); (case c2 => exact rfl); (case c3 => exact rfl); (case c4 => exact rfl); k_whole; intro g1 L1 h1 FG1 F0 N1 B1 X1 T1 kG1; (try dsimp only); (try k_lift B1); (try k_fold))
  have F1 : Fr g1 L1 h1 (fun y => List.lookup y [(Str.ofString "key", Value.ref f), (Str.ofString "hi", Value.none), (Str.ofString "lo", Value.int 0 291), (Str.ofString "x", xv), (Str.ofString "a", Value.ref l)]) := F0
  clear F0
  have K1 : Kp s.heap h1 := kp_full kG1 F1 N1 (fun q hq => by rw [List.mem_singleton.mp hq]; exact ho)
  have hfn := fnAt_kp hf K1
  k_steps
  unfold Stop
  k_dflt (refine' hx B1 F1 X1 T1 ?k ?d ?u K1 ?_)
  case k => exact rfl
  case d => first | exact room_le hd1 rfl | ktr_room
  case u => first | exact units_le hu rfl | ktr_units
  intro t9 h9 tk9 k9
  have F2 := fr_kp F1 k9
  have N2 := news_kp N1 k9
  have K2 := Kp.trans K1 k9
  have hfn2 := fnAt_kp hfn k9
  dsimp only at F2 N2 K2 hfn2 ⊢
  clear F1 N1 hfn
  k_steps
  unfold Stop
  k_dflt (refine' bis_key_strs B1 F2 X1 T1 ?k ?d ?u l vs ?hl ?hn ns f ?hf ?hi x t9 291 ?_)
  case k => exact rfl
  case d => first | exact room_le hd1 rfl | ktr_room
  case u => first | exact units_le hu rfl | ktr_units
  case hl => exact (LL.of_news N2 (.head _)).isList
  case hn => omega
  case hf => exact hfn2
  case hi =>
    intro i h9
    obtain ⟨v9, e1, e2⟩ := hi i h9
    exact ⟨v9, e1, keySpec_up e2 K2⟩
  intro t10 h10 tk10 k10
  have F3 := fr_kp F2 k10
  have N3 := news_kp N2 k10
  dsimp only at F3 N3 ⊢
  clear F2 N2
  k_steps
  unfold Stop
  rename_i h3 F4 N4
  refine insert_LL (LL.of_news N4 (.head _)) (bis_le (Nat.zero_le _)).2 (by omega) fun h5 l5 k5 => ?_
  have F5 := fr_kx F4 k5 (none_news N4)
  have N5 : News g1 L1 h5 [] := News.nil
  dsimp only at F5 N5 ⊢
  clear F4 N4
  k_steps
  (try dsimp only)
  exact hret _ _ l5 (kx_up kG1 F5)
end

/-! D1 -/
example : True := by
  k_with_none
  k_with "subscriptTail" => (k_here; (with_reducible show wpAny _ _ (subscriptTail _ _ (Value.ref _) (Value.int _ _)) _ _ _); (with_unfolding_all refine' my_item ?q_k1 ?q_k2 ?q_k3 ?q_k4 ?_ ?q_k6; (case q_k1 => first | assumption | ((rename GSub _ _ _ => kG9); (rename Fr _ _ _ _ => F9); refine' list_up ?q_t9 kG9 F9 (by simp); (case q_t9 => assumption))); (case q_k2 => assumption); (case q_k3 => first | rfl | assumption | omega | (simp only [Int.fdiv_eq_ediv_of_nonneg _ (by decide : (0 : Int) ≤ 2)]; omega)); (case q_k4 => first | assumption | omega); (case q_k6 => with_unfolding_all rfl); k_whole))
  k_with "call builtin:len" => (k_here; (with_reducible show wpAny _ _ (call (Value.builtin "len") [Value.ref _]) _ _ _); refine' my_len ?q_k1 ?q_k2 ?_; (case q_k1 => first | assumption | ((rename GSub _ _ _ => kG9); (rename Fr _ _ _ _ => F9); refine' list_up ?q_t9 kG9 F9 (by simp); (case q_t9 => assumption))); (case q_k2 => first | assumption | omega); intro _ _)
  k_with "subscriptTail" => (k_here; (with_reducible show wpAny _ _ (subscriptTail _ _ (Value.ref _) (Value.int _ _)) _ _ _); (with_unfolding_all refine' my_titem ?q_k1 ?q_k2 ?q_k3 ?q_k4 ?_ ?q_k6; (case q_k1 => first | assumption | ((rename GSub _ _ _ => kG9); (rename Fr _ _ _ _ => F9); refine' TT.up ?q_t9 kG9 F9 (by simp); (case q_t9 => assumption))); (case q_k2 => first | assumption | decide | omega); (case q_k3 => first | assumption | exact rfl); (case q_k4 => first | assumption | (simp only [List.length_cons, List.length_nil]; decide)); (case q_k6 => with_unfolding_all rfl); k_whole))
  k_with "exec For Name Name cons nil" => (k_here; refine stopHere ?_)
  k_with "pyIter ref" => (k_here; refine stopHere ?_)
  k_with "compareOp Is" => (k_here; (with_reducible show wpAny _ _ (compareOp CmpOp.Is (Value.int _ _) (Value.int _ _)) _ _ _); refine my_is_int (by k_in) ?_ ?_ ?_ ?_; assumption; assumption; assumption; intro _ _)
  trivial
section
theorem countOf_c (B : Below A₀ base outer h₀) (F : Fr h₀ L s.heap m) (X : (hd.heap_1 w.params).In h₀) (T : Top p loose mean mg mb h₀) (hk : cs.kind = .function) (hd1 : dp + 20 < recursionLimit) (hu : un + 200 < cLine)
    (l : Addr) (vs : List Value) (hl : s.heap.IsList l vs.toArray) (hn : vs.length < 2 ^ 20) (ns : Nat → Int) (x : Int) (tx : Tok) (htx : tx ≠ 0) (hi : ∀ i, i < vs.length → ∃ t, vs[i]? = some (.int (ns i) t) ∧ t ≠ 0 ∧ (t = tx → ns i = x))
    (hret : ∀ (t : Tok) (h' : Heap) (tk' : Nat), Kp s.heap h' → Q (.int (cntB (fun i => decide (ns i = x)) vs.length : Nat) t) { s with heap := h', toks := tk' }) :
    wpAny (model PySem.Challenge.rw_uc0025_01.row.prog w) (ktrTop dp un gd cn cs L a ccd cl outer) (call (.ref 77) [.ref l, .int x tx]) Q E s := by
  refine wpAny_call ?_
  k_dflt (refine' enterP ?k1 ?k2 ?k3 ?k4 ?k5 ?kA ?kF ?kK ?k6 ?k7 ?k8 ?k9 ?kB ?_ ?c2 ?c3 ?c4 ?c5; (case kA => exact rfl); (case kF => exact rfl); (case kK => assumption); (case k1 => k_asm); (case k2 => k_asm); (case k3 => k_asm); (case k4 => first | assumption | exact News.nil); (case k5 => k_asm); (case k6 => k_is); (case k7 => k_is); (case k8 => ktr_room); (case k9 => first | exact BindsTo.of_eq rfl | exact binds_K (by k_in) rfl (by k_is) rfl rfl rfl | exact binds_peek (by k_in) (fun _ => rfl)); (case c5 => decide); (case kB => exact locs rfl); (case c2 => exact rfl); (case c3 => exact rfl); (case c4 => exact rfl); k_whole; intro g1 L1 h1 FG1 F0 N1 B1 X1 T1 kG1; (try dsimp only); (try k_lift B1); (try k_fold))
  have F1 : Fr g1 L1 h1 (fun y => List.lookup y [(Str.ofString "b", Value.int x tx), (Str.ofString "a", Value.ref l)]) := F0
  clear F0
  refine wpAny_noRaise' ?_
  k_steps
  unfold Stop
  refine wpAny_For ?_
  k_steps
  unfold Stop
  rename_i h2 F2 N2
  have hlg : g1.IsList l vs.toArray := hl.at fun o e => kG1 _ _ e (by simp)
  refine iter_list F2 (hlg.at fun o e => F2.keep _ _ e) fun it h3 F3 _ hit hgi hiL => ?_
  refine for_list rfl rfl rfl F3 hit hlg hgi hiL
    (fun i m => m (Str.ofString "a") = some (.ref l) ∧ m (Str.ofString "b") = some (.int x tx) ∧ ∃ t, m (Str.ofString "count") = some (.int (cntB (fun i => decide (ns i = x)) i : Nat) t)) ⟨rfl, rfl, _, rfl⟩ ?_ ?_
  · rintro i v tk2 m₁ h4 ito hv ⟨j1, j2, tc, j3⟩ F4 N4
    obtain ⟨ti, hvi, ht1, ht2⟩ := hi i (by rcases Nat.lt_or_ge i vs.length with h | h; exact h; rw [List.getElem?_eq_none h] at hv; cases hv)
    rw [hvi] at hv
    cases hv
    have F5 := fr_reads [(Str.ofString "i", Value.int (ns i) ti), (Str.ofString "a", Value.ref l), (Str.ofString "b", Value.int x tx), (Str.ofString "count", Value.int (cntB (fun i => decide (ns i = x)) i : Nat) tc)] F4 (by
      intro q hq
      simp only [List.mem_cons, List.not_mem_nil, or_false] at hq
      rcases hq with rfl | rfl | rfl | rfl <;> first | rfl | exact j1 | exact j2 | exact j3)
    clear F4 F3 F2
    simp only [kstB] at F5
    k_steps
    · rename_i b9 hb9 hb h5 F6 N6
      have e : ((cntB (fun i => decide (ns i = x)) (i + 1) : Nat) : Int) = (cntB (fun i => decide (ns i = x)) i : Nat) + 1 := by simp [cntB, hb9 hb]
      refine ⟨_, _, _, rfl, F6, N6, rfl, rfl, ?_⟩
      rw [e]
      exact ⟨_, rfl⟩
    · rename_i b9 hb9 hb hx h5 F6 N6
      have e : ((cntB (fun i => decide (ns i = x)) (i + 1) : Nat) : Int) = (cntB (fun i => decide (ns i = x)) i : Nat) + 1 := by simp [cntB, hx]
      refine ⟨_, _, _, rfl, F6, N6, rfl, rfl, ?_⟩
      rw [e]
      exact ⟨_, rfl⟩
    · rename_i b9 hb9 hb hx
      have e : ((cntB (fun i => decide (ns i = x)) (i + 1) : Nat) : Int) = (cntB (fun i => decide (ns i = x)) i : Nat) := by simp [cntB, hx]
      refine ⟨_, _, _, rfl, F5, N4, rfl, rfl, ?_⟩
      rw [e]
      exact ⟨_, rfl⟩
  · rintro m₁ h4 tk2 ⟨j1, j2, tc, j3⟩ F4
    have F5 := fr_reads [(Str.ofString "count", Value.int (cntB (fun i => decide (ns i = x)) vs.length : Nat) tc)] F4 (by
      intro q hq
      rw [List.mem_singleton.mp hq]
      exact j3)
    simp only [kstB] at F5
    clear F4 F3 F2
    have N5 : News g1 L1 h4 [] := News.nil
    (try dsimp only)
    k_steps
    (try dsimp only)
    exact hret _ _ _ (by (intro b9 o9 e9; (rename GSub _ _ _ => kG9); (rename Fr _ _ _ _ => F9); exact F9.keep b9 o9 (kG9 b9 o9 e9 (by simp))))
end

/-! D2 -/
example : True := by
  k_with_none
  k_with "subscriptTail" => (k_here; (with_reducible show wpAny _ _ (subscriptTail _ _ (Value.ref _) (Value.int _ _)) _ _ _); (with_unfolding_all refine' my_item ?q_k1 ?q_k2 ?q_k3 ?q_k4 ?_ ?q_k6; (case q_k1 => first | assumption | ((rename GSub _ _ _ => kG9); (rename Fr _ _ _ _ => F9); refine' list_up ?q_t9 kG9 F9 (by simp); (case q_t9 => assumption))); (case q_k2 => assumption); (case q_k3 => first | rfl | assumption | omega | (simp only [Int.fdiv_eq_ediv_of_nonneg _ (by decide : (0 : Int) ≤ 2)]; omega)); (case q_k4 => first | assumption | omega); (case q_k6 => with_unfolding_all rfl); k_whole))
  k_with "call builtin:len" => (k_here; (with_reducible show wpAny _ _ (call (Value.builtin "len") [Value.ref _]) _ _ _); refine' my_len ?q_k1 ?q_k2 ?_; (case q_k1 => first | assumption | ((rename GSub _ _ _ => kG9); (rename Fr _ _ _ _ => F9); refine' list_up ?q_t9 kG9 F9 (by simp); (case q_t9 => assumption))); (case q_k2 => first | assumption | omega); intro _ _)
  k_with "subscriptTail" => (k_here; (with_reducible show wpAny _ _ (subscriptTail _ _ (Value.ref _) (Value.int _ _)) _ _ _); (with_unfolding_all refine' my_titem ?q_k1 ?q_k2 ?q_k3 ?q_k4 ?_ ?q_k6; (case q_k1 => first | assumption | ((rename GSub _ _ _ => kG9); (rename Fr _ _ _ _ => F9); refine' TT.up ?q_t9 kG9 F9 (by simp); (case q_t9 => assumption))); (case q_k2 => first | assumption | decide | omega); (case q_k3 => first | assumption | exact rfl); (case q_k4 => first | assumption | (simp only [List.length_cons, List.length_nil]; decide)); (case q_k6 => with_unfolding_all rfl); k_whole))
  k_with "exec For Tuple Call cons cons" => (k_here; refine stopHere ?_)
  k_with "pyIter ref" => (k_here; refine stopHere ?_)
  k_with "call type:enumerate" => (k_here; refine stopHere ?_)
  k_with "compareOp Is" => (k_here; (with_reducible show wpAny _ _ (compareOp CmpOp.Is (Value.int _ _) (Value.int _ _)) _ _ _); refine my_is_int (by k_in) ?_ ?_ ?_ ?_; assumption; assumption; assumption; intro _ _)
  trivial
section
theorem indexOf_int (B : Below A₀ base outer h₀) (F : Fr h₀ L s.heap m) (X : (hd.heap_1 w.params).In h₀) (T : Top p loose mean mg mb h₀) (hk : cs.kind = .function) (hd1 : dp + 20 < recursionLimit) (hu : un + 200 < cLine)
    (l : Addr) (vs : List Value) (hl : LL s.heap l vs) (hn : vs.length < 2 ^ 20) (ns : Nat → Int) (x : Int) (tx : Tok) (htx : tx ≠ 0) (hi : ∀ i, i < vs.length → ∃ t, vs[i]? = some (.int (ns i) t) ∧ t ≠ 0 ∧ (t = tx → ns i = x))
    (k : Nat) (hkl : k < vs.length) (hkx : ns k = x) (hkf : ∀ i, i < k → ns i ≠ x)
    (hret : ∀ (t : Tok) (h' : Heap) (tk' : Nat), Kp s.heap h' → Q (.int (k : Int) t) { s with heap := h', toks := tk' }) :
    wpAny (model PySem.Challenge.rw_uc0025_01.row.prog w) (ktrTop dp un gd cn cs L a ccd cl outer) (call (.ref 91) [.ref l, .int x tx]) Q E s := by
  refine wpAny_call ?_
  k_dflt (refine' enterP ?k1 ?k2 ?k3 ?k4 ?k5 ?kA ?kF ?kK ?k6 ?k7 ?k8 ?k9 ?kB ?_ ?c2 ?c3 ?c4 ?c5; (case kA => exact rfl); (case kF => exact rfl); (case kK => assumption); (case k1 => k_asm); (case k2 => k_asm); (case k3 => k_asm); (case k4 => first | assumption | exact News.nil); (case k5 => k_asm); (case k6 => k_is); (case k7 => k_is); (case k8 => ktr_room); (case k9 => first | exact BindsTo.of_eq rfl | exact binds_K (by k_in) rfl (by k_is) rfl rfl rfl | exact binds_peek (by k_in) (fun _ => rfl)); (case c5 => decide); (case kB => exact locs rfl); (case c2 => exact rfl); (case c3 => exact rfl); (case c4 => exact rfl); k_whole; intro g1 L1 h1 FG1 F0 N1 B1 X1 T1 kG1; (try dsimp only); (try k_lift B1); (try k_fold))
  have F1 : Fr g1 L1 h1 (fun y => List.lookup y [(Str.ofString "b", Value.int x tx), (Str.ofString "a", Value.ref l)]) := F0
  clear F0
  refine wpAny_noRaise' ?_
  k_steps
  unfold Stop
  refine wpAny_For ?_
  k_steps
  unfold Stop
  have hlg : LL g1 l vs := hl.at fun o e => kG1 _ _ e (by simp)
  refine iter_enum F1 (hlg.at fun o e => F1.keep _ _ e) fun e it h2 F2 _ he hit hge hgi heL hiL hei => ?_
  dsimp only
  refine wpAny_pyIter_enum he ?_
  refine for_enum rfl rfl rfl rfl F2 he hit hlg.isList hei hge hgi heL hiL
    (fun i m => m (Str.ofString "b") = some (.int x tx) ∧ i ≤ k) ⟨rfl, Nat.zero_le _⟩ (fun m h => by omega) ?_
  rintro i v ti tk2 m₁ h4 eo ito hv ⟨j1, hik⟩ F4 N4
  obtain ⟨tj, hvi, ht1, ht2⟩ := hi i (by omega)
  rw [hvi] at hv
  cases hv
  have F5 := fr_reads [(Str.ofString "j", Value.int (ns i) tj), (Str.ofString "i", Value.int (i : Int) ti), (Str.ofString "b", Value.int x tx)] F4 (by
    intro q hq
    simp only [List.mem_cons, List.not_mem_nil, or_false] at hq
    rcases hq with rfl | rfl | rfl <;> first | rfl | exact j1)
  simp only [kstB] at F5
  clear F4 F2 F1
  have hfin : ns i = x → i = k := fun q => by
    rcases Nat.lt_or_ge i k with h | h
    · exact absurd q (hkf i h)
    · omega
  k_steps
  · rename_i b9 hb9 hb
    obtain rfl := hfin (hb9 hb)
    show Q _ _
    exact hret _ _ _ (by (intro b9 o9 e9; (rename GSub _ _ _ => kG9); (rename Fr _ _ _ _ => F9); exact F9.keep b9 o9 (kG9 b9 o9 e9 (by simp))))
  · rename_i b9 hb9 hb hx
    have hx := by simpa using hx
    obtain rfl := hfin hx
    show Q _ _
    exact hret _ _ _ (by (intro b9 o9 e9; (rename GSub _ _ _ => kG9); (rename Fr _ _ _ _ => F9); exact F9.keep b9 o9 (kG9 b9 o9 e9 (by simp))))
  · rename_i b9 hb9 hb hx
    have hx := by simpa using hx
    have hne : i ≠ k := fun q => hx (by rw [q]; exact hkx)
    exact ⟨_, _, _, rfl, F5, N4, rfl, by omega⟩
end

/-! D3 -/
example : True := by
  k_with_none
  k_with "subscriptTail" => (k_here; (with_reducible show wpAny _ _ (subscriptTail _ _ (Value.ref _) (Value.int _ _)) _ _ _); (with_unfolding_all refine' my_item ?q_k1 ?q_k2 ?q_k3 ?q_k4 ?_ ?q_k6; (case q_k1 => first | assumption | ((rename GSub _ _ _ => kG9); (rename Fr _ _ _ _ => F9); refine' list_up ?q_t9 kG9 F9 (by simp); (case q_t9 => assumption))); (case q_k2 => assumption); (case q_k3 => first | rfl | assumption | omega | (simp only [Int.fdiv_eq_ediv_of_nonneg _ (by decide : (0 : Int) ≤ 2)]; omega)); (case q_k4 => first | assumption | omega); (case q_k6 => with_unfolding_all rfl); k_whole))
  k_with "call builtin:len" => (k_here; (with_reducible show wpAny _ _ (call (Value.builtin "len") [Value.ref _]) _ _ _); refine' my_len ?q_k1 ?q_k2 ?_; (case q_k1 => first | assumption | ((rename GSub _ _ _ => kG9); (rename Fr _ _ _ _ => F9); refine' list_up ?q_t9 kG9 F9 (by simp); (case q_t9 => assumption))); (case q_k2 => first | assumption | omega); intro _ _)
  k_with "subscriptTail" => (k_here; (with_reducible show wpAny _ _ (subscriptTail _ _ (Value.ref _) (Value.int _ _)) _ _ _); (with_unfolding_all refine' my_titem ?q_k1 ?q_k2 ?q_k3 ?q_k4 ?_ ?q_k6; (case q_k1 => first | assumption | ((rename GSub _ _ _ => kG9); (rename Fr _ _ _ _ => F9); refine' TT.up ?q_t9 kG9 F9 (by simp); (case q_t9 => assumption))); (case q_k2 => first | assumption | decide | omega); (case q_k3 => first | assumption | exact rfl); (case q_k4 => first | assumption | (simp only [List.length_cons, List.length_nil]; decide)); (case q_k6 => with_unfolding_all rfl); k_whole))
  k_with "exec For Tuple Call cons cons" => (k_here; refine stopHere ?_)
  k_with "pyIter ref" => (k_here; refine stopHere ?_)
  k_with "call type:enumerate" => (k_here; refine stopHere ?_)
  k_with "compareOp Is" => (k_here; (with_reducible show wpAny _ _ (compareOp CmpOp.Is (Value.str _ _) (Value.str _ _)) _ _ _); refine my_is_str (by k_in) ?_ ?_ ?_ ?_; assumption; assumption; assumption; intro _ _)
  trivial
section
theorem indexOf_str (B : Below A₀ base outer h₀) (F : Fr h₀ L s.heap m) (X : (hd.heap_1 w.params).In h₀) (T : Top p loose mean mg mb h₀) (hk : cs.kind = .function) (hd1 : dp + 20 < recursionLimit) (hu : un + 200 < cLine)
    (l : Addr) (vs : List Value) (hl : LL s.heap l vs) (hn : vs.length < 2 ^ 20) (ns : Nat → Str) (x : Str) (tx : Tok) (htx : tx ≠ 0) (hi : ∀ i, i < vs.length → ∃ t, vs[i]? = some (.str (ns i) t) ∧ t ≠ 0 ∧ (t = tx → ns i = x))
    (k : Nat) (hkl : k < vs.length) (hkx : ns k = x) (hkf : ∀ i, i < k → ns i ≠ x)
    (hret : ∀ (t : Tok) (h' : Heap) (tk' : Nat), Kp s.heap h' → Q (.int (k : Int) t) { s with heap := h', toks := tk' }) :
    wpAny (model PySem.Challenge.rw_uc0025_01.row.prog w) (ktrTop dp un gd cn cs L a ccd cl outer) (call (.ref 91) [.ref l, .str x tx]) Q E s := by
  refine wpAny_call ?_
  k_dflt (refine' enterP ?k1 ?k2 ?k3 ?k4 ?k5 ?kA ?kF ?kK ?k6 ?k7 ?k8 ?k9 ?kB ?_ ?c2 ?c3 ?c4 ?c5; (case kA => exact rfl); (case kF => exact rfl); (case kK => assumption); (case k1 => k_asm); (case k2 => k_asm); (case k3 => k_asm); (case k4 => first | assumption | exact News.nil); (case k5 => k_asm); (case k6 => k_is); (case k7 => k_is); (case k8 => ktr_room); (case k9 => first | exact BindsTo.of_eq rfl | exact binds_K (by k_in) rfl (by k_is) rfl rfl rfl | exact binds_peek (by k_in) (fun _ => rfl)); (case c5 => decide); (case kB => exact locs rfl); (case c2 => exact rfl); (case c3 => exact rfl); (case c4 => exact rfl); k_whole; intro g1 L1 h1 FG1 F0 N1 B1 X1 T1 kG1; (try dsimp only); (try k_lift B1); (try k_fold))
  have F1 : Fr g1 L1 h1 (fun y => List.lookup y [(Str.ofString "b", Value.str x tx), (Str.ofString "a", Value.ref l)]) := F0
  clear F0
  refine wpAny_noRaise' ?_
  k_steps
  unfold Stop
  refine wpAny_For ?_
  k_steps
  unfold Stop
  have hlg : LL g1 l vs := hl.at fun o e => kG1 _ _ e (by simp)
  refine iter_enum F1 (hlg.at fun o e => F1.keep _ _ e) fun e it h2 F2 _ he hit hge hgi heL hiL hei => ?_
  dsimp only
  refine wpAny_pyIter_enum he ?_
  refine for_enum rfl rfl rfl rfl F2 he hit hlg.isList hei hge hgi heL hiL
    (fun i m => m (Str.ofString "b") = some (.str x tx) ∧ i ≤ k) ⟨rfl, Nat.zero_le _⟩ (fun m h => by omega) ?_
  rintro i v ti tk2 m₁ h4 eo ito hv ⟨j1, hik⟩ F4 N4
  obtain ⟨tj, hvi, ht1, ht2⟩ := hi i (by omega)
  rw [hvi] at hv
  cases hv
  have F5 := fr_reads [(Str.ofString "j", Value.str (ns i) tj), (Str.ofString "i", Value.int (i : Int) ti), (Str.ofString "b", Value.str x tx)] F4 (by
    intro q hq
    simp only [List.mem_cons, List.not_mem_nil, or_false] at hq
    rcases hq with rfl | rfl | rfl <;> first | rfl | exact j1)
  simp only [kstB] at F5
  clear F4 F2 F1
  have hfin : ns i = x → i = k := fun q => by
    rcases Nat.lt_or_ge i k with h | h
    · exact absurd q (hkf i h)
    · omega
  k_steps
  · rename_i b9 hb9 hb
    obtain rfl := hfin (hb9 hb)
    show Q _ _
    exact hret _ _ _ (by (intro b9 o9 e9; (rename GSub _ _ _ => kG9); (rename Fr _ _ _ _ => F9); exact F9.keep b9 o9 (kG9 b9 o9 e9 (by simp))))
  · rename_i b9 hb9 hb hx
    have hx := by simpa using hx
    obtain rfl := hfin hx
    show Q _ _
    exact hret _ _ _ (by (intro b9 o9 e9; (rename GSub _ _ _ => kG9); (rename Fr _ _ _ _ => F9); exact F9.keep b9 o9 (kG9 b9 o9 e9 (by simp))))
  · rename_i b9 hb9 hb hx
    have hx := by simpa using hx
    have hne : i ≠ k := fun q => hx (by rw [q]; exact hkx)
    exact ⟨_, _, _, rfl, F5, N4, rfl, by omega⟩
end

/-! S1 -/
example : True := by
  k_with_none
  k_with "subscriptTail" => (k_here; (with_reducible show wpAny _ _ (subscriptTail _ _ (Value.ref _) (Value.int _ _)) _ _ _); (with_unfolding_all refine' my_item ?q_k1 ?q_k2 ?q_k3 ?q_k4 ?_ ?q_k6; (case q_k1 => first | assumption | ((rename GSub _ _ _ => kG9); (rename Fr _ _ _ _ => F9); refine' list_up ?q_t9 kG9 F9 (by simp); (case q_t9 => assumption))); (case q_k2 => assumption); (case q_k3 => first | rfl | assumption | omega | (simp only [Int.fdiv_eq_ediv_of_nonneg _ (by decide : (0 : Int) ≤ 2)]; omega)); (case q_k4 => first | assumption | omega); (case q_k6 => with_unfolding_all rfl); k_whole))
  k_with "call builtin:len" => (k_here; (with_reducible show wpAny _ _ (call (Value.builtin "len") [Value.ref _]) _ _ _); refine' my_len ?q_k1 ?q_k2 ?_; (case q_k1 => first | assumption | ((rename GSub _ _ _ => kG9); (rename Fr _ _ _ _ => F9); refine' list_up ?q_t9 kG9 F9 (by simp); (case q_t9 => assumption))); (case q_k2 => first | assumption | omega); intro _ _)
  k_with "subscriptTail" => (k_here; (with_reducible show wpAny _ _ (subscriptTail _ _ (Value.ref _) (Value.int _ _)) _ _ _); (with_unfolding_all refine' my_titem ?q_k1 ?q_k2 ?q_k3 ?q_k4 ?_ ?q_k6; (case q_k1 => first | assumption | ((rename GSub _ _ _ => kG9); (rename Fr _ _ _ _ => F9); refine' TT.up ?q_t9 kG9 F9 (by simp); (case q_t9 => assumption))); (case q_k2 => first | assumption | decide | omega); (case q_k3 => first | assumption | exact rfl); (case q_k4 => first | assumption | (simp only [List.length_cons, List.length_nil]; decide)); (case q_k6 => with_unfolding_all rfl); k_whole))
  k_with "setItem ref int" => (k_here; refine stopHere ?_)
  trivial
section
theorem setitem_c (B : Below A₀ base outer h₀) (F : Fr h₀ L s.heap m) (X : (hd.heap_1 w.params).In h₀) (T : Top p loose mean mg mb h₀) (hk : cs.kind = .function) (hd1 : dp + 20 < recursionLimit) (hu : un + 200 < cLine)
    (l : Addr) (vs : List Value) (hl : LL s.heap l vs) (hn : vs.length < 2 ^ 20) (hf0 : h₀.get? l = none) (hlL : l ≠ L) (k : Int) (tk : Tok) (j : Nat) (hkj : k = (j : Int)) (hj : j < vs.length) (y : Value)
    (hret : ∀ (h' : Heap) (tk' : Nat), LL h' l (vs.set j y) → Kx [l] s.heap h' → Q .none { s with heap := h', toks := tk' }) :
    wpAny (model PySem.Challenge.rw_uc0025_01.row.prog w) (ktrTop dp un gd cn cs L a ccd cl outer) (call (.ref 98) [.ref l, .int k tk, y]) Q E s := by
  subst hkj
  obtain ⟨nl, ho⟩ := id hl
  have N : News h₀ L s.heap [(l, listOf vs.toArray nl)] := fun q hq => by
    rw [List.mem_singleton.mp hq]
    exact ⟨ho, hlL, hf0⟩
  refine wpAny_call ?_
  k_dflt (refine' enterP ?k1 ?k2 ?k3 ?k4 ?k5 ?kA ?kF ?kK ?k6 ?k7 ?k8 ?k9 ?kB ?_ ?c2 ?c3 ?c4 ?c5; (case kA => exact rfl); (case kF => exact rfl); (case kK => assumption); (case k1 => k_asm); (case k2 => k_asm); (case k3 => k_asm); (case k4 => first | assumption | exact News.nil); (case k5 => k_asm); (case k6 => k_is); (case k7 => k_is); (case k8 => ktr_room); (case k9 => first | exact BindsTo.of_eq rfl | exact binds_K (by k_in) rfl (by k_is) rfl rfl rfl | exact binds_peek (by k_in) (fun _ => rfl)); (case c5 => decide); (case kB => exact locs rfl); (case c2 => exact rfl); (case c3 => exact rfl); (case c4 => exact rfl); k_whole; intro g1 L1 h1 FG1 F0 N1 B1 X1 T1 kG1; (try dsimp only); (try k_lift B1); (try k_fold))
  have F1 : Fr g1 L1 h1 (fun z => List.lookup z [(Str.ofString "c", y), (Str.ofString "b", Value.int (j : Int) tk), (Str.ofString "a", Value.ref l)]) := F0
  clear F0
  refine wpAny_noRaise' ?_
  k_steps
  unfold Stop
  refine set_LL (LL.of_news N1 (.head _)) hj hn fun h5 l5 k5 => ?_
  have F5 := fr_kx F1 k5 (none_news N1)
  have N5 : News g1 L1 h5 [] := News.nil
  dsimp only at F5 N5 ⊢
  k_steps
  (try dsimp only)
  exact hret _ _ l5 (kx_up kG1 F5)
end

/-! R1 -/
example : True := by
  k_with_none
  k_with "subscriptTail" => (k_here; (with_reducible show wpAny _ _ (subscriptTail _ _ (Value.ref _) (Value.int _ _)) _ _ _); (with_unfolding_all refine' my_item ?q_k1 ?q_k2 ?q_k3 ?q_k4 ?_ ?q_k6; (case q_k1 => first | assumption | ((rename GSub _ _ _ => kG9); (rename Fr _ _ _ _ => F9); refine' list_up ?q_t9 kG9 F9 (by simp); (case q_t9 => assumption))); (case q_k2 => assumption); (case q_k3 => first | rfl | assumption | omega | (simp only [Int.fdiv_eq_ediv_of_nonneg _ (by decide : (0 : Int) ≤ 2)]; omega)); (case q_k4 => first | assumption | omega); (case q_k6 => with_unfolding_all rfl); k_whole))
  k_with "call builtin:len" => (k_here; (with_reducible show wpAny _ _ (call (Value.builtin "len") [Value.ref _]) _ _ _); refine' my_len ?q_k1 ?q_k2 ?_; (case q_k1 => first | assumption | ((rename GSub _ _ _ => kG9); (rename Fr _ _ _ _ => F9); refine' list_up ?q_t9 kG9 F9 (by simp); (case q_t9 => assumption))); (case q_k2 => first | assumption | omega); intro _ _)
  k_with "subscriptTail" => (k_here; (with_reducible show wpAny _ _ (subscriptTail _ _ (Value.ref _) (Value.int _ _)) _ _ _); (with_unfolding_all refine' my_titem ?q_k1 ?q_k2 ?q_k3 ?q_k4 ?_ ?q_k6; (case q_k1 => first | assumption | ((rename GSub _ _ _ => kG9); (rename Fr _ _ _ _ => F9); refine' TT.up ?q_t9 kG9 F9 (by simp); (case q_t9 => assumption))); (case q_k2 => first | assumption | decide | omega); (case q_k3 => first | assumption | exact rfl); (case q_k4 => first | assumption | (simp only [List.length_cons, List.length_nil]; decide)); (case q_k6 => with_unfolding_all rfl); k_whole))
  k_with "call builtin:str.lower" => (k_here; k_dflt (refine' KXw.lower ?q_a ?q_b ?_; (case q_a => assumption); (case q_b => assumption)); intro _ _)
  trivial
section
theorem lawrow_c (B : Below A₀ base outer h₀) (F : Fr h₀ L s.heap m) (X : (hd.heap_1 w.params).In h₀) (T : Top p loose mean mg mb h₀) (hk : cs.kind = .function) (hd1 : dp + 5 < recursionLimit) (hu : un + 50 < cLine)
    (l : Addr) (c : Nat) (hc : c < 6) (t0 : Tok) (v1 : Value) (hl : TT s.heap l [.str (nm c) t0, v1])
    (hret : ∀ (t : Tok) (h' : Heap) (tk' : Nat), Kp s.heap h' → Q (.str (nm (c % 3)) t) { s with heap := h', toks := tk' }) :
    wpAny (model PySem.Challenge.rw_uc0025_01.row.prog w) (ktrTop dp un gd cn cs L a ccd cl outer) (call (.ref 253) [.ref l]) Q E s := by
  have hlo := nm_lower c hc
  obtain ⟨hlo, hfit⟩ := hlo
  refine wpAny_call ?_
  k_dflt (refine' enterP ?k1 ?k2 ?k3 ?k4 ?k5 ?kA ?kF ?kK ?k6 ?k7 ?k8 ?k9 ?kB ?_ ?c2 ?c3 ?c4 ?c5; (case kA => exact rfl); (case kF => exact rfl); (case kK => assumption); (case k1 => k_asm); (case k2 => k_asm); (case k3 => k_asm); (case k4 => first | assumption | exact News.nil); (case k5 => k_asm); (case k6 => k_is); (case k7 => k_is); (case k8 => ktr_room); (case k9 => first | exact BindsTo.of_eq rfl | exact binds_K (by k_in) rfl (by k_is) rfl rfl rfl | exact binds_peek (by k_in) (fun _ => rfl)); (case c5 => decide); (case kB => exact locs rfl); (case c2 => exact rfl); (case c3 => exact rfl); (case c4 => exact rfl); k_whole; intro g1 L1 h1 FG1 F0 N1 B1 X1 T1 kG1; (try dsimp only); (try k_lift B1); (try k_fold))
  have F1 : Fr g1 L1 h1 (fun z => List.lookup z [(Str.ofString "pair", Value.ref l)]) := F0
  clear F0
  refine wpAny_noRaise' ?_
  k_steps
  (try dsimp only)
  exact hret _ _ _ (by (intro b9 o9 e9; (rename GSub _ _ _ => kG9); (rename Fr _ _ _ _ => F9); exact F9.keep b9 o9 (kG9 b9 o9 e9 (by simp))))
theorem lawrow_key {H : Heap} {l : Addr} {c : Nat} (hc : c < 6) {t0 : Tok} {v1 : Value} (hl : TT H l [.str (nm c) t0, v1]) : KeySpec w p loose mean mg mb H (.ref 253) (.ref l) (fun t => .str (nm (c % 3)) t) :=
  fun B F X T hk hd1 hu k hret => lawrow_c B F X T hk (by omega) (by omega) l c hc t0 v1 (hl.kp k) hret
end

/-! V1 -/
example : True := by
  k_with_none
  k_with "subscriptTail" => (k_here; (with_reducible show wpAny _ _ (subscriptTail _ _ (Value.ref _) (Value.int _ _)) _ _ _); (with_unfolding_all refine' my_item ?q_k1 ?q_k2 ?q_k3 ?q_k4 ?_ ?q_k6; (case q_k1 => first | assumption | ((rename GSub _ _ _ => kG9); (rename Fr _ _ _ _ => F9); refine' list_up ?q_t9 kG9 F9 (by simp); (case q_t9 => assumption))); (case q_k2 => assumption); (case q_k3 => first | rfl | assumption | omega | (simp only [Int.fdiv_eq_ediv_of_nonneg _ (by decide : (0 : Int) ≤ 2)]; omega)); (case q_k4 => first | assumption | omega); (case q_k6 => with_unfolding_all rfl); k_whole))
  k_with "call builtin:len" => (k_here; (with_reducible show wpAny _ _ (call (Value.builtin "len") [Value.ref _]) _ _ _); refine' my_len ?q_k1 ?q_k2 ?_; (case q_k1 => first | assumption | ((rename GSub _ _ _ => kG9); (rename Fr _ _ _ _ => F9); refine' list_up ?q_t9 kG9 F9 (by simp); (case q_t9 => assumption))); (case q_k2 => first | assumption | omega); intro _ _)
  k_with "subscriptTail" => (k_here; (with_reducible show wpAny _ _ (subscriptTail _ _ (Value.ref _) (Value.int _ _)) _ _ _); (with_unfolding_all refine' my_titem ?q_k1 ?q_k2 ?q_k3 ?q_k4 ?_ ?q_k6; (case q_k1 => first | assumption | ((rename GSub _ _ _ => kG9); (rename Fr _ _ _ _ => F9); refine' TT.up ?q_t9 kG9 F9 (by simp); (case q_t9 => assumption))); (case q_k2 => first | assumption | decide | omega); (case q_k3 => first | assumption | exact rfl); (case q_k4 => first | assumption | (simp only [List.length_cons, List.length_nil]; decide)); (case q_k6 => with_unfolding_all rfl); k_whole))
  k_with "getMethod ref" => (k_here; (with_reducible show wpAny _ _ (getMethod (Value.ref _) (PySem.Str.ofString "search") _) _ _ _); k_dflt (refine' my_getSearch ?q_a ?q_b ?_; (case q_a => k_in); (case q_b => first | exact .inl rfl | exact .inr rfl)))
  k_with "call builtin:re.Pattern.search" => (k_here; k_dflt (refine' my_search ?q_a ?q_b ?q_c ?_; (case q_a => k_in); (case q_b => first | exact .inl rfl | exact .inr rfl); (case q_c => assumption)))
  trivial
section
theorem conv_nm (B : Below A₀ base outer h₀) (F : Fr h₀ L s.heap m) (X : (hd.heap_1 w.params).In h₀) (T : Top p loose mean mg mb h₀) (hk : cs.kind = .function) (hd1 : dp + 5 < recursionLimit) (hu : un + 50 < cLine)
    (x : Value) (c : Nat) (hc : c < 6) (t : Tok)
    (hret : ∀ (h' : Heap) (tk' : Nat), Kp s.heap h' → Q (.str (nm c) t) { s with heap := h', toks := tk' }) :
    wpAny (model PySem.Challenge.rw_uc0025_01.row.prog w) (ktrTop dp un gd cn cs L a ccd cl outer) (call (.ref 143) [x, .str (nm c) t] [(Str.ofString "name", .bool true)]) Q E s := by
  have hse : ∀ S, peek (hd.heap_1 w.params) S (Builtin.«re.Pattern.search» ⟨[.ref 108, .str (nm c) t], []⟩) = some (.done (.ret .none)) := fun S => search_nm w S t c hc
  refine wpAny_call ?_
  k_dflt (refine' enterP ?k1 ?k2 ?k3 ?k4 ?k5 ?kA ?kF ?kK ?k6 ?k7 ?k8 ?k9 ?kB ?_ ?c2 ?c3 ?c4 ?c5; (case kA => exact rfl); (case kF => exact rfl); (case kK => assumption); (case k1 => k_asm); (case k2 => k_asm); (case k3 => k_asm); (case k4 => first | assumption | exact News.nil); (case k5 => k_asm); (case k6 => k_is); (case k7 => k_is); (case k8 => ktr_room); (case k9 => first | exact BindsTo.of_eq rfl | exact binds_K (by k_in) rfl (by k_is) rfl rfl rfl | exact binds_peek (by k_in) (fun _ => rfl)); (case c5 => decide); (case kB => exact locs rfl); (case c2 => exact rfl); (case c3 => exact rfl); (case c4 => exact rfl); k_whole; intro g1 L1 h1 FG1 F0 N1 B1 X1 T1 kG1; (try dsimp only); (try k_lift B1); (try k_fold))
  have F1 : Fr g1 L1 h1 (fun z => List.lookup z [(Str.ofString "name", Value.bool true), (Str.ofString "value", Value.str (nm c) t), (Str.ofString "self", x)]) := F0
  clear F0
  refine wpAny_noRaise' ?_
  k_steps
  (try dsimp only)
  exact hret _ _ (by (intro b9 o9 e9; (rename GSub _ _ _ => kG9); (rename Fr _ _ _ _ => F9); exact F9.keep b9 o9 (kG9 b9 o9 e9 (by simp))))
end

/-! V2 -/
example : True := by
  k_with_none
  k_with "subscriptTail" => (k_here; (with_reducible show wpAny _ _ (subscriptTail _ _ (Value.ref _) (Value.int _ _)) _ _ _); (with_unfolding_all refine' my_item ?q_k1 ?q_k2 ?q_k3 ?q_k4 ?_ ?q_k6; (case q_k1 => first | assumption | ((rename GSub _ _ _ => kG9); (rename Fr _ _ _ _ => F9); refine' list_up ?q_t9 kG9 F9 (by simp); (case q_t9 => assumption))); (case q_k2 => assumption); (case q_k3 => first | rfl | assumption | omega | (simp only [Int.fdiv_eq_ediv_of_nonneg _ (by decide : (0 : Int) ≤ 2)]; omega)); (case q_k4 => first | assumption | omega); (case q_k6 => with_unfolding_all rfl); k_whole))
  k_with "call builtin:len" => (k_here; (with_reducible show wpAny _ _ (call (Value.builtin "len") [Value.ref _]) _ _ _); refine' my_len ?q_k1 ?q_k2 ?_; (case q_k1 => first | assumption | ((rename GSub _ _ _ => kG9); (rename Fr _ _ _ _ => F9); refine' list_up ?q_t9 kG9 F9 (by simp); (case q_t9 => assumption))); (case q_k2 => first | assumption | omega); intro _ _)
  k_with "subscriptTail" => (k_here; (with_reducible show wpAny _ _ (subscriptTail _ _ (Value.ref _) (Value.int _ _)) _ _ _); (with_unfolding_all refine' my_titem ?q_k1 ?q_k2 ?q_k3 ?q_k4 ?_ ?q_k6; (case q_k1 => first | assumption | ((rename GSub _ _ _ => kG9); (rename Fr _ _ _ _ => F9); refine' TT.up ?q_t9 kG9 F9 (by simp); (case q_t9 => assumption))); (case q_k2 => first | assumption | decide | omega); (case q_k3 => first | assumption | exact rfl); (case q_k4 => first | assumption | (simp only [List.length_cons, List.length_nil]; decide)); (case q_k6 => with_unfolding_all rfl); k_whole))
  k_with "getMethod ref" => (k_here; (with_reducible show wpAny _ _ (getMethod (Value.ref _) (PySem.Str.ofString "search") _) _ _ _); k_dflt (refine' my_getSearch ?q_a ?q_b ?_; (case q_a => k_in); (case q_b => first | exact .inl rfl | exact .inr rfl)))
  k_with "call builtin:re.Pattern.search" => (k_here; k_dflt (refine' my_search ?q_a ?q_b ?q_c ?_; (case q_a => k_in); (case q_b => first | exact .inl rfl | exact .inr rfl); (case q_c => assumption)))
  trivial
section
theorem conv_sg (B : Below A₀ base outer h₀) (F : Fr h₀ L s.heap m) (X : (hd.heap_1 w.params).In h₀) (T : Top p loose mean mg mb h₀) (hk : cs.kind = .function) (hd1 : dp + 5 < recursionLimit) (hu : un + 50 < cLine)
    (x : Value) (c : Nat) (hc : c < 6) (t : Tok)
    (hret : ∀ (h' : Heap) (tk' : Nat), Kp s.heap h' → Q (.str (sg c) t) { s with heap := h', toks := tk' }) :
    wpAny (model PySem.Challenge.rw_uc0025_01.row.prog w) (ktrTop dp un gd cn cs L a ccd cl outer) (call (.ref 143) [x, .str (sg c) t] [(Str.ofString "name", .bool false)]) Q E s := by
  have hse : ∀ S, peek (hd.heap_1 w.params) S (Builtin.«re.Pattern.search» ⟨[.ref 113, .str (sg c) t], []⟩) = some (.done (.ret .none)) := fun S => search_sg w S t c hc
  refine wpAny_call ?_
  k_dflt (refine' enterP ?k1 ?k2 ?k3 ?k4 ?k5 ?kA ?kF ?kK ?k6 ?k7 ?k8 ?k9 ?kB ?_ ?c2 ?c3 ?c4 ?c5; (case kA => exact rfl); (case kF => exact rfl); (case kK => assumption); (case k1 => k_asm); (case k2 => k_asm); (case k3 => k_asm); (case k4 => first | assumption | exact News.nil); (case k5 => k_asm); (case k6 => k_is); (case k7 => k_is); (case k8 => ktr_room); (case k9 => first | exact BindsTo.of_eq rfl | exact binds_K (by k_in) rfl (by k_is) rfl rfl rfl | exact binds_peek (by k_in) (fun _ => rfl)); (case c5 => decide); (case kB => exact locs rfl); (case c2 => exact rfl); (case c3 => exact rfl); (case c4 => exact rfl); k_whole; intro g1 L1 h1 FG1 F0 N1 B1 X1 T1 kG1; (try dsimp only); (try k_lift B1); (try k_fold))
  have F1 : Fr g1 L1 h1 (fun z => List.lookup z [(Str.ofString "name", Value.bool false), (Str.ofString "value", Value.str (sg c) t), (Str.ofString "self", x)]) := F0
  clear F0
  refine wpAny_noRaise' ?_
  k_steps
  (try dsimp only)
  exact hret _ _ (by (intro b9 o9 e9; (rename GSub _ _ _ => kG9); (rename Fr _ _ _ _ => F9); exact F9.keep b9 o9 (kG9 b9 o9 e9 (by simp))))
end

/-! G1 -/
example : True := by
  k_with_none
  k_with "subscriptTail" => (k_here; (with_reducible show wpAny _ _ (subscriptTail _ _ (Value.ref _) (Value.int _ _)) _ _ _); (with_unfolding_all refine' my_item ?q_k1 ?q_k2 ?q_k3 ?q_k4 ?_ ?q_k6; (case q_k1 => first | assumption | ((rename GSub _ _ _ => kG9); (rename Fr _ _ _ _ => F9); refine' list_up ?q_t9 kG9 F9 (by simp); (case q_t9 => assumption))); (case q_k2 => assumption); (case q_k3 => first | rfl | assumption | omega | (simp only [Int.fdiv_eq_ediv_of_nonneg _ (by decide : (0 : Int) ≤ 2)]; omega)); (case q_k4 => first | assumption | omega); (case q_k6 => with_unfolding_all rfl); k_whole))
  k_with "call builtin:len" => (k_here; (with_reducible show wpAny _ _ (call (Value.builtin "len") [Value.ref _]) _ _ _); refine' my_len ?q_k1 ?q_k2 ?_; (case q_k1 => first | assumption | ((rename GSub _ _ _ => kG9); (rename Fr _ _ _ _ => F9); refine' list_up ?q_t9 kG9 F9 (by simp); (case q_t9 => assumption))); (case q_k2 => first | assumption | omega); intro _ _)
  k_with "subscriptTail" => (k_here; (with_reducible show wpAny _ _ (subscriptTail _ _ (Value.ref _) (Value.int _ _)) _ _ _); (with_unfolding_all refine' my_titem ?q_k1 ?q_k2 ?q_k3 ?q_k4 ?_ ?q_k6; (case q_k1 => first | assumption | ((rename GSub _ _ _ => kG9); (rename Fr _ _ _ _ => F9); refine' TT.up ?q_t9 kG9 F9 (by simp); (case q_t9 => assumption))); (case q_k2 => first | assumption | decide | omega); (case q_k3 => first | assumption | exact rfl); (case q_k4 => first | assumption | (simp only [List.length_cons, List.length_nil]; decide)); (case q_k6 => with_unfolding_all rfl); k_whole))
  k_with "call builtin:str.lower" => (k_here; k_dflt (refine' KXw.lower ?q_a ?q_b ?_; (case q_a => assumption); (case q_b => assumption)); intro _ _)
  k_with "own k_inst" => exact inst_fr (by assumption) (by assumption)
  k_with "call ref" => (k_here; refine stopHere ?_)
  k_with "eval ListComp" => (k_here; refine stopHere ?_)
  k_with "eval Name" => (k_here; (with_reducible show wpAny _ _ (eval (Expr.Name _ _) (compEnvC _ _ _ _)) _ _ _); (with_unfolding_all refine' wpAny_Name (wpAny_loadName_local ?q_a ?q_b ?q_c ?q_d ?_) ?q_e; (case q_a => rfl); (case q_b => rfl); (case q_c => assumption); (case q_d => assumption); (case q_e => decide); k_whole))
  trivial
section
theorem getall_s (B : Below A₀ base outer h₀) (F : Fr h₀ L s.heap m) (X : (hd.heap_1 w.params).In h₀) (T : Top p loose mean mg mb h₀) (hk : cs.kind = .function) (hd1 : dp + 15 < recursionLimit) (hu : un + 150 < cLine)
    (x hl : Addr) (rs : List Row) (hx : HT s.heap x hl) (hll : LL s.heap hl (rs.map Row.ref)) (hrs : Rows s.heap rs) (hlen : rs.length < 2 ^ 20) (z : Str) (k : Nat) (hk3 : k < 3) (hlo : Txt.lower z = nm k) (hfit : PySem.Builtin.Str.tooLong (Txt.lower z).length = false) (t : Tok)
    (hret : ∀ (D : Addr) (h' : Heap) (tk' : Nat), s.heap.get? D = none → LL h' D ((rs.filter fun r => r.c % 3 == k).map Row.val) → Kp s.heap h' → Q (.ref D) { s with heap := h', toks := tk' }) :
    wpAny (model PySem.Challenge.rw_uc0025_01.row.prog w) (ktrTop dp un gd cn cs L a ccd cl outer) (call (.ref 181) [.ref x, .str z t]) Q E s := by
  obtain ⟨dx, ehash, te, nx, hxx, hdx⟩ := hx
  refine wpAny_call ?_
  k_dflt (refine' enterC ?k1 ?k2 ?k3 ?k4 ?k5 ?kA ?kF ?kK ?k6 ?k7 ?k8 ?k9 ?kB ?kD ?_ ?c2 ?c3 ?c4; (case kA => exact rfl); (case kF => exact rfl); (case kK => assumption); (case k1 => k_asm); (case k2 => k_asm); (case k3 => k_asm); (case k4 => first | assumption | exact News.nil); (case k5 => k_asm); (case k6 => k_is); (case k7 => k_is); (case k8 => ktr_room); (case k9 => first | exact BindsTo.of_eq rfl | exact binds_K (by k_in) rfl (by k_is) rfl rfl rfl | exact binds_peek (by k_in) (fun _ => rfl)); (case kB => exact rfl); (case kD => decide +kernel); (case c2 => exact rfl); (case c3 => exact rfl); (case c4 => exact rfl); k_whole; intro g1 L1 h1 tk1 cells9 FG1 F0 N1 Y9 B1 X1 T1 l1 kG1; (try k_lt l1); k_cells Y9; (try simp only [List.cons_append, List.nil_append] at N1); (try dsimp only); (try k_lift B1); (try k_fold))
  rename_i o1 d0
  have d1 : o1.data = .cell (some (.str z t)) := d0
  clear d0
  have F1 : Fr g1 L1 h1 (fun y => if y = Str.ofString "self" then some (.ref x) else none) := F0
  have kg : Kp s.heap g1 := fun b o e => kG1 b o e (List.not_mem_nil)
  have hI : InstAt g1 x (instObj 242 dx) 242 (some (dictOf [⟨ehash, .str (Str.ofString "_headers") te, .ref hl⟩] nx)) := ⟨kg _ _ hxx, rfl, rfl, kg _ _ hdx⟩
  have hll1 := hll.kp kg
  have hrs1 := hrs.kp kg
  clear F0
  refine wpAny_noRaise' ?_
  k_steps
  unfold Stop
  k_dflt (refine' conv_nm B1 F1 X1 T1 ?k ?d ?u (.ref x) k (by omega) _ ?_)
  case k => exact rfl
  case d => first | exact room_le hd1 rfl | ktr_room
  case u => first | exact units_le hu rfl | ktr_units
  intro h9 tk9 k9
  have F2 := fr_kp F1 k9
  have N2 := news_kp N1 k9
  dsimp only at F2 N2 ⊢
  clear F1 N1
  k_steps
  unfold Stop
  rename_i h3 o2 F3 N3 d3
  k_dflt (refine' comp_list (g := g1) (L := L1) (fun i => (rs.getD i default).c % 3 == k) (fun i y _ _ _ => y = (rs.getD i default).val) (fun i v m3 => m3 (Str.ofString "kv") = some v) ?hh ?hclos ?hcell ?hkind ?hnames ?h ?hs)
  case hh => rfl
  case hclos => rfl
  case hcell => decide
  case hkind => rfl
  case hnames => decide
  case hs => exact fun _ => rfl
  case h =>
    k_steps
    refine ListSrc.intro (rs.map Row.ref) F3 N3 (hll1.kp F3.keep) (by simpa using hlen) ?_ ?_ ?_
    · intro I C D s' i v h1 h2 h3 h4 h5
      exact binds_name rfl rfl
    · intro C i v h4 tk4 m4 hC1 hC2 hin hP hlo4 hN4 hB4 k4 F4 N4
      obtain ⟨r, hr1, hr2, rfl⟩ := row_at hP
      obtain ⟨hrc, hrd, hT⟩ := hrs1 r hr2
      have hT4 : TT h4 r.a [.str (nm r.c) r.t, .str (sg r.d) r.u] := hT.kp F4.keep
      obtain ⟨hlor, hfitr⟩ := nm_lower r.c hrc
      have hg : rs.getD i default = r := getD_of hr1
      refine ⟨?_, fun hpz => ?_⟩
      · k_steps
        refine TestIs.intro ?_ fun _ _ e => e
        rw [hg]; exact nm_beq (by omega) (by omega)
      · k_steps
        refine EltIs.plain (fun _ _ e => e) fun _ _ _ _ _ => ?_
        rw [hg]
    · intro D h5 tk5 log hD1 hD2 hD3 hD4 hi hL k5 F5 N5 ht5
      have hi' : log.map (·.i) = (List.range rs.length).filter fun i => (rs.getD i default).c % 3 == k := by rw [hi, List.length_map]
      have hv : LL h5 D ((rs.filter fun r => r.c % 3 == k).map Row.val) := by
        rw [← range_map rs (fun r => r.c % 3 == k) Row.val, ← logs hi' fun e he => (hL.1 e he).2.2.1]
        exact hD4
      (try dsimp only)
      exact hret D h5 _ (none_of_kp kg hD2) hv fun b o e => F5.keep b o (kg b o e)
theorem getall_c (B : Below A₀ base outer h₀) (F : Fr h₀ L s.heap m) (X : (hd.heap_1 w.params).In h₀) (T : Top p loose mean mg mb h₀) (hk : cs.kind = .function) (hd1 : dp + 15 < recursionLimit) (hu : un + 150 < cLine)
    (x hl : Addr) (rs : List Row) (hx : HT s.heap x hl) (hll : LL s.heap hl (rs.map Row.ref)) (hrs : Rows s.heap rs) (hlen : rs.length < 2 ^ 20) (c : Nat) (hc : c < 6) (t : Tok)
    (hret : ∀ (D : Addr) (h' : Heap) (tk' : Nat), s.heap.get? D = none → LL h' D ((rs.filter fun r => r.c % 3 == c % 3).map Row.val) → Kp s.heap h' → Q (.ref D) { s with heap := h', toks := tk' }) :
    wpAny (model PySem.Challenge.rw_uc0025_01.row.prog w) (ktrTop dp un gd cn cs L a ccd cl outer) (call (.ref 181) [.ref x, .str (nm c) t]) Q E s :=
  getall_s B F X T hk hd1 hu x hl rs hx hll hrs hlen (nm c) (c % 3) (by omega) (nm_lower c hc).1 (nm_lower c hc).2 t hret
end

/-! G2 -/
example : True := by
  k_with_none
  k_with "subscriptTail" => (k_here; (with_reducible show wpAny _ _ (subscriptTail _ _ (Value.ref _) (Value.int _ _)) _ _ _); (with_unfolding_all refine' my_item ?q_k1 ?q_k2 ?q_k3 ?q_k4 ?_ ?q_k6; (case q_k1 => first | assumption | ((rename GSub _ _ _ => kG9); (rename Fr _ _ _ _ => F9); refine' list_up ?q_t9 kG9 F9 (by simp); (case q_t9 => assumption))); (case q_k2 => assumption); (case q_k3 => first | rfl | assumption | omega | (simp only [Int.fdiv_eq_ediv_of_nonneg _ (by decide : (0 : Int) ≤ 2)]; omega)); (case q_k4 => first | assumption | omega); (case q_k6 => with_unfolding_all rfl); k_whole))
  k_with "call builtin:len" => (k_here; (with_reducible show wpAny _ _ (call (Value.builtin "len") [Value.ref _]) _ _ _); refine' my_len ?q_k1 ?q_k2 ?_; (case q_k1 => first | assumption | ((rename GSub _ _ _ => kG9); (rename Fr _ _ _ _ => F9); refine' list_up ?q_t9 kG9 F9 (by simp); (case q_t9 => assumption))); (case q_k2 => first | assumption | omega); intro _ _)
  k_with "subscriptTail" => (k_here; (with_reducible show wpAny _ _ (subscriptTail _ _ (Value.ref _) (Value.int _ _)) _ _ _); (with_unfolding_all refine' my_titem ?q_k1 ?q_k2 ?q_k3 ?q_k4 ?_ ?q_k6; (case q_k1 => first | assumption | ((rename GSub _ _ _ => kG9); (rename Fr _ _ _ _ => F9); refine' TT.up ?q_t9 kG9 F9 (by simp); (case q_t9 => assumption))); (case q_k2 => first | assumption | decide | omega); (case q_k3 => first | assumption | exact rfl); (case q_k4 => first | assumption | (simp only [List.length_cons, List.length_nil]; decide)); (case q_k6 => with_unfolding_all rfl); k_whole))
  k_with "own k_inst" => exact inst_fr (by assumption) (by assumption)
  k_with "eval ListComp" => (k_here; refine stopHere ?_)
  k_with "eval Name" => (k_here; (with_reducible show wpAny _ _ (eval (Expr.Name _ _) (compEnvC _ _ _ _)) _ _ _); (with_unfolding_all refine' wpAny_Name (wpAny_loadName_local ?q_a ?q_b ?q_c ?q_d ?_) ?q_e; (case q_a => rfl); (case q_b => rfl); (case q_c => assumption); (case q_d => assumption); (case q_e => decide); k_whole))
  trivial
section
theorem values_c (B : Below A₀ base outer h₀) (F : Fr h₀ L s.heap m) (X : (hd.heap_1 w.params).In h₀) (T : Top p loose mean mg mb h₀) (hk : cs.kind = .function) (hd1 : dp + 15 < recursionLimit) (hu : un + 150 < cLine)
    (x hl : Addr) (rs : List Row) (hx : HT s.heap x hl) (hll : LL s.heap hl (rs.map Row.ref)) (hrs : Rows s.heap rs) (hlen : rs.length < 2 ^ 20)
    (hret : ∀ (D : Addr) (h' : Heap) (tk' : Nat), s.heap.get? D = none → LL h' D (rs.map Row.val) → Kp s.heap h' → Q (.ref D) { s with heap := h', toks := tk' }) :
    wpAny (model PySem.Challenge.rw_uc0025_01.row.prog w) (ktrTop dp un gd cn cs L a ccd cl outer) (call (.ref 199) [.ref x]) Q E s := by
  obtain ⟨dx, ehash, te, nx, hxx, hdx⟩ := hx
  refine wpAny_call ?_
  k_dflt (refine' enterP ?k1 ?k2 ?k3 ?k4 ?k5 ?kA ?kF ?kK ?k6 ?k7 ?k8 ?k9 ?kB ?_ ?c2 ?c3 ?c4 ?c5; (case kA => exact rfl); (case kF => exact rfl); (case kK => assumption); (case k1 => k_asm); (case k2 => k_asm); (case k3 => k_asm); (case k4 => first | assumption | exact News.nil); (case k5 => k_asm); (case k6 => k_is); (case k7 => k_is); (case k8 => ktr_room); (case k9 => first | exact BindsTo.of_eq rfl | exact binds_K (by k_in) rfl (by k_is) rfl rfl rfl | exact binds_peek (by k_in) (fun _ => rfl)); (case c5 => decide); (case kB => exact locs rfl); (case c2 => exact rfl); (case c3 => exact rfl); (case c4 => exact rfl); k_whole; intro g1 L1 h1 FG1 F0 N1 B1 X1 T1 kG1; (try dsimp only); (try k_lift B1); (try k_fold))
  have F1 : Fr g1 L1 h1 (fun y => List.lookup y [(Str.ofString "self", .ref x)]) := F0
  have kg : Kp s.heap g1 := fun b o e => kG1 b o e (List.not_mem_nil)
  have hI : InstAt g1 x (instObj 242 dx) 242 (some (dictOf [⟨ehash, .str (Str.ofString "_headers") te, .ref hl⟩] nx)) := ⟨kg _ _ hxx, rfl, rfl, kg _ _ hdx⟩
  have hll1 := hll.kp kg
  have hrs1 := hrs.kp kg
  clear F0
  refine wpAny_noRaise' ?_
  k_steps
  unfold Stop
  k_dflt (refine' comp_list (g := g1) (L := L1) (fun _ => true) (fun i y _ _ _ => y = (rs.getD i default).val) (fun i v m3 => m3 (Str.ofString "k") = some (rs.getD i default).name ∧ m3 (Str.ofString "v") = some (rs.getD i default).val) ?hh ?hclos ?hcell ?hkind ?hnames ?h ?hs)
  case hh => rfl
  case hclos => rfl
  case hcell => decide
  case hkind => rfl
  case hnames => decide
  case hs => exact fun _ => rfl
  case h =>
    k_steps
    refine ListSrc.intro (rs.map Row.ref) F1 N1 (hll1.kp F1.keep) (by simpa using hlen) ?_ ?_ ?_
    · intro I C D s' i v h1 h2 h3 h4 h5
      obtain ⟨r, hr1, hr2, rfl⟩ := row_at h5
      obtain ⟨hrc, hrd, hT⟩ := hrs1 r hr2
      have hT2 := hT.kp F1.keep
      rw [getD_of hr1]
      exact binds_pair rfl rfl rfl (by decide) rfl (hT2.kp h4) (hT2.ne h2) (hT2.ne h1) (hT2.ne h3)
    · intro C i v h4 tk4 m4 hC1 hC2 hin hP hlo4 hN4 hB4 k4 F4 N4
      obtain ⟨hB5, hB6⟩ := hB4
      refine ⟨?_, fun hpz => ?_⟩
      · k_steps
        exact TestIs.intro rfl fun _ _ e => e
      · k_steps
        exact EltIs.plain (fun _ _ e => e) fun _ _ _ _ _ => rfl
    · intro D h5 tk5 log hD1 hD2 hD3 hD4 hi hL k5 F5 N5 ht5
      have hi' : log.map (·.i) = (List.range rs.length).filter fun i => (fun _ => true) (rs.getD i default) := by rw [hi, List.length_map]
      have hv : LL h5 D (rs.map Row.val) := by
        have e := range_map rs (fun _ => true) Row.val
        rw [List.filter_eq_self.mpr (by simp : ∀ a ∈ rs, (fun _ => true) a = true)] at e
        rw [← e, ← logs hi' fun e he => (hL.1 e he).2.2.1]
        exact hD4
      (try dsimp only)
      exact hret D h5 _ (none_of_kp kg hD2) hv fun b o e => F5.keep b o (kg b o e)
end

/-! G3 -/
example : True := by
  k_with_none
  k_with "subscriptTail" => (k_here; (with_reducible show wpAny _ _ (subscriptTail _ _ (Value.ref _) (Value.int _ _)) _ _ _); (with_unfolding_all refine' my_item ?q_k1 ?q_k2 ?q_k3 ?q_k4 ?_ ?q_k6; (case q_k1 => first | assumption | ((rename GSub _ _ _ => kG9); (rename Fr _ _ _ _ => F9); refine' list_up ?q_t9 kG9 F9 (by simp); (case q_t9 => assumption))); (case q_k2 => assumption); (case q_k3 => first | rfl | assumption | omega | (simp only [Int.fdiv_eq_ediv_of_nonneg _ (by decide : (0 : Int) ≤ 2)]; omega)); (case q_k4 => first | assumption | omega); (case q_k6 => with_unfolding_all rfl); k_whole))
  k_with "call builtin:len" => (k_here; (with_reducible show wpAny _ _ (call (Value.builtin "len") [Value.ref _]) _ _ _); refine' my_len ?q_k1 ?q_k2 ?_; (case q_k1 => first | assumption | ((rename GSub _ _ _ => kG9); (rename Fr _ _ _ _ => F9); refine' list_up ?q_t9 kG9 F9 (by simp); (case q_t9 => assumption))); (case q_k2 => first | assumption | omega); intro _ _)
  k_with "subscriptTail" => (k_here; (with_reducible show wpAny _ _ (subscriptTail _ _ (Value.ref _) (Value.int _ _)) _ _ _); (with_unfolding_all refine' my_titem ?q_k1 ?q_k2 ?q_k3 ?q_k4 ?_ ?q_k6; (case q_k1 => first | assumption | ((rename GSub _ _ _ => kG9); (rename Fr _ _ _ _ => F9); refine' TT.up ?q_t9 kG9 F9 (by simp); (case q_t9 => assumption))); (case q_k2 => first | assumption | decide | omega); (case q_k3 => first | assumption | exact rfl); (case q_k4 => first | assumption | (simp only [List.length_cons, List.length_nil]; decide)); (case q_k6 => with_unfolding_all rfl); k_whole))
  k_with "own k_inst" => exact inst_fr (by assumption) (by assumption)
  k_with "eval ListComp" => (k_here; refine stopHere ?_)
  k_with "eval Name" => (k_here; (with_reducible show wpAny _ _ (eval (Expr.Name _ _) (compEnvC _ _ _ _)) _ _ _); (with_unfolding_all refine' wpAny_Name (wpAny_loadName_local ?q_a ?q_b ?q_c ?q_d ?_) ?q_e; (case q_a => rfl); (case q_b => rfl); (case q_c => assumption); (case q_d => assumption); (case q_e => decide); k_whole))
  trivial
section
theorem keys_c (B : Below A₀ base outer h₀) (F : Fr h₀ L s.heap m) (X : (hd.heap_1 w.params).In h₀) (T : Top p loose mean mg mb h₀) (hk : cs.kind = .function) (hd1 : dp + 15 < recursionLimit) (hu : un + 150 < cLine)
    (x hl : Addr) (rs : List Row) (hx : HT s.heap x hl) (hll : LL s.heap hl (rs.map Row.ref)) (hrs : Rows s.heap rs) (hlen : rs.length < 2 ^ 20)
    (hret : ∀ (D : Addr) (h' : Heap) (tk' : Nat), s.heap.get? D = none → LL h' D (rs.map Row.name) → Kp s.heap h' → Q (.ref D) { s with heap := h', toks := tk' }) :
    wpAny (model PySem.Challenge.rw_uc0025_01.row.prog w) (ktrTop dp un gd cn cs L a ccd cl outer) (call (.ref 194) [.ref x]) Q E s := by
  obtain ⟨dx, ehash, te, nx, hxx, hdx⟩ := hx
  refine wpAny_call ?_
  k_dflt (refine' enterP ?k1 ?k2 ?k3 ?k4 ?k5 ?kA ?kF ?kK ?k6 ?k7 ?k8 ?k9 ?kB ?_ ?c2 ?c3 ?c4 ?c5; (case kA => exact rfl); (case kF => exact rfl); (case kK => assumption); (case k1 => k_asm); (case k2 => k_asm); (case k3 => k_asm); (case k4 => first | assumption | exact News.nil); (case k5 => k_asm); (case k6 => k_is); (case k7 => k_is); (case k8 => ktr_room); (case k9 => first | exact BindsTo.of_eq rfl | exact binds_K (by k_in) rfl (by k_is) rfl rfl rfl | exact binds_peek (by k_in) (fun _ => rfl)); (case c5 => decide); (case kB => exact locs rfl); (case c2 => exact rfl); (case c3 => exact rfl); (case c4 => exact rfl); k_whole; intro g1 L1 h1 FG1 F0 N1 B1 X1 T1 kG1; (try dsimp only); (try k_lift B1); (try k_fold))
  have F1 : Fr g1 L1 h1 (fun y => List.lookup y [(Str.ofString "self", .ref x)]) := F0
  have kg : Kp s.heap g1 := fun b o e => kG1 b o e (List.not_mem_nil)
  have hI : InstAt g1 x (instObj 242 dx) 242 (some (dictOf [⟨ehash, .str (Str.ofString "_headers") te, .ref hl⟩] nx)) := ⟨kg _ _ hxx, rfl, rfl, kg _ _ hdx⟩
  have hll1 := hll.kp kg
  have hrs1 := hrs.kp kg
  clear F0
  refine wpAny_noRaise' ?_
  k_steps
  unfold Stop
  k_dflt (refine' comp_list (g := g1) (L := L1) (fun _ => true) (fun i y _ _ _ => y = (rs.getD i default).name) (fun i v m3 => m3 (Str.ofString "k") = some (rs.getD i default).name ∧ m3 (Str.ofString "v") = some (rs.getD i default).val) ?hh ?hclos ?hcell ?hkind ?hnames ?h ?hs)
  case hh => rfl
  case hclos => rfl
  case hcell => decide
  case hkind => rfl
  case hnames => decide
  case hs => exact fun _ => rfl
  case h =>
    k_steps
    refine ListSrc.intro (rs.map Row.ref) F1 N1 (hll1.kp F1.keep) (by simpa using hlen) ?_ ?_ ?_
    · intro I C D s' i v h1 h2 h3 h4 h5
      obtain ⟨r, hr1, hr2, rfl⟩ := row_at h5
      obtain ⟨hrc, hrd, hT⟩ := hrs1 r hr2
      have hT2 := hT.kp F1.keep
      rw [getD_of hr1]
      exact binds_pair rfl rfl rfl (by decide) rfl (hT2.kp h4) (hT2.ne h2) (hT2.ne h1) (hT2.ne h3)
    · intro C i v h4 tk4 m4 hC1 hC2 hin hP hlo4 hN4 hB4 k4 F4 N4
      obtain ⟨hB5, hB6⟩ := hB4
      refine ⟨?_, fun hpz => ?_⟩
      · k_steps
        exact TestIs.intro rfl fun _ _ e => e
      · k_steps
        exact EltIs.plain (fun _ _ e => e) fun _ _ _ _ _ => rfl
    · intro D h5 tk5 log hD1 hD2 hD3 hD4 hi hL k5 F5 N5 ht5
      have hi' : log.map (·.i) = (List.range rs.length).filter fun i => (fun _ => true) (rs.getD i default) := by rw [hi, List.length_map]
      have hv : LL h5 D (rs.map Row.name) := by
        have e := range_map rs (fun _ => true) Row.name
        rw [List.filter_eq_self.mpr (by simp : ∀ a ∈ rs, (fun _ => true) a = true)] at e
        rw [← e, ← logs hi' fun e he => (hL.1 e he).2.2.1]
        exact hD4
      (try dsimp only)
      exact hret D h5 _ (none_of_kp kg hD2) hv fun b o e => F5.keep b o (kg b o e)
end

/-! A1 -/
example : True := by
  k_with_none
  k_with "subscriptTail" => (k_here; (with_reducible show wpAny _ _ (subscriptTail _ _ (Value.ref _) (Value.int _ _)) _ _ _); (with_unfolding_all refine' my_item ?q_k1 ?q_k2 ?q_k3 ?q_k4 ?_ ?q_k6; (case q_k1 => first | assumption | ((rename GSub _ _ _ => kG9); (rename Fr _ _ _ _ => F9); refine' list_up ?q_t9 kG9 F9 (by simp); (case q_t9 => assumption))); (case q_k2 => assumption); (case q_k3 => first | rfl | assumption | omega | (simp only [Int.fdiv_eq_ediv_of_nonneg _ (by decide : (0 : Int) ≤ 2)]; omega)); (case q_k4 => first | assumption | omega); (case q_k6 => with_unfolding_all rfl); k_whole))
  k_with "call builtin:len" => (k_here; (with_reducible show wpAny _ _ (call (Value.builtin "len") [Value.ref _]) _ _ _); refine' my_len ?q_k1 ?q_k2 ?_; (case q_k1 => first | assumption | ((rename GSub _ _ _ => kG9); (rename Fr _ _ _ _ => F9); refine' list_up ?q_t9 kG9 F9 (by simp); (case q_t9 => assumption))); (case q_k2 => first | assumption | omega); intro _ _)
  k_with "subscriptTail" => (k_here; (with_reducible show wpAny _ _ (subscriptTail _ _ (Value.ref _) (Value.int _ _)) _ _ _); (with_unfolding_all refine' my_titem ?q_k1 ?q_k2 ?q_k3 ?q_k4 ?_ ?q_k6; (case q_k1 => first | assumption | ((rename GSub _ _ _ => kG9); (rename Fr _ _ _ _ => F9); refine' TT.up ?q_t9 kG9 F9 (by simp); (case q_t9 => assumption))); (case q_k2 => first | assumption | decide | omega); (case q_k3 => first | assumption | exact rfl); (case q_k4 => first | assumption | (simp only [List.length_cons, List.length_nil]; decide)); (case q_k6 => with_unfolding_all rfl); k_whole))
  k_with "own k_inst" => exact inst_fr (by assumption) (by assumption)
  k_with "call ref" => (k_here; refine stopHere ?_)
  k_with "call builtin:dict.items" => (k_here; refine stopHere ?_)
  k_with "call builtin:list.append" => (k_here; (with_reducible show wpAny _ _ (call _ [_, Value.ref _]) _ _ _); refine stopHere ?_)
  trivial
section
theorem addh_c (B : Below A₀ base outer h₀) (F : Fr h₀ L s.heap m) (X : (hd.heap_1 w.params).In h₀) (T : Top p loose mean mg mb h₀) (hk : cs.kind = .function) (hd1 : dp + 15 < recursionLimit) (hu : un + 150 < cLine)
    (x hl : Addr) (vs : List Value) (hx : HT s.heap x hl) (hll : LL s.heap hl vs) (hlen : vs.length < 2 ^ 20) (h0 : h₀.get? hl = none) (hL : hl ≠ L) (c d : Nat) (hc : c < 6) (hd6 : d < 6) (t u : Tok)
    (hret : ∀ (D : Addr) (h' : Heap) (tk' : Nat), s.heap.get? D = none → LL h' hl (vs ++ [.ref D]) → (∃ u', h'.get? D = some { cls := .type "tuple", data := .seq #[.str (nm c) t, .str (sg d) u'] }) → Kx [hl] s.heap h' → Q .none { s with heap := h', toks := tk' }) :
    wpAny (model PySem.Challenge.rw_uc0025_01.row.prog w) (ktrTop dp un gd cn cs L a ccd cl outer) (call (.ref 239) [.ref x, .str (nm c) t, .str (sg d) u]) Q E s := by
  obtain ⟨dx, ehash, te, nx, hxx, hdx, nxl, ndl⟩ := hx.apart hll
  obtain ⟨nl, hlo⟩ := id hll
  have N : News h₀ L s.heap [(hl, listOf vs.toArray nl)] := fun p hp => by rw [List.mem_singleton.mp hp]; exact ⟨hlo, hL, h0⟩
  refine wpAny_call ?_
  k_dflt (refine' enterK B F X N T ?kA ?kF ?kK ?k6 ?k7 ?k8 ?k9 ?kB ?kC ?_ ?c2 ?c3 ?c4 ?c5)
  case kA => exact rfl
  case kF => exact rfl
  case kK => assumption
  case k6 => k_is
  case k7 => k_is
  case k8 => first | exact room_le hd1 rfl | ktr_room
  case k9 => exact rfl
  case c5 => decide
  case kB => exact locs rfl
  case kC => exact rfl
  case c2 => exact rfl
  case c3 => exact rfl
  case c4 => exact rfl
  k_whole
  intro g1 L1 h1 d1 FG1 F0 N1 B1 X1 T1 kG1 hsys
  (try dsimp only); (try k_lift B1); (try k_fold)
  have F1 : Fr g1 L1 h1 (fun y => List.lookup y [(Str.ofString "_params", .ref d1), (Str.ofString "_value", .str (sg d) u), (Str.ofString "_name", .str (nm c) t), (Str.ofString "self", .ref x)]) := F0
  have hI : InstAt g1 x (instObj 242 dx) 242 (some (dictOf [⟨ehash, .str (Str.ofString "_headers") te, .ref hl⟩] nx)) := ⟨kG1 _ _ hxx (by simpa using nxl), rfl, rfl, kG1 _ _ hdx (by simpa using ndl)⟩
  clear F0
  refine wpAny_noRaise' ?_
  k_steps
  unfold Stop
  rename_i tk2 lp h2 lt2 h3 F2 N2
  k_dflt (refine' conv_sg B1 F2 X1 T1 ?k ?d ?u (.ref x) d hd6 _ ?_)
  case k => exact rfl
  case d => first | exact room_le hd1 rfl | ktr_room
  case u => first | exact units_le hu rfl | ktr_units
  intro h9 tk9 k9
  have F3 := fr_kp F2 k9
  have N3 := news_kp N2 k9
  dsimp only at F3 N3 ⊢
  clear F2 N2
  k_steps
  rename_i h4 tk4 h5 F4 N4
  refine wpAny_For ?_
  k_steps
  have e5 : h5.get? d1 = some dict0 := (N4 (d1, dict0) (by simp)).1
  refine items_get e5 ?_
  k_steps
  unfold Stop
  refine items_call e5 hsys fun v hv => ?_
  have k5 : Kp h5 (h5.push { cls := .type "dict_items", data := .fields #[.ref d1] }) := fun b o e => Heap.get?_push_of_some _ e
  have F5 := fr_kp F4 k5
  have N5 := news_kp N4 k5
  have e6 := k5 _ _ e5
  have V5 : (h5.push { cls := .type "dict_items", data := .fields #[.ref d1] }).IsItemsView v d1 := ⟨_, hv ▸ Heap.get?_push_size _ rfl, rfl, rfl⟩
  clear hv F4 N4
  revert F5 N5 e6 V5
  clear k5 e5
  dsimp only
  generalize h5.push { cls := .type "dict_items", data := .fields #[.ref d1] } = h6
  intro F5 N5 e6 V5
  refine items_iter e6 V5 fun it h7 hin k7 FF hit hdi => ?_
  have F7 := (FF F5).1
  have hgi := (FF F5).2.1
  have hiL := (FF F5).2.2
  have N7 := news_kp N5 k7
  dsimp only at F7 N7 hit ⊢
  have hdL : d1 ≠ L1 := (N5 (d1, dict0) (by simp)).2.1
  refine for_items rfl rfl rfl rfl F7 hgi hiL hdL hdi hit (k7 _ _ e6) fun h8 tk8 F8 k8 => ?_
  have N8 : News g1 L1 h8 [(lp, W.listOf (#[].push (Value.str (sg d) u)) (0 + 1)), (d1, dict0), (hl, W.listOf vs.toArray nl)] := fun p hp => by
    have hp' := N5 p hp
    refine ⟨k8 _ _ hp'.2.1 ?_ (k7 _ _ hp'.1), hp'.2⟩
    intro q
    have q1 := hp'.1
    have q2 : h6.get? it = none := hin
    rw [q, q2] at q1
    cases q1
  clear F5 F7 N5 N7
  dsimp only at F8 N8 ⊢
  k_steps
  unfold Stop
  k_dflt (refine' conv_nm B1 F8 X1 T1 ?k ?d ?u (.ref x) c hc _ ?_)
  case k => exact rfl
  case d => first | exact room_le hd1 rfl | ktr_room
  case u => first | exact units_le hu rfl | ktr_units
  intro h10 tk10 k10
  have F10 := fr_kp F8 k10
  have N10 := news_kp N8 k10
  dsimp only at F10 N10 ⊢
  clear F8 N8
  k_steps
  have hj : LL h10 lp [.str (sg d) u] := LL.of_news N10 (n := 1) (by simp)
  have hjoin : ∀ d, d < 6 → Txt.join (Str.ofString "; ") [sg d] = sg d ∧ ([sg d].map (·.length)).sum + [sg d].length ≤ 1048576 := by decide +kernel
  obtain ⟨hj1, hj2⟩ := hjoin d hd6
  refine join_listW (ys := [sg d]) hj.isList (.cons _ _ .nil) (by decide) hj2 fun u9 tk11 => ?_
  rw [hj1]
  dsimp only
  k_steps
  rename_i D9 h12 F12 N12 lt12
  unfold Stop
  have hl12 : LL h12 hl vs := ⟨nl, (N12 (hl, W.listOf vs.toArray nl) (by simp)).1⟩
  have hD12 : h12.get? D9 = some { cls := .type "tuple", data := .seq #[.str (nm c) t, .str (sg d) u9] } := (N12 (D9, _) (.head _)).1
  have hg9 : g1.get? D9 = none := (N12 (D9, _) (.head _)).2.2
  refine append_LL hl12 hlen fun h13 l13 k13 => ?_
  dsimp only
  k_steps
  (try dsimp only)
  have hne : D9 ≠ hl := fun q => by
    have := lt12.2.2
    rw [q] at this
    exact Nat.lt_irrefl _ this
  refine hret D9 h13 _ ?_ l13 ⟨u9, k13 _ _ hD12 (by simpa using hne)⟩ fun b o e hb => ?_
  · cases q : s.heap.get? D9 with
    | none => rfl
    | some o => rw [kG1 D9 o q (by simpa using hne)] at hg9; cases hg9
  · exact k13 _ _ (F12.keep _ _ (kG1 b o e (by simpa using hb))) (by simpa using hb)
end

/-! H1 -/
example : True := by
  k_with_none
  k_with "subscriptTail" => (k_here; (with_reducible show wpAny _ _ (subscriptTail _ _ (Value.ref _) (Value.int _ _)) _ _ _); (with_unfolding_all refine' my_item ?q_k1 ?q_k2 ?q_k3 ?q_k4 ?_ ?q_k6; (case q_k1 => first | assumption | ((rename GSub _ _ _ => kG9); (rename Fr _ _ _ _ => F9); refine' list_up ?q_t9 kG9 F9 (by simp); (case q_t9 => assumption))); (case q_k2 => assumption); (case q_k3 => first | rfl | assumption | omega | (simp only [Int.fdiv_eq_ediv_of_nonneg _ (by decide : (0 : Int) ≤ 2)]; omega)); (case q_k4 => first | assumption | omega); (case q_k6 => with_unfolding_all rfl); k_whole))
  k_with "call builtin:len" => (k_here; (with_reducible show wpAny _ _ (call (Value.builtin "len") [Value.ref _]) _ _ _); refine' my_len ?q_k1 ?q_k2 ?_; (case q_k1 => first | assumption | ((rename GSub _ _ _ => kG9); (rename Fr _ _ _ _ => F9); refine' list_up ?q_t9 kG9 F9 (by simp); (case q_t9 => assumption))); (case q_k2 => first | assumption | omega); intro _ _)
  k_with "subscriptTail" => (k_here; (with_reducible show wpAny _ _ (subscriptTail _ _ (Value.ref _) (Value.int _ _)) _ _ _); (with_unfolding_all refine' my_titem ?q_k1 ?q_k2 ?q_k3 ?q_k4 ?_ ?q_k6; (case q_k1 => first | assumption | ((rename GSub _ _ _ => kG9); (rename Fr _ _ _ _ => F9); refine' TT.up ?q_t9 kG9 F9 (by simp); (case q_t9 => assumption))); (case q_k2 => first | assumption | decide | omega); (case q_k3 => first | assumption | exact rfl); (case q_k4 => first | assumption | (simp only [List.length_cons, List.length_nil]; decide)); (case q_k6 => with_unfolding_all rfl); k_whole))
  trivial
theorem cu1 (v : List Value) : (Code.builtin "type.__call__" ⟨v, []⟩).cUnits = 1 := by
  first | rfl | kernel_rfl
theorem make_my {prog : Program} {w : World} {A : Around} {s : Shared} {h₀ : Heap} {L C : Addr} {m : Str → Option Value} {K : Frag} {R : Result → Shared → Prop} {rest : List Value} {fI : Addr} (F : Fr h₀ L s.heap m) (X : K.In s.heap) (hm : makesIn K C = true)
    (hi : findIn K (.ref C) "__init__" = some (some (.ref fI))) (hf : isFn K (.ref fI) = true)
    (h : ∀ x dx h', Fr h₀ L h' m → News h₀ L h' [(x, instObj C dx), (dx, dictOf [] 0)] → dx < x → s.heap.get? x = none → s.heap.get? dx = none → Kp s.heap h' →
      codeAny (model prog w) (A.under (.builtin "type.__call__" ⟨.ref C :: rest, []⟩)) (.call (.ref fI) ⟨.ref x :: rest, []⟩) (InitBack x R) { s with heap := h' }) :
    codeAny (model prog w) A (.call (.ref C) ⟨rest, []⟩) R s := by
  obtain ⟨hh, g, d, t, os⟩ := s
  have N0 : News h₀ L hh [] := News.nil
  have N1 := (N0.push F (dictOf [] 0)).push (F.push _) (instObj C hh.objs.size)
  rw [Heap.size_push] at N1
  exact make_core (makes_of X hm) (looks_findIn X hi) (fun self => bind_fn X self (beq_iff_eq.mp hf)) (.inl rfl)
    (h _ hh.objs.size _ ((F.push _).push _) N1 (Nat.lt_succ_self _) (ge_none (Nat.le_succ _)) (ge_none (Nat.le_refl _)) fun b o e => Heap.get?_push_of_some _ (Heap.get?_push_of_some _ e))
theorem my_type {prog : Program} {w : World} {A : Around} {E : Value → Shared → Prop} {s : Shared} {g : Heap} {L l : Addr} {m : Str → Option Value} {vs : List Value} {Q : Value → Shared → Prop} (F : Fr g L s.heap m) (hl : LL g l vs) (h : Q (.type "list") s) :
    wpAny (model prog w) A (call (.type "type") [.ref l]) Q E s :=
  call_type_of (hl.kp F.keep).isList.typeIs (by decide) h
section
example : True := by
  k_with "exec For Tuple Name cons cons" => (k_here; refine stopHere ?_)
  k_with "exec For Tuple Name cons nil" => (k_here; refine stopHere ?_)
  k_with "call ref" => (k_here; refine stopHere ?_)
  k_with "pyIter ref" => (k_here; refine stopHere ?_)
  k_with "call type:type" => (k_here; k_dflt (refine' my_type ?q_a ?q_b ?_; (case q_a => k_asm); (case q_b => assumption)))
  trivial
theorem hnew_c (B : Below A₀ base outer h₀) (F : Fr h₀ L s.heap m) (X : (hd.heap_1 w.params).In h₀) (T : Top p loose mean mg mb h₀) (hk : cs.kind = .function) (hd1 : dp + 15 < recursionLimit) (hu : un + 150 < cLine)
    (l : Addr) (rs : List Row) (hll : LL s.heap l (rs.map Row.ref)) (hrs : Rows s.heap rs) (hlen : rs.length < 2 ^ 20)
    (hret : ∀ (x : Addr) (h' : Heap) (tk' : Nat), s.heap.get? x = none → (∃ dx ehash te nx, s.heap.get? dx = none ∧ h'.get? x = some (instObj 242 dx) ∧ h'.get? dx = some (dictOf [⟨ehash, .str (Str.ofString "_headers") te, .ref l⟩] nx)) → Kp s.heap h' → Q (.ref x) { s with heap := h', toks := tk' }) :
    wpAny (model PySem.Challenge.rw_uc0025_01.row.prog w) (ktrTop dp un gd cn cs L a ccd cl outer) (call (.ref 242) [.ref l]) Q E s := by
  k_dflt (refine' wpAny_call (make_my F (X.keeps F.keep) ?k4 ?k5 ?k6 ?_))
  case k4 => k_is
  case k5 => k_is
  case k6 => k_is
  intro x dx h1 F1 N1 l2 hxn hdn kp1
  have hxd : dx ≠ x := Nat.ne_of_lt l2
  have hxd' : x ≠ dx := Ne.symm hxd
  k_dflt (refine' enterP ?k1 ?k2 ?k3 ?k4 ?k5 ?kA ?kF ?kK ?k6 ?k7 ?k8 ?k9 ?kB ?_ ?c2 ?c3 ?c4 ?c5; (case kA => exact rfl); (case kF => exact rfl); (case kK => assumption); (case k1 => k_asm); (case k2 => k_asm); (case k3 => k_asm); (case k4 => first | assumption | exact News.nil); (case k5 => k_asm); (case k6 => k_is); (case k7 => k_is); (case k8 => ktr_room); (case k9 => first | exact BindsTo.of_eq rfl | exact binds_K (by k_in) rfl (by k_is) rfl rfl rfl | exact binds_peek (by k_in) (fun _ => rfl)); (case c5 => decide); (case kB => exact locs rfl); (case c2 => exact rfl); (case c3 => exact rfl); (case c4 => exact rfl); k_whole; intro g2 L2 h2 FG2 F0 N2 B2 X2 T2 kG2; (try dsimp only); (try k_lift B2); (try k_fold))
  have F2 : Fr g2 L2 h2 (fun y => List.lookup y [(Str.ofString "headers", .ref l), (Str.ofString "self", .ref x)]) := F0
  clear F0
  have kg2 : Kp s.heap g2 := fun b o e => kG2 b o (kp1 b o e) (by
    intro q
    rcases (by simpa using q : b = x ∨ b = dx) with rfl | rfl
    · rw [hxn] at e; cases e
    · rw [hdn] at e; cases e)
  have hll2 := hll.kp kg2
  have hrs2 := hrs.kp kg2
  refine wpAny_noRaise' ?_
  k_steps
  rename_i tka h3 tkb h4 F4 N4
  unfold Stop
  refine wpAny_For ?_
  k_steps
  unfold Stop
  refine iter_list' F4 (hll2.kp F4.keep).isList fun it h5 F5 k5 hit hgi hiL hin => ?_
  have N5 := news_kp N4 k5
  have hoff := news_off N4 hin
  dsimp only at F5 N5 ⊢
  clear F4 N4
  refine for_pairs (f := fun i => ((rs.getD i default).a, (rs.getD i default).name, (rs.getD i default).val)) rfl rfl rfl rfl F5 N5 hit hll2.isList hgi hiL hoff (fun i hi => ?_) (fun _ m => m (Str.ofString "self") = some (.ref x)) rfl ?_ ?_
  · have hi' : i < rs.length := by simpa using hi
    have e : rs[i]? = some (rs.getD i default) := by rw [List.getD_eq_getElem?_getD, List.getElem?_eq_getElem hi']; rfl
    refine ⟨by rw [List.getElem?_map, e]; rfl, (hrs2 _ (List.mem_of_getElem? e)).2.2⟩
  · intro i tk2 m₁ h6 ito hi j1 F6 N6
    have hi' : i < rs.length := by simpa using hi
    have e : rs[i]? = some (rs.getD i default) := by rw [List.getD_eq_getElem?_getD, List.getElem?_eq_getElem hi']; rfl
    obtain ⟨hc6, hd6, _⟩ := hrs2 _ (List.mem_of_getElem? e)
    generalize rs.getD i default = r at *
    have F7 := fr_reads [(Str.ofString "v", r.val), (Str.ofString "k", r.name), (Str.ofString "self", .ref x)] F6 (by
      intro q hq
      simp only [List.mem_cons, List.not_mem_nil, or_false] at hq
      rcases hq with rfl | rfl | rfl <;> first | rfl | exact j1)
    simp only [kstB] at F7
    clear F6 F5
    k_steps
    unfold Stop
    k_dflt (refine' conv_nm B2 F7 X2 T2 ?k1 ?d1 ?u1 (.ref x) r.c hc6 _ ?_)
    case k1 => exact rfl
    case d1 => first | exact room_le hd1 rfl | ktr_room
    case u1 => (show un + (Code.builtin "type.__call__" ⟨_, []⟩).cUnits + 3 + 50 < cLine; rw [cu1]; omega)
    intro h8 tk8 k8
    have F8 := fr_kp F7 k8
    have N8 := news_kp N6 k8
    dsimp only at F8 N8 ⊢
    clear F7 N6
    k_steps
    unfold Stop
    k_dflt (refine' conv_sg B2 F8 X2 T2 ?k2 ?d2 ?u2 (.ref x) r.d hd6 _ ?_)
    case k2 => exact rfl
    case d2 => first | exact room_le hd1 rfl | ktr_room
    case u2 => (show un + (Code.builtin "type.__call__" ⟨_, []⟩).cUnits + 3 + 50 < cLine; rw [cu1]; omega)
    intro h9 tk9 k9
    have F9 := fr_kp F8 k9
    have N9 := news_kp N8 k9
    dsimp only at F9 N9 ⊢
    clear F8 N8
    k_steps
    exact ⟨_, _, _, rfl, F9, N9, rfl⟩
  · intro m₁ h6 tk2 j1 F6 N6
    (try dsimp only)
    k_steps
    refine And.intro rfl (hret x h6 _ hxn ?_ ?_)
    · exact ⟨dx, _, _, _, hdn, (N6 (x, _) (.head _)).1, (N6 (dx, _) (.tail _ (.head _))).1⟩
    · exact fun b o e => F6.keep _ _ (kg2 b o e)
end

/-! H0 -/
example : True := by
  k_with_none
  k_with "subscriptTail" => (k_here; (with_reducible show wpAny _ _ (subscriptTail _ _ (Value.ref _) (Value.int _ _)) _ _ _); (with_unfolding_all refine' my_item ?q_k1 ?q_k2 ?q_k3 ?q_k4 ?_ ?q_k6; (case q_k1 => first | assumption | ((rename GSub _ _ _ => kG9); (rename Fr _ _ _ _ => F9); refine' list_up ?q_t9 kG9 F9 (by simp); (case q_t9 => assumption))); (case q_k2 => assumption); (case q_k3 => first | rfl | assumption | omega | (simp only [Int.fdiv_eq_ediv_of_nonneg _ (by decide : (0 : Int) ≤ 2)]; omega)); (case q_k4 => first | assumption | omega); (case q_k6 => with_unfolding_all rfl); k_whole))
  k_with "call builtin:len" => (k_here; (with_reducible show wpAny _ _ (call (Value.builtin "len") [Value.ref _]) _ _ _); refine' my_len ?q_k1 ?q_k2 ?_; (case q_k1 => first | assumption | ((rename GSub _ _ _ => kG9); (rename Fr _ _ _ _ => F9); refine' list_up ?q_t9 kG9 F9 (by simp); (case q_t9 => assumption))); (case q_k2 => first | assumption | omega); intro _ _)
  k_with "subscriptTail" => (k_here; (with_reducible show wpAny _ _ (subscriptTail _ _ (Value.ref _) (Value.int _ _)) _ _ _); (with_unfolding_all refine' my_titem ?q_k1 ?q_k2 ?q_k3 ?q_k4 ?_ ?q_k6; (case q_k1 => first | assumption | ((rename GSub _ _ _ => kG9); (rename Fr _ _ _ _ => F9); refine' TT.up ?q_t9 kG9 F9 (by simp); (case q_t9 => assumption))); (case q_k2 => first | assumption | decide | omega); (case q_k3 => first | assumption | exact rfl); (case q_k4 => first | assumption | (simp only [List.length_cons, List.length_nil]; decide)); (case q_k6 => with_unfolding_all rfl); k_whole))
  k_with "exec For Tuple Name cons cons" => (k_here; refine stopHere ?_)
  k_with "exec For Tuple Name cons nil" => (k_here; refine stopHere ?_)
  k_with "call ref" => (k_here; refine stopHere ?_)
  k_with "pyIter ref" => (k_here; refine stopHere ?_)
  k_with "call type:type" => (k_here; k_dflt (refine stopHere ?_))
  trivial
section
theorem hnew0_c (B : Below A₀ base outer h₀) (F : Fr h₀ L s.heap m) (X : (hd.heap_1 w.params).In h₀) (T : Top p loose mean mg mb h₀) (hk : cs.kind = .function) (hd1 : dp + 15 < recursionLimit) (hu : un + 150 < cLine)
    (hret : ∀ (x l : Addr) (h' : Heap) (tk' : Nat), s.heap.get? x = none → s.heap.get? l = none → (∃ dx ehash te nx, s.heap.get? dx = none ∧ h'.get? x = some (instObj 242 dx) ∧ h'.get? dx = some (dictOf [⟨ehash, .str (Str.ofString "_headers") te, .ref l⟩] nx)) → LL h' l [] → Kp s.heap h' → Q (.ref x) { s with heap := h', toks := tk' }) :
    wpAny (model PySem.Challenge.rw_uc0025_01.row.prog w) (ktrTop dp un gd cn cs L a ccd cl outer) (call (.ref 242) []) Q E s := by
  k_dflt (refine' wpAny_call (make_my F (X.keeps F.keep) ?k4 ?k5 ?k6 ?_))
  case k4 => k_is
  case k5 => k_is
  case k6 => k_is
  intro x dx h1 F1 N1 l2 hxn hdn kp1
  have hxd : dx ≠ x := Nat.ne_of_lt l2
  have hxd' : x ≠ dx := Ne.symm hxd
  k_dflt (refine' enterP ?k1 ?k2 ?k3 ?k4 ?k5 ?kA ?kF ?kK ?k6 ?k7 ?k8 ?k9 ?kB ?_ ?c2 ?c3 ?c4 ?c5; (case kA => exact rfl); (case kF => exact rfl); (case kK => assumption); (case k1 => k_asm); (case k2 => k_asm); (case k3 => k_asm); (case k4 => first | assumption | exact News.nil); (case k5 => k_asm); (case k6 => k_is); (case k7 => k_is); (case k8 => ktr_room); (case k9 => first | exact BindsTo.of_eq rfl | exact binds_K (by k_in) rfl (by k_is) rfl rfl rfl | exact binds_peek (by k_in) (fun _ => rfl)); (case c5 => decide); (case kB => exact locs rfl); (case c2 => exact rfl); (case c3 => exact rfl); (case c4 => exact rfl); k_whole; intro g2 L2 h2 FG2 F0 N2 B2 X2 T2 kG2; (try dsimp only); (try k_lift B2); (try k_fold))
  have F2 : Fr g2 L2 h2 (fun y => List.lookup y [(Str.ofString "headers", .none), (Str.ofString "self", .ref x)]) := F0
  clear F0
  have kg2 : Kp s.heap g2 := fun b o e => kG2 b o (kp1 b o e) (by
    intro q
    rcases (by simpa using q : b = x ∨ b = dx) with rfl | rfl
    · rw [hxn] at e; cases e
    · rw [hdn] at e; cases e)
  refine wpAny_noRaise' ?_
  k_steps
  rename_i tka lh h3 lt3 h4 F4 N4
  unfold Stop
  have hlx : lh ≠ x := Ne.symm (Nat.ne_of_lt lt3.1)
  have hld : lh ≠ dx := Ne.symm (Nat.ne_of_lt lt3.2)
  have hgl : g2.get? lh = none := (N4 (lh, _) (.head _)).2.2
  refine call_type_of (Tx := "list") ⟨_, (N4 (lh, _) (.head _)).1, rfl⟩ (by decide) ?_
  k_steps
  rename_i tkb h5 F5 N5
  unfold Stop
  refine wpAny_For ?_
  k_steps
  unfold Stop
  have hl5 : LL h5 lh [] := ⟨0, (N5 (lh, _) (.head _)).1⟩
  refine iter_list' F5 hl5.isList fun it h6 F6 k6 hit hgi hiL hin => ?_
  have N6 := news_kp N5 k6
  have hoff := news_off N5 hin
  have hl6 := hl5.kp k6
  dsimp only at F6 N6 ⊢
  clear F5 N5
  refine for_nil rfl F6 N6 hit hl6.isList hgi hiL hoff fun h7 tk7 F7 N7 => ?_
  (try dsimp only)
  k_steps
  refine And.intro rfl (hret x lh h7 _ hxn (none_of_kp kg2 hgl) ?_ ⟨0, (N7 (lh, _) (.head _)).1⟩ fun b o e => F7.keep _ _ (kg2 b o e))
  exact ⟨dx, _, _, _, hdn, (N7 (x, _) (.tail _ (.head _))).1, (N7 (dx, _) (.tail _ (.tail _ (.head _)))).1⟩
end

/-! K1 -/
example : True := by
  k_with_none
  k_with "subscriptTail" => (k_here; (with_reducible show wpAny _ _ (subscriptTail _ _ (Value.ref _) (Value.int _ _)) _ _ _); (with_unfolding_all refine' my_item ?q_k1 ?q_k2 ?q_k3 ?q_k4 ?_ ?q_k6; (case q_k1 => first | assumption | ((rename GSub _ _ _ => kG9); (rename Fr _ _ _ _ => F9); refine' list_up ?q_t9 kG9 F9 (by simp); (case q_t9 => assumption))); (case q_k2 => assumption); (case q_k3 => first | rfl | assumption | omega | (simp only [Int.fdiv_eq_ediv_of_nonneg _ (by decide : (0 : Int) ≤ 2)]; omega)); (case q_k4 => first | assumption | omega); (case q_k6 => with_unfolding_all rfl); k_whole))
  k_with "call builtin:len" => (k_here; (with_reducible show wpAny _ _ (call (Value.builtin "len") [Value.ref _]) _ _ _); refine' my_len ?q_k1 ?q_k2 ?_; (case q_k1 => first | assumption | ((rename GSub _ _ _ => kG9); (rename Fr _ _ _ _ => F9); refine' list_up ?q_t9 kG9 F9 (by simp); (case q_t9 => assumption))); (case q_k2 => first | assumption | omega); intro _ _)
  k_with "subscriptTail" => (k_here; (with_reducible show wpAny _ _ (subscriptTail _ _ (Value.ref _) (Value.int _ _)) _ _ _); (with_unfolding_all refine' my_titem ?q_k1 ?q_k2 ?q_k3 ?q_k4 ?_ ?q_k6; (case q_k1 => first | assumption | ((rename GSub _ _ _ => kG9); (rename Fr _ _ _ _ => F9); refine' TT.up ?q_t9 kG9 F9 (by simp); (case q_t9 => assumption))); (case q_k2 => first | assumption | decide | omega); (case q_k3 => first | assumption | exact rfl); (case q_k4 => first | assumption | (simp only [List.length_cons, List.length_nil]; decide)); (case q_k6 => with_unfolding_all rfl); k_whole))
  k_with "own k_inst" => exact inst_fr (by assumption) (by assumption)
  k_with "call ref" => (k_here; refine stopHere ?_)
  k_with "eval ListComp" => (k_here; refine stopHere ?_)
  k_with "eval Name" => (k_here; (with_reducible show wpAny _ _ (eval (Expr.Name _ _) (compEnvC _ _ _ _)) _ _ _); (with_unfolding_all refine' wpAny_Name (wpAny_loadName_local ?q_a ?q_b ?q_c ?q_d ?_) ?q_e; (case q_a => rfl); (case q_b => rfl); (case q_c => assumption); (case q_d => assumption); (case q_e => decide); k_whole))
  trivial
section
theorem column_c (B : Below A₀ base outer h₀) (F : Fr h₀ L s.heap m) (X : (hd.heap_1 w.params).In h₀) (T : Top p loose mean mg mb h₀) (hk : cs.kind = .function) (hd1 : dp + 25 < recursionLimit) (hu : un + 250 < cLine)
    (x hl : Addr) (rs : List Row) (hx : HT s.heap x hl) (hll : LL s.heap hl (rs.map Row.ref)) (hrs : Rows s.heap rs) (hlen : rs.length < 2 ^ 20) (c : Nat) (hc : c < 2 ^ 20) (t : Tok)
    (hret : ∀ (D : Addr) (h' : Heap) (tk' : Nat), s.heap.get? D = none → LL h' D ((colOf rs c).map Row.val) → Kp s.heap h' → Q (.ref D) { s with heap := h', toks := tk' }) :
    wpAny (model PySem.Challenge.rw_uc0025_01.row.prog w) (ktrTop dp un gd cn cs L a ccd cl outer) (call (.ref 258) [.ref x, .int (c : Int) t]) Q E s := by
  refine wpAny_call ?_
  k_dflt (refine' enterC ?k1 ?k2 ?k3 ?k4 ?k5 ?kA ?kF ?kK ?k6 ?k7 ?k8 ?k9 ?kB ?kD ?_ ?c2 ?c3 ?c4; (case kA => exact rfl); (case kF => exact rfl); (case kK => assumption); (case k1 => k_asm); (case k2 => k_asm); (case k3 => k_asm); (case k4 => first | assumption | exact News.nil); (case k5 => k_asm); (case k6 => k_is); (case k7 => k_is); (case k8 => ktr_room); (case k9 => first | exact BindsTo.of_eq rfl | exact binds_K (by k_in) rfl (by k_is) rfl rfl rfl | exact binds_peek (by k_in) (fun _ => rfl)); (case kB => exact rfl); (case kD => decide +kernel); (case c2 => exact rfl); (case c3 => exact rfl); (case c4 => exact rfl); k_whole; intro g1 L1 h1 tk1 cells9 FG1 F0 N1 Y9 B1 X1 T1 l1 kG1; (try k_lt l1); k_cells Y9; (try simp only [List.cons_append, List.nil_append] at N1); (try dsimp only); (try k_lift B1); (try k_fold))
  rename_i o1 o2 o3 e1 e2 e3
  have d3 : o3.data = .cell (some (.ref x)) := e3
  have d2 : o2.data = .cell (some (.int (c : Int) t)) := e2
  have d1 : o1.data = .cell none := e1
  clear e1 e2 e3
  have F1 : Fr g1 L1 h1 (fun _ => none) := F0
  have kg : Kp s.heap g1 := fun b o e => kG1 b o e (List.not_mem_nil)
  have hx1 := hx.kp kg
  refine exE4 (id hx1) fun dx ehash te nx jj => andE2 jj fun hxx hdx => ?_
  clear jj
  have hI : InstAt g1 x (instObj 242 dx) 242 (some (dictOf [⟨ehash, .str (Str.ofString "_headers") te, .ref hl⟩] nx)) := ⟨hxx, rfl, rfl, hdx⟩
  have hll1 := hll.kp kg
  have hrs1 := hrs.kp kg
  clear F0
  refine wpAny_noRaise' ?_
  k_steps
  unfold Stop
  k_dflt (refine' comp_list (g := g1) (L := L1) (fun _ => true) (fun i y as _ _ => ∃ D n, y = .ref D ∧ as = [(D, listOf ((rowOf rs i).map Row.val).toArray n)]) (fun i v m3 => m3 (Str.ofString "name") = some v) ?hh ?hclos ?hcell ?hkind ?hnames ?h ?hs)
  case hh => rfl
  case hclos => rfl
  case hcell => decide
  case hkind => rfl
  case hnames => decide
  case hs => exact fun _ => rfl
  case h =>
    k_steps
    rename_i ll h3 F3 N3 lt3
    refine ListSrc.intro [.str (nm 3) tk1, .str (nm 4) (tk1 + 1), .str (nm 5) (tk1 + 1 + 1)] F3 N3 ⟨0, (N3 (ll, _) (.head _)).1⟩ (by simp) ?_ ?_ ?_
    · intro I C D s' i v h1 h2 h3 h4 h5
      exact binds_name rfl rfl
    · intro C i v h4 tk4 m4 hC1 hC2 hin hP hlo4 hN4 hB4 k4 F4 N4
      have hin' : i < 3 := hin
      obtain ⟨tv, rfl⟩ : ∃ tv, v = .str (nm (3 + i)) tv := by
        match i, hin' with
        | 0, _ => exact ⟨_, (Option.some.inj hP).symm⟩
        | 1, _ => exact ⟨_, (Option.some.inj hP).symm⟩
        | 2, _ => exact ⟨_, (Option.some.inj hP).symm⟩
      refine ⟨?_, fun hpz => ?_⟩
      · k_steps
        exact TestIs.intro rfl fun _ _ e => e
      · k_steps
        unfold Stop
        k_dflt (refine' getall_c B1 F4 X1 T1 ?k1 ?d1 ?u1 x hl rs (hx1.kp F4.keep) (hll1.kp F4.keep) (hrs1.kp F4.keep) hlen (3 + i) (by omega) tv ?_)
        case k1 => exact rfl
        case d1 => first | exact room_le hd1 rfl | ktr_room
        case u1 => first | exact units_le hu rfl | ktr_units
        intro D h5 tk5 hD hl5 k5
        have e3 : ∀ i, i < 3 → (3 + i) % 3 = i := by omega
        rw [e3 i hin'] at hl5
        obtain ⟨nD, hl5⟩ := hl5
        refine EltIs.news [(D, _)] k5 (fun _ _ _ _ _ => ⟨D, nD, rfl, rfl⟩) ?_
        intro q hq
        rw [List.mem_singleton.mp hq]
        exact ⟨hD, hl5⟩
    · intro D h5 tk5 log hD1 hD2 hD3 hD4 hi hL k5 F5 N5 ht5
      rw [range_all] at hi
      refine exE3 (log_three hi) fun ea eb ec jj => andE4 jj fun ez3 ia ib ic => ?_
      clear jj
      subst ez3
      obtain ⟨⟨Da, na, ya, wa⟩, fa⟩ := log_new hL (by simp : ea ∈ [ea, eb, ec])
      obtain ⟨⟨Db, nb, yb, wb⟩, fb⟩ := log_new hL (by simp : eb ∈ [ea, eb, ec])
      obtain ⟨⟨Dc, nc, yc, wc⟩, fc⟩ := log_new hL (by simp : ec ∈ [ea, eb, ec])
      refine andE3 (fa Da _ (by rw [wa]; exact .head _)) fun a1 a2 a3 => ?_
      refine andE3 (fb Db _ (by rw [wb]; exact .head _)) fun b1 b2 b3 => ?_
      refine andE3 (fc Dc _ (by rw [wc]; exact .head _)) fun c1 c2 c3 => ?_
      rw [ia] at a1
      rw [ib] at b1
      rw [ic] at c1
      have fra := fresh_of F3 a3
      have frb := fresh_of F3 b3
      have frc := fresh_of F3 c3
      obtain ⟨nD, hD5⟩ := hD4
      simp only [List.map_cons, List.map_nil, ya, yb, yc] at hD5
      have N6 : News g1 L1 h5 ((D, listOf #[.ref Da, .ref Db, .ref Dc] nD) :: (Da, listOf ((rowOf rs 0).map Row.val).toArray na) :: (Db, listOf ((rowOf rs 1).map Row.val).toArray nb) :: (Dc, listOf ((rowOf rs 2).map Row.val).toArray nc) :: [(L1 + 1 + 1 + 1, o1), (L1 + 1 + 1, o2), (L1 + 1, o3)]) := by
        intro q hq
        revert q
        refine all_cons ?_ (all_cons ?_ (all_cons ?_ (all_cons ?_ (all_cons ?_ (all_cons ?_ (all_cons ?_ (fun _ h => nomatch h)))))))
        · exact ⟨hD5, hD3, hD2⟩
        · exact ⟨a1, fra.2, fra.1⟩
        · exact ⟨b1, frb.2, frb.1⟩
        · exact ⟨c1, frc.2, frc.1⟩
        · exact N5 _ (by repeat (first | exact List.Mem.head _ | apply List.Mem.tail))
        · exact N5 _ (by repeat (first | exact List.Mem.head _ | apply List.Mem.tail))
        · exact N5 _ (by repeat (first | exact List.Mem.head _ | apply List.Mem.tail))
      have hcl : ∀ b, h3.get? b = none → b ≠ L1 + 1 + 1 + 1 := fun b e q => by
        have := (N3 (L1 + 1 + 1 + 1, o1) (by repeat (first | exact List.Mem.head _ | apply List.Mem.tail))).1
        rw [← q] at this; rw [e] at this; cases this
      have q0 : D ≠ L1 + 1 + 1 + 1 := hcl D hD1
      have qa : Da ≠ L1 + 1 + 1 + 1 := hcl Da a3
      have qb : Db ≠ L1 + 1 + 1 + 1 := hcl Db b3
      have qc : Dc ≠ L1 + 1 + 1 + 1 := hcl Dc c3
      clear N5 N3 F3
      k_steps
      rename_i h7 o7 F7 N7 d7
      unfold Stop
      k_dflt (refine' comp_range (g := g1) (L := L1) (colIn rs c) (fun i y _ _ _ => y = ((rowOf rs i).getD (c - i) default).val) (fun i v m3 => m3 (Str.ofString "k") = some v) ?hh2 ?hclos2 ?hcell2 ?hkind2 ?hnames2 ?h2 ?hs2)
      case hh2 => rfl
      case hclos2 => rfl
      case hcell2 => decide
      case hkind2 => rfl
      case hnames2 => decide
      case hs2 => exact fun _ => rfl
      case h2 =>
        k_steps
        rename_i t1 u1 v1 hr F8 N8 k8
        refine RangeSrc.intro 3 F8 N8 hr (by decide) ?_ ?_ ?_
        · intro I C D s' i v h1 h2 h3 h4
          exact binds_name rfl rfl
        · rintro C i v h4 tk4 m4 hC1 hC2 hin ⟨tv, rfl, tl, tg⟩ hlo4 hN4 hB4 k4 F4 N4
          have hin' : i < 3 := hin
          obtain ⟨Dk, hix, hDk⟩ : ∃ Dk, [Value.ref Da, Value.ref Db, Value.ref Dc][i]? = some (.ref Dk) ∧ LL h4 Dk ((rowOf rs i).map Row.val) := by
            match i, hin' with
            | 0, _ => exact ⟨Da, rfl, na, (N4 (Da, _) (by repeat (first | exact List.Mem.head _ | apply List.Mem.tail))).1⟩
            | 1, _ => exact ⟨Db, rfl, nb, (N4 (Db, _) (by repeat (first | exact List.Mem.head _ | apply List.Mem.tail))).1⟩
            | 2, _ => exact ⟨Dc, rfl, nc, (N4 (Dc, _) (by repeat (first | exact List.Mem.head _ | apply List.Mem.tail))).1⟩
          have hDl : h4.IsList D [Value.ref Da, Value.ref Db, Value.ref Dc].toArray := (show LL h4 D _ from ⟨nD, (N4 (D, _) (by repeat (first | exact List.Mem.head _ | apply List.Mem.tail))).1⟩).isList
          have hDl' := hDk.isList
          have hlen3 : [Value.ref Da, Value.ref Db, Value.ref Dc].length < 2 ^ 62 := by simp
          have hle : (rowOf rs i).length ≤ rs.length := List.length_filter_le _ _
          have hlen7 : ((rowOf rs i).map Row.val).length < 2 ^ 62 := by rw [List.length_map]; omega
          refine ⟨?_, fun hpz => ?_⟩
          · k_steps
            · refine TestIs.intro ?_ fun _ _ e => e
              unfold colIn
              rw [List.length_map]
              apply decide_eq_decide.mpr
              omega
            · refine TestIs.intro ?_ fun _ _ e => e
              unfold colIn
              symm
              apply decide_eq_false
              omega
          · have hpz' := of_decide_eq_true hpz
            obtain ⟨hic, hil⟩ := hpz'
            have hjx : ((rowOf rs i).map Row.val)[c - i]? = some (((rowOf rs i).getD (c - i) default).val) := by
              rw [List.getElem?_map, List.getD_eq_getElem?_getD, List.getElem?_eq_getElem hil]; rfl
            k_steps
            exact EltIs.plain (fun _ _ e => e) fun _ _ _ _ _ => rfl
        · intro D9 h9 tk9 log hD1 hD2 hD3 hD4 hi hL k9 F9 N9 ht9
          (try dsimp only)
          refine hret D9 h9 _ (none_of_kp kg hD2) ?_ fun b o e => F9.keep b o (kg b o e)
          have e : (colOf rs c).map Row.val = ((List.range 3).filter (colIn rs c)).map fun i => ((rowOf rs i).getD (c - i) default).val := by
            unfold colOf
            rw [List.map_map]; rfl
          rw [e, ← logs hi fun e he => (hL.1 e he).2.2.1]
          exact hD4
end

/-! PU -/
example : True := by
  k_with_none
  k_with "subscriptTail" => (k_here; (with_reducible show wpAny _ _ (subscriptTail _ _ (Value.ref _) (Value.int _ _)) _ _ _); (with_unfolding_all refine' my_item ?q_k1 ?q_k2 ?q_k3 ?q_k4 ?_ ?q_k6; (case q_k1 => first | assumption | ((rename GSub _ _ _ => kG9); (rename Fr _ _ _ _ => F9); refine' list_up ?q_t9 kG9 F9 (by simp); (case q_t9 => assumption))); (case q_k2 => assumption); (case q_k3 => first | rfl | assumption | omega | (simp only [Int.fdiv_eq_ediv_of_nonneg _ (by decide : (0 : Int) ≤ 2)]; omega)); (case q_k4 => first | assumption | omega); (case q_k6 => with_unfolding_all rfl); k_whole))
  k_with "call builtin:len" => (k_here; (with_reducible show wpAny _ _ (call (Value.builtin "len") [Value.ref _]) _ _ _); refine' my_len ?q_k1 ?q_k2 ?_; (case q_k1 => first | assumption | ((rename GSub _ _ _ => kG9); (rename Fr _ _ _ _ => F9); refine' list_up ?q_t9 kG9 F9 (by simp); (case q_t9 => assumption))); (case q_k2 => first | assumption | omega); intro _ _)
  k_with "subscriptTail" => (k_here; (with_reducible show wpAny _ _ (subscriptTail _ _ (Value.ref _) (Value.int _ _)) _ _ _); (with_unfolding_all refine' my_titem ?q_k1 ?q_k2 ?q_k3 ?q_k4 ?_ ?q_k6; (case q_k1 => first | assumption | ((rename GSub _ _ _ => kG9); (rename Fr _ _ _ _ => F9); refine' TT.up ?q_t9 kG9 F9 (by simp); (case q_t9 => assumption))); (case q_k2 => first | assumption | decide | omega); (case q_k3 => first | assumption | exact rfl); (case q_k4 => first | assumption | (simp only [List.length_cons, List.length_nil]; decide)); (case q_k6 => with_unfolding_all rfl); k_whole))
  trivial
structure PutSt where
  falls : Bool
  line : Nat
  tl : Tok
  mv : Nat
  rs : List Row
  new : List Row
  n1 : Nat
  nn : Nat
  n2 : Nat
  fuel : Nat
section
example : True := by
  k_with "eval Name" => (k_here; k_dflt (refine' ld ?q_k1 ?q_k2 ?_; (case q_k1 => k_asm); (case q_k2 => first | exact rfl | assumption); k_whole))
  k_with "own k_inst" => exact inst_fr (by assumption) (by assumption)
  k_with "subscriptTail" => (k_here; (with_reducible show wpAny _ _ (subscriptTail _ _ (Value.ref _) (Value.int _ _)) _ _ _); k_dflt (first | (refine' my_lit3 nm ?q_k1 ?q_k2 ?q_e0 ?q_e1 ?q_e2 ?q_k3 ?_ ?q_k6; (case q_k1 => assumption); (case q_k2 => exact .head _); (case q_e0 => rfl); (case q_e1 => rfl); (case q_e2 => rfl); (case q_k3 => assumption); (case q_k6 => with_unfolding_all rfl); intro _) | (refine' my_lit3 (fun j => nm (3 + j)) ?q_k1 ?q_k2 ?q_e0 ?q_e1 ?q_e2 ?q_k3 ?_ ?q_k6; (case q_k1 => assumption); (case q_k2 => exact .head _); (case q_e0 => rfl); (case q_e1 => rfl); (case q_e2 => rfl); (case q_k3 => assumption); (case q_k6 => with_unfolding_all rfl); intro _)))
  k_with "call builtin:list.append" => (k_here; refine stopHere ?_)
  k_with "call ref" => (k_here; refine stopHere ?_)
  k_with "eval BoolOp" => (k_here; refine stopHere ?_)
  k_with "eval IfExp" => (k_here; refine stopHere ?_)
  k_with "exec While Constant cons nil" => (k_here; refine stopHere ?_)
  trivial
theorem put_c (B : Below A₀ base outer h₀) (F : Fr h₀ L s.heap m) (X : (hd.heap_1 w.params).In h₀) (T : Top p loose mean mg mb h₀) (hk : cs.kind = .function) (hd1 : dp + 40 < recursionLimit) (hu : un + 400 < cLine)
    (x hl la : Addr) (circ : Bool) (d0 : Nat) (hd0 : d0 < 6) (τ : Nat → Tok) (ds : List Nat) (hτ0 : ∀ d ∈ ds, τ d ≠ 0) (hτ1 : ∀ d ∈ ds, ∀ e ∈ ds, τ d = τ e → d = e) (hds : d0 ∈ ds)
    (rs : List Row) (nn : Nat) (hx : HT s.heap x hl) (hll : LL s.heap hl (rs.map Row.ref)) (hrs : RowsP s.heap rs) (hlen : rs.length < 1000) (hnn : nn < 1000) (hla : LL s.heap la (List.replicate nn .none))
    (hrt : ∀ r ∈ rs, r.u = τ r.d ∧ r.d ∈ ds) (hl0 : h₀.get? hl = none) (hlL : hl ≠ L) (ha0 : h₀.get? la = none) (haL : la ≠ L) (hla' : la ≠ hl)
    (fuel : Nat) (hfu : fuel < 100) (row : Nat) (fell : Bool) (hs' : List (Nat × Nat)) (hput : putF circ fuel false 0 d0 (rs.map Row.ab) = some (row, fell, hs'))
    (hret : ∀ (D : Addr) (rs' : List Row) (nn' : Nat) (t : Tok) (h' : Heap) (tk' : Nat), s.heap.get? D = none → TT h' D [.int (row : Int) t, .bool fell] → LL h' hl (rs'.map Row.ref) → RowsP h' rs' → rs'.map Row.ab = hs' → (∀ r ∈ rs', r.u = τ r.d ∧ r.d ∈ ds) →
      (∀ r ∈ rs', r ∈ rs ∨ s.heap.get? r.a = none) → LL h' la (List.replicate nn' .none) → nn' ≤ nn + 100 → Kx [hl, la] s.heap h' → Q (.ref D) { s with heap := h', toks := tk' }) :
    wpAny (model PySem.Challenge.rw_uc0025_01.row.prog w) (ktrTop dp un gd cn cs L a ccd cl outer) (call (.ref 265) [.ref x, .ref hl, .str (sg d0) (τ d0), .bool circ, .ref la]) Q E s := by
  obtain ⟨n1, ho1⟩ := id hll
  obtain ⟨n2, ho2⟩ := id hla
  have N : News h₀ L s.heap [(hl, listOf (rs.map Row.ref).toArray n1), (la, listOf (List.replicate nn Value.none).toArray n2)] := fun q hq => by
    rcases List.mem_cons.mp hq with rfl | hq
    · exact ⟨ho1, hlL, hl0⟩
    · rw [List.mem_singleton.mp hq]
      exact ⟨ho2, haL, ha0⟩
  refine wpAny_call ?_
  k_dflt (refine' enterP ?k1 ?k2 ?k3 ?k4 ?k5 ?kA ?kF ?kK ?k6 ?k7 ?k8 ?k9 ?kB ?_ ?c2 ?c3 ?c4 ?c5; (case kA => exact rfl); (case kF => exact rfl); (case kK => assumption); (case k1 => k_asm); (case k2 => k_asm); (case k3 => k_asm); (case k4 => first | assumption | exact News.nil); (case k5 => k_asm); (case k6 => k_is); (case k7 => k_is); (case k8 => ktr_room); (case k9 => first | exact BindsTo.of_eq rfl | exact binds_K (by k_in) rfl (by k_is) rfl rfl rfl | exact binds_peek (by k_in) (fun _ => rfl)); (case c5 => decide); (case kB => exact locs rfl); (case c2 => exact rfl); (case c3 => exact rfl); (case c4 => exact rfl); k_whole; intro g1 L1 h1 FG1 F0 N1 B1 X1 T1 kG1; (try dsimp only); (try k_lift B1); (try k_fold))
  have F1 : Fr g1 L1 h1 (fun y => List.lookup y [(Str.ofString "answers", .ref la), (Str.ofString "circling", .bool circ), (Str.ofString "sign", .str (sg d0) (τ d0)), (Str.ofString "held", .ref hl), (Str.ofString "table", .ref x)]) := F0
  clear F0
  refine wpAny_noRaise' ?_
  k_steps
  rename_i tk2 D2 _ lt2 _ _ _ h2 F2 N2
  unfold Stop
  have N2' : News g1 L1 h2 ((hl, listOf (rs.map Row.ref).toArray n1) :: (la, listOf (List.replicate nn Value.none).toArray n2) :: Led []) := fun q hq => N2 q (.tail _ hq)
  have key : ∀ r ∈ rs, r.a ≠ hl ∧ r.a ≠ la := fun r hr => ⟨fun q => TT.notList (tupO_tt (hrs r hr).2.2) (q ▸ hll), fun q => TT.notList (tupO_tt (hrs r hr).2.2) (q ▸ hla)⟩
  have hrg : RowsP g1 rs := fun r hr => ⟨(hrs r hr).1, (hrs r hr).2.1, kG1 _ _ (hrs r hr).2.2 (by have := key r hr; simpa using this)⟩
  have hx1 : HT g1 x hl := by
    obtain ⟨dx, a1, a2, a3, e1, e2, q1, q2⟩ := hx.apart hll
    obtain ⟨_, _, _, _, e1', e2', q1', q2'⟩ := hx.apart hla
    rw [e1] at e1'
    cases e1'
    exact ⟨dx, a1, a2, a3, kG1 _ _ e1 (by simpa using ⟨q1, q1'⟩), kG1 _ _ e2 (by simpa using ⟨q2, q2'⟩)⟩
  refine exE4 (id hx1) fun dx ehash te nx jj => andE2 jj fun hxx hdx => ?_
  clear jj
  have hI : InstAt g1 x (instObj 242 dx) 242 (some (dictOf [⟨ehash, .str (Str.ofString "_headers") te, .ref hl⟩] nx)) := ⟨hxx, rfl, rfl, hdx⟩
  refine ksw_while (σ := PutSt) (fun c => (hl, listOf (c.rs.map Row.ref).toArray c.n1) :: (la, listOf (List.replicate c.nn Value.none).toArray c.n2) :: Led c.new)
    (fun c => [(Str.ofString "falls", .bool c.falls), (Str.ofString "line", .int (c.line : Int) c.tl), (Str.ofString "moving", .str (sg c.mv) (τ c.mv))]) (fun _ => True)
    [Str.ofString "seen", Str.ofString "spot", Str.ofString "row", Str.ofString "column", Str.ofString "name", Str.ofString "place", Str.ofString "driven"]
    (fun c => putF circ c.fuel c.falls c.line c.mv (c.rs.map Row.ab) = some (row, fell, hs') ∧ c.line ≤ 100 ∧ c.rs.length = rs.length ∧ c.nn + c.fuel ≤ nn + fuel ∧ c.mv < 6 ∧ c.mv ∈ ds ∧
      (∀ r ∈ c.rs, r.c < 6 ∧ r.d < 6 ∧ r.u = τ r.d ∧ r.d ∈ ds ∧ (r ∈ rs ∨ r ∈ c.new)) ∧ (∀ r ∈ c.new, s.heap.get? r.a = none)) (fun c => c.fuel)
    ⟨false, 0, tk2, d0, rs, [], n1, nn, n2, fuel⟩ F2 N2' trivial ?_ ⟨hput, Nat.zero_le _, rfl, Nat.le_refl _, hd0, hds, fun r hr => ⟨(hrs r hr).1, (hrs r hr).2.1, (hrt r hr).1, (hrt r hr).2, .inl hr⟩, by simp⟩ ?_
  · intro q hq
    simp only [List.mem_cons, List.not_mem_nil, or_false] at hq
    rcases hq with rfl | rfl | rfl <;> rfl
  · rintro ⟨falls, line, tl, mv, rs3, new3, n13, nn3, n23, fu3⟩ u3 h3 tk3 _ zz F3 N3
    refine andE8 zz fun c1 c2 c3 c4 c5 c6 c7 c8 => ?_
    clear zz
    dsimp only at c1 c2 c3 c4 c5 c6 c7 c8 F3 N3 ⊢
    clear F2 N2 N2'
    refine exE1 (?ob0 : ∃ m3 : Str → Option Value, (∀ z, z ≠ Str.ofString "falls" → z ≠ Str.ofString "line" → z ≠ Str.ofString "moving" → [Str.ofString "seen", Str.ofString "spot", Str.ofString "row", Str.ofString "column", Str.ofString "name", Str.ofString "place", Str.ofString "driven"].contains z = false → m3 z =
        List.lookup z [(Str.ofString "answers", .ref la), (Str.ofString "circling", .bool circ), (Str.ofString "sign", .str (sg d0) (τ d0)), (Str.ofString "held", .ref hl), (Str.ofString "table", .ref x)]) ∧
        Fr g1 L1 h3 (kstB m3 [(Str.ofString "falls", .bool falls), (Str.ofString "line", .int (line : Int) tl), (Str.ofString "moving", .str (sg mv) (τ mv)), (Str.ofString "answers", .ref la), (Str.ofString "circling", .bool circ), (Str.ofString "held", .ref hl), (Str.ofString "table", .ref x)])) fun m3 jj => andE2 jj fun hm3 F34 => ?_
    case ob0 =>
      refine ⟨_, fun z z1 z2 z3 hz => ?_, fr_reads [(Str.ofString "falls", .bool falls), (Str.ofString "line", .int (line : Int) tl), (Str.ofString "moving", .str (sg mv) (τ mv)), (Str.ofString "answers", .ref la), (Str.ofString "circling", .bool circ), (Str.ofString "held", .ref hl), (Str.ofString "table", .ref x)] F3 ?_⟩
      · simp only [kstB, z1, z2, z3, hz, if_false, Bool.false_eq_true]
      · intro q hq
        simp only [List.mem_cons, List.not_mem_nil, or_false] at hq
        rcases hq with rfl | rfl | rfl | rfl | rfl | rfl | rfl <;> rfl
    clear jj
    refine exE1 (?ob0 : ∃ m4 : Str → Option Value, m4 (Str.ofString "falls") = some (.bool falls) ∧ m4 (Str.ofString "line") = some (.int (line : Int) tl) ∧ m4 (Str.ofString "moving") = some (.str (sg mv) (τ mv)) ∧ m4 (Str.ofString "answers") = some (.ref la) ∧ m4 (Str.ofString "circling") = some (.bool circ) ∧ m4 (Str.ofString "held") = some (.ref hl) ∧ m4 (Str.ofString "table") = some (.ref x) ∧
        (∀ z, z ≠ Str.ofString "falls" → z ≠ Str.ofString "line" → z ≠ Str.ofString "moving" → [Str.ofString "seen", Str.ofString "spot", Str.ofString "row", Str.ofString "column", Str.ofString "name", Str.ofString "place", Str.ofString "driven"].contains z = false → m4 z = List.lookup z [(Str.ofString "answers", .ref la), (Str.ofString "circling", .bool circ), (Str.ofString "sign", .str (sg d0) (τ d0)), (Str.ofString "held", .ref hl), (Str.ofString "table", .ref x)]) ∧ Fr g1 L1 h3 m4) fun m4 jj => andE9 jj fun f1 f2 f3 f4 f5 f6 f7 hm4 F4 => ?_
    case ob0 =>
      refine ⟨_, rfl, rfl, rfl, rfl, rfl, rfl, rfl, fun z z1 z2 z3 hz => ?_, F34⟩
      by_cases w1 : z = Str.ofString "answers"
      · subst w1; rfl
      by_cases w2 : z = Str.ofString "circling"
      · subst w2; rfl
      by_cases w3 : z = Str.ofString "held"
      · subst w3; rfl
      by_cases w4 : z = Str.ofString "table"
      · subst w4; rfl
      simp only [kstB, z1, z2, z3, w1, w2, w3, w4, if_false]
      exact hm3 z z1 z2 z3 hz
    clear jj
    clear F3 hm3 F34
    cases fu3 with
    | zero => cases c1
    | succ fu3 =>
    unfold putF at c1
    dsimp only at c1
    have hsA : (if falls = true then colA (List.map Row.ab rs3) line else rowA (List.map Row.ab rs3) line) = (if falls then colOf rs3 line else rowOf rs3 line).map (·.d) := by
      cases falls
      · exact (rowA_eq rs3 line).symm
      · exact (colA_eq rs3 line).symm
    rw [hsA] at c1
    generalize hsp : bisD ((if falls then colOf rs3 line else rowOf rs3 line).map (·.d)) mv = spot at c1
    generalize hr1 : (if falls = true then spot else line) = row1 at c1
    generalize hc1 : (if falls = true then line else line + spot) = col1 at c1
    have hcond : row1 < 3 ∧ col1 < 100 := Classical.byContradiction fun hc => by rw [if_neg hc] at c1; cases c1
    rw [if_pos hcond] at c1
    obtain ⟨hrow3, hcol3⟩ := hcond
    have hrow : ∀ {h : Heap} {m' : Str → Option Value} {news' : List (Addr × Obj)}, Fr g1 L1 h m' → News g1 L1 h news' → (∀ q ∈ Led new3, q ∈ news') → RowsP h rs3 := fun F N hs r hr => by
      obtain ⟨a1, a2, _, _, a5⟩ := c7 r hr
      refine ⟨a1, a2, ?_⟩
      rcases a5 with a5 | a5
      · exact F.keep _ _ (hrg r a5).2.2
      · exact (N _ (hs _ (led_mem a5))).1
    have hlen3 : rs3.length < 1000 := by omega
    k_steps
    unfold Stop
    refine cut_at F4 (fun v h' tk' news' => ∃ D nD, v = .ref D ∧ news' = (D, listOf ((if falls then colOf rs3 line else rowOf rs3 line).map Row.val).toArray nD) :: (hl, listOf (rs3.map Row.ref).toArray n13) :: (la, listOf (List.replicate nn3 Value.none).toArray n23) :: Led new3) ?cut1 ?aft1
    case cut1 =>
      refine wpAny_IfExp ?_
      clear hret
      cases falls with
      | true =>
        k_steps
        unfold Stop
        k_dflt (refine' column_c B1 F4 X1 T1 ?k1 ?d1 ?u1 x hl rs3 (hx1.kp F4.keep) ⟨_, (N3 (hl, _) (.head _)).1⟩ (hrow F4 N3 (fun q hq => .tail _ (.tail _ hq))).rows (by omega) line (by omega) tl ?_)
        case k1 => exact rfl
        case d1 => first | exact room_le hd1 rfl | ktr_room
        case u1 => first | exact units_le hu rfl | ktr_units
        intro D h6 tk6 hD l6 k6
        obtain ⟨nD, l6⟩ := l6
        have fD := fresh_of F4 hD
        refine CutEnd.intro (fr_kp F4 k6) (news' := (D, _) :: _) (fun q hq => ?_) ⟨D, nD, rfl, rfl⟩
        rcases List.mem_cons.mp hq with rfl | hq
        · exact ⟨l6, fD.2, fD.1⟩
        · exact (news_kp N3 k6) q hq
      | false =>
        have hl3 : line < 3 := by simp only [Bool.false_eq_true, if_false] at hr1; omega
        k_steps
        unfold Stop
        rename_i l9 h5 F5 N5 lt5 tt5
        have N5' : News g1 L1 h5 ((hl, listOf (rs3.map Row.ref).toArray n13) :: (la, listOf (List.replicate nn3 Value.none).toArray n23) :: Led new3) := fun q hq => N5 q (.tail _ hq)
        k_dflt (refine' getall_c B1 F5 X1 T1 ?k2 ?d2 ?u2 x hl rs3 (hx1.kp F5.keep) ⟨_, (N5' (hl, _) (.head _)).1⟩ (hrow F5 N5' (fun q hq => .tail _ (.tail _ hq))).rows (by omega) line (by omega) tt5 ?_)
        case k2 => exact rfl
        case d2 => first | exact room_le hd1 rfl | ktr_room
        case u2 => first | exact units_le hu rfl | ktr_units
        intro D h6 tk6 hD l6 k6
        rw [show line % 3 = line by omega] at l6
        obtain ⟨nD, l6⟩ := l6
        have fD := fresh_of F5 hD
        refine CutEnd.intro (fr_kp F5 k6) (news' := (D, _) :: _) (fun q hq => ?_) ⟨D, nD, rfl, rfl⟩
        rcases List.mem_cons.mp hq with rfl | hq
        · exact ⟨l6, fD.2, fD.1⟩
        · exact (news_kp N5' k6) q hq
    case aft1 =>
      rintro v5 h5 tk5 nw5 F5 N5 zz
      refine exE2 zz fun D5 nD5 jj => andE2 jj fun ez2 ez3 => ?_
      clear jj zz
      subst ez2
      subst ez3
      have hseen : ∀ r ∈ (if falls then colOf rs3 line else rowOf rs3 line), r ∈ rs3 := fun r hr => by
        cases falls
        · exact (List.mem_filter.mp hr).1
        · exact colOf_mem hr
      have hsnl : (if falls then colOf rs3 line else rowOf rs3 line).length ≤ 1000 := by
        cases falls
        · exact Nat.le_trans (List.length_filter_le _ _) (by omega)
        · exact Nat.le_trans (colOf_len _ _) (by decide)
      generalize (if falls then colOf rs3 line else rowOf rs3 line) = sn at *
      dsimp only at F5 N5 ⊢
      clear F4 N3
      k_steps
      unfold Stop
      rename_i h6 F6 N6
      have hsn6 : ∀ r ∈ sn, r.d < 6 := fun r hr => (c7 r (hseen r hr)).2.1
      have hb : bis (fun i => decide ((sg mv).cps.toList < (sg ((sn.map (·.d)).getD i 0)).cps.toList)) 0 (sn.map Row.val).length = spot := by
        rw [← hsp, ← bisD_strs _ _ c5 (fun d hd => by obtain ⟨r, hr, rfl⟩ := List.mem_map.mp hd; exact hsn6 r hr)]
        simp only [List.length_map]
      k_dflt (refine' bis_strs B1 F6 X1 T1 ?k3 ?d3 ?u3 D5 (sn.map Row.val) (LL.of_news N6 (.head _)).isList ?len3 (fun i => sg ((sn.map (·.d)).getD i 0)) ?el3 (sg mv) (τ mv) ?_)
      case k3 => exact rfl
      case d3 => first | exact room_le hd1 rfl | ktr_room
      case u3 => first | exact units_le hu rfl | ktr_units
      case len3 => rw [List.length_map]; omega
      case el3 =>
        intro i hi
        rw [List.length_map] at hi
        refine ⟨sn[i].u, ?_⟩
        rw [List.getElem?_map, List.getElem?_eq_getElem hi]
        simp [List.getD_eq_getElem?_getD, hi]
      intro t7 h7 tk7 k7
      rw [hb]
      have F7 := fr_kp F6 k7
      have N7 := news_kp N6 k7
      dsimp only at F7 N7 ⊢
      clear F6 N6
      k_steps
      unfold Stop
      rename_i h8 F8 N8
      refine cut_at F8 (fun v h' tk' news' => ∃ D t t', v = .ref D ∧ news' = (D, { cls := .type "tuple", data := .seq #[.int (row1 : Int) t, .int (col1 : Int) t'] }) :: (D5, listOf (sn.map Row.val).toArray nD5) :: (hl, listOf (rs3.map Row.ref).toArray n13) :: (la, listOf (List.replicate nn3 Value.none).toArray n23) :: Led new3) ?cut2 ?aft2
      case cut2 =>
        refine wpAny_IfExp ?_
        clear hret
        cases falls with
        | true =>
          simp only [if_true] at hr1 hc1
          subst hr1 hc1
          k_steps
          rename_i Dt h9 F9 N9 lt9
          exact CutEnd.intro F9 N9 ⟨Dt, _, _, rfl, rfl⟩
        | false =>
          simp only [Bool.false_eq_true, if_false] at hr1 hc1
          subst hr1 hc1
          k_steps
          rename_i Dt h9 F9 N9 lt9
          exact CutEnd.intro F9 N9 ⟨Dt, _, _, rfl, rfl⟩
      case aft2 =>
        rintro v9 h9 tk9 nw9 F9 N9 zz
        refine exE3 zz fun D9 t9 t9' jj => andE2 jj fun ez3 ez4 => ?_
        clear jj zz
        subst ez3
        subst ez4
        dsimp only at F9 N9 ⊢
        clear F8 N8
        k_steps
        unfold Stop
        rename_i h10 F10 N10
        refine cut_at F10 (fun v h' tk' news' => (∃ t, v = .str (nm (if (falls && circ) = true then 3 + row1 else row1)) t) ∧ news' = (D5, listOf (sn.map Row.val).toArray nD5) :: (hl, listOf (rs3.map Row.ref).toArray n13) :: (la, listOf (List.replicate nn3 Value.none).toArray n23) :: Led new3) ?cut3 ?aft3
        case cut3 =>
          refine wpAny_IfExp ?_
          clear hret c1 hput
          cases falls <;> cases circ <;> (
            simp only [Bool.false_and, Bool.and_false, Bool.and_true, Bool.true_and, if_true, Bool.false_eq_true, if_false]
            k_steps)
          all_goals (
            rename_i ll h11 F11 N11 lt11 tt11
            exact CutEnd.intro F11 (fun q hq => N11 q (.tail _ (.tail _ hq))) ⟨⟨tt11, rfl⟩, rfl⟩)
        case aft3 =>
          rintro v11 h11 tk11 nw11 F11 N11 ⟨⟨t11, rfl⟩, rfl⟩
          generalize hnmc : (if (falls && circ) = true then 3 + row1 else row1) = nmc at *
          have hnm6 : nmc < 6 := by rw [← hnmc]; split <;> omega
          dsimp only at F11 N11 ⊢
          clear F10 N10
          k_steps
          rename_i h12 F12 N12
          refine my_len (vs := sn.map Row.val) (LL.of_news N12 (.head _)).isList (by rw [List.length_map]; omega) fun t12 tk12 => ?_
          k_steps
          · rename_i hfin DN h13 F13 N13 lt13
            rw [List.length_map] at hfin
            have hfin' : spot = sn.length := by omega
            rw [if_pos (by rw [List.length_map]; exact hfin')] at c1
            cases c1
            unfold Stop
            have hg13 := hrow F13 N13 (fun q hq => .tail _ (.tail _ (.tail _ (.tail _ hq))))
            have hDT : TT h13 DN [.str (nm nmc) t11, .str (sg mv) (τ mv)] := ⟨_, (N13 (DN, _) (.head _)).1⟩
            have hk253 : ∃ o, (hd.heap_1 w.params).lookup 253 = some o := ⟨_, by k_dflt k_is⟩
            obtain ⟨o253, ho253⟩ := hk253
            have eHl := N13 (hl, _) (.tail _ (.tail _ (.head _)))
            have eLa := N13 (la, _) (.tail _ (.tail _ (.tail _ (.head _))))
            have eDN := N13 (DN, _) (.head _)
            have hne : 253 ≠ hl := K_ne X1 ho253 eHl.2.2
            k_dflt (refine' insort_key_strs B1 F13 X1 T1 ?k4 ?d4 ?u4 hl (rs3.map Row.ref) ⟨_, eHl.1⟩ ?len4 eHl.2.2 eHl.2.1 253 (fnAt_K (X1.keeps F13.keep) ?fn4) hne (fun i => nm (((rs3.map Row.ab).getD i (0, 0)).1 % 3)) ?el4 (.ref DN) (nm (nmc % 3)) (lawrow_key hnm6 hDT) ?_)
            case k4 => exact rfl
            case d4 => first | exact room_le hd1 rfl | ktr_room
            case u4 => first | exact units_le hu rfl | ktr_units
            case len4 => rw [List.length_map]; omega
            case fn4 => k_is
            case el4 =>
              intro i hi
              rw [List.length_map] at hi
              obtain ⟨b1, b2, b3⟩ := hg13 _ (List.getElem_mem hi)
              refine ⟨.ref rs3[i].a, by rw [List.getElem?_map, List.getElem?_eq_getElem hi]; rfl, ?_⟩
              have e : ((rs3.map Row.ab).getD i (0, 0)).1 = rs3[i].c := by simp [List.getD_eq_getElem?_getD, hi, Row.ab]
              rw [e]
              exact @lawrow_key _ _ _ _ _ _ _ _ _ b1 _ _ (tupO_tt b3)
            intro h14 tk14 l14 k14
            have hDNl : DN ≠ hl := Ne.symm (Nat.ne_of_lt lt13.2.1)
            have hDNa : DN ≠ la := Ne.symm (Nat.ne_of_lt lt13.2.2.1)
            have hj := insA_strs (rs3.map Row.ab) nmc
            rw [List.length_map] at hj l14
            rw [hj] at l14
            generalize hrs' : rs3.take (bis (fun i => decide (nmc % 3 < ((rs3.map Row.ab).getD i (0, 0)).1 % 3)) 0 rs3.length) ++ (⟨DN, nmc, t11, mv, τ mv⟩ : Row) :: rs3.drop (bis (fun i => decide (nmc % 3 < ((rs3.map Row.ab).getD i (0, 0)).1 % 3)) 0 rs3.length) = rs'
            have l14' : LL h14 hl (rs'.map Row.ref) := by rw [← hrs', map_ins]; exact l14
            have hab : rs'.map Row.ab = insA (rs3.map Row.ab) (nmc, mv) := by
              rw [← hrs', map_ins]
              unfold insA
              rw [List.length_map]
              rfl
            have hmem : ∀ r ∈ rs', r = ⟨DN, nmc, t11, mv, τ mv⟩ ∨ r ∈ rs3 := fun r hr => by
              rw [← hrs'] at hr
              rcases List.mem_append.mp hr with hr | hr
              · exact .inr (List.mem_of_mem_take hr)
              · rcases List.mem_cons.mp hr with hr | hr
                · exact .inl hr
                · exact .inr (List.mem_of_mem_drop hr)
            clear hrs' l14 hj
            obtain ⟨n14, e14⟩ := l14'
            have F14 := fr_kx F13 k14 (fun b hb => by rw [List.mem_singleton.mp hb]; exact ⟨eHl.2.2, eHl.2.1⟩)
            have N14 : News g1 L1 h14 ((hl, listOf (rs'.map Row.ref).toArray n14) :: (la, listOf (List.replicate nn3 Value.none).toArray n23) :: Led (⟨DN, nmc, t11, mv, τ mv⟩ :: new3)) := fun q hq => by
              rcases List.mem_cons.mp hq with rfl | hq
              · exact ⟨e14, eHl.2⟩
              rcases List.mem_cons.mp hq with rfl | hq
              · exact ⟨k14 _ _ eLa.1 (by simpa using hla'), eLa.2⟩
              obtain ⟨r, hr, rfl⟩ := List.mem_map.mp hq
              rcases List.mem_cons.mp hr with rfl | hr
              · exact ⟨k14 _ _ eDN.1 (by simpa using hDNl), eDN.2⟩
              · have e := N13 (r.a, tupO r) (.tail _ (.tail _ (.tail _ (.tail _ (led_mem hr)))))
                refine ⟨k14 _ _ e.1 (fun q => ?_), e.2⟩
                have := c8 r hr
                have q' : r.a = hl := List.mem_singleton.mp q
                rw [q', ho1] at this
                cases this
            clear F13 N13
            dsimp only at F14 N14 ⊢
            k_steps
            unfold Stop
            have eHl2 := N14 (hl, _) (.head _)
            have eLa2 := N14 (la, _) (.tail _ (.head _))
            refine append_LL ⟨_, eLa2.1⟩ (by rw [List.length_replicate]; omega) fun h15 l15 k15 => ?_
            rw [rep_snoc] at l15
            obtain ⟨n15, e15⟩ := l15
            have F15 := fr_kx F14 k15 (fun b hb => by rw [List.mem_singleton.mp hb]; exact ⟨eLa2.2.2, eLa2.2.1⟩)
            have N15 : News g1 L1 h15 ((hl, listOf (rs'.map Row.ref).toArray n14) :: (la, listOf (List.replicate (nn3 + 1) Value.none).toArray n15) :: Led (⟨DN, nmc, t11, mv, τ mv⟩ :: new3)) := fun q hq => by
              rcases List.mem_cons.mp hq with rfl | hq
              · exact ⟨k15 _ _ eHl2.1 (by simpa using Ne.symm hla'), eHl2.2⟩
              rcases List.mem_cons.mp hq with rfl | hq
              · exact ⟨e15, eLa2.2⟩
              have e := N14 q (.tail _ (.tail _ hq))
              refine ⟨k15 _ _ e.1 (fun q' => ?_), e.2⟩
              obtain ⟨r, hr, rfl⟩ := List.mem_map.mp hq
              rcases List.mem_cons.mp hr with rfl | hr
              · exact hDNa (List.mem_singleton.mp q')
              · have := c8 r hr
                have q2 : r.a = la := List.mem_singleton.mp q'
                rw [q2, ho2] at this
                cases this
            clear F14 N14
            dsimp only at F15 N15 ⊢
            k_steps
            rename_i D16 h16 F16 N16 lt16
            have hfr : ∀ b, g1.get? b = none → b ≠ hl → b ≠ la → s.heap.get? b = none := fun b e q1 q2 => by
              cases q : s.heap.get? b with
              | none => rfl
              | some o => rw [kG1 b o q (by simpa using ⟨q1, q2⟩)] at e; cases e
            have eD16 := N16 (D16, _) (.head _)
            refine hret D16 rs' (nn3 + 1) t9 h16 _ (hfr _ eD16.2.2 (Ne.symm (Nat.ne_of_lt lt16.1)) (Ne.symm (Nat.ne_of_lt lt16.2.1))) ⟨_, eD16.1⟩ ⟨_, (N16 (hl, _) (.tail _ (.head _))).1⟩ (fun r hr => ?_) hab (fun r hr => ?_) (fun r hr => ?_) ⟨_, (N16 (la, _) (.tail _ (.tail _ (.head _)))).1⟩ (by omega) (fun b o e hb => ?_)
            · rcases hmem r hr with rfl | hr
              · exact ⟨hnm6, c5, (N16 (DN, _) (.tail _ (.tail _ (.tail _ (.head _))))).1⟩
              · refine hrow F16 N16 (fun q hq => .tail _ (.tail _ (.tail _ (.tail _ hq)))) r hr
            · rcases hmem r hr with rfl | hr
              · exact ⟨rfl, c6⟩
              · exact ⟨(c7 r hr).2.2.1, (c7 r hr).2.2.2.1⟩
            · rcases hmem r hr with rfl | hr
              · exact .inr (hfr _ eDN.2.2 hDNl hDNa)
              · rcases (c7 r hr).2.2.2.2 with q | q
                · exact .inl q
                · exact .inr (c8 r q)
            · exact F16.keep _ _ (kG1 b o e (by simpa using hb))
          · rename_i hfin
            rw [List.length_map] at hfin
            have hbl := (bis_le (lt := fun i => decide (mv < (sn.map (·.d)).getD i 0)) (Nat.zero_le (sn.map (·.d)).length)).2
            have hspl : spot < sn.length := by
              have e : spot ≤ sn.length := by
                rw [← hsp]; unfold bisD; rw [List.length_map] at hbl; simpa using hbl
              have : spot ≠ sn.length := fun q => hfin (by rw [q])
              omega
            rw [if_neg (by rw [List.length_map]; omega)] at c1
            unfold Stop
            have F13 := F12
            have N13 := N12
            clear F12 N12
            have hg13 := hrow F13 N13 (fun q hq => .tail _ (.tail _ (.tail _ hq)))
            k_dflt (refine' values_c B1 F13 X1 T1 ?k5 ?d5 ?u5 x hl rs3 (hx1.kp F13.keep) ⟨_, (N13 (hl, _) (.tail _ (.head _))).1⟩ hg13.rows (by omega) ?_)
            case k5 => exact rfl
            case d5 => first | exact room_le hd1 rfl | ktr_room
            case u5 => first | exact units_le hu rfl | ktr_units
            intro D20 h20 tk20 hD20 l20 k20
            obtain ⟨n20, e20⟩ := l20
            have fD := fresh_of F13 hD20
            have F20 := fr_kp F13 k20
            have N20 : News g1 L1 h20 ((D20, listOf (rs3.map Row.val).toArray n20) :: (D5, listOf (sn.map Row.val).toArray nD5) :: (hl, listOf (rs3.map Row.ref).toArray n13) :: (la, listOf (List.replicate nn3 Value.none).toArray n23) :: Led new3) := fun q hq => by
              rcases List.mem_cons.mp hq with rfl | hq
              · exact ⟨e20, fD.2, fD.1⟩
              · exact (news_kp N13 k20) q hq
            dsimp only at F20 ⊢
            clear F13 N13
            k_steps
            unfold Stop
            have hsd : (sn.map (·.d)).getD spot 0 = sn[spot].d := by simp [List.getD_eq_getElem?_getD, hspl]
            rw [hsd] at c1
            have hsv : (sn.map Row.val)[spot]? = some (.str (sg sn[spot].d) sn[spot].u) := by rw [List.getElem?_map, List.getElem?_eq_getElem hspl]; rfl
            have hsm := hseen _ (List.getElem_mem hspl)
            k_dflt (refine' getitem_c B1 F20 X1 T1 ?k6 ?d6 ?u6 D5 (sn.map Row.val) (LL.of_news N20 (.tail _ (.head _))).isList ?len6 (spot : Int) t7 (.str (sg sn[spot].d) sn[spot].u) spot hsv rfl ?_)
            case k6 => exact rfl
            case d6 => first | exact room_le hd1 rfl | ktr_room
            case u6 => first | exact units_le hu rfl | ktr_units
            case len6 => rw [List.length_map]; omega
            intro h21 tk21 k21
            have F21 := fr_kp F20 k21
            have N21 := news_kp N20 k21
            dsimp only at F21 N21 ⊢
            clear F20 N20
            k_steps
            unfold Stop
            refine andE3 (placeA_at (hs := rs3.map Row.ab) (v := sn[spot].d) ⟨_, List.mem_map_of_mem hsm, rfl⟩) fun hp1 hp2 hp3 => ?_
            generalize placeA (rs3.map Row.ab) sn[spot].d = place at *
            have hp1' : place < rs3.length := by simpa using hp1
            have habi : ∀ i, (hi : i < rs3.length) → (rs3.map Row.ab).getD i (0, 0) = (rs3[i].c, rs3[i].d) := fun i hi => by simp [List.getD_eq_getElem?_getD, hi, Row.ab]
            k_dflt (refine' indexOf_str B1 F21 X1 T1 ?k7 ?d7 ?u7 D20 (rs3.map Row.val) (LL.of_news N21 (.head _)) ?len7 (fun i => sg ((rs3.map Row.ab).getD i (0, 0)).2) (sg sn[spot].d) sn[spot].u ?tx7 ?el7 place ?kl7 ?kx7 ?kf7 ?_)
            case k7 => exact rfl
            case d7 => first | exact room_le hd1 rfl | ktr_room
            case u7 => first | exact units_le hu rfl | ktr_units
            case len7 => rw [List.length_map]; omega
            case tx7 => rw [(c7 _ hsm).2.2.1]; exact hτ0 _ (c7 _ hsm).2.2.2.1
            case el7 =>
              intro i hi
              rw [List.length_map] at hi
              have hri := c7 _ (List.getElem_mem hi)
              rw [habi i hi]
              refine ⟨rs3[i].u, by rw [List.getElem?_map, List.getElem?_eq_getElem hi]; rfl, by rw [hri.2.2.1]; exact hτ0 _ hri.2.2.2.1, fun q => ?_⟩
              rw [hri.2.2.1, (c7 _ hsm).2.2.1] at q
              rw [hτ1 _ hri.2.2.2.1 _ (c7 _ hsm).2.2.2.1 q]
            case kl7 => rw [List.length_map]; exact hp1'
            case kx7 => rw [hp2]
            case kf7 =>
              intro i hi q
              have hi' : i < rs3.length := by omega
              have := hp3 i hi
              rw [habi i hi'] at this q
              exact this ((sg_inj _ _ (c7 _ (List.getElem_mem hi')).2.1 (c7 _ hsm).2.1).mp q)
            intro t22 h22 tk22 k22
            have F22 := fr_kp F21 k22
            have N22 := news_kp N21 k22
            dsimp only at F22 N22 ⊢
            clear F21 N21
            k_steps
            unfold Stop
            rename_i h22' F22' N22'
            have hdv : (rs3.map Row.ref)[place]? = some (.ref rs3[place].a) := by rw [List.getElem?_map, List.getElem?_eq_getElem hp1']; rfl
            k_dflt (refine' getitem_c B1 F22' X1 T1 ?k8 ?d8 ?u8 hl (rs3.map Row.ref) (LL.of_news N22' (.tail _ (.tail _ (.head _)))).isList ?len8 (place : Int) t22 (.ref rs3[place].a) place hdv rfl ?_)
            case k8 => exact rfl
            case d8 => first | exact room_le hd1 rfl | ktr_room
            case u8 => first | exact units_le hu rfl | ktr_units
            case len8 => rw [List.length_map]; omega
            intro h23 tk23 k23
            have F23 := fr_kp F22' k23
            have N23 := news_kp N22' k23
            dsimp only at F23 N23 ⊢
            clear F22' N22'
            k_steps
            unfold Stop
            rename_i DN h24 F24 N24 lt24
            have eHl := N24 (hl, _) (.tail _ (.tail _ (.tail _ (.head _))))
            have eLa := N24 (la, _) (.tail _ (.tail _ (.tail _ (.tail _ (.head _)))))
            have eDN := N24 (DN, _) (.head _)
            have hDNl : DN ≠ hl := Ne.symm (Nat.ne_of_lt lt24.2.2.1)
            have hDNa : DN ≠ la := Ne.symm (Nat.ne_of_lt lt24.2.2.2.1)
            k_dflt (refine' setitem_c B1 F24 X1 T1 ?k9 ?d9 ?u9 hl (rs3.map Row.ref) ⟨_, eHl.1⟩ ?len9 eHl.2.2 eHl.2.1 (place : Int) t22 place rfl ?j9 (.ref DN) ?_)
            case k9 => exact rfl
            case d9 => first | exact room_le hd1 rfl | ktr_room
            case u9 => first | exact units_le hu rfl | ktr_units
            case len9 => rw [List.length_map]; omega
            case j9 => rw [List.length_map]; exact hp1'
            intro h25 tk25 l25 k25
            have l25' : LL h25 hl ((rs3.set place ⟨DN, nmc, t11, mv, τ mv⟩).map Row.ref) := by rw [List.map_set]; exact l25
            have hab : (rs3.set place ⟨DN, nmc, t11, mv, τ mv⟩).map Row.ab = (rs3.map Row.ab).set place (nmc, mv) := by rw [List.map_set]; rfl
            have hmem : ∀ r ∈ rs3.set place ⟨DN, nmc, t11, mv, τ mv⟩, r = ⟨DN, nmc, t11, mv, τ mv⟩ ∨ r ∈ rs3 := fun r hr => (List.mem_or_eq_of_mem_set hr).symm
            have hsl : (rs3.set place ⟨DN, nmc, t11, mv, τ mv⟩).length = rs3.length := List.length_set
            rw [← hab, habi place hp1'] at c1
            generalize rs3.set place ⟨DN, nmc, t11, mv, τ mv⟩ = rs' at *
            dsimp only at c1
            clear l25
            obtain ⟨n25, e25⟩ := l25'
            have F25 := fr_kx F24 k25 (fun b hb => by rw [List.mem_singleton.mp hb]; exact ⟨eHl.2.2, eHl.2.1⟩)
            have hrd := c7 _ (List.getElem_mem hp1')
            have N25 : News g1 L1 h25 ((hl, listOf (rs'.map Row.ref).toArray n25) :: (la, listOf (List.replicate nn3 Value.none).toArray n23) :: (DN, tupO ⟨DN, nmc, t11, mv, τ mv⟩) :: Led new3) := fun q hq => by
              rcases List.mem_cons.mp hq with rfl | hq
              · exact ⟨e25, eHl.2⟩
              rcases List.mem_cons.mp hq with rfl | hq
              · exact ⟨k25 _ _ eLa.1 (by simpa using hla'), eLa.2⟩
              rcases List.mem_cons.mp hq with rfl | hq
              · exact ⟨k25 _ _ eDN.1 (by simpa using hDNl), eDN.2⟩
              obtain ⟨r, hr, rfl⟩ := List.mem_map.mp hq
              have e := N24 (r.a, tupO r) (.tail _ (.tail _ (.tail _ (.tail _ (.tail _ (led_mem hr))))))
              refine ⟨k25 _ _ e.1 (fun q => ?_), e.2⟩
              have := c8 r hr
              have q' : r.a = hl := List.mem_singleton.mp q
              rw [q', ho1] at this
              cases this
            clear F24 N24
            dsimp only at F25 N25 ⊢
            k_steps
            unfold Stop
            have eHl2 := N25 (hl, _) (.head _)
            have eLa2 := N25 (la, _) (.tail _ (.head _))
            refine append_LL ⟨_, eLa2.1⟩ (by rw [List.length_replicate]; omega) fun h26 l26 k26 => ?_
            rw [rep_snoc] at l26
            obtain ⟨n26, e26⟩ := l26
            have F26 := fr_kx F25 k26 (fun b hb => by rw [List.mem_singleton.mp hb]; exact ⟨eLa2.2.2, eLa2.2.1⟩)
            have N26 : News g1 L1 h26 ((hl, listOf (rs'.map Row.ref).toArray n25) :: (la, listOf (List.replicate (nn3 + 1) Value.none).toArray n26) :: Led (⟨DN, nmc, t11, mv, τ mv⟩ :: new3)) := fun q hq => by
              rcases List.mem_cons.mp hq with rfl | hq
              · exact ⟨k26 _ _ eHl2.1 (by simpa using Ne.symm hla'), eHl2.2⟩
              rcases List.mem_cons.mp hq with rfl | hq
              · exact ⟨e26, eLa2.2⟩
              have e := N25 q (.tail _ (.tail _ hq))
              refine ⟨k26 _ _ e.1 (fun q' => ?_), e.2⟩
              obtain ⟨r, hr, rfl⟩ := List.mem_map.mp hq
              rcases List.mem_cons.mp hr with rfl | hr
              · exact hDNa (List.mem_singleton.mp q')
              · have := c8 r hr
                have q2 : r.a = la := List.mem_singleton.mp q'
                rw [q2, ho2] at this
                cases this
            have hne26 : ∀ r ∈ rs3, r ∈ rs ∨ r ∈ new3 := fun r hr => (c7 r hr).2.2.2.2
            clear F25 N25
            dsimp only at F26 N26 ⊢
            have hdr := hrow F26 N26 (fun q hq => .tail _ (.tail _ (.tail _ hq))) _ (List.getElem_mem hp1')
            have hdT := tupO_tt hdr.2.2
            k_steps
            unfold Stop
            have hdrm := List.getElem_mem hp1'
            generalize rs3[place] = rd at *
            refine cut_at F26 (fun v h' tk' news' => v = .bool (col1 == row1 || (if circ = true then decide (rd.c ≠ rd.c % 3) else falls)) ∧ news' = (hl, listOf (rs'.map Row.ref).toArray n25) :: (la, listOf (List.replicate (nn3 + 1) Value.none).toArray n26) :: Led (⟨DN, nmc, t11, mv, τ mv⟩ :: new3)) ?cut4 ?aft4
            case cut4 =>
              clear hret hput c1
              refine wpAny_Or2 ?_
              k_steps
              · rename_i hcr
                exact CutEnd.intro F26 N26 ⟨by simp [Int.ofNat_inj.mp hcr], rfl⟩
              · rename_i hcr
                have hcr' : (col1 == row1) = false := by simpa using fun q => hcr (by rw [q])
                unfold Stop
                rw [hcr', Bool.false_or]
                refine wpAny_IfExp ?_
                cases circ with
                | true =>
                  rw [if_pos rfl]
                  k_steps
                  all_goals unfold Stop
                  k_dflt (refine' lawrow_c B1 F26 X1 T1 ?k10 ?d10 ?u10 rd.a rd.c hdr.1 rd.t rd.val hdT ?_)
                  case k10 => exact rfl
                  case d10 => first | exact room_le hd1 rfl | ktr_room
                  case u10 => first | exact units_le hu rfl | ktr_units
                  intro t27 h27 tk27 k27
                  have F27 := fr_kp F26 k27
                  have N27 := news_kp N26 k27
                  dsimp only at F27 N27 ⊢
                  clear F26 N26
                  k_steps
                  refine CutEnd.intro F27 N27 ⟨?_, rfl⟩
                  have e9 : (nm rd.c != nm (rd.c % 3)) = decide (rd.c ≠ rd.c % 3) := by
                    rw [Bool.eq_iff_iff, bne_iff_ne, decide_eq_true_iff, ne_eq, ne_eq, nm_inj _ _ hdr.1 (by omega)]
                  rw [e9]
                | false =>
                  rw [if_neg (by decide)]
                  k_steps
                  exact CutEnd.intro F26 N26 ⟨rfl, rfl⟩
            case aft4 =>
              rintro v28 h28 tk28 nw28 F28 N28 ⟨rfl, rfl⟩
              dsimp only at F28 N28 c1 ⊢
              generalize (col1 == row1 || (if circ = true then decide (rd.c ≠ rd.c % 3) else falls)) = falls' at *
              clear F26 N26
              k_steps
              unfold Stop
              rename_i h28' F28' N28'
              refine cut_at F28' (fun v h' tk' news' => (∃ t, v = .int ((if falls' = true then col1 else row1 : Nat) : Int) t) ∧ news' = (hl, listOf (rs'.map Row.ref).toArray n25) :: (la, listOf (List.replicate (nn3 + 1) Value.none).toArray n26) :: Led (⟨DN, nmc, t11, mv, τ mv⟩ :: new3)) ?cut5 ?aft5
              case cut5 =>
                clear hret hput c1
                refine wpAny_IfExp ?_
                cases falls' with
                | true =>
                  k_steps
                  exact CutEnd.intro F28' N28' ⟨⟨_, rfl⟩, rfl⟩
                | false =>
                  k_steps
                  exact CutEnd.intro F28' N28' ⟨⟨_, rfl⟩, rfl⟩
              case aft5 =>
                rintro v29 h29 tk29 nw29 F29 N29 ⟨⟨t29, rfl⟩, rfl⟩
                dsimp only at F29 N29 ⊢
                clear F28' N28'
                have hlb : (if falls' = true then col1 else row1) < 100 := by split <;> omega
                generalize (if falls' = true then col1 else row1) = ln at *
                have hdT2 := tupO_tt (hrow F29 N29 (fun q hq => .tail _ (.tail _ (.tail _ hq))) _ hdrm).2.2
                k_steps
                rename_i h30 F30 N30
                have hfr : ∀ b, g1.get? b = none → b ≠ hl → b ≠ la → s.heap.get? b = none := fun b e q1 q2 => by
                  cases q : s.heap.get? b with
                  | none => rfl
                  | some o => rw [kG1 b o q (by simpa using ⟨q1, q2⟩)] at e; cases e
                refine ksw_end ⟨falls', ln + 1, tk29 + 1, rd.d, rs', ⟨DN, nmc, t11, mv, τ mv⟩ :: new3, n25, nn3 + 1, n26, fu3⟩ F30 N30 (fun q hq => .tail _ hq) trivial ?ks ?kr ⟨c1, (show ln + 1 ≤ 100 by omega), hsl.trans c3, (show nn3 + 1 + fu3 ≤ nn + fuel by omega), hrd.2.1, hrd.2.2.2.1, fun r hr => ?_, fun r hr => ?_⟩ (Nat.lt_succ_self _)
                case ks =>
                  intro q hq
                  revert q
                  refine all_cons ?_ (all_cons ?_ (all_cons ?_ (fun _ h => nomatch h)))
                  · rfl
                  · dsimp only
                    rw [if_pos rfl]
                    push_cast
                    rfl
                  · dsimp only
                    rw [← hrd.2.2.1]
                    rfl
                case kr =>
                  intro z q1 q2
                  have z1 := q1 _ (.head _)
                  have z2 := q1 _ (.tail _ (.head _))
                  have z3 := q1 _ (.tail _ (.tail _ (.head _)))
                  have q3 := q2
                  simp only [List.contains_cons, List.contains_nil, Bool.or_false, Bool.or_eq_false_iff, beq_eq_false_iff_ne, ne_eq] at q3
                  refine andE7 q3 fun q31 q32 q33 q34 q35 q36 q37 => ?_
                  clear q3
                  dsimp only at z1 z2 z3 ⊢
                  simp only [z1, z2, z3, q31, q32, q33, q34, q35, q36, q37, if_false]
                  exact hm4 z z1 z2 z3 q2
                · rcases hmem r hr with rfl | hr
                  · exact ⟨hnm6, c5, rfl, c6, .inr (.head _)⟩
                  · obtain ⟨a1, a2, a3, a4, a5⟩ := c7 r hr
                    exact ⟨a1, a2, a3, a4, a5.imp id (.tail _)⟩
                · rcases List.mem_cons.mp hr with rfl | hr
                  · exact hfr _ eDN.2.2 hDNl hDNa
                  · exact c8 r hr
end

/-! TA -/
example : True := by
  k_with_none
  k_with "subscriptTail" => (k_here; (with_reducible show wpAny _ _ (subscriptTail _ _ (Value.ref _) (Value.int _ _)) _ _ _); (with_unfolding_all refine' my_item ?q_k1 ?q_k2 ?q_k3 ?q_k4 ?_ ?q_k6; (case q_k1 => first | assumption | ((rename GSub _ _ _ => kG9); (rename Fr _ _ _ _ => F9); refine' list_up ?q_t9 kG9 F9 (by simp); (case q_t9 => assumption))); (case q_k2 => assumption); (case q_k3 => first | rfl | assumption | omega | (simp only [Int.fdiv_eq_ediv_of_nonneg _ (by decide : (0 : Int) ≤ 2)]; omega)); (case q_k4 => first | assumption | omega); (case q_k6 => with_unfolding_all rfl); k_whole))
  k_with "call builtin:len" => (k_here; (with_reducible show wpAny _ _ (call (Value.builtin "len") [Value.ref _]) _ _ _); refine' my_len ?q_k1 ?q_k2 ?_; (case q_k1 => first | assumption | ((rename GSub _ _ _ => kG9); (rename Fr _ _ _ _ => F9); refine' list_up ?q_t9 kG9 F9 (by simp); (case q_t9 => assumption))); (case q_k2 => first | assumption | omega); intro _ _)
  k_with "subscriptTail" => (k_here; (with_reducible show wpAny _ _ (subscriptTail _ _ (Value.ref _) (Value.int _ _)) _ _ _); (with_unfolding_all refine' my_titem ?q_k1 ?q_k2 ?q_k3 ?q_k4 ?_ ?q_k6; (case q_k1 => first | assumption | ((rename GSub _ _ _ => kG9); (rename Fr _ _ _ _ => F9); refine' TT.up ?q_t9 kG9 F9 (by simp); (case q_t9 => assumption))); (case q_k2 => first | assumption | decide | omega); (case q_k3 => first | assumption | exact rfl); (case q_k4 => first | assumption | (simp only [List.length_cons, List.length_nil]; decide)); (case q_k6 => with_unfolding_all rfl); k_whole))
  k_with "own k_inst" => exact inst_fr (by assumption) (by assumption)
  k_with "subscriptTail" => (k_here; (with_reducible show wpAny _ _ (subscriptTail _ _ (Value.ref _) (Value.int _ _)) _ _ _); k_dflt (first | (refine' my_lit3 nm ?q_k1 ?q_k2 ?q_e0 ?q_e1 ?q_e2 ?q_k3 ?_ ?q_k6; (case q_k1 => assumption); (case q_k2 => exact .head _); (case q_e0 => rfl); (case q_e1 => rfl); (case q_e2 => rfl); (case q_k3 => assumption); (case q_k6 => with_unfolding_all rfl); intro _) | (refine' my_lit3 (fun j => nm (3 + j)) ?q_k1 ?q_k2 ?q_e0 ?q_e1 ?q_e2 ?q_k3 ?_ ?q_k6; (case q_k1 => assumption); (case q_k2 => exact .head _); (case q_e0 => rfl); (case q_e1 => rfl); (case q_e2 => rfl); (case q_k3 => assumption); (case q_k6 => with_unfolding_all rfl); intro _)))
  k_with "call builtin:list.append" => (k_here; refine stopHere ?_)
  k_with "pyIter ref" => (k_here; refine stopHere ?_)
  k_with "call ref" => (k_here; refine stopHere ?_)
  k_with "exec Assign cons ListComp" => (k_here; refine stopHere ?_)
  k_with "eval Name" => (k_here; (with_reducible show wpAny _ _ (eval (Expr.Name _ _) (compEnvC _ _ _ _)) _ _ _); (with_unfolding_all refine' wpAny_Name (wpAny_loadName_local ?q_a ?q_b ?q_c ?q_d ?_) ?q_e; (case q_a => rfl); (case q_b => rfl); (case q_c => assumption); (case q_d => assumption); (case q_e => decide); k_whole))
  k_with "eval ListComp" => (k_here; refine stopHere ?_)
  k_with "execs cons" => (k_here; (with_reducible show wpAny _ _ (execs (List.cons (Stmt.Expr _ _) _) _) _ _ _); refine stopHere ?_)
  k_with "eval IfExp" => (k_here; refine stopHere ?_)
  k_with "exec For Name Call cons nil" => (k_here; refine stopHere ?_)
  trivial
section
theorem tables_c (B : Below A₀ base outer h₀) (F : Fr h₀ L s.heap m) (X : (hd.heap_1 w.params).In h₀) (T : Top p loose mean mg mb h₀) (hk : cs.kind = .function) (hd1 : dp + 60 < recursionLimit) (hu : un + 600 < cLine)
    (l : Addr) (sv : List (Nat × Tok)) (circ : Bool) (hll : LL s.heap l (sv.map sval)) (hsl6 : sv.length = 6) (hs6 : ∀ q ∈ sv, q.1 < 6) (hnd : (sv.map (·.1)).Nodup) (hs' bs' : List (Nat × Nat)) (hpure : turnsF circ (sv.map (·.1)) 0 [] [] = some (hs', bs')) (hall : ∀ k, k < 6 → ∃ r ∈ hs', r.2 = k)
    (hret : ∀ (D : Addr) (d : TabD) (as : List (Addr × Obj)) (h' : Heap) (tk' : Nat), (∀ q ∈ as, s.heap.get? q.1 = none ∧ h'.get? q.1 = some q.2) → (D, ({ cls := .type "tuple", data := .seq #[.ref d.dn, .ref d.x, .ref d.b, .ref d.al] } : Obj)) ∈ as → TabOk as hs' bs' d → Kp s.heap h' → Q (.ref D) { s with heap := h', toks := tk' }) :
    wpAny (model PySem.Challenge.rw_uc0025_01.row.prog w) (ktrTop dp un gd cn cs L a ccd cl outer) (call (.ref 270) [.ref l, .bool circ]) Q E s := by
  refine wpAny_call ?_
  k_dflt (refine' enterC ?k1 ?k2 ?k3 ?k4 ?k5 ?kA ?kF ?kK ?k6 ?k7 ?k8 ?k9 ?kB ?kD ?_ ?c2 ?c3 ?c4; (case kA => exact rfl); (case kF => exact rfl); (case kK => assumption); (case k1 => k_asm); (case k2 => k_asm); (case k3 => k_asm); (case k4 => first | assumption | exact News.nil); (case k5 => k_asm); (case k6 => k_is); (case k7 => k_is); (case k8 => ktr_room); (case k9 => first | exact BindsTo.of_eq rfl | exact binds_K (by k_in) rfl (by k_is) rfl rfl rfl | exact binds_peek (by k_in) (fun _ => rfl)); (case kB => exact rfl); (case kD => decide +kernel); (case c2 => exact rfl); (case c3 => exact rfl); (case c4 => exact rfl); k_whole; intro g1 L1 h1 tk1 cells9 FG1 F0 N1 Y9 B1 X1 T1 l1 kG1; (try k_lt l1); k_cells Y9; (try simp only [List.cons_append, List.nil_append] at N1); (try dsimp only); (try k_lift B1); (try k_fold))
  rename_i o1 o2 e1 e2
  have d2 : o2.data = .cell none := e2
  have d1 : o1.data = .cell none := e1
  clear e1 e2
  have F1 : Fr g1 L1 h1 (fun y => if y = Str.ofString "circling" then some (.bool circ) else if y = Str.ofString "signs" then some (.ref l) else none) := F0
  clear F0
  have kg : Kp s.heap g1 := fun b o e => kG1 b o e (List.not_mem_nil)
  refine wpAny_noRaise' ?_
  k_steps
  unfold Stop
  rename_i hl h2 F2 N2 lt2
  k_dflt (refine' hnew0_c B1 F2 X1 T1 ?k1 ?d1 ?u1 ?_)
  case k1 => exact rfl
  case d1 => first | exact room_le hd1 rfl | ktr_room
  case u1 => first | exact units_le hu rfl | ktr_units
  rintro b bl h3 tk3 b0 bl0 zz ⟨nb, obl⟩ k3
  refine exE4 zz fun db bh bt bn jj => andE3 jj fun db0 ob odb => ?_
  clear jj zz
  have fb := fresh_of F2 b0
  have fdb := fresh_of F2 db0
  have fbl := fresh_of F2 bl0
  have F3 := fr_kp F2 k3
  have N3 : News g1 L1 h3 ((b, _) :: (db, _) :: (bl, _) :: _) := fun q hq => by
    rcases List.mem_cons.mp hq with rfl | hq
    · exact ⟨ob, fb.2, fb.1⟩
    rcases List.mem_cons.mp hq with rfl | hq
    · exact ⟨odb, fdb.2, fdb.1⟩
    rcases List.mem_cons.mp hq with rfl | hq
    · exact ⟨obl, fbl.2, fbl.1⟩
    · exact (news_kp N2 k3) q hq
  dsimp only at F3 N3 ⊢
  have hc2 : ∀ y, h2.get? y = none → y ≠ L1 + 1 + 1 := fun y e q => by
    have := (N2 (L1 + 1 + 1, o1) (.tail _ (.head _))).1
    rw [← q, e] at this; cases this
  have hc1 : ∀ y, h2.get? y = none → y ≠ L1 + 1 := fun y e q => by
    have := (N2 (L1 + 1, o2) (.tail _ (.tail _ (.head _)))).1
    rw [← q, e] at this; cases this
  have qblh : bl ≠ hl := fun q => by
    have := (N2 (hl, _) (.head _)).1
    rw [← q, bl0] at this; cases this
  have qb2 := hc2 b b0
  have qb1 := hc1 b b0
  have qdb2 := hc2 db db0
  have qdb1 := hc1 db db0
  have qbl2 := hc2 bl bl0
  have qbl1 := hc1 bl bl0
  clear F2 N2
  k_steps
  unfold Stop
  rename_i al hA ltA D0 hB ltB hC hD o2' d2' hE h4 F4 N4
  k_dflt (refine' hnew_c B1 F4 X1 T1 ?k2 ?dd2 ?u2 hl [] ⟨0, (N4 (hl, _) (.tail _ (.tail _ (.tail _ (.tail _ (.tail _ (.head _))))))).1⟩ (fun r hr => nomatch hr) (by simp) ?_)
  case k2 => exact rfl
  case dd2 => first | exact room_le hd1 rfl | ktr_room
  case u2 => first | exact units_le hu rfl | ktr_units
  rintro x h5 tk5 x0 zz k5
  refine exE4 zz fun dx xh xt xn jj => andE3 jj fun dx0 ox odx => ?_
  clear jj zz
  have fx := fresh_of F4 x0
  have fdx := fresh_of F4 dx0
  have F5 := fr_kp F4 k5
  have N5 : News g1 L1 h5 ((x, _) :: (dx, _) :: _) := fun q hq => by
    rcases List.mem_cons.mp hq with rfl | hq
    · exact ⟨ox, fx.2, fx.1⟩
    rcases List.mem_cons.mp hq with rfl | hq
    · exact ⟨odx, fdx.2, fdx.1⟩
    · exact (news_kp N4 k5) q hq
  dsimp only at F5 N5 ⊢
  have hcx2 : ∀ y, h4.get? y = none → y ≠ L1 + 1 + 1 := fun y e q => by
    have := (N4 (L1 + 1 + 1, o1) (by repeat (first | exact List.Mem.head _ | apply List.Mem.tail))).1
    rw [← q, e] at this; cases this
  have hcx1 : ∀ y, h4.get? y = none → y ≠ L1 + 1 := fun y e q => by
    have := (N4 (L1 + 1, o2') (by repeat (first | exact List.Mem.head _ | apply List.Mem.tail))).1
    rw [← q, e] at this; cases this
  have qx2 := hcx2 x x0
  have qx1 := hcx1 x x0
  have qdx2 := hcx2 dx dx0
  have qdx1 := hcx1 dx dx0
  clear F4 N4
  k_steps
  unfold Stop
  rename_i h6 o1' F6 N6 d1'
  refine wpAny_For ?_
  k_steps
  unfold Stop
  rename_i tA uA vA hrA F7 N7 k7
  refine iter_rangeJ (n := 6) F7 hrA (by decide) fun it h8 F8 k8 hit hgi hiL hin => ?_
  have N8 := news_kp N7 k8
  have hoff := news_off N7 hin
  dsimp only at F8 N8 ⊢
  clear F7 N7
  have uhl := (N8 (hl, _) (.tail _ (.tail _ (.tail _ (.tail _ (.tail _ (.tail _ (.tail _ (.head _))))))))).1
  have ubl := (N8 (bl, _) (.tail _ (.tail _ (.tail _ (.tail _ (.tail _ (.tail _ (.head _)))))))).1
  have ual := (N8 (al, _) (.tail _ (.tail _ (.tail _ (.head _))))).1
  have qx : x ≠ hl ∧ x ≠ bl ∧ x ≠ al := ⟨off_seq (N8 (x, _) (.head _)).1 uhl nofun, off_seq (N8 (x, _) (.head _)).1 ubl nofun, off_seq (N8 (x, _) (.head _)).1 ual nofun⟩
  have qdx : dx ≠ hl ∧ dx ≠ bl ∧ dx ≠ al := ⟨off_seq (N8 (dx, _) (.tail _ (.head _))).1 uhl nofun, off_seq (N8 (dx, _) (.tail _ (.head _))).1 ubl nofun, off_seq (N8 (dx, _) (.tail _ (.head _))).1 ual nofun⟩
  have hb8 := (N8 (b, _) (.tail _ (.tail _ (.tail _ (.tail _ (.head _)))))).1
  have hdb8 := (N8 (db, _) (.tail _ (.tail _ (.tail _ (.tail _ (.tail _ (.head _))))))).1
  have hc18 := (N8 (L1 + 1 + 1, o1') (.tail _ (.tail _ (.tail _ (.tail _ (.tail _ (.tail _ (.tail _ (.tail _ (.head _)))))))))).1
  have hc28 := (N8 (L1 + 1, o2') (.tail _ (.tail _ (.tail _ (.tail _ (.tail _ (.tail _ (.tail _ (.tail _ (.tail _ (.head _))))))))))).1
  have qb : b ≠ hl ∧ b ≠ bl ∧ b ≠ al := ⟨off_seq hb8 uhl nofun, off_seq hb8 ubl nofun, off_seq hb8 ual nofun⟩
  have qdb : db ≠ hl ∧ db ≠ bl ∧ db ≠ al := ⟨off_seq hdb8 uhl nofun, off_seq hdb8 ubl nofun, off_seq hdb8 ual nofun⟩
  have o1n : ∀ us k, o1'.data ≠ .seq us k := fun us k e => by rw [d1'] at e; cases e
  have o2n : ∀ us k, o2'.data ≠ .seq us k := fun us k e => by rw [d2'] at e; cases e
  have qc1 : L1 + 1 + 1 ≠ hl ∧ L1 + 1 + 1 ≠ bl ∧ L1 + 1 + 1 ≠ al := ⟨off_seq hc18 uhl o1n, off_seq hc18 ubl o1n, off_seq hc18 ual o1n⟩
  have qc2 : L1 + 1 ≠ hl ∧ L1 + 1 ≠ bl ∧ L1 + 1 ≠ al := ⟨off_seq hc28 uhl o2n, off_seq hc28 ubl o2n, off_seq hc28 ual o2n⟩
  have qal : al ≠ hl ∧ al ≠ bl := ⟨Ne.symm (Nat.ne_of_lt ltA.2.2.2.1), Ne.symm (Nat.ne_of_lt ltA.2.2.1)⟩
  clear hb8 hdb8 hc18 hc28 uhl ubl ual
  refine for_rangeJ (n := 6) rfl rfl rfl F8 (news := (hl, listOf (([] : List Row).map Row.ref).toArray 0) :: (bl, listOf (([] : List Row).map Row.ref).toArray nb) :: (al, listOf (List.replicate 0 Value.none).toArray 0) :: (x, instObj 242 dx) :: (dx, dictOf [⟨xh, .str (Str.ofString "_headers") xt, .ref hl⟩] xn) :: (b, instObj 242 db) :: (db, dictOf [⟨bh, .str (Str.ofString "_headers") bt, .ref bl⟩] bn) :: (L1 + 1 + 1, o1') :: (L1 + 1, o2') :: Led ([] ++ [])) (fun q hq => N8 q ?nn) hit hgi hiL (fun q hq => hoff q ?nn2) (fun i tk m nx => ∃ (rs bs : List Row) (nh nb na k : Nat) (τ : Nat → Tok),
    m (Str.ofString "answers") = some (.ref al) ∧ m (Str.ofString "book") = some (.ref b) ∧ m (Str.ofString "circling") = some (.bool circ) ∧ m (Str.ofString "signs") = some (.ref l) ∧
    nx = (hl, listOf (rs.map Row.ref).toArray nh) :: (bl, listOf (bs.map Row.ref).toArray nb) :: (al, listOf (List.replicate k Value.none).toArray na) :: (x, instObj 242 dx) :: (dx, dictOf [⟨xh, .str (Str.ofString "_headers") xt, .ref hl⟩] xn) :: (b, instObj 242 db) :: (db, dictOf [⟨bh, .str (Str.ofString "_headers") bt, .ref bl⟩] bn) :: (L1 + 1 + 1, o1') :: (L1 + 1, o2') :: Led (rs ++ bs) ∧
    turnsF circ ((sv.map (·.1)).drop i) i (rs.map Row.ab) (bs.map Row.ab) = some (hs', bs') ∧ rs.length = i ∧ bs.length = i ∧ k ≤ 101 * i ∧
    (∀ r ∈ rs, r.c < 6 ∧ r.d < 6 ∧ r.u = τ r.d ∧ r.d ∈ (sv.map (·.1)).take i) ∧ (∀ r ∈ bs, r.c < 6 ∧ r.d < 6) ∧ (∀ d ∈ (sv.map (·.1)).take i, 0 < τ d ∧ τ d < tk) ∧ (∀ d ∈ (sv.map (·.1)).take i, ∀ e ∈ (sv.map (·.1)).take i, τ d = τ e → d = e)) ?h0 ?step ?done
  case nn =>
    revert q
    simp only [List.append_nil, Led, List.map_nil]
    refine all_cons ?_ (all_cons ?_ (all_cons ?_ (all_cons ?_ (all_cons ?_ (all_cons ?_ (all_cons ?_ (all_cons ?_ (all_cons ?_ (fun _ h => nomatch h)))))))))
    · exact .tail _ (.tail _ (.tail _ (.tail _ (.tail _ (.tail _ (.tail _ (.head _)))))))
    · exact .tail _ (.tail _ (.tail _ (.tail _ (.tail _ (.tail _ (.head _))))))
    · exact .tail _ (.tail _ (.tail _ (.head _)))
    · exact .head _
    · exact .tail _ (.head _)
    · exact .tail _ (.tail _ (.tail _ (.tail _ (.head _))))
    · exact .tail _ (.tail _ (.tail _ (.tail _ (.tail _ (.head _)))))
    · exact .tail _ (.tail _ (.tail _ (.tail _ (.tail _ (.tail _ (.tail _ (.tail _ (.head _))))))))
    · exact .tail _ (.tail _ (.tail _ (.tail _ (.tail _ (.tail _ (.tail _ (.tail _ (.tail _ (.head _)))))))))
  case nn2 =>
    revert q
    simp only [List.append_nil, Led, List.map_nil]
    refine all_cons ?_ (all_cons ?_ (all_cons ?_ (all_cons ?_ (all_cons ?_ (all_cons ?_ (all_cons ?_ (all_cons ?_ (all_cons ?_ (fun _ h => nomatch h)))))))))
    · exact .tail _ (.tail _ (.tail _ (.tail _ (.tail _ (.tail _ (.tail _ (.head _)))))))
    · exact .tail _ (.tail _ (.tail _ (.tail _ (.tail _ (.tail _ (.head _))))))
    · exact .tail _ (.tail _ (.tail _ (.head _)))
    · exact .head _
    · exact .tail _ (.head _)
    · exact .tail _ (.tail _ (.tail _ (.tail _ (.head _))))
    · exact .tail _ (.tail _ (.tail _ (.tail _ (.tail _ (.head _)))))
    · exact .tail _ (.tail _ (.tail _ (.tail _ (.tail _ (.tail _ (.tail _ (.tail _ (.head _))))))))
    · exact .tail _ (.tail _ (.tail _ (.tail _ (.tail _ (.tail _ (.tail _ (.tail _ (.tail _ (.head _)))))))))
  case h0 =>
    refine ⟨[], [], 0, nb, 0, 0, fun _ => 0, rfl, rfl, rfl, rfl, rfl, hpure, rfl, rfl, Nat.zero_le _, nofun, nofun, fun d hd => ?_, fun d hd => ?_⟩ <;> (rw [List.take_zero] at hd; cases hd)
  case done =>
    rintro tk20 m20 nx20 h20 zz F20 N20
    refine exE7 zz fun rs bs nh nb9 na k τ jj => andE13 jj fun j1 j2 j3 j4 ez11 j6 j7 j8 j9 j10 j11 j12 j13 => ?_
    clear jj zz
    subst ez11
    have F21 := fr_reads [(Str.ofString "answers", .ref al), (Str.ofString "book", .ref b), (Str.ofString "circling", .bool circ), (Str.ofString "signs", .ref l)] F20 (by
      intro q hq
      simp only [List.mem_cons, List.not_mem_nil, or_false] at hq
      rcases hq with rfl | rfl | rfl | rfl <;> assumption)
    simp only [kstB] at F21
    change Fr g1 L1 _ _ at F21
    change News g1 L1 _ _ at N20
    have htkall : (sv.map (·.1)).take 6 = sv.map (·.1) := List.take_of_length_le (by rw [List.length_map]; omega)
    rw [htkall] at j10 j12 j13
    rw [List.drop_of_length_le (by rw [List.length_map]; omega)] at j6
    unfold turnsF at j6
    obtain ⟨ers, ebs⟩ := Prod.mk.inj (Option.some.inj j6)
    dsimp only at F21 N20 ⊢
    clear F20 F8 N8
    k_steps
    unfold Stop
    k_dflt (refine' comp_rangeA (g := g1) (L := L1) (fun _ => true) (fun i y _ _ _ => ∃ t, y = .str (nm (nameAt hs' i)) t) (fun i v m3 => m3 (Str.ofString "k") = some v) ?hh ?hL ?hsw ?hy ?hp ?hclos ?hcell ?hkind ?hnames ?h ?hs)
    case hh => rfl
    case hL => rfl
    case hsw => rfl
    case hy => rfl
    case hp => rfl
    case hclos => rfl
    case hcell => decide
    case hkind => rfl
    case hnames => decide
    case hs => exact fun _ => rfl
    case h =>
      refine wpAny_with_toks (n := tk20) (Nat.le_refl _) ?_
      k_steps
      rename_i tk22 tA2 uA2 vA2 hrA2 F22 N22 k22 htk22
      replace htk22 : tk20 ≤ tk22 := htk22
      have hrsp : ∀ {h : Heap} {news' : List (Addr × Obj)}, News g1 L1 h news' → (∀ q ∈ Led (rs ++ bs), q ∈ news') → RowsP h rs ∧ RowsP h bs := fun N hs => ⟨RowsP.news N (fun r hr => ⟨(j10 r hr).1, (j10 r hr).2.1⟩) (fun q hq => hs q (by obtain ⟨r, hr, rfl⟩ := List.mem_map.mp hq; exact led_mem (List.mem_append_left _ hr))), RowsP.news N j11 (fun q hq => hs q (by obtain ⟨r, hr, rfl⟩ := List.mem_map.mp hq; exact led_mem (List.mem_append_right _ hr)))⟩
      refine RangeSrcA.intro 6 F22 N22 hrA2 (by decide) ?_ ?_ ?_
      · intro I C D s' i v h1 h2 h3 h4
        exact binds_name rfl rfl
      · rintro C i v h4 tk4 m4 hC1 hC2 hin ⟨tv, rfl, tl, tg⟩ hlo4 hN4 hB4 k4 F4 N4
        have hin' : i < 6 := hin
        replace hlo4 : tk22 ≤ tk4 := hlo4
        refine ⟨?_, fun hpz => ?_⟩
        · k_steps
          exact TestIs.intro rfl fun _ _ e => e
        · k_steps
          unfold Stop
          have eX := N4 (x, _) (.tail _ (.tail _ (.tail _ (.head _))))
          have eDx := N4 (dx, _) (.tail _ (.tail _ (.tail _ (.tail _ (.head _)))))
          have lX : HT h4 x hl := ⟨dx, _, _, _, eX.1, eDx.1⟩
          have lHl : LL h4 hl (rs.map Row.ref) := ⟨_, (N4 (hl, _) (.head _)).1⟩
          have hrp := (hrsp N4 (fun q hq => .tail _ (.tail _ (.tail _ (.tail _ (.tail _ (.tail _ (.tail _ (.tail _ (.tail _ hq)))))))))).1
          refine wpAny_with_toks (n := tk20) (Nat.le_trans htk22 hlo4) ?_
          k_dflt (refine' values_c B1 F4 X1 T1 ?k6 ?d6 ?u6 x hl rs lX lHl hrp.rows (by omega) ?_)
          case k6 => exact rfl
          case d6 => first | exact room_le hd1 rfl | ktr_room
          case u6 => first | exact units_le hu rfl | ktr_units
          intro DV h5 tk5 hDV0 lV k5 htk5
          replace htk5 : tk20 ≤ tk5 := htk5
          obtain ⟨nV, eV⟩ := lV
          have fDV := fresh_of F4 hDV0
          have F5 := fr_kp F4 k5
          have N5 : News g1 L1 h5 ((DV, listOf (rs.map Row.val).toArray nV) :: _) := fun q hq => by
            rcases List.mem_cons.mp hq with rfl | hq
            · exact ⟨eV, fDV.2, fDV.1⟩
            · exact (news_kp N4 k5) q hq
          have hN5 : h5.Ns C m4 := hN4.keeps k5
          dsimp only at F5 N5 ⊢
          clear F4
          k_steps
          unfold Stop
          rw [sg_of hin']
          refine andE3 (placeA_at (hs := hs') (v := i) (hall i hin')) fun hp1 hp2 hp3 => ?_
          have hnA : nameAt hs' i = (hs'.getD (placeA hs' i) (0, 0)).1 := rfl
          generalize placeA hs' i = place at *
          have hpl : place < rs.length := by rw [← ers, List.length_map] at hp1; exact hp1
          have habi : ∀ j, (hj : j < rs.length) → hs'.getD j (0, 0) = (rs[j].c, rs[j].d) := fun j hj => by rw [← ers]; simp [List.getD_eq_getElem?_getD, hj, Row.ab]
          have htr : ∀ j, (hj : j < rs.length) → 0 < rs[j].u ∧ rs[j].u < tk5 := fun j hj => by
            have a := j10 _ (List.getElem_mem hj)
            rw [a.2.2.1]
            exact ⟨(j12 _ a.2.2.2).1, Nat.lt_of_lt_of_le (j12 _ a.2.2.2).2 htk5⟩
          k_dflt (refine' indexOf_str B1 F5 X1 T1 ?k7 ?d7 ?u7 DV (rs.map Row.val) (LL.of_news N5 (.head _)) ?len7 (fun j => sg (hs'.getD j (0, 0)).2) (sg i) tk5 (Nat.ne_of_gt (Nat.lt_trans (htr _ hpl).1 (htr _ hpl).2)) ?el7 place ?kl7 ?kx7 ?kf7 ?_)
          case k7 => exact rfl
          case d7 => first | exact room_le hd1 rfl | ktr_room
          case u7 => first | exact units_le hu rfl | ktr_units
          case len7 => rw [List.length_map]; omega
          case el7 =>
            intro j hj
            rw [List.length_map] at hj
            rw [habi j hj]
            refine ⟨rs[j].u, by rw [List.getElem?_map, List.getElem?_eq_getElem hj]; rfl, Nat.ne_of_gt (htr j hj).1, fun q => absurd q (Nat.ne_of_lt (htr j hj).2)⟩
          case kl7 => rw [List.length_map]; exact hpl
          case kx7 => rw [hp2]
          case kf7 =>
            intro j hj q
            have hj' : j < rs.length := by omega
            have := hp3 j hj
            rw [habi j hj'] at this q
            exact this ((sg_inj _ _ (j10 _ (List.getElem_mem hj')).2.1 hin').mp q)
          intro t6 h6' tk6 k6
          have F6' := fr_kp F5 k6
          have N6' := news_kp N5 k6
          have hN6 := hN5.keeps k6
          dsimp only at F6' N6' ⊢
          clear F5
          k_steps
          unfold Stop
          have hdv : (rs.map Row.ref)[place]? = some (.ref rs[place].a) := by rw [List.getElem?_map, List.getElem?_eq_getElem hpl]; rfl
          k_dflt (refine' getitem_c B1 F6' X1 T1 ?k8 ?d8 ?u8 hl (rs.map Row.ref) (LL.of_news N6' (.tail _ (.head _))).isList ?len8 (place : Int) t6 (.ref rs[place].a) place hdv rfl ?_)
          case k8 => exact rfl
          case d8 => first | exact room_le hd1 rfl | ktr_room
          case u8 => first | exact units_le hu rfl | ktr_units
          case len8 => rw [List.length_map]; omega
          intro h7 tk7 k7'
          have F7 := fr_kp F6' k7'
          have N7 := news_kp N6' k7'
          dsimp only at F7 N7 ⊢
          clear F6' N6'
          have hrT := tupO_tt ((hrsp N7 (fun q hq => (.tail _ (.tail _ (.tail _ (.tail _ (.tail _ (.tail _ (.tail _ (.tail _ (.tail _ (.tail _ hq)))))))))))).1 _ (List.getElem_mem hpl)).2.2
          have hgd := habi place hpl
          generalize rs[place] = rr at *
          k_steps
          refine EltIs.plain (fun b o e => k7' b o (k6 b o (k5 b o e))) fun _ _ _ _ _ => ⟨rr.t, ?_⟩
          rw [hnA, hgd]
      · intro D9 h9 tk9' log hD1 hD2 hD3 hD4 hi hL k9 F9 N9 ht9
        obtain ⟨nD9, eD9⟩ := hD4
        rw [range_all] at hi
        have N9' : News g1 L1 h9 ((D9, listOf (log.map (·.y)).toArray nD9) :: _) := fun q hq => by
          rcases List.mem_cons.mp hq with rfl | hq
          · exact ⟨eD9, hD3, hD2⟩
          · exact N9 q hq
        dsimp only at F9 N9' ⊢
        clear N9 F22 N22
        k_steps
        rename_i DT h10 F10 N10 lt10
        have hel : ∀ e ∈ log, ∃ t, e.y = .str (nm (nameAt hs' e.i)) t := fun e he => (hL.1 e he).2.2.1
        refine hret DT ⟨D9, x, dx, hl, b, db, bl, al, xh, xt, xn, bh, bt, bn, log.map (·.y), rs, bs, k, nh, nb9, na, nD9⟩ _ h10 _ (fun q hq => ⟨none_of_kp kg (N10 q hq).2.2, (N10 q hq).1⟩) (.head _) ?_ fun b' o e => F10.keep b' o (kg b' o e)
        refine ⟨.tail _ (.head _), .tail _ (.tail _ (.tail _ (.tail _ (.tail _ (.head _))))), .tail _ (.tail _ (.tail _ (.tail _ (.tail _ (.tail _ (.head _)))))), .tail _ (.tail _ (.head _)), .tail _ (.tail _ (.tail _ (.tail _ (.tail _ (.tail _ (.tail _ (.head _))))))), .tail _ (.tail _ (.tail _ (.tail _ (.tail _ (.tail _ (.tail _ (.tail _ (.head _)))))))), .tail _ (.tail _ (.tail _ (.head _))), .tail _ (.tail _ (.tail _ (.tail _ (.head _)))), fun r hr => .tail _ (.tail _ (.tail _ (.tail _ (.tail _ (.tail _ (.tail _ (.tail _ (.tail _ (.tail _ (.tail _ (led_mem (List.mem_append_left _ hr)))))))))))), fun r hr => .tail _ (.tail _ (.tail _ (.tail _ (.tail _ (.tail _ (.tail _ (.tail _ (.tail _ (.tail _ (.tail _ (led_mem (List.mem_append_right _ hr)))))))))))), ers, ebs, fun r hr => ⟨(j10 r hr).1, (j10 r hr).2.1⟩, j11, (show k ≤ 606 by omega), ?_, fun i' hi' => ?_⟩
        · show (log.map (·.y)).length = 6
          have e := congrArg List.length hi
          rw [List.length_map, List.length_range] at e
          rw [List.length_map, e]
        · obtain ⟨e, he, hm, hie⟩ := log_at hi hi'
          obtain ⟨t, ht⟩ := hel e hm
          refine ⟨t, ?_⟩
          show (log.map (·.y))[i']? = _
          rw [List.getElem?_map, he]
          show some e.y = _
          rw [ht, hie]
  case step =>
    rintro i tk9 tk10 m9 nx9 h9 ito hi htk9 zz hoff9 hito F9 N9
    refine exE7 zz fun rs bs nh nb9 na k τ jj => andE13 jj fun j1 j2 j3 j4 ez11 j6 j7 j8 j9 j10 j11 j12 j13 => ?_
    clear jj zz
    subst ez11
    have F10 := fr_reads [(Str.ofString "turn", .int (i : Int) tk9), (Str.ofString "answers", .ref al), (Str.ofString "book", .ref b), (Str.ofString "circling", .bool circ), (Str.ofString "signs", .ref l)] F9 (by
      intro q hq
      simp only [List.mem_cons, List.not_mem_nil, or_false] at hq
      rcases hq with rfl | rfl | rfl | rfl | rfl <;> first | rfl | assumption)
    simp only [kstB] at F10
    change Fr g1 L1 _ _ at F10
    change News g1 L1 _ _ at N9
    dsimp only at F10 N9 ⊢
    clear F9
    k_steps
    unfold Stop
    have hi6 : i < sv.length := by rw [hsl6]; exact hi
    have hsv : (sv.map sval)[i]? = some (.int (sv[i].1 : Int) sv[i].2) := by rw [List.getElem?_map, List.getElem?_eq_getElem hi6]; rfl
    refine wpAny_with_toks (n := tk9 + 1) htk9 ?_
    k_dflt (refine' getitem_c B1 F10 X1 T1 ?k3 ?d3 ?u3 l (sv.map sval) ((hll.kp kg).kp F10.keep).isList ?len3 (i : Int) tk9 (.int (sv[i].1 : Int) sv[i].2) i hsv rfl ?_)
    case k3 => exact rfl
    case d3 => first | exact room_le hd1 rfl | ktr_room
    case u3 => first | exact units_le hu rfl | ktr_units
    case len3 => rw [List.length_map]; omega
    intro h11 tk11 k11 htk11
    replace htk11 : tk9 + 1 ≤ tk11 := htk11
    have F11 := fr_kp F10 k11
    have N11 := news_kp N9 k11
    dsimp only at F11 N11 ⊢
    clear F10 N9
    have hd6 := hs6 _ (List.getElem_mem hi6)
    k_steps
    unfold Stop
    have hdrop : (sv.map (·.1)).drop i = sv[i].1 :: (sv.map (·.1)).drop (i + 1) := by
      rw [List.drop_eq_getElem_cons (by rw [List.length_map]; exact hi6), List.getElem_map]
    have htake : (sv.map (·.1)).take (i + 1) = (sv.map (·.1)).take i ++ [sv[i].1] := by
      rw [List.take_add_one, List.getElem?_map, List.getElem?_eq_getElem hi6]; rfl
    have hnin : sv[i].1 ∉ (sv.map (·.1)).take i := fun hm => by
      have e : sv.map (·.1) = (sv.map (·.1)).take i ++ sv[i].1 :: (sv.map (·.1)).drop (i + 1) := by rw [← hdrop, List.take_append_drop]
      have hn := hnd
      rw [e] at hn
      exact (List.nodup_append.mp hn).2.2 _ hm _ (.head _) rfl
    rw [hdrop] at j6
    rw [sg_of hd6]
    generalize sv[i].1 = d at *
    unfold turnsF at j6
    cases hq : putF circ 40 false 0 d (rs.map Row.ab) with
    | none => rw [hq] at j6; cases j6
    | some q =>
    obtain ⟨row, fell, hs1⟩ := q
    rw [hq] at j6
    dsimp only at j6
    obtain ⟨hrow3, hlen1⟩ := putF_row hq
    have eHl := N11 (hl, _) (.tail _ (.head _))
    have eBl := N11 (bl, _) (.tail _ (.tail _ (.head _)))
    have eAl := N11 (al, _) (.tail _ (.tail _ (.tail _ (.head _))))
    have eX := N11 (x, _) (.tail _ (.tail _ (.tail _ (.tail _ (.head _)))))
    have eDx := N11 (dx, _) (.tail _ (.tail _ (.tail _ (.tail _ (.tail _ (.head _))))))
    have hled : ∀ r ∈ rs ++ bs, h11.get? r.a = some (tupO r) ∧ r.a ≠ L1 ∧ g1.get? r.a = none := fun r hr => N11 (r.a, tupO r) (.tail _ (.tail _ (.tail _ (.tail _ (.tail _ (.tail _ (.tail _ (.tail _ (.tail _ (.tail _ (led_mem hr)))))))))))
    have hrp : RowsP h11 rs := fun r hr => ⟨(j10 r hr).1, (j10 r hr).2.1, (hled r (List.mem_append_left _ hr)).1⟩
    have hbp : RowsP h11 bs := fun r hr => ⟨(j11 r hr).1, (j11 r hr).2, (hled r (List.mem_append_right _ hr)).1⟩
    have lAl : LL h11 al (List.replicate k .none) := ⟨_, eAl.1⟩
    have lHl : LL h11 hl (rs.map Row.ref) := ⟨_, eHl.1⟩
    have lX : HT h11 x hl := ⟨dx, _, _, _, eX.1, eDx.1⟩
    obtain ⟨τ', hτd, hτe⟩ : ∃ τ' : Nat → Tok, τ' d = tk11 ∧ ∀ e, e ≠ d → τ' e = τ e := ⟨fun e => if e = d then tk11 else τ e, if_pos rfl, fun e he => if_neg he⟩
    rw [show Value.str (sg d) tk11 = .str (sg d) (τ' d) by rw [hτd]]
    have hcas : ∀ e ∈ (sv.map (·.1)).take (i + 1), e = d ∧ τ' e = tk11 ∨ e ≠ d ∧ e ∈ (sv.map (·.1)).take i ∧ τ' e = τ e := fun e he => by
      rw [htake] at he
      rcases List.mem_append.mp he with he | he
      · have : e ≠ d := fun q => hnin (q ▸ he)
        exact .inr ⟨this, he, hτe e this⟩
      · have := List.mem_singleton.mp he
        exact .inl ⟨this, this ▸ hτd⟩
    have ht0 : ∀ e ∈ (sv.map (·.1)).take (i + 1), 0 < τ' e ∧ τ' e < tk11 + 1 := fun e he => by
      rcases hcas e he with ⟨_, q⟩ | ⟨_, q1, q⟩
      · rw [q]; exact ⟨Nat.lt_of_lt_of_le (Nat.succ_pos _) htk11, Nat.lt_succ_self _⟩
      · rw [q]; exact ⟨(j12 e q1).1, Nat.lt_succ_of_lt (Nat.lt_of_lt_of_le (j12 e q1).2 (Nat.le_of_succ_le htk11))⟩
    have ht1 : ∀ e ∈ (sv.map (·.1)).take (i + 1), ∀ f ∈ (sv.map (·.1)).take (i + 1), τ' e = τ' f → e = f := fun e he f hf q => by
      rcases hcas e he with ⟨a1, a2⟩ | ⟨a1, a2, a3⟩ <;> rcases hcas f hf with ⟨b1, b2⟩ | ⟨b1, b2, b3⟩
      · rw [a1, b1]
      · exact absurd (a2.symm.trans (q.trans b3)) (Nat.ne_of_gt (Nat.lt_of_lt_of_le (j12 f b2).2 (Nat.le_of_succ_le htk11)))
      · exact absurd (a3.symm.trans (q.trans b2)) (Nat.ne_of_lt (Nat.lt_of_lt_of_le (j12 e a2).2 (Nat.le_of_succ_le htk11)))
      · exact j13 e a2 f b2 (by rw [← a3, ← b3, q])
    have hrt1 : ∀ r ∈ rs, r.u = τ' r.d ∧ r.d ∈ (sv.map (·.1)).take (i + 1) := fun r hr => by
      obtain ⟨a1, a2, a3, a4⟩ := j10 r hr
      have : r.d ≠ d := fun q => hnin (q ▸ a4)
      exact ⟨a3.trans (hτe _ this).symm, htake ▸ List.mem_append_left _ a4⟩
    refine wpAny_with_toks (n := tk11 + 1) (Nat.le_refl _) ?_
    k_dflt (refine' put_c B1 F11 X1 T1 ?k4 ?d4 ?u4 x hl al circ d hd6 τ' ((sv.map (·.1)).take (i + 1)) (fun e he => Nat.ne_of_gt (ht0 e he).1) ht1 ?ds4 rs k lX lHl hrp (by omega) (by omega) lAl hrt1 eHl.2.2 eHl.2.1 eAl.2.2 eAl.2.1 qal.1 40 (by decide) row fell hs1 hq ?_)
    case k4 => exact rfl
    case d4 => first | exact room_le hd1 rfl | ktr_room
    case u4 => first | exact units_le hu rfl | ktr_units
    case ds4 => rw [htake]; simp
    intro D rs2 nn2 tD h12 tk12 hD0 hDT hhl hrp2 hab2 hrt2 hnew2 hal2 hnn2 kx2 htk12
    replace htk12 : tk11 + 1 ≤ tk12 := htk12
    obtain ⟨nD, eD⟩ := hDT
    obtain ⟨nhl, ehl⟩ := hhl
    obtain ⟨nal, eal⟩ := hal2
    have fD := fresh_of F11 hD0
    have qit : it ≠ hl ∧ it ≠ bl ∧ it ≠ al := ⟨Ne.symm (hoff9 (hl, _) (.head _)), Ne.symm (hoff9 (bl, _) (.tail _ (.head _))), Ne.symm (hoff9 (al, _) (.tail _ (.tail _ (.head _))))⟩
    have F12 := fr_kx F11 kx2 (fun q hq => by
      rcases List.mem_cons.mp hq with rfl | hq
      · exact ⟨eHl.2.2, eHl.2.1⟩
      · rw [List.mem_singleton.mp hq]; exact ⟨eAl.2.2, eAl.2.1⟩)
    have hoffr : ∀ r ∈ rs2 ++ bs, r.a ≠ it := fun r hr q => by
      rcases List.mem_append.mp hr with hr | hr
      · rcases hnew2 r hr with w1 | w1
        · exact hoff9 (r.a, tupO r) (.tail _ (.tail _ (.tail _ (.tail _ (.tail _ (.tail _ (.tail _ (.tail _ (.tail _ (led_mem (List.mem_append_left _ w1)))))))))))  q
        · rw [q] at w1
          have e := (N11 (it, _) (.head _)).1
          have e' := w1.symm.trans e
          cases e'
      · exact hoff9 (r.a, tupO r) (.tail _ (.tail _ (.tail _ (.tail _ (.tail _ (.tail _ (.tail _ (.tail _ (.tail _ (led_mem (List.mem_append_right _ hr)))))))))))  q
    have N12 : News g1 L1 h12 ((D, _) :: (it, ito) :: (hl, listOf (rs2.map Row.ref).toArray nhl) :: (bl, listOf (bs.map Row.ref).toArray nb9) :: (al, listOf (List.replicate nn2 Value.none).toArray nal) :: (x, instObj 242 dx) :: (dx, dictOf [⟨xh, .str (Str.ofString "_headers") xt, .ref hl⟩] xn) :: (b, instObj 242 db) :: (db, dictOf [⟨bh, .str (Str.ofString "_headers") bt, .ref bl⟩] bn) :: (L1 + 1 + 1, o1') :: (L1 + 1, o2') :: Led (rs2 ++ bs)) := fun q hq => by
      revert q
      refine all_cons ?_ (all_cons ?_ (all_cons ?_ (all_cons ?_ (all_cons ?_ (all_cons ?_ (all_cons ?_ (all_cons ?_ (all_cons ?_ (all_cons ?_ (all_cons ?_ ?_))))))))))
      · exact ⟨eD, fD.2, fD.1⟩
      · exact keepW (N11 _ (.head _)) kx2 qit.1 qit.2.2
      · exact ⟨ehl, eHl.2⟩
      · exact keepW eBl kx2 qblh (Ne.symm qal.2)
      · exact ⟨eal, eAl.2⟩
      · exact keepW eX kx2 qx.1 qx.2.2
      · exact keepW eDx kx2 qdx.1 qdx.2.2
      · exact keepW (N11 _ (.tail _ (.tail _ (.tail _ (.tail _ (.tail _ (.tail _ (.head _)))))))) kx2 qb.1 qb.2.2
      · exact keepW (N11 _ (.tail _ (.tail _ (.tail _ (.tail _ (.tail _ (.tail _ (.tail _ (.head _))))))))) kx2 qdb.1 qdb.2.2
      · exact keepW (N11 _ (.tail _ (.tail _ (.tail _ (.tail _ (.tail _ (.tail _ (.tail _ (.tail _ (.head _)))))))))) kx2 qc1.1 qc1.2.2
      · exact keepW (N11 _ (.tail _ (.tail _ (.tail _ (.tail _ (.tail _ (.tail _ (.tail _ (.tail _ (.tail _ (.head _))))))))))) kx2 qc2.1 qc2.2.2
      · intro q hq
        obtain ⟨r, hr, rfl⟩ := List.mem_map.mp hq
        rcases List.mem_append.mp hr with hr | hr
        · refine ⟨(hrp2 r hr).2.2, ?_⟩
          rcases hnew2 r hr with w1 | w1
          · exact (hled r (List.mem_append_left _ w1)).2
          · exact (fresh_of F11 w1).symm
        · exact keepW (hled r (List.mem_append_right _ hr)) kx2 (led_off hbp lHl r hr) (led_off hbp lAl r hr)
    clear F11 N11 hled
    dsimp only at F12 N12 ⊢
    k_steps
    unfold Stop
    refine wpAny_with_toks (n := tk11 + 1) (by dsimp only; omega) ?_
    refine wpAny_execs_cons ?_
    k_steps
    unfold Stop
    rename_i h13 F13 N13
    refine cut_at F13 (fun v h' tk' news' => (∃ t, v = .str (nm (if (fell && !circ) = true then 3 + row else row)) t) ∧ news' = (it, ito) :: (hl, listOf (rs2.map Row.ref).toArray nhl) :: (bl, listOf (bs.map Row.ref).toArray nb9) :: (al, listOf (List.replicate nn2 Value.none).toArray nal) :: (x, instObj 242 dx) :: (dx, dictOf [⟨xh, .str (Str.ofString "_headers") xt, .ref hl⟩] xn) :: (b, instObj 242 db) :: (db, dictOf [⟨bh, .str (Str.ofString "_headers") bt, .ref bl⟩] bn) :: (L1 + 1 + 1, o1') :: (L1 + 1, o2') :: Led (rs2 ++ bs)) ?cut1 ?aft1
    case cut1 =>
      refine wpAny_IfExp ?_
      cases fell <;> cases circ <;> (
        simp only [Bool.false_and, Bool.and_false, Bool.and_true, Bool.true_and, Bool.not_true, Bool.not_false, if_true, Bool.false_eq_true, if_false]
        k_steps)
      all_goals (
        rename_i ll h15 F15 N15 lt15 tt15
        exact CutEnd.intro F15 (fun q hq => N15 q (.tail _ (.tail _ hq))) ⟨⟨tt15, rfl⟩, rfl⟩)
    case aft1 =>
      rintro v14 h14 tk14 nw14 F14 N14 ⟨⟨t14, rfl⟩, rfl⟩
      generalize hnc : (if (fell && !circ) = true then 3 + row else row) = nc at *
      have hnc6 : nc < 6 := by rw [← hnc]; split <;> omega
      dsimp only at F14 N14 ⊢
      clear F13 N13
      k_steps
      unfold Stop
      rw [sg_of hi]
      have eBl2 := N14 (bl, _) (.tail _ (.tail _ (.head _)))
      have eAl2 := N14 (al, _) (.tail _ (.tail _ (.tail _ (.head _))))
      have eB2 := N14 (b, _) (.tail _ (.tail _ (.tail _ (.tail _ (.tail _ (.tail _ (.head _)))))))
      have eDb2 := N14 (db, _) (.tail _ (.tail _ (.tail _ (.tail _ (.tail _ (.tail _ (.tail _ (.head _))))))))
      have lB : HT h14 b bl := ⟨db, _, _, _, eB2.1, eDb2.1⟩
      have lBl : LL h14 bl (bs.map Row.ref) := ⟨_, eBl2.1⟩
      have lAl2 : LL h14 al (List.replicate nn2 .none) := ⟨_, eAl2.1⟩
      have hled2 : ∀ r ∈ rs2 ++ bs, h14.get? r.a = some (tupO r) ∧ r.a ≠ L1 ∧ g1.get? r.a = none := fun r hr => N14 (r.a, tupO r) (.tail _ (.tail _ (.tail _ (.tail _ (.tail _ (.tail _ (.tail _ (.tail _ (.tail _ (.tail _ (led_mem hr)))))))))))
      have hrb : RowsP h14 (rs2 ++ bs) := fun r hr => by
        refine ⟨?_, ?_, (hled2 r hr).1⟩ <;> rcases List.mem_append.mp hr with hr | hr
        · exact (hrp2 r hr).1
        · exact (j11 r hr).1
        · exact (hrp2 r hr).2.1
        · exact (j11 r hr).2
      k_dflt (refine' addh_c B1 F14 X1 T1 ?k5 ?d5 ?u5 b bl (bs.map Row.ref) lB lBl ?len5 eBl2.2.2 eBl2.2.1 nc i hnc6 hi _ _ ?_)
      case k5 => exact rfl
      case d5 => first | exact room_le hd1 rfl | ktr_room
      case u5 => first | exact units_le hu rfl | ktr_units
      case len5 => rw [List.length_map]; omega
      rintro DB h16 tk16 hDB0 ⟨n16, e16⟩ ⟨u16, hDBT⟩ k16
      have fDB := fresh_of F14 hDB0
      have F16 := fr_kx F14 k16 (fun q hq => by
        rw [List.mem_singleton.mp hq]; exact ⟨eBl2.2.2, eBl2.2.1⟩)
      have qDBit : DB ≠ it := fun q => by
        have e := (N14 (it, _) (.head _)).1
        rw [← q] at e
        exact absurd (hDB0.symm.trans e) nofun
      have qDBal : DB ≠ al := fun q => by
        have e := eAl2.1
        rw [← q] at e
        exact absurd (hDB0.symm.trans e) nofun
      have emap : (bs ++ [(⟨DB, nc, t14, i, u16⟩ : Row)]).map Row.ref = bs.map Row.ref ++ [.ref DB] := by rw [List.map_append]; rfl
      have N16 : News g1 L1 h16 ((it, ito) :: (hl, listOf (rs2.map Row.ref).toArray nhl) :: (bl, listOf ((bs ++ [(⟨DB, nc, t14, i, u16⟩ : Row)]).map Row.ref).toArray n16) :: (al, listOf (List.replicate nn2 Value.none).toArray nal) :: (x, instObj 242 dx) :: (dx, dictOf [⟨xh, .str (Str.ofString "_headers") xt, .ref hl⟩] xn) :: (b, instObj 242 db) :: (db, dictOf [⟨bh, .str (Str.ofString "_headers") bt, .ref bl⟩] bn) :: (L1 + 1 + 1, o1') :: (L1 + 1, o2') :: Led (rs2 ++ (bs ++ [(⟨DB, nc, t14, i, u16⟩ : Row)]))) := fun q hq => by
        revert q
        refine all_cons ?_ (all_cons ?_ (all_cons ?_ (all_cons ?_ (all_cons ?_ (all_cons ?_ (all_cons ?_ (all_cons ?_ (all_cons ?_ (all_cons ?_ ?_)))))))))
        · exact keepV (N14 _ (.head _)) k16 qit.2.1
        · exact keepV (N14 _ (.tail _ (.head _))) k16 (Ne.symm qblh)
        · exact ⟨emap ▸ e16, eBl2.2⟩
        · exact keepV eAl2 k16 qal.2
        · exact keepV (N14 _ (.tail _ (.tail _ (.tail _ (.tail _ (.head _)))))) k16 qx.2.1
        · exact keepV (N14 _ (.tail _ (.tail _ (.tail _ (.tail _ (.tail _ (.head _))))))) k16 qdx.2.1
        · exact keepV eB2 k16 qb.2.1
        · exact keepV eDb2 k16 qdb.2.1
        · exact keepV (N14 _ (.tail _ (.tail _ (.tail _ (.tail _ (.tail _ (.tail _ (.tail _ (.tail _ (.head _)))))))))) k16 qc1.2.1
        · exact keepV (N14 _ (.tail _ (.tail _ (.tail _ (.tail _ (.tail _ (.tail _ (.tail _ (.tail _ (.tail _ (.head _))))))))))) k16 qc2.2.1
        · intro q hq
          obtain ⟨r, hr, rfl⟩ := List.mem_map.mp hq
          have hr' : r ∈ rs2 ++ bs ∨ r = ⟨DB, nc, t14, i, u16⟩ := by
            rw [← List.append_assoc] at hr
            rcases List.mem_append.mp hr with hr | hr
            · exact .inl hr
            · exact .inr (List.mem_singleton.mp hr)
          rcases hr' with hr | rfl
          · exact keepV (hled2 r hr) k16 (led_off hrb lBl r hr)
          · exact ⟨hDBT, fDB.2, fDB.1⟩
      clear F14 N14 hled2
      dsimp only at F16 N16 ⊢
      k_steps
      unfold Stop
      have eAl3 := N16 (al, _) (.tail _ (.tail _ (.tail _ (.head _))))
      refine append_LL ⟨_, eAl3.1⟩ (by rw [List.length_replicate]; omega) fun h17 l17 k17 => ?_
      rw [rep_snoc] at l17
      obtain ⟨n17, e17⟩ := l17
      have F17 := fr_kx F16 k17 (fun q hq => by
        rw [List.mem_singleton.mp hq]; exact ⟨eAl3.2.2, eAl3.2.1⟩)
      have hle3 : ∀ r ∈ rs2 ++ (bs ++ [(⟨DB, nc, t14, i, u16⟩ : Row)]), r.a ≠ al := fun r hr => by
        rw [← List.append_assoc] at hr
        rcases List.mem_append.mp hr with hr | hr
        · exact led_off hrb lAl2 r hr
        · rw [List.mem_singleton.mp hr]; exact qDBal
      have N17 : News g1 L1 h17 ((it, ito) :: (hl, listOf (rs2.map Row.ref).toArray nhl) :: (bl, listOf ((bs ++ [(⟨DB, nc, t14, i, u16⟩ : Row)]).map Row.ref).toArray n16) :: (al, listOf (List.replicate (nn2 + 1) Value.none).toArray n17) :: (x, instObj 242 dx) :: (dx, dictOf [⟨xh, .str (Str.ofString "_headers") xt, .ref hl⟩] xn) :: (b, instObj 242 db) :: (db, dictOf [⟨bh, .str (Str.ofString "_headers") bt, .ref bl⟩] bn) :: (L1 + 1 + 1, o1') :: (L1 + 1, o2') :: Led (rs2 ++ (bs ++ [(⟨DB, nc, t14, i, u16⟩ : Row)]))) := fun q hq => by
        revert q
        refine all_cons ?_ (all_cons ?_ (all_cons ?_ (all_cons ?_ (all_cons ?_ (all_cons ?_ (all_cons ?_ (all_cons ?_ (all_cons ?_ (all_cons ?_ ?_)))))))))
        · exact keepV (N16 _ (.head _)) k17 qit.2.2
        · exact keepV (N16 _ (.tail _ (.head _))) k17 (Ne.symm qal.1)
        · exact keepV (N16 _ (.tail _ (.tail _ (.head _)))) k17 (Ne.symm qal.2)
        · exact ⟨e17, eAl3.2⟩
        · exact keepV (N16 _ (.tail _ (.tail _ (.tail _ (.tail _ (.head _)))))) k17 qx.2.2
        · exact keepV (N16 _ (.tail _ (.tail _ (.tail _ (.tail _ (.tail _ (.head _))))))) k17 qdx.2.2
        · exact keepV (N16 _ (.tail _ (.tail _ (.tail _ (.tail _ (.tail _ (.tail _ (.head _)))))))) k17 qb.2.2
        · exact keepV (N16 _ (.tail _ (.tail _ (.tail _ (.tail _ (.tail _ (.tail _ (.tail _ (.head _))))))))) k17 qdb.2.2
        · exact keepV (N16 _ (.tail _ (.tail _ (.tail _ (.tail _ (.tail _ (.tail _ (.tail _ (.tail _ (.head _)))))))))) k17 qc1.2.2
        · exact keepV (N16 _ (.tail _ (.tail _ (.tail _ (.tail _ (.tail _ (.tail _ (.tail _ (.tail _ (.tail _ (.head _))))))))))) k17 qc2.2.2
        · intro q hq
          obtain ⟨r, hr, rfl⟩ := List.mem_map.mp hq
          exact keepV (N16 _ (.tail _ (.tail _ (.tail _ (.tail _ (.tail _ (.tail _ (.tail _ (.tail _ (.tail _ (.tail _ (led_mem hr)))))))))))) k17 (hle3 r hr)
      clear F16 N16
      dsimp only at F17 N17 ⊢
      k_steps
      rename_i htkF
      refine ⟨_, _, _, _, rfl, F17, N17, fun q hq => ?_, rs2, bs ++ [⟨DB, nc, t14, i, u16⟩], nhl, n16, n17, nn2 + 1, τ', rfl, rfl, rfl, rfl, rfl, ?_, ?_, ?_, by omega, fun r hr => ⟨(hrp2 r hr).1, (hrp2 r hr).2.1, hrt2 r hr⟩, fun r hr => ?_, fun e he => ⟨(ht0 e he).1, Nat.lt_of_lt_of_le (ht0 e he).2 htkF⟩, ht1⟩
      · revert q
        refine all_cons ?_ (all_cons ?_ (all_cons ?_ (all_cons ?_ (all_cons ?_ (all_cons ?_ (all_cons ?_ (all_cons ?_ (all_cons ?_ ?_))))))))
        · exact Ne.symm qit.1
        · exact Ne.symm qit.2.1
        · exact Ne.symm qit.2.2
        · exact hoff9 (x, instObj 242 dx) (.tail _ (.tail _ (.tail _ (.head _))))
        · exact hoff9 (dx, _) (.tail _ (.tail _ (.tail _ (.tail _ (.head _)))))
        · exact hoff9 (b, _) (.tail _ (.tail _ (.tail _ (.tail _ (.tail _ (.head _))))))
        · exact hoff9 (db, _) (.tail _ (.tail _ (.tail _ (.tail _ (.tail _ (.tail _ (.head _)))))))
        · exact hoff9 (L1 + 1 + 1, o1') (.tail _ (.tail _ (.tail _ (.tail _ (.tail _ (.tail _ (.tail _ (.head _))))))))
        · exact hoff9 (L1 + 1, o2') (.tail _ (.tail _ (.tail _ (.tail _ (.tail _ (.tail _ (.tail _ (.tail _ (.head _)))))))))
        · intro q hq
          obtain ⟨r, hr, rfl⟩ := List.mem_map.mp hq
          rw [← List.append_assoc] at hr
          rcases List.mem_append.mp hr with hr | hr
          · exact hoffr r hr
          · rw [List.mem_singleton.mp hr]; exact qDBit
      · rw [hab2, List.map_append]; exact j6
      · have e := congrArg List.length hab2
        rw [List.length_map] at e
        rw [e, hlen1, List.length_map, j7]
      · rw [List.length_append, j8]; rfl
      · rcases List.mem_append.mp hr with hr | hr
        · exact j11 r hr
        · rw [List.mem_singleton.mp hr]; exact ⟨hnc6, hi⟩
end

/-! FA -/
example : True := by
  k_with_none
  k_with "subscriptTail" => (k_here; (with_reducible show wpAny _ _ (subscriptTail _ _ (Value.ref _) (Value.int _ _)) _ _ _); (with_unfolding_all refine' my_item ?q_k1 ?q_k2 ?q_k3 ?q_k4 ?_ ?q_k6; (case q_k1 => first | assumption | ((rename GSub _ _ _ => kG9); (rename Fr _ _ _ _ => F9); refine' list_up ?q_t9 kG9 F9 (by simp); (case q_t9 => assumption))); (case q_k2 => assumption); (case q_k3 => first | rfl | assumption | omega | (simp only [Int.fdiv_eq_ediv_of_nonneg _ (by decide : (0 : Int) ≤ 2)]; omega)); (case q_k4 => first | assumption | omega); (case q_k6 => with_unfolding_all rfl); k_whole))
  k_with "call builtin:len" => (k_here; (with_reducible show wpAny _ _ (call (Value.builtin "len") [Value.ref _]) _ _ _); refine' my_len ?q_k1 ?q_k2 ?_; (case q_k1 => first | assumption | ((rename GSub _ _ _ => kG9); (rename Fr _ _ _ _ => F9); refine' list_up ?q_t9 kG9 F9 (by simp); (case q_t9 => assumption))); (case q_k2 => first | assumption | omega); intro _ _)
  k_with "subscriptTail" => (k_here; (with_reducible show wpAny _ _ (subscriptTail _ _ (Value.ref _) (Value.int _ _)) _ _ _); (with_unfolding_all refine' my_titem ?q_k1 ?q_k2 ?q_k3 ?q_k4 ?_ ?q_k6; (case q_k1 => first | assumption | ((rename GSub _ _ _ => kG9); (rename Fr _ _ _ _ => F9); refine' TT.up ?q_t9 kG9 F9 (by simp); (case q_t9 => assumption))); (case q_k2 => first | assumption | decide | omega); (case q_k3 => first | assumption | exact rfl); (case q_k4 => first | assumption | (simp only [List.length_cons, List.length_nil]; decide)); (case q_k6 => with_unfolding_all rfl); k_whole))
  k_with "call builtin:list.append" => (k_here; refine stopHere ?_)
  k_with "call builtin:max" => (k_here; refine stopHere ?_)
  k_with "binaryOp Add ref ref" => (k_here; refine stopHere ?_)
  k_with "call ref" => (k_here; refine stopHere ?_)
  k_with "eval ListComp" => (k_here; refine stopHere ?_)
  k_with "eval Name" => (k_here; (with_reducible show wpAny _ _ (eval (Expr.Name _ _) (compEnvC _ _ _ _)) _ _ _); (with_unfolding_all refine' wpAny_Name (wpAny_loadName_local ?q_a ?q_b ?q_c ?q_d ?_) ?q_e; (case q_a => rfl); (case q_b => rfl); (case q_c => assumption); (case q_d => assumption); (case q_e => decide); k_whole))
  k_with "exec For Name Call cons nil" => (k_here; refine stopHere ?_)
  k_with "pyIter ref" => (k_here; refine stopHere ?_)
  k_with "subscriptTail" => (k_here; (with_reducible show wpAny _ _ (subscriptTail _ _ (Value.ref _) (Value.int _ _)) _ _ _); (with_unfolding_all refine' my_item ?q_k1 ?q_k2 ?q_k3 ?q_k4 ?_ ?q_k6; (case q_k3 => exact rfl); (case q_k1 => assumption); (case q_k2 => assumption); (case q_k4 => first | assumption | omega); (case q_k6 => with_unfolding_all rfl); k_whole))
  trivial
section
theorem falls_c (B : Below A₀ base outer h₀) (F : Fr h₀ L s.heap m) (X : (hd.heap_1 w.params).In h₀) (T : Top p loose mean mg mb h₀) (hk : cs.kind = .function) (hd1 : dp + 60 < recursionLimit) (hu : un + 600 < cLine)
    (l : Addr) (ss : List Nat) (vs : List Value) (hll : LL s.heap l vs) (hvs : IL ss vs) (hss : ss.length = 6)
    (hret : ∀ (D : Addr) (us : List Value) (h' : Heap) (tk' : Nat), s.heap.get? D = none → LL h' D us → IL (fallsF ss 6) us → Kp s.heap h' → Q (.ref D) { s with heap := h', toks := tk' }) :
    wpAny (model PySem.Challenge.rw_uc0025_01.row.prog w) (ktrTop dp un gd cn cs L a ccd cl outer) (call (.ref 275) [.ref l]) Q E s := by
  refine wpAny_call ?_
  k_dflt (refine' enterC ?k1 ?k2 ?k3 ?k4 ?k5 ?kA ?kF ?kK ?k6 ?k7 ?k8 ?k9 ?kB ?kD ?_ ?c2 ?c3 ?c4; (case kA => exact rfl); (case kF => exact rfl); (case kK => assumption); (case k1 => k_asm); (case k2 => k_asm); (case k3 => k_asm); (case k4 => first | assumption | exact News.nil); (case k5 => k_asm); (case k6 => k_is); (case k7 => k_is); (case k8 => ktr_room); (case k9 => first | exact BindsTo.of_eq rfl | exact binds_K (by k_in) rfl (by k_is) rfl rfl rfl | exact binds_peek (by k_in) (fun _ => rfl)); (case kB => exact rfl); (case kD => decide +kernel); (case c2 => exact rfl); (case c3 => exact rfl); (case c4 => exact rfl); k_whole; intro g1 L1 h1 tk1 cells9 FG1 F0 N1 Y9 B1 X1 T1 l1 kG1; (try k_lt l1); k_cells Y9; (try simp only [List.cons_append, List.nil_append] at N1); (try dsimp only); (try k_lift B1); (try k_fold))
  rename_i o1 o2 o3 e1 e2 e3
  have d3 : o3.data = .cell (some (.ref l)) := e3
  have d2 : o2.data = .cell none := e2
  have d1 : o1.data = .cell none := e1
  clear e1 e2 e3
  have F1 : Fr g1 L1 h1 (fun _ => none) := F0
  clear F0
  have kg : Kp s.heap g1 := fun b o e => kG1 b o e (List.not_mem_nil)
  refine wpAny_noRaise' ?_
  k_steps
  unfold Stop
  rename_i fl hA1 ltA h2 o2' F2 N2 d2'
  refine wpAny_For ?_
  k_steps
  unfold Stop
  rename_i h3 tA uA vA hrA F3 N3 k3
  refine iter_rangeJ (n := 6) F3 hrA (by decide) fun it h4 F4 k4 hit hgi hiL hin => ?_
  have N4 := news_kp N3 k4
  have hoff := news_off N3 hin
  dsimp only at F4 N4 ⊢
  have hcl : ∀ p ∈ [(fl, listOf #[] 0), (L1 + 1 + 1, o2'), (L1 + 1, o3)], p.1 ≠ L1 + 1 + 1 + 1 := fun p hp => by
    simp only [List.mem_cons, List.not_mem_nil, or_false] at hp
    rcases hp with rfl | rfl | rfl
    · exact Ne.symm (Nat.ne_of_lt ltA.1)
    · exact Nat.ne_of_lt (Nat.lt_succ_self _)
    · exact Nat.ne_of_lt (Nat.lt_succ_of_lt (Nat.lt_succ_self _))
  clear F3 N3
  k_dflt (refine' for_rangeJC (n := 6) (c := L1 + 1 + 1 + 1) (news := [(fl, listOf ([] : List Value).toArray 0), (L1 + 1 + 1, o2'), (L1 + 1, o3)]) ?hh ?hx ?hkf ?hc F4 (fun q hq => N4 q ?nn) d1 hit hgi hiL (hoff (L1 + 1 + 1 + 1, o1) (.tail _ (.head _))) (fun q hq => hoff q ?nn2) hcl (fun i tk m nx => ∃ (vs : List Value) (nf : Nat), nx = [(fl, listOf vs.toArray nf), (L1 + 1 + 1, o2'), (L1 + 1, o3)] ∧ IL (fallsF ss i) vs) ?h0 ?step ?done)
  case hh => rfl
  case hx => rfl
  case hkf => rfl
  case hc => rfl
  case nn =>
    rcases List.mem_cons.mp hq with rfl | hq
    · exact .tail _ (.head _)
    rcases List.mem_cons.mp hq with rfl | hq
    · exact .head _
    · exact .tail _ (.tail _ hq)
  case nn2 =>
    rcases List.mem_cons.mp hq with rfl | hq
    · exact .head _
    · exact .tail _ (.tail _ hq)
  case h0 => exact ⟨[], 0, rfl, IL.nil⟩
  case done =>
    rintro tk9 m9 nx9 oc h9 ⟨us, nf, rfl, hus⟩ hncc ⟨vc, hoc⟩ F9 N9
    change Fr g1 L1 _ _ at F9
    change News g1 L1 _ _ at N9
    dsimp only at F9 N9 ⊢
    k_steps
    have eF := N9 (fl, _) (.tail _ (.head _))
    exact hret fl us h9 _ (none_of_kp kg eF.2.2) ⟨_, eF.1⟩ hus fun b o e => F9.keep b o (kg b o e)
  case step =>
    rintro i tk9 tk10 m9 nx9 h9 ito oc hi htk9 ⟨us, nf, rfl, hus⟩ hoff9 hito hoc F9 N9
    change Fr g1 L1 _ _ at F9
    change News g1 L1 _ _ at N9
    k_steps
    unfold Stop
    rename_i lz h10 F10 N10 ltz
    have hlg : LL g1 l vs := hll.kp kg
    have hfn : us.length = i := by rw [hus.1, fallsF_len]
    have hvl : vs.length = 6 := by rw [hvs.1, hss]
    obtain ⟨ti, hvi⟩ := hvs.get (i := i) (by omega)
    k_dflt (refine' comp_range (g := g1) (L := L1) (fun j => decide (ss.getD i 0 < ss.getD j 0)) (fun j y _ _ _ => ∃ t, y = .int (((fallsF ss i).getD j 0 : Nat) : Int) t) (fun j v m3 => m3 (Str.ofString "j") = some v) ?hh2 ?hclos2 ?hcell2 ?hkind2 ?hnames2 ?h2 ?hs2)
    case hh2 => rfl
    case hclos2 => rfl
    case hcell2 => decide
    case hkind2 => rfl
    case hnames2 => decide
    case hs2 => exact fun _ => rfl
    case h2 =>
      k_steps
      rename_i t1 u1 v1 hr F11 N11 k11
      refine RangeSrc.intro i F11 N11 hr (by omega) ?_ ?_ ?_
      · intro I C D s' i v h1 h2 h3 h4
        exact binds_name rfl rfl
      · rintro C j v h12 tk12 m12 hC1 hC2 hin ⟨tv, rfl, tl, tg⟩ hlo4 hN4 hB4 k12 F12 N12
        have hin' : j < i := hin
        obtain ⟨tj, hvj⟩ := hvs.get (i := j) (by omega)
        obtain ⟨tf, hfj⟩ := hus.get (i := j) (by omega)
        have hl12 : h12.IsList l vs.toArray := (hlg.kp F12.keep).isList
        have hf12 : h12.IsList fl us.toArray := (LL.of_news N12 (.tail _ (.tail _ (.tail _ (.head _))))).isList
        refine ⟨?_, fun hpz => ?_⟩
        · k_steps
          refine TestIs.intro ?_ fun _ _ e => e
          dsimp only
          apply decide_eq_decide.mpr
          omega
        · k_steps
          exact EltIs.plain (fun _ _ e => e) fun _ _ _ _ _ => ⟨_, rfl⟩
      · intro D9 h13 tk13 log hD1 hD2 hD3 hD4 hi' hL k13 F13 N13 ht13
        obtain ⟨nD9, eD9⟩ := hD4
        have N14 : News g1 L1 h13 ((D9, listOf (log.map (·.y)).toArray nD9) :: _) := fun q hq => by
          rcases List.mem_cons.mp hq with rfl | hq
          · exact ⟨eD9, hD3, hD2⟩
          · exact N13 q hq
        dsimp only at F13 N14 ⊢
        clear N13 F11 N11
        have hxi := ints_log (fun j => (fallsF ss i).getD j 0) (fun e he => (hL.1 e he).2.2.1)
        rw [hi'] at hxi
        have hll9 : log.length ≤ i := by
          have e := congrArg List.length hi'
          rw [List.length_map] at e
          rw [e]
          exact Nat.le_trans (List.length_filter_le _ _) (by rw [List.length_range]; exact Nat.le_refl _)
        k_steps
        unfold Stop
        refine add_lists (vs := [.int 0 (tk10 + 1)]) (ws := log.map (·.y)) F13 N14 (LL.of_news N14 (.tail _ (.head _))).isList (LL.of_news N14 (.head _)).isList (fun h15 F15 N15 => ?_) (by simp only [List.length_cons, List.length_nil, List.length_map, sizeLine_eq]; omega)
        generalize hxs : ((List.range i).filter fun j => decide (ss.getD i 0 < ss.getD j 0)).map (fun j => (fallsF ss i).getD j 0) = xs at *
        have hxa : IntsAre ([Value.int 0 (tk10 + 1)] ++ log.map (·.y)) ((0 :: xs).map fun n : Nat => (n : Int)) := .cons 0 _ hxi
        have l15 := (LL.of_news N15 (.head _)).isList
        generalize h13.objs.size = DA at *
        dsimp only at F15 N15 ⊢
        clear F13 N14
        k_steps
        unfold Stop
        refine kso_max F15 N15 l15 hxa (by simp) rfl fun h16 M tM tk16 F16 N16 hM1 hM2 => ?_
        obtain rfl := maxN_of hM1 hM2
        dsimp only at F16 N16 ⊢
        clear F15 N15 l15
        k_steps
        unfold Stop
        have eF := N16 (fl, _) (.tail _ (.tail _ (.tail _ (.tail _ (.tail _ (.head _))))))
        refine append_LL ⟨_, eF.1⟩ (by omega) fun h17 l17 k17 => ?_
        have F17 := fr_kx F16 k17 (fun q hq => by
          rw [List.mem_singleton.mp hq]; exact ⟨eF.2.2, eF.2.1⟩)
        obtain ⟨n17, e17⟩ := l17
        have qfl := hoff9 (fl, listOf us.toArray nf) (.head _)
        have e2f : L1 + 1 + 1 ≠ fl := Nat.ne_of_lt ltA.2.1
        have e3f : L1 + 1 ≠ fl := Nat.ne_of_lt ltA.2.2
        have N17 : News g1 L1 h17 [(it, ito), (L1 + 1 + 1 + 1, oc), (fl, listOf (us ++ [Value.int (1 + ((maxN xs : Nat) : Int)) tk16]).toArray n17), (L1 + 1 + 1, o2'), (L1 + 1, o3)] := fun q hq => by
          revert q
          refine all_cons ?_ (all_cons ?_ (all_cons ?_ (all_cons ?_ (all_cons ?_ (fun _ h => nomatch h)))))
          · exact keepV (N16 _ (.tail _ (.tail _ (.tail _ (.head _))))) k17 (Ne.symm qfl.1)
          · exact keepV (N16 _ (.tail _ (.tail _ (.tail _ (.tail _ (.head _)))))) k17 (Ne.symm qfl.2)
          · exact ⟨e17, eF.2⟩
          · exact keepV (N16 _ (.tail _ (.tail _ (.tail _ (.tail _ (.tail _ (.tail _ (.head _)))))))) k17 e2f
          · exact keepV (N16 _ (.tail _ (.tail _ (.tail _ (.tail _ (.tail _ (.tail _ (.tail _ (.head _))))))))) k17 e3f
        clear F16 N16
        dsimp only at F17 N17 ⊢
        k_steps
        refine ⟨_, _, _, _, rfl, F17, N17, fun q hq => ?_, oc, _, rfl, ⟨_, hoc⟩, fun q hq => ?_, us ++ [Value.int (1 + ((maxN xs : Nat) : Int)) tk16], n17, rfl, ?_⟩
        · revert q
          refine all_cons ?_ (all_cons ?_ (all_cons ?_ (all_cons ?_ (fun _ h => nomatch h))))
          · exact hoff (L1 + 1 + 1 + 1, o1) (.tail _ (.head _))
          · exact qfl.1
          · exact hoff (L1 + 1 + 1, o2') (.tail _ (.tail _ (.head _)))
          · exact hoff (L1 + 1, o3) (.tail _ (.tail _ (.tail _ (.head _))))
        · revert q
          refine all_cons ?_ (all_cons ?_ (all_cons ?_ (fun _ h => nomatch h)))
          · exact qfl.2
          · exact hcl (L1 + 1 + 1, o2') (.tail _ (.head _))
          · exact hcl (L1 + 1, o3) (.tail _ (.tail _ (.head _)))
        · have e : fallsF ss (i + 1) = fallsF ss i ++ [1 + maxN xs] := by rw [← hxs]; rfl
          rw [e]
          have := hus.snoc (1 + maxN xs) tk16
          push_cast at this
          exact this
end

/-! E1 -/
example : True := by
  k_with_none
  k_with "subscriptTail" => (k_here; (with_reducible show wpAny _ _ (subscriptTail _ _ (Value.ref _) (Value.int _ _)) _ _ _); (with_unfolding_all refine' my_item ?q_k1 ?q_k2 ?q_k3 ?q_k4 ?_ ?q_k6; (case q_k1 => first | assumption | ((rename GSub _ _ _ => kG9); (rename Fr _ _ _ _ => F9); refine' list_up ?q_t9 kG9 F9 (by simp); (case q_t9 => assumption))); (case q_k2 => assumption); (case q_k3 => first | rfl | assumption | omega | (simp only [Int.fdiv_eq_ediv_of_nonneg _ (by decide : (0 : Int) ≤ 2)]; omega)); (case q_k4 => first | assumption | omega); (case q_k6 => with_unfolding_all rfl); k_whole))
  k_with "call builtin:len" => (k_here; (with_reducible show wpAny _ _ (call (Value.builtin "len") [Value.ref _]) _ _ _); refine' my_len ?q_k1 ?q_k2 ?_; (case q_k1 => first | assumption | ((rename GSub _ _ _ => kG9); (rename Fr _ _ _ _ => F9); refine' list_up ?q_t9 kG9 F9 (by simp); (case q_t9 => assumption))); (case q_k2 => first | assumption | omega); intro _ _)
  k_with "subscriptTail" => (k_here; (with_reducible show wpAny _ _ (subscriptTail _ _ (Value.ref _) (Value.int _ _)) _ _ _); (with_unfolding_all refine' my_titem ?q_k1 ?q_k2 ?q_k3 ?q_k4 ?_ ?q_k6; (case q_k1 => first | assumption | ((rename GSub _ _ _ => kG9); (rename Fr _ _ _ _ => F9); refine' TT.up ?q_t9 kG9 F9 (by simp); (case q_t9 => assumption))); (case q_k2 => first | assumption | decide | omega); (case q_k3 => first | assumption | exact rfl); (case q_k4 => first | assumption | (simp only [List.length_cons, List.length_nil]; decide)); (case q_k6 => with_unfolding_all rfl); k_whole))
  k_with "own k_inst" => exact inst_fr (by assumption) (by assumption)
  trivial
section
theorem hlen_c (B : Below A₀ base outer h₀) (F : Fr h₀ L s.heap m) (X : (hd.heap_1 w.params).In h₀) (T : Top p loose mean mg mb h₀) (hk : cs.kind = .function) (hd1 : dp + 15 < recursionLimit) (hu : un + 150 < cLine)
    (x hl : Addr) (vs : List Value) (hx : HT s.heap x hl) (hll : LL s.heap hl vs) (hlen : vs.length < 2 ^ 20)
    (hret : ∀ (t : Tok) (h' : Heap) (tk' : Nat), Kp s.heap h' → Q (.int (vs.length : Int) t) { s with heap := h', toks := tk' }) :
    wpAny (model PySem.Challenge.rw_uc0025_01.row.prog w) (ktrTop dp un gd cn cs L a ccd cl outer) (call (.builtin "len") [.ref x]) Q E s := by
  obtain ⟨dx, ehash, te, nx, hxx, hdx⟩ := hx
  have hI0 : InstAt s.heap x (instObj 242 dx) 242 (some (dictOf [⟨ehash, .str (Str.ofString "_headers") te, .ref hl⟩] nx)) := ⟨hxx, rfl, rfl, hdx⟩
  k_dflt (refine' len_K F X hI0 ?k1 ?k2 ?_)
  case k1 => k_is
  case k2 => k_is
  refine wpAny_call ?_
  k_dflt (refine' enterP ?k1 ?k2 ?k3 ?k4 ?k5 ?kA ?kF ?kK ?k6 ?k7 ?k8 ?k9 ?kB ?_ ?c2 ?c3 ?c4 ?c5; (case kA => exact rfl); (case kF => exact rfl); (case kK => assumption); (case k1 => k_asm); (case k2 => k_asm); (case k3 => k_asm); (case k4 => first | assumption | exact News.nil); (case k5 => k_asm); (case k6 => k_is); (case k7 => k_is); (case k8 => ktr_room); (case k9 => first | exact BindsTo.of_eq rfl | exact binds_K (by k_in) rfl (by k_is) rfl rfl rfl | exact binds_peek (by k_in) (fun _ => rfl)); (case c5 => decide); (case kB => exact locs rfl); (case c2 => exact rfl); (case c3 => exact rfl); (case c4 => exact rfl); k_whole; intro g1 L1 h1 FG1 F0 N1 B1 X1 T1 kG1; (try dsimp only); (try k_lift B1); (try k_fold))
  have F1 : Fr g1 L1 h1 (fun y => List.lookup y [(Str.ofString "self", .ref x)]) := F0
  have kg : Kp s.heap g1 := fun b o e => kG1 b o e (by simp)
  have hI : InstAt g1 x (instObj 242 dx) 242 (some (dictOf [⟨ehash, .str (Str.ofString "_headers") te, .ref hl⟩] nx)) := ⟨kg _ _ hxx, rfl, rfl, kg _ _ hdx⟩
  have hll1 : LL h1 hl vs := (hll.kp kg).kp F1.keep
  have hll2 : h1.IsList hl vs.toArray := hll1.isList
  have hn62 : vs.length < 2 ^ 62 := by omega
  clear F0
  refine wpAny_noRaise' ?_
  k_steps
  refine ⟨⟨by omega, by omega⟩, ?_⟩
  (try dsimp only)
  exact hret _ _ _ (by (intro b9 o9 e9; (rename GSub _ _ _ => kG9); (rename Fr _ _ _ _ => F9); exact F9.keep b9 o9 (kG9 b9 o9 e9 (by simp))))
end

/-! S0 -/
example : True := by
  k_with_none
  k_with "subscriptTail" => (k_here; (with_reducible show wpAny _ _ (subscriptTail _ _ (Value.ref _) (Value.int _ _)) _ _ _); (with_unfolding_all refine' my_item ?q_k1 ?q_k2 ?q_k3 ?q_k4 ?_ ?q_k6; (case q_k1 => first | assumption | ((rename GSub _ _ _ => kG9); (rename Fr _ _ _ _ => F9); refine' list_up ?q_t9 kG9 F9 (by simp); (case q_t9 => assumption))); (case q_k2 => assumption); (case q_k3 => first | rfl | assumption | omega | (simp only [Int.fdiv_eq_ediv_of_nonneg _ (by decide : (0 : Int) ≤ 2)]; omega)); (case q_k4 => first | assumption | omega); (case q_k6 => with_unfolding_all rfl); k_whole))
  k_with "call builtin:len" => (k_here; (with_reducible show wpAny _ _ (call (Value.builtin "len") [Value.ref _]) _ _ _); refine' my_len ?q_k1 ?q_k2 ?_; (case q_k1 => first | assumption | ((rename GSub _ _ _ => kG9); (rename Fr _ _ _ _ => F9); refine' list_up ?q_t9 kG9 F9 (by simp); (case q_t9 => assumption))); (case q_k2 => first | assumption | omega); intro _ _)
  k_with "subscriptTail" => (k_here; (with_reducible show wpAny _ _ (subscriptTail _ _ (Value.ref _) (Value.int _ _)) _ _ _); (with_unfolding_all refine' my_titem ?q_k1 ?q_k2 ?q_k3 ?q_k4 ?_ ?q_k6; (case q_k1 => first | assumption | ((rename GSub _ _ _ => kG9); (rename Fr _ _ _ _ => F9); refine' TT.up ?q_t9 kG9 F9 (by simp); (case q_t9 => assumption))); (case q_k2 => first | assumption | decide | omega); (case q_k3 => first | assumption | exact rfl); (case q_k4 => first | assumption | (simp only [List.length_cons, List.length_nil]; decide)); (case q_k6 => with_unfolding_all rfl); k_whole))
  k_with "eval Name" => (k_here; (with_reducible show wpAny _ _ (eval (Expr.Name _ _) (compEnvC _ _ _ _)) _ _ _); (with_unfolding_all refine' wpAny_Name (wpAny_loadName_local ?q_a ?q_b ?q_c ?q_d ?_) ?q_e; (case q_a => rfl); (case q_b => rfl); (case q_c => first | assumption | exact nsC_get (by assumption) (by assumption) (by repeat (first | exact List.Mem.head _ | apply List.Mem.tail))); (case q_d => assumption); (case q_e => decide); k_whole))
  k_with "call builtin:sum" => (k_here; refine stopHere ?_)
  k_with "eval ListComp" => (k_here; refine stopHere ?_)
  k_with "own k_updF" => (refine' UpdF.head ?q_a; (case q_a => (repeat (first | assumption | (refine List.forall_mem_cons.mpr ⟨by k_ne, ?_⟩)))))
  k_with "execs cons" => (k_here; refine stopHere ?_)
  trivial
section
variable {g : Heap} {L1 : Addr} {Qf : Flow → Shared → Prop}
theorem law_s0 (F1 : Fr g L1 s.heap m) (X1 : (hd.heap_1 w.params).In g) (T1 : Top p loose mean mg mb g)
    (sl : Addr) (vs : List Value) (ws : List Int) (h277 : @LT.lt Nat _ 277 L1) (hsl : g.IsList sl vs.toArray) (hws : IntsAre vs ws) (hwl : ws.length ≤ 63)
    (o1 : Obj) (d1 : o1.data = .cell (some (.ref sl))) (o2 : Obj) (d2 : o2.data = .cell none) (o3 : Obj) (d3 : o3.data = .cell none) (o4 : Obj) (d4 : o4.data = .cell none) (o5 : Obj) (d5 : o5.data = .cell none) (o6 : Obj) (d6 : o6.data = .cell none) (o7 : Obj) (d7 : o7.data = .cell none) (o8 : Obj) (d8 : o8.data = .cell none) (o9 : Obj) (d9 : o9.data = .cell none) (o10 : Obj) (d10 : o10.data = .cell none) (o11 : Obj) (d11 : o11.data = .cell none) (o12 : Obj) (d12 : o12.data = .cell none)
    (N1 : News g L1 s.heap [(L1 + 1 + 1 + 1 + 1 + 1 + 1 + 1 + 1 + 1 + 1 + 1 + 1, o12), (L1 + 1 + 1 + 1 + 1 + 1 + 1 + 1 + 1 + 1 + 1 + 1, o11), (L1 + 1 + 1 + 1 + 1 + 1 + 1 + 1 + 1 + 1 + 1, o10), (L1 + 1 + 1 + 1 + 1 + 1 + 1 + 1 + 1 + 1, o9), (L1 + 1 + 1 + 1 + 1 + 1 + 1 + 1 + 1, o8), (L1 + 1 + 1 + 1 + 1 + 1 + 1 + 1, o7), (L1 + 1 + 1 + 1 + 1 + 1 + 1, o6), (L1 + 1 + 1 + 1 + 1 + 1, o5), (L1 + 1 + 1 + 1 + 1, o4), (L1 + 1 + 1 + 1, o3), (L1 + 1 + 1, o2), (L1 + 1, o1), (277, tabObj #[])])
    (hnext : ∀ (ths : List Th) (nl tl ll pl al : Addr) (nn nt : Nat) (o2 o3 o4 o12 : Obj) (h' : Heap) (tk' : Nat), ths.length = 6 → ths.Pairwise (fun a b => a.t < b.t) → (∀ x ∈ ths, 0 < x.t ∧ x.t < tk') → Apart5 ths nl tl ll pl al →
      o2.data = .cell (some (.ref tl)) → o3.data = .cell (some (.ref ll)) → o4.data = .cell (some (.ref pl)) → o12.data = .cell (some (.ref nl)) → Fr g L1 h' (fun y => if y = Str.ofString "answers" then some (.ref al) else m y) →
      News g L1 h' ((al, listOf #[] 0) :: (pl, listOf #[] 0) :: (ll, listOf #[] 0) :: (tl, listOf (ths.map Th.ref).toArray nt) :: (nl, listOf (ths.map Th.val).toArray nn) :: (L1 + 1 + 1 + 1 + 1 + 1 + 1 + 1 + 1 + 1 + 1 + 1 + 1, o12) :: (L1 + 1 + 1 + 1 + 1 + 1 + 1 + 1 + 1 + 1 + 1 + 1, o11) :: (L1 + 1 + 1 + 1 + 1 + 1 + 1 + 1 + 1 + 1 + 1, o10) :: (L1 + 1 + 1 + 1 + 1 + 1 + 1 + 1 + 1 + 1, o9) :: (L1 + 1 + 1 + 1 + 1 + 1 + 1 + 1 + 1, o8) :: (L1 + 1 + 1 + 1 + 1 + 1 + 1 + 1, o7) :: (L1 + 1 + 1 + 1 + 1 + 1 + 1, o6) :: (L1 + 1 + 1 + 1 + 1 + 1, o5) :: (L1 + 1 + 1 + 1 + 1, o4) :: (L1 + 1 + 1 + 1, o3) :: (L1 + 1 + 1, o2) :: (L1 + 1, o1) :: (277, tabObj #[]) :: ThLed ths) → LawRun w 2 L1 Qf { s with heap := h', toks := tk' }) : LawRun w 0 L1 Qf s := by
  refine' LawRun.intro ?k6 ?_
  case k6 => k_is
  dsimp only [List.drop]
  refine wpAny_execs_cons ?_
  k_steps
  unfold Stop
  k_dflt (refine' comp_range2 (g := g) (L := L1) (fun _ => true) (fun i y _ lo hi => ∃ n t, y = .int n t ∧ lo < t ∧ t < hi) (fun i v m3 => m3 (Str.ofString "k") = some v) ?hh ?hclos ?hcell ?hkind ?hnames ?h ?hs)
  case hh => rfl
  case hclos => rfl
  case hcell => decide
  case hkind => rfl
  case hnames => decide
  case hs => exact fun _ => rfl
  case h =>
    k_steps
    rename_i t1 u1 v1 hr F3 N3 k3
    refine RangeSrc2.intro 6 F3 N3 hr (by decide) ?_ ?_ ?_
    · intro I C D s' i v
      exact binds_name rfl rfl
    · rintro C i v h4 tk4 m4 oC R hin ⟨tv, rfl, tl, tg⟩ hlo4 hB4 hNC hR F4 N4
      have hin' : i < 6 := hin
      simp only [List.cons_append, List.nil_append] at N4
      refine ⟨?_, fun hpz => ?_⟩
      · k_steps
        exact TestIs2.intro rfl hR F4 N4 (fun q hq => by repeat (first | exact hq | apply List.Mem.tail))
      · match i, hin' with
        | 0, _ | 1, _ | 2, _ | 3, _ | 4, _ | 5, _ =>
          k_steps
          unfold Stop
          rename_i hA hB F5 N5
          have hsx := (LL.of_news N5 (.head _)).isList
          refine wpAny_with_toks (n := tk4 + 1) (by dsimp only; omega) ?_
          refine LSm.sum_ints F5 N5 rfl hsx (IntsAre.pick hws _ _ _) fun h6 tk6 t6 F6 N6 htk6 => ?_
          k_steps
          exact EltIs2.plain hR F6 N6 (fun q hq => by repeat (first | exact hq | apply List.Mem.tail)) fun lo hh h1 h2 h3 => ⟨_, _, rfl, Nat.lt_of_lt_of_le (Nat.lt_succ_of_le h2) htk6, h3⟩
    · intro D h7 tk7 log hD1 hD2 hD3 hD4 hi hL k7 F7 N7 ht7
      obtain ⟨nD, eD⟩ := hD4
      rw [range_all] at hi
      have N8 : News g L1 h7 ((D, listOf (log.map (·.y)).toArray nD) :: _) := fun q hq => by
        rcases List.mem_cons.mp hq with rfl | hq
        · exact ⟨eD, hD3, hD2⟩
        · exact N7 q hq
      dsimp only at F7 N8 ⊢
      have q12 := fresh_ne hD1 N3 (c := L1 + 1 + 1 + 1 + 1 + 1 + 1 + 1 + 1 + 1 + 1 + 1 + 1) (o := o12) (by repeat (first | exact List.Mem.head _ | apply List.Mem.tail))
      have q2 := fresh_ne hD1 N3 (c := L1 + 1 + 1) (o := o2) (by repeat (first | exact List.Mem.head _ | apply List.Mem.tail))
      have q3 := fresh_ne hD1 N3 (c := L1 + 1 + 1 + 1) (o := o3) (by repeat (first | exact List.Mem.head _ | apply List.Mem.tail))
      have q4 := fresh_ne hD1 N3 (c := L1 + 1 + 1 + 1 + 1) (o := o4) (by repeat (first | exact List.Mem.head _ | apply List.Mem.tail))
      clear N7 F3 N3
      k_steps
      unfold Stop
      rename_i hA o12' F9 N9 d12'
      refine wpAny_execs_cons ?_
      refine wpAny_with_toks (n := tk7) (by dsimp only; omega) ?_
      k_steps
      unfold Stop
      have hlog : ∀ e ∈ log, ∃ n t, e.y = Value.int n t ∧ e.lo < t ∧ t < e.hi := fun e he => (hL.1 e he).2.2.1
      obtain ⟨nt, hnt, hnp, hn0⟩ := nums_of hlog hL.2
      have hnl : nt.length = 6 := by
        have e1 := congrArg List.length hnt
        have e2 := congrArg List.length hi
        rw [List.length_map, List.length_map] at e1
        rw [List.length_map, List.length_range] at e2
        omega
      rw [hnt] at N9
      k_dflt (refine' comp_list2 (g := g) (L := L1) (fun _ => true) (fun i y as _ _ => ∃ Dx, y = .ref Dx ∧ as = [(Dx, listOf #[(nt.map (fun p => Value.int p.1 p.2)).getD i default] 0)]) (fun i v m3 => m3 (Str.ofString "number") = some v) ?hh2 ?hclos2 ?hcell2 ?hkind2 ?hnames2 ?h2 ?hs2)
      case hh2 => rfl
      case hclos2 => rfl
      case hcell2 => decide
      case hkind2 => rfl
      case hnames2 => decide
      case hs2 => exact fun _ => rfl
      case h2 =>
        k_steps
        refine ListSrc2.intro (nt.map (fun p => Value.int p.1 p.2)) F9 N9 ⟨_, (N9 (D, _) (.head _)).1⟩ (by rw [List.length_map]; omega) ?_ ?_ ?_
        · intro I C D s' i v _
          exact binds_name rfl rfl
        · rintro C i v h4 tk4 m4 oC R hin hP hlo4 hB4 hNC hR F4 N4
          simp only [List.cons_append, List.nil_append] at N4
          refine ⟨?_, fun hpz => ?_⟩
          · k_steps
            exact TestIs2.intro rfl hR F4 N4 (fun q hq => by repeat (first | exact hq | apply List.Mem.tail))
          · k_steps
            rename_i Dx h5 F5 N5 lt5
            refine EltIs2.news [(Dx, listOf #[v] 0)] hR F5 N5 (fun q hq => by repeat (first | exact hq | apply List.Mem.tail)) (fun lo hh h1 h2 h3 => ⟨Dx, rfl, ?_⟩) ?_
            · rw [List.getD_eq_getElem?_getD, hP]; rfl
            · intro q hq
              rw [List.mem_singleton.mp hq]
              exact ⟨rest_fresh hR N5 lt5 (fun q hq => by repeat (first | exact hq | apply List.Mem.tail)), (N5 (Dx, _) (.head _)).1⟩
        · intro D2 h17 tk17 log2 hE1 hE2 hE3 hE4 hi2 hL2 k17 F17 N17 ht17
          obtain ⟨nD2, eD2⟩ := hE4
          rw [range_all] at hi2
          have hll2 : nt.length = log2.length := by
            have e2 := congrArg List.length hi2
            rw [List.length_map, List.length_map, List.length_range] at e2
            exact e2.symm
          obtain ⟨ths, ht1, ht2, ht3⟩ := ths_of nt log2 hll2 (fun i hi' hj => by
            obtain ⟨Dx, g1, g2⟩ := (hL2.1 _ (List.getElem_mem hi')).2.2.1
            refine ⟨Dx, g1, ?_⟩
            have hii : log2[i].i = i := by
              have h6' : i < nt.length := by omega
              rw [List.length_map] at hi2
              have := congrArg (fun l => l[i]?) hi2
              simp only [List.getElem?_map, List.getElem?_eq_getElem hi', List.getElem?_range h6', Option.map_some] at this
              exact Option.some.inj this
            rw [g2, hii]
            simp [List.getD_eq_getElem?_getD, hj])
          have hthl : ths.length = 6 := by
            have := congrArg List.length ht1
            rw [List.length_map] at this
            omega
          have hthn : ∀ x ∈ ths, h17.get? x.a = some (thO x) ∧ x.a ≠ D2 ∧ x.a ≠ L1 ∧ hA.get? x.a = none := fun x hx => by
            obtain ⟨e, he, hq⟩ := ht3 x hx
            exact (hL2.1 e he).2.2.2 _ hq
          have N18 : News g L1 h17 ((D2, listOf (ths.map Th.ref).toArray nD2) :: (D, listOf (ths.map Th.val).toArray nD) :: (L1 + 1 + 1 + 1 + 1 + 1 + 1 + 1 + 1 + 1 + 1 + 1 + 1, o12') :: (L1 + 1 + 1 + 1 + 1 + 1 + 1 + 1 + 1 + 1 + 1 + 1, o11) :: (L1 + 1 + 1 + 1 + 1 + 1 + 1 + 1 + 1 + 1 + 1, o10) :: (L1 + 1 + 1 + 1 + 1 + 1 + 1 + 1 + 1 + 1, o9) :: (L1 + 1 + 1 + 1 + 1 + 1 + 1 + 1 + 1, o8) :: (L1 + 1 + 1 + 1 + 1 + 1 + 1 + 1, o7) :: (L1 + 1 + 1 + 1 + 1 + 1 + 1, o6) :: (L1 + 1 + 1 + 1 + 1 + 1, o5) :: (L1 + 1 + 1 + 1 + 1, o4) :: (L1 + 1 + 1 + 1, o3) :: (L1 + 1 + 1, o2) :: (L1 + 1, o1) :: (277, tabObj #[]) :: ThLed ths) := fun q hq => by
            rcases List.mem_cons.mp hq with rfl | hq
            · exact ⟨ht2 ▸ eD2, hE3, hE2⟩
            · have hval : nt.map (fun p => Value.int p.1 p.2) = ths.map Th.val := by rw [← ht1, List.map_map]; rfl
              rw [← hval] at hq
              have hq' : q ∈ ((D, listOf (nt.map (fun p => Value.int p.1 p.2)).toArray nD) :: [(L1 + 1 + 1 + 1 + 1 + 1 + 1 + 1 + 1 + 1 + 1 + 1 + 1, o12'), (L1 + 1 + 1 + 1 + 1 + 1 + 1 + 1 + 1 + 1 + 1 + 1, o11), (L1 + 1 + 1 + 1 + 1 + 1 + 1 + 1 + 1 + 1 + 1, o10), (L1 + 1 + 1 + 1 + 1 + 1 + 1 + 1 + 1 + 1, o9), (L1 + 1 + 1 + 1 + 1 + 1 + 1 + 1 + 1, o8), (L1 + 1 + 1 + 1 + 1 + 1 + 1 + 1, o7), (L1 + 1 + 1 + 1 + 1 + 1 + 1, o6), (L1 + 1 + 1 + 1 + 1 + 1, o5), (L1 + 1 + 1 + 1 + 1, o4), (L1 + 1 + 1 + 1, o3), (L1 + 1 + 1, o2), (L1 + 1, o1), (277, tabObj #[])]) ++ ThLed ths := hq
              rcases List.mem_append.mp hq' with hq | hq
              · exact N17 q hq
              · obtain ⟨x, hx, rfl⟩ := List.mem_map.mp hq
                exact ⟨(hthn x hx).1, (hthn x hx).2.2.1, (fresh_of F9 (hthn x hx).2.2.2).1⟩
          have r2 := fresh_ne hE1 N9 (c := L1 + 1 + 1) (o := o2) (by repeat (first | exact List.Mem.head _ | apply List.Mem.tail))
          have r3 := fresh_ne hE1 N9 (c := L1 + 1 + 1 + 1) (o := o3) (by repeat (first | exact List.Mem.head _ | apply List.Mem.tail))
          have r4 := fresh_ne hE1 N9 (c := L1 + 1 + 1 + 1 + 1) (o := o4) (by repeat (first | exact List.Mem.head _ | apply List.Mem.tail))
          have w2 : ∀ p ∈ ThLed ths, p.1 ≠ L1 + 1 + 1 := fun p hp => by
            obtain ⟨x, hx, rfl⟩ := List.mem_map.mp hp
            exact fresh_ne (hthn x hx).2.2.2 N9 (c := L1 + 1 + 1) (o := o2) (by repeat (first | exact List.Mem.head _ | apply List.Mem.tail))
          have w3 : ∀ p ∈ ThLed ths, p.1 ≠ L1 + 1 + 1 + 1 := fun p hp => by
            obtain ⟨x, hx, rfl⟩ := List.mem_map.mp hp
            exact fresh_ne (hthn x hx).2.2.2 N9 (c := L1 + 1 + 1 + 1) (o := o3) (by repeat (first | exact List.Mem.head _ | apply List.Mem.tail))
          have w4 : ∀ p ∈ ThLed ths, p.1 ≠ L1 + 1 + 1 + 1 + 1 := fun p hp => by
            obtain ⟨x, hx, rfl⟩ := List.mem_map.mp hp
            exact fresh_ne (hthn x hx).2.2.2 N9 (c := L1 + 1 + 1 + 1 + 1) (o := o4) (by repeat (first | exact List.Mem.head _ | apply List.Mem.tail))
          dsimp only at F17 N18 ⊢
          clear N17 F9 N9
          k_steps
          unfold Stop
          rename_i ll hB1 ltl pl hB2 ltp al hB3 lta DT hB4 ltT hB5 hB6 o2' e2' hB7 o3' e3' hB8 o4' e4' h19 F19 N19 htkE
          replace htkE : tk7 ≤ _ := htkE
          refine' LawRun.elim (k := 2) ?k7 ?hL ?e7
          case k7 => k_is
          case e7 => rfl
          case hL =>
            have hmt : ∀ x ∈ ths, (x.n, x.t) ∈ nt := fun x hx => by rw [← ht1]; exact List.mem_map_of_mem hx
            have hth : ∀ {c : Addr}, AllLt c (ThLed ths) → ∀ x ∈ ths, x.a ≠ c := fun h x hx => Nat.ne_of_lt (kst_ltOf h _ (th_mem hx))
            refine hnext ths D D2 ll pl al nD nD2 o2' o3' o4' o12' h19 _ hthl ?_ (fun x hx => ⟨(hn0 _ (hmt x hx)).1, by
              obtain ⟨_, e, he, _, q⟩ := hn0 _ (hmt x hx)
              exact Nat.lt_of_lt_of_le q (Nat.le_trans (hL.1 e he).2.1 htkE)⟩) ?_ e2' e3' e4' d12' F19 fun q hq => N19 q (.tail _ hq)
            · rw [← ht1] at hnp
              exact (List.pairwise_map (f := fun x : Th => (x.n, x.t)) (R := fun a b : Int × Tok => a.2 < b.2)).mp hnp
            · exact ⟨by k_ne, by k_ne, by k_ne, by k_ne, by k_ne, by k_ne, by k_ne, by k_ne, by k_ne, hth (ltl.2.2.2.2.2.2.2.2.2.2.2.2.2.2.2), hth (ltp.2.2.2.2.2.2.2.2.2.2.2.2.2.2.2.2), hth (lta.2.2.2.2.2.2.2.2.2.2.2.2.2.2.2.2.2)⟩
end

/-! S2 -/
example : True := by
  k_with_none
  k_with "subscriptTail" => (k_here; (with_reducible show wpAny _ _ (subscriptTail _ _ (Value.ref _) (Value.int _ _)) _ _ _); (with_unfolding_all refine' my_item ?q_k1 ?q_k2 ?q_k3 ?q_k4 ?_ ?q_k6; (case q_k1 => first | assumption | ((rename GSub _ _ _ => kG9); (rename Fr _ _ _ _ => F9); refine' list_up ?q_t9 kG9 F9 (by simp); (case q_t9 => assumption))); (case q_k2 => assumption); (case q_k3 => first | rfl | assumption | omega | (simp only [Int.fdiv_eq_ediv_of_nonneg _ (by decide : (0 : Int) ≤ 2)]; omega)); (case q_k4 => first | assumption | omega); (case q_k6 => with_unfolding_all rfl); k_whole))
  k_with "call builtin:len" => (k_here; (with_reducible show wpAny _ _ (call (Value.builtin "len") [Value.ref _]) _ _ _); refine' my_len ?q_k1 ?q_k2 ?_; (case q_k1 => first | assumption | ((rename GSub _ _ _ => kG9); (rename Fr _ _ _ _ => F9); refine' list_up ?q_t9 kG9 F9 (by simp); (case q_t9 => assumption))); (case q_k2 => first | assumption | omega); intro _ _)
  k_with "subscriptTail" => (k_here; (with_reducible show wpAny _ _ (subscriptTail _ _ (Value.ref _) (Value.int _ _)) _ _ _); (with_unfolding_all refine' my_titem ?q_k1 ?q_k2 ?q_k3 ?q_k4 ?_ ?q_k6; (case q_k1 => first | assumption | ((rename GSub _ _ _ => kG9); (rename Fr _ _ _ _ => F9); refine' TT.up ?q_t9 kG9 F9 (by simp); (case q_t9 => assumption))); (case q_k2 => first | assumption | decide | omega); (case q_k3 => first | assumption | exact rfl); (case q_k4 => first | assumption | (simp only [List.length_cons, List.length_nil]; decide)); (case q_k6 => with_unfolding_all rfl); k_whole))
  k_with "eval Name" => (k_here; (with_reducible show wpAny _ _ (eval (Expr.Name _ _) (compEnvC _ _ _ _)) _ _ _); (with_unfolding_all refine' wpAny_Name (wpAny_loadName_local ?q_a ?q_b ?q_c ?q_d ?_) ?q_e; (case q_a => rfl); (case q_b => rfl); (case q_c => first | assumption | exact nsC_get (by assumption) (by assumption) (by repeat (first | exact List.Mem.head _ | apply List.Mem.tail))); (case q_d => assumption); (case q_e => decide); k_whole))
  k_with "eval Lambda" => (k_here; refine stopHere ?_)
  k_with "eval ListComp" => (k_here; refine stopHere ?_)
  k_with "call builtin:list.append" => (k_here; refine stopHere ?_)
  k_with "call ref" => (k_here; refine stopHere ?_)
  k_with "exec For Name Call cons cons" => (k_here; refine stopHere ?_)
  k_with "pyIter ref" => (k_here; refine stopHere ?_)
  k_with "execs cons" => (k_here; refine stopHere ?_)
  k_with "subscriptTail" => (k_here; (with_reducible show wpAny _ _ (subscriptTail _ _ (Value.ref _) (Value.int _ _)) _ _ _); (with_unfolding_all refine' my_item ?q_k1 ?q_k2 ?q_k3 ?q_k4 ?_ ?q_k6; (case q_k3 => exact rfl); (case q_k1 => assumption); (case q_k2 => assumption); (case q_k4 => first | assumption | omega); (case q_k6 => with_unfolding_all rfl); k_whole))
  trivial
section
variable {g : Heap} {L1 : Addr} {Qf : Flow → Shared → Prop}
theorem law_s2 (F1 : Fr g L1 s.heap m) (X1 : (hd.heap_1 w.params).In g) (T1 : Top p loose mean mg mb g) (hCH : CodeHd g 279 277) (h277 : @LT.lt Nat _ 277 L1)
    (ths : List Th) (nl tl ll pl al : Addr) (nn nt : Nat) (hthl : ths.length = 6) (hth0 : ∀ x ∈ ths, 0 < x.t ∧ x.t < s.toks) (ap : Apart5 ths nl tl ll pl al)
    (v1 : Option Value) (o1 : Obj) (d1 : o1.data = .cell v1) (o2 : Obj) (d2 : o2.data = .cell (some (.ref tl))) (o3 : Obj) (d3 : o3.data = .cell (some (.ref ll))) (o4 : Obj) (d4 : o4.data = .cell (some (.ref pl))) (o5 : Obj) (d5 : o5.data = .cell none) (o6 : Obj) (d6 : o6.data = .cell none) (o7 : Obj) (d7 : o7.data = .cell none) (o8 : Obj) (d8 : o8.data = .cell none) (o9 : Obj) (d9 : o9.data = .cell none) (o10 : Obj) (d10 : o10.data = .cell none) (o11 : Obj) (d11 : o11.data = .cell none) (o12 : Obj) (d12 : o12.data = .cell (some (.ref nl)))
    (hma : m (Str.ofString "answers") = some (.ref al))
    (N1 : News g L1 s.heap ((al, listOf #[] 0) :: (pl, listOf #[] 0) :: (ll, listOf #[] 0) :: (tl, listOf (ths.map Th.ref).toArray nt) :: (nl, listOf (ths.map Th.val).toArray nn) :: (L1 + 1 + 1 + 1 + 1 + 1 + 1 + 1 + 1 + 1 + 1 + 1 + 1, o12) :: (L1 + 1 + 1 + 1 + 1 + 1 + 1 + 1 + 1 + 1 + 1 + 1, o11) :: (L1 + 1 + 1 + 1 + 1 + 1 + 1 + 1 + 1 + 1 + 1, o10) :: (L1 + 1 + 1 + 1 + 1 + 1 + 1 + 1 + 1 + 1, o9) :: (L1 + 1 + 1 + 1 + 1 + 1 + 1 + 1 + 1, o8) :: (L1 + 1 + 1 + 1 + 1 + 1 + 1 + 1, o7) :: (L1 + 1 + 1 + 1 + 1 + 1 + 1, o6) :: (L1 + 1 + 1 + 1 + 1 + 1, o5) :: (L1 + 1 + 1 + 1 + 1, o4) :: (L1 + 1 + 1 + 1, o3) :: (L1 + 1 + 1, o2) :: (L1 + 1, o1) :: (277, tabObj #[]) :: ThLed ths))
    (hnext : ∀ (pvs : List Value) (na np nq : Nat) (tab : Array Value) (h' : Heap) (tk' : Nat) (m' : Str → Option Value), IL (insP (fun a b => decide ((ths.getD a default).n < (ths.getD b default).n)) 6) pvs → (∀ v ∈ pvs, ∃ n t, v = Value.int n t ∧ 0 < t ∧ t < tk') → s.toks ≤ tk' → m' (Str.ofString "answers") = some (.ref al) → Fr g L1 h' m' →
      News g L1 h' ((al, listOf (List.replicate 12 Value.none).toArray na) :: (pl, listOf pvs.toArray np) :: (ll, listOf ((insP (fun a b => decide ((ths.getD a default).n < (ths.getD b default).n)) 6).map fun j => (ths.getD j default).ref).toArray nq) :: (tl, listOf (ths.map Th.ref).toArray nt) :: (nl, listOf (ths.map Th.val).toArray nn) :: (L1 + 1 + 1 + 1 + 1 + 1 + 1 + 1 + 1 + 1 + 1 + 1 + 1, o12) :: (L1 + 1 + 1 + 1 + 1 + 1 + 1 + 1 + 1 + 1 + 1 + 1, o11) :: (L1 + 1 + 1 + 1 + 1 + 1 + 1 + 1 + 1 + 1 + 1, o10) :: (L1 + 1 + 1 + 1 + 1 + 1 + 1 + 1 + 1 + 1, o9) :: (L1 + 1 + 1 + 1 + 1 + 1 + 1 + 1 + 1, o8) :: (L1 + 1 + 1 + 1 + 1 + 1 + 1 + 1, o7) :: (L1 + 1 + 1 + 1 + 1 + 1 + 1, o6) :: (L1 + 1 + 1 + 1 + 1 + 1, o5) :: (L1 + 1 + 1 + 1 + 1, o4) :: (L1 + 1 + 1 + 1, o3) :: (L1 + 1 + 1, o2) :: (L1 + 1, o1) :: (277, tabObj tab) :: ThLed ths) → LawRun w 3 L1 Qf { s with heap := h', toks := tk' }) : LawRun w 2 L1 Qf s := by
  refine' LawRun.intro ?k6 ?_
  case k6 => k_is
  dsimp only [List.drop]
  have B1 : Below callerA g [] g := below_caller g
  have hod1 : ∀ us k, o1.data ≠ .seq us k := fun us k e => by rw [d1] at e; cases e
  have hod2 : ∀ us k, o2.data ≠ .seq us k := fun us k e => by rw [d2] at e; cases e
  have hod3 : ∀ us k, o3.data ≠ .seq us k := fun us k e => by rw [d3] at e; cases e
  have hod4 : ∀ us k, o4.data ≠ .seq us k := fun us k e => by rw [d4] at e; cases e
  have hod5 : ∀ us k, o5.data ≠ .seq us k := fun us k e => by rw [d5] at e; cases e
  have hod6 : ∀ us k, o6.data ≠ .seq us k := fun us k e => by rw [d6] at e; cases e
  have hod7 : ∀ us k, o7.data ≠ .seq us k := fun us k e => by rw [d7] at e; cases e
  have hod8 : ∀ us k, o8.data ≠ .seq us k := fun us k e => by rw [d8] at e; cases e
  have hod9 : ∀ us k, o9.data ≠ .seq us k := fun us k e => by rw [d9] at e; cases e
  have hod10 : ∀ us k, o10.data ≠ .seq us k := fun us k e => by rw [d10] at e; cases e
  have hod11 : ∀ us k, o11.data ≠ .seq us k := fun us k e => by rw [d11] at e; cases e
  have hod12 : ∀ us k, o12.data ≠ .seq us k := fun us k e => by rw [d12] at e; cases e
  refine wpAny_execs_cons ?_
  refine wpAny_For ?_
  refine wpAny_with_toks (n := s.toks) (Nat.le_refl _) ?_
  k_steps
  unfold Stop
  rename_i h3 tA uA vA hrA F3 N3 k3 htkA
  refine iter_rangeJ (n := 6) F3 hrA (by decide) fun it h4 F4 k4 hit hgi hiL hin => ?_
  have N4 := news_kp N3 k4
  have hoff := news_off N3 hin
  dsimp only at F4 N4 ⊢
  clear F3 N3
  k_dflt (refine' for_rangeJ (n := 6) ?hh ?hx ?hp F4 N4 hit hgi hiL hoff (fun i tk m' nx => ∃ (pvs : List Value) (na np nq : Nat) (tab : Array Value) (cobs : List (Addr × Obj)), m' (Str.ofString "answers") = some (.ref al) ∧
    nx = (al, listOf (List.replicate (2 * i) Value.none).toArray na) :: (pl, listOf pvs.toArray np) :: (ll, listOf ((insP (fun a b => decide ((ths.getD a default).n < (ths.getD b default).n)) i).map fun j => (ths.getD j default).ref).toArray nq) :: (tl, listOf (ths.map Th.ref).toArray nt) :: (nl, listOf (ths.map Th.val).toArray nn) :: (L1 + 1 + 1 + 1 + 1 + 1 + 1 + 1 + 1 + 1 + 1 + 1 + 1, o12) :: (L1 + 1 + 1 + 1 + 1 + 1 + 1 + 1 + 1 + 1 + 1 + 1, o11) :: (L1 + 1 + 1 + 1 + 1 + 1 + 1 + 1 + 1 + 1 + 1, o10) :: (L1 + 1 + 1 + 1 + 1 + 1 + 1 + 1 + 1 + 1, o9) :: (L1 + 1 + 1 + 1 + 1 + 1 + 1 + 1 + 1, o8) :: (L1 + 1 + 1 + 1 + 1 + 1 + 1 + 1, o7) :: (L1 + 1 + 1 + 1 + 1 + 1 + 1, o6) :: (L1 + 1 + 1 + 1 + 1 + 1, o5) :: (L1 + 1 + 1 + 1 + 1, o4) :: (L1 + 1 + 1 + 1, o3) :: (L1 + 1 + 1, o2) :: (L1 + 1, o1) :: (277, tabObj tab) :: (cobs ++ ThLed ths) ∧
    IL (insP (fun a b => decide ((ths.getD a default).n < (ths.getD b default).n)) i) pvs ∧ (∀ v ∈ pvs, ∃ n t, v = Value.int n t ∧ 0 < t ∧ t < tk) ∧ TabSt tab cobs ∧ (∀ q ∈ cobs, q.1 ≠ ll ∧ q.1 ≠ pl ∧ q.1 ≠ al) ∧ s.toks ≤ tk) ?h0 ?step ?done)
  case hh => rfl
  case hx => rfl
  case hp => rfl
  case h0 => exact ⟨[], 0, 0, 0, #[], [], hma, rfl, IL.nil, (fun _ h => (List.not_mem_nil h).elim), .inl ⟨rfl, rfl⟩, (fun _ h => (List.not_mem_nil h).elim), htkA⟩
  case done =>
    rintro tk9 m9 nx9 h9 zz F9 N9
    refine exE6 zz fun pvs na np nq tab cobs jj => andE7 jj fun jm ez7 jv jt jtab jc jtk => ?_
    clear jj zz
    subst ez7
    change Fr g L1 _ _ at F9
    change News g L1 _ _ at N9
    (try dsimp only)
    k_steps
    unfold Stop
    refine' LawRun.elim (k := 3) ?k7 ?hL ?e7
    case k7 => k_is
    case e7 => rfl
    case hL =>
      refine hnext pvs na np nq tab h9 _ m9 jv jt jtk jm F9 fun q hq => ?_
      revert q
      refine all_cons ?_ (all_cons ?_ (all_cons ?_ (all_cons ?_ (all_cons ?_ (all_cons ?_ (all_cons ?_ (all_cons ?_ (all_cons ?_ (all_cons ?_ (all_cons ?_ (all_cons ?_ (all_cons ?_ (all_cons ?_ (all_cons ?_ (all_cons ?_ (all_cons ?_ (all_cons ?_ ?_)))))))))))))))))
      · exact N9 _ (.head _)
      · exact N9 _ (.tail _ (.head _))
      · exact N9 _ (.tail _ (.tail _ (.head _)))
      · exact N9 _ (.tail _ (.tail _ (.tail _ (.head _))))
      · exact N9 _ (.tail _ (.tail _ (.tail _ (.tail _ (.head _)))))
      · exact N9 _ (.tail _ (.tail _ (.tail _ (.tail _ (.tail _ (.head _))))))
      · exact N9 _ (.tail _ (.tail _ (.tail _ (.tail _ (.tail _ (.tail _ (.head _)))))))
      · exact N9 _ (.tail _ (.tail _ (.tail _ (.tail _ (.tail _ (.tail _ (.tail _ (.head _))))))))
      · exact N9 _ (.tail _ (.tail _ (.tail _ (.tail _ (.tail _ (.tail _ (.tail _ (.tail _ (.head _)))))))))
      · exact N9 _ (.tail _ (.tail _ (.tail _ (.tail _ (.tail _ (.tail _ (.tail _ (.tail _ (.tail _ (.head _))))))))))
      · exact N9 _ (.tail _ (.tail _ (.tail _ (.tail _ (.tail _ (.tail _ (.tail _ (.tail _ (.tail _ (.tail _ (.head _)))))))))))
      · exact N9 _ (.tail _ (.tail _ (.tail _ (.tail _ (.tail _ (.tail _ (.tail _ (.tail _ (.tail _ (.tail _ (.tail _ (.head _))))))))))))
      · exact N9 _ (.tail _ (.tail _ (.tail _ (.tail _ (.tail _ (.tail _ (.tail _ (.tail _ (.tail _ (.tail _ (.tail _ (.tail _ (.head _)))))))))))))
      · exact N9 _ (.tail _ (.tail _ (.tail _ (.tail _ (.tail _ (.tail _ (.tail _ (.tail _ (.tail _ (.tail _ (.tail _ (.tail _ (.tail _ (.head _))))))))))))))
      · exact N9 _ (.tail _ (.tail _ (.tail _ (.tail _ (.tail _ (.tail _ (.tail _ (.tail _ (.tail _ (.tail _ (.tail _ (.tail _ (.tail _ (.tail _ (.head _)))))))))))))))
      · exact N9 _ (.tail _ (.tail _ (.tail _ (.tail _ (.tail _ (.tail _ (.tail _ (.tail _ (.tail _ (.tail _ (.tail _ (.tail _ (.tail _ (.tail _ (.tail _ (.head _))))))))))))))))
      · exact N9 _ (.tail _ (.tail _ (.tail _ (.tail _ (.tail _ (.tail _ (.tail _ (.tail _ (.tail _ (.tail _ (.tail _ (.tail _ (.tail _ (.tail _ (.tail _ (.tail _ (.head _)))))))))))))))))
      · exact N9 _ (.tail _ (.tail _ (.tail _ (.tail _ (.tail _ (.tail _ (.tail _ (.tail _ (.tail _ (.tail _ (.tail _ (.tail _ (.tail _ (.tail _ (.tail _ (.tail _ (.tail _ (.head _))))))))))))))))))
      · exact fun q hq => N9 q (.tail _ (.tail _ (.tail _ (.tail _ (.tail _ (.tail _ (.tail _ (.tail _ (.tail _ (.tail _ (.tail _ (.tail _ (.tail _ (.tail _ (.tail _ (.tail _ (.tail _ (.tail _ (List.mem_append_right _ hq)))))))))))))))))))
  case step =>
    rintro i tk9 tk10 m9 nx9 h9 ito hi htk9 zz hoff9 hito F9 N9
    refine exE6 zz fun pvs na np nq tab cobs jj => andE7 jj fun jm ez7 jv jt jtab jc jtk => ?_
    clear jj zz
    subst ez7
    have F10 := fr_reads [(Str.ofString "k", .int (i : Int) tk9), (Str.ofString "answers", .ref al)] F9 (by
      intro q hq
      simp only [List.mem_cons, List.not_mem_nil, or_false] at hq
      rcases hq with rfl | rfl <;> first | rfl | assumption)
    simp only [kstB] at F10
    change Fr g L1 _ _ at F10
    change News g L1 _ _ at N9
    dsimp only at F10 N9 ⊢
    clear F9
    have hi6 : i < ths.length := by rw [hthl]; exact hi
    have eTl := N9 (tl, _) (.tail _ (.tail _ (.tail _ (.tail _ (.head _)))))
    have eLl := N9 (ll, _) (.tail _ (.tail _ (.tail _ (.head _))))
    have ePl := N9 (pl, _) (.tail _ (.tail _ (.head _)))
    have eAl := N9 (al, _) (.tail _ (.head _))
    have htl9 : h9.IsList tl (ths.map Th.ref).toArray := (show LL h9 tl _ from ⟨_, eTl.1⟩).isList
    have hti : (ths.map Th.ref)[i]? = some (.ref ths[i].a) := by rw [List.getElem?_map, List.getElem?_eq_getElem hi6]; rfl
    have hlen62 : (ths.map Th.ref).length < 2 ^ 62 := by rw [List.length_map, hthl]; decide
    refine wpAny_with_toks (n := tk9 + 1) htk9 ?_
    refine wpAny_execs_cons ?_
    k_steps
    unfold Stop
    have hthm : ∀ x ∈ ths, h9.get? x.a = some (thO x) ∧ x.a ≠ L1 ∧ g.get? x.a = none := fun x hx => N9 (x.a, thO x) (.tail _ (.tail _ (.tail _ (.tail _ (.tail _ (.tail _ (.tail _ (.tail _ (.tail _ (.tail _ (.tail _ (.tail _ (.tail _ (.tail _ (.tail _ (.tail _ (.tail _ (.tail _ (.tail _ (List.mem_append_right _ (th_mem hx)))))))))))))))))))))
    have hgd : ∀ j, j < 6 → ths.getD j default ∈ ths := fun j hj => by
      have hj' : j < ths.length := by rw [hthl]; exact hj
      rw [List.getD_eq_getElem?_getD, List.getElem?_eq_getElem hj']
      exact List.getElem_mem hj'
    have hgi : ths.getD i default = ths[i] := by simp [List.getD_eq_getElem?_getD, hi6]
    generalize hP : insP (fun a b => decide ((ths.getD a default).n < (ths.getD b default).n)) i = P at *
    have hPl : P.length = i := by rw [← hP, insP_len]
    have hPa : ∀ j, j < P.length → ∃ x, P[j]? = some x ∧ P.getD j 0 = x ∧ x < i := fun j hj => by
      obtain ⟨x, q1, q2, q3⟩ := insP_at (fun a b => decide ((ths.getD a default).n < (ths.getD b default).n)) i j (hPl ▸ hj)
      rw [hP] at q1 q2
      exact ⟨x, q1, q2, by omega⟩
    have lLl : LL h9 ll (P.map fun j => (ths.getD j default).ref) := ⟨_, eLl.1⟩
    k_dflt (refine' insort_lists B1 F10 X1 T1 ?k1 ?d1 ?u1 ll (P.map fun j => (ths.getD j default).ref) lLl ?len1 eLl.2.2 eLl.2.1 (fun j => (ths.getD (P.getD j 0) default).n) ?hi1 ths[i].a ths[i].n ths[i].t 0 (hthm _ (List.getElem_mem hi6)).1 (ap.tll _ (List.getElem_mem hi6)) ?_)
    case k1 => exact rfl
    case d1 => ktr_room
    case u1 => ktr_units
    case len1 => rw [List.length_map, hPl]; omega
    case hi1 =>
      intro j hj
      rw [List.length_map] at hj
      obtain ⟨x, q1, q2, q3⟩ := hPa j hj
      refine ⟨(ths.getD x default).a, (ths.getD x default).t, 0, by rw [List.getElem?_map, q1]; rfl, ?_, ap.tll _ (hgd x (by omega))⟩
      dsimp only
      rw [q2]
      exact (hthm _ (hgd x (by omega))).1
    intro h11 tk11 l11 k11
    have hP' : insP (fun a b => decide ((ths.getD a default).n < (ths.getD b default).n)) (i + 1) = P.take (bis (fun j => decide (ths[i].n < (ths.getD (P.getD j 0) default).n)) 0 P.length) ++ i :: P.drop (bis (fun j => decide (ths[i].n < (ths.getD (P.getD j 0) default).n)) 0 P.length) := by
      show (have P := insP _ i; have b := bis _ 0 P.length; P.take b ++ i :: P.drop b) = _
      rw [hP]
      dsimp only
      rw [hgi]
    generalize hb : bis (fun j => decide (ths[i].n < (ths.getD (P.getD j 0) default).n)) 0 P.length = bb at *
    have l11' : LL h11 ll ((insP (fun a b => decide ((ths.getD a default).n < (ths.getD b default).n)) (i + 1)).map fun j => (ths.getD j default).ref) := by
      rw [hP', map_ins, hgi]
      rw [List.length_map, hb] at l11
      exact l11
    generalize hPP : insP (fun a b => decide ((ths.getD a default).n < (ths.getD b default).n)) (i + 1) = P' at *
    obtain ⟨n11, e11⟩ := l11'
    have F11 := fr_kx F10 k11 (fun q hq => by rw [List.mem_singleton.mp hq]; exact ⟨eLl.2.2, eLl.2.1⟩)
    have qll := hoff9 (ll, listOf (P.map fun j => (ths.getD j default).ref).toArray nq) (.tail _ (.tail _ (.head _)))
    have qal := hoff9 (al, listOf (List.replicate (2 * i) Value.none).toArray na) (.head _)
    have qpl := hoff9 (pl, listOf pvs.toArray np) (.tail _ (.head _))
    have hodT : ∀ us k, (tabObj tab).data ≠ .seq us k := fun us k e => by unfold tabObj at e; cases e
    have oc12 : L1 + 1 + 1 + 1 + 1 + 1 + 1 + 1 + 1 + 1 + 1 + 1 + 1 ≠ ll ∧ L1 + 1 + 1 + 1 + 1 + 1 + 1 + 1 + 1 + 1 + 1 + 1 + 1 ≠ pl ∧ L1 + 1 + 1 + 1 + 1 + 1 + 1 + 1 + 1 + 1 + 1 + 1 + 1 ≠ al := ⟨off_seqL (N9 (L1 + 1 + 1 + 1 + 1 + 1 + 1 + 1 + 1 + 1 + 1 + 1 + 1, o12) (.tail _ (.tail _ (.tail _ (.tail _ (.tail _ (.tail _ (.head _)))))))).1 eLl.1 hod12, off_seqL (N9 (L1 + 1 + 1 + 1 + 1 + 1 + 1 + 1 + 1 + 1 + 1 + 1 + 1, o12) (.tail _ (.tail _ (.tail _ (.tail _ (.tail _ (.tail _ (.head _)))))))).1 ePl.1 hod12, off_seqL (N9 (L1 + 1 + 1 + 1 + 1 + 1 + 1 + 1 + 1 + 1 + 1 + 1 + 1, o12) (.tail _ (.tail _ (.tail _ (.tail _ (.tail _ (.tail _ (.head _)))))))).1 eAl.1 hod12⟩
    have oc11 : L1 + 1 + 1 + 1 + 1 + 1 + 1 + 1 + 1 + 1 + 1 + 1 ≠ ll ∧ L1 + 1 + 1 + 1 + 1 + 1 + 1 + 1 + 1 + 1 + 1 + 1 ≠ pl ∧ L1 + 1 + 1 + 1 + 1 + 1 + 1 + 1 + 1 + 1 + 1 + 1 ≠ al := ⟨off_seqL (N9 (L1 + 1 + 1 + 1 + 1 + 1 + 1 + 1 + 1 + 1 + 1 + 1, o11) (.tail _ (.tail _ (.tail _ (.tail _ (.tail _ (.tail _ (.tail _ (.head _))))))))).1 eLl.1 hod11, off_seqL (N9 (L1 + 1 + 1 + 1 + 1 + 1 + 1 + 1 + 1 + 1 + 1 + 1, o11) (.tail _ (.tail _ (.tail _ (.tail _ (.tail _ (.tail _ (.tail _ (.head _))))))))).1 ePl.1 hod11, off_seqL (N9 (L1 + 1 + 1 + 1 + 1 + 1 + 1 + 1 + 1 + 1 + 1 + 1, o11) (.tail _ (.tail _ (.tail _ (.tail _ (.tail _ (.tail _ (.tail _ (.head _))))))))).1 eAl.1 hod11⟩
    have oc10 : L1 + 1 + 1 + 1 + 1 + 1 + 1 + 1 + 1 + 1 + 1 ≠ ll ∧ L1 + 1 + 1 + 1 + 1 + 1 + 1 + 1 + 1 + 1 + 1 ≠ pl ∧ L1 + 1 + 1 + 1 + 1 + 1 + 1 + 1 + 1 + 1 + 1 ≠ al := ⟨off_seqL (N9 (L1 + 1 + 1 + 1 + 1 + 1 + 1 + 1 + 1 + 1 + 1, o10) (.tail _ (.tail _ (.tail _ (.tail _ (.tail _ (.tail _ (.tail _ (.tail _ (.head _)))))))))).1 eLl.1 hod10, off_seqL (N9 (L1 + 1 + 1 + 1 + 1 + 1 + 1 + 1 + 1 + 1 + 1, o10) (.tail _ (.tail _ (.tail _ (.tail _ (.tail _ (.tail _ (.tail _ (.tail _ (.head _)))))))))).1 ePl.1 hod10, off_seqL (N9 (L1 + 1 + 1 + 1 + 1 + 1 + 1 + 1 + 1 + 1 + 1, o10) (.tail _ (.tail _ (.tail _ (.tail _ (.tail _ (.tail _ (.tail _ (.tail _ (.head _)))))))))).1 eAl.1 hod10⟩
    have oc9 : L1 + 1 + 1 + 1 + 1 + 1 + 1 + 1 + 1 + 1 ≠ ll ∧ L1 + 1 + 1 + 1 + 1 + 1 + 1 + 1 + 1 + 1 ≠ pl ∧ L1 + 1 + 1 + 1 + 1 + 1 + 1 + 1 + 1 + 1 ≠ al := ⟨off_seqL (N9 (L1 + 1 + 1 + 1 + 1 + 1 + 1 + 1 + 1 + 1, o9) (.tail _ (.tail _ (.tail _ (.tail _ (.tail _ (.tail _ (.tail _ (.tail _ (.tail _ (.head _))))))))))).1 eLl.1 hod9, off_seqL (N9 (L1 + 1 + 1 + 1 + 1 + 1 + 1 + 1 + 1 + 1, o9) (.tail _ (.tail _ (.tail _ (.tail _ (.tail _ (.tail _ (.tail _ (.tail _ (.tail _ (.head _))))))))))).1 ePl.1 hod9, off_seqL (N9 (L1 + 1 + 1 + 1 + 1 + 1 + 1 + 1 + 1 + 1, o9) (.tail _ (.tail _ (.tail _ (.tail _ (.tail _ (.tail _ (.tail _ (.tail _ (.tail _ (.head _))))))))))).1 eAl.1 hod9⟩
    have oc8 : L1 + 1 + 1 + 1 + 1 + 1 + 1 + 1 + 1 ≠ ll ∧ L1 + 1 + 1 + 1 + 1 + 1 + 1 + 1 + 1 ≠ pl ∧ L1 + 1 + 1 + 1 + 1 + 1 + 1 + 1 + 1 ≠ al := ⟨off_seqL (N9 (L1 + 1 + 1 + 1 + 1 + 1 + 1 + 1 + 1, o8) (.tail _ (.tail _ (.tail _ (.tail _ (.tail _ (.tail _ (.tail _ (.tail _ (.tail _ (.tail _ (.head _)))))))))))).1 eLl.1 hod8, off_seqL (N9 (L1 + 1 + 1 + 1 + 1 + 1 + 1 + 1 + 1, o8) (.tail _ (.tail _ (.tail _ (.tail _ (.tail _ (.tail _ (.tail _ (.tail _ (.tail _ (.tail _ (.head _)))))))))))).1 ePl.1 hod8, off_seqL (N9 (L1 + 1 + 1 + 1 + 1 + 1 + 1 + 1 + 1, o8) (.tail _ (.tail _ (.tail _ (.tail _ (.tail _ (.tail _ (.tail _ (.tail _ (.tail _ (.tail _ (.head _)))))))))))).1 eAl.1 hod8⟩
    have oc7 : L1 + 1 + 1 + 1 + 1 + 1 + 1 + 1 ≠ ll ∧ L1 + 1 + 1 + 1 + 1 + 1 + 1 + 1 ≠ pl ∧ L1 + 1 + 1 + 1 + 1 + 1 + 1 + 1 ≠ al := ⟨off_seqL (N9 (L1 + 1 + 1 + 1 + 1 + 1 + 1 + 1, o7) (.tail _ (.tail _ (.tail _ (.tail _ (.tail _ (.tail _ (.tail _ (.tail _ (.tail _ (.tail _ (.tail _ (.head _))))))))))))).1 eLl.1 hod7, off_seqL (N9 (L1 + 1 + 1 + 1 + 1 + 1 + 1 + 1, o7) (.tail _ (.tail _ (.tail _ (.tail _ (.tail _ (.tail _ (.tail _ (.tail _ (.tail _ (.tail _ (.tail _ (.head _))))))))))))).1 ePl.1 hod7, off_seqL (N9 (L1 + 1 + 1 + 1 + 1 + 1 + 1 + 1, o7) (.tail _ (.tail _ (.tail _ (.tail _ (.tail _ (.tail _ (.tail _ (.tail _ (.tail _ (.tail _ (.tail _ (.head _))))))))))))).1 eAl.1 hod7⟩
    have oc6 : L1 + 1 + 1 + 1 + 1 + 1 + 1 ≠ ll ∧ L1 + 1 + 1 + 1 + 1 + 1 + 1 ≠ pl ∧ L1 + 1 + 1 + 1 + 1 + 1 + 1 ≠ al := ⟨off_seqL (N9 (L1 + 1 + 1 + 1 + 1 + 1 + 1, o6) (.tail _ (.tail _ (.tail _ (.tail _ (.tail _ (.tail _ (.tail _ (.tail _ (.tail _ (.tail _ (.tail _ (.tail _ (.head _)))))))))))))).1 eLl.1 hod6, off_seqL (N9 (L1 + 1 + 1 + 1 + 1 + 1 + 1, o6) (.tail _ (.tail _ (.tail _ (.tail _ (.tail _ (.tail _ (.tail _ (.tail _ (.tail _ (.tail _ (.tail _ (.tail _ (.head _)))))))))))))).1 ePl.1 hod6, off_seqL (N9 (L1 + 1 + 1 + 1 + 1 + 1 + 1, o6) (.tail _ (.tail _ (.tail _ (.tail _ (.tail _ (.tail _ (.tail _ (.tail _ (.tail _ (.tail _ (.tail _ (.tail _ (.head _)))))))))))))).1 eAl.1 hod6⟩
    have oc5 : L1 + 1 + 1 + 1 + 1 + 1 ≠ ll ∧ L1 + 1 + 1 + 1 + 1 + 1 ≠ pl ∧ L1 + 1 + 1 + 1 + 1 + 1 ≠ al := ⟨off_seqL (N9 (L1 + 1 + 1 + 1 + 1 + 1, o5) (.tail _ (.tail _ (.tail _ (.tail _ (.tail _ (.tail _ (.tail _ (.tail _ (.tail _ (.tail _ (.tail _ (.tail _ (.tail _ (.head _))))))))))))))).1 eLl.1 hod5, off_seqL (N9 (L1 + 1 + 1 + 1 + 1 + 1, o5) (.tail _ (.tail _ (.tail _ (.tail _ (.tail _ (.tail _ (.tail _ (.tail _ (.tail _ (.tail _ (.tail _ (.tail _ (.tail _ (.head _))))))))))))))).1 ePl.1 hod5, off_seqL (N9 (L1 + 1 + 1 + 1 + 1 + 1, o5) (.tail _ (.tail _ (.tail _ (.tail _ (.tail _ (.tail _ (.tail _ (.tail _ (.tail _ (.tail _ (.tail _ (.tail _ (.tail _ (.head _))))))))))))))).1 eAl.1 hod5⟩
    have oc4 : L1 + 1 + 1 + 1 + 1 ≠ ll ∧ L1 + 1 + 1 + 1 + 1 ≠ pl ∧ L1 + 1 + 1 + 1 + 1 ≠ al := ⟨off_seqL (N9 (L1 + 1 + 1 + 1 + 1, o4) (.tail _ (.tail _ (.tail _ (.tail _ (.tail _ (.tail _ (.tail _ (.tail _ (.tail _ (.tail _ (.tail _ (.tail _ (.tail _ (.tail _ (.head _)))))))))))))))).1 eLl.1 hod4, off_seqL (N9 (L1 + 1 + 1 + 1 + 1, o4) (.tail _ (.tail _ (.tail _ (.tail _ (.tail _ (.tail _ (.tail _ (.tail _ (.tail _ (.tail _ (.tail _ (.tail _ (.tail _ (.tail _ (.head _)))))))))))))))).1 ePl.1 hod4, off_seqL (N9 (L1 + 1 + 1 + 1 + 1, o4) (.tail _ (.tail _ (.tail _ (.tail _ (.tail _ (.tail _ (.tail _ (.tail _ (.tail _ (.tail _ (.tail _ (.tail _ (.tail _ (.tail _ (.head _)))))))))))))))).1 eAl.1 hod4⟩
    have oc3 : L1 + 1 + 1 + 1 ≠ ll ∧ L1 + 1 + 1 + 1 ≠ pl ∧ L1 + 1 + 1 + 1 ≠ al := ⟨off_seqL (N9 (L1 + 1 + 1 + 1, o3) (.tail _ (.tail _ (.tail _ (.tail _ (.tail _ (.tail _ (.tail _ (.tail _ (.tail _ (.tail _ (.tail _ (.tail _ (.tail _ (.tail _ (.tail _ (.head _))))))))))))))))).1 eLl.1 hod3, off_seqL (N9 (L1 + 1 + 1 + 1, o3) (.tail _ (.tail _ (.tail _ (.tail _ (.tail _ (.tail _ (.tail _ (.tail _ (.tail _ (.tail _ (.tail _ (.tail _ (.tail _ (.tail _ (.tail _ (.head _))))))))))))))))).1 ePl.1 hod3, off_seqL (N9 (L1 + 1 + 1 + 1, o3) (.tail _ (.tail _ (.tail _ (.tail _ (.tail _ (.tail _ (.tail _ (.tail _ (.tail _ (.tail _ (.tail _ (.tail _ (.tail _ (.tail _ (.tail _ (.head _))))))))))))))))).1 eAl.1 hod3⟩
    have oc2 : L1 + 1 + 1 ≠ ll ∧ L1 + 1 + 1 ≠ pl ∧ L1 + 1 + 1 ≠ al := ⟨off_seqL (N9 (L1 + 1 + 1, o2) (.tail _ (.tail _ (.tail _ (.tail _ (.tail _ (.tail _ (.tail _ (.tail _ (.tail _ (.tail _ (.tail _ (.tail _ (.tail _ (.tail _ (.tail _ (.tail _ (.head _)))))))))))))))))).1 eLl.1 hod2, off_seqL (N9 (L1 + 1 + 1, o2) (.tail _ (.tail _ (.tail _ (.tail _ (.tail _ (.tail _ (.tail _ (.tail _ (.tail _ (.tail _ (.tail _ (.tail _ (.tail _ (.tail _ (.tail _ (.tail _ (.head _)))))))))))))))))).1 ePl.1 hod2, off_seqL (N9 (L1 + 1 + 1, o2) (.tail _ (.tail _ (.tail _ (.tail _ (.tail _ (.tail _ (.tail _ (.tail _ (.tail _ (.tail _ (.tail _ (.tail _ (.tail _ (.tail _ (.tail _ (.tail _ (.head _)))))))))))))))))).1 eAl.1 hod2⟩
    have oc1 : L1 + 1 ≠ ll ∧ L1 + 1 ≠ pl ∧ L1 + 1 ≠ al := ⟨off_seqL (N9 (L1 + 1, o1) (.tail _ (.tail _ (.tail _ (.tail _ (.tail _ (.tail _ (.tail _ (.tail _ (.tail _ (.tail _ (.tail _ (.tail _ (.tail _ (.tail _ (.tail _ (.tail _ (.tail _ (.head _))))))))))))))))))).1 eLl.1 hod1, off_seqL (N9 (L1 + 1, o1) (.tail _ (.tail _ (.tail _ (.tail _ (.tail _ (.tail _ (.tail _ (.tail _ (.tail _ (.tail _ (.tail _ (.tail _ (.tail _ (.tail _ (.tail _ (.tail _ (.tail _ (.head _))))))))))))))))))).1 ePl.1 hod1, off_seqL (N9 (L1 + 1, o1) (.tail _ (.tail _ (.tail _ (.tail _ (.tail _ (.tail _ (.tail _ (.tail _ (.tail _ (.tail _ (.tail _ (.tail _ (.tail _ (.tail _ (.tail _ (.tail _ (.tail _ (.head _))))))))))))))))))).1 eAl.1 hod1⟩
    have oc277 : 277 ≠ ll ∧ 277 ≠ pl ∧ 277 ≠ al := ⟨off_seqL (N9 (277, tabObj tab) (.tail _ (.tail _ (.tail _ (.tail _ (.tail _ (.tail _ (.tail _ (.tail _ (.tail _ (.tail _ (.tail _ (.tail _ (.tail _ (.tail _ (.tail _ (.tail _ (.tail _ (.tail _ (.head _)))))))))))))))))))).1 eLl.1 hodT, off_seqL (N9 (277, tabObj tab) (.tail _ (.tail _ (.tail _ (.tail _ (.tail _ (.tail _ (.tail _ (.tail _ (.tail _ (.tail _ (.tail _ (.tail _ (.tail _ (.tail _ (.tail _ (.tail _ (.tail _ (.tail _ (.head _)))))))))))))))))))).1 ePl.1 hodT, off_seqL (N9 (277, tabObj tab) (.tail _ (.tail _ (.tail _ (.tail _ (.tail _ (.tail _ (.tail _ (.tail _ (.tail _ (.tail _ (.tail _ (.tail _ (.tail _ (.tail _ (.tail _ (.tail _ (.tail _ (.tail _ (.head _)))))))))))))))))))).1 eAl.1 hodT⟩
    have N11 : News g L1 h11 ((it, ito) :: (al, listOf (List.replicate (2 * i) Value.none).toArray na) :: (pl, listOf pvs.toArray np) :: (ll, listOf (P'.map fun j => (ths.getD j default).ref).toArray n11) :: (tl, listOf (ths.map Th.ref).toArray nt) :: (nl, listOf (ths.map Th.val).toArray nn) :: (L1 + 1 + 1 + 1 + 1 + 1 + 1 + 1 + 1 + 1 + 1 + 1 + 1, o12) :: (L1 + 1 + 1 + 1 + 1 + 1 + 1 + 1 + 1 + 1 + 1 + 1, o11) :: (L1 + 1 + 1 + 1 + 1 + 1 + 1 + 1 + 1 + 1 + 1, o10) :: (L1 + 1 + 1 + 1 + 1 + 1 + 1 + 1 + 1 + 1, o9) :: (L1 + 1 + 1 + 1 + 1 + 1 + 1 + 1 + 1, o8) :: (L1 + 1 + 1 + 1 + 1 + 1 + 1 + 1, o7) :: (L1 + 1 + 1 + 1 + 1 + 1 + 1, o6) :: (L1 + 1 + 1 + 1 + 1 + 1, o5) :: (L1 + 1 + 1 + 1 + 1, o4) :: (L1 + 1 + 1 + 1, o3) :: (L1 + 1 + 1, o2) :: (L1 + 1, o1) :: (277, tabObj tab) :: (cobs ++ ThLed ths)) := fun q hq => by
      revert q
      refine all_cons ?_ (all_cons ?_ (all_cons ?_ (all_cons ?_ (all_cons ?_ (all_cons ?_ (all_cons ?_ (all_cons ?_ (all_cons ?_ (all_cons ?_ (all_cons ?_ (all_cons ?_ (all_cons ?_ (all_cons ?_ (all_cons ?_ (all_cons ?_ (all_cons ?_ (all_cons ?_ (all_cons ?_ ?_))))))))))))))))))
      · exact keepV (N9 _ (.head _)) k11 (Ne.symm qll)
      · exact keepV (N9 _ (.tail _ (.head _))) k11 ap.al_ll
      · exact keepV (N9 _ (.tail _ (.tail _ (.head _)))) k11 ap.pl_ll
      · exact ⟨e11, eLl.2⟩
      · exact keepV (N9 _ (.tail _ (.tail _ (.tail _ (.tail _ (.head _)))))) k11 (Ne.symm ap.ll_tl)
      · exact keepV (N9 _ (.tail _ (.tail _ (.tail _ (.tail _ (.tail _ (.head _))))))) k11 (Ne.symm ap.ll_nl)
      · exact keepV (N9 _ (.tail _ (.tail _ (.tail _ (.tail _ (.tail _ (.tail _ (.head _)))))))) k11 oc12.1
      · exact keepV (N9 _ (.tail _ (.tail _ (.tail _ (.tail _ (.tail _ (.tail _ (.tail _ (.head _))))))))) k11 oc11.1
      · exact keepV (N9 _ (.tail _ (.tail _ (.tail _ (.tail _ (.tail _ (.tail _ (.tail _ (.tail _ (.head _)))))))))) k11 oc10.1
      · exact keepV (N9 _ (.tail _ (.tail _ (.tail _ (.tail _ (.tail _ (.tail _ (.tail _ (.tail _ (.tail _ (.head _))))))))))) k11 oc9.1
      · exact keepV (N9 _ (.tail _ (.tail _ (.tail _ (.tail _ (.tail _ (.tail _ (.tail _ (.tail _ (.tail _ (.tail _ (.head _)))))))))))) k11 oc8.1
      · exact keepV (N9 _ (.tail _ (.tail _ (.tail _ (.tail _ (.tail _ (.tail _ (.tail _ (.tail _ (.tail _ (.tail _ (.tail _ (.head _))))))))))))) k11 oc7.1
      · exact keepV (N9 _ (.tail _ (.tail _ (.tail _ (.tail _ (.tail _ (.tail _ (.tail _ (.tail _ (.tail _ (.tail _ (.tail _ (.tail _ (.head _)))))))))))))) k11 oc6.1
      · exact keepV (N9 _ (.tail _ (.tail _ (.tail _ (.tail _ (.tail _ (.tail _ (.tail _ (.tail _ (.tail _ (.tail _ (.tail _ (.tail _ (.tail _ (.head _))))))))))))))) k11 oc5.1
      · exact keepV (N9 _ (.tail _ (.tail _ (.tail _ (.tail _ (.tail _ (.tail _ (.tail _ (.tail _ (.tail _ (.tail _ (.tail _ (.tail _ (.tail _ (.tail _ (.head _)))))))))))))))) k11 oc4.1
      · exact keepV (N9 _ (.tail _ (.tail _ (.tail _ (.tail _ (.tail _ (.tail _ (.tail _ (.tail _ (.tail _ (.tail _ (.tail _ (.tail _ (.tail _ (.tail _ (.tail _ (.head _))))))))))))))))) k11 oc3.1
      · exact keepV (N9 _ (.tail _ (.tail _ (.tail _ (.tail _ (.tail _ (.tail _ (.tail _ (.tail _ (.tail _ (.tail _ (.tail _ (.tail _ (.tail _ (.tail _ (.tail _ (.tail _ (.head _)))))))))))))))))) k11 oc2.1
      · exact keepV (N9 _ (.tail _ (.tail _ (.tail _ (.tail _ (.tail _ (.tail _ (.tail _ (.tail _ (.tail _ (.tail _ (.tail _ (.tail _ (.tail _ (.tail _ (.tail _ (.tail _ (.tail _ (.head _))))))))))))))))))) k11 oc1.1
      · exact keepV (N9 _ (.tail _ (.tail _ (.tail _ (.tail _ (.tail _ (.tail _ (.tail _ (.tail _ (.tail _ (.tail _ (.tail _ (.tail _ (.tail _ (.tail _ (.tail _ (.tail _ (.tail _ (.tail _ (.head _)))))))))))))))))))) k11 oc277.1
      · intro q hq
        rcases List.mem_append.mp hq with hq | hq
        · exact keepV (N9 q (.tail _ (.tail _ (.tail _ (.tail _ (.tail _ (.tail _ (.tail _ (.tail _ (.tail _ (.tail _ (.tail _ (.tail _ (.tail _ (.tail _ (.tail _ (.tail _ (.tail _ (.tail _ (.tail _ (List.mem_append_left _ hq))))))))))))))))))))) k11 (jc q hq).1
        · obtain ⟨x, hx, rfl⟩ := List.mem_map.mp hq
          exact keepV (hthm x hx) k11 (ap.tll x hx)
    clear F10 N9 hthm
    dsimp only at F11 N11 ⊢
    k_steps
    unfold Stop
    have eAl2 := N11 (al, _) (.tail _ (.head _))
    refine append_LL ⟨_, eAl2.1⟩ (by rw [List.length_replicate]; omega) fun h12 l12 k12 => ?_
    rw [rep_snoc] at l12
    obtain ⟨n12, e12⟩ := l12
    have F12 := fr_kx F11 k12 (fun q hq => by rw [List.mem_singleton.mp hq]; exact ⟨eAl2.2.2, eAl2.2.1⟩)
    have N12 : News g L1 h12 ((it, ito) :: (al, listOf (List.replicate (2 * i + 1) Value.none).toArray n12) :: (pl, listOf pvs.toArray np) :: (ll, listOf (P'.map fun j => (ths.getD j default).ref).toArray n11) :: (tl, listOf (ths.map Th.ref).toArray nt) :: (nl, listOf (ths.map Th.val).toArray nn) :: (L1 + 1 + 1 + 1 + 1 + 1 + 1 + 1 + 1 + 1 + 1 + 1 + 1, o12) :: (L1 + 1 + 1 + 1 + 1 + 1 + 1 + 1 + 1 + 1 + 1 + 1, o11) :: (L1 + 1 + 1 + 1 + 1 + 1 + 1 + 1 + 1 + 1 + 1, o10) :: (L1 + 1 + 1 + 1 + 1 + 1 + 1 + 1 + 1 + 1, o9) :: (L1 + 1 + 1 + 1 + 1 + 1 + 1 + 1 + 1, o8) :: (L1 + 1 + 1 + 1 + 1 + 1 + 1 + 1, o7) :: (L1 + 1 + 1 + 1 + 1 + 1 + 1, o6) :: (L1 + 1 + 1 + 1 + 1 + 1, o5) :: (L1 + 1 + 1 + 1 + 1, o4) :: (L1 + 1 + 1 + 1, o3) :: (L1 + 1 + 1, o2) :: (L1 + 1, o1) :: (277, tabObj tab) :: (cobs ++ ThLed ths)) := fun q hq => by
      revert q
      refine all_cons ?_ (all_cons ?_ (all_cons ?_ (all_cons ?_ (all_cons ?_ (all_cons ?_ (all_cons ?_ (all_cons ?_ (all_cons ?_ (all_cons ?_ (all_cons ?_ (all_cons ?_ (all_cons ?_ (all_cons ?_ (all_cons ?_ (all_cons ?_ (all_cons ?_ (all_cons ?_ (all_cons ?_ ?_))))))))))))))))))
      · exact keepV (N11 _ (.head _)) k12 (Ne.symm qal)
      · exact ⟨e12, eAl2.2⟩
      · exact keepV (N11 _ (.tail _ (.tail _ (.head _)))) k12 (Ne.symm ap.al_pl)
      · exact keepV (N11 _ (.tail _ (.tail _ (.tail _ (.head _))))) k12 (Ne.symm ap.al_ll)
      · exact keepV (N11 _ (.tail _ (.tail _ (.tail _ (.tail _ (.head _)))))) k12 (Ne.symm ap.al_tl)
      · exact keepV (N11 _ (.tail _ (.tail _ (.tail _ (.tail _ (.tail _ (.head _))))))) k12 (Ne.symm ap.al_nl)
      · exact keepV (N11 _ (.tail _ (.tail _ (.tail _ (.tail _ (.tail _ (.tail _ (.head _)))))))) k12 oc12.2.2
      · exact keepV (N11 _ (.tail _ (.tail _ (.tail _ (.tail _ (.tail _ (.tail _ (.tail _ (.head _))))))))) k12 oc11.2.2
      · exact keepV (N11 _ (.tail _ (.tail _ (.tail _ (.tail _ (.tail _ (.tail _ (.tail _ (.tail _ (.head _)))))))))) k12 oc10.2.2
      · exact keepV (N11 _ (.tail _ (.tail _ (.tail _ (.tail _ (.tail _ (.tail _ (.tail _ (.tail _ (.tail _ (.head _))))))))))) k12 oc9.2.2
      · exact keepV (N11 _ (.tail _ (.tail _ (.tail _ (.tail _ (.tail _ (.tail _ (.tail _ (.tail _ (.tail _ (.tail _ (.head _)))))))))))) k12 oc8.2.2
      · exact keepV (N11 _ (.tail _ (.tail _ (.tail _ (.tail _ (.tail _ (.tail _ (.tail _ (.tail _ (.tail _ (.tail _ (.tail _ (.head _))))))))))))) k12 oc7.2.2
      · exact keepV (N11 _ (.tail _ (.tail _ (.tail _ (.tail _ (.tail _ (.tail _ (.tail _ (.tail _ (.tail _ (.tail _ (.tail _ (.tail _ (.head _)))))))))))))) k12 oc6.2.2
      · exact keepV (N11 _ (.tail _ (.tail _ (.tail _ (.tail _ (.tail _ (.tail _ (.tail _ (.tail _ (.tail _ (.tail _ (.tail _ (.tail _ (.tail _ (.head _))))))))))))))) k12 oc5.2.2
      · exact keepV (N11 _ (.tail _ (.tail _ (.tail _ (.tail _ (.tail _ (.tail _ (.tail _ (.tail _ (.tail _ (.tail _ (.tail _ (.tail _ (.tail _ (.tail _ (.head _)))))))))))))))) k12 oc4.2.2
      · exact keepV (N11 _ (.tail _ (.tail _ (.tail _ (.tail _ (.tail _ (.tail _ (.tail _ (.tail _ (.tail _ (.tail _ (.tail _ (.tail _ (.tail _ (.tail _ (.tail _ (.head _))))))))))))))))) k12 oc3.2.2
      · exact keepV (N11 _ (.tail _ (.tail _ (.tail _ (.tail _ (.tail _ (.tail _ (.tail _ (.tail _ (.tail _ (.tail _ (.tail _ (.tail _ (.tail _ (.tail _ (.tail _ (.tail _ (.head _)))))))))))))))))) k12 oc2.2.2
      · exact keepV (N11 _ (.tail _ (.tail _ (.tail _ (.tail _ (.tail _ (.tail _ (.tail _ (.tail _ (.tail _ (.tail _ (.tail _ (.tail _ (.tail _ (.tail _ (.tail _ (.tail _ (.tail _ (.head _))))))))))))))))))) k12 oc1.2.2
      · exact keepV (N11 _ (.tail _ (.tail _ (.tail _ (.tail _ (.tail _ (.tail _ (.tail _ (.tail _ (.tail _ (.tail _ (.tail _ (.tail _ (.tail _ (.tail _ (.tail _ (.tail _ (.tail _ (.tail _ (.head _)))))))))))))))))))) k12 oc277.2.2
      · intro q hq
        rcases List.mem_append.mp hq with hq | hq
        · exact keepV (N11 q (.tail _ (.tail _ (.tail _ (.tail _ (.tail _ (.tail _ (.tail _ (.tail _ (.tail _ (.tail _ (.tail _ (.tail _ (.tail _ (.tail _ (.tail _ (.tail _ (.tail _ (.tail _ (.tail _ (List.mem_append_left _ hq))))))))))))))))))))) k12 (jc q hq).2.2
        · obtain ⟨x, hx, rfl⟩ := List.mem_map.mp hq
          exact keepV (N11 (x.a, thO x) (.tail _ (.tail _ (.tail _ (.tail _ (.tail _ (.tail _ (.tail _ (.tail _ (.tail _ (.tail _ (.tail _ (.tail _ (.tail _ (.tail _ (.tail _ (.tail _ (.tail _ (.tail _ (.tail _ (List.mem_append_right _ (th_mem hx)))))))))))))))))))))) k12 (ap.tal x hx)
    clear F11 N11
    dsimp only at F12 N12 ⊢
    k_steps
    unfold Stop
    refine wpAny_execs_cons ?_
    k_steps
    unfold Stop
    have q277 := hoff9 (277, tabObj tab) (.tail _ (.tail _ (.tail _ (.tail _ (.tail _ (.tail _ (.tail _ (.tail _ (.tail _ (.tail _ (.tail _ (.tail _ (.tail _ (.tail _ (.tail _ (.tail _ (.tail _ (.head _))))))))))))))))))
    have w277t : tl ≠ 277 := Ne.symm (off_seqL (N12 (277, tabObj tab) (.tail _ (.tail _ (.tail _ (.tail _ (.tail _ (.tail _ (.tail _ (.tail _ (.tail _ (.tail _ (.tail _ (.tail _ (.tail _ (.tail _ (.tail _ (.tail _ (.tail _ (.tail _ (.head _)))))))))))))))))))).1 (N12 (tl, _) (.tail _ (.tail _ (.tail _ (.tail _ (.head _)))))).1 hodT)
    have w277n : nl ≠ 277 := Ne.symm (off_seqL (N12 (277, tabObj tab) (.tail _ (.tail _ (.tail _ (.tail _ (.tail _ (.tail _ (.tail _ (.tail _ (.tail _ (.tail _ (.tail _ (.tail _ (.tail _ (.tail _ (.tail _ (.tail _ (.tail _ (.tail _ (.head _)))))))))))))))))))).1 (N12 (nl, _) (.tail _ (.tail _ (.tail _ (.tail _ (.tail _ (.head _))))))).1 hodT)
    have w277h0 : ∀ x ∈ ths, x.a ≠ 277 := fun x hx => Ne.symm (off_seqL (N12 (277, tabObj tab) (.tail _ (.tail _ (.tail _ (.tail _ (.tail _ (.tail _ (.tail _ (.tail _ (.tail _ (.tail _ (.tail _ (.tail _ (.tail _ (.tail _ (.tail _ (.tail _ (.tail _ (.tail _ (.head _)))))))))))))))))))).1 (N12 (x.a, thO x) (.tail _ (.tail _ (.tail _ (.tail _ (.tail _ (.tail _ (.tail _ (.tail _ (.tail _ (.tail _ (.tail _ (.tail _ (.tail _ (.tail _ (.tail _ (.tail _ (.tail _ (.tail _ (.tail _ (List.mem_append_right _ (th_mem hx)))))))))))))))))))))).1 hodT)
    have hcoff : ∀ q ∈ cobs, q.1 ≠ it := fun q hq => hoff9 q (.tail _ (.tail _ (.tail _ (.tail _ (.tail _ (.tail _ (.tail _ (.tail _ (.tail _ (.tail _ (.tail _ (.tail _ (.tail _ (.tail _ (.tail _ (.tail _ (.tail _ (.tail _ (List.mem_append_left _ hq)))))))))))))))))))
    have htoff : ∀ x ∈ ths, x.a ≠ it := fun x hx => hoff9 (x.a, thO x) (.tail _ (.tail _ (.tail _ (.tail _ (.tail _ (.tail _ (.tail _ (.tail _ (.tail _ (.tail _ (.tail _ (.tail _ (.tail _ (.tail _ (.tail _ (.tail _ (.tail _ (.tail _ (List.mem_append_right _ (th_mem hx))))))))))))))))))))
    refine cut_at F12 (fun v h' tk' news' => ∃ f fo tab' cobs', v = .ref f ∧ FnAt f h' ∧ f ≠ pl ∧ (∀ j : Nat, j < 6 → ∀ tj, KeySpec w p loose mean mg mb h' (.ref f) (.int (j : Int) tj) (fun t => .int (ths.getD j default).n t)) ∧
      TabSt tab' cobs' ∧ (∀ q ∈ cobs', q.1 ≠ ll ∧ q.1 ≠ pl ∧ q.1 ≠ al ∧ q.1 ≠ it) ∧ news' = (f, fo) :: (it, ito) :: (al, listOf (List.replicate (2 * i + 1) Value.none).toArray n12) :: (pl, listOf pvs.toArray np) :: (ll, listOf (P'.map fun j => (ths.getD j default).ref).toArray n11) :: (tl, listOf (ths.map Th.ref).toArray nt) :: (nl, listOf (ths.map Th.val).toArray nn) :: (L1 + 1 + 1 + 1 + 1 + 1 + 1 + 1 + 1 + 1 + 1 + 1 + 1, o12) :: (L1 + 1 + 1 + 1 + 1 + 1 + 1 + 1 + 1 + 1 + 1 + 1, o11) :: (L1 + 1 + 1 + 1 + 1 + 1 + 1 + 1 + 1 + 1 + 1, o10) :: (L1 + 1 + 1 + 1 + 1 + 1 + 1 + 1 + 1 + 1, o9) :: (L1 + 1 + 1 + 1 + 1 + 1 + 1 + 1 + 1, o8) :: (L1 + 1 + 1 + 1 + 1 + 1 + 1 + 1, o7) :: (L1 + 1 + 1 + 1 + 1 + 1 + 1, o6) :: (L1 + 1 + 1 + 1 + 1 + 1, o5) :: (L1 + 1 + 1 + 1 + 1, o4) :: (L1 + 1 + 1 + 1, o3) :: (L1 + 1 + 1, o2) :: (L1 + 1, o1) :: (277, tabObj tab') :: (cobs' ++ ThLed ths)) ?cut1 ?aft1
    case cut1 =>
      k_dflt (refine' kla_eval ?d0 ?_)
      case d0 => exact rfl
      rcases jtab with ⟨rfl, rfl⟩ | ⟨c0, oc0, vs0, t0, rfl, rfl, hd0, hv0⟩
      · have w277h : ∀ p ∈ [] ++ ThLed ths, p.1 ≠ 277 := fun p hp => by
          obtain ⟨x, hx, rfl⟩ := List.mem_map.mp hp
          exact w277h0 x hx
        k_dflt (refine' kla_nest F12 N12 T1 hCH ?cd (UpdF.tail (Ne.symm q277) (UpdF.tail (Ne.symm oc277.2.2) (UpdF.tail (Ne.symm oc277.2.1) (UpdF.tail (Ne.symm oc277.1) (UpdF.tail w277t (UpdF.tail w277n (UpdF.tail (by k_ne) (UpdF.tail (by k_ne) (UpdF.tail (by k_ne) (UpdF.tail (by k_ne) (UpdF.tail (by k_ne) (UpdF.tail (by k_ne) (UpdF.tail (by k_ne) (UpdF.tail (by k_ne) (UpdF.tail (by k_ne) (UpdF.tail (by k_ne) (UpdF.tail (by k_ne) (UpdF.tail (by k_ne) (UpdF.head w277h))))))))))))))))))) ?tt ?nn ?cl ?_)
        case cd => exact rfl
        case tt => exact True.intro
        case nn => rfl
        case cl => rfl
        intro f13 c13 oc13 vs13 t13 ctv13 h13 tk13 F13 N13 hoc13 hvs13 lt13 lt13'
        have lt13a : ∀ q ∈ (it, ito) :: (al, listOf (List.replicate (2 * i + 1) Value.none).toArray n12) :: (pl, listOf pvs.toArray np) :: (ll, listOf (P'.map fun j => (ths.getD j default).ref).toArray n11) :: (tl, listOf (ths.map Th.ref).toArray nt) :: (nl, listOf (ths.map Th.val).toArray nn) :: (L1 + 1 + 1 + 1 + 1 + 1 + 1 + 1 + 1 + 1 + 1 + 1 + 1, o12) :: (L1 + 1 + 1 + 1 + 1 + 1 + 1 + 1 + 1 + 1 + 1 + 1, o11) :: (L1 + 1 + 1 + 1 + 1 + 1 + 1 + 1 + 1 + 1 + 1, o10) :: (L1 + 1 + 1 + 1 + 1 + 1 + 1 + 1 + 1 + 1, o9) :: (L1 + 1 + 1 + 1 + 1 + 1 + 1 + 1 + 1, o8) :: (L1 + 1 + 1 + 1 + 1 + 1 + 1 + 1, o7) :: (L1 + 1 + 1 + 1 + 1 + 1 + 1, o6) :: (L1 + 1 + 1 + 1 + 1 + 1, o5) :: (L1 + 1 + 1 + 1 + 1, o4) :: (L1 + 1 + 1 + 1, o3) :: (L1 + 1 + 1, o2) :: (L1 + 1, o1) :: (277, tabObj #[]) :: ([] ++ ThLed ths), q.1 ≠ c13 := fun q hq => Nat.ne_of_lt (lt13 q hq)
        obtain ⟨fo, hfo1, hfo2⟩ : ∃ fo, h13.get? f13 = some fo ∧ FnAt f13 h13 := ⟨_, (N13 (f13, _) (.head _)).1, _, _, _, _, (N13 (f13, _) (.head _)).1⟩
        have hks : ∀ j : Nat, j < 6 → ∀ tj, KeySpec w p loose mean mg mb h13 (.ref f13) (.int (j : Int) tj) (fun t => .int (ths.getD j default).n t) := (fun j hj tj => by
          intro dp un gd cn cs a ccd cl outer A₀ base h₀ L m s Q E B F X T hk hd1 hu kH hret
          obtain ⟨tn, hvn⟩ : ∃ tn, (ths.map Th.val)[j]? = some (.int (ths.getD j default).n tn) := by
            have hj' : j < ths.length := by rw [hthl]; exact hj
            refine ⟨ths[j].t, ?_⟩
            rw [List.getElem?_map, List.getElem?_eq_getElem hj']
            simp [List.getD_eq_getElem?_getD, hj']
          have hnlk : LL s.heap nl (ths.map Th.val) := LL.kp ⟨_, (N13 (nl, _) (.tail _ (.tail _ (.tail _ (.tail _ (.tail _ (.tail _ (.tail _ (.head _))))))))).1⟩ kH
          have hck := kH _ _ (N13 (L1 + 1 + 1 + 1 + 1 + 1 + 1 + 1 + 1 + 1 + 1 + 1 + 1, o12) (.tail _ (.tail _ (.tail _ (.tail _ (.tail _ (.tail _ (.tail _ (.tail _ (.head _)))))))))).1
          refine wpAny_call ?_
          k_dflt (refine' enterLam (kH _ _ (N13 (f13, _) (.head _)).1) ⟨c13, oc13, vs13, t13, rfl, kH _ _ (N13 (c13, oc13) (.tail _ (.head _))).1, hoc13, hvs13⟩ ?room (T.nolimit.keeps F.keep) ?bind ?loc ?run ?e1 ?e2 ?e3 ?e4)
          case bind => exact rfl
          case loc => exact locs rfl
          case e1 => rfl
          case e2 => rfl
          case e3 => rfl
          case e4 => decide
          case room => ktr_room
          case run =>
            intro L' h₁ hns hk₁
            refine Subscript_ ?_
            k_dflt (refine' wpAny_Name (wpAny_loadName_free ?x1 ?x2 ?x3 ⟨o12, hk₁ _ _ hck, d12⟩ ?x4) ?x5)
            case x1 => rfl
            case x2 => rfl
            case x3 => rfl
            case x5 => decide
            case x4 =>
              k_dflt (refine' wpAny_Name (wpAny_loadName_local ?y1 ?y2 hns ?y3 ?y4) ?y5)
              case y1 => rfl
              case y2 => rfl
              case y3 => rfl
              case y5 => decide
              case y4 =>
                with_unfolding_all refine' my_item (hnlk.kp hk₁).isList hvn ?z1 ?z2 ?z3 ?z4
                case z1 => rfl
                case z2 => rw [List.length_map, hthl]; decide
                case z4 => with_unfolding_all rfl
                case z3 => exact hret _ _ _ hk₁)
        have hf2 := (N13 (f13, _) (.head _)).2
        refine CutEnd.intro F13 (news' := (f13, fo) :: (it, ito) :: (al, listOf (List.replicate (2 * i + 1) Value.none).toArray n12) :: (pl, listOf pvs.toArray np) :: (ll, listOf (P'.map fun j => (ths.getD j default).ref).toArray n11) :: (tl, listOf (ths.map Th.ref).toArray nt) :: (nl, listOf (ths.map Th.val).toArray nn) :: (L1 + 1 + 1 + 1 + 1 + 1 + 1 + 1 + 1 + 1 + 1 + 1 + 1, o12) :: (L1 + 1 + 1 + 1 + 1 + 1 + 1 + 1 + 1 + 1 + 1 + 1, o11) :: (L1 + 1 + 1 + 1 + 1 + 1 + 1 + 1 + 1 + 1 + 1, o10) :: (L1 + 1 + 1 + 1 + 1 + 1 + 1 + 1 + 1 + 1, o9) :: (L1 + 1 + 1 + 1 + 1 + 1 + 1 + 1 + 1, o8) :: (L1 + 1 + 1 + 1 + 1 + 1 + 1 + 1, o7) :: (L1 + 1 + 1 + 1 + 1 + 1 + 1, o6) :: (L1 + 1 + 1 + 1 + 1 + 1, o5) :: (L1 + 1 + 1 + 1 + 1, o4) :: (L1 + 1 + 1 + 1, o3) :: (L1 + 1 + 1, o2) :: (L1 + 1, o1) :: (277, tabObj #[rawInt 187, rawInt 51, .ref c13]) :: ([(c13, oc13)] ++ ThLed ths)) (fun q hq => ?_) ⟨f13, fo, #[rawInt 187, rawInt 51, .ref c13], [(c13, oc13)], rfl, hfo2, Ne.symm (Nat.ne_of_lt (Nat.lt_trans (lt13 (pl, _) (.tail _ (.tail _ (.head _)))) lt13')), hks, .inr ⟨c13, oc13, vs13, t13, rfl, rfl, hoc13, hvs13⟩, fun q hq => ?_, rfl⟩
        · rcases List.mem_cons.mp hq with rfl | hq
          · exact ⟨hfo1, hf2⟩
          · rcases List.mem_append.mp (show q ∈ [(it, ito), (al, listOf (List.replicate (2 * i + 1) Value.none).toArray n12), (pl, listOf pvs.toArray np), (ll, listOf (P'.map fun j => (ths.getD j default).ref).toArray n11), (tl, listOf (ths.map Th.ref).toArray nt), (nl, listOf (ths.map Th.val).toArray nn), (L1 + 1 + 1 + 1 + 1 + 1 + 1 + 1 + 1 + 1 + 1 + 1 + 1, o12), (L1 + 1 + 1 + 1 + 1 + 1 + 1 + 1 + 1 + 1 + 1 + 1, o11), (L1 + 1 + 1 + 1 + 1 + 1 + 1 + 1 + 1 + 1 + 1, o10), (L1 + 1 + 1 + 1 + 1 + 1 + 1 + 1 + 1 + 1, o9), (L1 + 1 + 1 + 1 + 1 + 1 + 1 + 1 + 1, o8), (L1 + 1 + 1 + 1 + 1 + 1 + 1 + 1, o7), (L1 + 1 + 1 + 1 + 1 + 1 + 1, o6), (L1 + 1 + 1 + 1 + 1 + 1, o5), (L1 + 1 + 1 + 1 + 1, o4), (L1 + 1 + 1 + 1, o3), (L1 + 1 + 1, o2), (L1 + 1, o1), (277, tabObj #[rawInt 187, rawInt 51, .ref c13])] ++ ((c13, oc13) :: ThLed ths) from hq) with hq | hq
            · exact N13 q (.tail _ (.tail _ (List.mem_append_left (ThLed ths) hq)))
            · rcases List.mem_cons.mp hq with rfl | hq
              · exact N13 _ (.tail _ (.head _))
              · exact N13 q (.tail _ (.tail _ (List.mem_append_right [(it, ito), (al, listOf (List.replicate (2 * i + 1) Value.none).toArray n12), (pl, listOf pvs.toArray np), (ll, listOf (P'.map fun j => (ths.getD j default).ref).toArray n11), (tl, listOf (ths.map Th.ref).toArray nt), (nl, listOf (ths.map Th.val).toArray nn), (L1 + 1 + 1 + 1 + 1 + 1 + 1 + 1 + 1 + 1 + 1 + 1 + 1, o12), (L1 + 1 + 1 + 1 + 1 + 1 + 1 + 1 + 1 + 1 + 1 + 1, o11), (L1 + 1 + 1 + 1 + 1 + 1 + 1 + 1 + 1 + 1 + 1, o10), (L1 + 1 + 1 + 1 + 1 + 1 + 1 + 1 + 1 + 1, o9), (L1 + 1 + 1 + 1 + 1 + 1 + 1 + 1 + 1, o8), (L1 + 1 + 1 + 1 + 1 + 1 + 1 + 1, o7), (L1 + 1 + 1 + 1 + 1 + 1 + 1, o6), (L1 + 1 + 1 + 1 + 1 + 1, o5), (L1 + 1 + 1 + 1 + 1, o4), (L1 + 1 + 1 + 1, o3), (L1 + 1 + 1, o2), (L1 + 1, o1), (277, tabObj #[rawInt 187, rawInt 51, .ref c13])] hq)))
        · rw [List.mem_singleton.mp hq]
          exact ⟨Ne.symm (lt13a (ll, _) (.tail _ (.tail _ (.tail _ (.head _))))), Ne.symm (lt13a (pl, _) (.tail _ (.tail _ (.head _)))), Ne.symm (lt13a (al, _) (.tail _ (.head _))), Ne.symm (lt13a (it, _) (.head _))⟩
      · k_dflt (refine' kla_hit (c' := c0) F12 N12 T1 hCH ?cd (.tail _ (.tail _ (.tail _ (.tail _ (.tail _ (.tail _ (.tail _ (.tail _ (.tail _ (.tail _ (.tail _ (.tail _ (.tail _ (.tail _ (.tail _ (.tail _ (.tail _ (.tail _ (.head _))))))))))))))))))) ?tt ?nn ?cl ?_)
        case cd => exact rfl
        case tt => kn_triples
        case nn => kn_hit
        case cl => rfl
        intro f13 ctv13 h13 tk13 F13 N13 lt13
        obtain ⟨fo, hfo1, hfo2⟩ : ∃ fo, h13.get? f13 = some fo ∧ FnAt f13 h13 := ⟨_, (N13 (f13, _) (.head _)).1, _, _, _, _, (N13 (f13, _) (.head _)).1⟩
        have hks : ∀ j : Nat, j < 6 → ∀ tj, KeySpec w p loose mean mg mb h13 (.ref f13) (.int (j : Int) tj) (fun t => .int (ths.getD j default).n t) := (fun j hj tj => by
          intro dp un gd cn cs a ccd cl outer A₀ base h₀ L m s Q E B F X T hk hd1 hu kH hret
          obtain ⟨tn, hvn⟩ : ∃ tn, (ths.map Th.val)[j]? = some (.int (ths.getD j default).n tn) := by
            have hj' : j < ths.length := by rw [hthl]; exact hj
            refine ⟨ths[j].t, ?_⟩
            rw [List.getElem?_map, List.getElem?_eq_getElem hj']
            simp [List.getD_eq_getElem?_getD, hj']
          have hnlk : LL s.heap nl (ths.map Th.val) := LL.kp ⟨_, (N13 (nl, _) (.tail _ (.tail _ (.tail _ (.tail _ (.tail _ (.tail _ (.head _)))))))).1⟩ kH
          have hck := kH _ _ (N13 (L1 + 1 + 1 + 1 + 1 + 1 + 1 + 1 + 1 + 1 + 1 + 1 + 1, o12) (.tail _ (.tail _ (.tail _ (.tail _ (.tail _ (.tail _ (.tail _ (.head _))))))))).1
          refine wpAny_call ?_
          k_dflt (refine' enterLam (kH _ _ (N13 (f13, _) (.head _)).1) ⟨c0, oc0, vs0, t0, rfl, kH _ _ (N13 (c0, oc0) (.tail _ (.tail _ (.tail _ (.tail _ (.tail _ (.tail _ (.tail _ (.tail _ (.tail _ (.tail _ (.tail _ (.tail _ (.tail _ (.tail _ (.tail _ (.tail _ (.tail _ (.tail _ (.tail _ (.tail _ (.head _)))))))))))))))))))))).1, hd0, hv0⟩ ?room (T.nolimit.keeps F.keep) ?bind ?loc ?run ?e1 ?e2 ?e3 ?e4)
          case bind => exact rfl
          case loc => exact locs rfl
          case e1 => rfl
          case e2 => rfl
          case e3 => rfl
          case e4 => decide
          case room => ktr_room
          case run =>
            intro L' h₁ hns hk₁
            refine Subscript_ ?_
            k_dflt (refine' wpAny_Name (wpAny_loadName_free ?x1 ?x2 ?x3 ⟨o12, hk₁ _ _ hck, d12⟩ ?x4) ?x5)
            case x1 => rfl
            case x2 => rfl
            case x3 => rfl
            case x5 => decide
            case x4 =>
              k_dflt (refine' wpAny_Name (wpAny_loadName_local ?y1 ?y2 hns ?y3 ?y4) ?y5)
              case y1 => rfl
              case y2 => rfl
              case y3 => rfl
              case y5 => decide
              case y4 =>
                with_unfolding_all refine' my_item (hnlk.kp hk₁).isList hvn ?z1 ?z2 ?z3 ?z4
                case z1 => rfl
                case z2 => rw [List.length_map, hthl]; decide
                case z4 => with_unfolding_all rfl
                case z3 => exact hret _ _ _ hk₁)
        have hf2 := (N13 (f13, _) (.head _)).2
        refine CutEnd.intro F13 (news' := (f13, fo) :: (it, ito) :: (al, listOf (List.replicate (2 * i + 1) Value.none).toArray n12) :: (pl, listOf pvs.toArray np) :: (ll, listOf (P'.map fun j => (ths.getD j default).ref).toArray n11) :: (tl, listOf (ths.map Th.ref).toArray nt) :: (nl, listOf (ths.map Th.val).toArray nn) :: (L1 + 1 + 1 + 1 + 1 + 1 + 1 + 1 + 1 + 1 + 1 + 1 + 1, o12) :: (L1 + 1 + 1 + 1 + 1 + 1 + 1 + 1 + 1 + 1 + 1 + 1, o11) :: (L1 + 1 + 1 + 1 + 1 + 1 + 1 + 1 + 1 + 1 + 1, o10) :: (L1 + 1 + 1 + 1 + 1 + 1 + 1 + 1 + 1 + 1, o9) :: (L1 + 1 + 1 + 1 + 1 + 1 + 1 + 1 + 1, o8) :: (L1 + 1 + 1 + 1 + 1 + 1 + 1 + 1, o7) :: (L1 + 1 + 1 + 1 + 1 + 1 + 1, o6) :: (L1 + 1 + 1 + 1 + 1 + 1, o5) :: (L1 + 1 + 1 + 1 + 1, o4) :: (L1 + 1 + 1 + 1, o3) :: (L1 + 1 + 1, o2) :: (L1 + 1, o1) :: (277, tabObj #[rawInt 187, rawInt 51, .ref c0]) :: ([(c0, oc0)] ++ ThLed ths)) (fun q hq => ?_) ⟨f13, fo, #[rawInt 187, rawInt 51, .ref c0], [(c0, oc0)], rfl, hfo2, Ne.symm (Nat.ne_of_lt (lt13 (pl, _) (.tail _ (.tail _ (.head _))))), hks, .inr ⟨c0, oc0, vs0, t0, rfl, rfl, hd0, hv0⟩, fun q hq => ?_, rfl⟩
        · rcases List.mem_cons.mp hq with rfl | hq
          · exact ⟨hfo1, hf2⟩
          · exact N13 q (.tail _ hq)
        · have := jc q hq
          exact ⟨this.1, this.2.1, this.2.2, hcoff q hq⟩
    case aft1 =>
      rintro v14 h14 tk14 nw14 F14 N14 zz
      refine exE4 zz fun f fo tab2 cobs2 jj => andE7 jj fun ez4 hfn hfpl hks htab2 hcob2 ez10 => ?_
      clear jj zz
      subst ez4
      subst ez10
      dsimp only at F14 N14 ⊢
      clear F12 N12
      k_steps
      unfold Stop
      have ePl2 := N14 (pl, _) (.tail _ (.tail _ (.tail _ (.head _))))
      have lPl : LL h14 pl pvs := ⟨_, ePl2.1⟩
      have hpvl : pvs.length = P.length := jv.1
      k_dflt (refine' insort_key_ints B1 F14 X1 T1 ?k3 ?d3 ?u3 pl pvs lPl ?len3 ePl2.2.2 ePl2.2.1 f hfn hfpl (fun j => (ths.getD (P.getD j 0) default).n) ?hi3 (.int (i : Int) tk9) ths[i].n ?hx3 ?_)
      case k3 => exact rfl
      case d3 => ktr_room
      case u3 => ktr_units
      case len3 => omega
      case hi3 =>
        intro j hj
        obtain ⟨t, e⟩ := jv.2 j (hpvl ▸ hj)
        obtain ⟨x, q1, q2, q3⟩ := hPa j (hpvl ▸ hj)
        refine ⟨_, e, ?_⟩
        exact hks (P.getD j 0) (by rw [q2]; omega) t
      case hx3 =>
        rw [← hgi]
        exact @hks i hi tk9
      intro h16 tk16 l16 k16
      have hb2 : bis (fun j => decide (ths[i].n < (ths.getD (P.getD j 0) default).n)) 0 pvs.length = bb := by rw [hpvl]; exact hb
      rw [hb2] at l16
      have jv2 : IL P' (pvs.take bb ++ Value.int (i : Int) tk9 :: pvs.drop bb) := by rw [hP']; exact jv.ins bb i tk9
      have hmem2 : ∀ v ∈ pvs.take bb ++ Value.int (i : Int) tk9 :: pvs.drop bb, v = Value.int (i : Int) tk9 ∨ v ∈ pvs := fun v hv => by
        rcases List.mem_append.mp hv with hv | hv
        · exact .inr (List.mem_of_mem_take hv)
        · rcases List.mem_cons.mp hv with hv | hv
          · exact .inl hv
          · exact .inr (List.mem_of_mem_drop hv)
      generalize pvs.take bb ++ Value.int (i : Int) tk9 :: pvs.drop bb = pvs2 at *
      obtain ⟨n16, e16⟩ := l16
      have F16 := fr_kx F14 k16 (fun q hq => by rw [List.mem_singleton.mp hq]; exact ⟨ePl2.2.2, ePl2.2.1⟩)
      have N16 : News g L1 h16 ((it, ito) :: (al, listOf (List.replicate (2 * i + 1) Value.none).toArray n12) :: (pl, listOf pvs2.toArray n16) :: (ll, listOf (P'.map fun j => (ths.getD j default).ref).toArray n11) :: (tl, listOf (ths.map Th.ref).toArray nt) :: (nl, listOf (ths.map Th.val).toArray nn) :: (L1 + 1 + 1 + 1 + 1 + 1 + 1 + 1 + 1 + 1 + 1 + 1 + 1, o12) :: (L1 + 1 + 1 + 1 + 1 + 1 + 1 + 1 + 1 + 1 + 1 + 1, o11) :: (L1 + 1 + 1 + 1 + 1 + 1 + 1 + 1 + 1 + 1 + 1, o10) :: (L1 + 1 + 1 + 1 + 1 + 1 + 1 + 1 + 1 + 1, o9) :: (L1 + 1 + 1 + 1 + 1 + 1 + 1 + 1 + 1, o8) :: (L1 + 1 + 1 + 1 + 1 + 1 + 1 + 1, o7) :: (L1 + 1 + 1 + 1 + 1 + 1 + 1, o6) :: (L1 + 1 + 1 + 1 + 1 + 1, o5) :: (L1 + 1 + 1 + 1 + 1, o4) :: (L1 + 1 + 1 + 1, o3) :: (L1 + 1 + 1, o2) :: (L1 + 1, o1) :: (277, tabObj tab2) :: (cobs2 ++ ThLed ths)) := fun q hq => by
        revert q
        refine all_cons ?_ (all_cons ?_ (all_cons ?_ (all_cons ?_ (all_cons ?_ (all_cons ?_ (all_cons ?_ (all_cons ?_ (all_cons ?_ (all_cons ?_ (all_cons ?_ (all_cons ?_ (all_cons ?_ (all_cons ?_ (all_cons ?_ (all_cons ?_ (all_cons ?_ (all_cons ?_ (all_cons ?_ ?_))))))))))))))))))
        · exact keepV (N14 _ (.tail _ (.head _))) k16 (Ne.symm qpl)
        · exact keepV (N14 _ (.tail _ (.tail _ (.head _)))) k16 ap.al_pl
        · exact ⟨e16, ePl2.2⟩
        · exact keepV (N14 _ (.tail _ (.tail _ (.tail _ (.tail _ (.head _)))))) k16 (Ne.symm ap.pl_ll)
        · exact keepV (N14 _ (.tail _ (.tail _ (.tail _ (.tail _ (.tail _ (.head _))))))) k16 (Ne.symm ap.pl_tl)
        · exact keepV (N14 _ (.tail _ (.tail _ (.tail _ (.tail _ (.tail _ (.tail _ (.head _)))))))) k16 (Ne.symm ap.pl_nl)
        · exact keepV (N14 _ (.tail _ (.tail _ (.tail _ (.tail _ (.tail _ (.tail _ (.tail _ (.head _))))))))) k16 oc12.2.1
        · exact keepV (N14 _ (.tail _ (.tail _ (.tail _ (.tail _ (.tail _ (.tail _ (.tail _ (.tail _ (.head _)))))))))) k16 oc11.2.1
        · exact keepV (N14 _ (.tail _ (.tail _ (.tail _ (.tail _ (.tail _ (.tail _ (.tail _ (.tail _ (.tail _ (.head _))))))))))) k16 oc10.2.1
        · exact keepV (N14 _ (.tail _ (.tail _ (.tail _ (.tail _ (.tail _ (.tail _ (.tail _ (.tail _ (.tail _ (.tail _ (.head _)))))))))))) k16 oc9.2.1
        · exact keepV (N14 _ (.tail _ (.tail _ (.tail _ (.tail _ (.tail _ (.tail _ (.tail _ (.tail _ (.tail _ (.tail _ (.tail _ (.head _))))))))))))) k16 oc8.2.1
        · exact keepV (N14 _ (.tail _ (.tail _ (.tail _ (.tail _ (.tail _ (.tail _ (.tail _ (.tail _ (.tail _ (.tail _ (.tail _ (.tail _ (.head _)))))))))))))) k16 oc7.2.1
        · exact keepV (N14 _ (.tail _ (.tail _ (.tail _ (.tail _ (.tail _ (.tail _ (.tail _ (.tail _ (.tail _ (.tail _ (.tail _ (.tail _ (.tail _ (.head _))))))))))))))) k16 oc6.2.1
        · exact keepV (N14 _ (.tail _ (.tail _ (.tail _ (.tail _ (.tail _ (.tail _ (.tail _ (.tail _ (.tail _ (.tail _ (.tail _ (.tail _ (.tail _ (.tail _ (.head _)))))))))))))))) k16 oc5.2.1
        · exact keepV (N14 _ (.tail _ (.tail _ (.tail _ (.tail _ (.tail _ (.tail _ (.tail _ (.tail _ (.tail _ (.tail _ (.tail _ (.tail _ (.tail _ (.tail _ (.tail _ (.head _))))))))))))))))) k16 oc4.2.1
        · exact keepV (N14 _ (.tail _ (.tail _ (.tail _ (.tail _ (.tail _ (.tail _ (.tail _ (.tail _ (.tail _ (.tail _ (.tail _ (.tail _ (.tail _ (.tail _ (.tail _ (.tail _ (.head _)))))))))))))))))) k16 oc3.2.1
        · exact keepV (N14 _ (.tail _ (.tail _ (.tail _ (.tail _ (.tail _ (.tail _ (.tail _ (.tail _ (.tail _ (.tail _ (.tail _ (.tail _ (.tail _ (.tail _ (.tail _ (.tail _ (.tail _ (.head _))))))))))))))))))) k16 oc2.2.1
        · exact keepV (N14 _ (.tail _ (.tail _ (.tail _ (.tail _ (.tail _ (.tail _ (.tail _ (.tail _ (.tail _ (.tail _ (.tail _ (.tail _ (.tail _ (.tail _ (.tail _ (.tail _ (.tail _ (.tail _ (.head _)))))))))))))))))))) k16 oc1.2.1
        · exact keepV (N14 _ (.tail _ (.tail _ (.tail _ (.tail _ (.tail _ (.tail _ (.tail _ (.tail _ (.tail _ (.tail _ (.tail _ (.tail _ (.tail _ (.tail _ (.tail _ (.tail _ (.tail _ (.tail _ (.tail _ (.head _))))))))))))))))))))) k16 oc277.2.1
        · intro q hq
          rcases List.mem_append.mp hq with hq | hq
          · exact keepV (N14 q (.tail _ (.tail _ (.tail _ (.tail _ (.tail _ (.tail _ (.tail _ (.tail _ (.tail _ (.tail _ (.tail _ (.tail _ (.tail _ (.tail _ (.tail _ (.tail _ (.tail _ (.tail _ (.tail _ (.tail _ (List.mem_append_left _ hq)))))))))))))))))))))) k16 (hcob2 q hq).2.1
          · obtain ⟨x, hx, rfl⟩ := List.mem_map.mp hq
            exact keepV (N14 (x.a, thO x) (.tail _ (.tail _ (.tail _ (.tail _ (.tail _ (.tail _ (.tail _ (.tail _ (.tail _ (.tail _ (.tail _ (.tail _ (.tail _ (.tail _ (.tail _ (.tail _ (.tail _ (.tail _ (.tail _ (.tail _ (List.mem_append_right _ (th_mem hx))))))))))))))))))))))) k16 (ap.tpl x hx)
      clear F14 N14
      dsimp only at F16 N16 ⊢
      k_steps
      unfold Stop
      have eAl3 := N16 (al, _) (.tail _ (.head _))
      refine append_LL ⟨_, eAl3.1⟩ (by rw [List.length_replicate]; omega) fun h17 l17 k17 => ?_
      rw [rep_snoc] at l17
      obtain ⟨n17, e17⟩ := l17
      have F17 := fr_kx F16 k17 (fun q hq => by rw [List.mem_singleton.mp hq]; exact ⟨eAl3.2.2, eAl3.2.1⟩)
      have N17 : News g L1 h17 ((it, ito) :: (al, listOf (List.replicate (2 * i + 1 + 1) Value.none).toArray n17) :: (pl, listOf pvs2.toArray n16) :: (ll, listOf (P'.map fun j => (ths.getD j default).ref).toArray n11) :: (tl, listOf (ths.map Th.ref).toArray nt) :: (nl, listOf (ths.map Th.val).toArray nn) :: (L1 + 1 + 1 + 1 + 1 + 1 + 1 + 1 + 1 + 1 + 1 + 1 + 1, o12) :: (L1 + 1 + 1 + 1 + 1 + 1 + 1 + 1 + 1 + 1 + 1 + 1, o11) :: (L1 + 1 + 1 + 1 + 1 + 1 + 1 + 1 + 1 + 1 + 1, o10) :: (L1 + 1 + 1 + 1 + 1 + 1 + 1 + 1 + 1 + 1, o9) :: (L1 + 1 + 1 + 1 + 1 + 1 + 1 + 1 + 1, o8) :: (L1 + 1 + 1 + 1 + 1 + 1 + 1 + 1, o7) :: (L1 + 1 + 1 + 1 + 1 + 1 + 1, o6) :: (L1 + 1 + 1 + 1 + 1 + 1, o5) :: (L1 + 1 + 1 + 1 + 1, o4) :: (L1 + 1 + 1 + 1, o3) :: (L1 + 1 + 1, o2) :: (L1 + 1, o1) :: (277, tabObj tab2) :: (cobs2 ++ ThLed ths)) := fun q hq => by
        revert q
        refine all_cons ?_ (all_cons ?_ (all_cons ?_ (all_cons ?_ (all_cons ?_ (all_cons ?_ (all_cons ?_ (all_cons ?_ (all_cons ?_ (all_cons ?_ (all_cons ?_ (all_cons ?_ (all_cons ?_ (all_cons ?_ (all_cons ?_ (all_cons ?_ (all_cons ?_ (all_cons ?_ (all_cons ?_ ?_))))))))))))))))))
        · exact keepV (N16 _ (.head _)) k17 (Ne.symm qal)
        · exact ⟨e17, eAl3.2⟩
        · exact keepV (N16 _ (.tail _ (.tail _ (.head _)))) k17 (Ne.symm ap.al_pl)
        · exact keepV (N16 _ (.tail _ (.tail _ (.tail _ (.head _))))) k17 (Ne.symm ap.al_ll)
        · exact keepV (N16 _ (.tail _ (.tail _ (.tail _ (.tail _ (.head _)))))) k17 (Ne.symm ap.al_tl)
        · exact keepV (N16 _ (.tail _ (.tail _ (.tail _ (.tail _ (.tail _ (.head _))))))) k17 (Ne.symm ap.al_nl)
        · exact keepV (N16 _ (.tail _ (.tail _ (.tail _ (.tail _ (.tail _ (.tail _ (.head _)))))))) k17 oc12.2.2
        · exact keepV (N16 _ (.tail _ (.tail _ (.tail _ (.tail _ (.tail _ (.tail _ (.tail _ (.head _))))))))) k17 oc11.2.2
        · exact keepV (N16 _ (.tail _ (.tail _ (.tail _ (.tail _ (.tail _ (.tail _ (.tail _ (.tail _ (.head _)))))))))) k17 oc10.2.2
        · exact keepV (N16 _ (.tail _ (.tail _ (.tail _ (.tail _ (.tail _ (.tail _ (.tail _ (.tail _ (.tail _ (.head _))))))))))) k17 oc9.2.2
        · exact keepV (N16 _ (.tail _ (.tail _ (.tail _ (.tail _ (.tail _ (.tail _ (.tail _ (.tail _ (.tail _ (.tail _ (.head _)))))))))))) k17 oc8.2.2
        · exact keepV (N16 _ (.tail _ (.tail _ (.tail _ (.tail _ (.tail _ (.tail _ (.tail _ (.tail _ (.tail _ (.tail _ (.tail _ (.head _))))))))))))) k17 oc7.2.2
        · exact keepV (N16 _ (.tail _ (.tail _ (.tail _ (.tail _ (.tail _ (.tail _ (.tail _ (.tail _ (.tail _ (.tail _ (.tail _ (.tail _ (.head _)))))))))))))) k17 oc6.2.2
        · exact keepV (N16 _ (.tail _ (.tail _ (.tail _ (.tail _ (.tail _ (.tail _ (.tail _ (.tail _ (.tail _ (.tail _ (.tail _ (.tail _ (.tail _ (.head _))))))))))))))) k17 oc5.2.2
        · exact keepV (N16 _ (.tail _ (.tail _ (.tail _ (.tail _ (.tail _ (.tail _ (.tail _ (.tail _ (.tail _ (.tail _ (.tail _ (.tail _ (.tail _ (.tail _ (.head _)))))))))))))))) k17 oc4.2.2
        · exact keepV (N16 _ (.tail _ (.tail _ (.tail _ (.tail _ (.tail _ (.tail _ (.tail _ (.tail _ (.tail _ (.tail _ (.tail _ (.tail _ (.tail _ (.tail _ (.tail _ (.head _))))))))))))))))) k17 oc3.2.2
        · exact keepV (N16 _ (.tail _ (.tail _ (.tail _ (.tail _ (.tail _ (.tail _ (.tail _ (.tail _ (.tail _ (.tail _ (.tail _ (.tail _ (.tail _ (.tail _ (.tail _ (.tail _ (.head _)))))))))))))))))) k17 oc2.2.2
        · exact keepV (N16 _ (.tail _ (.tail _ (.tail _ (.tail _ (.tail _ (.tail _ (.tail _ (.tail _ (.tail _ (.tail _ (.tail _ (.tail _ (.tail _ (.tail _ (.tail _ (.tail _ (.tail _ (.head _))))))))))))))))))) k17 oc1.2.2
        · exact keepV (N16 _ (.tail _ (.tail _ (.tail _ (.tail _ (.tail _ (.tail _ (.tail _ (.tail _ (.tail _ (.tail _ (.tail _ (.tail _ (.tail _ (.tail _ (.tail _ (.tail _ (.tail _ (.tail _ (.head _)))))))))))))))))))) k17 oc277.2.2
        · intro q hq
          rcases List.mem_append.mp hq with hq | hq
          · exact keepV (N16 q (.tail _ (.tail _ (.tail _ (.tail _ (.tail _ (.tail _ (.tail _ (.tail _ (.tail _ (.tail _ (.tail _ (.tail _ (.tail _ (.tail _ (.tail _ (.tail _ (.tail _ (.tail _ (.tail _ (List.mem_append_left _ hq))))))))))))))))))))) k17 (hcob2 q hq).2.2.1
          · obtain ⟨x, hx, rfl⟩ := List.mem_map.mp hq
            exact keepV (N16 (x.a, thO x) (.tail _ (.tail _ (.tail _ (.tail _ (.tail _ (.tail _ (.tail _ (.tail _ (.tail _ (.tail _ (.tail _ (.tail _ (.tail _ (.tail _ (.tail _ (.tail _ (.tail _ (.tail _ (.tail _ (List.mem_append_right _ (th_mem hx)))))))))))))))))))))) k17 (ap.tal x hx)
      clear F16 N16
      dsimp only at F17 N17 ⊢
      k_steps
      rename_i htkF
      refine ⟨_, _, _, _, rfl, F17, N17, fun q hq => ?_, pvs2, n17, n16, n11, tab2, cobs2, rfl, rfl, jv2, fun v hv => ?_, htab2, fun q hq => ⟨(hcob2 q hq).1, (hcob2 q hq).2.1, (hcob2 q hq).2.2.1⟩, Nat.le_trans jtk (Nat.le_of_succ_le htkF)⟩
      · revert q
        refine all_cons ?_ (all_cons ?_ (all_cons ?_ (all_cons ?_ (all_cons ?_ (all_cons ?_ (all_cons ?_ (all_cons ?_ (all_cons ?_ (all_cons ?_ (all_cons ?_ (all_cons ?_ (all_cons ?_ (all_cons ?_ (all_cons ?_ (all_cons ?_ (all_cons ?_ (all_cons ?_ ?_)))))))))))))))))
        · exact Ne.symm (Ne.symm qal)
        · exact qpl
        · exact qll
        · exact hoff9 (tl, listOf (ths.map Th.ref).toArray nt) (.tail _ (.tail _ (.tail _ (.head _))))
        · exact hoff9 (nl, listOf (ths.map Th.val).toArray nn) (.tail _ (.tail _ (.tail _ (.tail _ (.head _)))))
        · exact hoff9 (L1 + 1 + 1 + 1 + 1 + 1 + 1 + 1 + 1 + 1 + 1 + 1 + 1, o12) (.tail _ (.tail _ (.tail _ (.tail _ (.tail _ (.head _))))))
        · exact hoff9 (L1 + 1 + 1 + 1 + 1 + 1 + 1 + 1 + 1 + 1 + 1 + 1, o11) (.tail _ (.tail _ (.tail _ (.tail _ (.tail _ (.tail _ (.head _)))))))
        · exact hoff9 (L1 + 1 + 1 + 1 + 1 + 1 + 1 + 1 + 1 + 1 + 1, o10) (.tail _ (.tail _ (.tail _ (.tail _ (.tail _ (.tail _ (.tail _ (.head _))))))))
        · exact hoff9 (L1 + 1 + 1 + 1 + 1 + 1 + 1 + 1 + 1 + 1, o9) (.tail _ (.tail _ (.tail _ (.tail _ (.tail _ (.tail _ (.tail _ (.tail _ (.head _)))))))))
        · exact hoff9 (L1 + 1 + 1 + 1 + 1 + 1 + 1 + 1 + 1, o8) (.tail _ (.tail _ (.tail _ (.tail _ (.tail _ (.tail _ (.tail _ (.tail _ (.tail _ (.head _))))))))))
        · exact hoff9 (L1 + 1 + 1 + 1 + 1 + 1 + 1 + 1, o7) (.tail _ (.tail _ (.tail _ (.tail _ (.tail _ (.tail _ (.tail _ (.tail _ (.tail _ (.tail _ (.head _)))))))))))
        · exact hoff9 (L1 + 1 + 1 + 1 + 1 + 1 + 1, o6) (.tail _ (.tail _ (.tail _ (.tail _ (.tail _ (.tail _ (.tail _ (.tail _ (.tail _ (.tail _ (.tail _ (.head _))))))))))))
        · exact hoff9 (L1 + 1 + 1 + 1 + 1 + 1, o5) (.tail _ (.tail _ (.tail _ (.tail _ (.tail _ (.tail _ (.tail _ (.tail _ (.tail _ (.tail _ (.tail _ (.tail _ (.head _)))))))))))))
        · exact hoff9 (L1 + 1 + 1 + 1 + 1, o4) (.tail _ (.tail _ (.tail _ (.tail _ (.tail _ (.tail _ (.tail _ (.tail _ (.tail _ (.tail _ (.tail _ (.tail _ (.tail _ (.head _))))))))))))))
        · exact hoff9 (L1 + 1 + 1 + 1, o3) (.tail _ (.tail _ (.tail _ (.tail _ (.tail _ (.tail _ (.tail _ (.tail _ (.tail _ (.tail _ (.tail _ (.tail _ (.tail _ (.tail _ (.head _)))))))))))))))
        · exact hoff9 (L1 + 1 + 1, o2) (.tail _ (.tail _ (.tail _ (.tail _ (.tail _ (.tail _ (.tail _ (.tail _ (.tail _ (.tail _ (.tail _ (.tail _ (.tail _ (.tail _ (.tail _ (.head _))))))))))))))))
        · exact hoff9 (L1 + 1, o1) (.tail _ (.tail _ (.tail _ (.tail _ (.tail _ (.tail _ (.tail _ (.tail _ (.tail _ (.tail _ (.tail _ (.tail _ (.tail _ (.tail _ (.tail _ (.tail _ (.head _)))))))))))))))))
        · exact q277
        · intro q hq
          rcases List.mem_append.mp hq with hq | hq
          · exact (hcob2 q hq).2.2.2
          · obtain ⟨x, hx, rfl⟩ := List.mem_map.mp hq
            exact htoff x hx
      · rcases hmem2 v hv with rfl | hv
        · refine ⟨_, _, rfl, ?_, htkF⟩
          have := hth0 _ (List.getElem_mem hi6)
          exact Nat.lt_of_lt_of_le (Nat.lt_trans this.1 this.2) jtk
        · obtain ⟨n, t, e, q1, q2⟩ := jt v hv
          exact ⟨n, t, e, q1, Nat.lt_of_lt_of_le q2 (Nat.le_of_succ_le htkF)⟩
end

/-! S3 -/
example : True := by
  k_with_none
  k_with "subscriptTail" => (k_here; (with_reducible show wpAny _ _ (subscriptTail _ _ (Value.ref _) (Value.int _ _)) _ _ _); (with_unfolding_all refine' my_item ?q_k1 ?q_k2 ?q_k3 ?q_k4 ?_ ?q_k6; (case q_k1 => first | assumption | ((rename GSub _ _ _ => kG9); (rename Fr _ _ _ _ => F9); refine' list_up ?q_t9 kG9 F9 (by simp); (case q_t9 => assumption))); (case q_k2 => assumption); (case q_k3 => first | rfl | assumption | omega | (simp only [Int.fdiv_eq_ediv_of_nonneg _ (by decide : (0 : Int) ≤ 2)]; omega)); (case q_k4 => first | assumption | omega); (case q_k6 => with_unfolding_all rfl); k_whole))
  k_with "call builtin:len" => (k_here; (with_reducible show wpAny _ _ (call (Value.builtin "len") [Value.ref _]) _ _ _); refine' my_len ?q_k1 ?q_k2 ?_; (case q_k1 => first | assumption | ((rename GSub _ _ _ => kG9); (rename Fr _ _ _ _ => F9); refine' list_up ?q_t9 kG9 F9 (by simp); (case q_t9 => assumption))); (case q_k2 => first | assumption | omega); intro _ _)
  k_with "subscriptTail" => (k_here; (with_reducible show wpAny _ _ (subscriptTail _ _ (Value.ref _) (Value.int _ _)) _ _ _); (with_unfolding_all refine' my_titem ?q_k1 ?q_k2 ?q_k3 ?q_k4 ?_ ?q_k6; (case q_k1 => first | assumption | ((rename GSub _ _ _ => kG9); (rename Fr _ _ _ _ => F9); refine' TT.up ?q_t9 kG9 F9 (by simp); (case q_t9 => assumption))); (case q_k2 => first | assumption | decide | omega); (case q_k3 => first | assumption | exact rfl); (case q_k4 => first | assumption | (simp only [List.length_cons, List.length_nil]; decide)); (case q_k6 => with_unfolding_all rfl); k_whole))
  k_with "eval Name" => (k_here; (with_reducible show wpAny _ _ (eval (Expr.Name _ _) (compEnvC _ _ _ _)) _ _ _); (with_unfolding_all refine' wpAny_Name (wpAny_loadName_local ?q_a ?q_b ?q_c ?q_d ?_) ?q_e; (case q_a => rfl); (case q_b => rfl); (case q_c => first | assumption | exact nsC_get (by assumption) (by assumption) (by repeat (first | exact List.Mem.head _ | apply List.Mem.tail))); (case q_d => assumption); (case q_e => decide); k_whole))
  k_with "eval ListComp" => (k_here; refine stopHere ?_)
  k_with "call builtin:list.append" => (k_here; refine stopHere ?_)
  k_with "call ref" => (k_here; refine stopHere ?_)
  k_with "pyIter ref" => (k_here; refine stopHere ?_)
  k_with "execs cons" => (k_here; refine stopHere ?_)
  k_with "subscriptTail" => (k_here; (with_reducible show wpAny _ _ (subscriptTail _ _ (Value.ref _) (Value.int _ _)) _ _ _); (with_unfolding_all refine' my_item ?q_k1 ?q_k2 ?q_k3 ?q_k4 ?_ ?q_k6; (case q_k3 => first | exact rfl | exact (rfl : (0 : Int) = ((0 : Nat) : Int))); (case q_k1 => assumption); (case q_k2 => assumption); (case q_k4 => first | assumption | omega | exact (by decide)); (case q_k6 => with_unfolding_all rfl); k_whole))
  k_with "subscriptTail Name Constant ref int" => (k_here; refine stopHere ?_)
  k_with "own k_updF" => (refine' UpdF.head ?q_a; (case q_a => (repeat (first | assumption | (refine List.forall_mem_cons.mpr ⟨by k_ne, ?_⟩)))))
  trivial
section
variable {g : Heap} {L1 : Addr} {Qf : Flow → Shared → Prop}
theorem law_s3 (F1 : Fr g L1 s.heap m) (X1 : (hd.heap_1 w.params).In g) (T1 : Top p loose mean mg mb g) (TL : List (Addr × Obj)) (hoff : OffC L1 TL) (d : LawD) (ok : LawOk TL d s.toks)
    (v1 : Option Value) (o1 : Obj) (d1 : o1.data = .cell v1) (o2 : Obj) (d2 : o2.data = .cell (some (.ref d.tl))) (o3 : Obj) (d3 : o3.data = .cell (some (.ref d.ll))) (o4 : Obj) (d4 : o4.data = .cell (some (.ref d.pl))) (o5 : Obj) (d5 : o5.data = .cell none) (o6 : Obj) (d6 : o6.data = .cell none) (o7 : Obj) (d7 : o7.data = .cell none) (o8 : Obj) (d8 : o8.data = .cell none) (o9 : Obj) (d9 : o9.data = .cell none) (o10 : Obj) (d10 : o10.data = .cell none) (o11 : Obj) (d11 : o11.data = .cell none) (o12 : Obj) (d12 : o12.data = .cell (some (.ref d.nl)))
    (N1 : News g L1 s.heap ((L1 + 1 + 1 + 1 + 1 + 1 + 1 + 1 + 1 + 1 + 1 + 1 + 1, o12) :: (L1 + 1 + 1 + 1 + 1 + 1 + 1 + 1 + 1 + 1 + 1 + 1, o11) :: (L1 + 1 + 1 + 1 + 1 + 1 + 1 + 1 + 1 + 1 + 1, o10) :: (L1 + 1 + 1 + 1 + 1 + 1 + 1 + 1 + 1 + 1, o9) :: (L1 + 1 + 1 + 1 + 1 + 1 + 1 + 1 + 1, o8) :: (L1 + 1 + 1 + 1 + 1 + 1 + 1 + 1, o7) :: (L1 + 1 + 1 + 1 + 1 + 1 + 1, o6) :: (L1 + 1 + 1 + 1 + 1 + 1, o5) :: (L1 + 1 + 1 + 1 + 1, o4) :: (L1 + 1 + 1 + 1, o3) :: (L1 + 1 + 1, o2) :: (L1 + 1, o1) :: TL))
    (hnext : ∀ (rl : Addr) (nr : Nat) (o5 : Obj) (h' : Heap) (tk' : Nat) (TL' : List (Addr × Obj)), (∀ q ∈ TL, q ∈ TL') → OffC L1 TL' → (rl, listOf (d.P.map fun j => (d.ths.getD j default).val).toArray nr) ∈ TL' → o5.data = .cell (some (.ref rl)) → s.toks ≤ tk' →
      Fr g L1 h' m → News g L1 h' ((L1 + 1 + 1 + 1 + 1 + 1 + 1 + 1 + 1 + 1 + 1 + 1 + 1, o12) :: (L1 + 1 + 1 + 1 + 1 + 1 + 1 + 1 + 1 + 1 + 1 + 1, o11) :: (L1 + 1 + 1 + 1 + 1 + 1 + 1 + 1 + 1 + 1 + 1, o10) :: (L1 + 1 + 1 + 1 + 1 + 1 + 1 + 1 + 1 + 1, o9) :: (L1 + 1 + 1 + 1 + 1 + 1 + 1 + 1 + 1, o8) :: (L1 + 1 + 1 + 1 + 1 + 1 + 1 + 1, o7) :: (L1 + 1 + 1 + 1 + 1 + 1 + 1, o6) :: (L1 + 1 + 1 + 1 + 1 + 1, o5) :: (L1 + 1 + 1 + 1 + 1, o4) :: (L1 + 1 + 1 + 1, o3) :: (L1 + 1 + 1, o2) :: (L1 + 1, o1) :: TL') → LawRun w 4 L1 Qf { s with heap := h', toks := tk' }) : LawRun w 3 L1 Qf s := by
  refine' LawRun.intro ?k6 ?_
  case k6 => k_is
  dsimp only [List.drop]
  have B1 : Below callerA g [] g := below_caller g
  refine wpAny_execs_cons ?_
  k_steps
  unfold Stop
  k_dflt (refine' comp_list2 (g := g) (L := L1) (fun _ => true) (fun i y _ _ _ => y = (d.ths.getD (d.P.getD i 0) default).val) (fun i v m3 => m3 (Str.ofString "thing") = some v) ?hh2 ?hclos2 ?hcell2 ?hkind2 ?hnames2 ?h2 ?hs2)
  case hh2 => rfl
  case hclos2 => rfl
  case hcell2 => decide
  case hkind2 => rfl
  case hnames2 => decide
  case hs2 => exact fun _ => rfl
  case h2 =>
    k_steps
    refine ListSrc2.intro (d.P.map fun j => (d.ths.getD j default).ref) F1 N1 ⟨_, (N1 (d.ll, _) (.tail _ (.tail _ (.tail _ (.tail _ (.tail _ (.tail _ (.tail _ (.tail _ (.tail _ (.tail _ (.tail _ (.tail _ ok.mll))))))))))))).1⟩ (by rw [List.length_map, d.P_len]; decide) ?_ ?_ ?_
    · intro I C D s' i v _
      exact binds_name rfl rfl
    · rintro C i v h4 tk4 m4 oC R hin hP hlo4 hB4 hNC hR F4 N4
      rw [List.length_map, d.P_len] at hin
      simp only [List.cons_append, List.nil_append] at N4
      obtain ⟨x, q1, q2, q3⟩ := d.P_at hin
      have hv : v = .ref (d.ths.getD x default).a := by
        rw [List.getElem?_map, q1] at hP
        exact (Option.some.inj hP).symm
      subst hv
      have hxm := (N4 _ (.tail _ (.tail _ (.tail _ (.tail _ (.tail _ (.tail _ (.tail _ (.tail _ (.tail _ (.tail _ (.tail _ (.tail _ (.tail _ (List.mem_append_left _ (ok.mth _ (ok.th_mem q3))))))))))))))))).1
      have hxl : h4.IsList (d.ths.getD x default).a [Value.int (d.ths.getD x default).n (d.ths.getD x default).t].toArray := (show LL h4 _ _ from ⟨_, hxm⟩).isList
      have hx0 : [Value.int (d.ths.getD x default).n (d.ths.getD x default).t][0]? = some (.int (d.ths.getD x default).n (d.ths.getD x default).t) := rfl
      refine ⟨?_, fun hpz => ?_⟩
      · k_steps
        exact TestIs2.intro rfl hR F4 N4 (fun q hq => by repeat (first | exact List.mem_append_right _ hq | apply List.Mem.tail))
      · k_steps
        unfold Stop
        with_unfolding_all refine' my_item hxl hx0 ?z1 ?z2 ?_ ?z4
        case z1 => exact (rfl : (0 : Int) = ((0 : Nat) : Int))
        case z2 => exact (by decide : 1 < 2 ^ 62)
        case z4 => with_unfolding_all rfl
        exact EltIs2.plain hR F4 N4 (fun q hq => by repeat (first | exact List.mem_append_right _ hq | apply List.Mem.tail)) fun lo hh h1 h2 h3 => by rw [q2]
    · intro D2 h17 tk17 log2 hE1 hE2 hE3 hE4 hi2 hL2 k17 F17 N17 ht17
      rw [range_all, List.length_map, d.P_len] at hi2
      have hmap : log2.map (·.y) = d.P.map fun j => (d.ths.getD j default).val := by
        have e1 : ∀ (l : List LogE), (∀ e ∈ l, e.y = (d.ths.getD (d.P.getD e.i 0) default).val) → l.map (·.y) = (l.map (·.i)).map fun i => (d.ths.getD (d.P.getD i 0) default).val := fun l h => by
          rw [List.map_map]
          exact List.map_congr_left fun e he => h e he
        rw [e1 log2 (fun e he => (hL2.1 e he).2.2.1), hi2]
        exact range_getD d.P (fun j => (d.ths.getD j default).val) d.P_len
      obtain ⟨nD, eD⟩ := hE4
      rw [hmap] at eD
      have N8 : News g L1 h17 ((D2, listOf (d.P.map fun j => (d.ths.getD j default).val).toArray nD) :: _) := fun q hq => by
        rcases List.mem_cons.mp hq with rfl | hq
        · exact ⟨eD, hE3, hE2⟩
        · exact N17 q hq
      have ofD : OffC L1 ((D2, listOf (d.P.map fun j => (d.ths.getD j default).val).toArray nD) :: TL) := hoff.cons ⟨fresh_ne hE1 N1 (c := L1 + 1) (o := o1) (.tail _ (.tail _ (.tail _ (.tail _ (.tail _ (.tail _ (.tail _ (.tail _ (.tail _ (.tail _ (.tail _ (.head _)))))))))))), fresh_ne hE1 N1 (c := L1 + 1 + 1) (o := o2) (.tail _ (.tail _ (.tail _ (.tail _ (.tail _ (.tail _ (.tail _ (.tail _ (.tail _ (.tail _ (.head _))))))))))), fresh_ne hE1 N1 (c := L1 + 1 + 1 + 1) (o := o3) (.tail _ (.tail _ (.tail _ (.tail _ (.tail _ (.tail _ (.tail _ (.tail _ (.tail _ (.head _)))))))))), fresh_ne hE1 N1 (c := L1 + 1 + 1 + 1 + 1) (o := o4) (.tail _ (.tail _ (.tail _ (.tail _ (.tail _ (.tail _ (.tail _ (.tail _ (.head _))))))))), fresh_ne hE1 N1 (c := L1 + 1 + 1 + 1 + 1 + 1) (o := o5) (.tail _ (.tail _ (.tail _ (.tail _ (.tail _ (.tail _ (.tail _ (.head _)))))))), fresh_ne hE1 N1 (c := L1 + 1 + 1 + 1 + 1 + 1 + 1) (o := o6) (.tail _ (.tail _ (.tail _ (.tail _ (.tail _ (.tail _ (.head _))))))), fresh_ne hE1 N1 (c := L1 + 1 + 1 + 1 + 1 + 1 + 1 + 1) (o := o7) (.tail _ (.tail _ (.tail _ (.tail _ (.tail _ (.head _)))))), fresh_ne hE1 N1 (c := L1 + 1 + 1 + 1 + 1 + 1 + 1 + 1 + 1) (o := o8) (.tail _ (.tail _ (.tail _ (.tail _ (.head _))))), fresh_ne hE1 N1 (c := L1 + 1 + 1 + 1 + 1 + 1 + 1 + 1 + 1 + 1) (o := o9) (.tail _ (.tail _ (.tail _ (.head _)))), fresh_ne hE1 N1 (c := L1 + 1 + 1 + 1 + 1 + 1 + 1 + 1 + 1 + 1 + 1) (o := o10) (.tail _ (.tail _ (.head _))), fresh_ne hE1 N1 (c := L1 + 1 + 1 + 1 + 1 + 1 + 1 + 1 + 1 + 1 + 1 + 1) (o := o11) (.tail _ (.head _)), fresh_ne hE1 N1 (c := L1 + 1 + 1 + 1 + 1 + 1 + 1 + 1 + 1 + 1 + 1 + 1 + 1) (o := o12) (.head _)⟩
      have q5 := (ofD _ (.head _)).2.2.2.2.1
      have w5 : ∀ p ∈ TL, p.1 ≠ L1 + 1 + 1 + 1 + 1 + 1 := fun p hp => (hoff p hp).2.2.2.2.1
      dsimp only at F17 N8 ht17 ⊢
      clear N17 N1
      k_steps
      unfold Stop
      rename_i h18 o5' F18 N18 d5'
      refine' LawRun.elim (k := 4) ?k7 ?hL ?e7
      case k7 => k_is
      case e7 => rfl
      case hL => exact hnext D2 nD o5' h18 _ _ (fun q hq => .tail _ hq) ofD (.head _) d5' (by first | exact ht17 | (dsimp only; omega)) F18 fun q hq => N18 q (swap_mem (A := [(L1 + 1 + 1 + 1 + 1 + 1 + 1 + 1 + 1 + 1 + 1 + 1 + 1, o12), (L1 + 1 + 1 + 1 + 1 + 1 + 1 + 1 + 1 + 1 + 1 + 1, o11), (L1 + 1 + 1 + 1 + 1 + 1 + 1 + 1 + 1 + 1 + 1, o10), (L1 + 1 + 1 + 1 + 1 + 1 + 1 + 1 + 1 + 1, o9), (L1 + 1 + 1 + 1 + 1 + 1 + 1 + 1 + 1, o8), (L1 + 1 + 1 + 1 + 1 + 1 + 1 + 1, o7), (L1 + 1 + 1 + 1 + 1 + 1 + 1, o6), (L1 + 1 + 1 + 1 + 1 + 1, o5'), (L1 + 1 + 1 + 1 + 1, o4), (L1 + 1 + 1 + 1, o3), (L1 + 1 + 1, o2), (L1 + 1, o1)]) hq)
end

/-! S4 -/
example : True := by
  k_with_none
  k_with "subscriptTail" => (k_here; (with_reducible show wpAny _ _ (subscriptTail _ _ (Value.ref _) (Value.int _ _)) _ _ _); (with_unfolding_all refine' my_item ?q_k1 ?q_k2 ?q_k3 ?q_k4 ?_ ?q_k6; (case q_k1 => first | assumption | ((rename GSub _ _ _ => kG9); (rename Fr _ _ _ _ => F9); refine' list_up ?q_t9 kG9 F9 (by simp); (case q_t9 => assumption))); (case q_k2 => assumption); (case q_k3 => first | rfl | assumption | omega | (simp only [Int.fdiv_eq_ediv_of_nonneg _ (by decide : (0 : Int) ≤ 2)]; omega)); (case q_k4 => first | assumption | omega); (case q_k6 => with_unfolding_all rfl); k_whole))
  k_with "call builtin:len" => (k_here; (with_reducible show wpAny _ _ (call (Value.builtin "len") [Value.ref _]) _ _ _); refine' my_len ?q_k1 ?q_k2 ?_; (case q_k1 => first | assumption | ((rename GSub _ _ _ => kG9); (rename Fr _ _ _ _ => F9); refine' list_up ?q_t9 kG9 F9 (by simp); (case q_t9 => assumption))); (case q_k2 => first | assumption | omega); intro _ _)
  k_with "subscriptTail" => (k_here; (with_reducible show wpAny _ _ (subscriptTail _ _ (Value.ref _) (Value.int _ _)) _ _ _); (with_unfolding_all refine' my_titem ?q_k1 ?q_k2 ?q_k3 ?q_k4 ?_ ?q_k6; (case q_k1 => first | assumption | ((rename GSub _ _ _ => kG9); (rename Fr _ _ _ _ => F9); refine' TT.up ?q_t9 kG9 F9 (by simp); (case q_t9 => assumption))); (case q_k2 => first | assumption | decide | omega); (case q_k3 => first | assumption | exact rfl); (case q_k4 => first | assumption | (simp only [List.length_cons, List.length_nil]; decide)); (case q_k6 => with_unfolding_all rfl); k_whole))
  k_with "eval Name" => (k_here; (with_reducible show wpAny _ _ (eval (Expr.Name _ _) (compEnvC _ _ _ _)) _ _ _); (with_unfolding_all refine' wpAny_Name (wpAny_loadName_local ?q_a ?q_b ?q_c ?q_d ?_) ?q_e; (case q_a => rfl); (case q_b => rfl); (case q_c => first | assumption | exact nsC_get (by assumption) (by assumption) (by repeat (first | exact List.Mem.head _ | apply List.Mem.tail))); (case q_d => assumption); (case q_e => decide); k_whole))
  k_with "eval ListComp" => (k_here; refine stopHere ?_)
  k_with "call builtin:list.append" => (k_here; refine stopHere ?_)
  k_with "call ref" => (k_here; refine stopHere ?_)
  k_with "pyIter ref" => (k_here; refine stopHere ?_)
  k_with "execs cons" => (k_here; refine stopHere ?_)
  k_with "subscriptTail" => (k_here; (with_reducible show wpAny _ _ (subscriptTail _ _ (Value.ref _) (Value.int _ _)) _ _ _); (with_unfolding_all refine' my_item ?q_k1 ?q_k2 ?q_k3 ?q_k4 ?_ ?q_k6; (case q_k3 => first | exact rfl | exact (rfl : (0 : Int) = ((0 : Nat) : Int))); (case q_k1 => first | assumption | exact isl_news (by assumption) (by repeat (first | assumption | exact List.mem_append_left _ (by assumption) | apply List.Mem.tail))); (case q_k2 => assumption); (case q_k4 => first | assumption | omega | exact (by decide)); (case q_k6 => with_unfolding_all rfl); k_whole))
  k_with "subscriptTail Name Constant ref int" => (k_here; refine stopHere ?_)
  k_with "own k_updF" => (refine' UpdF.head ?q_a; (case q_a => (repeat (first | assumption | (refine List.forall_mem_cons.mpr ⟨by k_ne, ?_⟩)))))
  k_with "subscriptTail Name Slice ref ref" => (k_here; refine stopHere ?_)
  trivial
section
variable {g : Heap} {L1 : Addr} {Qf : Flow → Shared → Prop}
theorem law_s4 (F1 : Fr g L1 s.heap m) (X1 : (hd.heap_1 w.params).In g) (T1 : Top p loose mean mg mb g) (TL : List (Addr × Obj)) (hoff : OffC L1 TL) (d : LawD) (ok : LawOk TL d s.toks) (rl : Addr) (nr : Nat) (mrl : (rl, listOf (d.P.map fun j => (d.ths.getD j default).val).toArray nr) ∈ TL)
    (v1 : Option Value) (o1 : Obj) (d1 : o1.data = .cell v1) (o2 : Obj) (d2 : o2.data = .cell (some (.ref d.tl))) (o3 : Obj) (d3 : o3.data = .cell (some (.ref d.ll))) (o4 : Obj) (d4 : o4.data = .cell (some (.ref d.pl))) (o5 : Obj) (d5 : o5.data = .cell (some (.ref rl))) (o6 : Obj) (d6 : o6.data = .cell none) (o7 : Obj) (d7 : o7.data = .cell none) (o8 : Obj) (d8 : o8.data = .cell none) (o9 : Obj) (d9 : o9.data = .cell none) (o10 : Obj) (d10 : o10.data = .cell none) (o11 : Obj) (d11 : o11.data = .cell none) (o12 : Obj) (d12 : o12.data = .cell (some (.ref d.nl)))
    (N1 : News g L1 s.heap ((L1 + 1 + 1 + 1 + 1 + 1 + 1 + 1 + 1 + 1 + 1 + 1 + 1, o12) :: (L1 + 1 + 1 + 1 + 1 + 1 + 1 + 1 + 1 + 1 + 1 + 1, o11) :: (L1 + 1 + 1 + 1 + 1 + 1 + 1 + 1 + 1 + 1 + 1, o10) :: (L1 + 1 + 1 + 1 + 1 + 1 + 1 + 1 + 1 + 1, o9) :: (L1 + 1 + 1 + 1 + 1 + 1 + 1 + 1 + 1, o8) :: (L1 + 1 + 1 + 1 + 1 + 1 + 1 + 1, o7) :: (L1 + 1 + 1 + 1 + 1 + 1 + 1, o6) :: (L1 + 1 + 1 + 1 + 1 + 1, o5) :: (L1 + 1 + 1 + 1 + 1, o4) :: (L1 + 1 + 1 + 1, o3) :: (L1 + 1 + 1, o2) :: (L1 + 1, o1) :: TL))
    (hnext : ∀ (kl : Addr) (nk : Nat) (kvs : List Value) (o6 : Obj) (h' : Heap) (tk' : Nat) (TL' : List (Addr × Obj)), (∀ q ∈ TL, q ∈ TL') → OffC L1 TL' → (kl, listOf kvs.toArray nk) ∈ TL' → IL ((List.range 6).map d.rank) kvs → o6.data = .cell (some (.ref kl)) → s.toks ≤ tk' →
      Fr g L1 h' m → News g L1 h' ((L1 + 1 + 1 + 1 + 1 + 1 + 1 + 1 + 1 + 1 + 1 + 1 + 1, o12) :: (L1 + 1 + 1 + 1 + 1 + 1 + 1 + 1 + 1 + 1 + 1 + 1, o11) :: (L1 + 1 + 1 + 1 + 1 + 1 + 1 + 1 + 1 + 1 + 1, o10) :: (L1 + 1 + 1 + 1 + 1 + 1 + 1 + 1 + 1 + 1, o9) :: (L1 + 1 + 1 + 1 + 1 + 1 + 1 + 1 + 1, o8) :: (L1 + 1 + 1 + 1 + 1 + 1 + 1 + 1, o7) :: (L1 + 1 + 1 + 1 + 1 + 1 + 1, o6) :: (L1 + 1 + 1 + 1 + 1 + 1, o5) :: (L1 + 1 + 1 + 1 + 1, o4) :: (L1 + 1 + 1 + 1, o3) :: (L1 + 1 + 1, o2) :: (L1 + 1, o1) :: TL') → LawRun w 5 L1 Qf { s with heap := h', toks := tk' }) : LawRun w 4 L1 Qf s := by
  refine' LawRun.intro ?k6 ?_
  case k6 => k_is
  dsimp only [List.drop]
  have B1 : Below callerA g [] g := below_caller g
  refine wpAny_execs_cons ?_
  k_steps
  unfold Stop
  k_dflt (refine' comp_range2 (g := g) (L := L1) (fun _ => true) (fun i y _ _ _ => ∃ t, y = Value.int ((d.rank i : Nat) : Int) t) (fun i v m3 => m3 (Str.ofString "k") = some v) ?hh2 ?hclos2 ?hcell2 ?hkind2 ?hnames2 ?h2 ?hs2)
  case hh2 => rfl
  case hclos2 => rfl
  case hcell2 => decide
  case hkind2 => rfl
  case hnames2 => decide
  case hs2 => exact fun _ => rfl
  case h2 =>
    refine wpAny_with_toks (n := s.toks) (Nat.le_refl _) ?_
    k_steps
    rename_i t1 u1 v1 hr F3 N3 k3 htk3
    replace htk3 : s.toks ≤ _ := htk3
    refine RangeSrc2.intro 6 F3 N3 hr (by decide) ?_ ?_ ?_
    · intro I C D s' i v
      exact binds_name rfl rfl
    · rintro C k v h4 tk4 m4 oC R hin ⟨tv, rfl, tl, tg⟩ hlo4 hB4 hNC hR F4 N4
      have hin' : k < 6 := hin
      simp only [List.cons_append, List.nil_append] at N4
      have hmem := ok.mnl
      have hvk := ok.val_at hin'
      have h62 : (d.ths.map Th.val).length < 2 ^ 62 := by rw [List.length_map, ok.hthl]; decide
      have hv6 : (d.ths.map Th.val).length = 6 := by rw [List.length_map, ok.hthl]
      have htk0 : (d.th k).t ≠ 0 := Nat.ne_of_gt (ok.hth0 _ (ok.th_mem hin')).1
      refine ⟨?_, fun hpz => ?_⟩
      · k_steps
        exact TestIs2.intro rfl hR F4 N4 (fun q hq => by repeat (first | exact List.mem_append_right _ hq | apply List.Mem.tail))
      · k_steps
        unfold Stop
        obtain ⟨hf1, hf2, hf3⟩ := d.fst_at hin'
        k_dflt (refine' indexOf_int B1 F4 X1 T1 ?k1 ?d1 ?u1 rl (d.P.map fun j => (d.ths.getD j default).val) (LL.of_news N4 (.tail _ (.tail _ (.tail _ (.tail _ (.tail _ (.tail _ (.tail _ (.tail _ (.tail _ (.tail _ (.tail _ (.tail _ (.tail _ (List.mem_append_left _ mrl))))))))))))))) ?len1 (fun i => d.n (d.P.getD i 0)) (d.n k) (d.th k).t htk0 ?hi1 (d.fst k) ?kl1 hf2 hf3 ?_)
        case k1 => exact rfl
        case d1 => ktr_room
        case u1 => ktr_units
        case len1 => rw [List.length_map, d.P_len]; decide
        case kl1 => rw [List.length_map, d.P_len]; exact hf1
        case hi1 =>
          intro i hi
          rw [List.length_map, d.P_len] at hi
          obtain ⟨x, q1, q2, q3⟩ := d.P_at hi
          refine ⟨(d.th x).t, by rw [List.getElem?_map, q1, q2]; rfl, Nat.ne_of_gt (ok.hth0 _ (ok.th_mem q3)).1, fun q => ?_⟩
          show d.n (d.P.getD i 0) = d.n k
          rw [q2, ok.tok_inj q3 hin' q]
        intro t5 h5 tk5 k5
        have F5 := fr_kp F4 k5
        have N5 := news_kp N4 k5
        have hR5 : ∀ b o, h4.get? b = some o → h5.get? b = some o := k5
        have hrk : d.rank k = d.fst k + cntB (fun i => decide (d.n i = d.n k)) k := rfl
        clear F4 N4 hf1 hf2 hf3
        generalize d.fst k = fk at *
        have hsz : (d.ths.map Th.val).toArray.size ≤ sizeLine := by rw [List.size_toArray, hv6, sizeLine_eq]; decide
        k_steps
        unfold Stop
        have hnlI5 := isl_news N5 (l := d.nl) (.tail _ (.tail _ (.tail _ (.tail _ (.tail _ (.tail _ (.tail _ (.tail _ (.tail _ (.tail _ (.tail _ (.tail _ (.tail _ (List.mem_append_left _ ok.mnl))))))))))))))
        k_dflt (refine' kmk_slice_lit (zs := (d.ths.map Th.val).take k) F5 N5 hnlI5 ?sp9 ?sq9 ?se9 ?_ ?ss9 ?st9 hsz)
        case sp9 => exact .none
        case sq9 => exact .int _ _
        case se9 => rw [slice_to hv6 hin']
        case ss9 => with_unfolding_all rfl
        case st9 => kmk_pure
        intro DS h6 F6 N6 ltS
        have hnlI6 := isl_news N6 (l := d.nl) (.tail _ (.tail _ (.tail _ (.tail _ (.tail _ (.tail _ (.tail _ (.tail _ (.tail _ (.tail _ (.tail _ (.tail _ (.tail _ (.tail _ (List.mem_append_left _ ok.mnl)))))))))))))))
        dsimp only
        clear F5 N5 hnlI5
        k_steps
        unfold Stop
        have htl : ((d.ths.map Th.val).take k).length = k := by rw [List.length_take, hv6]; omega
        k_dflt (refine' countOf_c B1 F6 X1 T1 ?k2 ?d2 ?u2 DS ((d.ths.map Th.val).take k) (isl_news N6 (.head _)) ?len2 (fun i => d.n i) (d.n k) (d.th k).t htk0 ?hi2 ?_)
        case k2 => exact rfl
        case d2 => ktr_room
        case u2 => ktr_units
        case len2 => rw [htl]; omega
        case hi2 =>
          intro i hi
          rw [htl] at hi
          have hi6 : i < 6 := by omega
          refine ⟨(d.th i).t, by rw [List.getElem?_take, if_pos hi]; exact ok.val_at hi6, Nat.ne_of_gt (ok.hth0 _ (ok.th_mem hi6)).1, fun q => ?_⟩
          show d.n i = d.n k
          rw [ok.tok_inj hi6 hin' q]
        intro t7 h7 tk7 k7
        rw [htl]
        have F7 := fr_kp F6 k7
        have N7 := news_kp N6 k7
        clear F6 N6
        k_steps
        unfold Stop
        k_dflt (refine' add_c B1 F7 X1 T1 ?k3 ?d3 ?u3 _ _ _ _ ?_)
        case k3 => exact rfl
        case d3 => ktr_room
        case u3 => ktr_units
        intro t8 h8 tk8 k8
        have F8 := fr_kp F7 k8
        have N8 := news_kp N7 k8
        exact EltIs2.plain hR F8 N8 (fun q hq => by repeat (first | exact List.mem_append_right _ hq | apply List.Mem.tail)) fun lo hh h1 h2 h3 => ⟨t8, by rw [hrk]; push_cast; rfl⟩
    · intro D2 h17 tk17 log2 hE1 hE2 hE3 hE4 hi2 hL2 k17 F17 N17 ht17
      rw [range_all] at hi2
      obtain ⟨nD, eD⟩ := hE4
      have hIL := il_log (f := d.rank) (fun e he => (hL2.1 e he).2.2.1) hi2
      generalize log2.map (·.y) = kvs at *
      have N8 : News g L1 h17 ((D2, listOf kvs.toArray nD) :: _) := fun q hq => by
        rcases List.mem_cons.mp hq with rfl | hq
        · exact ⟨eD, hE3, hE2⟩
        · exact N17 q hq
      have ofD : OffC L1 ((D2, listOf kvs.toArray nD) :: TL) := hoff.cons ⟨fresh_ne hE1 N3 (c := L1 + 1) (o := o1) (.tail _ (.tail _ (.tail _ (.tail _ (.tail _ (.tail _ (.tail _ (.tail _ (.tail _ (.tail _ (.tail _ (.head _)))))))))))), fresh_ne hE1 N3 (c := L1 + 1 + 1) (o := o2) (.tail _ (.tail _ (.tail _ (.tail _ (.tail _ (.tail _ (.tail _ (.tail _ (.tail _ (.tail _ (.head _))))))))))), fresh_ne hE1 N3 (c := L1 + 1 + 1 + 1) (o := o3) (.tail _ (.tail _ (.tail _ (.tail _ (.tail _ (.tail _ (.tail _ (.tail _ (.tail _ (.head _)))))))))), fresh_ne hE1 N3 (c := L1 + 1 + 1 + 1 + 1) (o := o4) (.tail _ (.tail _ (.tail _ (.tail _ (.tail _ (.tail _ (.tail _ (.tail _ (.head _))))))))), fresh_ne hE1 N3 (c := L1 + 1 + 1 + 1 + 1 + 1) (o := o5) (.tail _ (.tail _ (.tail _ (.tail _ (.tail _ (.tail _ (.tail _ (.head _)))))))), fresh_ne hE1 N3 (c := L1 + 1 + 1 + 1 + 1 + 1 + 1) (o := o6) (.tail _ (.tail _ (.tail _ (.tail _ (.tail _ (.tail _ (.head _))))))), fresh_ne hE1 N3 (c := L1 + 1 + 1 + 1 + 1 + 1 + 1 + 1) (o := o7) (.tail _ (.tail _ (.tail _ (.tail _ (.tail _ (.head _)))))), fresh_ne hE1 N3 (c := L1 + 1 + 1 + 1 + 1 + 1 + 1 + 1 + 1) (o := o8) (.tail _ (.tail _ (.tail _ (.tail _ (.head _))))), fresh_ne hE1 N3 (c := L1 + 1 + 1 + 1 + 1 + 1 + 1 + 1 + 1 + 1) (o := o9) (.tail _ (.tail _ (.tail _ (.head _)))), fresh_ne hE1 N3 (c := L1 + 1 + 1 + 1 + 1 + 1 + 1 + 1 + 1 + 1 + 1) (o := o10) (.tail _ (.tail _ (.head _))), fresh_ne hE1 N3 (c := L1 + 1 + 1 + 1 + 1 + 1 + 1 + 1 + 1 + 1 + 1 + 1) (o := o11) (.tail _ (.head _)), fresh_ne hE1 N3 (c := L1 + 1 + 1 + 1 + 1 + 1 + 1 + 1 + 1 + 1 + 1 + 1 + 1) (o := o12) (.head _)⟩
      have q6 := (ofD _ (.head _)).2.2.2.2.2.1
      have w6 : ∀ p ∈ TL, p.1 ≠ L1 + 1 + 1 + 1 + 1 + 1 + 1 := fun p hp => (hoff p hp).2.2.2.2.2.1
      dsimp only at F17 N8 ht17 ⊢
      clear N17
      k_steps
      unfold Stop
      rename_i h18 o6' F18 N18 d6'
      refine' LawRun.elim (k := 5) ?k7 ?hL ?e7
      case k7 => k_is
      case e7 => rfl
      case hL => exact hnext D2 nD kvs o6' h18 _ _ (fun q hq => .tail _ hq) ofD (.head _) hIL d6' (Nat.le_trans htk3 ht17) F18 fun q hq => N18 q (swap_mem (A := [(L1 + 1 + 1 + 1 + 1 + 1 + 1 + 1 + 1 + 1 + 1 + 1 + 1, o12), (L1 + 1 + 1 + 1 + 1 + 1 + 1 + 1 + 1 + 1 + 1 + 1, o11), (L1 + 1 + 1 + 1 + 1 + 1 + 1 + 1 + 1 + 1 + 1, o10), (L1 + 1 + 1 + 1 + 1 + 1 + 1 + 1 + 1 + 1, o9), (L1 + 1 + 1 + 1 + 1 + 1 + 1 + 1 + 1, o8), (L1 + 1 + 1 + 1 + 1 + 1 + 1 + 1, o7), (L1 + 1 + 1 + 1 + 1 + 1 + 1, o6'), (L1 + 1 + 1 + 1 + 1 + 1, o5), (L1 + 1 + 1 + 1 + 1, o4), (L1 + 1 + 1 + 1, o3), (L1 + 1 + 1, o2), (L1 + 1, o1)]) hq)
end

/-! S5 -/
example : True := by
  k_with_none
  k_with "subscriptTail" => (k_here; (with_reducible show wpAny _ _ (subscriptTail _ _ (Value.ref _) (Value.int _ _)) _ _ _); (with_unfolding_all refine' my_item ?q_k1 ?q_k2 ?q_k3 ?q_k4 ?_ ?q_k6; (case q_k1 => first | assumption | ((rename GSub _ _ _ => kG9); (rename Fr _ _ _ _ => F9); refine' list_up ?q_t9 kG9 F9 (by simp); (case q_t9 => assumption))); (case q_k2 => assumption); (case q_k3 => first | rfl | assumption | omega | (simp only [Int.fdiv_eq_ediv_of_nonneg _ (by decide : (0 : Int) ≤ 2)]; omega)); (case q_k4 => first | assumption | omega); (case q_k6 => with_unfolding_all rfl); k_whole))
  k_with "call builtin:len" => (k_here; (with_reducible show wpAny _ _ (call (Value.builtin "len") [Value.ref _]) _ _ _); refine' my_len ?q_k1 ?q_k2 ?_; (case q_k1 => first | assumption | ((rename GSub _ _ _ => kG9); (rename Fr _ _ _ _ => F9); refine' list_up ?q_t9 kG9 F9 (by simp); (case q_t9 => assumption))); (case q_k2 => first | assumption | omega); intro _ _)
  k_with "subscriptTail" => (k_here; (with_reducible show wpAny _ _ (subscriptTail _ _ (Value.ref _) (Value.int _ _)) _ _ _); (with_unfolding_all refine' my_titem ?q_k1 ?q_k2 ?q_k3 ?q_k4 ?_ ?q_k6; (case q_k1 => first | assumption | ((rename GSub _ _ _ => kG9); (rename Fr _ _ _ _ => F9); refine' TT.up ?q_t9 kG9 F9 (by simp); (case q_t9 => assumption))); (case q_k2 => first | assumption | decide | omega); (case q_k3 => first | assumption | exact rfl); (case q_k4 => first | assumption | (simp only [List.length_cons, List.length_nil]; decide)); (case q_k6 => with_unfolding_all rfl); k_whole))
  k_with "eval Name" => (k_here; (with_reducible show wpAny _ _ (eval (Expr.Name _ _) (compEnvC _ _ _ _)) _ _ _); (with_unfolding_all refine' wpAny_Name (wpAny_loadName_local ?q_a ?q_b ?q_c ?q_d ?_) ?q_e; (case q_a => rfl); (case q_b => rfl); (case q_c => first | assumption | exact nsC_get (by assumption) (by assumption) (by repeat (first | exact List.Mem.head _ | apply List.Mem.tail))); (case q_d => assumption); (case q_e => decide); k_whole))
  k_with "eval ListComp" => (k_here; refine stopHere ?_)
  k_with "call builtin:list.append" => (k_here; refine stopHere ?_)
  k_with "call ref" => (k_here; refine stopHere ?_)
  k_with "pyIter ref" => (k_here; refine stopHere ?_)
  k_with "execs cons" => (k_here; refine stopHere ?_)
  k_with "subscriptTail" => (k_here; (with_reducible show wpAny _ _ (subscriptTail _ _ (Value.ref _) (Value.int _ _)) _ _ _); (with_unfolding_all refine' my_item ?q_k1 ?q_k2 ?q_k3 ?q_k4 ?_ ?q_k6; (case q_k3 => first | exact rfl | exact (rfl : (0 : Int) = ((0 : Nat) : Int))); (case q_k1 => first | assumption | exact isl_news (by assumption) (by repeat (first | assumption | exact List.mem_append_left _ (by assumption) | apply List.Mem.tail))); (case q_k2 => assumption); (case q_k4 => first | assumption | omega | exact (by decide)); (case q_k6 => with_unfolding_all rfl); k_whole))
  k_with "subscriptTail Name Constant ref int" => (k_here; refine stopHere ?_)
  k_with "own k_updF" => (refine' UpdF.head ?q_a; (case q_a => (repeat (first | assumption | (refine List.forall_mem_cons.mpr ⟨by k_ne, ?_⟩)))))
  k_with "subscriptTail Name Slice ref ref" => (k_here; refine stopHere ?_)
  trivial
section
variable {g : Heap} {L1 : Addr} {Qf : Flow → Shared → Prop}
theorem law_s5 (F1 : Fr g L1 s.heap m) (X1 : (hd.heap_1 w.params).In g) (T1 : Top p loose mean mg mb g) (TL : List (Addr × Obj)) (hoff : OffC L1 TL) (d : LawD) (ok : LawOk TL d s.toks) (rl : Addr) (nr : Nat) (kl : Addr) (mrl : (rl, listOf (d.P.map fun j => (d.ths.getD j default).val).toArray nr) ∈ TL)
    (v1 : Option Value) (o1 : Obj) (d1 : o1.data = .cell v1) (o2 : Obj) (d2 : o2.data = .cell (some (.ref d.tl))) (o3 : Obj) (d3 : o3.data = .cell (some (.ref d.ll))) (o4 : Obj) (d4 : o4.data = .cell (some (.ref d.pl))) (o5 : Obj) (d5 : o5.data = .cell (some (.ref rl))) (o6 : Obj) (d6 : o6.data = .cell (some (.ref kl))) (o7 : Obj) (d7 : o7.data = .cell none) (o8 : Obj) (d8 : o8.data = .cell none) (o9 : Obj) (d9 : o9.data = .cell none) (o10 : Obj) (d10 : o10.data = .cell none) (o11 : Obj) (d11 : o11.data = .cell none) (o12 : Obj) (d12 : o12.data = .cell (some (.ref d.nl)))
    (N1 : News g L1 s.heap ((L1 + 1 + 1 + 1 + 1 + 1 + 1 + 1 + 1 + 1 + 1 + 1 + 1, o12) :: (L1 + 1 + 1 + 1 + 1 + 1 + 1 + 1 + 1 + 1 + 1 + 1, o11) :: (L1 + 1 + 1 + 1 + 1 + 1 + 1 + 1 + 1 + 1 + 1, o10) :: (L1 + 1 + 1 + 1 + 1 + 1 + 1 + 1 + 1 + 1, o9) :: (L1 + 1 + 1 + 1 + 1 + 1 + 1 + 1 + 1, o8) :: (L1 + 1 + 1 + 1 + 1 + 1 + 1 + 1, o7) :: (L1 + 1 + 1 + 1 + 1 + 1 + 1, o6) :: (L1 + 1 + 1 + 1 + 1 + 1, o5) :: (L1 + 1 + 1 + 1 + 1, o4) :: (L1 + 1 + 1 + 1, o3) :: (L1 + 1 + 1, o2) :: (L1 + 1, o1) :: TL))
    (hnext : ∀ (gl : Addr) (nk : Nat) (kvs : List Value) (o7 : Obj) (h' : Heap) (tk' : Nat) (TL' : List (Addr × Obj)), (∀ q ∈ TL, q ∈ TL') → OffC L1 TL' → (gl, listOf kvs.toArray nk) ∈ TL' → (kvs.length = 6 ∧ ∀ i, i < 6 → ∃ t, kvs[i]? = some (Value.int (d.again i) t)) → o7.data = .cell (some (.ref gl)) → s.toks ≤ tk' →
      Fr g L1 h' m → News g L1 h' ((L1 + 1 + 1 + 1 + 1 + 1 + 1 + 1 + 1 + 1 + 1 + 1 + 1, o12) :: (L1 + 1 + 1 + 1 + 1 + 1 + 1 + 1 + 1 + 1 + 1 + 1, o11) :: (L1 + 1 + 1 + 1 + 1 + 1 + 1 + 1 + 1 + 1 + 1, o10) :: (L1 + 1 + 1 + 1 + 1 + 1 + 1 + 1 + 1 + 1, o9) :: (L1 + 1 + 1 + 1 + 1 + 1 + 1 + 1 + 1, o8) :: (L1 + 1 + 1 + 1 + 1 + 1 + 1 + 1, o7) :: (L1 + 1 + 1 + 1 + 1 + 1 + 1, o6) :: (L1 + 1 + 1 + 1 + 1 + 1, o5) :: (L1 + 1 + 1 + 1 + 1, o4) :: (L1 + 1 + 1 + 1, o3) :: (L1 + 1 + 1, o2) :: (L1 + 1, o1) :: TL') → LawRun w 6 L1 Qf { s with heap := h', toks := tk' }) : LawRun w 5 L1 Qf s := by
  refine' LawRun.intro ?k6 ?_
  case k6 => k_is
  dsimp only [List.drop]
  have B1 : Below callerA g [] g := below_caller g
  refine wpAny_execs_cons ?_
  k_steps
  unfold Stop
  k_dflt (refine' comp_range2 (g := g) (L := L1) (fun _ => true) (fun i y _ _ _ => ∃ t, y = Value.int (d.again i) t) (fun i v m3 => m3 (Str.ofString "k") = some v) ?hh2 ?hclos2 ?hcell2 ?hkind2 ?hnames2 ?h2 ?hs2)
  case hh2 => rfl
  case hclos2 => rfl
  case hcell2 => decide
  case hkind2 => rfl
  case hnames2 => decide
  case hs2 => exact fun _ => rfl
  case h2 =>
    refine wpAny_with_toks (n := s.toks) (Nat.le_refl _) ?_
    k_steps
    rename_i t1 u1 v1 hr F3 N3 k3 htk3
    replace htk3 : s.toks ≤ _ := htk3
    refine RangeSrc2.intro 6 F3 N3 hr (by decide) ?_ ?_ ?_
    · intro I C D s' i v
      exact binds_name rfl rfl
    · rintro C k v h4 tk4 m4 oC R hin ⟨tv, rfl, tl, tg⟩ hlo4 hB4 hNC hR F4 N4
      have hin' : k < 6 := hin
      simp only [List.cons_append, List.nil_append] at N4
      have hmem := ok.mnl
      have hvk := ok.val_at hin'
      have h62 : (d.ths.map Th.val).length < 2 ^ 62 := by rw [List.length_map, ok.hthl]; decide
      have hv6 : (d.ths.map Th.val).length = 6 := by rw [List.length_map, ok.hthl]
      have htk0 : (d.th k).t ≠ 0 := Nat.ne_of_gt (ok.hth0 _ (ok.th_mem hin')).1
      refine ⟨?_, fun hpz => ?_⟩
      · k_steps
        exact TestIs2.intro rfl hR F4 N4 (fun q hq => by repeat (first | exact List.mem_append_right _ hq | apply List.Mem.tail))
      · k_steps
        unfold Stop
        have hsz : (d.ths.map Th.val).toArray.size ≤ sizeLine := by rw [List.size_toArray, hv6, sizeLine_eq]; decide
        have hnlI5 := isl_news N4 (l := d.nl) (.tail _ (.tail _ (.tail _ (.tail _ (.tail _ (.tail _ (.tail _ (.tail _ (.tail _ (.tail _ (.tail _ (.tail _ (.tail _ (List.mem_append_left _ ok.mnl))))))))))))))
        k_dflt (refine' kmk_slice_lit (zs := (d.ths.map Th.val).drop k) F4 N4 hnlI5 ?sp9 ?sq9 ?se9 ?_ ?ss9 ?st9 hsz)
        case sp9 => exact .int _ _
        case sq9 => exact .none
        case se9 => rw [slice_from hv6 hin']
        case ss9 => with_unfolding_all rfl
        case st9 => kmk_pure
        intro DS h6 F6 N6 ltS
        have hnlI6 := isl_news N6 (l := d.nl) (.tail _ (.tail _ (.tail _ (.tail _ (.tail _ (.tail _ (.tail _ (.tail _ (.tail _ (.tail _ (.tail _ (.tail _ (.tail _ (.tail _ (List.mem_append_left _ ok.mnl)))))))))))))))
        dsimp only
        clear F4 N4 hnlI5
        k_steps
        unfold Stop
        have htl : ((d.ths.map Th.val).drop k).length = 6 - k := by rw [List.length_drop, hv6]
        k_dflt (refine' countOf_c B1 F6 X1 T1 ?k2 ?d2 ?u2 DS ((d.ths.map Th.val).drop k) (isl_news N6 (.head _)) ?len2 (fun i => d.n (k + i)) (d.n k) (d.th k).t htk0 ?hi2 ?_)
        case k2 => exact rfl
        case d2 => ktr_room
        case u2 => ktr_units
        case len2 => rw [htl]; omega
        case hi2 =>
          intro i hi
          rw [htl] at hi
          have hi6 : k + i < 6 := by omega
          refine ⟨(d.th (k + i)).t, by rw [List.getElem?_drop]; exact ok.val_at hi6, Nat.ne_of_gt (ok.hth0 _ (ok.th_mem hi6)).1, fun q => ?_⟩
          show d.n (k + i) = d.n k
          rw [ok.tok_inj hi6 hin' q]
        intro t7 h7 tk7 k7
        rw [htl]
        have F7 := fr_kp F6 k7
        have N7 := news_kp N6 k7
        have hnlI7 := hnlI6.at fun o e => k7 _ o e
        clear F6 N6 hnlI6
        k_steps
        unfold Stop
        have hPl : (d.P.map fun j => (d.ths.getD j default).val).length = 6 := by rw [List.length_map, d.P_len]
        k_dflt (refine' bis_ints B1 F7 X1 T1 ?k1 ?d1 ?u1 rl (d.P.map fun j => (d.ths.getD j default).val) (isl_news N7 (.tail _ (.tail _ (.tail _ (.tail _ (.tail _ (.tail _ (.tail _ (.tail _ (.tail _ (.tail _ (.tail _ (.tail _ (.tail _ (.tail _ (List.mem_append_left _ mrl)))))))))))))))) ?len1 (fun i => d.n (d.P.getD i 0)) ?hi1 (d.n k) (d.th k).t ?_)
        case k1 => exact rfl
        case d1 => ktr_room
        case u1 => ktr_units
        case len1 => rw [hPl]; decide
        case hi1 =>
          intro i hi
          rw [hPl] at hi
          obtain ⟨x, q1, q2, q3⟩ := d.P_at hi
          exact ⟨(d.th x).t, by rw [List.getElem?_map, q1, q2]; rfl⟩
        intro t9 h9 tk9 k9
        rw [hPl]
        have F9 := fr_kp F7 k9
        have N9 := news_kp N7 k9
        have hag : d.again k = ((cntB (fun i => decide (d.n (k + i) = d.n k)) (6 - k) : Nat) : Int) - ((bis (fun i => decide (d.n k < d.n (d.P.getD i 0))) 0 6 : Nat) : Int) := rfl
        clear F7 N7 hnlI7
        generalize bis (fun i => decide (d.n k < d.n (d.P.getD i 0))) 0 6 = bb at *
        k_steps
        unfold Stop
        k_dflt (refine' sub_c B1 F9 X1 T1 ?k3 ?d3 ?u3 _ _ _ _ ?_)
        case k3 => exact rfl
        case d3 => ktr_room
        case u3 => ktr_units
        intro t8 h8 tk8 k8
        have F8 := fr_kp F9 k8
        have N8 := news_kp N9 k8
        exact EltIs2.plain hR F8 N8 (fun q hq => by repeat (first | exact List.mem_append_right _ hq | apply List.Mem.tail)) fun lo hh h1 h2 h3 => ⟨t8, by rw [hag]⟩
    · intro D2 h17 tk17 log2 hE1 hE2 hE3 hE4 hi2 hL2 k17 F17 N17 ht17
      rw [range_all] at hi2
      obtain ⟨nD, eD⟩ := hE4
      have hIL : (log2.map (·.y)).length = 6 ∧ ∀ i, i < 6 → ∃ t, (log2.map (·.y))[i]? = some (Value.int (d.again i) t) := il_logZ (f := d.again) (fun e he => (hL2.1 e he).2.2.1) hi2
      generalize log2.map (·.y) = kvs at *
      have N8 : News g L1 h17 ((D2, listOf kvs.toArray nD) :: _) := fun q hq => by
        rcases List.mem_cons.mp hq with rfl | hq
        · exact ⟨eD, hE3, hE2⟩
        · exact N17 q hq
      have ofD : OffC L1 ((D2, listOf kvs.toArray nD) :: TL) := hoff.cons ⟨fresh_ne hE1 N3 (c := L1 + 1) (o := o1) (.tail _ (.tail _ (.tail _ (.tail _ (.tail _ (.tail _ (.tail _ (.tail _ (.tail _ (.tail _ (.tail _ (.head _)))))))))))), fresh_ne hE1 N3 (c := L1 + 1 + 1) (o := o2) (.tail _ (.tail _ (.tail _ (.tail _ (.tail _ (.tail _ (.tail _ (.tail _ (.tail _ (.tail _ (.head _))))))))))), fresh_ne hE1 N3 (c := L1 + 1 + 1 + 1) (o := o3) (.tail _ (.tail _ (.tail _ (.tail _ (.tail _ (.tail _ (.tail _ (.tail _ (.tail _ (.head _)))))))))), fresh_ne hE1 N3 (c := L1 + 1 + 1 + 1 + 1) (o := o4) (.tail _ (.tail _ (.tail _ (.tail _ (.tail _ (.tail _ (.tail _ (.tail _ (.head _))))))))), fresh_ne hE1 N3 (c := L1 + 1 + 1 + 1 + 1 + 1) (o := o5) (.tail _ (.tail _ (.tail _ (.tail _ (.tail _ (.tail _ (.tail _ (.head _)))))))), fresh_ne hE1 N3 (c := L1 + 1 + 1 + 1 + 1 + 1 + 1) (o := o6) (.tail _ (.tail _ (.tail _ (.tail _ (.tail _ (.tail _ (.head _))))))), fresh_ne hE1 N3 (c := L1 + 1 + 1 + 1 + 1 + 1 + 1 + 1) (o := o7) (.tail _ (.tail _ (.tail _ (.tail _ (.tail _ (.head _)))))), fresh_ne hE1 N3 (c := L1 + 1 + 1 + 1 + 1 + 1 + 1 + 1 + 1) (o := o8) (.tail _ (.tail _ (.tail _ (.tail _ (.head _))))), fresh_ne hE1 N3 (c := L1 + 1 + 1 + 1 + 1 + 1 + 1 + 1 + 1 + 1) (o := o9) (.tail _ (.tail _ (.tail _ (.head _)))), fresh_ne hE1 N3 (c := L1 + 1 + 1 + 1 + 1 + 1 + 1 + 1 + 1 + 1 + 1) (o := o10) (.tail _ (.tail _ (.head _))), fresh_ne hE1 N3 (c := L1 + 1 + 1 + 1 + 1 + 1 + 1 + 1 + 1 + 1 + 1 + 1) (o := o11) (.tail _ (.head _)), fresh_ne hE1 N3 (c := L1 + 1 + 1 + 1 + 1 + 1 + 1 + 1 + 1 + 1 + 1 + 1 + 1) (o := o12) (.head _)⟩
      have q7 := (ofD _ (.head _)).2.2.2.2.2.2.1
      have w7 : ∀ p ∈ TL, p.1 ≠ L1 + 1 + 1 + 1 + 1 + 1 + 1 + 1 := fun p hp => (hoff p hp).2.2.2.2.2.2.1
      dsimp only at F17 N8 ht17 ⊢
      clear N17
      k_steps
      unfold Stop
      rename_i h18 o7' F18 N18 d7'
      refine' LawRun.elim (k := 6) ?k7 ?hL ?e7
      case k7 => k_is
      case e7 => rfl
      case hL => exact hnext D2 nD kvs o7' h18 _ _ (fun q hq => .tail _ hq) ofD (.head _) hIL d7' (Nat.le_trans htk3 ht17) F18 fun q hq => N18 q (swap_mem (A := [(L1 + 1 + 1 + 1 + 1 + 1 + 1 + 1 + 1 + 1 + 1 + 1 + 1, o12), (L1 + 1 + 1 + 1 + 1 + 1 + 1 + 1 + 1 + 1 + 1 + 1, o11), (L1 + 1 + 1 + 1 + 1 + 1 + 1 + 1 + 1 + 1 + 1, o10), (L1 + 1 + 1 + 1 + 1 + 1 + 1 + 1 + 1 + 1, o9), (L1 + 1 + 1 + 1 + 1 + 1 + 1 + 1 + 1, o8), (L1 + 1 + 1 + 1 + 1 + 1 + 1 + 1, o7'), (L1 + 1 + 1 + 1 + 1 + 1 + 1, o6), (L1 + 1 + 1 + 1 + 1 + 1, o5), (L1 + 1 + 1 + 1 + 1, o4), (L1 + 1 + 1 + 1, o3), (L1 + 1 + 1, o2), (L1 + 1, o1)]) hq)
end

/-! S6 -/
example : True := by
  k_with_none
  k_with "subscriptTail" => (k_here; (with_reducible show wpAny _ _ (subscriptTail _ _ (Value.ref _) (Value.int _ _)) _ _ _); (with_unfolding_all refine' my_item ?q_k1 ?q_k2 ?q_k3 ?q_k4 ?_ ?q_k6; (case q_k1 => first | assumption | ((rename GSub _ _ _ => kG9); (rename Fr _ _ _ _ => F9); refine' list_up ?q_t9 kG9 F9 (by simp); (case q_t9 => assumption))); (case q_k2 => assumption); (case q_k3 => first | rfl | assumption | omega | (simp only [Int.fdiv_eq_ediv_of_nonneg _ (by decide : (0 : Int) ≤ 2)]; omega)); (case q_k4 => first | assumption | omega); (case q_k6 => with_unfolding_all rfl); k_whole))
  k_with "call builtin:len" => (k_here; (with_reducible show wpAny _ _ (call (Value.builtin "len") [Value.ref _]) _ _ _); refine' my_len ?q_k1 ?q_k2 ?_; (case q_k1 => first | assumption | ((rename GSub _ _ _ => kG9); (rename Fr _ _ _ _ => F9); refine' list_up ?q_t9 kG9 F9 (by simp); (case q_t9 => assumption))); (case q_k2 => first | assumption | omega); intro _ _)
  k_with "subscriptTail" => (k_here; (with_reducible show wpAny _ _ (subscriptTail _ _ (Value.ref _) (Value.int _ _)) _ _ _); (with_unfolding_all refine' my_titem ?q_k1 ?q_k2 ?q_k3 ?q_k4 ?_ ?q_k6; (case q_k1 => first | assumption | ((rename GSub _ _ _ => kG9); (rename Fr _ _ _ _ => F9); refine' TT.up ?q_t9 kG9 F9 (by simp); (case q_t9 => assumption))); (case q_k2 => first | assumption | decide | omega); (case q_k3 => first | assumption | exact rfl); (case q_k4 => first | assumption | (simp only [List.length_cons, List.length_nil]; decide)); (case q_k6 => with_unfolding_all rfl); k_whole))
  k_with "eval Name" => (k_here; (with_reducible show wpAny _ _ (eval (Expr.Name _ _) (compEnvC _ _ _ _)) _ _ _); (with_unfolding_all refine' wpAny_Name (wpAny_loadName_local ?q_a ?q_b ?q_c ?q_d ?_) ?q_e; (case q_a => rfl); (case q_b => rfl); (case q_c => first | assumption | exact nsC_get (by assumption) (by assumption) (by repeat (first | exact List.Mem.head _ | apply List.Mem.tail))); (case q_d => assumption); (case q_e => decide); k_whole))
  k_with "eval ListComp" => (k_here; refine stopHere ?_)
  k_with "call builtin:list.append" => (k_here; refine stopHere ?_)
  k_with "call ref" => (k_here; refine stopHere ?_)
  k_with "pyIter ref" => (k_here; refine stopHere ?_)
  k_with "execs cons" => (k_here; refine stopHere ?_)
  k_with "subscriptTail" => (k_here; (with_reducible show wpAny _ _ (subscriptTail _ _ (Value.ref _) (Value.int _ _)) _ _ _); (with_unfolding_all refine' my_item ?q_k1 ?q_k2 ?q_k3 ?q_k4 ?_ ?q_k6; (case q_k3 => first | exact rfl | exact (rfl : (0 : Int) = ((0 : Nat) : Int))); (case q_k1 => first | assumption | exact isl_news (by assumption) (by repeat (first | assumption | exact List.mem_append_left _ (by assumption) | apply List.Mem.tail))); (case q_k2 => assumption); (case q_k4 => first | assumption | omega | exact (by decide)); (case q_k6 => with_unfolding_all rfl); k_whole))
  k_with "subscriptTail Name Constant ref int" => (k_here; refine stopHere ?_)
  k_with "own k_updF" => (refine' UpdF.head ?q_a; (case q_a => (repeat (first | assumption | (refine List.forall_mem_cons.mpr ⟨by k_ne, ?_⟩)))))
  k_with "subscriptTail Name Slice ref ref" => (k_here; refine stopHere ?_)
  k_with "compareOp NotEq ref ref" => (k_here; refine stopHere ?_)
  trivial
section
variable {g : Heap} {L1 : Addr} {Qf : Flow → Shared → Prop}
theorem law_s6 (F1 : Fr g L1 s.heap m) (X1 : (hd.heap_1 w.params).In g) (T1 : Top p loose mean mg mb g) (TL : List (Addr × Obj)) (hoff : OffC L1 TL) (d : LawD) (ok : LawOk TL d s.toks) (rl : Addr) (kl : Addr) (nk : Nat) (kvs : List Value) (mkl : (kl, listOf kvs.toArray nk) ∈ TL) (hkv : IL d.ranks kvs) (gl : Addr) (ng : Nat) (gvs : List Value) (mgl : (gl, listOf gvs.toArray ng) ∈ TL) (hgv : gvs.length = 6 ∧ ∀ i, i < 6 → ∃ t, gvs[i]? = some (Value.int (d.again i) t))
    (v1 : Option Value) (o1 : Obj) (d1 : o1.data = .cell v1) (o2 : Obj) (d2 : o2.data = .cell (some (.ref d.tl))) (o3 : Obj) (d3 : o3.data = .cell (some (.ref d.ll))) (o4 : Obj) (d4 : o4.data = .cell (some (.ref d.pl))) (o5 : Obj) (d5 : o5.data = .cell (some (.ref rl))) (o6 : Obj) (d6 : o6.data = .cell (some (.ref kl))) (o7 : Obj) (d7 : o7.data = .cell (some (.ref gl))) (o8 : Obj) (d8 : o8.data = .cell none) (o9 : Obj) (d9 : o9.data = .cell none) (o10 : Obj) (d10 : o10.data = .cell none) (o11 : Obj) (d11 : o11.data = .cell none) (o12 : Obj) (d12 : o12.data = .cell (some (.ref d.nl)))
    (N1 : News g L1 s.heap ((L1 + 1 + 1 + 1 + 1 + 1 + 1 + 1 + 1 + 1 + 1 + 1 + 1, o12) :: (L1 + 1 + 1 + 1 + 1 + 1 + 1 + 1 + 1 + 1 + 1 + 1, o11) :: (L1 + 1 + 1 + 1 + 1 + 1 + 1 + 1 + 1 + 1 + 1, o10) :: (L1 + 1 + 1 + 1 + 1 + 1 + 1 + 1 + 1 + 1, o9) :: (L1 + 1 + 1 + 1 + 1 + 1 + 1 + 1 + 1, o8) :: (L1 + 1 + 1 + 1 + 1 + 1 + 1 + 1, o7) :: (L1 + 1 + 1 + 1 + 1 + 1 + 1, o6) :: (L1 + 1 + 1 + 1 + 1 + 1, o5) :: (L1 + 1 + 1 + 1 + 1, o4) :: (L1 + 1 + 1 + 1, o3) :: (L1 + 1 + 1, o2) :: (L1 + 1, o1) :: TL))
    (hnext : ∀ (h' : Heap) (tk' : Nat), s.toks ≤ tk' →
      Fr g L1 h' m → News g L1 h' ((L1 + 1 + 1 + 1 + 1 + 1 + 1 + 1 + 1 + 1 + 1 + 1 + 1, o12) :: (L1 + 1 + 1 + 1 + 1 + 1 + 1 + 1 + 1 + 1 + 1 + 1, o11) :: (L1 + 1 + 1 + 1 + 1 + 1 + 1 + 1 + 1 + 1 + 1, o10) :: (L1 + 1 + 1 + 1 + 1 + 1 + 1 + 1 + 1 + 1, o9) :: (L1 + 1 + 1 + 1 + 1 + 1 + 1 + 1 + 1, o8) :: (L1 + 1 + 1 + 1 + 1 + 1 + 1 + 1, o7) :: (L1 + 1 + 1 + 1 + 1 + 1 + 1, o6) :: (L1 + 1 + 1 + 1 + 1 + 1, o5) :: (L1 + 1 + 1 + 1 + 1, o4) :: (L1 + 1 + 1 + 1, o3) :: (L1 + 1 + 1, o2) :: (L1 + 1, o1) :: TL) → LawRun w 7 L1 Qf { s with heap := h', toks := tk' }) : LawRun w 6 L1 Qf s := by
  refine' LawRun.intro ?k6 ?_
  case k6 => k_is
  dsimp only [List.drop]
  have B1 : Below callerA g [] g := below_caller g
  refine wpAny_execs_cons ?_
  k_steps
  unfold Stop
  k_dflt (refine' comp_range2 (g := g) (L := L1) (fun _ => true) (fun i y _ _ _ => ∃ t, y = Value.int 0 t) (fun i v m3 => m3 (Str.ofString "k") = some v) ?hh2 ?hclos2 ?hcell2 ?hkind2 ?hnames2 ?h2 ?hs2)
  case hh2 => rfl
  case hclos2 => rfl
  case hcell2 => decide
  case hkind2 => rfl
  case hnames2 => decide
  case hs2 => exact fun _ => rfl
  case h2 =>
    refine wpAny_with_toks (n := s.toks) (Nat.le_refl _) ?_
    k_steps
    rename_i t1 u1 v1 hr F3 N3 k3 htk3
    replace htk3 : s.toks ≤ _ := htk3
    refine RangeSrc2.intro 6 F3 N3 hr (by decide) ?_ ?_ ?_
    · intro I C D s' i v
      exact binds_name rfl rfl
    · rintro C k v h4 tk4 m4 oC R hin ⟨tv, rfl, tl, tg⟩ hlo4 hB4 hNC hR F4 N4
      have hin' : k < 6 := hin
      simp only [List.cons_append, List.nil_append] at N4
      obtain ⟨tr, er⟩ := hkv.2 k (by rw [d.ranks_len]; exact hin')
      rw [d.ranks_at hin'] at er
      obtain ⟨ta, ea⟩ := hgv.2 k hin'
      rw [d.again_eq hin'] at ea
      have hlk : kvs.length < 2 ^ 62 := by rw [hkv.1, d.ranks_len]; decide
      have hlg : gvs.length < 2 ^ 62 := by rw [hgv.1]; decide
      refine ⟨?_, fun hpz => ?_⟩
      · k_steps
        exact TestIs2.intro rfl hR F4 N4 (fun q hq => by repeat (first | exact List.mem_append_right _ hq | apply List.Mem.tail))
      · k_steps
        unfold Stop
        k_dflt (refine' add_c B1 F4 X1 T1 ?k3 ?d3 ?u3 _ _ _ _ ?_)
        case k3 => exact rfl
        case d3 => ktr_room
        case u3 => ktr_units
        intro t8 h8 tk8 k8
        have F8 := fr_kp F4 k8
        have N8 := news_kp N4 k8
        exact EltIs2.plain hR F8 N8 (fun q hq => by repeat (first | exact List.mem_append_right _ hq | apply List.Mem.tail)) fun lo hh h1 h2 h3 => ⟨t8, by rw [Int.add_right_neg]⟩
    · intro D2 h17 tk17 log2 hE1 hE2 hE3 hE4 hi2 hL2 k17 F17 N17 ht17
      rw [range_all] at hi2
      obtain ⟨nD, eD⟩ := hE4
      have hIL := il_log (f := fun _ => 0) (fun e he => (hL2.1 e he).2.2.1) hi2
      have hzz := hIL.ints
      generalize log2.map (·.y) = zvs at *
      have N8 : News g L1 h17 ((D2, listOf zvs.toArray nD) :: _) := fun q hq => by
        rcases List.mem_cons.mp hq with rfl | hq
        · exact ⟨eD, hE3, hE2⟩
        · exact N17 q hq
      dsimp only at F17 N8 ht17 ⊢
      clear N17
      k_steps
      unfold Stop
      rename_i l5 h5 F5 N5 lt5 D6 h6 F6 N6 i6 n6 s6 e6 e7 e8 lt6
      have hnz : ((List.map (fun _ => 0) (List.range 6)).map (fun n : Nat => (n : Int))) = (List.replicate (Int.toNat 6) [(0 : Int)]).flatten := by decide
      k_dflt (refine' ke_ne_ints (isl_news N6 (.tail _ (.tail _ (.head _)))) (isl_news N6 (.head _)) hzz i6 ?u1 ?_)
      case u1 => ke_room
      rw [decide_eq_true hnz]
      have N7 : News g L1 h6 ((L1 + 1 + 1 + 1 + 1 + 1 + 1 + 1 + 1 + 1 + 1 + 1 + 1, o12) :: (L1 + 1 + 1 + 1 + 1 + 1 + 1 + 1 + 1 + 1 + 1 + 1, o11) :: (L1 + 1 + 1 + 1 + 1 + 1 + 1 + 1 + 1 + 1 + 1, o10) :: (L1 + 1 + 1 + 1 + 1 + 1 + 1 + 1 + 1 + 1, o9) :: (L1 + 1 + 1 + 1 + 1 + 1 + 1 + 1 + 1, o8) :: (L1 + 1 + 1 + 1 + 1 + 1 + 1 + 1, o7) :: (L1 + 1 + 1 + 1 + 1 + 1 + 1, o6) :: (L1 + 1 + 1 + 1 + 1 + 1, o5) :: (L1 + 1 + 1 + 1 + 1, o4) :: (L1 + 1 + 1 + 1, o3) :: (L1 + 1 + 1, o2) :: (L1 + 1, o1) :: TL) := fun q hq => N6 q (.tail _ (.tail _ (.tail _ hq)))
      have htk7 : s.toks ≤ tk17 := Nat.le_trans htk3 ht17
      clear N6 N5 F5 lt5 lt6 e6 e7 e8 s6 i6 hE1 hE2 hE3 hL2 k17 eD
      dsimp only
      k_steps
      unfold Stop
      k_dflt (refine' comp_range2 (g := g) (L := L1) (fun _ => true) (fun i y _ _ _ => ∃ t, y = Value.int ((d.rank i : Nat) : Int) t) (fun i v m3 => m3 (Str.ofString "k") = some v) ?hh3 ?hclos3 ?hcell3 ?hkind3 ?hnames3 ?h3 ?hs3)
      case hh3 => rfl
      case hclos3 => rfl
      case hcell3 => decide
      case hkind3 => rfl
      case hnames3 => decide
      case hs3 => exact fun _ => rfl
      case h3 =>
        refine wpAny_with_toks (n := s.toks) (by dsimp only; omega) ?_
        k_steps
        rename_i t2 u2 v2 hr2 F8 N8 k8 htk8
        replace htk8 : s.toks ≤ _ := htk8
        refine RangeSrc2.intro 6 F8 N8 hr2 (by decide) ?_ ?_ ?_
        · intro I C D s' i v
          exact binds_name rfl rfl
        · rintro C k v h4 tk4 m4 oC R hin ⟨tv, rfl, tl, tg⟩ hlo4 hB4 hNC hR F4 N4
          have hin' : k < 6 := hin
          simp only [List.cons_append, List.nil_append] at N4
          have htv : s.toks ≤ tv := Nat.le_trans htk8 tl
          have hs0 : 0 < s.toks := Nat.lt_trans (ok.hth0 _ (ok.th_mem hin')).1 (ok.hth0 _ (ok.th_mem hin')).2
          refine ⟨?_, fun hpz => ?_⟩
          · k_steps
            exact TestIs2.intro rfl hR F4 N4 (fun q hq => by repeat (first | exact List.mem_append_right _ hq | apply List.Mem.tail))
          · k_steps
            unfold Stop
            k_dflt (refine' indexOf_int B1 F4 X1 T1 ?k1 ?d1 ?u1 d.pl d.pvs (LL.of_news N4 (.tail _ (.tail _ (.tail _ (.tail _ (.tail _ (.tail _ (.tail _ (.tail _ (.tail _ (.tail _ (.tail _ (.tail _ (.tail _ (List.mem_append_left _ ok.mpl))))))))))))))) ?len1 (fun i => ((d.P.getD i 0 : Nat) : Int)) (k : Int) tv (Nat.ne_of_gt (Nat.lt_of_lt_of_le hs0 htv)) ?hi1 (d.rank k) ?kl1 ?kx1 ?kf1 ?_)
            case k1 => exact rfl
            case d1 => ktr_room
            case u1 => ktr_units
            case len1 => rw [ok.jv.1, d.P_len]; decide
            case kl1 => rw [ok.jv.1, d.P_len]; exact d.rank_lt hin'
            case kx1 => rw [d.P_rank hin']
            case kf1 => exact fun i hi => d.P_before hin' hi
            case hi1 =>
              intro i hi
              obtain ⟨t, et⟩ := ok.jv.get hi
              obtain ⟨n', t', e1, e2, e3⟩ := ok.jt _ (List.mem_of_getElem? et)
              cases e1
              exact ⟨_, et, Nat.ne_of_gt e2, fun q => absurd q (Nat.ne_of_lt (Nat.lt_of_lt_of_le e3 htv))⟩
            intro t9 h9 tk9 k9
            have F9 := fr_kp F4 k9
            have N9 := news_kp N4 k9
            exact EltIs2.plain hR F9 N9 (fun q hq => by repeat (first | exact List.mem_append_right _ hq | apply List.Mem.tail)) fun lo hh h1 h2 h3 => ⟨t9, rfl⟩
        · intro D9 h19 tk19 log9 hE1 hE2 hE3 hE4 hi9 hL9 k19 F19 N19 ht19
          rw [range_all] at hi9
          obtain ⟨nE, eE⟩ := hE4
          have hIL9 := il_log (f := d.rank) (fun e he => (hL9.1 e he).2.2.1) hi9
          generalize log9.map (·.y) = qvs at *
          have N20 : News g L1 h19 ((D9, listOf qvs.toArray nE) :: _) := fun q hq => by
            rcases List.mem_cons.mp hq with rfl | hq
            · exact ⟨eE, hE3, hE2⟩
            · exact N19 q hq
          have htk20 : s.toks ≤ tk19 := Nat.le_trans htk8 ht19
          dsimp only at F19 N20 ⊢
          clear N19
          k_steps
          unfold Stop
          k_dflt (refine' ke_ne_ints (isl_news N20 (.head _)) (isl_news N20 (.tail _ (.tail _ (.tail _ (.tail _ (.tail _ (.tail _ (.tail _ (.tail _ (.tail _ (.tail _ (.tail _ (.tail _ (.tail _ mkl)))))))))))))) hIL9.ints hkv.ints ?u2 ?_)
          case u2 => ke_room
          rw [show (!decide (List.map (fun n : Nat => (n : Int)) (List.map d.rank (List.range 6)) = List.map (fun n : Nat => (n : Int)) d.ranks)) = false by rw [decide_eq_true (show List.map (fun n : Nat => (n : Int)) (List.map d.rank (List.range 6)) = List.map (fun n : Nat => (n : Int)) d.ranks from rfl)]; rfl]
          have N21 : News g L1 h19 ((L1 + 1 + 1 + 1 + 1 + 1 + 1 + 1 + 1 + 1 + 1 + 1 + 1, o12) :: (L1 + 1 + 1 + 1 + 1 + 1 + 1 + 1 + 1 + 1 + 1 + 1, o11) :: (L1 + 1 + 1 + 1 + 1 + 1 + 1 + 1 + 1 + 1 + 1, o10) :: (L1 + 1 + 1 + 1 + 1 + 1 + 1 + 1 + 1 + 1, o9) :: (L1 + 1 + 1 + 1 + 1 + 1 + 1 + 1 + 1, o8) :: (L1 + 1 + 1 + 1 + 1 + 1 + 1 + 1, o7) :: (L1 + 1 + 1 + 1 + 1 + 1 + 1, o6) :: (L1 + 1 + 1 + 1 + 1 + 1, o5) :: (L1 + 1 + 1 + 1 + 1, o4) :: (L1 + 1 + 1 + 1, o3) :: (L1 + 1 + 1, o2) :: (L1 + 1, o1) :: TL) := fun q hq => N20 q (.tail _ hq)
          k_steps
          unfold Stop
          refine' LawRun.elim (k := 7) ?k7 ?hL ?e7
          case k7 => k_is
          case e7 => rfl
          case hL => exact hnext h19 _ htk20 F19 N21
end

/-! S7 -/
example : True := by
  k_with_none
  k_with "subscriptTail" => (k_here; (with_reducible show wpAny _ _ (subscriptTail _ _ (Value.ref _) (Value.int _ _)) _ _ _); (with_unfolding_all refine' my_item ?q_k1 ?q_k2 ?q_k3 ?q_k4 ?_ ?q_k6; (case q_k1 => first | assumption | ((rename GSub _ _ _ => kG9); (rename Fr _ _ _ _ => F9); refine' list_up ?q_t9 kG9 F9 (by simp); (case q_t9 => assumption))); (case q_k2 => assumption); (case q_k3 => first | rfl | assumption | omega | (simp only [Int.fdiv_eq_ediv_of_nonneg _ (by decide : (0 : Int) ≤ 2)]; omega)); (case q_k4 => first | assumption | omega); (case q_k6 => with_unfolding_all rfl); k_whole))
  k_with "call builtin:len" => (k_here; (with_reducible show wpAny _ _ (call (Value.builtin "len") [Value.ref _]) _ _ _); refine' my_len ?q_k1 ?q_k2 ?_; (case q_k1 => first | assumption | ((rename GSub _ _ _ => kG9); (rename Fr _ _ _ _ => F9); refine' list_up ?q_t9 kG9 F9 (by simp); (case q_t9 => assumption))); (case q_k2 => first | assumption | omega); intro _ _)
  k_with "subscriptTail" => (k_here; (with_reducible show wpAny _ _ (subscriptTail _ _ (Value.ref _) (Value.int _ _)) _ _ _); (with_unfolding_all refine' my_titem ?q_k1 ?q_k2 ?q_k3 ?q_k4 ?_ ?q_k6; (case q_k1 => first | assumption | ((rename GSub _ _ _ => kG9); (rename Fr _ _ _ _ => F9); refine' TT.up ?q_t9 kG9 F9 (by simp); (case q_t9 => assumption))); (case q_k2 => first | assumption | decide | omega); (case q_k3 => first | assumption | exact rfl); (case q_k4 => first | assumption | (simp only [List.length_cons, List.length_nil]; decide)); (case q_k6 => with_unfolding_all rfl); k_whole))
  k_with "eval Name" => (k_here; (with_reducible show wpAny _ _ (eval (Expr.Name _ _) (compEnvC _ _ _ _)) _ _ _); (with_unfolding_all refine' wpAny_Name (wpAny_loadName_local ?q_a ?q_b ?q_c ?q_d ?_) ?q_e; (case q_a => rfl); (case q_b => rfl); (case q_c => first | assumption | exact nsC_get (by assumption) (by assumption) (by repeat (first | exact List.Mem.head _ | apply List.Mem.tail))); (case q_d => assumption); (case q_e => decide); k_whole))
  k_with "eval ListComp" => (k_here; refine stopHere ?_)
  k_with "call builtin:list.append" => (k_here; refine stopHere ?_)
  k_with "call ref" => (k_here; refine stopHere ?_)
  k_with "pyIter ref" => (k_here; refine stopHere ?_)
  k_with "execs cons" => (k_here; refine stopHere ?_)
  k_with "subscriptTail" => (k_here; (with_reducible show wpAny _ _ (subscriptTail _ _ (Value.ref _) (Value.int _ _)) _ _ _); (with_unfolding_all refine' my_item ?q_k1 ?q_k2 ?q_k3 ?q_k4 ?_ ?q_k6; (case q_k3 => first | exact rfl | exact (rfl : (0 : Int) = ((0 : Nat) : Int))); (case q_k1 => first | assumption | exact isl_news (by assumption) (by repeat (first | assumption | exact List.mem_append_left _ (by assumption) | apply List.Mem.tail))); (case q_k2 => assumption); (case q_k4 => first | assumption | omega | exact (by decide)); (case q_k6 => with_unfolding_all rfl); k_whole))
  k_with "subscriptTail Name Constant ref int" => (k_here; refine stopHere ?_)
  k_with "own k_updF" => (refine' UpdF.head ?q_a; (case q_a => (repeat (first | assumption | (refine List.forall_mem_cons.mpr ⟨by k_ne, ?_⟩)))))
  k_with "subscriptTail Name Slice ref ref" => (k_here; refine stopHere ?_)
  k_with "compareOp NotEq ref ref" => (k_here; refine stopHere ?_)
  trivial
section
variable {g : Heap} {L1 : Addr} {Qf : Flow → Shared → Prop}
theorem law_s7 (F1 : Fr g L1 s.heap m) (X1 : (hd.heap_1 w.params).In g) (T1 : Top p loose mean mg mb g) (TL : List (Addr × Obj)) (hoff : OffC L1 TL) (d : LawD) (ok : LawOk TL d s.toks) (rl : Addr) (kl : Addr) (nk : Nat) (kvs : List Value) (mkl : (kl, listOf kvs.toArray nk) ∈ TL) (hkv : IL d.ranks kvs) (gl : Addr)
    (v1 : Option Value) (o1 : Obj) (d1 : o1.data = .cell v1) (o2 : Obj) (d2 : o2.data = .cell (some (.ref d.tl))) (o3 : Obj) (d3 : o3.data = .cell (some (.ref d.ll))) (o4 : Obj) (d4 : o4.data = .cell (some (.ref d.pl))) (o5 : Obj) (d5 : o5.data = .cell (some (.ref rl))) (o6 : Obj) (d6 : o6.data = .cell (some (.ref kl))) (o7 : Obj) (d7 : o7.data = .cell (some (.ref gl))) (o8 : Obj) (d8 : o8.data = .cell none) (o9 : Obj) (d9 : o9.data = .cell none) (o10 : Obj) (d10 : o10.data = .cell none) (o11 : Obj) (d11 : o11.data = .cell none) (o12 : Obj) (d12 : o12.data = .cell (some (.ref d.nl)))
    (N1 : News g L1 s.heap ((L1 + 1 + 1 + 1 + 1 + 1 + 1 + 1 + 1 + 1 + 1 + 1 + 1, o12) :: (L1 + 1 + 1 + 1 + 1 + 1 + 1 + 1 + 1 + 1 + 1 + 1, o11) :: (L1 + 1 + 1 + 1 + 1 + 1 + 1 + 1 + 1 + 1 + 1, o10) :: (L1 + 1 + 1 + 1 + 1 + 1 + 1 + 1 + 1 + 1, o9) :: (L1 + 1 + 1 + 1 + 1 + 1 + 1 + 1 + 1, o8) :: (L1 + 1 + 1 + 1 + 1 + 1 + 1 + 1, o7) :: (L1 + 1 + 1 + 1 + 1 + 1 + 1, o6) :: (L1 + 1 + 1 + 1 + 1 + 1, o5) :: (L1 + 1 + 1 + 1 + 1, o4) :: (L1 + 1 + 1 + 1, o3) :: (L1 + 1 + 1, o2) :: (L1 + 1, o1) :: TL))
    (hnext : ∀ (h' : Heap) (tk' : Nat), s.toks ≤ tk' →
      Fr g L1 h' m → News g L1 h' ((L1 + 1 + 1 + 1 + 1 + 1 + 1 + 1 + 1 + 1 + 1 + 1 + 1, o12) :: (L1 + 1 + 1 + 1 + 1 + 1 + 1 + 1 + 1 + 1 + 1 + 1, o11) :: (L1 + 1 + 1 + 1 + 1 + 1 + 1 + 1 + 1 + 1 + 1, o10) :: (L1 + 1 + 1 + 1 + 1 + 1 + 1 + 1 + 1 + 1, o9) :: (L1 + 1 + 1 + 1 + 1 + 1 + 1 + 1 + 1, o8) :: (L1 + 1 + 1 + 1 + 1 + 1 + 1 + 1, o7) :: (L1 + 1 + 1 + 1 + 1 + 1 + 1, o6) :: (L1 + 1 + 1 + 1 + 1 + 1, o5) :: (L1 + 1 + 1 + 1 + 1, o4) :: (L1 + 1 + 1 + 1, o3) :: (L1 + 1 + 1, o2) :: (L1 + 1, o1) :: TL) → LawRun w 8 L1 Qf { s with heap := h', toks := tk' }) : LawRun w 7 L1 Qf s := by
  refine' LawRun.intro ?k6 ?_
  case k6 => k_is
  dsimp only [List.drop]
  have B1 : Below callerA g [] g := below_caller g
  refine wpAny_execs_cons ?_
  k_steps
  unfold Stop
  k_dflt (refine' comp_range2 (g := g) (L := L1) (fun _ => false) (fun i y _ _ _ => True) (fun i v m3 => m3 (Str.ofString "k") = some v) ?hh2 ?hclos2 ?hcell2 ?hkind2 ?hnames2 ?h2 ?hs2)
  case hh2 => rfl
  case hclos2 => rfl
  case hcell2 => decide
  case hkind2 => rfl
  case hnames2 => decide
  case hs2 => exact fun _ => rfl
  case h2 =>
    refine wpAny_with_toks (n := s.toks) (Nat.le_refl _) ?_
    k_steps
    rename_i t1 u1 v1 hr F3 N3 k3 htk3
    replace htk3 : s.toks ≤ _ := htk3
    refine RangeSrc2.intro 6 F3 N3 hr (by decide) ?_ ?_ ?_
    · intro I C D s' i v
      exact binds_name rfl rfl
    · rintro C k v h4 tk4 m4 oC R hin ⟨tv, rfl, tl, tg⟩ hlo4 hB4 hNC hR F4 N4
      have hin' : k < 6 := hin
      simp only [List.cons_append, List.nil_append] at N4
      obtain ⟨tr, er⟩ := hkv.2 k (by rw [d.ranks_len]; exact hin')
      rw [d.ranks_at hin'] at er
      have hlk : kvs.length < 2 ^ 62 := by rw [hkv.1, d.ranks_len]; decide
      obtain ⟨lvs, mll, hll, ell⟩ : ∃ lvs : List Value, (d.ll, listOf lvs.toArray d.nq) ∈ TL ∧ lvs.length < 2 ^ 62 ∧ lvs[d.rank k]? = some (.ref (d.th k).a) :=
        ⟨_, ok.mll, by rw [List.length_map, d.P_len]; decide, by rw [List.getElem?_map, d.P_rank? hin']; rfl⟩
      obtain ⟨tvs, mtl, htl, etl⟩ : ∃ tvs : List Value, (d.tl, listOf tvs.toArray d.nt) ∈ TL ∧ tvs.length < 2 ^ 62 ∧ tvs[k]? = some (.ref (d.th k).a) :=
        ⟨_, ok.mtl, by rw [List.length_map, ok.hthl]; decide, by
          have hj' : k < d.ths.length := by rw [ok.hthl]; exact hin'
          rw [List.getElem?_map, List.getElem?_eq_getElem hj']
          simp [List.getD_eq_getElem?_getD, hj']⟩
      generalize d.rank k = rk at *
      generalize (d.th k).a = ak at *
      refine ⟨?_, fun hpz => ?_⟩
      · k_steps
        exact TestIs2.intro rfl hR F4 N4 (fun q hq => by repeat (first | exact List.mem_append_right _ hq | apply List.Mem.tail))
      · cases hpz
    · intro D2 h17 tk17 log2 hE1 hE2 hE3 hE4 hi2 hL2 k17 F17 N17 ht17
      have hi2' : log2 = [] := by
        have : (List.range 6).filter (fun _ => false) = [] := by decide
        rw [this] at hi2
        exact List.map_eq_nil_iff.mp hi2
      subst hi2'
      obtain ⟨nD, eD⟩ := hE4
      have N8 : News g L1 h17 ((D2, listOf ([] : List Value).toArray nD) :: _) := fun q hq => by
        rcases List.mem_cons.mp hq with rfl | hq
        · exact ⟨eD, hE3, hE2⟩
        · exact N17 q hq
      have htk20 : s.toks ≤ tk17 := Nat.le_trans htk3 ht17
      dsimp only at F17 N8 ht17 ⊢
      clear N17
      k_steps
      unfold Stop
      rename_i l5 h5 F5 N5 lt5
      k_dflt (refine' ke_ne_ints (xs := []) (ys := []) (isl_news N5 (.tail _ (.head _))) (isl_news N5 (.head _)) .nil .nil ?u1 ?_)
      case u1 => ke_room
      rw [show (!decide (([] : List Int) = [])) = false by decide]
      have N7 : News g L1 h5 ((L1 + 1 + 1 + 1 + 1 + 1 + 1 + 1 + 1 + 1 + 1 + 1 + 1, o12) :: (L1 + 1 + 1 + 1 + 1 + 1 + 1 + 1 + 1 + 1 + 1 + 1, o11) :: (L1 + 1 + 1 + 1 + 1 + 1 + 1 + 1 + 1 + 1 + 1, o10) :: (L1 + 1 + 1 + 1 + 1 + 1 + 1 + 1 + 1 + 1, o9) :: (L1 + 1 + 1 + 1 + 1 + 1 + 1 + 1 + 1, o8) :: (L1 + 1 + 1 + 1 + 1 + 1 + 1 + 1, o7) :: (L1 + 1 + 1 + 1 + 1 + 1 + 1, o6) :: (L1 + 1 + 1 + 1 + 1 + 1, o5) :: (L1 + 1 + 1 + 1 + 1, o4) :: (L1 + 1 + 1 + 1, o3) :: (L1 + 1 + 1, o2) :: (L1 + 1, o1) :: TL) := fun q hq => N5 q (.tail _ (.tail _ hq))
      clear N5 lt5
      dsimp only
      k_steps
      unfold Stop
      refine' LawRun.elim (k := 8) ?k7 ?hL ?e7
      case k7 => k_is
      case e7 => rfl
      case hL => exact hnext h5 _ htk20 F5 N7
end

/-! S8 -/
example : True := by
  k_with_none
  k_with "subscriptTail" => (k_here; (with_reducible show wpAny _ _ (subscriptTail _ _ (Value.ref _) (Value.int _ _)) _ _ _); (with_unfolding_all refine' my_item ?q_k1 ?q_k2 ?q_k3 ?q_k4 ?_ ?q_k6; (case q_k1 => first | assumption | ((rename GSub _ _ _ => kG9); (rename Fr _ _ _ _ => F9); refine' list_up ?q_t9 kG9 F9 (by simp); (case q_t9 => assumption))); (case q_k2 => assumption); (case q_k3 => first | rfl | assumption | omega | (simp only [Int.fdiv_eq_ediv_of_nonneg _ (by decide : (0 : Int) ≤ 2)]; omega)); (case q_k4 => first | assumption | omega); (case q_k6 => with_unfolding_all rfl); k_whole))
  k_with "call builtin:len" => (k_here; (with_reducible show wpAny _ _ (call (Value.builtin "len") [Value.ref _]) _ _ _); refine' my_len ?q_k1 ?q_k2 ?_; (case q_k1 => first | assumption | ((rename GSub _ _ _ => kG9); (rename Fr _ _ _ _ => F9); refine' list_up ?q_t9 kG9 F9 (by simp); (case q_t9 => assumption))); (case q_k2 => first | assumption | omega); intro _ _)
  k_with "subscriptTail" => (k_here; (with_reducible show wpAny _ _ (subscriptTail _ _ (Value.ref _) (Value.int _ _)) _ _ _); (with_unfolding_all refine' my_titem ?q_k1 ?q_k2 ?q_k3 ?q_k4 ?_ ?q_k6; (case q_k1 => first | assumption | ((rename GSub _ _ _ => kG9); (rename Fr _ _ _ _ => F9); refine' TT.up ?q_t9 kG9 F9 (by simp); (case q_t9 => assumption))); (case q_k2 => first | assumption | decide | omega); (case q_k3 => first | assumption | exact rfl); (case q_k4 => first | assumption | (simp only [List.length_cons, List.length_nil]; decide)); (case q_k6 => with_unfolding_all rfl); k_whole))
  k_with "eval Name" => (k_here; (with_reducible show wpAny _ _ (eval (Expr.Name _ _) (compEnvC _ _ _ _)) _ _ _); (with_unfolding_all refine' wpAny_Name (wpAny_loadName_local ?q_a ?q_b ?q_c ?q_d ?_) ?q_e; (case q_a => rfl); (case q_b => rfl); (case q_c => first | assumption | exact nsC_get (by assumption) (by assumption) (by repeat (first | exact List.Mem.head _ | apply List.Mem.tail))); (case q_d => assumption); (case q_e => decide); k_whole))
  k_with "eval ListComp" => (k_here; refine stopHere ?_)
  k_with "call builtin:list.append" => (k_here; refine stopHere ?_)
  k_with "call ref" => (k_here; refine stopHere ?_)
  k_with "pyIter ref" => (k_here; refine stopHere ?_)
  k_with "execs cons" => (k_here; refine stopHere ?_)
  k_with "subscriptTail" => (k_here; (with_reducible show wpAny _ _ (subscriptTail _ _ (Value.ref _) (Value.int _ _)) _ _ _); (with_unfolding_all refine' my_item ?q_k1 ?q_k2 ?q_k3 ?q_k4 ?_ ?q_k6; (case q_k3 => first | exact rfl | exact (rfl : (0 : Int) = ((0 : Nat) : Int))); (case q_k1 => first | assumption | exact isl_news (by assumption) (by repeat (first | assumption | exact List.mem_append_left _ (by assumption) | apply List.Mem.tail))); (case q_k2 => assumption); (case q_k4 => first | assumption | omega | exact (by decide)); (case q_k6 => with_unfolding_all rfl); k_whole))
  k_with "subscriptTail Name Constant ref int" => (k_here; refine stopHere ?_)
  k_with "own k_updF" => (refine' UpdF.head ?q_a; (case q_a => (repeat (first | assumption | (refine List.forall_mem_cons.mpr ⟨by k_ne, ?_⟩)))))
  k_with "subscriptTail Name Slice ref ref" => (k_here; refine stopHere ?_)
  trivial
section
variable {g : Heap} {L1 : Addr} {Qf : Flow → Shared → Prop}
theorem law_s8 (F1 : Fr g L1 s.heap m) (X1 : (hd.heap_1 w.params).In g) (T1 : Top p loose mean mg mb g) (TL : List (Addr × Obj)) (hoff : OffC L1 TL) (d : LawD) (rl : Addr) (kl : Addr) (nk : Nat) (kvs : List Value) (mkl : (kl, listOf kvs.toArray nk) ∈ TL) (hkv : IL d.ranks kvs) (gl : Addr)
    (hs bs : List (Nat × Nat)) (hpure : turnsF true d.ranks 0 [] [] = some (hs, bs)) (hall : ∀ k, k < 6 → ∃ r ∈ hs, r.2 = k)
    (v1 : Option Value) (o1 : Obj) (d1 : o1.data = .cell v1) (o2 : Obj) (d2 : o2.data = .cell (some (.ref d.tl))) (o3 : Obj) (d3 : o3.data = .cell (some (.ref d.ll))) (o4 : Obj) (d4 : o4.data = .cell (some (.ref d.pl))) (o5 : Obj) (d5 : o5.data = .cell (some (.ref rl))) (o6 : Obj) (d6 : o6.data = .cell (some (.ref kl))) (o7 : Obj) (d7 : o7.data = .cell (some (.ref gl))) (o8 : Obj) (d8 : o8.data = .cell none) (o9 : Obj) (d9 : o9.data = .cell none) (o10 : Obj) (d10 : o10.data = .cell none) (o11 : Obj) (d11 : o11.data = .cell none) (o12 : Obj) (d12 : o12.data = .cell (some (.ref d.nl)))
    (N1 : News g L1 s.heap ((L1 + 1 + 1 + 1 + 1 + 1 + 1 + 1 + 1 + 1 + 1 + 1 + 1, o12) :: (L1 + 1 + 1 + 1 + 1 + 1 + 1 + 1 + 1 + 1 + 1 + 1, o11) :: (L1 + 1 + 1 + 1 + 1 + 1 + 1 + 1 + 1 + 1 + 1, o10) :: (L1 + 1 + 1 + 1 + 1 + 1 + 1 + 1 + 1 + 1, o9) :: (L1 + 1 + 1 + 1 + 1 + 1 + 1 + 1 + 1, o8) :: (L1 + 1 + 1 + 1 + 1 + 1 + 1 + 1, o7) :: (L1 + 1 + 1 + 1 + 1 + 1 + 1, o6) :: (L1 + 1 + 1 + 1 + 1 + 1, o5) :: (L1 + 1 + 1 + 1 + 1, o4) :: (L1 + 1 + 1 + 1, o3) :: (L1 + 1 + 1, o2) :: (L1 + 1, o1) :: TL))
    (hnext : ∀ (t : TabD) (o8 : Obj) (h' : Heap) (tk' : Nat) (TL' : List (Addr × Obj)), (∀ q ∈ TL, q ∈ TL') → OffC L1 TL' → TabOk TL' hs bs t → o8.data = .cell (some (.ref t.dn)) →
      Fr g L1 h' (m8 m t) → News g L1 h' ((L1 + 1 + 1 + 1 + 1 + 1 + 1 + 1 + 1 + 1 + 1 + 1 + 1, o12) :: (L1 + 1 + 1 + 1 + 1 + 1 + 1 + 1 + 1 + 1 + 1 + 1, o11) :: (L1 + 1 + 1 + 1 + 1 + 1 + 1 + 1 + 1 + 1 + 1, o10) :: (L1 + 1 + 1 + 1 + 1 + 1 + 1 + 1 + 1 + 1, o9) :: (L1 + 1 + 1 + 1 + 1 + 1 + 1 + 1 + 1, o8) :: (L1 + 1 + 1 + 1 + 1 + 1 + 1 + 1, o7) :: (L1 + 1 + 1 + 1 + 1 + 1 + 1, o6) :: (L1 + 1 + 1 + 1 + 1 + 1, o5) :: (L1 + 1 + 1 + 1 + 1, o4) :: (L1 + 1 + 1 + 1, o3) :: (L1 + 1 + 1, o2) :: (L1 + 1, o1) :: TL') → LawRun w 9 L1 Qf { s with heap := h', toks := tk' }) : LawRun w 8 L1 Qf s := by
  refine' LawRun.intro ?k6 ?_
  case k6 => k_is
  dsimp only [List.drop]
  have B1 : Below callerA g [] g := below_caller g
  refine wpAny_execs_cons ?_
  k_steps
  unfold Stop
  obtain ⟨sv, hsv1, hsv2⟩ := hkv.pairs
  subst hsv2
  rw [hsv1] at hpure
  k_dflt (refine' tables_c B1 F1 X1 T1 ?k1 ?d1 ?u1 kl sv true (LL.of_news N1 (.tail _ (.tail _ (.tail _ (.tail _ (.tail _ (.tail _ (.tail _ (.tail _ (.tail _ (.tail _ (.tail _ (.tail _ mkl))))))))))))) ?e1 ?e2 ?e3 hs bs hpure hall ?_)
  case k1 => exact rfl
  case d1 => ktr_room
  case u1 => ktr_units
  case e1 => rw [← List.length_map (f := fun q : Nat × Tok => q.1), ← hsv1, d.ranks_len]
  case e2 => exact fun q hq => d.ranks_lt _ (hsv1 ▸ List.mem_map_of_mem hq)
  case e3 => rw [← hsv1]; exact d.ranks_nodup
  intro D t as h2 tk2 hf hD tok k2
  have F2 := fr_kp F1 k2
  have N2 : News g L1 h2 ((D, ({ cls := .type "tuple", data := .seq #[.ref t.dn, .ref t.x, .ref t.b, .ref t.al] } : Obj)) :: (L1 + 1 + 1 + 1 + 1 + 1 + 1 + 1 + 1 + 1 + 1 + 1 + 1, o12) :: (L1 + 1 + 1 + 1 + 1 + 1 + 1 + 1 + 1 + 1 + 1 + 1, o11) :: (L1 + 1 + 1 + 1 + 1 + 1 + 1 + 1 + 1 + 1 + 1, o10) :: (L1 + 1 + 1 + 1 + 1 + 1 + 1 + 1 + 1 + 1, o9) :: (L1 + 1 + 1 + 1 + 1 + 1 + 1 + 1 + 1, o8) :: (L1 + 1 + 1 + 1 + 1 + 1 + 1 + 1, o7) :: (L1 + 1 + 1 + 1 + 1 + 1 + 1, o6) :: (L1 + 1 + 1 + 1 + 1 + 1, o5) :: (L1 + 1 + 1 + 1 + 1, o4) :: (L1 + 1 + 1 + 1, o3) :: (L1 + 1 + 1, o2) :: (L1 + 1, o1) :: (as ++ TL)) := fun q hq => by
    have hN := news_kp N1 k2
    have fa : ∀ q ∈ as, h2.get? q.1 = some q.2 ∧ q.1 ≠ L1 ∧ g.get? q.1 = none := fun q hq => ⟨(hf q hq).2, (fresh_of F1 (hf q hq).1).2, (fresh_of F1 (hf q hq).1).1⟩
    rcases List.mem_cons.mp hq with rfl | hq
    · exact fa _ hD
    rw [show ((L1 + 1 + 1 + 1 + 1 + 1 + 1 + 1 + 1 + 1 + 1 + 1 + 1, o12) :: (L1 + 1 + 1 + 1 + 1 + 1 + 1 + 1 + 1 + 1 + 1 + 1, o11) :: (L1 + 1 + 1 + 1 + 1 + 1 + 1 + 1 + 1 + 1 + 1, o10) :: (L1 + 1 + 1 + 1 + 1 + 1 + 1 + 1 + 1 + 1, o9) :: (L1 + 1 + 1 + 1 + 1 + 1 + 1 + 1 + 1, o8) :: (L1 + 1 + 1 + 1 + 1 + 1 + 1 + 1, o7) :: (L1 + 1 + 1 + 1 + 1 + 1 + 1, o6) :: (L1 + 1 + 1 + 1 + 1 + 1, o5) :: (L1 + 1 + 1 + 1 + 1, o4) :: (L1 + 1 + 1 + 1, o3) :: (L1 + 1 + 1, o2) :: (L1 + 1, o1) :: (as ++ TL)) = [(L1 + 1 + 1 + 1 + 1 + 1 + 1 + 1 + 1 + 1 + 1 + 1 + 1, o12), (L1 + 1 + 1 + 1 + 1 + 1 + 1 + 1 + 1 + 1 + 1 + 1, o11), (L1 + 1 + 1 + 1 + 1 + 1 + 1 + 1 + 1 + 1 + 1, o10), (L1 + 1 + 1 + 1 + 1 + 1 + 1 + 1 + 1 + 1, o9), (L1 + 1 + 1 + 1 + 1 + 1 + 1 + 1 + 1, o8), (L1 + 1 + 1 + 1 + 1 + 1 + 1 + 1, o7), (L1 + 1 + 1 + 1 + 1 + 1 + 1, o6), (L1 + 1 + 1 + 1 + 1 + 1, o5), (L1 + 1 + 1 + 1 + 1, o4), (L1 + 1 + 1 + 1, o3), (L1 + 1 + 1, o2), (L1 + 1, o1)] ++ (as ++ TL) from rfl] at hq
    rcases List.mem_append.mp hq with hq | hq
    · exact hN q (List.mem_append_left TL hq)
    rcases List.mem_append.mp hq with hq | hq
    · exact fa q hq
    · exact hN q (List.mem_append_right [(L1 + 1 + 1 + 1 + 1 + 1 + 1 + 1 + 1 + 1 + 1 + 1 + 1, o12), (L1 + 1 + 1 + 1 + 1 + 1 + 1 + 1 + 1 + 1 + 1 + 1, o11), (L1 + 1 + 1 + 1 + 1 + 1 + 1 + 1 + 1 + 1 + 1, o10), (L1 + 1 + 1 + 1 + 1 + 1 + 1 + 1 + 1 + 1, o9), (L1 + 1 + 1 + 1 + 1 + 1 + 1 + 1 + 1, o8), (L1 + 1 + 1 + 1 + 1 + 1 + 1 + 1, o7), (L1 + 1 + 1 + 1 + 1 + 1 + 1, o6), (L1 + 1 + 1 + 1 + 1 + 1, o5), (L1 + 1 + 1 + 1 + 1, o4), (L1 + 1 + 1 + 1, o3), (L1 + 1 + 1, o2), (L1 + 1, o1)] hq)
  have ofA : OffC L1 as := fun q hq => ⟨fresh_ne (hf q hq).1 N1 (c := L1 + 1) (o := o1) (.tail _ (.tail _ (.tail _ (.tail _ (.tail _ (.tail _ (.tail _ (.tail _ (.tail _ (.tail _ (.tail _ (.head _)))))))))))), fresh_ne (hf q hq).1 N1 (c := L1 + 1 + 1) (o := o2) (.tail _ (.tail _ (.tail _ (.tail _ (.tail _ (.tail _ (.tail _ (.tail _ (.tail _ (.tail _ (.head _))))))))))), fresh_ne (hf q hq).1 N1 (c := L1 + 1 + 1 + 1) (o := o3) (.tail _ (.tail _ (.tail _ (.tail _ (.tail _ (.tail _ (.tail _ (.tail _ (.tail _ (.head _)))))))))), fresh_ne (hf q hq).1 N1 (c := L1 + 1 + 1 + 1 + 1) (o := o4) (.tail _ (.tail _ (.tail _ (.tail _ (.tail _ (.tail _ (.tail _ (.tail _ (.head _))))))))), fresh_ne (hf q hq).1 N1 (c := L1 + 1 + 1 + 1 + 1 + 1) (o := o5) (.tail _ (.tail _ (.tail _ (.tail _ (.tail _ (.tail _ (.tail _ (.head _)))))))), fresh_ne (hf q hq).1 N1 (c := L1 + 1 + 1 + 1 + 1 + 1 + 1) (o := o6) (.tail _ (.tail _ (.tail _ (.tail _ (.tail _ (.tail _ (.head _))))))), fresh_ne (hf q hq).1 N1 (c := L1 + 1 + 1 + 1 + 1 + 1 + 1 + 1) (o := o7) (.tail _ (.tail _ (.tail _ (.tail _ (.tail _ (.head _)))))), fresh_ne (hf q hq).1 N1 (c := L1 + 1 + 1 + 1 + 1 + 1 + 1 + 1 + 1) (o := o8) (.tail _ (.tail _ (.tail _ (.tail _ (.head _))))), fresh_ne (hf q hq).1 N1 (c := L1 + 1 + 1 + 1 + 1 + 1 + 1 + 1 + 1 + 1) (o := o9) (.tail _ (.tail _ (.tail _ (.head _)))), fresh_ne (hf q hq).1 N1 (c := L1 + 1 + 1 + 1 + 1 + 1 + 1 + 1 + 1 + 1 + 1) (o := o10) (.tail _ (.tail _ (.head _))), fresh_ne (hf q hq).1 N1 (c := L1 + 1 + 1 + 1 + 1 + 1 + 1 + 1 + 1 + 1 + 1 + 1) (o := o11) (.tail _ (.head _)), fresh_ne (hf q hq).1 N1 (c := L1 + 1 + 1 + 1 + 1 + 1 + 1 + 1 + 1 + 1 + 1 + 1 + 1) (o := o12) (.head _)⟩
  have ofB := ofA.append hoff
  have q8 := (ofA _ hD).2.2.2.2.2.2.2.1
  have w8 : ∀ p ∈ (as ++ TL), p.1 ≠ L1 + 1 + 1 + 1 + 1 + 1 + 1 + 1 + 1 := fun p hp => (ofB p hp).2.2.2.2.2.2.2.1
  clear N1 F1
  try dsimp only
  k_steps
  unfold Stop
  rename_i h9 h10 o8' d8' h11 h12 h13 F3 N3
  refine' LawRun.elim (k := 9) ?k7 ?hL ?e7
  case k7 => k_is
  case e7 => rfl
  case hL => exact hnext t o8' h13 _ (as ++ TL) (fun q hq => List.mem_append_right _ hq) ofB (tok.mono fun q hq => List.mem_append_left _ hq) d8' F3 fun q hq => N3 q (.tail _ hq)
end

/-! S9 -/
example : True := by
  k_with_none
  k_with "subscriptTail" => (k_here; (with_reducible show wpAny _ _ (subscriptTail _ _ (Value.ref _) (Value.int _ _)) _ _ _); (with_unfolding_all refine' my_item ?q_k1 ?q_k2 ?q_k3 ?q_k4 ?_ ?q_k6; (case q_k1 => first | assumption | ((rename GSub _ _ _ => kG9); (rename Fr _ _ _ _ => F9); refine' list_up ?q_t9 kG9 F9 (by simp); (case q_t9 => assumption))); (case q_k2 => assumption); (case q_k3 => first | rfl | assumption | omega | (simp only [Int.fdiv_eq_ediv_of_nonneg _ (by decide : (0 : Int) ≤ 2)]; omega)); (case q_k4 => first | assumption | omega); (case q_k6 => with_unfolding_all rfl); k_whole))
  k_with "call builtin:len" => (k_here; (with_reducible show wpAny _ _ (call (Value.builtin "len") [Value.ref _]) _ _ _); refine' my_len ?q_k1 ?q_k2 ?_; (case q_k1 => first | assumption | ((rename GSub _ _ _ => kG9); (rename Fr _ _ _ _ => F9); refine' list_up ?q_t9 kG9 F9 (by simp); (case q_t9 => assumption))); (case q_k2 => first | assumption | omega); intro _ _)
  k_with "subscriptTail" => (k_here; (with_reducible show wpAny _ _ (subscriptTail _ _ (Value.ref _) (Value.int _ _)) _ _ _); (with_unfolding_all refine' my_titem ?q_k1 ?q_k2 ?q_k3 ?q_k4 ?_ ?q_k6; (case q_k1 => first | assumption | ((rename GSub _ _ _ => kG9); (rename Fr _ _ _ _ => F9); refine' TT.up ?q_t9 kG9 F9 (by simp); (case q_t9 => assumption))); (case q_k2 => first | assumption | decide | omega); (case q_k3 => first | assumption | exact rfl); (case q_k4 => first | assumption | (simp only [List.length_cons, List.length_nil]; decide)); (case q_k6 => with_unfolding_all rfl); k_whole))
  k_with "eval Name" => (k_here; (with_reducible show wpAny _ _ (eval (Expr.Name _ _) (compEnvC _ _ _ _)) _ _ _); (with_unfolding_all refine' wpAny_Name (wpAny_loadName_local ?q_a ?q_b ?q_c ?q_d ?_) ?q_e; (case q_a => rfl); (case q_b => rfl); (case q_c => first | assumption | exact nsC_get (by assumption) (by assumption) (by repeat (first | exact List.Mem.head _ | apply List.Mem.tail))); (case q_d => assumption); (case q_e => decide); k_whole))
  k_with "eval ListComp" => (k_here; refine stopHere ?_)
  k_with "call builtin:list.append" => (k_here; refine stopHere ?_)
  k_with "call ref" => (k_here; refine stopHere ?_)
  k_with "pyIter ref" => (k_here; refine stopHere ?_)
  k_with "execs cons" => (k_here; refine stopHere ?_)
  k_with "subscriptTail" => (k_here; (with_reducible show wpAny _ _ (subscriptTail _ _ (Value.ref _) (Value.int _ _)) _ _ _); (with_unfolding_all refine' my_item ?q_k1 ?q_k2 ?q_k3 ?q_k4 ?_ ?q_k6; (case q_k3 => first | exact rfl | exact (rfl : (0 : Int) = ((0 : Nat) : Int))); (case q_k1 => first | assumption | exact isl_news (by assumption) (by repeat (first | assumption | exact List.mem_append_left _ (by assumption) | apply List.Mem.tail))); (case q_k2 => assumption); (case q_k4 => first | assumption | omega | exact (by decide)); (case q_k6 => with_unfolding_all rfl); k_whole))
  k_with "subscriptTail Name Constant ref int" => (k_here; refine stopHere ?_)
  k_with "own k_updF" => (refine' UpdF.head ?q_a; (case q_a => (repeat (first | assumption | (refine List.forall_mem_cons.mpr ⟨by k_ne, ?_⟩)))))
  k_with "subscriptTail Name Slice ref ref" => (k_here; refine stopHere ?_)
  trivial
section
variable {g : Heap} {L1 : Addr} {Qf : Flow → Shared → Prop}
theorem law_s9 (F1 : Fr g L1 s.heap m) (X1 : (hd.heap_1 w.params).In g) (T1 : Top p loose mean mg mb g) (TL : List (Addr × Obj)) (hoff : OffC L1 TL) (d : LawD) (jv : IL d.P d.pvs) (mpl : (d.pl, listOf d.pvs.toArray d.np) ∈ TL) (rl : Addr) (kl : Addr) (gl dn : Addr)
    (hs bs : List (Nat × Nat)) (hpure : turnsF false d.P 0 [] [] = some (hs, bs)) (hall : ∀ k, k < 6 → ∃ r ∈ hs, r.2 = k)
    (v1 : Option Value) (o1 : Obj) (d1 : o1.data = .cell v1) (o2 : Obj) (d2 : o2.data = .cell (some (.ref d.tl))) (o3 : Obj) (d3 : o3.data = .cell (some (.ref d.ll))) (o4 : Obj) (d4 : o4.data = .cell (some (.ref d.pl))) (o5 : Obj) (d5 : o5.data = .cell (some (.ref rl))) (o6 : Obj) (d6 : o6.data = .cell (some (.ref kl))) (o7 : Obj) (d7 : o7.data = .cell (some (.ref gl))) (o8 : Obj) (d8 : o8.data = .cell (some (.ref dn))) (o9 : Obj) (d9 : o9.data = .cell none) (o10 : Obj) (d10 : o10.data = .cell none) (o11 : Obj) (d11 : o11.data = .cell none) (o12 : Obj) (d12 : o12.data = .cell (some (.ref d.nl)))
    (N1 : News g L1 s.heap ((L1 + 1 + 1 + 1 + 1 + 1 + 1 + 1 + 1 + 1 + 1 + 1 + 1, o12) :: (L1 + 1 + 1 + 1 + 1 + 1 + 1 + 1 + 1 + 1 + 1 + 1, o11) :: (L1 + 1 + 1 + 1 + 1 + 1 + 1 + 1 + 1 + 1 + 1, o10) :: (L1 + 1 + 1 + 1 + 1 + 1 + 1 + 1 + 1 + 1, o9) :: (L1 + 1 + 1 + 1 + 1 + 1 + 1 + 1 + 1, o8) :: (L1 + 1 + 1 + 1 + 1 + 1 + 1 + 1, o7) :: (L1 + 1 + 1 + 1 + 1 + 1 + 1, o6) :: (L1 + 1 + 1 + 1 + 1 + 1, o5) :: (L1 + 1 + 1 + 1 + 1, o4) :: (L1 + 1 + 1 + 1, o3) :: (L1 + 1 + 1, o2) :: (L1 + 1, o1) :: TL))
    (hnext : ∀ (t : TabD) (h' : Heap) (tk' : Nat) (TL' : List (Addr × Obj)), (∀ q ∈ TL, q ∈ TL') → OffC L1 TL' → TabOk TL' hs bs t →
      Fr g L1 h' (m9 m t) → News g L1 h' ((L1 + 1 + 1 + 1 + 1 + 1 + 1 + 1 + 1 + 1 + 1 + 1 + 1, o12) :: (L1 + 1 + 1 + 1 + 1 + 1 + 1 + 1 + 1 + 1 + 1 + 1, o11) :: (L1 + 1 + 1 + 1 + 1 + 1 + 1 + 1 + 1 + 1 + 1, o10) :: (L1 + 1 + 1 + 1 + 1 + 1 + 1 + 1 + 1 + 1, o9) :: (L1 + 1 + 1 + 1 + 1 + 1 + 1 + 1 + 1, o8) :: (L1 + 1 + 1 + 1 + 1 + 1 + 1 + 1, o7) :: (L1 + 1 + 1 + 1 + 1 + 1 + 1, o6) :: (L1 + 1 + 1 + 1 + 1 + 1, o5) :: (L1 + 1 + 1 + 1 + 1, o4) :: (L1 + 1 + 1 + 1, o3) :: (L1 + 1 + 1, o2) :: (L1 + 1, o1) :: TL') → LawRun w 10 L1 Qf { s with heap := h', toks := tk' }) : LawRun w 9 L1 Qf s := by
  refine' LawRun.intro ?k6 ?_
  case k6 => k_is
  dsimp only [List.drop]
  have B1 : Below callerA g [] g := below_caller g
  refine wpAny_execs_cons ?_
  k_steps
  unfold Stop
  obtain ⟨sv, hsv1, hsv2⟩ := jv.pairs
  rw [hsv2] at mpl
  rw [hsv1] at hpure
  k_dflt (refine' tables_c B1 F1 X1 T1 ?k1 ?d1 ?u1 d.pl sv false (LL.of_news N1 (.tail _ (.tail _ (.tail _ (.tail _ (.tail _ (.tail _ (.tail _ (.tail _ (.tail _ (.tail _ (.tail _ (.tail _ mpl))))))))))))) ?e1 ?e2 ?e3 hs bs hpure hall ?_)
  case k1 => exact rfl
  case d1 => ktr_room
  case u1 => ktr_units
  case e1 => rw [← List.length_map (f := fun q : Nat × Tok => q.1), ← hsv1, d.P_len]
  case e2 => exact fun q hq => d.P_lt _ (hsv1 ▸ List.mem_map_of_mem hq)
  case e3 => rw [← hsv1]; exact d.P_nodup
  intro D t as h2 tk2 hf hD tok k2
  have F2 := fr_kp F1 k2
  have N2 : News g L1 h2 ((D, ({ cls := .type "tuple", data := .seq #[.ref t.dn, .ref t.x, .ref t.b, .ref t.al] } : Obj)) :: (L1 + 1 + 1 + 1 + 1 + 1 + 1 + 1 + 1 + 1 + 1 + 1 + 1, o12) :: (L1 + 1 + 1 + 1 + 1 + 1 + 1 + 1 + 1 + 1 + 1 + 1, o11) :: (L1 + 1 + 1 + 1 + 1 + 1 + 1 + 1 + 1 + 1 + 1, o10) :: (L1 + 1 + 1 + 1 + 1 + 1 + 1 + 1 + 1 + 1, o9) :: (L1 + 1 + 1 + 1 + 1 + 1 + 1 + 1 + 1, o8) :: (L1 + 1 + 1 + 1 + 1 + 1 + 1 + 1, o7) :: (L1 + 1 + 1 + 1 + 1 + 1 + 1, o6) :: (L1 + 1 + 1 + 1 + 1 + 1, o5) :: (L1 + 1 + 1 + 1 + 1, o4) :: (L1 + 1 + 1 + 1, o3) :: (L1 + 1 + 1, o2) :: (L1 + 1, o1) :: (as ++ TL)) := fun q hq => by
    have hN := news_kp N1 k2
    have fa : ∀ q ∈ as, h2.get? q.1 = some q.2 ∧ q.1 ≠ L1 ∧ g.get? q.1 = none := fun q hq => ⟨(hf q hq).2, (fresh_of F1 (hf q hq).1).2, (fresh_of F1 (hf q hq).1).1⟩
    rcases List.mem_cons.mp hq with rfl | hq
    · exact fa _ hD
    rw [show ((L1 + 1 + 1 + 1 + 1 + 1 + 1 + 1 + 1 + 1 + 1 + 1 + 1, o12) :: (L1 + 1 + 1 + 1 + 1 + 1 + 1 + 1 + 1 + 1 + 1 + 1, o11) :: (L1 + 1 + 1 + 1 + 1 + 1 + 1 + 1 + 1 + 1 + 1, o10) :: (L1 + 1 + 1 + 1 + 1 + 1 + 1 + 1 + 1 + 1, o9) :: (L1 + 1 + 1 + 1 + 1 + 1 + 1 + 1 + 1, o8) :: (L1 + 1 + 1 + 1 + 1 + 1 + 1 + 1, o7) :: (L1 + 1 + 1 + 1 + 1 + 1 + 1, o6) :: (L1 + 1 + 1 + 1 + 1 + 1, o5) :: (L1 + 1 + 1 + 1 + 1, o4) :: (L1 + 1 + 1 + 1, o3) :: (L1 + 1 + 1, o2) :: (L1 + 1, o1) :: (as ++ TL)) = [(L1 + 1 + 1 + 1 + 1 + 1 + 1 + 1 + 1 + 1 + 1 + 1 + 1, o12), (L1 + 1 + 1 + 1 + 1 + 1 + 1 + 1 + 1 + 1 + 1 + 1, o11), (L1 + 1 + 1 + 1 + 1 + 1 + 1 + 1 + 1 + 1 + 1, o10), (L1 + 1 + 1 + 1 + 1 + 1 + 1 + 1 + 1 + 1, o9), (L1 + 1 + 1 + 1 + 1 + 1 + 1 + 1 + 1, o8), (L1 + 1 + 1 + 1 + 1 + 1 + 1 + 1, o7), (L1 + 1 + 1 + 1 + 1 + 1 + 1, o6), (L1 + 1 + 1 + 1 + 1 + 1, o5), (L1 + 1 + 1 + 1 + 1, o4), (L1 + 1 + 1 + 1, o3), (L1 + 1 + 1, o2), (L1 + 1, o1)] ++ (as ++ TL) from rfl] at hq
    rcases List.mem_append.mp hq with hq | hq
    · exact hN q (List.mem_append_left TL hq)
    rcases List.mem_append.mp hq with hq | hq
    · exact fa q hq
    · exact hN q (List.mem_append_right [(L1 + 1 + 1 + 1 + 1 + 1 + 1 + 1 + 1 + 1 + 1 + 1 + 1, o12), (L1 + 1 + 1 + 1 + 1 + 1 + 1 + 1 + 1 + 1 + 1 + 1, o11), (L1 + 1 + 1 + 1 + 1 + 1 + 1 + 1 + 1 + 1 + 1, o10), (L1 + 1 + 1 + 1 + 1 + 1 + 1 + 1 + 1 + 1, o9), (L1 + 1 + 1 + 1 + 1 + 1 + 1 + 1 + 1, o8), (L1 + 1 + 1 + 1 + 1 + 1 + 1 + 1, o7), (L1 + 1 + 1 + 1 + 1 + 1 + 1, o6), (L1 + 1 + 1 + 1 + 1 + 1, o5), (L1 + 1 + 1 + 1 + 1, o4), (L1 + 1 + 1 + 1, o3), (L1 + 1 + 1, o2), (L1 + 1, o1)] hq)
  have ofA : OffC L1 as := fun q hq => ⟨fresh_ne (hf q hq).1 N1 (c := L1 + 1) (o := o1) (.tail _ (.tail _ (.tail _ (.tail _ (.tail _ (.tail _ (.tail _ (.tail _ (.tail _ (.tail _ (.tail _ (.head _)))))))))))), fresh_ne (hf q hq).1 N1 (c := L1 + 1 + 1) (o := o2) (.tail _ (.tail _ (.tail _ (.tail _ (.tail _ (.tail _ (.tail _ (.tail _ (.tail _ (.tail _ (.head _))))))))))), fresh_ne (hf q hq).1 N1 (c := L1 + 1 + 1 + 1) (o := o3) (.tail _ (.tail _ (.tail _ (.tail _ (.tail _ (.tail _ (.tail _ (.tail _ (.tail _ (.head _)))))))))), fresh_ne (hf q hq).1 N1 (c := L1 + 1 + 1 + 1 + 1) (o := o4) (.tail _ (.tail _ (.tail _ (.tail _ (.tail _ (.tail _ (.tail _ (.tail _ (.head _))))))))), fresh_ne (hf q hq).1 N1 (c := L1 + 1 + 1 + 1 + 1 + 1) (o := o5) (.tail _ (.tail _ (.tail _ (.tail _ (.tail _ (.tail _ (.tail _ (.head _)))))))), fresh_ne (hf q hq).1 N1 (c := L1 + 1 + 1 + 1 + 1 + 1 + 1) (o := o6) (.tail _ (.tail _ (.tail _ (.tail _ (.tail _ (.tail _ (.head _))))))), fresh_ne (hf q hq).1 N1 (c := L1 + 1 + 1 + 1 + 1 + 1 + 1 + 1) (o := o7) (.tail _ (.tail _ (.tail _ (.tail _ (.tail _ (.head _)))))), fresh_ne (hf q hq).1 N1 (c := L1 + 1 + 1 + 1 + 1 + 1 + 1 + 1 + 1) (o := o8) (.tail _ (.tail _ (.tail _ (.tail _ (.head _))))), fresh_ne (hf q hq).1 N1 (c := L1 + 1 + 1 + 1 + 1 + 1 + 1 + 1 + 1 + 1) (o := o9) (.tail _ (.tail _ (.tail _ (.head _)))), fresh_ne (hf q hq).1 N1 (c := L1 + 1 + 1 + 1 + 1 + 1 + 1 + 1 + 1 + 1 + 1) (o := o10) (.tail _ (.tail _ (.head _))), fresh_ne (hf q hq).1 N1 (c := L1 + 1 + 1 + 1 + 1 + 1 + 1 + 1 + 1 + 1 + 1 + 1) (o := o11) (.tail _ (.head _)), fresh_ne (hf q hq).1 N1 (c := L1 + 1 + 1 + 1 + 1 + 1 + 1 + 1 + 1 + 1 + 1 + 1 + 1) (o := o12) (.head _)⟩
  have ofB := ofA.append hoff
  clear N1 F1
  try dsimp only
  k_steps
  unfold Stop
  rename_i F3 N3
  refine' LawRun.elim (k := 10) ?k7 ?hL ?e7
  case k7 => k_is
  case e7 => rfl
  case hL => exact hnext t _ _ (as ++ TL) (fun q hq => List.mem_append_right _ hq) ofB (tok.mono fun q hq => List.mem_append_left _ hq) F3 fun q hq => N3 q (.tail _ hq)
end

/-! S10 -/
example : True := by
  k_with_none
  k_with "subscriptTail" => (k_here; (with_reducible show wpAny _ _ (subscriptTail _ _ (Value.ref _) (Value.int _ _)) _ _ _); (with_unfolding_all refine' my_item ?q_k1 ?q_k2 ?q_k3 ?q_k4 ?_ ?q_k6; (case q_k1 => first | assumption | ((rename GSub _ _ _ => kG9); (rename Fr _ _ _ _ => F9); refine' list_up ?q_t9 kG9 F9 (by simp); (case q_t9 => assumption))); (case q_k2 => assumption); (case q_k3 => first | rfl | assumption | omega | (simp only [Int.fdiv_eq_ediv_of_nonneg _ (by decide : (0 : Int) ≤ 2)]; omega)); (case q_k4 => first | assumption | omega); (case q_k6 => with_unfolding_all rfl); k_whole))
  k_with "call builtin:len" => (k_here; (with_reducible show wpAny _ _ (call (Value.builtin "len") [Value.ref _]) _ _ _); refine' my_len ?q_k1 ?q_k2 ?_; (case q_k1 => first | assumption | ((rename GSub _ _ _ => kG9); (rename Fr _ _ _ _ => F9); refine' list_up ?q_t9 kG9 F9 (by simp); (case q_t9 => assumption))); (case q_k2 => first | assumption | omega); intro _ _)
  k_with "subscriptTail" => (k_here; (with_reducible show wpAny _ _ (subscriptTail _ _ (Value.ref _) (Value.int _ _)) _ _ _); (with_unfolding_all refine' my_titem ?q_k1 ?q_k2 ?q_k3 ?q_k4 ?_ ?q_k6; (case q_k1 => first | assumption | ((rename GSub _ _ _ => kG9); (rename Fr _ _ _ _ => F9); refine' TT.up ?q_t9 kG9 F9 (by simp); (case q_t9 => assumption))); (case q_k2 => first | assumption | decide | omega); (case q_k3 => first | assumption | exact rfl); (case q_k4 => first | assumption | (simp only [List.length_cons, List.length_nil]; decide)); (case q_k6 => with_unfolding_all rfl); k_whole))
  k_with "eval Name" => (k_here; (with_reducible show wpAny _ _ (eval (Expr.Name _ _) (compEnvC _ _ _ _)) _ _ _); (with_unfolding_all refine' wpAny_Name (wpAny_loadName_local ?q_a ?q_b ?q_c ?q_d ?_) ?q_e; (case q_a => rfl); (case q_b => rfl); (case q_c => first | assumption | exact nsC_get (by assumption) (by assumption) (by repeat (first | exact List.Mem.head _ | apply List.Mem.tail))); (case q_d => assumption); (case q_e => decide); k_whole))
  k_with "eval ListComp" => (k_here; refine stopHere ?_)
  k_with "call builtin:list.append" => (k_here; refine stopHere ?_)
  k_with "call ref" => (k_here; refine stopHere ?_)
  k_with "pyIter ref" => (k_here; refine stopHere ?_)
  k_with "execs cons" => (k_here; refine stopHere ?_)
  k_with "subscriptTail" => (k_here; (with_reducible show wpAny _ _ (subscriptTail _ _ (Value.ref _) (Value.int _ _)) _ _ _); (with_unfolding_all refine' my_item ?q_k1 ?q_k2 ?q_k3 ?q_k4 ?_ ?q_k6; (case q_k3 => first | exact rfl | exact (rfl : (0 : Int) = ((0 : Nat) : Int))); (case q_k1 => first | assumption | exact isl_news (by assumption) (by repeat (first | assumption | exact List.mem_append_left _ (by assumption) | apply List.Mem.tail))); (case q_k2 => assumption); (case q_k4 => first | assumption | omega | exact (by decide)); (case q_k6 => with_unfolding_all rfl); k_whole))
  k_with "subscriptTail Name Constant ref int" => (k_here; refine stopHere ?_)
  k_with "own k_updF" => (refine' UpdF.head ?q_a; (case q_a => (repeat (first | assumption | (refine List.forall_mem_cons.mpr ⟨by k_ne, ?_⟩)))))
  k_with "subscriptTail Name Slice ref ref" => (k_here; refine stopHere ?_)
  k_with "compareOp NotEq ref ref" => (k_here; refine stopHere ?_)
  k_with "own k_inst" => exact inst_news (by assumption) (by repeat (first | assumption | exact List.mem_append_left _ (by assumption) | apply List.Mem.tail)) (by repeat (first | assumption | exact List.mem_append_left _ (by assumption) | apply List.Mem.tail))
  k_with "call builtin:len" => (k_here; refine stopHere ?_)
  trivial
section
variable {g : Heap} {L1 : Addr} {Qf : Flow → Shared → Prop}
theorem law_s10 (t t2 : TabD) (F1 : Fr g L1 s.heap (m9 (m8 m t) t2)) (X1 : (hd.heap_1 w.params).In g) (T1 : Top p loose mean mg mb g) (TL : List (Addr × Obj)) (d : LawD) (rl kl gl dn : Addr)
    (hs bs hs2 bs2 : List (Nat × Nat)) (tok : TabOk TL hs bs t) (tok2 : TabOk TL hs2 bs2 t2) (law : TabsLaw d hs bs hs2 bs2)
    (v1 : Option Value) (o1 : Obj) (d1 : o1.data = .cell v1) (o2 : Obj) (d2 : o2.data = .cell (some (.ref d.tl))) (o3 : Obj) (d3 : o3.data = .cell (some (.ref d.ll))) (o4 : Obj) (d4 : o4.data = .cell (some (.ref d.pl))) (o5 : Obj) (d5 : o5.data = .cell (some (.ref rl))) (o6 : Obj) (d6 : o6.data = .cell (some (.ref kl))) (o7 : Obj) (d7 : o7.data = .cell (some (.ref gl))) (o8 : Obj) (d8 : o8.data = .cell (some (.ref dn))) (o9 : Obj) (d9 : o9.data = .cell none) (o10 : Obj) (d10 : o10.data = .cell none) (o11 : Obj) (d11 : o11.data = .cell none) (o12 : Obj) (d12 : o12.data = .cell (some (.ref d.nl)))
    (N1 : News g L1 s.heap ((L1 + 1 + 1 + 1 + 1 + 1 + 1 + 1 + 1 + 1 + 1 + 1 + 1, o12) :: (L1 + 1 + 1 + 1 + 1 + 1 + 1 + 1 + 1 + 1 + 1 + 1, o11) :: (L1 + 1 + 1 + 1 + 1 + 1 + 1 + 1 + 1 + 1 + 1, o10) :: (L1 + 1 + 1 + 1 + 1 + 1 + 1 + 1 + 1 + 1, o9) :: (L1 + 1 + 1 + 1 + 1 + 1 + 1 + 1 + 1, o8) :: (L1 + 1 + 1 + 1 + 1 + 1 + 1 + 1, o7) :: (L1 + 1 + 1 + 1 + 1 + 1 + 1, o6) :: (L1 + 1 + 1 + 1 + 1 + 1, o5) :: (L1 + 1 + 1 + 1 + 1, o4) :: (L1 + 1 + 1 + 1, o3) :: (L1 + 1 + 1, o2) :: (L1 + 1, o1) :: TL))
    (hnext : ∀ (h' : Heap) (tk' : Nat),
      Fr g L1 h' (m9 (m8 m t) t2) → News g L1 h' ((L1 + 1 + 1 + 1 + 1 + 1 + 1 + 1 + 1 + 1 + 1 + 1 + 1, o12) :: (L1 + 1 + 1 + 1 + 1 + 1 + 1 + 1 + 1 + 1 + 1 + 1, o11) :: (L1 + 1 + 1 + 1 + 1 + 1 + 1 + 1 + 1 + 1 + 1, o10) :: (L1 + 1 + 1 + 1 + 1 + 1 + 1 + 1 + 1 + 1, o9) :: (L1 + 1 + 1 + 1 + 1 + 1 + 1 + 1 + 1, o8) :: (L1 + 1 + 1 + 1 + 1 + 1 + 1 + 1, o7) :: (L1 + 1 + 1 + 1 + 1 + 1 + 1, o6) :: (L1 + 1 + 1 + 1 + 1 + 1, o5) :: (L1 + 1 + 1 + 1 + 1, o4) :: (L1 + 1 + 1 + 1, o3) :: (L1 + 1 + 1, o2) :: (L1 + 1, o1) :: TL) → LawRun w 11 L1 Qf { s with heap := h', toks := tk' }) : LawRun w 10 L1 Qf s := by
  refine' LawRun.intro ?k6 ?_
  case k6 => k_is
  dsimp only [List.drop]
  have B1 : Below callerA g [] g := below_caller g
  have mb := tok.mb
  have mdb := tok.mdb
  have mx := tok.mx
  have mdx := tok.mdx
  have mb2 := tok2.mb
  have mdb2 := tok2.mdb
  have mx2 := tok2.mx
  have mdx2 := tok2.mdx
  have at1 := tok.at N1 (fun q hq => (.tail _ (.tail _ (.tail _ (.tail _ (.tail _ (.tail _ (.tail _ (.tail _ (.tail _ (.tail _ (.tail _ (.tail _ hq)))))))))))))
  have at2 := tok2.at N1 (fun q hq => (.tail _ (.tail _ (.tail _ (.tail _ (.tail _ (.tail _ (.tail _ (.tail _ (.tail _ (.tail _ (.tail _ (.tail _ hq)))))))))))))
  refine wpAny_execs_cons ?_
  k_steps
  unfold Stop
  have ln1 : t.bs.length = 6 := rows_len tok.ebs law.l3
  have ln2 : t2.bs.length = 6 := rows_len tok2.ebs law.l4
  have ln3 : t.rs.length = 6 := rows_len tok.ers law.l1
  have ln4 : t2.rs.length = 6 := rows_len tok2.ers law.l2
  have vb1 : (t.bs.map fun r => sg r.d) = (List.range 6).map sg := (vals_of tok.ebs).trans (sgs_of law.v1)
  have vb2 : (t2.bs.map fun r => sg r.d) = (List.range 6).map sg := (vals_of tok2.ebs).trans (sgs_of law.v2)
  have tb1 := ts_vals (rs := t.bs)
  have tb2 := ts_vals (rs := t2.bs)
  rw [vb1] at tb1
  rw [vb2] at tb2
  k_dflt (refine' values_c B1 F1 X1 T1 ?k1 ?d1 ?u1 t.b t.bl t.bs at1.hb at1.lb at1.rb (by omega) ?_)
  case k1 => exact rfl
  case d1 => ktr_room
  case u1 => ktr_units
  rintro D2 h2 tk2 fD2 ⟨nD2, eD2⟩ kp2
  have F2 := fr_kp F1 kp2
  have N2 := news_add F1 N1 kp2 fD2 eD2
  have at1b := at1.kp kp2
  have at2b := at2.kp kp2
  clear F1 N1 at1 at2
  (try dsimp only)
  k_steps
  unfold Stop
  rename_i l3 h3 F3 N3 lt3
  have sg6 : (List.range 6).map sg = [Str.ofString "0", Str.ofString "1", Str.ofString "2", Str.ofString "3", Str.ofString "4", Str.ofString "5"] := by decide +kernel
  k_dflt (refine' my_ne_ts (ms := (List.range 6).map sg) (xs := t.bs.map Row.val) (isl_news N3 (.tail _ (.head _))) (isl_news (vs := [_, _, _, _, _, _]) N3 (.head _)) tb1 ?t1 ok_sgs ok_sgs ?u2 ?_)
  case t1 =>
    rw [sg6]
    exact .cons _ _ (.cons _ _ (.cons _ _ (.cons _ _ (.cons _ _ (.cons _ _ .nil)))))
  case u2 => ke_room
  rw [show (!decide ((List.range 6).map sg = (List.range 6).map sg)) = false by rw [decide_eq_true rfl]; rfl]
  have N4 : News g L1 h3 ((L1 + 1 + 1 + 1 + 1 + 1 + 1 + 1 + 1 + 1 + 1 + 1 + 1, o12) :: (L1 + 1 + 1 + 1 + 1 + 1 + 1 + 1 + 1 + 1 + 1 + 1, o11) :: (L1 + 1 + 1 + 1 + 1 + 1 + 1 + 1 + 1 + 1 + 1, o10) :: (L1 + 1 + 1 + 1 + 1 + 1 + 1 + 1 + 1 + 1, o9) :: (L1 + 1 + 1 + 1 + 1 + 1 + 1 + 1 + 1, o8) :: (L1 + 1 + 1 + 1 + 1 + 1 + 1 + 1, o7) :: (L1 + 1 + 1 + 1 + 1 + 1 + 1, o6) :: (L1 + 1 + 1 + 1 + 1 + 1, o5) :: (L1 + 1 + 1 + 1 + 1, o4) :: (L1 + 1 + 1 + 1, o3) :: (L1 + 1 + 1, o2) :: (L1 + 1, o1) :: TL) := fun q hq => N3 q (.tail _ (.tail _ hq))
  clear N3 lt3 at1b at2b
  have at1 := tok.at N4 (fun q hq => (.tail _ (.tail _ (.tail _ (.tail _ (.tail _ (.tail _ (.tail _ (.tail _ (.tail _ (.tail _ (.tail _ (.tail _ hq)))))))))))))
  have at2 := tok2.at N4 (fun q hq => (.tail _ (.tail _ (.tail _ (.tail _ (.tail _ (.tail _ (.tail _ (.tail _ (.tail _ (.tail _ (.tail _ (.tail _ hq)))))))))))))
  (try dsimp only)
  k_steps
  unfold Stop
  k_dflt (refine' values_c B1 F3 X1 T1 ?k2 ?d2 ?u2 t2.b t2.bl t2.bs at2.hb at2.lb at2.rb (by omega) ?_)
  case k2 => exact rfl
  case d2 => ktr_room
  case u2 => ktr_units
  rintro D5 h5 tk5 fD5 ⟨nD5, eD5⟩ kp5
  have F5 := fr_kp F3 kp5
  have N5 := news_add F3 N4 kp5 fD5 eD5
  have at1b := at1.kp kp5
  clear F3 N4 at1 at2
  (try dsimp only)
  k_steps
  unfold Stop
  k_dflt (refine' values_c B1 F5 X1 T1 ?k3 ?d3 ?u3 t.b t.bl t.bs at1b.hb at1b.lb at1b.rb (by omega) ?_)
  case k3 => exact rfl
  case d3 => ktr_room
  case u3 => ktr_units
  rintro D6 h6 tk6 fD6 ⟨nD6, eD6⟩ kp6
  have F6 := fr_kp F5 kp6
  have N6 := news_add F5 N5 kp6 fD6 eD6
  clear F5 N5 at1b
  (try dsimp only)
  k_steps
  unfold Stop
  k_dflt (refine' my_ne_ts (isl_news N6 (.tail _ (.head _))) (isl_news N6 (.head _)) tb2 tb1 ok_sgs ok_sgs ?u2 ?_)
  case u2 => ke_room
  rw [show (!decide ((List.range 6).map sg = (List.range 6).map sg)) = false by rw [decide_eq_true rfl]; rfl]
  have N7 : News g L1 h6 ((L1 + 1 + 1 + 1 + 1 + 1 + 1 + 1 + 1 + 1 + 1 + 1 + 1, o12) :: (L1 + 1 + 1 + 1 + 1 + 1 + 1 + 1 + 1 + 1 + 1 + 1, o11) :: (L1 + 1 + 1 + 1 + 1 + 1 + 1 + 1 + 1 + 1 + 1, o10) :: (L1 + 1 + 1 + 1 + 1 + 1 + 1 + 1 + 1 + 1, o9) :: (L1 + 1 + 1 + 1 + 1 + 1 + 1 + 1 + 1, o8) :: (L1 + 1 + 1 + 1 + 1 + 1 + 1 + 1, o7) :: (L1 + 1 + 1 + 1 + 1 + 1 + 1, o6) :: (L1 + 1 + 1 + 1 + 1 + 1, o5) :: (L1 + 1 + 1 + 1 + 1, o4) :: (L1 + 1 + 1 + 1, o3) :: (L1 + 1 + 1, o2) :: (L1 + 1, o1) :: TL) := fun q hq => N6 q (.tail _ (.tail _ hq))
  clear N6
  (try dsimp only)
  k_steps
  unfold Stop
  k_dflt (refine' comp_list2 (g := g) (L := L1) (fun _ => true) (fun i y _ _ _ => ∃ t, y = Value.int (6 : Int) t) (fun i v m3 => m3 (Str.ofString "one") = some v) ?hh2 ?hclos2 ?hcell2 ?hkind2 ?hnames2 ?h2 ?hs2)
  case hh2 => rfl
  case hclos2 => rfl
  case hcell2 => decide
  case hkind2 => rfl
  case hnames2 => decide
  case hs2 => exact fun _ => rfl
  case h2 =>
    k_steps
    rename_i l7 h7 F7 N7 lt7
    refine ListSrc2.intro [.ref t.x, .ref t2.x, .ref t.b, .ref t2.b] F7 N7 ⟨_, (N7 _ (.head _)).1⟩ (show 4 < 2 ^ 20 by decide) ?_ ?_ ?_
    · intro I C D s' i v _
      exact binds_name rfl rfl
    · rintro C i v h4 tk4 m4 oC R hin hP hlo4 hB4 hNC hR F4 N4
      simp only [List.cons_append, List.nil_append] at N4
      have at1 := tok.at N4 (fun q hq => (.tail _ (.tail _ (.tail _ (.tail _ (.tail _ (.tail _ (.tail _ (.tail _ (.tail _ (.tail _ (.tail _ (.tail _ (.tail _ (.tail _ (List.mem_append_left _ hq))))))))))))))))
      have at2 := tok2.at N4 (fun q hq => (.tail _ (.tail _ (.tail _ (.tail _ (.tail _ (.tail _ (.tail _ (.tail _ (.tail _ (.tail _ (.tail _ (.tail _ (.tail _ (.tail _ (List.mem_append_left _ hq))))))))))))))))
      obtain ⟨x, hl, vs, ev, hx, hll, hvl⟩ : ∃ x hl vs, v = .ref x ∧ HT h4 x hl ∧ LL h4 hl vs ∧ vs.length = 6 := by
        have hin4 : i < 4 := hin
        match i, hin4, hP with
        | 0, _, hP => exact ⟨_, _, _, (Option.some.inj hP).symm, at1.hx, at1.lx, by rw [List.length_map]; exact ln3⟩
        | 1, _, hP => exact ⟨_, _, _, (Option.some.inj hP).symm, at2.hx, at2.lx, by rw [List.length_map]; exact ln4⟩
        | 2, _, hP => exact ⟨_, _, _, (Option.some.inj hP).symm, at1.hb, at1.lb, by rw [List.length_map]; exact ln1⟩
        | 3, _, hP => exact ⟨_, _, _, (Option.some.inj hP).symm, at2.hb, at2.lb, by rw [List.length_map]; exact ln2⟩
      subst ev
      clear at1 at2
      refine ⟨?_, fun hpz => ?_⟩
      · k_steps
        exact TestIs2.intro rfl hR F4 N4 (fun q hq => by repeat (first | exact List.mem_append_right _ hq | apply List.Mem.tail))
      · k_steps
        unfold Stop
        k_dflt (refine' hlen_c B1 F4 X1 T1 ?k3 ?d3 ?u3 x hl vs hx hll (by omega) ?_)
        case k3 => exact rfl
        case d3 => ktr_room
        case u3 => ktr_units
        intro t8 h8 tk8 k8
        have F8 := fr_kp F4 k8
        have N8 := news_kp N4 k8
        exact EltIs2.plain hR F8 N8 (fun q hq => by repeat (first | exact List.mem_append_right _ hq | apply List.Mem.tail)) fun lo hh h1 h2 h3 => ⟨t8, by rw [hvl]; rfl⟩
    · intro D2 h17 tk17 log2 hE1 hE2 hE3 hE4 hi2 hL2 k17 F17 N17 ht17
      rw [range_all] at hi2
      obtain ⟨nD, eD⟩ := hE4
      have hIL := il_log (n := 4) (f := fun _ => 6) (fun e he => (hL2.1 e he).2.2.1) hi2
      have hzz := hIL.ints
      generalize log2.map (·.y) = zvs at *
      have N8 : News g L1 h17 ((D2, listOf zvs.toArray nD) :: (L1 + 1 + 1 + 1 + 1 + 1 + 1 + 1 + 1 + 1 + 1 + 1 + 1, o12) :: (L1 + 1 + 1 + 1 + 1 + 1 + 1 + 1 + 1 + 1 + 1 + 1, o11) :: (L1 + 1 + 1 + 1 + 1 + 1 + 1 + 1 + 1 + 1 + 1, o10) :: (L1 + 1 + 1 + 1 + 1 + 1 + 1 + 1 + 1 + 1, o9) :: (L1 + 1 + 1 + 1 + 1 + 1 + 1 + 1 + 1, o8) :: (L1 + 1 + 1 + 1 + 1 + 1 + 1 + 1, o7) :: (L1 + 1 + 1 + 1 + 1 + 1 + 1, o6) :: (L1 + 1 + 1 + 1 + 1 + 1, o5) :: (L1 + 1 + 1 + 1 + 1, o4) :: (L1 + 1 + 1 + 1, o3) :: (L1 + 1 + 1, o2) :: (L1 + 1, o1) :: TL) := fun q hq => by
        rcases List.mem_cons.mp hq with rfl | hq
        · exact ⟨eD, hE3, hE2⟩
        · exact N17 q (.tail _ hq)
      dsimp only at F17 N8 ht17 ⊢
      clear N17
      k_steps
      unfold Stop
      rename_i l5 h5 F5 N5 lt5 D6 h6 F6 N6 i6 n6 s6 e6 e7 e8 lt6
      have hnz : ((List.map (fun _ => 6) (List.range 4)).map (fun n : Nat => (n : Int))) = (List.replicate (Int.toNat 4) [(6 : Int)]).flatten := by decide
      k_dflt (refine' ke_ne_ints (isl_news N6 (.tail _ (.tail _ (.head _)))) (isl_news N6 (.head _)) hzz i6 ?u1 ?_)
      case u1 => ke_room
      rw [decide_eq_true hnz]
      have N7 : News g L1 h6 ((L1 + 1 + 1 + 1 + 1 + 1 + 1 + 1 + 1 + 1 + 1 + 1 + 1, o12) :: (L1 + 1 + 1 + 1 + 1 + 1 + 1 + 1 + 1 + 1 + 1 + 1, o11) :: (L1 + 1 + 1 + 1 + 1 + 1 + 1 + 1 + 1 + 1 + 1, o10) :: (L1 + 1 + 1 + 1 + 1 + 1 + 1 + 1 + 1 + 1, o9) :: (L1 + 1 + 1 + 1 + 1 + 1 + 1 + 1 + 1, o8) :: (L1 + 1 + 1 + 1 + 1 + 1 + 1 + 1, o7) :: (L1 + 1 + 1 + 1 + 1 + 1 + 1, o6) :: (L1 + 1 + 1 + 1 + 1 + 1, o5) :: (L1 + 1 + 1 + 1 + 1, o4) :: (L1 + 1 + 1 + 1, o3) :: (L1 + 1 + 1, o2) :: (L1 + 1, o1) :: TL) := fun q hq => N6 q (.tail _ (.tail _ (.tail _ hq)))
      clear N6 N5 F5 lt5 lt6 e6 e7 e8 s6 i6 hE1 hE2 hE3 hL2 k17 eD
      (try dsimp only)
      k_steps
      unfold Stop
      refine' LawRun.elim (k := 11) ?k7 ?hL ?e7
      case k7 => k_is
      case e7 => rfl
      case hL => exact hnext h6 _ F6 N7
end

/-! S11 -/
example : True := by
  k_with_none
  k_with "subscriptTail" => (k_here; (with_reducible show wpAny _ _ (subscriptTail _ _ (Value.ref _) (Value.int _ _)) _ _ _); (with_unfolding_all refine' my_item ?q_k1 ?q_k2 ?q_k3 ?q_k4 ?_ ?q_k6; (case q_k1 => first | assumption | ((rename GSub _ _ _ => kG9); (rename Fr _ _ _ _ => F9); refine' list_up ?q_t9 kG9 F9 (by simp); (case q_t9 => assumption))); (case q_k2 => assumption); (case q_k3 => first | rfl | assumption | omega | (simp only [Int.fdiv_eq_ediv_of_nonneg _ (by decide : (0 : Int) ≤ 2)]; omega)); (case q_k4 => first | assumption | omega); (case q_k6 => with_unfolding_all rfl); k_whole))
  k_with "call builtin:len" => (k_here; (with_reducible show wpAny _ _ (call (Value.builtin "len") [Value.ref _]) _ _ _); refine' my_len ?q_k1 ?q_k2 ?_; (case q_k1 => first | assumption | ((rename GSub _ _ _ => kG9); (rename Fr _ _ _ _ => F9); refine' list_up ?q_t9 kG9 F9 (by simp); (case q_t9 => assumption))); (case q_k2 => first | assumption | omega); intro _ _)
  k_with "subscriptTail" => (k_here; (with_reducible show wpAny _ _ (subscriptTail _ _ (Value.ref _) (Value.int _ _)) _ _ _); (with_unfolding_all refine' my_titem ?q_k1 ?q_k2 ?q_k3 ?q_k4 ?_ ?q_k6; (case q_k1 => first | assumption | ((rename GSub _ _ _ => kG9); (rename Fr _ _ _ _ => F9); refine' TT.up ?q_t9 kG9 F9 (by simp); (case q_t9 => assumption))); (case q_k2 => first | assumption | decide | omega); (case q_k3 => first | assumption | exact rfl); (case q_k4 => first | assumption | (simp only [List.length_cons, List.length_nil]; decide)); (case q_k6 => with_unfolding_all rfl); k_whole))
  k_with "eval Name" => (k_here; (with_reducible show wpAny _ _ (eval (Expr.Name _ _) (compEnvC _ _ _ _)) _ _ _); (with_unfolding_all refine' wpAny_Name (wpAny_loadName_local ?q_a ?q_b ?q_c ?q_d ?_) ?q_e; (case q_a => rfl); (case q_b => rfl); (case q_c => first | assumption | exact nsC_get (by assumption) (by assumption) (by repeat (first | exact List.Mem.head _ | apply List.Mem.tail))); (case q_d => assumption); (case q_e => decide); k_whole))
  k_with "eval ListComp" => (k_here; refine stopHere ?_)
  k_with "call builtin:list.append" => (k_here; refine stopHere ?_)
  k_with "call ref" => (k_here; refine stopHere ?_)
  k_with "pyIter ref" => (k_here; refine stopHere ?_)
  k_with "execs cons" => (k_here; refine stopHere ?_)
  k_with "subscriptTail" => (k_here; (with_reducible show wpAny _ _ (subscriptTail _ _ (Value.ref _) (Value.int _ _)) _ _ _); (with_unfolding_all refine' my_item ?q_k1 ?q_k2 ?q_k3 ?q_k4 ?_ ?q_k6; (case q_k3 => first | exact rfl | exact (rfl : (0 : Int) = ((0 : Nat) : Int))); (case q_k1 => first | assumption | exact isl_news (by assumption) (by repeat (first | assumption | exact List.mem_append_left _ (by assumption) | apply List.Mem.tail))); (case q_k2 => assumption); (case q_k4 => first | assumption | omega | exact (by decide)); (case q_k6 => with_unfolding_all rfl); k_whole))
  k_with "subscriptTail Name Constant ref int" => (k_here; refine stopHere ?_)
  k_with "own k_updF" => (refine' UpdF.head ?q_a; (case q_a => (repeat (first | assumption | (refine List.forall_mem_cons.mpr ⟨by k_ne, ?_⟩)))))
  k_with "subscriptTail Name Slice ref ref" => (k_here; refine stopHere ?_)
  trivial
section
variable {g : Heap} {L1 : Addr} {Qf : Flow → Shared → Prop}
theorem law_s11 (t : TabD) (F1 : Fr g L1 s.heap m) (X1 : (hd.heap_1 w.params).In g) (T1 : Top p loose mean mg mb g) (TL : List (Addr × Obj)) (hoff : OffC L1 TL) (d : LawD) (rl kl gl : Addr) (nk : Nat) (kvs : List Value) (mkl : (kl, listOf kvs.toArray nk) ∈ TL) (hkv : IL d.ranks kvs)
    (hs bs : List (Nat × Nat)) (tok : TabOk TL hs bs t)
    (v1 : Option Value) (o1 : Obj) (d1 : o1.data = .cell v1) (o2 : Obj) (d2 : o2.data = .cell (some (.ref d.tl))) (o3 : Obj) (d3 : o3.data = .cell (some (.ref d.ll))) (o4 : Obj) (d4 : o4.data = .cell (some (.ref d.pl))) (o5 : Obj) (d5 : o5.data = .cell (some (.ref rl))) (o6 : Obj) (d6 : o6.data = .cell (some (.ref kl))) (o7 : Obj) (d7 : o7.data = .cell (some (.ref gl))) (o8 : Obj) (d8 : o8.data = .cell (some (.ref t.dn))) (o9 : Obj) (d9 : o9.data = .cell none) (o10 : Obj) (d10 : o10.data = .cell none) (o11 : Obj) (d11 : o11.data = .cell none) (o12 : Obj) (d12 : o12.data = .cell (some (.ref d.nl)))
    (N1 : News g L1 s.heap ((L1 + 1 + 1 + 1 + 1 + 1 + 1 + 1 + 1 + 1 + 1 + 1 + 1, o12) :: (L1 + 1 + 1 + 1 + 1 + 1 + 1 + 1 + 1 + 1 + 1 + 1, o11) :: (L1 + 1 + 1 + 1 + 1 + 1 + 1 + 1 + 1 + 1 + 1, o10) :: (L1 + 1 + 1 + 1 + 1 + 1 + 1 + 1 + 1 + 1, o9) :: (L1 + 1 + 1 + 1 + 1 + 1 + 1 + 1 + 1, o8) :: (L1 + 1 + 1 + 1 + 1 + 1 + 1 + 1, o7) :: (L1 + 1 + 1 + 1 + 1 + 1 + 1, o6) :: (L1 + 1 + 1 + 1 + 1 + 1, o5) :: (L1 + 1 + 1 + 1 + 1, o4) :: (L1 + 1 + 1 + 1, o3) :: (L1 + 1 + 1, o2) :: (L1 + 1, o1) :: TL))
    (hnext : ∀ (c : CamD) (o9 : Obj) (h' : Heap) (tk' : Nat) (TL' : List (Addr × Obj)), (∀ q ∈ TL, q ∈ TL') → OffC L1 TL' → CamOk TL' hs d c → o9.data = .cell (some (.ref c.x)) →
      Fr g L1 h' m → News g L1 h' ((L1 + 1 + 1 + 1 + 1 + 1 + 1 + 1 + 1 + 1 + 1 + 1 + 1, o12) :: (L1 + 1 + 1 + 1 + 1 + 1 + 1 + 1 + 1 + 1 + 1 + 1, o11) :: (L1 + 1 + 1 + 1 + 1 + 1 + 1 + 1 + 1 + 1 + 1, o10) :: (L1 + 1 + 1 + 1 + 1 + 1 + 1 + 1 + 1 + 1, o9) :: (L1 + 1 + 1 + 1 + 1 + 1 + 1 + 1 + 1, o8) :: (L1 + 1 + 1 + 1 + 1 + 1 + 1 + 1, o7) :: (L1 + 1 + 1 + 1 + 1 + 1 + 1, o6) :: (L1 + 1 + 1 + 1 + 1 + 1, o5) :: (L1 + 1 + 1 + 1 + 1, o4) :: (L1 + 1 + 1 + 1, o3) :: (L1 + 1 + 1, o2) :: (L1 + 1, o1) :: TL') → LawRun w 12 L1 Qf { s with heap := h', toks := tk' }) : LawRun w 11 L1 Qf s := by
  refine' LawRun.intro ?k6 ?_
  case k6 => k_is
  dsimp only [List.drop]
  have B1 : Below callerA g [] g := below_caller g
  have mdn := tok.mdn
  refine wpAny_execs_cons ?_
  k_steps
  unfold Stop
  k_dflt (refine' comp_list2 (g := g) (L := L1) (fun _ => true) (fun i y as _ _ => ∃ r : Row, y = .ref r.a ∧ (r.a, tupO r) ∈ as ∧ r.ab = (nameAt hs (d.rank i), d.rank i / 2)) (fun i v m3 => m3 (Str.ofString "rank") = some v) ?hh2 ?hclos2 ?hcell2 ?hkind2 ?hnames2 ?h2 ?hs2)
  case hh2 => rfl
  case hclos2 => rfl
  case hcell2 => decide
  case hkind2 => rfl
  case hnames2 => decide
  case hs2 => exact fun _ => rfl
  case h2 =>
    k_steps
    refine ListSrc2.intro kvs F1 N1 ⟨_, (N1 _ (.tail _ (.tail _ (.tail _ (.tail _ (.tail _ (.tail _ (.tail _ (.tail _ (.tail _ (.tail _ (.tail _ (.tail _ mkl))))))))))))).1⟩ (by rw [hkv.1, d.ranks_len]; decide) ?_ ?_ ?_
    · intro I C D s' i v _
      exact binds_name rfl rfl
    · rintro C i v h4 tk4 m4 oC R hin hP hlo4 hB4 hNC hR F4 N4
      rw [hkv.1, d.ranks_len] at hin
      simp only [List.cons_append, List.nil_append] at N4
      obtain ⟨tr, er⟩ := hkv.2 i (by rw [d.ranks_len]; exact hin)
      rw [d.ranks_at hin] at er
      have hv : v = .int ((d.rank i : Nat) : Int) tr := Option.some.inj (hP.symm.trans er)
      subst hv
      have hrk := d.rank_lt hin
      obtain ⟨tn, en⟩ := tok.hvs _ hrk
      have hnl := nameAt_lt tok (d.rank i)
      have hvl : t.vs.length < 2 ^ 62 := by rw [tok.evs]; decide
      clear hP er
      obtain ⟨rk, hrkk⟩ : ∃ rk, d.rank i = rk := ⟨_, rfl⟩
      rw [hrkk] at hrk en hnl hB4
      refine ⟨?_, fun hpz => ?_⟩
      · k_steps
        exact TestIs2.intro rfl hR F4 N4 (fun q hq => by repeat (first | exact List.mem_append_right _ hq | apply List.Mem.tail))
      · k_steps
        rename_i Dx h5 F5 N5 lt5
        have e2 : Int.fdiv ((rk : Nat) : Int) 2 = ((rk / 2 : Nat) : Int) := by rw [Int.fdiv_eq_ediv_of_nonneg _ (by decide)]; omega
        rw [e2, sg_of (by omega)] at N5
        refine EltIs2.news [(Dx, tupO ⟨Dx, nameAt hs rk, tn, rk / 2, tk4 + 1 + 1⟩)] hR F5 N5 (fun q hq => by repeat (first | exact List.mem_append_right _ hq | apply List.Mem.tail)) (fun lo hh h1 h2 h3 => ⟨⟨Dx, nameAt hs rk, tn, rk / 2, tk4 + 1 + 1⟩, rfl, .head _, by rw [hrkk]; rfl⟩) ?_
        intro q hq
        rw [List.mem_singleton.mp hq]
        exact ⟨rest_fresh hR N5 lt5 (fun q hq => by repeat (first | exact List.mem_append_right _ hq | apply List.Mem.tail)), (N5 (Dx, _) (.head _)).1⟩
    · intro D2 h17 tk17 log2 hE1 hE2 hE3 hE4 hi2 hL2 k17 F17 N17 ht17
      rw [hkv.1, d.ranks_len, range_all] at hi2
      obtain ⟨rs, q1, q2, q3⟩ := rows_of (f := fun i => (nameAt hs (d.rank i), d.rank i / 2)) (fun e he => (hL2.1 e he).2.2.1) hi2
      rw [q1] at hE4
      obtain ⟨nD, eD⟩ := hE4
      have hrow : ∀ r ∈ rs, h17.get? r.a = some (tupO r) ∧ r.a ≠ D2 ∧ r.a ≠ L1 ∧ s.heap.get? r.a = none := fun r hr => by
        obtain ⟨e, he, hq⟩ := q3 r hr
        exact (hL2.1 e he).2.2.2 _ hq
      have hcr : ∀ r ∈ rs, r.c < 6 ∧ r.d < 6 := fun r hr => by
        have hm : r.ab ∈ rs.map Row.ab := List.mem_map_of_mem hr
        rw [q2] at hm
        obtain ⟨j, hj, e⟩ := List.mem_map.mp hm
        have hj6 := List.mem_range.mp hj
        have h1 := nameAt_lt tok (d.rank j)
        have h2 := d.rank_lt hj6
        have e1 : nameAt hs (d.rank j) = r.c := congrArg Prod.fst e
        have e2 : d.rank j / 2 = r.d := congrArg Prod.snd e
        omega
      have hrl : rs.length = 6 := by
        have := congrArg List.length q2
        rw [List.length_map, List.length_map, List.length_range] at this
        exact this
      clear hL2 q3 q1
      have hRw : Rows h17 rs := fun r hr => ⟨(hcr r hr).1, (hcr r hr).2, tupO_tt (hrow r hr).1⟩
      have hLD : LL h17 D2 (rs.map Row.ref) := ⟨nD, eD⟩
      have hgD := fresh_of F1 hE1
      have N17 : News g L1 h17 ((L1 + 1 + 1 + 1 + 1 + 1 + 1 + 1 + 1 + 1 + 1 + 1 + 1, o12) :: (L1 + 1 + 1 + 1 + 1 + 1 + 1 + 1 + 1 + 1 + 1 + 1, o11) :: (L1 + 1 + 1 + 1 + 1 + 1 + 1 + 1 + 1 + 1 + 1, o10) :: (L1 + 1 + 1 + 1 + 1 + 1 + 1 + 1 + 1 + 1, o9) :: (L1 + 1 + 1 + 1 + 1 + 1 + 1 + 1 + 1, o8) :: (L1 + 1 + 1 + 1 + 1 + 1 + 1 + 1, o7) :: (L1 + 1 + 1 + 1 + 1 + 1 + 1, o6) :: (L1 + 1 + 1 + 1 + 1 + 1, o5) :: (L1 + 1 + 1 + 1 + 1, o4) :: (L1 + 1 + 1 + 1, o3) :: (L1 + 1 + 1, o2) :: (L1 + 1, o1) :: TL) := N17
      (try dsimp only)
      k_steps
      unfold Stop
      k_dflt (refine' hnew_c B1 F17 X1 T1 ?k3 ?d3 ?u3 D2 rs hLD hRw (by omega) ?_)
      case k3 => exact rfl
      case d3 => ktr_room
      case u3 => ktr_units
      rintro x h18 tk18 x0 ⟨dx, eh, et, en, dx0, ex, edx⟩ kp18
      have x0 : h17.get? x = none := x0
      have dx0 : h17.get? dx = none := dx0
      have kp18 : Kp h17 h18 := kp18
      have up0 : ∀ b, h17.get? b = none → s.heap.get? b = none := fun b e => by
        cases q : s.heap.get? b with
        | none => rfl
        | some o => rw [k17 b o (fresh_of F17 e).2 q] at e; cases e
      have hf : ∀ q ∈ ((x, instObj 242 dx) :: (dx, hdObj eh et D2 en) :: (D2, listOf (rs.map Row.ref).toArray nD) :: Led rs), s.heap.get? q.1 = none ∧ h18.get? q.1 = some q.2 := fun q hq => by
        rcases List.mem_cons.mp hq with rfl | hq
        · exact ⟨up0 _ x0, ex⟩
        rcases List.mem_cons.mp hq with rfl | hq
        · exact ⟨up0 _ dx0, edx⟩
        rcases List.mem_cons.mp hq with rfl | hq
        · exact ⟨hE1, kp18 _ _ eD⟩
        · obtain ⟨r, hr, rfl⟩ := List.mem_map.mp hq
          exact ⟨(hrow r hr).2.2.2, kp18 _ _ (hrow r hr).1⟩
      generalize has : ((x, instObj 242 dx) :: (dx, hdObj eh et D2 en) :: (D2, listOf (rs.map Row.ref).toArray nD) :: Led rs) = as at hf
      have ofA : OffC L1 as := offC_new (fun q hq => (hf q hq).1) N1
      have ofB := ofA.append hoff
      have F18 := fr_kp F17 kp18
      have N18 : News g L1 h18 ((L1 + 1 + 1 + 1 + 1 + 1 + 1 + 1 + 1 + 1 + 1 + 1 + 1, o12) :: (L1 + 1 + 1 + 1 + 1 + 1 + 1 + 1 + 1 + 1 + 1 + 1, o11) :: (L1 + 1 + 1 + 1 + 1 + 1 + 1 + 1 + 1 + 1 + 1, o10) :: (L1 + 1 + 1 + 1 + 1 + 1 + 1 + 1 + 1 + 1, o9) :: (L1 + 1 + 1 + 1 + 1 + 1 + 1 + 1 + 1, o8) :: (L1 + 1 + 1 + 1 + 1 + 1 + 1 + 1, o7) :: (L1 + 1 + 1 + 1 + 1 + 1 + 1, o6) :: (L1 + 1 + 1 + 1 + 1 + 1, o5) :: (L1 + 1 + 1 + 1 + 1, o4) :: (L1 + 1 + 1 + 1, o3) :: (L1 + 1 + 1, o2) :: (L1 + 1, o1) :: (as ++ TL)) := fun q hq => by
        have hN := news_kp N17 kp18
        rw [show ((L1 + 1 + 1 + 1 + 1 + 1 + 1 + 1 + 1 + 1 + 1 + 1 + 1, o12) :: (L1 + 1 + 1 + 1 + 1 + 1 + 1 + 1 + 1 + 1 + 1 + 1, o11) :: (L1 + 1 + 1 + 1 + 1 + 1 + 1 + 1 + 1 + 1 + 1, o10) :: (L1 + 1 + 1 + 1 + 1 + 1 + 1 + 1 + 1 + 1, o9) :: (L1 + 1 + 1 + 1 + 1 + 1 + 1 + 1 + 1, o8) :: (L1 + 1 + 1 + 1 + 1 + 1 + 1 + 1, o7) :: (L1 + 1 + 1 + 1 + 1 + 1 + 1, o6) :: (L1 + 1 + 1 + 1 + 1 + 1, o5) :: (L1 + 1 + 1 + 1 + 1, o4) :: (L1 + 1 + 1 + 1, o3) :: (L1 + 1 + 1, o2) :: (L1 + 1, o1) :: (as ++ TL)) = [(L1 + 1 + 1 + 1 + 1 + 1 + 1 + 1 + 1 + 1 + 1 + 1 + 1, o12), (L1 + 1 + 1 + 1 + 1 + 1 + 1 + 1 + 1 + 1 + 1 + 1, o11), (L1 + 1 + 1 + 1 + 1 + 1 + 1 + 1 + 1 + 1 + 1, o10), (L1 + 1 + 1 + 1 + 1 + 1 + 1 + 1 + 1 + 1, o9), (L1 + 1 + 1 + 1 + 1 + 1 + 1 + 1 + 1, o8), (L1 + 1 + 1 + 1 + 1 + 1 + 1 + 1, o7), (L1 + 1 + 1 + 1 + 1 + 1 + 1, o6), (L1 + 1 + 1 + 1 + 1 + 1, o5), (L1 + 1 + 1 + 1 + 1, o4), (L1 + 1 + 1 + 1, o3), (L1 + 1 + 1, o2), (L1 + 1, o1)] ++ (as ++ TL) from rfl] at hq
        rcases List.mem_append.mp hq with hq | hq
        · exact hN q (List.mem_append_left TL hq)
        rcases List.mem_append.mp hq with hq | hq
        · exact ⟨(hf q hq).2, (fresh_of F1 (hf q hq).1).2, (fresh_of F1 (hf q hq).1).1⟩
        · exact hN q (List.mem_append_right [(L1 + 1 + 1 + 1 + 1 + 1 + 1 + 1 + 1 + 1 + 1 + 1 + 1, o12), (L1 + 1 + 1 + 1 + 1 + 1 + 1 + 1 + 1 + 1 + 1 + 1, o11), (L1 + 1 + 1 + 1 + 1 + 1 + 1 + 1 + 1 + 1 + 1, o10), (L1 + 1 + 1 + 1 + 1 + 1 + 1 + 1 + 1 + 1, o9), (L1 + 1 + 1 + 1 + 1 + 1 + 1 + 1 + 1, o8), (L1 + 1 + 1 + 1 + 1 + 1 + 1 + 1, o7), (L1 + 1 + 1 + 1 + 1 + 1 + 1, o6), (L1 + 1 + 1 + 1 + 1 + 1, o5), (L1 + 1 + 1 + 1 + 1, o4), (L1 + 1 + 1 + 1, o3), (L1 + 1 + 1, o2), (L1 + 1, o1)] hq)
      have hcam : CamOk (as ++ TL) hs d ⟨x, dx, D2, eh, et, en, nD, rs⟩ := by
        have sub : ∀ q ∈ ((x, instObj 242 dx) :: (dx, hdObj eh et D2 en) :: (D2, listOf (rs.map Row.ref).toArray nD) :: Led rs), q ∈ as ++ TL := fun q hq => List.mem_append_left _ (has ▸ hq)
        exact ⟨sub _ (.head _), sub _ (.tail _ (.head _)), sub _ (.tail _ (.tail _ (.head _))), fun r hr => sub _ (.tail _ (.tail _ (.tail _ (led_mem hr)))), q2, hcr⟩
      have w9 : ∀ p ∈ (as ++ TL), p.1 ≠ L1 + 1 + 1 + 1 + 1 + 1 + 1 + 1 + 1 + 1 := fun p hp => (ofB p hp).2.2.2.2.2.2.2.2.1
      clear N17 N1 F17 F1 x0 dx0 kp18
      (try dsimp only)
      k_steps
      unfold Stop
      rename_i h19 o9' F19 N19 d9'
      refine' LawRun.elim (k := 12) ?k7 ?hL ?e7
      case k7 => k_is
      case e7 => rfl
      case hL => exact hnext ⟨x, dx, D2, eh, et, en, nD, rs⟩ o9' h19 _ (as ++ TL) (fun q hq => List.mem_append_right _ hq) ofB hcam d9' F19 fun q hq => N19 q hq
end

/-! S12 -/
example : True := by
  k_with_none
  k_with "subscriptTail" => (k_here; (with_reducible show wpAny _ _ (subscriptTail _ _ (Value.ref _) (Value.int _ _)) _ _ _); (with_unfolding_all refine' my_item ?q_k1 ?q_k2 ?q_k3 ?q_k4 ?_ ?q_k6; (case q_k1 => first | assumption | ((rename GSub _ _ _ => kG9); (rename Fr _ _ _ _ => F9); refine' list_up ?q_t9 kG9 F9 (by simp); (case q_t9 => assumption))); (case q_k2 => assumption); (case q_k3 => first | rfl | assumption | omega | (simp only [Int.fdiv_eq_ediv_of_nonneg _ (by decide : (0 : Int) ≤ 2)]; omega)); (case q_k4 => first | assumption | omega); (case q_k6 => with_unfolding_all rfl); k_whole))
  k_with "call builtin:len" => (k_here; (with_reducible show wpAny _ _ (call (Value.builtin "len") [Value.ref _]) _ _ _); refine' my_len ?q_k1 ?q_k2 ?_; (case q_k1 => first | assumption | ((rename GSub _ _ _ => kG9); (rename Fr _ _ _ _ => F9); refine' list_up ?q_t9 kG9 F9 (by simp); (case q_t9 => assumption))); (case q_k2 => first | assumption | omega); intro _ _)
  k_with "subscriptTail" => (k_here; (with_reducible show wpAny _ _ (subscriptTail _ _ (Value.ref _) (Value.int _ _)) _ _ _); (with_unfolding_all refine' my_titem ?q_k1 ?q_k2 ?q_k3 ?q_k4 ?_ ?q_k6; (case q_k1 => first | assumption | ((rename GSub _ _ _ => kG9); (rename Fr _ _ _ _ => F9); refine' TT.up ?q_t9 kG9 F9 (by simp); (case q_t9 => assumption))); (case q_k2 => first | assumption | decide | omega); (case q_k3 => first | assumption | exact rfl); (case q_k4 => first | assumption | (simp only [List.length_cons, List.length_nil]; decide)); (case q_k6 => with_unfolding_all rfl); k_whole))
  k_with "eval Name" => (k_here; (with_reducible show wpAny _ _ (eval (Expr.Name _ _) (compEnvC _ _ _ _)) _ _ _); (with_unfolding_all refine' wpAny_Name (wpAny_loadName_local ?q_a ?q_b ?q_c ?q_d ?_) ?q_e; (case q_a => rfl); (case q_b => rfl); (case q_c => first | assumption | exact nsC_get (by assumption) (by assumption) (by repeat (first | exact List.Mem.head _ | apply List.Mem.tail))); (case q_d => assumption); (case q_e => decide); k_whole))
  k_with "eval ListComp" => (k_here; refine stopHere ?_)
  k_with "call builtin:list.append" => (k_here; refine stopHere ?_)
  k_with "call ref" => (k_here; refine stopHere ?_)
  k_with "pyIter ref" => (k_here; refine stopHere ?_)
  k_with "execs cons" => (k_here; refine stopHere ?_)
  k_with "subscriptTail" => (k_here; (with_reducible show wpAny _ _ (subscriptTail _ _ (Value.ref _) (Value.int _ _)) _ _ _); (with_unfolding_all refine' my_item ?q_k1 ?q_k2 ?q_k3 ?q_k4 ?_ ?q_k6; (case q_k3 => first | exact rfl | exact (rfl : (0 : Int) = ((0 : Nat) : Int))); (case q_k1 => first | assumption | exact isl_news (by assumption) (by repeat (first | assumption | exact List.mem_append_left _ (by assumption) | apply List.Mem.tail))); (case q_k2 => assumption); (case q_k4 => first | assumption | omega | exact (by decide)); (case q_k6 => with_unfolding_all rfl); k_whole))
  k_with "subscriptTail Name Constant ref int" => (k_here; refine stopHere ?_)
  k_with "own k_updF" => (refine' UpdF.head ?q_a; (case q_a => (repeat (first | assumption | (refine List.forall_mem_cons.mpr ⟨by k_ne, ?_⟩)))))
  k_with "subscriptTail Name Slice ref ref" => (k_here; refine stopHere ?_)
  k_with "compareOp NotEq ref ref" => (k_here; refine stopHere ?_)
  k_with "call builtin:str.lower" => (k_here; k_dflt (refine' KXw.lower ?q_a ?q_b ?_; (case q_a => assumption); (case q_b => assumption)); intro _ _)
  k_with "own k_inst" => exact inst_news (by assumption) (by repeat (first | assumption | exact List.mem_append_left _ (by assumption) | apply List.Mem.tail)) (by repeat (first | assumption | exact List.mem_append_left _ (by assumption) | apply List.Mem.tail))
  trivial
section
variable {g : Heap} {L1 : Addr} {Qf : Flow → Shared → Prop}
theorem law_s12 (t : TabD) (F1 : Fr g L1 s.heap m) (X1 : (hd.heap_1 w.params).In g) (T1 : Top p loose mean mg mb g) (TL : List (Addr × Obj)) (d : LawD) (rl kl gl : Addr) (nk : Nat) (kvs : List Value) (mkl : (kl, listOf kvs.toArray nk) ∈ TL) (hkv : IL d.ranks kvs)
    (hs bs : List (Nat × Nat)) (tok : TabOk TL hs bs t) (cd : CamD) (cok : CamOk TL hs d cd)
    (v1 : Option Value) (o1 : Obj) (d1 : o1.data = .cell v1) (o2 : Obj) (d2 : o2.data = .cell (some (.ref d.tl))) (o3 : Obj) (d3 : o3.data = .cell (some (.ref d.ll))) (o4 : Obj) (d4 : o4.data = .cell (some (.ref d.pl))) (o5 : Obj) (d5 : o5.data = .cell (some (.ref rl))) (o6 : Obj) (d6 : o6.data = .cell (some (.ref kl))) (o7 : Obj) (d7 : o7.data = .cell (some (.ref gl))) (o8 : Obj) (d8 : o8.data = .cell (some (.ref t.dn))) (o9 : Obj) (d9 : o9.data = .cell (some (.ref cd.x))) (o10 : Obj) (d10 : o10.data = .cell none) (o11 : Obj) (d11 : o11.data = .cell none) (o12 : Obj) (d12 : o12.data = .cell (some (.ref d.nl)))
    (N1 : News g L1 s.heap ((L1 + 1 + 1 + 1 + 1 + 1 + 1 + 1 + 1 + 1 + 1 + 1 + 1, o12) :: (L1 + 1 + 1 + 1 + 1 + 1 + 1 + 1 + 1 + 1 + 1 + 1, o11) :: (L1 + 1 + 1 + 1 + 1 + 1 + 1 + 1 + 1 + 1 + 1, o10) :: (L1 + 1 + 1 + 1 + 1 + 1 + 1 + 1 + 1 + 1, o9) :: (L1 + 1 + 1 + 1 + 1 + 1 + 1 + 1 + 1, o8) :: (L1 + 1 + 1 + 1 + 1 + 1 + 1 + 1, o7) :: (L1 + 1 + 1 + 1 + 1 + 1 + 1, o6) :: (L1 + 1 + 1 + 1 + 1 + 1, o5) :: (L1 + 1 + 1 + 1 + 1, o4) :: (L1 + 1 + 1 + 1, o3) :: (L1 + 1 + 1, o2) :: (L1 + 1, o1) :: TL))
    (hnext : ∀ (h' : Heap) (tk' : Nat), 
      Fr g L1 h' m → News g L1 h' ((L1 + 1 + 1 + 1 + 1 + 1 + 1 + 1 + 1 + 1 + 1 + 1 + 1, o12) :: (L1 + 1 + 1 + 1 + 1 + 1 + 1 + 1 + 1 + 1 + 1 + 1, o11) :: (L1 + 1 + 1 + 1 + 1 + 1 + 1 + 1 + 1 + 1 + 1, o10) :: (L1 + 1 + 1 + 1 + 1 + 1 + 1 + 1 + 1 + 1, o9) :: (L1 + 1 + 1 + 1 + 1 + 1 + 1 + 1 + 1, o8) :: (L1 + 1 + 1 + 1 + 1 + 1 + 1 + 1, o7) :: (L1 + 1 + 1 + 1 + 1 + 1 + 1, o6) :: (L1 + 1 + 1 + 1 + 1 + 1, o5) :: (L1 + 1 + 1 + 1 + 1, o4) :: (L1 + 1 + 1 + 1, o3) :: (L1 + 1 + 1, o2) :: (L1 + 1, o1) :: TL) → LawRun w 13 L1 Qf { s with heap := h', toks := tk' }) : LawRun w 12 L1 Qf s := by
  refine' LawRun.intro ?k6 ?_
  case k6 => k_is
  dsimp only [List.drop]
  have B1 : Below callerA g [] g := below_caller g
  have mdn := tok.mdn
  have mcx := cok.mx
  have mcd := cok.mdx
  have hrl : cd.rs.length = 6 := by
    have := congrArg List.length cok.ers
    rw [List.length_map, List.length_map, List.length_range] at this
    exact this
  refine wpAny_execs_cons ?_
  k_steps
  unfold Stop
  k_dflt (refine' comp_list2 (g := g) (L := L1) (fun _ => true) (fun i y as _ _ => ∃ D n, y = Value.ref D ∧ (D, listOf ((cd.rs.filter fun r => r.c % 3 == i).map Row.val).toArray n) ∈ as) (fun i v m3 => m3 (Str.ofString "name") = some v) ?hh2 ?hclos2 ?hcell2 ?hkind2 ?hnames2 ?h2 ?hs2)
  case hh2 => rfl
  case hclos2 => rfl
  case hcell2 => decide
  case hkind2 => rfl
  case hnames2 => decide
  case hs2 => exact fun _ => rfl
  case h2 =>
    k_steps
    rename_i l7 h7 F7 N7 lt7
    refine ListSrc2.intro [_, _, _] F7 N7 ⟨_, (N7 _ (.head _)).1⟩ (show 3 < 2 ^ 20 by decide) ?_ ?_ ?_
    · intro I C D s' i v _
      exact binds_name rfl rfl
    · rintro C i v h4 tk4 m4 oC R hin hP hlo4 hB4 hNC hR F4 N4
      simp only [List.cons_append, List.nil_append] at N4
      have hin3 : i < 3 := hin
      refine exE2 (?ob0 : ∃ z t, v = .str z t ∧ Txt.lower z = nm i ∧ PySem.Builtin.Str.tooLong (Txt.lower z).length = false) fun z tz jj => andE3 jj fun ev hlo hfit => ?_
      case ob0 =>
        match i, hin3, hP with
        | 0, _, hP => exact ⟨_, _, (Option.some.inj hP).symm, by decide +kernel, by decide +kernel⟩
        | 1, _, hP => exact ⟨_, _, (Option.some.inj hP).symm, by decide +kernel, by decide +kernel⟩
        | 2, _, hP => exact ⟨_, _, (Option.some.inj hP).symm, by decide +kernel, by decide +kernel⟩
      clear jj
      subst ev
      have hH : HT h4 cd.x cd.cl := ⟨_, _, _, _, (N4 _ (.tail _ (.tail _ (.tail _ (.tail _ (.tail _ (.tail _ (.tail _ (.tail _ (.tail _ (.tail _ (.tail _ (.tail _ (.tail _ (.tail _ (List.mem_append_left _ mcx)))))))))))))))).1, (N4 _ (.tail _ (.tail _ (.tail _ (.tail _ (.tail _ (.tail _ (.tail _ (.tail _ (.tail _ (.tail _ (.tail _ (.tail _ (.tail _ (.tail _ (List.mem_append_left _ mcd)))))))))))))))).1⟩
      have hL : LL h4 cd.cl (cd.rs.map Row.ref) := ⟨_, (N4 _ (.tail _ (.tail _ (.tail _ (.tail _ (.tail _ (.tail _ (.tail _ (.tail _ (.tail _ (.tail _ (.tail _ (.tail _ (.tail _ (.tail _ (List.mem_append_left _ cok.mcl)))))))))))))))).1⟩
      have hW : Rows h4 cd.rs := fun r hr => ⟨(cok.crs r hr).1, (cok.crs r hr).2, tupO_tt (N4 _ (.tail _ (.tail _ (.tail _ (.tail _ (.tail _ (.tail _ (.tail _ (.tail _ (.tail _ (.tail _ (.tail _ (.tail _ (.tail _ (.tail _ (List.mem_append_left _ (cok.mrs r hr))))))))))))))))).1⟩
      refine ⟨?_, fun hpz => ?_⟩
      · k_steps
        exact TestIs2.intro rfl hR F4 N4 (fun q hq => by repeat (first | exact List.mem_append_right _ hq | apply List.Mem.tail))
      · k_steps
        unfold Stop
        k_dflt (refine' getall_s B1 F4 X1 T1 ?k3 ?d3 ?u3 cd.x cd.cl cd.rs hH hL hW (by omega) z i hin3 hlo hfit tz ?_)
        case k3 => exact rfl
        case d3 => ktr_room
        case u3 => ktr_units
        rintro D8 h8 tk8 fD8 ⟨n8, eD8⟩ k8
        have fD8 : h4.get? D8 = none := fD8
        have F8 := fr_kp F4 k8
        have N8 := news_kp N4 k8
        refine EltIs2.news [(D8, listOf ((cd.rs.filter fun r => r.c % 3 == i).map Row.val).toArray n8)] hR F8 N8 (fun q hq => by repeat (first | exact List.mem_append_right _ hq | apply List.Mem.tail)) (fun lo hh h1 h2 h3 => ⟨D8, n8, rfl, .head _⟩) fun q hq => ?_
        rw [List.mem_singleton.mp hq]
        exact ⟨fD8, eD8⟩
    · intro D2 h17 tk17 log2 hE1 hE2 hE3 hE4 hi2 hL2 k17 F17 N17 ht17
      rw [range_all] at hi2
      refine exE3 (log_three hi2) fun ea eb ec jj => andE4 jj fun ez3 ia ib ic => ?_
      clear jj
      subst ez3
      refine exE2 ((hL2.1 ea (.head _)).2.2.1) fun A0 na jj => andE2 jj fun ya ma => ?_
      clear jj
      refine exE2 ((hL2.1 eb (.tail _ (.head _))).2.2.1) fun A1 nb jj => andE2 jj fun yb mb' => ?_
      clear jj
      refine exE2 ((hL2.1 ec (.tail _ (.tail _ (.head _)))).2.2.1) fun A2 nc jj => andE2 jj fun yc mc => ?_
      clear jj
      rw [ia] at ma
      rw [ib] at mb'
      rw [ic] at mc
      have ra := (hL2.1 ea (.head _)).2.2.2 _ ma
      have rb := (hL2.1 eb (.tail _ (.head _))).2.2.2 _ mb'
      have rc := (hL2.1 ec (.tail _ (.tail _ (.head _)))).2.2.2 _ mc
      obtain ⟨nD, eD⟩ := hE4
      simp only [List.map_cons, List.map_nil, ya, yb, yc] at eD
      have N8 : News g L1 h17 ((D2, listOf #[.ref A0, .ref A1, .ref A2] nD) :: (A0, listOf ((cd.rs.filter fun r => r.c % 3 == 0).map Row.val).toArray na) :: (A1, listOf ((cd.rs.filter fun r => r.c % 3 == 1).map Row.val).toArray nb) :: (A2, listOf ((cd.rs.filter fun r => r.c % 3 == 2).map Row.val).toArray nc) :: (L1 + 1 + 1 + 1 + 1 + 1 + 1 + 1 + 1 + 1 + 1 + 1 + 1, o12) :: (L1 + 1 + 1 + 1 + 1 + 1 + 1 + 1 + 1 + 1 + 1 + 1, o11) :: (L1 + 1 + 1 + 1 + 1 + 1 + 1 + 1 + 1 + 1 + 1, o10) :: (L1 + 1 + 1 + 1 + 1 + 1 + 1 + 1 + 1 + 1, o9) :: (L1 + 1 + 1 + 1 + 1 + 1 + 1 + 1 + 1, o8) :: (L1 + 1 + 1 + 1 + 1 + 1 + 1 + 1, o7) :: (L1 + 1 + 1 + 1 + 1 + 1 + 1, o6) :: (L1 + 1 + 1 + 1 + 1 + 1, o5) :: (L1 + 1 + 1 + 1 + 1, o4) :: (L1 + 1 + 1 + 1, o3) :: (L1 + 1 + 1, o2) :: (L1 + 1, o1) :: TL) := fun q hq => by
        rcases List.mem_cons.mp hq with rfl | hq
        · exact ⟨eD, hE3, hE2⟩
        rcases List.mem_cons.mp hq with rfl | hq
        · exact ⟨ra.1, (fresh_of F7 ra.2.2.2).2, (fresh_of F7 ra.2.2.2).1⟩
        rcases List.mem_cons.mp hq with rfl | hq
        · exact ⟨rb.1, (fresh_of F7 rb.2.2.2).2, (fresh_of F7 rb.2.2.2).1⟩
        rcases List.mem_cons.mp hq with rfl | hq
        · exact ⟨rc.1, (fresh_of F7 rc.2.2.2).2, (fresh_of F7 rc.2.2.2).1⟩
        · exact N17 q (.tail _ hq)
      clear N17 N7 F7 ra rb rc ma mb' mc hL2 k17
      (try dsimp only)
      k_steps
      unfold Stop
      k_dflt (refine' comp_list3 (g := g) (L := L1) (fun _ => true) (fun i y as _ _ => ∃ D n tvs, y = Value.ref D ∧ (D, listOf tvs.toArray n) ∈ as ∧ TsAre tvs (((List.range 6).filter fun j => nameAt hs (d.rank j) % 3 == i).map fun j => sg (d.rank j / 2))) ?hh3 ?hclos3 ?hcells3 ?hpush3 ?hxk3 ?hkind3 ?hnames3 ?h3 ?hs3)
      case hh3 => rfl
      case hclos3 => rfl
      case hcells3 => exact fun _ => rfl
      case hpush3 => exact fun _ => rfl
      case hxk3 => exact fun _ _ => rfl
      case hkind3 => rfl
      case hnames3 => decide
      case hs3 => exact fun _ => rfl
      case h3 =>
        k_steps
        rename_i l9 h9 F9 N9 lt9
        refine ListSrc3.intro [_, _, _] F9 N9 ⟨_, (N9 _ (.head _)).1⟩ (show 3 < 2 ^ 20 by decide) ?_ ?_
        · rintro C c i v h4 tk4 oc R hin hP hlo4 hoc hR F4 N4
          simp only [List.cons_append, List.nil_append] at N4
          have hin3 : i < 3 := hin
          obtain ⟨tz, ev⟩ : ∃ t, v = .str (nm i) t := by
            match i, hin3, hP with
            | 0, _, hP => exact ⟨_, (Option.some.inj hP).symm⟩
            | 1, _, hP => exact ⟨_, (Option.some.inj hP).symm⟩
            | 2, _, hP => exact ⟨_, (Option.some.inj hP).symm⟩
          subst ev
          clear hP
          refine ⟨?_, fun hpz => ?_⟩
          · k_steps
            exact TestIs2.intro rfl hR F4 N4 (fun q hq => by repeat (first | exact List.mem_append_right _ hq | apply List.Mem.tail))
          · k_steps
            unfold Stop
            k_dflt (refine' comp_list2 (g := g) (L := L1) (fun j => nameAt hs (d.rank j) % 3 == i) (fun j y _ _ _ => ∃ t, y = Value.str (sg (d.rank j / 2)) t) (fun i v m3 => m3 (Str.ofString "rank") = some v) ?hh4 ?hclos4 ?hcell4 ?hkind4 ?hnames4 ?h4 ?hs4)
            case hh4 => rfl
            case hclos4 => rfl
            case hcell4 => decide
            case hkind4 => rfl
            case hnames4 => decide
            case hs4 => exact fun _ => rfl
            case h4 =>
              k_steps
              refine ListSrc2.intro kvs F4 N4 ⟨_, (N4 _ (.tail _ (.tail _ (.tail _ (.tail _ (.tail _ (.tail _ (.tail _ (.tail _ (.tail _ (.tail _ (.tail _ (.tail _ (.tail _ (.tail _ (.tail _ (.tail _ (.tail _ (.tail _ (List.mem_append_left _ mkl)))))))))))))))))))).1⟩ (by rw [hkv.1, d.ranks_len]; decide) ?_ ?_ ?_
              · intro I C D s' i v _
                exact binds_name rfl rfl
              · rintro C' j v' h6 tk6 m6 oC' R' hin' hP' hlo6 hB6 hNC6 hR6 F6 N6
                rw [hkv.1, d.ranks_len] at hin'
                simp only [List.cons_append, List.nil_append, List.append_assoc] at N6
                obtain ⟨tr, er⟩ := hkv.2 j (by rw [d.ranks_len]; exact hin')
                rw [d.ranks_at hin'] at er
                have hv : v' = .int ((d.rank j : Nat) : Int) tr := Option.some.inj (hP'.symm.trans er)
                subst hv
                have hrk := d.rank_lt hin'
                obtain ⟨tn, en⟩ := tok.hvs _ hrk
                have hnl := nameAt_lt tok (d.rank j)
                have hvl : t.vs.length < 2 ^ 62 := by rw [tok.evs]; decide
                clear hP' er
                obtain ⟨rk, hrkk⟩ : ∃ rk, d.rank j = rk := ⟨_, rfl⟩
                rw [hrkk] at hrk en hnl hB6
                obtain ⟨nk', hnkk⟩ : ∃ nk', nameAt hs rk = nk' := ⟨_, rfl⟩
                rw [hnkk] at hnl en
                obtain ⟨hlo, hfit⟩ := nm_lower nk' hnl
                refine ⟨?_, fun hpz => ?_⟩
                · k_steps
                  refine TestIs2.intro ?_ hR6 F6 N6 (fun q hq => by repeat (first | exact List.mem_append_right _ (List.mem_append_right _ hq) | apply List.Mem.tail))
                  rw [hrkk, hnkk]
                  exact nm_beq (by omega) (by omega)
                · k_steps
                  have e2 : Int.fdiv ((rk : Nat) : Int) 2 = ((rk / 2 : Nat) : Int) := by rw [Int.fdiv_eq_ediv_of_nonneg _ (by decide)]; omega
                  exact EltIs2.plain hR6 F6 N6 (fun q hq => by repeat (first | exact List.mem_append_right _ (List.mem_append_right _ hq) | apply List.Mem.tail)) fun lo hh h1 h2 h3 => ⟨tk6 + 1 + 1, by rw [e2, sg_of (by omega), hrkk]⟩
              · intro D3 h18 tk18 log3 hG1 hG2 hG3 hG4 hi3 hL3 k18 F18 N18 ht18
                rw [hkv.1, d.ranks_len] at hi3
                have hts := ts_log (f := fun j => sg (d.rank j / 2)) (fun e he => (hL3.1 e he).2.2.1)
                rw [hi3] at hts
                obtain ⟨n3, eD3⟩ := hG4
                have hG1 : h4.get? D3 = none := hG1
                refine EltIs2.news [(D3, listOf (log3.map (·.y)).toArray n3)] hR F18 N18 (fun q hq => by repeat (first | exact List.mem_append_right _ hq | apply List.Mem.tail)) (fun lo hh h1 h2 h3 => ⟨D3, n3, _, rfl, .head _, hts⟩) fun q hq => ?_
                rw [List.mem_singleton.mp hq]
                exact ⟨hG1, eD3⟩
        · intro D3 h18 tk18 log3 hG1 hG2 hG3 hG4 hi3 hL3 k18 F18 N18 ht18
          have hi3 : log3.map (·.i) = [0, 1, 2] := hi3
          refine exE3 (log_three hi3) fun ea eb ec jj => andE4 jj fun ez3 ia ib ic => ?_
          clear jj
          subst ez3
          refine exE3 ((hL3.1 ea (.head _)).2.2.1) fun B0 pa tva jj => andE3 jj fun ya ma ta => ?_
          clear jj
          refine exE3 ((hL3.1 eb (.tail _ (.head _))).2.2.1) fun B1' pb tvb jj => andE3 jj fun yb mb' tb => ?_
          clear jj
          refine exE3 ((hL3.1 ec (.tail _ (.tail _ (.head _)))).2.2.1) fun B2 pc tvc jj => andE3 jj fun yc mc tc => ?_
          clear jj
          rw [ia] at ta
          rw [ib] at tb
          rw [ic] at tc
          have ra := (hL3.1 ea (.head _)).2.2.2 _ ma
          have rb := (hL3.1 eb (.tail _ (.head _))).2.2.2 _ mb'
          have rc := (hL3.1 ec (.tail _ (.tail _ (.head _)))).2.2.2 _ mc
          obtain ⟨nE, eE⟩ := hG4
          simp only [List.map_cons, List.map_nil, ya, yb, yc] at eE
          have hF9 : ∀ {b : Addr}, h9.get? b = none → b ≠ L1 ∧ g.get? b = none := fun e => ⟨(fresh_of F9 e).2, (fresh_of F9 e).1⟩
          have N19 : News g L1 h18 ((D3, listOf #[.ref B0, .ref B1', .ref B2] nE) :: (B0, listOf tva.toArray pa) :: (B1', listOf tvb.toArray pb) :: (B2, listOf tvc.toArray pc) :: (D2, listOf #[.ref A0, .ref A1, .ref A2] nD) :: (A0, listOf ((cd.rs.filter fun r => r.c % 3 == 0).map Row.val).toArray na) :: (A1, listOf ((cd.rs.filter fun r => r.c % 3 == 1).map Row.val).toArray nb) :: (A2, listOf ((cd.rs.filter fun r => r.c % 3 == 2).map Row.val).toArray nc) :: (L1 + 1 + 1 + 1 + 1 + 1 + 1 + 1 + 1 + 1 + 1 + 1 + 1, o12) :: (L1 + 1 + 1 + 1 + 1 + 1 + 1 + 1 + 1 + 1 + 1 + 1, o11) :: (L1 + 1 + 1 + 1 + 1 + 1 + 1 + 1 + 1 + 1 + 1, o10) :: (L1 + 1 + 1 + 1 + 1 + 1 + 1 + 1 + 1 + 1, o9) :: (L1 + 1 + 1 + 1 + 1 + 1 + 1 + 1 + 1, o8) :: (L1 + 1 + 1 + 1 + 1 + 1 + 1 + 1, o7) :: (L1 + 1 + 1 + 1 + 1 + 1 + 1, o6) :: (L1 + 1 + 1 + 1 + 1 + 1, o5) :: (L1 + 1 + 1 + 1 + 1, o4) :: (L1 + 1 + 1 + 1, o3) :: (L1 + 1 + 1, o2) :: (L1 + 1, o1) :: TL) := fun q hq => by
            rcases List.mem_cons.mp hq with rfl | hq
            · exact ⟨eE, hG3, hG2⟩
            rcases List.mem_cons.mp hq with rfl | hq
            · exact ⟨ra.1, hF9 ra.2.2.2⟩
            rcases List.mem_cons.mp hq with rfl | hq
            · exact ⟨rb.1, hF9 rb.2.2.2⟩
            rcases List.mem_cons.mp hq with rfl | hq
            · exact ⟨rc.1, hF9 rc.2.2.2⟩
            · exact N18 q (.tail _ hq)
          clear N18 N9 F9 ra rb rc ma mb' mc hL3 k18
          have okv : ∀ i, ∀ x ∈ ((cd.rs.filter fun r => r.c % 3 == i).map fun r => sg r.d), PyData.strOk x = true := fun i x hx => by
            obtain ⟨r, hr, rfl⟩ := List.mem_map.mp hx
            exact sg_ok _ (cok.crs r (List.mem_filter.mp hr).1).2
          (try dsimp only)
          k_steps
          unfold Stop
          k_dflt (refine' my_ne_tss N19 (.tail _ (.tail _ (.tail _ (.tail _ (.head _))))) (.head _) (isl_news N19 (.tail _ (.tail _ (.tail _ (.tail _ (.tail _ (.head _))))))) (isl_news N19 (.tail _ (.tail _ (.tail _ (.tail _ (.tail _ (.tail _ (.head _)))))))) (isl_news N19 (.tail _ (.tail _ (.tail _ (.tail _ (.tail _ (.tail _ (.tail _ (.head _))))))))) (isl_news N19 (.tail _ (.head _))) (isl_news N19 (.tail _ (.tail _ (.head _)))) (isl_news N19 (.tail _ (.tail _ (.tail _ (.head _))))) ts_vals ts_vals ts_vals ta tb tc (okv 0) (okv 1) (okv 2) (came_row cok.ers 0) (came_row cok.ers 1) (came_row cok.ers 2) ?u1 ?_)
          case u1 => ke_room
          have N7 : News g L1 h18 ((L1 + 1 + 1 + 1 + 1 + 1 + 1 + 1 + 1 + 1 + 1 + 1 + 1, o12) :: (L1 + 1 + 1 + 1 + 1 + 1 + 1 + 1 + 1 + 1 + 1 + 1, o11) :: (L1 + 1 + 1 + 1 + 1 + 1 + 1 + 1 + 1 + 1 + 1, o10) :: (L1 + 1 + 1 + 1 + 1 + 1 + 1 + 1 + 1 + 1, o9) :: (L1 + 1 + 1 + 1 + 1 + 1 + 1 + 1 + 1, o8) :: (L1 + 1 + 1 + 1 + 1 + 1 + 1 + 1, o7) :: (L1 + 1 + 1 + 1 + 1 + 1 + 1, o6) :: (L1 + 1 + 1 + 1 + 1 + 1, o5) :: (L1 + 1 + 1 + 1 + 1, o4) :: (L1 + 1 + 1 + 1, o3) :: (L1 + 1 + 1, o2) :: (L1 + 1, o1) :: TL) := fun q hq => N19 q (.tail _ (.tail _ (.tail _ (.tail _ (.tail _ (.tail _ (.tail _ (.tail _ hq))))))))
          clear N19
          (try dsimp only)
          k_steps
          unfold Stop
          refine' LawRun.elim (k := 13) ?k7 ?hL ?e7
          case k7 => k_is
          case e7 => rfl
          case hL => exact hnext h18 _ F18 N7
end

/-! S13 -/
example : True := by
  k_with_none
  k_with "subscriptTail" => (k_here; (with_reducible show wpAny _ _ (subscriptTail _ _ (Value.ref _) (Value.int _ _)) _ _ _); (with_unfolding_all refine' my_item ?q_k1 ?q_k2 ?q_k3 ?q_k4 ?_ ?q_k6; (case q_k1 => first | assumption | ((rename GSub _ _ _ => kG9); (rename Fr _ _ _ _ => F9); refine' list_up ?q_t9 kG9 F9 (by simp); (case q_t9 => assumption))); (case q_k2 => assumption); (case q_k3 => first | rfl | assumption | omega | (simp only [Int.fdiv_eq_ediv_of_nonneg _ (by decide : (0 : Int) ≤ 2)]; omega)); (case q_k4 => first | assumption | omega); (case q_k6 => with_unfolding_all rfl); k_whole))
  k_with "call builtin:len" => (k_here; (with_reducible show wpAny _ _ (call (Value.builtin "len") [Value.ref _]) _ _ _); refine' my_len ?q_k1 ?q_k2 ?_; (case q_k1 => first | assumption | ((rename GSub _ _ _ => kG9); (rename Fr _ _ _ _ => F9); refine' list_up ?q_t9 kG9 F9 (by simp); (case q_t9 => assumption))); (case q_k2 => first | assumption | omega); intro _ _)
  k_with "subscriptTail" => (k_here; (with_reducible show wpAny _ _ (subscriptTail _ _ (Value.ref _) (Value.int _ _)) _ _ _); (with_unfolding_all refine' my_titem ?q_k1 ?q_k2 ?q_k3 ?q_k4 ?_ ?q_k6; (case q_k1 => first | assumption | ((rename GSub _ _ _ => kG9); (rename Fr _ _ _ _ => F9); refine' TT.up ?q_t9 kG9 F9 (by simp); (case q_t9 => assumption))); (case q_k2 => first | assumption | decide | omega); (case q_k3 => first | assumption | exact rfl); (case q_k4 => first | assumption | (simp only [List.length_cons, List.length_nil]; decide)); (case q_k6 => with_unfolding_all rfl); k_whole))
  k_with "eval Name" => (k_here; (with_reducible show wpAny _ _ (eval (Expr.Name _ _) (compEnvC _ _ _ _)) _ _ _); (with_unfolding_all refine' wpAny_Name (wpAny_loadName_local ?q_a ?q_b ?q_c ?q_d ?_) ?q_e; (case q_a => rfl); (case q_b => rfl); (case q_c => first | assumption | exact nsC_get (by assumption) (by assumption) (by repeat (first | exact List.Mem.head _ | apply List.Mem.tail))); (case q_d => assumption); (case q_e => decide); k_whole))
  k_with "eval ListComp" => (k_here; refine stopHere ?_)
  k_with "call builtin:list.append" => (k_here; refine stopHere ?_)
  k_with "call ref" => (k_here; refine stopHere ?_)
  k_with "pyIter ref" => (k_here; refine stopHere ?_)
  k_with "execs cons" => (k_here; refine stopHere ?_)
  k_with "subscriptTail" => (k_here; (with_reducible show wpAny _ _ (subscriptTail _ _ (Value.ref _) (Value.int _ _)) _ _ _); (with_unfolding_all refine' my_item ?q_k1 ?q_k2 ?q_k3 ?q_k4 ?_ ?q_k6; (case q_k3 => first | exact rfl | exact (rfl : (0 : Int) = ((0 : Nat) : Int))); (case q_k1 => first | assumption | exact isl_news (by assumption) (by repeat (first | assumption | exact List.mem_append_left _ (by assumption) | apply List.Mem.tail))); (case q_k2 => assumption); (case q_k4 => first | assumption | omega | exact (by decide)); (case q_k6 => with_unfolding_all rfl); k_whole))
  k_with "subscriptTail Name Constant ref int" => (k_here; refine stopHere ?_)
  k_with "own k_updF" => (refine' UpdF.head ?q_a; (case q_a => (repeat (first | assumption | (refine List.forall_mem_cons.mpr ⟨by k_ne, ?_⟩)))))
  k_with "subscriptTail Name Slice ref ref" => (k_here; refine stopHere ?_)
  trivial
section
variable {g : Heap} {L1 : Addr} {Qf : Flow → Shared → Prop}
theorem law_s13 (F1 : Fr g L1 s.heap m) (X1 : (hd.heap_1 w.params).In g) (T1 : Top p loose mean mg mb g) (TL : List (Addr × Obj)) (hoff : OffC L1 TL) (d : LawD) (rl kl gl dn cx : Addr) (nk : Nat) (kvs : List Value) (mkl : (kl, listOf kvs.toArray nk) ∈ TL) (hkv : IL d.ranks kvs)
    (v1 : Option Value) (o1 : Obj) (d1 : o1.data = .cell v1) (o2 : Obj) (d2 : o2.data = .cell (some (.ref d.tl))) (o3 : Obj) (d3 : o3.data = .cell (some (.ref d.ll))) (o4 : Obj) (d4 : o4.data = .cell (some (.ref d.pl))) (o5 : Obj) (d5 : o5.data = .cell (some (.ref rl))) (o6 : Obj) (d6 : o6.data = .cell (some (.ref kl))) (o7 : Obj) (d7 : o7.data = .cell (some (.ref gl))) (o8 : Obj) (d8 : o8.data = .cell (some (.ref dn))) (o9 : Obj) (d9 : o9.data = .cell (some (.ref cx))) (o10 : Obj) (d10 : o10.data = .cell none) (o11 : Obj) (d11 : o11.data = .cell none) (o12 : Obj) (d12 : o12.data = .cell (some (.ref d.nl)))
    (N1 : News g L1 s.heap ((L1 + 1 + 1 + 1 + 1 + 1 + 1 + 1 + 1 + 1 + 1 + 1 + 1, o12) :: (L1 + 1 + 1 + 1 + 1 + 1 + 1 + 1 + 1 + 1 + 1 + 1, o11) :: (L1 + 1 + 1 + 1 + 1 + 1 + 1 + 1 + 1 + 1 + 1, o10) :: (L1 + 1 + 1 + 1 + 1 + 1 + 1 + 1 + 1 + 1, o9) :: (L1 + 1 + 1 + 1 + 1 + 1 + 1 + 1 + 1, o8) :: (L1 + 1 + 1 + 1 + 1 + 1 + 1 + 1, o7) :: (L1 + 1 + 1 + 1 + 1 + 1 + 1, o6) :: (L1 + 1 + 1 + 1 + 1 + 1, o5) :: (L1 + 1 + 1 + 1 + 1, o4) :: (L1 + 1 + 1 + 1, o3) :: (L1 + 1 + 1, o2) :: (L1 + 1, o1) :: TL))
    (hnext : ∀ (fl : Addr) (nf : Nat) (fvs : List Value) (o10 : Obj) (h' : Heap) (tk' : Nat) (TL' : List (Addr × Obj)), (∀ q ∈ TL, q ∈ TL') → OffC L1 TL' → (fl, listOf fvs.toArray nf) ∈ TL' → IL (fallsF d.ranks 6) fvs → o10.data = .cell (some (.ref fl)) →
      Fr g L1 h' m → News g L1 h' ((L1 + 1 + 1 + 1 + 1 + 1 + 1 + 1 + 1 + 1 + 1 + 1 + 1, o12) :: (L1 + 1 + 1 + 1 + 1 + 1 + 1 + 1 + 1 + 1 + 1 + 1, o11) :: (L1 + 1 + 1 + 1 + 1 + 1 + 1 + 1 + 1 + 1 + 1, o10) :: (L1 + 1 + 1 + 1 + 1 + 1 + 1 + 1 + 1 + 1, o9) :: (L1 + 1 + 1 + 1 + 1 + 1 + 1 + 1 + 1, o8) :: (L1 + 1 + 1 + 1 + 1 + 1 + 1 + 1, o7) :: (L1 + 1 + 1 + 1 + 1 + 1 + 1, o6) :: (L1 + 1 + 1 + 1 + 1 + 1, o5) :: (L1 + 1 + 1 + 1 + 1, o4) :: (L1 + 1 + 1 + 1, o3) :: (L1 + 1 + 1, o2) :: (L1 + 1, o1) :: TL') → LawRun w 14 L1 Qf { s with heap := h', toks := tk' }) : LawRun w 13 L1 Qf s := by
  refine' LawRun.intro ?k6 ?_
  case k6 => k_is
  dsimp only [List.drop]
  have B1 : Below callerA g [] g := below_caller g
  refine wpAny_execs_cons ?_
  k_steps
  unfold Stop
  k_dflt (refine' falls_c B1 F1 X1 T1 ?k1 ?d1 ?u1 kl d.ranks kvs (LL.of_news N1 (.tail _ (.tail _ (.tail _ (.tail _ (.tail _ (.tail _ (.tail _ (.tail _ (.tail _ (.tail _ (.tail _ (.tail _ mkl))))))))))))) hkv d.ranks_len ?_)
  case k1 => exact rfl
  case d1 => ktr_room
  case u1 => ktr_units
  rintro D fvs h2 tk2 fD ⟨nD, eD⟩ hfv k2
  have fD : s.heap.get? D = none := fD
  have hf : ∀ q ∈ [(D, listOf fvs.toArray nD)], s.heap.get? q.1 = none := fun q hq => by rw [List.mem_singleton.mp hq]; exact fD
  have ofA : OffC L1 [(D, listOf fvs.toArray nD)] := offC_new hf N1
  have ofB := ofA.append hoff
  have F2 := fr_kp F1 k2
  have N2 := news_add F1 N1 k2 fD eD
  have N2 : News g L1 h2 ((L1 + 1 + 1 + 1 + 1 + 1 + 1 + 1 + 1 + 1 + 1 + 1 + 1, o12) :: (L1 + 1 + 1 + 1 + 1 + 1 + 1 + 1 + 1 + 1 + 1 + 1, o11) :: (L1 + 1 + 1 + 1 + 1 + 1 + 1 + 1 + 1 + 1 + 1, o10) :: (L1 + 1 + 1 + 1 + 1 + 1 + 1 + 1 + 1 + 1, o9) :: (L1 + 1 + 1 + 1 + 1 + 1 + 1 + 1 + 1, o8) :: (L1 + 1 + 1 + 1 + 1 + 1 + 1 + 1, o7) :: (L1 + 1 + 1 + 1 + 1 + 1 + 1, o6) :: (L1 + 1 + 1 + 1 + 1 + 1, o5) :: (L1 + 1 + 1 + 1 + 1, o4) :: (L1 + 1 + 1 + 1, o3) :: (L1 + 1 + 1, o2) :: (L1 + 1, o1) :: ([(D, listOf fvs.toArray nD)] ++ TL)) := fun q hq => by
    rw [show ((L1 + 1 + 1 + 1 + 1 + 1 + 1 + 1 + 1 + 1 + 1 + 1 + 1, o12) :: (L1 + 1 + 1 + 1 + 1 + 1 + 1 + 1 + 1 + 1 + 1 + 1, o11) :: (L1 + 1 + 1 + 1 + 1 + 1 + 1 + 1 + 1 + 1 + 1, o10) :: (L1 + 1 + 1 + 1 + 1 + 1 + 1 + 1 + 1 + 1, o9) :: (L1 + 1 + 1 + 1 + 1 + 1 + 1 + 1 + 1, o8) :: (L1 + 1 + 1 + 1 + 1 + 1 + 1 + 1, o7) :: (L1 + 1 + 1 + 1 + 1 + 1 + 1, o6) :: (L1 + 1 + 1 + 1 + 1 + 1, o5) :: (L1 + 1 + 1 + 1 + 1, o4) :: (L1 + 1 + 1 + 1, o3) :: (L1 + 1 + 1, o2) :: (L1 + 1, o1) :: ([(D, listOf fvs.toArray nD)] ++ TL)) = [(L1 + 1 + 1 + 1 + 1 + 1 + 1 + 1 + 1 + 1 + 1 + 1 + 1, o12), (L1 + 1 + 1 + 1 + 1 + 1 + 1 + 1 + 1 + 1 + 1 + 1, o11), (L1 + 1 + 1 + 1 + 1 + 1 + 1 + 1 + 1 + 1 + 1, o10), (L1 + 1 + 1 + 1 + 1 + 1 + 1 + 1 + 1 + 1, o9), (L1 + 1 + 1 + 1 + 1 + 1 + 1 + 1 + 1, o8), (L1 + 1 + 1 + 1 + 1 + 1 + 1 + 1, o7), (L1 + 1 + 1 + 1 + 1 + 1 + 1, o6), (L1 + 1 + 1 + 1 + 1 + 1, o5), (L1 + 1 + 1 + 1 + 1, o4), (L1 + 1 + 1 + 1, o3), (L1 + 1 + 1, o2), (L1 + 1, o1)] ++ (D, listOf fvs.toArray nD) :: TL from rfl] at hq
    exact N2 q (swap_mem hq)
  have w10 : ∀ p ∈ ([(D, listOf fvs.toArray nD)] ++ TL), p.1 ≠ L1 + 1 + 1 + 1 + 1 + 1 + 1 + 1 + 1 + 1 + 1 := fun p hp => (ofB p hp).2.2.2.2.2.2.2.2.2.1
  have mem0 : (D, listOf fvs.toArray nD) ∈ ([(D, listOf fvs.toArray nD)] ++ TL) := .head _
  have sub0 : ∀ q ∈ TL, q ∈ ([(D, listOf fvs.toArray nD)] ++ TL) := fun q hq => .tail _ hq
  generalize ([(D, listOf fvs.toArray nD)] ++ TL) = TL2 at *
  clear N1 F1 eD fD ofA hf
  (try dsimp only)
  k_steps
  unfold Stop
  rename_i h19 o10' F19 N19 d10'
  refine' LawRun.elim (k := 14) ?k7 ?hL ?e7
  case k7 => k_is
  case e7 => rfl
  case hL => exact hnext D nD fvs o10' h19 _ TL2 sub0 ofB mem0 hfv d10' F19 fun q hq => N19 q hq
end

/-! S14 -/
example : True := by
  k_with_none
  k_with "subscriptTail" => (k_here; (with_reducible show wpAny _ _ (subscriptTail _ _ (Value.ref _) (Value.int _ _)) _ _ _); (with_unfolding_all refine' my_item ?q_k1 ?q_k2 ?q_k3 ?q_k4 ?_ ?q_k6; (case q_k1 => first | assumption | ((rename GSub _ _ _ => kG9); (rename Fr _ _ _ _ => F9); refine' list_up ?q_t9 kG9 F9 (by simp); (case q_t9 => assumption))); (case q_k2 => assumption); (case q_k3 => first | rfl | assumption | omega | (simp only [Int.fdiv_eq_ediv_of_nonneg _ (by decide : (0 : Int) ≤ 2)]; omega)); (case q_k4 => first | assumption | omega); (case q_k6 => with_unfolding_all rfl); k_whole))
  k_with "call builtin:len" => (k_here; (with_reducible show wpAny _ _ (call (Value.builtin "len") [Value.ref _]) _ _ _); refine' my_len ?q_k1 ?q_k2 ?_; (case q_k1 => first | assumption | ((rename GSub _ _ _ => kG9); (rename Fr _ _ _ _ => F9); refine' list_up ?q_t9 kG9 F9 (by simp); (case q_t9 => assumption))); (case q_k2 => first | assumption | omega); intro _ _)
  k_with "subscriptTail" => (k_here; (with_reducible show wpAny _ _ (subscriptTail _ _ (Value.ref _) (Value.int _ _)) _ _ _); (with_unfolding_all refine' my_titem ?q_k1 ?q_k2 ?q_k3 ?q_k4 ?_ ?q_k6; (case q_k1 => first | assumption | ((rename GSub _ _ _ => kG9); (rename Fr _ _ _ _ => F9); refine' TT.up ?q_t9 kG9 F9 (by simp); (case q_t9 => assumption))); (case q_k2 => first | assumption | decide | omega); (case q_k3 => first | assumption | exact rfl); (case q_k4 => first | assumption | (simp only [List.length_cons, List.length_nil]; decide)); (case q_k6 => with_unfolding_all rfl); k_whole))
  k_with "eval Name" => (k_here; (with_reducible show wpAny _ _ (eval (Expr.Name _ _) (compEnvC _ _ _ _)) _ _ _); (with_unfolding_all refine' wpAny_Name (wpAny_loadName_local ?q_a ?q_b ?q_c ?q_d ?_) ?q_e; (case q_a => rfl); (case q_b => rfl); (case q_c => first | assumption | exact nsC_get (by assumption) (by assumption) (by repeat (first | exact List.Mem.head _ | apply List.Mem.tail))); (case q_d => assumption); (case q_e => decide); k_whole))
  k_with "eval ListComp" => (k_here; refine stopHere ?_)
  k_with "call builtin:list.append" => (k_here; refine stopHere ?_)
  k_with "call ref" => (k_here; refine stopHere ?_)
  k_with "pyIter ref" => (k_here; refine stopHere ?_)
  k_with "execs cons" => (k_here; refine stopHere ?_)
  k_with "subscriptTail" => (k_here; (with_reducible show wpAny _ _ (subscriptTail _ _ (Value.ref _) (Value.int _ _)) _ _ _); (with_unfolding_all refine' my_item ?q_k1 ?q_k2 ?q_k3 ?q_k4 ?_ ?q_k6; (case q_k3 => first | exact rfl | exact (rfl : (0 : Int) = ((0 : Nat) : Int))); (case q_k1 => first | assumption | exact isl_news (by assumption) (by repeat (first | assumption | exact List.mem_append_left _ (by assumption) | apply List.Mem.tail))); (case q_k2 => assumption); (case q_k4 => first | assumption | omega | exact (by decide)); (case q_k6 => with_unfolding_all rfl); k_whole))
  k_with "subscriptTail Name Constant ref int" => (k_here; refine stopHere ?_)
  k_with "own k_updF" => (refine' UpdF.head ?q_a; (case q_a => (repeat (first | assumption | (refine List.forall_mem_cons.mpr ⟨by k_ne, ?_⟩)))))
  k_with "subscriptTail Name Slice ref ref" => (k_here; refine stopHere ?_)
  k_with "subscriptTail Call Slice ref ref" => (k_here; refine stopHere ?_)
  trivial
section
variable {g : Heap} {L1 : Addr} {Qf : Flow → Shared → Prop}
theorem law_s14 (F1 : Fr g L1 s.heap m) (X1 : (hd.heap_1 w.params).In g) (T1 : Top p loose mean mg mb g) (TL : List (Addr × Obj)) (hoff : OffC L1 TL) (d : LawD) (rl kl gl dn cx fl : Addr) (nk : Nat) (kvs : List Value) (mkl : (kl, listOf kvs.toArray nk) ∈ TL) (hkv : IL d.ranks kvs)
    (v1 : Option Value) (o1 : Obj) (d1 : o1.data = .cell v1) (o2 : Obj) (d2 : o2.data = .cell (some (.ref d.tl))) (o3 : Obj) (d3 : o3.data = .cell (some (.ref d.ll))) (o4 : Obj) (d4 : o4.data = .cell (some (.ref d.pl))) (o5 : Obj) (d5 : o5.data = .cell (some (.ref rl))) (o6 : Obj) (d6 : o6.data = .cell (some (.ref kl))) (o7 : Obj) (d7 : o7.data = .cell (some (.ref gl))) (o8 : Obj) (d8 : o8.data = .cell (some (.ref dn))) (o9 : Obj) (d9 : o9.data = .cell (some (.ref cx))) (o10 : Obj) (d10 : o10.data = .cell (some (.ref fl))) (o11 : Obj) (d11 : o11.data = .cell none) (o12 : Obj) (d12 : o12.data = .cell (some (.ref d.nl)))
    (N1 : News g L1 s.heap ((L1 + 1 + 1 + 1 + 1 + 1 + 1 + 1 + 1 + 1 + 1 + 1 + 1, o12) :: (L1 + 1 + 1 + 1 + 1 + 1 + 1 + 1 + 1 + 1 + 1 + 1, o11) :: (L1 + 1 + 1 + 1 + 1 + 1 + 1 + 1 + 1 + 1 + 1, o10) :: (L1 + 1 + 1 + 1 + 1 + 1 + 1 + 1 + 1 + 1, o9) :: (L1 + 1 + 1 + 1 + 1 + 1 + 1 + 1 + 1, o8) :: (L1 + 1 + 1 + 1 + 1 + 1 + 1 + 1, o7) :: (L1 + 1 + 1 + 1 + 1 + 1 + 1, o6) :: (L1 + 1 + 1 + 1 + 1 + 1, o5) :: (L1 + 1 + 1 + 1 + 1, o4) :: (L1 + 1 + 1 + 1, o3) :: (L1 + 1 + 1, o2) :: (L1 + 1, o1) :: TL))
    (hnext : ∀ (fl : Addr) (nf : Nat) (fvs : List Value) (o11 : Obj) (h' : Heap) (tk' : Nat) (TL' : List (Addr × Obj)), (∀ q ∈ TL, q ∈ TL') → OffC L1 TL' → (fl, listOf fvs.toArray nf) ∈ TL' → IL (fallsF d.ranks.reverse 6).reverse fvs → o11.data = .cell (some (.ref fl)) →
      Fr g L1 h' m → News g L1 h' ((L1 + 1 + 1 + 1 + 1 + 1 + 1 + 1 + 1 + 1 + 1 + 1 + 1, o12) :: (L1 + 1 + 1 + 1 + 1 + 1 + 1 + 1 + 1 + 1 + 1 + 1, o11) :: (L1 + 1 + 1 + 1 + 1 + 1 + 1 + 1 + 1 + 1 + 1, o10) :: (L1 + 1 + 1 + 1 + 1 + 1 + 1 + 1 + 1 + 1, o9) :: (L1 + 1 + 1 + 1 + 1 + 1 + 1 + 1 + 1, o8) :: (L1 + 1 + 1 + 1 + 1 + 1 + 1 + 1, o7) :: (L1 + 1 + 1 + 1 + 1 + 1 + 1, o6) :: (L1 + 1 + 1 + 1 + 1 + 1, o5) :: (L1 + 1 + 1 + 1 + 1, o4) :: (L1 + 1 + 1 + 1, o3) :: (L1 + 1 + 1, o2) :: (L1 + 1, o1) :: TL') → LawRun w 15 L1 Qf { s with heap := h', toks := tk' }) : LawRun w 14 L1 Qf s := by
  refine' LawRun.intro ?k6 ?_
  case k6 => k_is
  dsimp only [List.drop]
  have B1 : Below callerA g [] g := below_caller g
  have hk6 : kvs.length = 6 := by rw [hkv.1, d.ranks_len]
  refine wpAny_execs_cons ?_
  k_steps
  unfold Stop
  have hkI := isl_news N1 (l := kl) (.tail _ (.tail _ (.tail _ (.tail _ (.tail _ (.tail _ (.tail _ (.tail _ (.tail _ (.tail _ (.tail _ (.tail _ mkl))))))))))))
  have hsz : kvs.toArray.size ≤ sizeLine := by rw [List.size_toArray, hk6, sizeLine_eq]; decide
  k_dflt (refine' krv_lit (zs := kvs.reverse) F1 N1 hkI ?sp9 rfl ?_ ?ss9 ?st9 hsz)
  case sp9 => exact .int _ _
  case ss9 => with_unfolding_all rfl
  case st9 => kmk_pure
  intro DS h6 F6 N6 ltS
  clear hkI F1
  (try dsimp only)
  k_steps
  unfold Stop
  k_dflt (refine' falls_c B1 F6 X1 T1 ?k1 ?d1 ?u1 DS d.ranks.reverse kvs.reverse (LL.of_news N6 (.head _)) hkv.rev (by rw [List.length_reverse, d.ranks_len]) ?_)
  case k1 => exact rfl
  case d1 => ktr_room
  case u1 => ktr_units
  rintro D7 gvs h7 tk7 fD7 ⟨nD7, eD7⟩ hgv k7
  have fD7 : h6.get? D7 = none := fD7
  have F7 := fr_kp F6 k7
  have N7 := news_add F6 N6 k7 fD7 eD7
  clear F6 N6 eD7 fD7
  (try dsimp only)
  k_steps
  unfold Stop
  have hgI := isl_news N7 (l := D7) (.head _)
  have hg6 : gvs.length = 6 := by rw [hgv.1, fallsF_len]
  have hsz2 : gvs.toArray.size ≤ sizeLine := by rw [List.size_toArray, hg6, sizeLine_eq]; decide
  k_dflt (refine' krv_lit (zs := gvs.reverse) F7 N7 hgI ?sp9 rfl ?_ ?ss9 ?st9 hsz2)
  case sp9 => exact .int _ _
  case ss9 => with_unfolding_all rfl
  case st9 => kmk_pure
  intro D h8 F8 N8 lt8
  have ofA : OffC L1 [(D, listOf gvs.reverse.toArray 0)] := offC_lt fun q hq => lt8 q (.tail _ (.tail _ hq))
  have ofB := ofA.append hoff
  have N2 : News g L1 h8 ((L1 + 1 + 1 + 1 + 1 + 1 + 1 + 1 + 1 + 1 + 1 + 1 + 1, o12) :: (L1 + 1 + 1 + 1 + 1 + 1 + 1 + 1 + 1 + 1 + 1 + 1, o11) :: (L1 + 1 + 1 + 1 + 1 + 1 + 1 + 1 + 1 + 1 + 1, o10) :: (L1 + 1 + 1 + 1 + 1 + 1 + 1 + 1 + 1 + 1, o9) :: (L1 + 1 + 1 + 1 + 1 + 1 + 1 + 1 + 1, o8) :: (L1 + 1 + 1 + 1 + 1 + 1 + 1 + 1, o7) :: (L1 + 1 + 1 + 1 + 1 + 1 + 1, o6) :: (L1 + 1 + 1 + 1 + 1 + 1, o5) :: (L1 + 1 + 1 + 1 + 1, o4) :: (L1 + 1 + 1 + 1, o3) :: (L1 + 1 + 1, o2) :: (L1 + 1, o1) :: ([(D, listOf gvs.reverse.toArray 0)] ++ TL)) := fun q hq => by
    rw [show ((L1 + 1 + 1 + 1 + 1 + 1 + 1 + 1 + 1 + 1 + 1 + 1 + 1, o12) :: (L1 + 1 + 1 + 1 + 1 + 1 + 1 + 1 + 1 + 1 + 1 + 1, o11) :: (L1 + 1 + 1 + 1 + 1 + 1 + 1 + 1 + 1 + 1 + 1, o10) :: (L1 + 1 + 1 + 1 + 1 + 1 + 1 + 1 + 1 + 1, o9) :: (L1 + 1 + 1 + 1 + 1 + 1 + 1 + 1 + 1, o8) :: (L1 + 1 + 1 + 1 + 1 + 1 + 1 + 1, o7) :: (L1 + 1 + 1 + 1 + 1 + 1 + 1, o6) :: (L1 + 1 + 1 + 1 + 1 + 1, o5) :: (L1 + 1 + 1 + 1 + 1, o4) :: (L1 + 1 + 1 + 1, o3) :: (L1 + 1 + 1, o2) :: (L1 + 1, o1) :: ([(D, listOf gvs.reverse.toArray 0)] ++ TL)) = [(L1 + 1 + 1 + 1 + 1 + 1 + 1 + 1 + 1 + 1 + 1 + 1 + 1, o12), (L1 + 1 + 1 + 1 + 1 + 1 + 1 + 1 + 1 + 1 + 1 + 1, o11), (L1 + 1 + 1 + 1 + 1 + 1 + 1 + 1 + 1 + 1 + 1, o10), (L1 + 1 + 1 + 1 + 1 + 1 + 1 + 1 + 1 + 1, o9), (L1 + 1 + 1 + 1 + 1 + 1 + 1 + 1 + 1, o8), (L1 + 1 + 1 + 1 + 1 + 1 + 1 + 1, o7), (L1 + 1 + 1 + 1 + 1 + 1 + 1, o6), (L1 + 1 + 1 + 1 + 1 + 1, o5), (L1 + 1 + 1 + 1 + 1, o4), (L1 + 1 + 1 + 1, o3), (L1 + 1 + 1, o2), (L1 + 1, o1)] ++ (D, listOf gvs.reverse.toArray 0) :: TL from rfl] at hq
    rcases List.mem_cons.mp (swap_mem hq) with rfl | hq
    · exact N8 _ (.head _)
    · exact N8 q (.tail _ (.tail _ (.tail _ hq)))
  have w11 : ∀ p ∈ ([(D, listOf gvs.reverse.toArray 0)] ++ TL), p.1 ≠ L1 + 1 + 1 + 1 + 1 + 1 + 1 + 1 + 1 + 1 + 1 + 1 := fun p hp => (ofB p hp).2.2.2.2.2.2.2.2.2.2.1
  have mem0 : (D, listOf gvs.reverse.toArray 0) ∈ ([(D, listOf gvs.reverse.toArray 0)] ++ TL) := .head _
  have sub0 : ∀ q ∈ TL, q ∈ ([(D, listOf gvs.reverse.toArray 0)] ++ TL) := fun q hq => .tail _ hq
  generalize ([(D, listOf gvs.reverse.toArray 0)] ++ TL) = TL2 at *
  clear N7 N8 F7 lt8 N1 ofA
  (try dsimp only)
  k_steps
  unfold Stop
  rename_i h19 o11' F19 N19 d11'
  refine' LawRun.elim (k := 15) ?k7 ?hL ?e7
  case k7 => k_is
  case e7 => rfl
  case hL => exact hnext D 0 gvs.reverse o11' h19 _ TL2 sub0 ofB mem0 hgv.rev d11' F19 fun q hq => N19 q hq
end

/-! S15 -/
example : True := by
  k_with_none
  k_with "subscriptTail" => (k_here; (with_reducible show wpAny _ _ (subscriptTail _ _ (Value.ref _) (Value.int _ _)) _ _ _); (with_unfolding_all refine' my_item ?q_k1 ?q_k2 ?q_k3 ?q_k4 ?_ ?q_k6; (case q_k1 => first | assumption | ((rename GSub _ _ _ => kG9); (rename Fr _ _ _ _ => F9); refine' list_up ?q_t9 kG9 F9 (by simp); (case q_t9 => assumption))); (case q_k2 => assumption); (case q_k3 => first | rfl | assumption | omega | (simp only [Int.fdiv_eq_ediv_of_nonneg _ (by decide : (0 : Int) ≤ 2)]; omega)); (case q_k4 => first | assumption | omega); (case q_k6 => with_unfolding_all rfl); k_whole))
  k_with "call builtin:len" => (k_here; (with_reducible show wpAny _ _ (call (Value.builtin "len") [Value.ref _]) _ _ _); refine' my_len ?q_k1 ?q_k2 ?_; (case q_k1 => first | assumption | ((rename GSub _ _ _ => kG9); (rename Fr _ _ _ _ => F9); refine' list_up ?q_t9 kG9 F9 (by simp); (case q_t9 => assumption))); (case q_k2 => first | assumption | omega); intro _ _)
  k_with "subscriptTail" => (k_here; (with_reducible show wpAny _ _ (subscriptTail _ _ (Value.ref _) (Value.int _ _)) _ _ _); (with_unfolding_all refine' my_titem ?q_k1 ?q_k2 ?q_k3 ?q_k4 ?_ ?q_k6; (case q_k1 => first | assumption | ((rename GSub _ _ _ => kG9); (rename Fr _ _ _ _ => F9); refine' TT.up ?q_t9 kG9 F9 (by simp); (case q_t9 => assumption))); (case q_k2 => first | assumption | decide | omega); (case q_k3 => first | assumption | exact rfl); (case q_k4 => first | assumption | (simp only [List.length_cons, List.length_nil]; decide)); (case q_k6 => with_unfolding_all rfl); k_whole))
  k_with "eval Name" => (k_here; (with_reducible show wpAny _ _ (eval (Expr.Name _ _) (compEnvC _ _ _ _)) _ _ _); (with_unfolding_all refine' wpAny_Name (wpAny_loadName_local ?q_a ?q_b ?q_c ?q_d ?_) ?q_e; (case q_a => rfl); (case q_b => rfl); (case q_c => first | assumption | exact nsC_get (by assumption) (by assumption) (by repeat (first | exact List.Mem.head _ | apply List.Mem.tail))); (case q_d => assumption); (case q_e => decide); k_whole))
  k_with "eval ListComp" => (k_here; refine stopHere ?_)
  k_with "call builtin:list.append" => (k_here; refine stopHere ?_)
  k_with "call ref" => (k_here; refine stopHere ?_)
  k_with "pyIter ref" => (k_here; refine stopHere ?_)
  k_with "execs cons" => (k_here; refine stopHere ?_)
  k_with "subscriptTail" => (k_here; (with_reducible show wpAny _ _ (subscriptTail _ _ (Value.ref _) (Value.int _ _)) _ _ _); (with_unfolding_all refine' my_item ?q_k1 ?q_k2 ?q_k3 ?q_k4 ?_ ?q_k6; (case q_k3 => first | exact rfl | exact (rfl : (0 : Int) = ((0 : Nat) : Int))); (case q_k1 => first | assumption | exact isl_news (by assumption) (by repeat (first | assumption | exact List.mem_append_left _ (by assumption) | apply List.Mem.tail))); (case q_k2 => assumption); (case q_k4 => first | assumption | omega | exact (by decide)); (case q_k6 => with_unfolding_all rfl); k_whole))
  k_with "subscriptTail Name Constant ref int" => (k_here; refine stopHere ?_)
  k_with "own k_updF" => (refine' UpdF.head ?q_a; (case q_a => (repeat (first | assumption | (refine List.forall_mem_cons.mpr ⟨by k_ne, ?_⟩)))))
  k_with "subscriptTail Name Slice ref ref" => (k_here; refine stopHere ?_)
  k_with "call builtin:max" => (k_here; refine stopHere ?_)
  trivial
section
variable {g : Heap} {L1 : Addr} {Qf : Flow → Shared → Prop}
theorem law_s15 (F1 : Fr g L1 s.heap m) (X1 : (hd.heap_1 w.params).In g) (T1 : Top p loose mean mg mb g) (TL : List (Addr × Obj)) (d : LawD) (rl kl gl dn cx fl ul : Addr) (nf nu : Nat) (fvs uvs : List Value) (mfl : (fl, listOf fvs.toArray nf) ∈ TL) (hfv : IL (fallsF d.ranks 6) fvs) (mul : (ul, listOf uvs.toArray nu) ∈ TL) (huv : IL (fallsF d.ranks.reverse 6).reverse uvs)
    (v1 : Option Value) (o1 : Obj) (d1 : o1.data = .cell v1) (o2 : Obj) (d2 : o2.data = .cell (some (.ref d.tl))) (o3 : Obj) (d3 : o3.data = .cell (some (.ref d.ll))) (o4 : Obj) (d4 : o4.data = .cell (some (.ref d.pl))) (o5 : Obj) (d5 : o5.data = .cell (some (.ref rl))) (o6 : Obj) (d6 : o6.data = .cell (some (.ref kl))) (o7 : Obj) (d7 : o7.data = .cell (some (.ref gl))) (o8 : Obj) (d8 : o8.data = .cell (some (.ref dn))) (o9 : Obj) (d9 : o9.data = .cell (some (.ref cx))) (o10 : Obj) (d10 : o10.data = .cell (some (.ref fl))) (o11 : Obj) (d11 : o11.data = .cell (some (.ref ul))) (o12 : Obj) (d12 : o12.data = .cell (some (.ref d.nl)))
    (N1 : News g L1 s.heap ((L1 + 1 + 1 + 1 + 1 + 1 + 1 + 1 + 1 + 1 + 1 + 1 + 1, o12) :: (L1 + 1 + 1 + 1 + 1 + 1 + 1 + 1 + 1 + 1 + 1 + 1, o11) :: (L1 + 1 + 1 + 1 + 1 + 1 + 1 + 1 + 1 + 1 + 1, o10) :: (L1 + 1 + 1 + 1 + 1 + 1 + 1 + 1 + 1 + 1, o9) :: (L1 + 1 + 1 + 1 + 1 + 1 + 1 + 1 + 1, o8) :: (L1 + 1 + 1 + 1 + 1 + 1 + 1 + 1, o7) :: (L1 + 1 + 1 + 1 + 1 + 1 + 1, o6) :: (L1 + 1 + 1 + 1 + 1 + 1, o5) :: (L1 + 1 + 1 + 1 + 1, o4) :: (L1 + 1 + 1 + 1, o3) :: (L1 + 1 + 1, o2) :: (L1 + 1, o1) :: TL))
    (hnext : ∀ (tM : Tok) (h' : Heap) (tk' : Nat),
      Fr g L1 h' (fun y => if y = Str.ofString "longest" then some (Value.int ((maxN ((List.range 6).map fun k => (fallsF d.ranks 6).getD k 0 + ((fallsF d.ranks.reverse 6).reverse).getD k 0 - 1) : Nat) : Int) tM) else m y) → News g L1 h' ((L1 + 1 + 1 + 1 + 1 + 1 + 1 + 1 + 1 + 1 + 1 + 1 + 1, o12) :: (L1 + 1 + 1 + 1 + 1 + 1 + 1 + 1 + 1 + 1 + 1 + 1, o11) :: (L1 + 1 + 1 + 1 + 1 + 1 + 1 + 1 + 1 + 1 + 1, o10) :: (L1 + 1 + 1 + 1 + 1 + 1 + 1 + 1 + 1 + 1, o9) :: (L1 + 1 + 1 + 1 + 1 + 1 + 1 + 1 + 1, o8) :: (L1 + 1 + 1 + 1 + 1 + 1 + 1 + 1, o7) :: (L1 + 1 + 1 + 1 + 1 + 1 + 1, o6) :: (L1 + 1 + 1 + 1 + 1 + 1, o5) :: (L1 + 1 + 1 + 1 + 1, o4) :: (L1 + 1 + 1 + 1, o3) :: (L1 + 1 + 1, o2) :: (L1 + 1, o1) :: TL) → LawRun w 16 L1 Qf { s with heap := h', toks := tk' }) : LawRun w 15 L1 Qf s := by
  refine' LawRun.intro ?k6 ?_
  case k6 => k_is
  dsimp only [List.drop]
  have B1 : Below callerA g [] g := below_caller g
  refine wpAny_execs_cons ?_
  k_steps
  unfold Stop
  k_dflt (refine' comp_range2 (g := g) (L := L1) (fun _ => true) (fun i y _ _ _ => ∃ t, y = Value.int (((fallsF d.ranks 6).getD i 0 + ((fallsF d.ranks.reverse 6).reverse).getD i 0 - 1 : Nat) : Int) t) (fun i v m3 => m3 (Str.ofString "k") = some v) ?hh2 ?hclos2 ?hcell2 ?hkind2 ?hnames2 ?h2 ?hs2)
  case hh2 => rfl
  case hclos2 => rfl
  case hcell2 => decide
  case hkind2 => rfl
  case hnames2 => decide
  case hs2 => exact fun _ => rfl
  case h2 =>
    k_steps
    rename_i t1 u1 v1 hr F3 N3 k3
    refine RangeSrc2.intro 6 F3 N3 hr (by decide) ?_ ?_ ?_
    · intro I C D s' i v
      exact binds_name rfl rfl
    · rintro C k v h4 tk4 m4 oC R hin ⟨tv, rfl, tl, tg⟩ hlo4 hB4 hNC hR F4 N4
      have hin' : k < 6 := hin
      simp only [List.cons_append, List.nil_append] at N4
      have hp1 := fallsF_pos d.ranks 6 k hin'
      have el1 : fvs.length = 6 := by rw [hfv.1, fallsF_len]
      have el2 : uvs.length = 6 := by rw [huv.1, List.length_reverse, fallsF_len]
      obtain ⟨tf, ef⟩ := hfv.get (i := k) (by omega)
      obtain ⟨tu, eu⟩ := huv.get (i := k) (by omega)
      have hlk : fvs.length < 2 ^ 62 := by omega
      have hlg : uvs.length < 2 ^ 62 := by omega
      have hE : (fun (y : Value) (_ : List (Addr × Obj)) (_ _ : Nat) => ∃ t, y = Value.int (((fallsF d.ranks 6).getD k 0 + ((fallsF d.ranks.reverse 6).reverse).getD k 0 - 1 : Nat) : Int) t) = (fun (y : Value) (_ : List (Addr × Obj)) (_ _ : Nat) => ∃ t, y = Value.int (((fallsF d.ranks 6).getD k 0 + ((fallsF d.ranks.reverse 6).reverse).getD k 0 - 1 : Nat) : Int) t) := rfl
      obtain ⟨a1, ha1⟩ : ∃ a1, (fallsF d.ranks 6).getD k 0 = a1 := ⟨_, rfl⟩
      obtain ⟨a2, ha2⟩ : ∃ a2, ((fallsF d.ranks.reverse 6).reverse).getD k 0 = a2 := ⟨_, rfl⟩
      rw [ha1] at ef hp1
      rw [ha2] at eu
      clear hE
      refine ⟨?_, fun hpz => ?_⟩
      · k_steps
        exact TestIs2.intro rfl hR F4 N4 (fun q hq => by repeat (first | exact List.mem_append_right _ hq | apply List.Mem.tail))
      · k_steps
        exact EltIs2.plain hR F4 N4 (fun q hq => by repeat (first | exact List.mem_append_right _ hq | apply List.Mem.tail)) fun lo hh h1 h2 h3 => ⟨_, by rw [ha1, ha2, show (((a1 + a2 - 1 : Nat) : Int)) = (a1 : Int) + (a2 : Int) - 1 by omega]⟩
    · intro D2 h17 tk17 log2 hE1 hE2 hE3 hE4 hi2 hL2 k17 F17 N17 ht17
      rw [range_all] at hi2
      obtain ⟨nD, eD⟩ := hE4
      have hIL := il_log (f := fun k => (fallsF d.ranks 6).getD k 0 + ((fallsF d.ranks.reverse 6).reverse).getD k 0 - 1) (fun e he => (hL2.1 e he).2.2.1) hi2
      generalize log2.map (·.y) = zvs at *
      have N8 : News g L1 h17 ((D2, listOf zvs.toArray nD) :: (L1 + 1 + 1 + 1 + 1 + 1 + 1 + 1 + 1 + 1 + 1 + 1 + 1, o12) :: (L1 + 1 + 1 + 1 + 1 + 1 + 1 + 1 + 1 + 1 + 1 + 1, o11) :: (L1 + 1 + 1 + 1 + 1 + 1 + 1 + 1 + 1 + 1 + 1, o10) :: (L1 + 1 + 1 + 1 + 1 + 1 + 1 + 1 + 1 + 1, o9) :: (L1 + 1 + 1 + 1 + 1 + 1 + 1 + 1 + 1, o8) :: (L1 + 1 + 1 + 1 + 1 + 1 + 1 + 1, o7) :: (L1 + 1 + 1 + 1 + 1 + 1 + 1, o6) :: (L1 + 1 + 1 + 1 + 1 + 1, o5) :: (L1 + 1 + 1 + 1 + 1, o4) :: (L1 + 1 + 1 + 1, o3) :: (L1 + 1 + 1, o2) :: (L1 + 1, o1) :: TL) := fun q hq => by
        rcases List.mem_cons.mp hq with rfl | hq
        · exact ⟨eD, hE3, hE2⟩
        · exact N17 q hq
      dsimp only at F17 N8 ht17 ⊢
      clear N17
      k_steps
      unfold Stop
      have l15 := isl_news N8 (l := D2) (.head _)
      refine kso_max F17 N8 l15 hIL.ints (by rw [List.length_map, List.length_map, List.length_range]; decide) rfl fun h16 M tM tk16 F16 N16 hM1 hM2 => ?_
      obtain rfl := maxN_of' hM1 hM2
      have N7 : News g L1 h16 ((L1 + 1 + 1 + 1 + 1 + 1 + 1 + 1 + 1 + 1 + 1 + 1 + 1, o12) :: (L1 + 1 + 1 + 1 + 1 + 1 + 1 + 1 + 1 + 1 + 1 + 1, o11) :: (L1 + 1 + 1 + 1 + 1 + 1 + 1 + 1 + 1 + 1 + 1, o10) :: (L1 + 1 + 1 + 1 + 1 + 1 + 1 + 1 + 1 + 1, o9) :: (L1 + 1 + 1 + 1 + 1 + 1 + 1 + 1 + 1, o8) :: (L1 + 1 + 1 + 1 + 1 + 1 + 1 + 1, o7) :: (L1 + 1 + 1 + 1 + 1 + 1 + 1, o6) :: (L1 + 1 + 1 + 1 + 1 + 1, o5) :: (L1 + 1 + 1 + 1 + 1, o4) :: (L1 + 1 + 1 + 1, o3) :: (L1 + 1 + 1, o2) :: (L1 + 1, o1) :: TL) := fun q hq => N16 q (.tail _ hq)
      clear N16 N8 l15 hM1 hM2 hIL
      (try dsimp only)
      k_steps
      unfold Stop
      rename_i h20 F20 N20
      refine' LawRun.elim (k := 16) ?k7 ?hL ?e7
      case k7 => k_is
      case e7 => rfl
      case hL => exact hnext tM h20 _ F20 N20
end

/-! S16 -/
example : True := by
  k_with_none
  k_with "subscriptTail" => (k_here; (with_reducible show wpAny _ _ (subscriptTail _ _ (Value.ref _) (Value.int _ _)) _ _ _); (with_unfolding_all refine' my_item ?q_k1 ?q_k2 ?q_k3 ?q_k4 ?_ ?q_k6; (case q_k1 => first | assumption | ((rename GSub _ _ _ => kG9); (rename Fr _ _ _ _ => F9); refine' list_up ?q_t9 kG9 F9 (by simp); (case q_t9 => assumption))); (case q_k2 => assumption); (case q_k3 => first | rfl | assumption | omega | (simp only [Int.fdiv_eq_ediv_of_nonneg _ (by decide : (0 : Int) ≤ 2)]; omega)); (case q_k4 => first | assumption | omega); (case q_k6 => with_unfolding_all rfl); k_whole))
  k_with "call builtin:len" => (k_here; (with_reducible show wpAny _ _ (call (Value.builtin "len") [Value.ref _]) _ _ _); refine' my_len ?q_k1 ?q_k2 ?_; (case q_k1 => first | assumption | ((rename GSub _ _ _ => kG9); (rename Fr _ _ _ _ => F9); refine' list_up ?q_t9 kG9 F9 (by simp); (case q_t9 => assumption))); (case q_k2 => first | assumption | omega); intro _ _)
  k_with "subscriptTail" => (k_here; (with_reducible show wpAny _ _ (subscriptTail _ _ (Value.ref _) (Value.int _ _)) _ _ _); (with_unfolding_all refine' my_titem ?q_k1 ?q_k2 ?q_k3 ?q_k4 ?_ ?q_k6; (case q_k1 => first | assumption | ((rename GSub _ _ _ => kG9); (rename Fr _ _ _ _ => F9); refine' TT.up ?q_t9 kG9 F9 (by simp); (case q_t9 => assumption))); (case q_k2 => first | assumption | decide | omega); (case q_k3 => first | assumption | exact rfl); (case q_k4 => first | assumption | (simp only [List.length_cons, List.length_nil]; decide)); (case q_k6 => with_unfolding_all rfl); k_whole))
  k_with "eval Name" => (k_here; (with_reducible show wpAny _ _ (eval (Expr.Name _ _) (compEnvC _ _ _ _)) _ _ _); (with_unfolding_all refine' wpAny_Name (wpAny_loadName_local ?q_a ?q_b ?q_c ?q_d ?_) ?q_e; (case q_a => rfl); (case q_b => rfl); (case q_c => first | assumption | exact nsC_get (by assumption) (by assumption) (by repeat (first | exact List.Mem.head _ | apply List.Mem.tail))); (case q_d => assumption); (case q_e => decide); k_whole))
  k_with "eval ListComp" => (k_here; refine stopHere ?_)
  k_with "call builtin:list.append" => (k_here; refine stopHere ?_)
  k_with "call ref" => (k_here; refine stopHere ?_)
  k_with "pyIter ref" => (k_here; refine stopHere ?_)
  k_with "execs cons" => (k_here; refine stopHere ?_)
  k_with "subscriptTail" => (k_here; (with_reducible show wpAny _ _ (subscriptTail _ _ (Value.ref _) (Value.int _ _)) _ _ _); (with_unfolding_all refine' my_item ?q_k1 ?q_k2 ?q_k3 ?q_k4 ?_ ?q_k6; (case q_k3 => first | exact rfl | exact (rfl : (0 : Int) = ((0 : Nat) : Int))); (case q_k1 => first | assumption | exact isl_news (by assumption) (by repeat (first | assumption | exact List.mem_append_left _ (by assumption) | apply List.Mem.tail))); (case q_k2 => assumption); (case q_k4 => first | assumption | omega | exact (by decide)); (case q_k6 => with_unfolding_all rfl); k_whole))
  k_with "subscriptTail Name Constant ref int" => (k_here; refine stopHere ?_)
  k_with "own k_updF" => (refine' UpdF.head ?q_a; (case q_a => (repeat (first | assumption | (refine List.forall_mem_cons.mpr ⟨by k_ne, ?_⟩)))))
  k_with "subscriptTail Name Slice ref ref" => (k_here; refine stopHere ?_)
  k_with "compareOp NotEq ref ref" => (k_here; refine stopHere ?_)
  k_with "binaryOp Add ref ref" => (k_here; refine stopHere ?_)
  k_with "binaryOp Mult ref int" => (k_here; refine stopHere ?_)
  k_with "call builtin:len" => (k_here; refine stopHere ?_)
  k_with "own k_inst" => exact inst_news (by assumption) (by repeat (first | assumption | exact List.mem_append_left _ (by assumption) | apply List.Mem.tail)) (by repeat (first | assumption | exact List.mem_append_left _ (by assumption) | apply List.Mem.tail))
  k_with "compareOp NotEq int int" => (k_here; refine stopHere ?_)
  trivial
section
variable {g : Heap} {L1 : Addr} {Qf : Flow → Shared → Prop}
theorem law_s16 (t t2 : TabD) (d : LawD) (M : Int) (tM : Tok) (hma : m (Str.ofString "answers") = some (.ref d.al)) (F1 : Fr g L1 s.heap (fun y => if y = Str.ofString "longest" then some (Value.int M tM) else m9 (m8 m t) t2 y)) (X1 : (hd.heap_1 w.params).In g) (T1 : Top p loose mean mg mb g) (TL : List (Addr × Obj)) (rl kl gl dn cx fl ul : Addr)
    (mal : (d.al, listOf (List.replicate 12 Value.none).toArray d.na) ∈ TL) (hs bs hs2 bs2 : List (Nat × Nat)) (tok : TabOk TL hs bs t) (tok2 : TabOk TL hs2 bs2 t2) (law : TabsLaw d hs bs hs2 bs2) (hM : M = ((rowA hs 0).length : Nat))
    (v1 : Option Value) (o1 : Obj) (d1 : o1.data = .cell v1) (o2 : Obj) (d2 : o2.data = .cell (some (.ref d.tl))) (o3 : Obj) (d3 : o3.data = .cell (some (.ref d.ll))) (o4 : Obj) (d4 : o4.data = .cell (some (.ref d.pl))) (o5 : Obj) (d5 : o5.data = .cell (some (.ref rl))) (o6 : Obj) (d6 : o6.data = .cell (some (.ref kl))) (o7 : Obj) (d7 : o7.data = .cell (some (.ref gl))) (o8 : Obj) (d8 : o8.data = .cell (some (.ref dn))) (o9 : Obj) (d9 : o9.data = .cell (some (.ref cx))) (o10 : Obj) (d10 : o10.data = .cell (some (.ref fl))) (o11 : Obj) (d11 : o11.data = .cell (some (.ref ul))) (o12 : Obj) (d12 : o12.data = .cell (some (.ref d.nl)))
    (N1 : News g L1 s.heap ((L1 + 1 + 1 + 1 + 1 + 1 + 1 + 1 + 1 + 1 + 1 + 1 + 1, o12) :: (L1 + 1 + 1 + 1 + 1 + 1 + 1 + 1 + 1 + 1 + 1 + 1, o11) :: (L1 + 1 + 1 + 1 + 1 + 1 + 1 + 1 + 1 + 1 + 1, o10) :: (L1 + 1 + 1 + 1 + 1 + 1 + 1 + 1 + 1 + 1, o9) :: (L1 + 1 + 1 + 1 + 1 + 1 + 1 + 1 + 1, o8) :: (L1 + 1 + 1 + 1 + 1 + 1 + 1 + 1, o7) :: (L1 + 1 + 1 + 1 + 1 + 1 + 1, o6) :: (L1 + 1 + 1 + 1 + 1 + 1, o5) :: (L1 + 1 + 1 + 1 + 1, o4) :: (L1 + 1 + 1 + 1, o3) :: (L1 + 1 + 1, o2) :: (L1 + 1, o1) :: TL))
    (hnext : ∀ (h' : Heap) (tk' : Nat),
      Fr g L1 h' (fun y => if y = Str.ofString "longest" then some (Value.int M tM) else m9 (m8 m t) t2 y) → News g L1 h' ((L1 + 1 + 1 + 1 + 1 + 1 + 1 + 1 + 1 + 1 + 1 + 1 + 1, o12) :: (L1 + 1 + 1 + 1 + 1 + 1 + 1 + 1 + 1 + 1 + 1 + 1, o11) :: (L1 + 1 + 1 + 1 + 1 + 1 + 1 + 1 + 1 + 1 + 1, o10) :: (L1 + 1 + 1 + 1 + 1 + 1 + 1 + 1 + 1 + 1, o9) :: (L1 + 1 + 1 + 1 + 1 + 1 + 1 + 1 + 1, o8) :: (L1 + 1 + 1 + 1 + 1 + 1 + 1 + 1, o7) :: (L1 + 1 + 1 + 1 + 1 + 1 + 1, o6) :: (L1 + 1 + 1 + 1 + 1 + 1, o5) :: (L1 + 1 + 1 + 1 + 1, o4) :: (L1 + 1 + 1 + 1, o3) :: (L1 + 1 + 1, o2) :: (L1 + 1, o1) :: TL) → LawRun w 17 L1 Qf { s with heap := h', toks := tk' }) : LawRun w 16 L1 Qf s := by
  refine' LawRun.intro ?k6 ?_
  case k6 => k_is
  dsimp only [List.drop]
  have B1 : Below callerA g [] g := below_caller g
  obtain ⟨m0, em⟩ : ∃ m0 : Str → Option Value, m = fun y => if y = Str.ofString "answers" then some (.ref d.al) else m0 y := ⟨m, funext fun y => by
    by_cases h : y = Str.ofString "answers"
    · rw [if_pos h, h, hma]
    · rw [if_neg h]⟩
  subst em
  clear hma
  have ma1 := tok.mal
  have ma2 := tok2.mal
  have mx := tok.mx
  have mdx := tok.mdx
  have k1 := tok.hk
  have k2 := tok2.hk
  refine wpAny_execs_cons ?_
  k_steps
  unfold Stop
  have hz : ∀ n : Nat, n < 2 ^ 20 → n ≤ sizeLine := fun n h => by rw [sizeLine_eq]; omega
  refine add_lists F1 N1 (isl_news N1 (.tail _ (.tail _ (.tail _ (.tail _ (.tail _ (.tail _ (.tail _ (.tail _ (.tail _ (.tail _ (.tail _ (.tail _ mal))))))))))))) (isl_news N1 (.tail _ (.tail _ (.tail _ (.tail _ (.tail _ (.tail _ (.tail _ (.tail _ (.tail _ (.tail _ (.tail _ (.tail _ ma1))))))))))))) (fun h2 F2 N2 => ?_) (by rw [List.length_replicate, List.length_replicate]; exact hz _ (by omega))
  rw [List.replicate_append_replicate] at N2
  generalize s.heap.objs.size = A2 at *
  clear F1 N1
  (try dsimp only)
  k_steps
  unfold Stop
  refine add_lists F2 N2 (isl_news (vs := List.replicate (12 + t.k) Value.none) (n := 0) N2 (.head _)) (isl_news N2 (.tail _ (.tail _ (.tail _ (.tail _ (.tail _ (.tail _ (.tail _ (.tail _ (.tail _ (.tail _ (.tail _ (.tail _ (.tail _ ma2)))))))))))))) (fun h3 F3 N3 => ?_) (by rw [List.length_replicate, List.length_replicate]; exact hz _ (by omega))
  rw [List.replicate_append_replicate] at N3
  generalize h2.objs.size = A3 at *
  have N3 : News g L1 h3 ((A3, listOf (List.replicate (12 + t.k + t2.k) Value.none).toArray 0) :: (L1 + 1 + 1 + 1 + 1 + 1 + 1 + 1 + 1 + 1 + 1 + 1 + 1, o12) :: (L1 + 1 + 1 + 1 + 1 + 1 + 1 + 1 + 1 + 1 + 1 + 1, o11) :: (L1 + 1 + 1 + 1 + 1 + 1 + 1 + 1 + 1 + 1 + 1, o10) :: (L1 + 1 + 1 + 1 + 1 + 1 + 1 + 1 + 1 + 1, o9) :: (L1 + 1 + 1 + 1 + 1 + 1 + 1 + 1 + 1, o8) :: (L1 + 1 + 1 + 1 + 1 + 1 + 1 + 1, o7) :: (L1 + 1 + 1 + 1 + 1 + 1 + 1, o6) :: (L1 + 1 + 1 + 1 + 1 + 1, o5) :: (L1 + 1 + 1 + 1 + 1, o4) :: (L1 + 1 + 1 + 1, o3) :: (L1 + 1 + 1, o2) :: (L1 + 1, o1) :: TL) := fun q hq => by
    rcases List.mem_cons.mp hq with rfl | hq
    · exact N3 _ (.head _)
    · exact N3 q (.tail _ (.tail _ hq))
  clear F2 N2
  (try dsimp only)
  k_steps
  unfold Stop
  rename_i l4 h4 F4 N4 lt4
  refine add_lists F4 N4 (isl_news N4 (.tail _ (.tail _ (.tail _ (.tail _ (.tail _ (.tail _ (.tail _ (.tail _ (.tail _ (.tail _ (.tail _ (.tail _ (.tail _ (.tail _ mal))))))))))))))) (isl_news N4 (.tail _ (.tail _ (.tail _ (.tail _ (.tail _ (.tail _ (.tail _ (.tail _ (.tail _ (.tail _ (.tail _ (.tail _ (.tail _ (.tail _ ma1))))))))))))))) (fun h5 F5 N5 => ?_) (by rw [List.length_replicate, List.length_replicate]; exact hz _ (by omega))
  rw [List.replicate_append_replicate] at N5
  generalize h4.objs.size = A5 at *
  clear F4 N4 lt4
  (try dsimp only)
  k_steps
  unfold Stop
  refine add_lists F5 N5 (isl_news (vs := List.replicate (12 + t.k) Value.none) (n := 0) N5 (.head _)) (isl_news N5 (.tail _ (.tail _ (.tail _ (.tail _ (.tail _ (.tail _ (.tail _ (.tail _ (.tail _ (.tail _ (.tail _ (.tail _ (.tail _ (.tail _ (.tail _ ma2)))))))))))))))) (fun h6 F6 N6 => ?_) (by rw [List.length_replicate, List.length_replicate]; exact hz _ (by omega))
  rw [List.replicate_append_replicate] at N6
  generalize h5.objs.size = A6 at *
  clear F5 N5
  (try dsimp only)
  k_steps
  unfold Stop
  k_dflt (refine' my_len (isl_news (vs := List.replicate (12 + t.k + t2.k) Value.none) (n := 0) N6 (.head _)) (by rw [List.length_replicate]; omega) ?_)
  intro t9 tk9
  rw [List.length_replicate]
  have hn9 : 12 + t.k + t2.k < 2 ^ 20 := by omega
  have N7 : News g L1 h6 ((l4, listOf #[Value.none] 0) :: (A3, listOf (List.replicate (12 + t.k + t2.k) Value.none).toArray 0) :: (L1 + 1 + 1 + 1 + 1 + 1 + 1 + 1 + 1 + 1 + 1 + 1 + 1, o12) :: (L1 + 1 + 1 + 1 + 1 + 1 + 1 + 1 + 1 + 1 + 1 + 1, o11) :: (L1 + 1 + 1 + 1 + 1 + 1 + 1 + 1 + 1 + 1 + 1, o10) :: (L1 + 1 + 1 + 1 + 1 + 1 + 1 + 1 + 1 + 1, o9) :: (L1 + 1 + 1 + 1 + 1 + 1 + 1 + 1 + 1, o8) :: (L1 + 1 + 1 + 1 + 1 + 1 + 1 + 1, o7) :: (L1 + 1 + 1 + 1 + 1 + 1 + 1, o6) :: (L1 + 1 + 1 + 1 + 1 + 1, o5) :: (L1 + 1 + 1 + 1 + 1, o4) :: (L1 + 1 + 1 + 1, o3) :: (L1 + 1 + 1, o2) :: (L1 + 1, o1) :: TL) := fun q hq => N6 q (.tail _ (.tail _ hq))
  clear N6
  generalize 12 + t.k + t2.k = nn at *
  (try dsimp only)
  k_steps
  unfold Stop
  k_dflt (refine' none_mul F6 N7 (.head _) hn9 ?_)
  intro D8 h8 F8 N8 lt8
  clear F6 N7 lt8
  (try dsimp only)
  k_steps
  unfold Stop
  k_dflt (refine' ne_nones (isl_news N8 (.tail _ (.tail _ (.head _)))) (isl_news N8 (.head _)) ?u1 ?_)
  case u1 => ke_room
  have N9 : News g L1 h8 ((L1 + 1 + 1 + 1 + 1 + 1 + 1 + 1 + 1 + 1 + 1 + 1 + 1, o12) :: (L1 + 1 + 1 + 1 + 1 + 1 + 1 + 1 + 1 + 1 + 1 + 1, o11) :: (L1 + 1 + 1 + 1 + 1 + 1 + 1 + 1 + 1 + 1 + 1, o10) :: (L1 + 1 + 1 + 1 + 1 + 1 + 1 + 1 + 1 + 1, o9) :: (L1 + 1 + 1 + 1 + 1 + 1 + 1 + 1 + 1, o8) :: (L1 + 1 + 1 + 1 + 1 + 1 + 1 + 1, o7) :: (L1 + 1 + 1 + 1 + 1 + 1 + 1, o6) :: (L1 + 1 + 1 + 1 + 1 + 1, o5) :: (L1 + 1 + 1 + 1 + 1, o4) :: (L1 + 1 + 1 + 1, o3) :: (L1 + 1 + 1, o2) :: (L1 + 1, o1) :: TL) := fun q hq => N8 q (.tail _ (.tail _ (.tail _ hq)))
  clear N8
  (try dsimp only)
  k_steps
  unfold Stop
  have at1 := tok.at N9 (fun q hq => (.tail _ (.tail _ (.tail _ (.tail _ (.tail _ (.tail _ (.tail _ (.tail _ (.tail _ (.tail _ (.tail _ (.tail _ hq)))))))))))))
  have ln3 : t.rs.length = 6 := rows_len tok.ers law.l1
  k_dflt (refine' getall_c B1 F8 X1 T1 ?k2 ?d2 ?u2 t.x t.hl t.rs at1.hx at1.lx at1.rx (by omega) 3 (by decide) _ ?_)
  case k2 => exact rfl
  case d2 => ktr_room
  case u2 => ktr_units
  rintro D9 h9 tk9 fD9 ⟨nD9, eD9⟩ kp9
  have hlen : ((t.rs.filter fun r => r.c % 3 == 3 % 3).map Row.val).length = (rowA hs 0).length := by
    rw [← tok.ers, ← rowA_eq, List.length_map, List.length_map]
    rfl
  have F9 := fr_kp F8 kp9
  have N10 := news_add F8 N9 kp9 fD9 eD9
  clear F8 N9 at1 fD9 eD9 kp9
  (try dsimp only)
  k_steps
  unfold Stop
  k_dflt (refine' my_len (isl_news N10 (.head _)) (by rw [List.length_map]; have := List.length_filter_le (fun r : Row => r.c % 3 == 3 % 3) t.rs; omega) ?_)
  intro t10 tk10
  rw [hlen]
  subst hM
  generalize (rowA hs 0).length = mm at *
  have N11 : News g L1 h9 ((L1 + 1 + 1 + 1 + 1 + 1 + 1 + 1 + 1 + 1 + 1 + 1 + 1, o12) :: (L1 + 1 + 1 + 1 + 1 + 1 + 1 + 1 + 1 + 1 + 1 + 1, o11) :: (L1 + 1 + 1 + 1 + 1 + 1 + 1 + 1 + 1 + 1 + 1, o10) :: (L1 + 1 + 1 + 1 + 1 + 1 + 1 + 1 + 1 + 1, o9) :: (L1 + 1 + 1 + 1 + 1 + 1 + 1 + 1 + 1, o8) :: (L1 + 1 + 1 + 1 + 1 + 1 + 1 + 1, o7) :: (L1 + 1 + 1 + 1 + 1 + 1 + 1, o6) :: (L1 + 1 + 1 + 1 + 1 + 1, o5) :: (L1 + 1 + 1 + 1 + 1, o4) :: (L1 + 1 + 1 + 1, o3) :: (L1 + 1 + 1, o2) :: (L1 + 1, o1) :: TL) := fun q hq => N10 q (.tail _ hq)
  clear N10
  (try dsimp only)
  k_steps
  unfold Stop
  refine PyProof.Rows.ne_int ?_
  rw [show (((mm : Nat) : Int) != ((mm : Nat) : Int)) = false by simp]
  k_steps
  unfold Stop
  refine' LawRun.elim (k := 17) ?k7 ?hL ?e7
  case k7 => k_is
  case e7 => rfl
  case hL => exact hnext h9 _ F9 N11
end

/-! S17 -/
example : True := by
  k_with_none
  k_with "subscriptTail" => (k_here; (with_reducible show wpAny _ _ (subscriptTail _ _ (Value.ref _) (Value.int _ _)) _ _ _); (with_unfolding_all refine' my_item ?q_k1 ?q_k2 ?q_k3 ?q_k4 ?_ ?q_k6; (case q_k1 => first | assumption | ((rename GSub _ _ _ => kG9); (rename Fr _ _ _ _ => F9); refine' list_up ?q_t9 kG9 F9 (by simp); (case q_t9 => assumption))); (case q_k2 => assumption); (case q_k3 => first | rfl | assumption | omega | (simp only [Int.fdiv_eq_ediv_of_nonneg _ (by decide : (0 : Int) ≤ 2)]; omega)); (case q_k4 => first | assumption | omega); (case q_k6 => with_unfolding_all rfl); k_whole))
  k_with "call builtin:len" => (k_here; (with_reducible show wpAny _ _ (call (Value.builtin "len") [Value.ref _]) _ _ _); refine' my_len ?q_k1 ?q_k2 ?_; (case q_k1 => first | assumption | ((rename GSub _ _ _ => kG9); (rename Fr _ _ _ _ => F9); refine' list_up ?q_t9 kG9 F9 (by simp); (case q_t9 => assumption))); (case q_k2 => first | assumption | omega); intro _ _)
  k_with "subscriptTail" => (k_here; (with_reducible show wpAny _ _ (subscriptTail _ _ (Value.ref _) (Value.int _ _)) _ _ _); (with_unfolding_all refine' my_titem ?q_k1 ?q_k2 ?q_k3 ?q_k4 ?_ ?q_k6; (case q_k1 => first | assumption | ((rename GSub _ _ _ => kG9); (rename Fr _ _ _ _ => F9); refine' TT.up ?q_t9 kG9 F9 (by simp); (case q_t9 => assumption))); (case q_k2 => first | assumption | decide | omega); (case q_k3 => first | assumption | exact rfl); (case q_k4 => first | assumption | (simp only [List.length_cons, List.length_nil]; decide)); (case q_k6 => with_unfolding_all rfl); k_whole))
  k_with "eval Name" => (k_here; (with_reducible show wpAny _ _ (eval (Expr.Name _ _) (compEnvC _ _ _ _)) _ _ _); (with_unfolding_all refine' wpAny_Name (wpAny_loadName_local ?q_a ?q_b ?q_c ?q_d ?_) ?q_e; (case q_a => rfl); (case q_b => rfl); (case q_c => first | assumption | exact nsC_get (by assumption) (by assumption) (by repeat (first | exact List.Mem.head _ | apply List.Mem.tail))); (case q_d => assumption); (case q_e => decide); k_whole))
  k_with "eval ListComp" => (k_here; refine stopHere ?_)
  k_with "call builtin:list.append" => (k_here; refine stopHere ?_)
  k_with "call ref" => (k_here; refine stopHere ?_)
  k_with "pyIter ref" => (k_here; refine stopHere ?_)
  k_with "execs cons" => (k_here; refine stopHere ?_)
  k_with "subscriptTail" => (k_here; (with_reducible show wpAny _ _ (subscriptTail _ _ (Value.ref _) (Value.int _ _)) _ _ _); (with_unfolding_all refine' my_item ?q_k1 ?q_k2 ?q_k3 ?q_k4 ?_ ?q_k6; (case q_k3 => first | exact rfl | exact (rfl : (0 : Int) = ((0 : Nat) : Int))); (case q_k1 => first | assumption | exact isl_news (by assumption) (by repeat (first | assumption | exact List.mem_append_left _ (by assumption) | apply List.Mem.tail))); (case q_k2 => assumption); (case q_k4 => first | assumption | omega | exact (by decide)); (case q_k6 => with_unfolding_all rfl); k_whole))
  k_with "subscriptTail Name Constant ref int" => (k_here; refine stopHere ?_)
  k_with "own k_updF" => (refine' UpdF.head ?q_a; (case q_a => (repeat (first | assumption | (refine List.forall_mem_cons.mpr ⟨by k_ne, ?_⟩)))))
  k_with "subscriptTail Name Slice ref ref" => (k_here; refine stopHere ?_)
  k_with "compareOp Eq ref ref" => (k_here; refine stopHere ?_)
  k_with "own k_inst" => exact inst_news (by assumption) (by repeat (first | assumption | exact List.mem_append_left _ (by assumption) | apply List.Mem.tail)) (by repeat (first | assumption | exact List.mem_append_left _ (by assumption) | apply List.Mem.tail))
  trivial
section
variable {g : Heap} {L1 : Addr} {Qf : Flow → Shared → Prop}
theorem law_s17 (t t2 : TabD) (d : LawD) (M : Int) (tM : Tok) (F1 : Fr g L1 s.heap (fun y => if y = Str.ofString "longest" then some (Value.int M tM) else m9 (m8 m t) t2 y)) (X1 : (hd.heap_1 w.params).In g) (T1 : Top p loose mean mg mb g) (TL : List (Addr × Obj)) (rl kl gl cx fl ul : Addr)
    (hs bs hs2 bs2 : List (Nat × Nat)) (tok : TabOk TL hs bs t) (tok2 : TabOk TL hs2 bs2 t2) (law : TabsLaw d hs bs hs2 bs2)
    (v1 : Option Value) (o1 : Obj) (d1 : o1.data = .cell v1) (o2 : Obj) (d2 : o2.data = .cell (some (.ref d.tl))) (o3 : Obj) (d3 : o3.data = .cell (some (.ref d.ll))) (o4 : Obj) (d4 : o4.data = .cell (some (.ref d.pl))) (o5 : Obj) (d5 : o5.data = .cell (some (.ref rl))) (o6 : Obj) (d6 : o6.data = .cell (some (.ref kl))) (o7 : Obj) (d7 : o7.data = .cell (some (.ref gl))) (o8 : Obj) (d8 : o8.data = .cell (some (.ref t.dn))) (o9 : Obj) (d9 : o9.data = .cell (some (.ref cx))) (o10 : Obj) (d10 : o10.data = .cell (some (.ref fl))) (o11 : Obj) (d11 : o11.data = .cell (some (.ref ul))) (o12 : Obj) (d12 : o12.data = .cell (some (.ref d.nl)))
    (N1 : News g L1 s.heap ((L1 + 1 + 1 + 1 + 1 + 1 + 1 + 1 + 1 + 1 + 1 + 1 + 1, o12) :: (L1 + 1 + 1 + 1 + 1 + 1 + 1 + 1 + 1 + 1 + 1 + 1, o11) :: (L1 + 1 + 1 + 1 + 1 + 1 + 1 + 1 + 1 + 1 + 1, o10) :: (L1 + 1 + 1 + 1 + 1 + 1 + 1 + 1 + 1 + 1, o9) :: (L1 + 1 + 1 + 1 + 1 + 1 + 1 + 1 + 1, o8) :: (L1 + 1 + 1 + 1 + 1 + 1 + 1 + 1, o7) :: (L1 + 1 + 1 + 1 + 1 + 1 + 1, o6) :: (L1 + 1 + 1 + 1 + 1 + 1, o5) :: (L1 + 1 + 1 + 1 + 1, o4) :: (L1 + 1 + 1 + 1, o3) :: (L1 + 1 + 1, o2) :: (L1 + 1, o1) :: TL))
    (hend : ∀ (h' : Heap) (tk' : Nat) (m' : Str → Option Value), Fr g L1 h' m' → News g L1 h' ((L1 + 1 + 1 + 1 + 1 + 1 + 1 + 1 + 1 + 1 + 1 + 1 + 1, o12) :: (L1 + 1 + 1 + 1 + 1 + 1 + 1 + 1 + 1 + 1 + 1 + 1, o11) :: (L1 + 1 + 1 + 1 + 1 + 1 + 1 + 1 + 1 + 1 + 1, o10) :: (L1 + 1 + 1 + 1 + 1 + 1 + 1 + 1 + 1 + 1, o9) :: (L1 + 1 + 1 + 1 + 1 + 1 + 1 + 1 + 1, o8) :: (L1 + 1 + 1 + 1 + 1 + 1 + 1 + 1, o7) :: (L1 + 1 + 1 + 1 + 1 + 1 + 1, o6) :: (L1 + 1 + 1 + 1 + 1 + 1, o5) :: (L1 + 1 + 1 + 1 + 1, o4) :: (L1 + 1 + 1 + 1, o3) :: (L1 + 1 + 1, o2) :: (L1 + 1, o1) :: TL) → Qf (.ret (.bool true)) { s with heap := h', toks := tk' }) : LawRun w 17 L1 Qf s := by
  refine' LawRun.intro ?k6 ?_
  case k6 => k_is
  dsimp only [List.drop]
  have B1 : Below callerA g [] g := below_caller g
  have mb1 := tok.mb
  have mdb1 := tok.mdb
  have mb2 := tok2.mb
  have mdb2 := tok2.mdb
  have ln1 : t.bs.length = 6 := rows_len tok.ebs law.l3
  have ln2 : t2.bs.length = 6 := rows_len tok2.ebs law.l4
  have tv1 := ts_at 6 tok.evs tok.hvs
  have tv2 := ts_at 6 tok2.evs tok2.hvs
  rw [book_names law.l4 law.n1] at tv1
  rw [book_names law.l3 law.n2] at tv2
  have tb1 := ts_names (rs := t.bs)
  have tb2 := ts_names (rs := t2.bs)
  rw [names_of tok.ebs] at tb1
  rw [names_of tok2.ebs] at tb2
  refine wpAny_execs_cons ?_
  k_steps
  unfold Stop
  have at2 := tok2.at N1 (fun q hq => (.tail _ (.tail _ (.tail _ (.tail _ (.tail _ (.tail _ (.tail _ (.tail _ (.tail _ (.tail _ (.tail _ (.tail _ hq)))))))))))))
  k_dflt (refine' keys_c B1 F1 X1 T1 ?k2 ?d2 ?u2 t2.b t2.bl t2.bs at2.hb at2.lb at2.rb (by omega) ?_)
  case k2 => exact rfl
  case d2 => ktr_room
  case u2 => ktr_units
  rintro D5 h5 tk5 fD5 ⟨nD5, eD5⟩ kp5
  have F5 := fr_kp F1 kp5
  have N5 := news_add F1 N1 kp5 fD5 eD5
  clear F1 N1 at2
  (try dsimp only)
  k_steps
  unfold Stop
  k_dflt (refine' my_eq_ts (isl_news N5 (.tail _ (.tail _ (.tail _ (.tail _ (.tail _ (.tail _ (.tail _ (.tail _ (.tail _ (.tail _ (.tail _ (.tail _ (.tail _ tok.mdn)))))))))))))) (isl_news N5 (.head _)) tv1 tb2 (ok_nms tok2) (ok_nms tok2) ?u1 ?_)
  case u1 => ke_room
  rw [decide_eq_true (rfl : (bs2.map fun q => nm q.1) = bs2.map fun q => nm q.1)]
  have N6 : News g L1 h5 ((L1 + 1 + 1 + 1 + 1 + 1 + 1 + 1 + 1 + 1 + 1 + 1 + 1, o12) :: (L1 + 1 + 1 + 1 + 1 + 1 + 1 + 1 + 1 + 1 + 1 + 1, o11) :: (L1 + 1 + 1 + 1 + 1 + 1 + 1 + 1 + 1 + 1 + 1, o10) :: (L1 + 1 + 1 + 1 + 1 + 1 + 1 + 1 + 1 + 1, o9) :: (L1 + 1 + 1 + 1 + 1 + 1 + 1 + 1 + 1, o8) :: (L1 + 1 + 1 + 1 + 1 + 1 + 1 + 1, o7) :: (L1 + 1 + 1 + 1 + 1 + 1 + 1, o6) :: (L1 + 1 + 1 + 1 + 1 + 1, o5) :: (L1 + 1 + 1 + 1 + 1, o4) :: (L1 + 1 + 1 + 1, o3) :: (L1 + 1 + 1, o2) :: (L1 + 1, o1) :: TL) := fun q hq => N5 q (.tail _ hq)
  clear N5
  (try dsimp only)
  k_steps
  unfold Stop
  have at1 := tok.at N6 (fun q hq => (.tail _ (.tail _ (.tail _ (.tail _ (.tail _ (.tail _ (.tail _ (.tail _ (.tail _ (.tail _ (.tail _ (.tail _ hq)))))))))))))
  k_dflt (refine' keys_c B1 F5 X1 T1 ?k2 ?d2 ?u2 t.b t.bl t.bs at1.hb at1.lb at1.rb (by omega) ?_)
  case k2 => exact rfl
  case d2 => ktr_room
  case u2 => ktr_units
  rintro D7 h7 tk7 fD7 ⟨nD7, eD7⟩ kp7
  have F7 := fr_kp F5 kp7
  have N7 := news_add F5 N6 kp7 fD7 eD7
  clear F5 N6 at1
  (try dsimp only)
  k_steps
  unfold Stop
  k_dflt (refine' my_eq_ts (isl_news N7 (.tail _ (.tail _ (.tail _ (.tail _ (.tail _ (.tail _ (.tail _ (.tail _ (.tail _ (.tail _ (.tail _ (.tail _ (.tail _ tok2.mdn)))))))))))))) (isl_news N7 (.head _)) tv2 tb1 (ok_nms tok) (ok_nms tok) ?u1 ?_)
  case u1 => ke_room
  rw [decide_eq_true (rfl : (bs.map fun q => nm q.1) = bs.map fun q => nm q.1)]
  (try dsimp only)
  k_steps
  exact hend _ _ _ F7 fun q hq => N7 q (.tail _ hq)
end

/-! Z1 -/
example : True := by
  k_with_none
  k_with "subscriptTail" => (k_here; (with_reducible show wpAny _ _ (subscriptTail _ _ (Value.ref _) (Value.int _ _)) _ _ _); (with_unfolding_all refine' my_item ?q_k1 ?q_k2 ?q_k3 ?q_k4 ?_ ?q_k6; (case q_k1 => first | assumption | ((rename GSub _ _ _ => kG9); (rename Fr _ _ _ _ => F9); refine' list_up ?q_t9 kG9 F9 (by simp); (case q_t9 => assumption))); (case q_k2 => assumption); (case q_k3 => first | rfl | assumption | omega | (simp only [Int.fdiv_eq_ediv_of_nonneg _ (by decide : (0 : Int) ≤ 2)]; omega)); (case q_k4 => first | assumption | omega); (case q_k6 => with_unfolding_all rfl); k_whole))
  k_with "call builtin:len" => (k_here; (with_reducible show wpAny _ _ (call (Value.builtin "len") [Value.ref _]) _ _ _); refine' my_len ?q_k1 ?q_k2 ?_; (case q_k1 => first | assumption | ((rename GSub _ _ _ => kG9); (rename Fr _ _ _ _ => F9); refine' list_up ?q_t9 kG9 F9 (by simp); (case q_t9 => assumption))); (case q_k2 => first | assumption | omega); intro _ _)
  k_with "subscriptTail" => (k_here; (with_reducible show wpAny _ _ (subscriptTail _ _ (Value.ref _) (Value.int _ _)) _ _ _); (with_unfolding_all refine' my_titem ?q_k1 ?q_k2 ?q_k3 ?q_k4 ?_ ?q_k6; (case q_k1 => first | assumption | ((rename GSub _ _ _ => kG9); (rename Fr _ _ _ _ => F9); refine' TT.up ?q_t9 kG9 F9 (by simp); (case q_t9 => assumption))); (case q_k2 => first | assumption | decide | omega); (case q_k3 => first | assumption | exact rfl); (case q_k4 => first | assumption | (simp only [List.length_cons, List.length_nil]; decide)); (case q_k6 => with_unfolding_all rfl); k_whole))
  trivial
section
theorem cell_off {h : Heap} {a b : Addr} {o : Obj} {v : Option Value} {vs : Array Value} {n : Nat} (e1 : h.get? a = some o) (d : o.data = .cell v) (e2 : h.get? b = some (listOf vs n)) : b ≠ a := fun q => by
  rw [q, e1] at e2
  cases e2
  cases d
variable {g : Heap} {L1 : Addr} {Qf : Flow → Shared → Prop}
theorem offC_data {h : Heap} {TL : List (Addr × Obj)} {o1 : Obj} {v1 : Option Value} (d1 : o1.data = .cell v1) {o2 : Obj} {v2 : Option Value} (d2 : o2.data = .cell v2) {o3 : Obj} {v3 : Option Value} (d3 : o3.data = .cell v3) {o4 : Obj} {v4 : Option Value} (d4 : o4.data = .cell v4) {o5 : Obj} {v5 : Option Value} (d5 : o5.data = .cell v5) {o6 : Obj} {v6 : Option Value} (d6 : o6.data = .cell v6) {o7 : Obj} {v7 : Option Value} (d7 : o7.data = .cell v7) {o8 : Obj} {v8 : Option Value} (d8 : o8.data = .cell v8) {o9 : Obj} {v9 : Option Value} (d9 : o9.data = .cell v9) {o10 : Obj} {v10 : Option Value} (d10 : o10.data = .cell v10) {o11 : Obj} {v11 : Option Value} (d11 : o11.data = .cell v11) {o12 : Obj} {v12 : Option Value} (d12 : o12.data = .cell v12) (N : News g L1 h ((L1 + 1 + 1 + 1 + 1 + 1 + 1 + 1 + 1 + 1 + 1 + 1 + 1, o12) :: (L1 + 1 + 1 + 1 + 1 + 1 + 1 + 1 + 1 + 1 + 1 + 1, o11) :: (L1 + 1 + 1 + 1 + 1 + 1 + 1 + 1 + 1 + 1 + 1, o10) :: (L1 + 1 + 1 + 1 + 1 + 1 + 1 + 1 + 1 + 1, o9) :: (L1 + 1 + 1 + 1 + 1 + 1 + 1 + 1 + 1, o8) :: (L1 + 1 + 1 + 1 + 1 + 1 + 1 + 1, o7) :: (L1 + 1 + 1 + 1 + 1 + 1 + 1, o6) :: (L1 + 1 + 1 + 1 + 1 + 1, o5) :: (L1 + 1 + 1 + 1 + 1, o4) :: (L1 + 1 + 1 + 1, o3) :: (L1 + 1 + 1, o2) :: (L1 + 1, o1) :: TL)) (hT : ∀ q ∈ TL, (∃ vs n, q.2 = listOf vs n) ∨ @LT.lt Nat _ q.1 L1) : OffC L1 TL := fun q hq => by
  rcases hT q hq with ⟨vs, n, e⟩ | hlt
  rotate_left
  · have hh : ∀ k : Nat, @Ne Nat q.1 (@HAdd.hAdd Nat Nat Nat _ (@HAdd.hAdd Nat Nat Nat _ L1 1) k) := fun k => Nat.ne_of_lt (Nat.lt_of_lt_of_le hlt (Nat.le_trans (Nat.le_add_right _ _) (Nat.le_add_right _ _)))
    exact ⟨hh 0, hh 1, hh 2, hh 3, hh 4, hh 5, hh 6, hh 7, hh 8, hh 9, hh 10, hh 11⟩
  have e2 : h.get? q.1 = some (listOf vs n) := by
    rw [← e]
    exact (N q (.tail _ (.tail _ (.tail _ (.tail _ (.tail _ (.tail _ (.tail _ (.tail _ (.tail _ (.tail _ (.tail _ (.tail _ hq))))))))))))).1
  exact ⟨cell_off (N (L1 + 1, o1) (.tail _ (.tail _ (.tail _ (.tail _ (.tail _ (.tail _ (.tail _ (.tail _ (.tail _ (.tail _ (.tail _ (.head _))))))))))))).1 d1 e2, cell_off (N (L1 + 1 + 1, o2) (.tail _ (.tail _ (.tail _ (.tail _ (.tail _ (.tail _ (.tail _ (.tail _ (.tail _ (.tail _ (.head _)))))))))))).1 d2 e2, cell_off (N (L1 + 1 + 1 + 1, o3) (.tail _ (.tail _ (.tail _ (.tail _ (.tail _ (.tail _ (.tail _ (.tail _ (.tail _ (.head _))))))))))).1 d3 e2, cell_off (N (L1 + 1 + 1 + 1 + 1, o4) (.tail _ (.tail _ (.tail _ (.tail _ (.tail _ (.tail _ (.tail _ (.tail _ (.head _)))))))))).1 d4 e2, cell_off (N (L1 + 1 + 1 + 1 + 1 + 1, o5) (.tail _ (.tail _ (.tail _ (.tail _ (.tail _ (.tail _ (.tail _ (.head _))))))))).1 d5 e2, cell_off (N (L1 + 1 + 1 + 1 + 1 + 1 + 1, o6) (.tail _ (.tail _ (.tail _ (.tail _ (.tail _ (.tail _ (.head _)))))))).1 d6 e2, cell_off (N (L1 + 1 + 1 + 1 + 1 + 1 + 1 + 1, o7) (.tail _ (.tail _ (.tail _ (.tail _ (.tail _ (.head _))))))).1 d7 e2, cell_off (N (L1 + 1 + 1 + 1 + 1 + 1 + 1 + 1 + 1, o8) (.tail _ (.tail _ (.tail _ (.tail _ (.head _)))))).1 d8 e2, cell_off (N (L1 + 1 + 1 + 1 + 1 + 1 + 1 + 1 + 1 + 1, o9) (.tail _ (.tail _ (.tail _ (.head _))))).1 d9 e2, cell_off (N (L1 + 1 + 1 + 1 + 1 + 1 + 1 + 1 + 1 + 1 + 1, o10) (.tail _ (.tail _ (.head _)))).1 d10 e2, cell_off (N (L1 + 1 + 1 + 1 + 1 + 1 + 1 + 1 + 1 + 1 + 1 + 1, o11) (.tail _ (.head _))).1 d11 e2, cell_off (N (L1 + 1 + 1 + 1 + 1 + 1 + 1 + 1 + 1 + 1 + 1 + 1 + 1, o12) (.head _)).1 d12 e2⟩
theorem law_all (F1 : Fr g L1 s.heap m) (X1 : (hd.heap_1 w.params).In g) (T1 : Top p loose mean mg mb g) (hCH : CodeHd g 279 277) (h277 : @LT.lt Nat _ 277 L1)
    (sl : Addr) (vs : List Value) (ws : List Int) (hsl : g.IsList sl vs.toArray) (hws : IntsAre vs ws) (hwl : ws.length ≤ 63)
    (o1 : Obj) (d1 : o1.data = .cell (some (.ref sl))) (o2 : Obj) (d2 : o2.data = .cell none) (o3 : Obj) (d3 : o3.data = .cell none) (o4 : Obj) (d4 : o4.data = .cell none) (o5 : Obj) (d5 : o5.data = .cell none) (o6 : Obj) (d6 : o6.data = .cell none) (o7 : Obj) (d7 : o7.data = .cell none) (o8 : Obj) (d8 : o8.data = .cell none) (o9 : Obj) (d9 : o9.data = .cell none) (o10 : Obj) (d10 : o10.data = .cell none) (o11 : Obj) (d11 : o11.data = .cell none) (o12 : Obj) (d12 : o12.data = .cell none)
    (N1 : News g L1 s.heap [(L1 + 1 + 1 + 1 + 1 + 1 + 1 + 1 + 1 + 1 + 1 + 1 + 1, o12), (L1 + 1 + 1 + 1 + 1 + 1 + 1 + 1 + 1 + 1 + 1 + 1, o11), (L1 + 1 + 1 + 1 + 1 + 1 + 1 + 1 + 1 + 1 + 1, o10), (L1 + 1 + 1 + 1 + 1 + 1 + 1 + 1 + 1 + 1, o9), (L1 + 1 + 1 + 1 + 1 + 1 + 1 + 1 + 1, o8), (L1 + 1 + 1 + 1 + 1 + 1 + 1 + 1, o7), (L1 + 1 + 1 + 1 + 1 + 1 + 1, o6), (L1 + 1 + 1 + 1 + 1 + 1, o5), (L1 + 1 + 1 + 1 + 1, o4), (L1 + 1 + 1 + 1, o3), (L1 + 1 + 1, o2), (L1 + 1, o1), (277, tabObj #[])])
    (hend : ∀ (h' : Heap) (tk' : Nat) (m' : Str → Option Value), Fr g L1 h' m' → GrownAt 277 h' → Qf (.ret (.bool true)) { s with heap := h', toks := tk' }) : LawRun w 0 L1 Qf s := by
  refine law_s0 F1 X1 T1 sl vs ws h277 hsl hws hwl o1 d1 o2 d2 o3 d3 o4 d4 o5 d5 o6 d6 o7 d7 o8 d8 o9 d9 o10 d10 o11 d11 o12 d12 N1 fun ths nl tl ll pl al nn nt o2 o3 o4 o12 h2 tk2 hthl htp hth0 ap d2 d3 d4 d12 F2 N2 => ?_
  refine law_s2 (s := { s with heap := h2, toks := tk2 }) F2 X1 T1 hCH h277 ths nl tl ll pl al nn nt hthl hth0 ap _ o1 d1 o2 d2 o3 d3 o4 d4 o5 d5 o6 d6 o7 d7 o8 d8 o9 d9 o10 d10 o11 d11 o12 d12 (if_pos rfl) N2 fun pvs na np nq tab h3 tk3 m3 jv jt ht3 hma F3 N3 => ?_
  obtain ⟨d, hd⟩ : ∃ d : LawD, d = ⟨ths, pvs, nl, tl, ll, pl, al, nn, nt, na, np, nq⟩ := ⟨_, rfl⟩
  obtain ⟨TL, hTL⟩ : ∃ TL : List (Addr × Obj), TL = (d.al, listOf (List.replicate 12 Value.none).toArray d.na) :: (d.pl, listOf d.pvs.toArray d.np) :: (d.ll, listOf (d.P.map fun j => (d.ths.getD j default).ref).toArray d.nq) :: (d.tl, listOf (d.ths.map Th.ref).toArray d.nt) :: (d.nl, listOf (d.ths.map Th.val).toArray d.nn) :: (277, tabObj tab) :: ThLed d.ths := ⟨_, rfl⟩
  have ok3 : LawOk TL d tk3 := by
    subst hTL
    refine ⟨?_, ?_, ?_, .tail _ (.tail _ (.tail _ (.tail _ (.head _)))), .tail _ (.tail _ (.tail _ (.head _))), .tail _ (.tail _ (.head _)), .tail _ (.head _), .head _, fun x hx => .tail _ (.tail _ (.tail _ (.tail _ (.tail _ (.tail _ (th_mem hx)))))), ?_, ?_⟩
    · rw [hd]; exact hthl
    · rw [hd]; exact htp
    · rw [hd]; exact fun x hx => ⟨(hth0 x hx).1, Nat.lt_of_lt_of_le (hth0 x hx).2 ht3⟩
    · rw [hd]; exact jv
    · rw [hd]; exact jt
  have N4 : News g L1 h3 ((L1 + 1 + 1 + 1 + 1 + 1 + 1 + 1 + 1 + 1 + 1 + 1 + 1, o12) :: (L1 + 1 + 1 + 1 + 1 + 1 + 1 + 1 + 1 + 1 + 1 + 1, o11) :: (L1 + 1 + 1 + 1 + 1 + 1 + 1 + 1 + 1 + 1 + 1, o10) :: (L1 + 1 + 1 + 1 + 1 + 1 + 1 + 1 + 1 + 1, o9) :: (L1 + 1 + 1 + 1 + 1 + 1 + 1 + 1 + 1, o8) :: (L1 + 1 + 1 + 1 + 1 + 1 + 1 + 1, o7) :: (L1 + 1 + 1 + 1 + 1 + 1 + 1, o6) :: (L1 + 1 + 1 + 1 + 1 + 1, o5) :: (L1 + 1 + 1 + 1 + 1, o4) :: (L1 + 1 + 1 + 1, o3) :: (L1 + 1 + 1, o2) :: (L1 + 1, o1) :: TL) := fun q hq => by
    rw [show ((L1 + 1 + 1 + 1 + 1 + 1 + 1 + 1 + 1 + 1 + 1 + 1 + 1, o12) :: (L1 + 1 + 1 + 1 + 1 + 1 + 1 + 1 + 1 + 1 + 1 + 1, o11) :: (L1 + 1 + 1 + 1 + 1 + 1 + 1 + 1 + 1 + 1 + 1, o10) :: (L1 + 1 + 1 + 1 + 1 + 1 + 1 + 1 + 1 + 1, o9) :: (L1 + 1 + 1 + 1 + 1 + 1 + 1 + 1 + 1, o8) :: (L1 + 1 + 1 + 1 + 1 + 1 + 1 + 1, o7) :: (L1 + 1 + 1 + 1 + 1 + 1 + 1, o6) :: (L1 + 1 + 1 + 1 + 1 + 1, o5) :: (L1 + 1 + 1 + 1 + 1, o4) :: (L1 + 1 + 1 + 1, o3) :: (L1 + 1 + 1, o2) :: (L1 + 1, o1) :: TL) = [(L1 + 1 + 1 + 1 + 1 + 1 + 1 + 1 + 1 + 1 + 1 + 1 + 1, o12), (L1 + 1 + 1 + 1 + 1 + 1 + 1 + 1 + 1 + 1 + 1 + 1, o11), (L1 + 1 + 1 + 1 + 1 + 1 + 1 + 1 + 1 + 1 + 1, o10), (L1 + 1 + 1 + 1 + 1 + 1 + 1 + 1 + 1 + 1, o9), (L1 + 1 + 1 + 1 + 1 + 1 + 1 + 1 + 1, o8), (L1 + 1 + 1 + 1 + 1 + 1 + 1 + 1, o7), (L1 + 1 + 1 + 1 + 1 + 1 + 1, o6), (L1 + 1 + 1 + 1 + 1 + 1, o5), (L1 + 1 + 1 + 1 + 1, o4), (L1 + 1 + 1 + 1, o3), (L1 + 1 + 1, o2), (L1 + 1, o1)] ++ TL from rfl, hTL, hd] at hq
    rcases List.mem_append.mp hq with hq | hq
    · exact N3 q (.tail _ (.tail _ (.tail _ (.tail _ (.tail _ (List.mem_append_left ((277, tabObj tab) :: ThLed ths) hq))))))
    · rcases List.mem_cons.mp hq with rfl | hq
      · exact N3 _ (.head _)
      rcases List.mem_cons.mp hq with rfl | hq
      · exact N3 _ (.tail _ (.head _))
      rcases List.mem_cons.mp hq with rfl | hq
      · exact N3 _ (.tail _ (.tail _ (.head _)))
      rcases List.mem_cons.mp hq with rfl | hq
      · exact N3 _ (.tail _ (.tail _ (.tail _ (.head _))))
      rcases List.mem_cons.mp hq with rfl | hq
      · exact N3 _ (.tail _ (.tail _ (.tail _ (.tail _ (.head _)))))
      · exact N3 q (.tail _ (.tail _ (.tail _ (.tail _ (.tail _ (List.mem_append_right [(L1 + 1 + 1 + 1 + 1 + 1 + 1 + 1 + 1 + 1 + 1 + 1 + 1, o12), (L1 + 1 + 1 + 1 + 1 + 1 + 1 + 1 + 1 + 1 + 1 + 1, o11), (L1 + 1 + 1 + 1 + 1 + 1 + 1 + 1 + 1 + 1 + 1, o10), (L1 + 1 + 1 + 1 + 1 + 1 + 1 + 1 + 1 + 1, o9), (L1 + 1 + 1 + 1 + 1 + 1 + 1 + 1 + 1, o8), (L1 + 1 + 1 + 1 + 1 + 1 + 1 + 1, o7), (L1 + 1 + 1 + 1 + 1 + 1 + 1, o6), (L1 + 1 + 1 + 1 + 1 + 1, o5), (L1 + 1 + 1 + 1 + 1, o4), (L1 + 1 + 1 + 1, o3), (L1 + 1 + 1, o2), (L1 + 1, o1)] hq))))))
  have off3 : OffC L1 TL := offC_data d1 d2 d3 d4 d5 d6 d7 d8 d9 d10 d11 d12 N4 fun q hq => by
    rw [hTL] at hq
    simp only [List.mem_cons] at hq
    rcases hq with rfl | rfl | rfl | rfl | rfl | rfl | hq
    · exact .inl ⟨_, _, rfl⟩
    · exact .inl ⟨_, _, rfl⟩
    · exact .inl ⟨_, _, rfl⟩
    · exact .inl ⟨_, _, rfl⟩
    · exact .inl ⟨_, _, rfl⟩
    · exact .inr h277
    · obtain ⟨x, hx, rfl⟩ := List.mem_map.mp hq
      exact .inl ⟨_, _, rfl⟩
  have m277 : (277, tabObj tab) ∈ TL := by
    rw [hTL]
    exact .tail _ (.tail _ (.tail _ (.tail _ (.tail _ (.head _)))))
  have e1 : nl = d.nl := by rw [hd]
  have e2 : tl = d.tl := by rw [hd]
  have e3 : ll = d.ll := by rw [hd]
  have e4 : pl = d.pl := by rw [hd]
  have e5 : al = d.al := by rw [hd]
  rw [e1] at d12
  rw [e2] at d2
  rw [e3] at d3
  rw [e4] at d4
  rw [e5] at hma
  clear hd hTL N3 e1 e2 e3 e4 e5 F1 F2 N1 N2
  refine law_s3 (s := { s with heap := h3, toks := tk3 }) F3 X1 T1 TL off3 d ok3 _ o1 d1 o2 d2 o3 d3 o4 d4 o5 d5 o6 d6 o7 d7 o8 d8 o9 d9 o10 d10 o11 d11 o12 d12 N4 fun rl nr o5 h4 tk4 TL4 sub4 off4 mrl d5 ht4 F4 N5 => ?_
  have ok4 : LawOk TL4 d tk4 := ok3.mono sub4 ht4
  refine law_s4 (s := { s with heap := h4, toks := tk4 }) F4 X1 T1 TL4 off4 d ok4 rl nr mrl _ o1 d1 o2 d2 o3 d3 o4 d4 o5 d5 o6 d6 o7 d7 o8 d8 o9 d9 o10 d10 o11 d11 o12 d12 N5 fun kl nk kvs o6 h5 tk5 TL5 sub5 off5 mkl hkv d6 ht5 F5 N6 => ?_
  have ok5 : LawOk TL5 d tk5 := ok4.mono sub5 ht5
  refine law_s5 (s := { s with heap := h5, toks := tk5 }) F5 X1 T1 TL5 off5 d ok5 rl nr kl (sub5 _ mrl) _ o1 d1 o2 d2 o3 d3 o4 d4 o5 d5 o6 d6 o7 d7 o8 d8 o9 d9 o10 d10 o11 d11 o12 d12 N6 fun gl ng gvs o7 h6 tk6 TL6 sub6 off6 mgl hgv d7 ht6 F6 N7 => ?_
  have ok6 : LawOk TL6 d tk6 := ok5.mono sub6 ht6
  refine law_s6 (s := { s with heap := h6, toks := tk6 }) F6 X1 T1 TL6 off6 d ok6 rl kl nk kvs (sub6 _ mkl) hkv gl ng gvs mgl hgv _ o1 d1 o2 d2 o3 d3 o4 d4 o5 d5 o6 d6 o7 d7 o8 d8 o9 d9 o10 d10 o11 d11 o12 d12 N7 fun h7 tk7 ht7 F7 N8 => ?_
  have ok7 : LawOk TL6 d tk7 := ok6.mono (fun _ h => h) ht7
  refine law_s7 (s := { s with heap := h7, toks := tk7 }) F7 X1 T1 TL6 off6 d ok7 rl kl nk kvs (sub6 _ mkl) hkv gl _ o1 d1 o2 d2 o3 d3 o4 d4 o5 d5 o6 d6 o7 d7 o8 d8 o9 d9 o10 d10 o11 d11 o12 d12 N8 fun h8 tk8 ht8 F8 N9 => ?_
  obtain ⟨hs, bs, hs2, bs2, law⟩ := d.tabs
  refine law_s8 (s := { s with heap := h8, toks := tk8 }) F8 X1 T1 TL6 off6 d rl kl nk kvs (sub6 _ mkl) hkv gl hs bs law.p1 law.a1 _ o1 d1 o2 d2 o3 d3 o4 d4 o5 d5 o6 d6 o7 d7 o8 d8 o9 d9 o10 d10 o11 d11 o12 d12 N9 fun t o8 h9 tk9 TL9 sub9 off9 tok d8 F9 N10 => ?_
  refine law_s9 (s := { s with heap := h9, toks := tk9 }) F9 X1 T1 TL9 off9 d ok7.jv (sub9 _ ok7.mpl) rl kl gl t.dn hs2 bs2 law.p2 law.a2 _ o1 d1 o2 d2 o3 d3 o4 d4 o5 d5 o6 d6 o7 d7 o8 d8 o9 d9 o10 d10 o11 d11 o12 d12 N10 fun t2 h10 tk10 TL10 sub10 off10 tok2 F10 N11 => ?_
  have tokA := tok.mono sub10
  refine law_s10 (s := { s with heap := h10, toks := tk10 }) t t2 F10 X1 T1 TL10 d rl kl gl t.dn hs bs hs2 bs2 tokA tok2 law _ o1 d1 o2 d2 o3 d3 o4 d4 o5 d5 o6 d6 o7 d7 o8 d8 o9 d9 o10 d10 o11 d11 o12 d12 N11 fun h11 tk11 F11 N12 => ?_
  have mkl10 := sub10 _ (sub9 _ (sub6 _ mkl))
  refine law_s11 (s := { s with heap := h11, toks := tk11 }) t F11 X1 T1 TL10 off10 d rl kl gl nk kvs mkl10 hkv hs bs tokA _ o1 d1 o2 d2 o3 d3 o4 d4 o5 d5 o6 d6 o7 d7 o8 d8 o9 d9 o10 d10 o11 d11 o12 d12 N12 fun cd o9 h12 tk12 TL12 sub12 off12 cok d9 F12 N13 => ?_
  refine law_s12 (s := { s with heap := h12, toks := tk12 }) t F12 X1 T1 TL12 d rl kl gl nk kvs (sub12 _ mkl10) hkv hs bs (tokA.mono sub12) cd cok _ o1 d1 o2 d2 o3 d3 o4 d4 o5 d5 o6 d6 o7 d7 o8 d8 o9 d9 o10 d10 o11 d11 o12 d12 N13 fun h13 tk13 F13 N14 => ?_
  refine law_s13 (s := { s with heap := h13, toks := tk13 }) F13 X1 T1 TL12 off12 d rl kl gl t.dn cd.x nk kvs (sub12 _ mkl10) hkv _ o1 d1 o2 d2 o3 d3 o4 d4 o5 d5 o6 d6 o7 d7 o8 d8 o9 d9 o10 d10 o11 d11 o12 d12 N14 fun fl nf fvs o10 h14 tk14 TL14 sub14 off14 mfl hfv d10 F14 N15 => ?_
  refine law_s14 (s := { s with heap := h14, toks := tk14 }) F14 X1 T1 TL14 off14 d rl kl gl t.dn cd.x fl nk kvs (sub14 _ (sub12 _ mkl10)) hkv _ o1 d1 o2 d2 o3 d3 o4 d4 o5 d5 o6 d6 o7 d7 o8 d8 o9 d9 o10 d10 o11 d11 o12 d12 N15 fun ul nu uvs o11 h15 tk15 TL15 sub15 off15 mul huv d11 F15 N16 => ?_
  have subA : ∀ q ∈ TL10, q ∈ TL15 := fun q hq => sub15 _ (sub14 _ (sub12 _ hq))
  refine law_s15 (s := { s with heap := h15, toks := tk15 }) F15 X1 T1 TL15 d rl kl gl t.dn cd.x fl ul nf nu fvs uvs (sub15 _ mfl) hfv mul huv _ o1 d1 o2 d2 o3 d3 o4 d4 o5 d5 o6 d6 o7 d7 o8 d8 o9 d9 o10 d10 o11 d11 o12 d12 N16 fun tM h16 tk16 F16 N17 => ?_
  refine law_s16 (s := { s with heap := h16, toks := tk16 }) t t2 d _ tM hma F16 X1 T1 TL15 rl kl gl t.dn cd.x fl ul (subA _ (sub10 _ (sub9 _ ok7.mal))) hs bs hs2 bs2 (tokA.mono subA) (tok2.mono subA) law (by rw [law.lg]) _ o1 d1 o2 d2 o3 d3 o4 d4 o5 d5 o6 d6 o7 d7 o8 d8 o9 d9 o10 d10 o11 d11 o12 d12 N17 fun h17 tk17 F17 N18 => ?_
  exact law_s17 (s := { s with heap := h17, toks := tk17 }) t t2 d _ tM F17 X1 T1 TL15 rl kl gl cd.x fl ul hs bs hs2 bs2 (tokA.mono subA) (tok2.mono subA) law _ o1 d1 o2 d2 o3 d3 o4 d4 o5 d5 o6 d6 o7 d7 o8 d8 o9 d9 o10 d10 o11 d11 o12 d12 N18 fun h' tk' m' F' N' => hend h' tk' m' F' (GrownAt.of N' (.tail _ (.tail _ (.tail _ (.tail _ (.tail _ (.tail _ (.tail _ (.tail _ (.tail _ (.tail _ (.tail _ (.tail _ (subA _ (sub10 _ (sub9 _ (sub6 _ (sub5 _ (sub4 _ m277)))))))))))))))))))
end
end
end Mine
end

/-! the top -/
section
example : True := by
  k_with_none
  trivial
open PySem PySem.W PySem.Calls PySem.Spec PyProof.Rows
set_option Elab.async false
namespace Mine
set_option maxRecDepth 100000
set_option maxHeartbeats 8000000
theorem cells_cons {cm : Str → Option Value} {n : Str} {c : Addr} {cs : List (Str × Addr)} {cells : List (Addr × Obj)} {P : Prop} (x : CellsAre cm ((n, c) :: cs) cells) (f : ∀ o rest, cells = (c, o) :: rest → o.data = .cell (cm n) → CellsAre cm cs rest → P) : P := by
  cases x with
  | cons h r => exact f _ _ rfl h r
theorem cells_nil {cm : Str → Option Value} {cells : List (Addr × Obj)} (x : CellsAre cm [] cells) : cells = [] := by cases x; rfl
theorem cells12 {cm : Str → Option Value} {n1 n2 n3 n4 n5 n6 n7 n8 n9 n10 n11 n12 : Str} {c1 c2 c3 c4 c5 c6 c7 c8 c9 c10 c11 c12 : Addr} {cells : List (Addr × Obj)} {P : Prop} (x : CellsAre cm [(n12, c12), (n11, c11), (n10, c10), (n9, c9), (n8, c8), (n7, c7), (n6, c6), (n5, c5), (n4, c4), (n3, c3), (n2, c2), (n1, c1)] cells)
    (f : ∀ o1 o2 o3 o4 o5 o6 o7 o8 o9 o10 o11 o12 : Obj, cells = [(c12, o12), (c11, o11), (c10, o10), (c9, o9), (c8, o8), (c7, o7), (c6, o6), (c5, o5), (c4, o4), (c3, o3), (c2, o2), (c1, o1)] → o1.data = .cell (cm n1) → o2.data = .cell (cm n2) → o3.data = .cell (cm n3) → o4.data = .cell (cm n4) → o5.data = .cell (cm n5) → o6.data = .cell (cm n6) → o7.data = .cell (cm n7) → o8.data = .cell (cm n8) → o9.data = .cell (cm n9) → o10.data = .cell (cm n10) → o11.data = .cell (cm n11) → o12.data = .cell (cm n12) → P) : P :=
  cells_cons x fun o12 r12 e12 h12 x12 =>
  cells_cons x12 fun o11 r11 e11 h11 x11 =>
  cells_cons x11 fun o10 r10 e10 h10 x10 =>
  cells_cons x10 fun o9 r9 e9 h9 x9 =>
  cells_cons x9 fun o8 r8 e8 h8 x8 =>
  cells_cons x8 fun o7 r7 e7 h7 x7 =>
  cells_cons x7 fun o6 r6 e6 h6 x6 =>
  cells_cons x6 fun o5 r5 e5 h5 x5 =>
  cells_cons x5 fun o4 r4 e4 h4 x4 =>
  cells_cons x4 fun o3 r3 e3 h3 x3 =>
  cells_cons x3 fun o2 r2 e2 h2 x2 =>
  cells_cons x2 fun o1 r1 e1 h1 x1 =>
  f o1 o2 o3 o4 o5 o6 o7 o8 o9 o10 o11 o12 (e12.trans (congrArg _ (e11.trans (congrArg _ (e10.trans (congrArg _ (e9.trans (congrArg _ (e8.trans (congrArg _ (e7.trans (congrArg _ (e6.trans (congrArg _ (e5.trans (congrArg _ (e4.trans (congrArg _ (e3.trans (congrArg _ (e2.trans (congrArg _ (e1.trans (congrArg _ (cells_nil x1))))))))))))))))))))))))) h1 h2 h3 h4 h5 h6 h7 h8 h9 h10 h11 h12
theorem foo : PySem.Challenge.rw_uc0025_01.Holds := hd (by
  k_fill
  intro w s₀ s₁ mg mb G Y fa o pm cd doc dV kV ho hd hcd hD hmg hg args vals as hpre hlay hrd hwl hlo
  have KX := km_in_of Y
  km_tabs Y
  have X := (Ground.X G).1
  have V := (Ground.X G).2
  refine Ground.open G ?_
  intro T B D TE TW
  try (refine guard_noD D (by decide +kernel) ?_; clear D)
  have e280 : mg (Str.ofString "law") = some (.ref 280) := mg_of KX T.g (by k_is)
  have hfa : fa = 280 := by
    have h := hmg.symm.trans e280
    injection h with h
    injection h
  subst hfa
  km_lay T hmg ho hd cd
  clear hmg
  wrow_args hpre hlay hrd hwl hlo
  all_goals (
    first | refine callC_kw (enter_call ?_) | refine enter_call ?_
    w_top on
    kn_posts
    have he := Dflts.none hD rfl; subst he; have he := Dflts.noKw hD; subst he
    refine call_cellsN_ret (by decide) ho (fd_plain hd) (Top.nolimit T) hcd rfl (kinds_of (by kinds_ok)) (by decide) fun h₁ tk₁ cells F N0 X0 => ?_
    refine cells12 X0 fun o1 o2 o3 o4 o5 o6 o7 o8 o9 o10 o11 o12 hE d1 d2 d3 d4 d5 d6 d7 d8 d9 d10 d11 d12 => ?_
    subst hE
    clear hd
    have d1' : o1.data = .cell (some (.ref _)) := d1
    have d2' : o2.data = .cell none := d2
    have d3' : o3.data = .cell none := d3
    have d4' : o4.data = .cell none := d4
    have d5' : o5.data = .cell none := d5
    have d6' : o6.data = .cell none := d6
    have d7' : o7.data = .cell none := d7
    have d8' : o8.data = .cell none := d8
    have d9' : o9.data = .cell none := d9
    have d10' : o10.data = .cell none := d10
    have d11' : o11.data = .cell none := d11
    have d12' : o12.data = .cell none := d12
    clear d1 d2 d3 d4 d5 d6 d7 d8 d9 d10 d11 d12
    kn_ghosts F T
    rename_i lifted codeHd _ _)
  rename_i ws _ _ _ _ _ _ _ sl vs _ hsl _ _ _ hws _ hwl _ X9 T9 K9 F9 N9 l9
  refine' LawRun.elim (k := 0) ?k7 ?hL ?e7
  case k7 => k_is
  case e7 => rfl
  case hL =>
    refine law_all F9 X9 T9 codeHd l9 sl vs ws lifted hws (by omega) o1 d1' o2 d2' o3 d3' o4 d4' o5 d5' o6 d6' o7 d7' o8 d8' o9 d9' o10 d10' o11 d11' o12 d12' N9 ?_
    intro h' tk' m' FE hgr
    refine ⟨?_, hgr, trivial⟩
    refine goodW_bool FE hg (raisesW_false ?_) ?_
    · wrow_none_raised
    · kc_post)
end Mine
end

theorem PySem.Challenge.cw_uc0025_01_holds : PySem.Challenge.rw_uc0025_01.Holds :=
  Mine.foo
