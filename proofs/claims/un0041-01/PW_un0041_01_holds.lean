import PyProof.Rows.All
import Wide.All
import OpenK.AllK
import Wide.FinOn
import KE.LcSums
import Lean
import PySem.Challenge.RW_un0041_01
set_option linter.all false
set_option compiler.extract_closed false
set_option Elab.async false
set_option maxRecDepth 100000
set_option maxHeartbeats 8000000
open PySem PySem.W PyProof.Rows
namespace Mine
theorem neL_13 {a : Nat} : @Ne Nat (a + 1) (a + 1 + 1 + 1) := Nat.ne_of_lt (Nat.lt_add_of_pos_right (k := 2) (by decide))
theorem neL_23 {a : Nat} : @Ne Nat (a + 1 + 1) (a + 1 + 1 + 1) := Nat.ne_of_lt (Nat.lt_succ_self _)
theorem neL_12 {a : Nat} : @Ne Nat (a + 1) (a + 1 + 1) := Nat.ne_of_lt (Nat.lt_succ_self _)
theorem neL_31 {a : Nat} : @Ne Nat (a + 1 + 1 + 1) (a + 1) := neL_13.symm
theorem neL_32 {a : Nat} : @Ne Nat (a + 1 + 1 + 1) (a + 1 + 1) := neL_23.symm
theorem neL_21 {a : Nat} : @Ne Nat (a + 1 + 1) (a + 1) := neL_12.symm
theorem neL_up {a b : Nat} (h : @Ne Nat a b) : @Ne Nat b a := h.symm
theorem j1 {a1 a2 : Prop} (h : a1 ∧ a2) : a1 := h.1
theorem j2 {a1 a2 a3 : Prop} (h : a1 ∧ a2 ∧ a3) : a2 := h.2.1
theorem j3 {a1 a2 a3 a4 : Prop} (h : a1 ∧ a2 ∧ a3 ∧ a4) : a3 := h.2.2.1
theorem j4 {a1 a2 a3 a4 a5 : Prop} (h : a1 ∧ a2 ∧ a3 ∧ a4 ∧ a5) : a4 := h.2.2.2.1
theorem j5 {a1 a2 a3 a4 a5 a6 : Prop} (h : a1 ∧ a2 ∧ a3 ∧ a4 ∧ a5 ∧ a6) : a5 := h.2.2.2.2.1
theorem j6 {a1 a2 a3 a4 a5 a6 a7 : Prop} (h : a1 ∧ a2 ∧ a3 ∧ a4 ∧ a5 ∧ a6 ∧ a7) : a6 := h.2.2.2.2.2.1
theorem j7 {a1 a2 a3 a4 a5 a6 a7 a8 : Prop} (h : a1 ∧ a2 ∧ a3 ∧ a4 ∧ a5 ∧ a6 ∧ a7 ∧ a8) : a7 := h.2.2.2.2.2.2.1
theorem j8 {a1 a2 a3 a4 a5 a6 a7 a8 a9 : Prop} (h : a1 ∧ a2 ∧ a3 ∧ a4 ∧ a5 ∧ a6 ∧ a7 ∧ a8 ∧ a9) : a8 := h.2.2.2.2.2.2.2.1
theorem j9 {a1 a2 a3 a4 a5 a6 a7 a8 a9 a10 : Prop} (h : a1 ∧ a2 ∧ a3 ∧ a4 ∧ a5 ∧ a6 ∧ a7 ∧ a8 ∧ a9 ∧ a10) : a9 := h.2.2.2.2.2.2.2.2.1
theorem j10 {a1 a2 a3 a4 a5 a6 a7 a8 a9 a10 a11 : Prop} (h : a1 ∧ a2 ∧ a3 ∧ a4 ∧ a5 ∧ a6 ∧ a7 ∧ a8 ∧ a9 ∧ a10 ∧ a11) : a10 := h.2.2.2.2.2.2.2.2.2.1
theorem j11 {a1 a2 a3 a4 a5 a6 a7 a8 a9 a10 a11 a12 : Prop} (h : a1 ∧ a2 ∧ a3 ∧ a4 ∧ a5 ∧ a6 ∧ a7 ∧ a8 ∧ a9 ∧ a10 ∧ a11 ∧ a12) : a11 := h.2.2.2.2.2.2.2.2.2.2.1
theorem j12 {a1 a2 a3 a4 a5 a6 a7 a8 a9 a10 a11 a12 a13 : Prop} (h : a1 ∧ a2 ∧ a3 ∧ a4 ∧ a5 ∧ a6 ∧ a7 ∧ a8 ∧ a9 ∧ a10 ∧ a11 ∧ a12 ∧ a13) : a12 := h.2.2.2.2.2.2.2.2.2.2.2.1
theorem j13 {a1 a2 a3 a4 a5 a6 a7 a8 a9 a10 a11 a12 a13 a14 : Prop} (h : a1 ∧ a2 ∧ a3 ∧ a4 ∧ a5 ∧ a6 ∧ a7 ∧ a8 ∧ a9 ∧ a10 ∧ a11 ∧ a12 ∧ a13 ∧ a14) : a13 := h.2.2.2.2.2.2.2.2.2.2.2.2.1
theorem j14 {a1 a2 a3 a4 a5 a6 a7 a8 a9 a10 a11 a12 a13 a14 a15 : Prop} (h : a1 ∧ a2 ∧ a3 ∧ a4 ∧ a5 ∧ a6 ∧ a7 ∧ a8 ∧ a9 ∧ a10 ∧ a11 ∧ a12 ∧ a13 ∧ a14 ∧ a15) : a14 := h.2.2.2.2.2.2.2.2.2.2.2.2.2.1
theorem j15 {a1 a2 a3 a4 a5 a6 a7 a8 a9 a10 a11 a12 a13 a14 a15 a16 : Prop} (h : a1 ∧ a2 ∧ a3 ∧ a4 ∧ a5 ∧ a6 ∧ a7 ∧ a8 ∧ a9 ∧ a10 ∧ a11 ∧ a12 ∧ a13 ∧ a14 ∧ a15 ∧ a16) : a15 := h.2.2.2.2.2.2.2.2.2.2.2.2.2.2.1
local macro_rules | `(tactic| k_lt $h:ident) => `(tactic| (replace $h := allLt_of $h; dsimp only [AllLt] at $h:ident))
theorem rm0 {d b N : Nat} (h : d + b < N) : d < N := Nat.lt_of_le_of_lt (Nat.le_add_right d b) h
theorem rm1 {d a b N : Nat} (h : d + b < N) (e : a ≤ b) : d + a < N := Nat.lt_of_le_of_lt (Nat.add_le_add_left e d) h
theorem rm2 {d a c b N : Nat} (h : d + b < N) (e : a + c ≤ b) : d + a + c < N := by rw [Nat.add_assoc]; exact rm1 h e
theorem rm3 {d a c f b N : Nat} (h : d + b < N) (e : a + c + f ≤ b) : d + a + c + f < N := by rw [Nat.add_assoc, Nat.add_assoc, ← Nat.add_assoc a]; exact rm1 h e
local macro_rules | `(tactic| k_ne) => `(tactic| k_extra "k_ne")
theorem rulesT : True := by
  k_with_none
  k_with "k_ne" => (refine neN ?_; (try dsimp only); first | exact Nat.ne_of_lt (by with_reducible assumption) | exact Nat.ne_of_gt (by with_reducible assumption) | with_reducible assumption | exact neL_up (by with_reducible assumption) | with_reducible exact neL_13 | with_reducible exact neL_23 | with_reducible exact neL_12 | with_reducible exact neL_31 | with_reducible exact neL_32 | with_reducible exact neL_21 | exact Nat.ne_of_gt (by walk_at "pick") | exact Nat.ne_of_lt (by walk_at "pick") | omega)
  k_with "pick" => first | with_reducible assumption | with_reducible exact j1 (by assumption) | with_reducible exact j2 (by assumption) | with_reducible exact j3 (by assumption) | with_reducible exact j4 (by assumption) | with_reducible exact j5 (by assumption) | with_reducible exact j6 (by assumption) | with_reducible exact j7 (by assumption) | with_reducible exact j8 (by assumption) | with_reducible exact j9 (by assumption) | with_reducible exact j10 (by assumption) | with_reducible exact j11 (by assumption) | with_reducible exact j12 (by assumption) | with_reducible exact j13 (by assumption) | with_reducible exact j14 (by assumption) | with_reducible exact j15 (by assumption)
  k_with "om" => first | walk_at "pick" | with_reducible exact Nat.lt_trans (by assumption) (by walk_at "pick")
  exact True.intro
section
/-- the text's statement i -/
noncomputable def stT (i : Nat) : Stmt := PySem.Challenge.pw_un0041_01.main.body.getD i (.Pass ⟨0, 0, 0, 0⟩)
noncomputable def clsB : Stmt → List Stmt
  | .ClassDef _ _ _ b _ _ _ _ _ _ _ => b
  | _ => []
/-- statement j of the class that statement i lays -/
noncomputable def stC (i j : Nat) : Stmt := (clsB (stT i)).getD j (.Pass ⟨0, 0, 0, 0⟩)
noncomputable def fnO (s : Stmt) (q : Str) (g : Addr) (cl : List (Str × Addr)) (df kd dc pm : Value) (an : Option Addr) (cd ct : Value) (bi : Addr) : FuncData :=
  match s with
  | .FunctionDef n a b _ _ _ sc _ _ _ => ⟨n, q, a, .stmts b, sc, g, cl, df, kd, dc, pm, an, cd, ct, bi⟩
  | _ => default
/-- what the text's top leaves in the heap, as far as the law comes to it -/
noncomputable def hd.heap_39 : Params → Frag := fun P =>
  (nat_lit 2, { cls := Value.none, data := Data.dict #[] }) ::
  (nat_lit 3, { cls := Value.type "dict", data := Data.dict #[{ hash := PyData.keyHash P (Str.ofString "__name__"), key := Value.str (Str.ofString "__name__") (165 : Nat), val := Value.str (Str.ofString "law_un0041_01") (484 : Nat) }, { hash := PyData.keyHash P (Str.ofString "__doc__"), key := Value.str (Str.ofString "__doc__") (166 : Nat), val := Value.none }, { hash := PyData.keyHash P (Str.ofString "__package__"), key := Value.str (Str.ofString "__package__") (167 : Nat), val := Value.none }, { hash := PyData.keyHash P (Str.ofString "__loader__"), key := Value.str (Str.ofString "__loader__") (168 : Nat), val := Value.builtin "__main__.__loader__#opaque" }, { hash := PyData.keyHash P (Str.ofString "__spec__"), key := Value.str (Str.ofString "__spec__") (169 : Nat), val := Value.none }, { hash := PyData.keyHash P (Str.ofString "__annotations__"), key := Value.str (Str.ofString "__annotations__") (170 : Nat), val := Value.ref (6 : Nat) }, { hash := PyData.keyHash P (Str.ofString "__builtins__"), key := Value.str (Str.ofString "__builtins__") (171 : Nat), val := Value.ref (4 : Nat) }, { hash := PyData.keyHash P (Str.ofString "__file__"), key := Value.str (Str.ofString "__file__") (173 : Nat), val := Value.str (Str.ofString "/claim/cut.py") (172 : Nat) }, { hash := PyData.keyHash P (Str.ofString "__cached__"), key := Value.str (Str.ofString "__cached__") (174 : Nat), val := Value.none }, { hash := PyData.keyHash P (Str.ofString "_wall"), key := Value.str (Str.ofString "_wall") (193 : Nat), val := Value.ref (21 : Nat) }, { hash := PyData.keyHash P (Str.ofString "S_IMODE"), key := Value.str (Str.ofString "S_IMODE") (202 : Nat), val := Value.ref (28 : Nat) }, { hash := PyData.keyHash P (Str.ofString "S_IFMT"), key := Value.str (Str.ofString "S_IFMT") (209 : Nat), val := Value.ref (35 : Nat) }, { hash := PyData.keyHash P (Str.ofString "S_IFDIR"), key := Value.str (Str.ofString "S_IFDIR") (211 : Nat), val := Value.int (16384 : Int) (210 : Nat) }, { hash := PyData.keyHash P (Str.ofString "S_IFCHR"), key := Value.str (Str.ofString "S_IFCHR") (213 : Nat), val := Value.int (8192 : Int) (212 : Nat) }, { hash := PyData.keyHash P (Str.ofString "S_IFBLK"), key := Value.str (Str.ofString "S_IFBLK") (215 : Nat), val := Value.int (24576 : Int) (214 : Nat) }, { hash := PyData.keyHash P (Str.ofString "S_IFREG"), key := Value.str (Str.ofString "S_IFREG") (217 : Nat), val := Value.int (32768 : Int) (216 : Nat) }, { hash := PyData.keyHash P (Str.ofString "S_IFIFO"), key := Value.str (Str.ofString "S_IFIFO") (219 : Nat), val := Value.int (4096 : Int) (218 : Nat) }, { hash := PyData.keyHash P (Str.ofString "S_IFLNK"), key := Value.str (Str.ofString "S_IFLNK") (221 : Nat), val := Value.int (40960 : Int) (220 : Nat) }, { hash := PyData.keyHash P (Str.ofString "S_IFSOCK"), key := Value.str (Str.ofString "S_IFSOCK") (223 : Nat), val := Value.int (49152 : Int) (222 : Nat) }, { hash := PyData.keyHash P (Str.ofString "S_ISUID"), key := Value.str (Str.ofString "S_ISUID") (225 : Nat), val := Value.int (2048 : Int) (224 : Nat) }, { hash := PyData.keyHash P (Str.ofString "S_ISGID"), key := Value.str (Str.ofString "S_ISGID") (227 : Nat), val := Value.int (1024 : Int) (226 : Nat) }, { hash := PyData.keyHash P (Str.ofString "S_ISVTX"), key := Value.str (Str.ofString "S_ISVTX") (229 : Nat), val := Value.int (512 : Int) (228 : Nat) }, { hash := PyData.keyHash P (Str.ofString "S_IRUSR"), key := Value.str (Str.ofString "S_IRUSR") (231 : Nat), val := Value.int (256 : Int) (230 : Nat) }, { hash := PyData.keyHash P (Str.ofString "S_IWUSR"), key := Value.str (Str.ofString "S_IWUSR") (233 : Nat), val := Value.int (128 : Int) (232 : Nat) }, { hash := PyData.keyHash P (Str.ofString "S_IXUSR"), key := Value.str (Str.ofString "S_IXUSR") (235 : Nat), val := Value.int (64 : Int) (234 : Nat) }, { hash := PyData.keyHash P (Str.ofString "S_IRGRP"), key := Value.str (Str.ofString "S_IRGRP") (237 : Nat), val := Value.int (32 : Int) (236 : Nat) }, { hash := PyData.keyHash P (Str.ofString "S_IWGRP"), key := Value.str (Str.ofString "S_IWGRP") (239 : Nat), val := Value.int (16 : Int) (238 : Nat) }, { hash := PyData.keyHash P (Str.ofString "S_IXGRP"), key := Value.str (Str.ofString "S_IXGRP") (241 : Nat), val := Value.int (8 : Int) (240 : Nat) }, { hash := PyData.keyHash P (Str.ofString "S_IROTH"), key := Value.str (Str.ofString "S_IROTH") (243 : Nat), val := Value.int (4 : Int) (242 : Nat) }, { hash := PyData.keyHash P (Str.ofString "S_IWOTH"), key := Value.str (Str.ofString "S_IWOTH") (245 : Nat), val := Value.int (2 : Int) (244 : Nat) }, { hash := PyData.keyHash P (Str.ofString "S_IXOTH"), key := Value.str (Str.ofString "S_IXOTH") (247 : Nat), val := Value.int (1 : Int) (246 : Nat) }, { hash := PyData.keyHash P (Str.ofString "_filemode_table"), key := Value.str (Str.ofString "_filemode_table") (273 : Nat), val := Value.ref (68 : Nat) }, { hash := PyData.keyHash P (Str.ofString "filemode"), key := Value.str (Str.ofString "filemode") (285 : Nat), val := Value.ref (75 : Nat) }, { hash := PyData.keyHash P (Str.ofString "_netrclex"), key := Value.str (Str.ofString "_netrclex") (345 : Nat), val := Value.ref (113 : Nat) }, { hash := PyData.keyHash P (Str.ofString "_plain_name"), key := Value.str (Str.ofString "_plain_name") (356 : Nat), val := Value.ref (124 : Nat) }, { hash := PyData.keyHash P (Str.ofString "ABCMeta"), key := Value.str (Str.ofString "ABCMeta") (382 : Nat), val := Value.ref (141 : Nat) }, { hash := PyData.keyHash P (Str.ofString "_ABCLike"), key := Value.str (Str.ofString "_ABCLike") (425 : Nat), val := Value.ref (174 : Nat) }, { hash := PyData.keyHash P (Str.ofString "_abc_plain_meta"), key := Value.str (Str.ofString "_abc_plain_meta") (432 : Nat), val := Value.ref (183 : Nat) }, { hash := PyData.keyHash P (Str.ofString "fspath"), key := Value.str (Str.ofString "fspath") (444 : Nat), val := Value.ref (190 : Nat) }, { hash := PyData.keyHash P (Str.ofString "_check_arg_types"), key := Value.str (Str.ofString "_check_arg_types") (457 : Nat), val := Value.ref (197 : Nat) }, { hash := PyData.keyHash P (Str.ofString "_get_sep"), key := Value.str (Str.ofString "_get_sep") (466 : Nat), val := Value.ref (204 : Nat) }, { hash := PyData.keyHash P (Str.ofString "join"), key := Value.str (Str.ofString "join") (477 : Nat), val := Value.ref (211 : Nat) }, { hash := PyData.keyHash P (Str.ofString "commonpath"), key := Value.str (Str.ofString "commonpath") (483 : Nat), val := Value.ref (216 : Nat) }, { hash := PyData.keyHash P (Str.ofString "_law_lexer"), key := Value.str (Str.ofString "_law_lexer") (495 : Nat), val := Value.ref (223 : Nat) }, { hash := PyData.keyHash P (Str.ofString "_law_mode"), key := Value.str (Str.ofString "_law_mode") (501 : Nat), val := Value.ref (228 : Nat) }, { hash := PyData.keyHash P (Str.ofString "_law_noted"), key := Value.str (Str.ofString "_law_noted") (507 : Nat), val := Value.ref (233 : Nat) }, { hash := PyData.keyHash P (Str.ofString "_law_row"), key := Value.str (Str.ofString "_law_row") (514 : Nat), val := Value.ref (240 : Nat) }, { hash := PyData.keyHash P (Str.ofString "_law_above"), key := Value.str (Str.ofString "_law_above") (520 : Nat), val := Value.ref (245 : Nat) }, { hash := PyData.keyHash P (Str.ofString "law"), key := Value.str (Str.ofString "law") (526 : Nat), val := Value.ref (250 : Nat) }] (49 : Nat) }) ::
  (nat_lit 15, { cls := Value.type "tuple", data := Data.seq #[] }) ::
  (nat_lit 17, { cls := Value.type "tuple", data := Data.seq #[Value.str (Str.ofString "k") (190 : Nat)] }) ::
  (nat_lit 18, { cls := Value.type "tuple", data := Data.seq #[] }) ::
  (nat_lit 20, { cls := Value.type "code", data := Data.fields #[Value.str (Str.ofString "_wall") (187 : Nat), Value.str (Str.ofString "_wall") (188 : Nat), Value.str (Str.ofString "/claim/cut.py") (189 : Nat), Value.int (1 : Int) (0 : Nat), Value.int (1 : Int) (0 : Nat), Value.int (0 : Int) (0 : Nat), Value.int (0 : Int) (0 : Nat), Value.int (3 : Int) (0 : Nat), Value.ref (15 : Nat), Value.bool Bool.true, Value.int (181 : Int) (0 : Nat), Value.ref (16 : Nat), Value.none, Value.ref (17 : Nat), Value.ref (18 : Nat), Value.ref (19 : Nat), Value.int (191 : Int) (0 : Nat), Value.int (1 : Int) (0 : Nat), Value.str (Str.ofString "/claim/cut.py") (192 : Nat)] }) ::
  (nat_lit 21, { cls := Value.type "function", dict := none, data := Data.func (fnO (stT 0) (Str.ofString "_wall") ((3 : Nat)) ([]) (Value.none) (Value.none) (Value.none) (Value.str (Str.ofString "__main__") (164 : Nat)) (none) (Value.ref (20 : Nat)) (Value.none) ((0 : Nat))), slots := #[] }) ::
  (nat_lit 22, { cls := Value.type "tuple", data := Data.seq #[] }) ::
  (nat_lit 24, { cls := Value.type "tuple", data := Data.seq #[Value.str (Str.ofString "mode") (199 : Nat)] }) ::
  (nat_lit 25, { cls := Value.type "tuple", data := Data.seq #[] }) ::
  (nat_lit 27, { cls := Value.type "code", data := Data.fields #[Value.str (Str.ofString "S_IMODE") (196 : Nat), Value.str (Str.ofString "S_IMODE") (197 : Nat), Value.str (Str.ofString "/claim/cut.py") (198 : Nat), Value.int (5 : Int) (0 : Nat), Value.int (1 : Int) (0 : Nat), Value.int (0 : Int) (0 : Nat), Value.int (0 : Int) (0 : Nat), Value.int (3 : Int) (0 : Nat), Value.ref (22 : Nat), Value.bool Bool.true, Value.int (181 : Int) (0 : Nat), Value.ref (23 : Nat), Value.none, Value.ref (24 : Nat), Value.ref (25 : Nat), Value.ref (26 : Nat), Value.int (200 : Int) (0 : Nat), Value.int (5 : Int) (0 : Nat), Value.str (Str.ofString "/claim/cut.py") (201 : Nat)] }) ::
  (nat_lit 28, { cls := Value.type "function", dict := none, data := Data.func (fnO (stT 2) (Str.ofString "S_IMODE") ((3 : Nat)) ([]) (Value.none) (Value.none) (Value.none) (Value.str (Str.ofString "cpy313.stat") (194 : Nat)) (none) (Value.ref (27 : Nat)) (Value.none) ((0 : Nat))), slots := #[] }) ::
  (nat_lit 29, { cls := Value.type "tuple", data := Data.seq #[] }) ::
  (nat_lit 31, { cls := Value.type "tuple", data := Data.seq #[Value.str (Str.ofString "mode") (206 : Nat)] }) ::
  (nat_lit 32, { cls := Value.type "tuple", data := Data.seq #[] }) ::
  (nat_lit 34, { cls := Value.type "code", data := Data.fields #[Value.str (Str.ofString "S_IFMT") (203 : Nat), Value.str (Str.ofString "S_IFMT") (204 : Nat), Value.str (Str.ofString "/claim/cut.py") (205 : Nat), Value.int (7 : Int) (0 : Nat), Value.int (1 : Int) (0 : Nat), Value.int (0 : Int) (0 : Nat), Value.int (0 : Int) (0 : Nat), Value.int (3 : Int) (0 : Nat), Value.ref (29 : Nat), Value.bool Bool.true, Value.int (181 : Int) (0 : Nat), Value.ref (30 : Nat), Value.none, Value.ref (31 : Nat), Value.ref (32 : Nat), Value.ref (33 : Nat), Value.int (207 : Int) (0 : Nat), Value.int (7 : Int) (0 : Nat), Value.str (Str.ofString "/claim/cut.py") (208 : Nat)] }) ::
  (nat_lit 35, { cls := Value.type "function", dict := none, data := Data.func (fnO (stT 3) (Str.ofString "S_IFMT") ((3 : Nat)) ([]) (Value.none) (Value.none) (Value.none) (Value.str (Str.ofString "cpy313.stat") (194 : Nat)) (none) (Value.ref (34 : Nat)) (Value.none) ((0 : Nat))), slots := #[] }) ::
  (nat_lit 36, { cls := Value.type "tuple", data := Data.seq #[Value.int (40960 : Int) (220 : Nat), Value.str (Str.ofString "l") (248 : Nat)] }) ::
  (nat_lit 37, { cls := Value.type "tuple", data := Data.seq #[Value.int (49152 : Int) (222 : Nat), Value.str (Str.ofString "s") (249 : Nat)] }) ::
  (nat_lit 38, { cls := Value.type "tuple", data := Data.seq #[Value.int (32768 : Int) (216 : Nat), Value.str (Str.ofString "-") (250 : Nat)] }) ::
  (nat_lit 39, { cls := Value.type "tuple", data := Data.seq #[Value.int (24576 : Int) (214 : Nat), Value.str (Str.ofString "b") (251 : Nat)] }) ::
  (nat_lit 40, { cls := Value.type "tuple", data := Data.seq #[Value.int (16384 : Int) (210 : Nat), Value.str (Str.ofString "d") (252 : Nat)] }) ::
  (nat_lit 41, { cls := Value.type "tuple", data := Data.seq #[Value.int (8192 : Int) (212 : Nat), Value.str (Str.ofString "c") (253 : Nat)] }) ::
  (nat_lit 42, { cls := Value.type "tuple", data := Data.seq #[Value.int (4096 : Int) (218 : Nat), Value.str (Str.ofString "p") (254 : Nat)] }) ::
  (nat_lit 43, { cls := Value.type "tuple", data := Data.seq #[Value.ref (36 : Nat), Value.ref (37 : Nat), Value.ref (38 : Nat), Value.ref (39 : Nat), Value.ref (40 : Nat), Value.ref (41 : Nat), Value.ref (42 : Nat)] }) ::
  (nat_lit 44, { cls := Value.type "tuple", data := Data.seq #[Value.int (256 : Int) (230 : Nat), Value.str (Str.ofString "r") (255 : Nat)] }) ::
  (nat_lit 45, { cls := Value.type "tuple", data := Data.seq #[Value.ref (44 : Nat)] }) ::
  (nat_lit 46, { cls := Value.type "tuple", data := Data.seq #[Value.int (128 : Int) (232 : Nat), Value.str (Str.ofString "w") (256 : Nat)] }) ::
  (nat_lit 47, { cls := Value.type "tuple", data := Data.seq #[Value.ref (46 : Nat)] }) ::
  (nat_lit 48, { cls := Value.type "tuple", data := Data.seq #[Value.int (2112 : Int) (257 : Nat), Value.str (Str.ofString "s") (258 : Nat)] }) ::
  (nat_lit 49, { cls := Value.type "tuple", data := Data.seq #[Value.int (2048 : Int) (224 : Nat), Value.str (Str.ofString "S") (259 : Nat)] }) ::
  (nat_lit 50, { cls := Value.type "tuple", data := Data.seq #[Value.int (64 : Int) (234 : Nat), Value.str (Str.ofString "x") (260 : Nat)] }) ::
  (nat_lit 51, { cls := Value.type "tuple", data := Data.seq #[Value.ref (48 : Nat), Value.ref (49 : Nat), Value.ref (50 : Nat)] }) ::
  (nat_lit 52, { cls := Value.type "tuple", data := Data.seq #[Value.int (32 : Int) (236 : Nat), Value.str (Str.ofString "r") (261 : Nat)] }) ::
  (nat_lit 53, { cls := Value.type "tuple", data := Data.seq #[Value.ref (52 : Nat)] }) ::
  (nat_lit 54, { cls := Value.type "tuple", data := Data.seq #[Value.int (16 : Int) (238 : Nat), Value.str (Str.ofString "w") (262 : Nat)] }) ::
  (nat_lit 55, { cls := Value.type "tuple", data := Data.seq #[Value.ref (54 : Nat)] }) ::
  (nat_lit 56, { cls := Value.type "tuple", data := Data.seq #[Value.int (1032 : Int) (263 : Nat), Value.str (Str.ofString "s") (264 : Nat)] }) ::
  (nat_lit 57, { cls := Value.type "tuple", data := Data.seq #[Value.int (1024 : Int) (226 : Nat), Value.str (Str.ofString "S") (265 : Nat)] }) ::
  (nat_lit 58, { cls := Value.type "tuple", data := Data.seq #[Value.int (8 : Int) (240 : Nat), Value.str (Str.ofString "x") (266 : Nat)] }) ::
  (nat_lit 59, { cls := Value.type "tuple", data := Data.seq #[Value.ref (56 : Nat), Value.ref (57 : Nat), Value.ref (58 : Nat)] }) ::
  (nat_lit 60, { cls := Value.type "tuple", data := Data.seq #[Value.int (4 : Int) (242 : Nat), Value.str (Str.ofString "r") (267 : Nat)] }) ::
  (nat_lit 61, { cls := Value.type "tuple", data := Data.seq #[Value.ref (60 : Nat)] }) ::
  (nat_lit 62, { cls := Value.type "tuple", data := Data.seq #[Value.int (2 : Int) (244 : Nat), Value.str (Str.ofString "w") (268 : Nat)] }) ::
  (nat_lit 63, { cls := Value.type "tuple", data := Data.seq #[Value.ref (62 : Nat)] }) ::
  (nat_lit 64, { cls := Value.type "tuple", data := Data.seq #[Value.int (513 : Int) (269 : Nat), Value.str (Str.ofString "t") (270 : Nat)] }) ::
  (nat_lit 65, { cls := Value.type "tuple", data := Data.seq #[Value.int (512 : Int) (228 : Nat), Value.str (Str.ofString "T") (271 : Nat)] }) ::
  (nat_lit 66, { cls := Value.type "tuple", data := Data.seq #[Value.int (1 : Int) (246 : Nat), Value.str (Str.ofString "x") (272 : Nat)] }) ::
  (nat_lit 67, { cls := Value.type "tuple", data := Data.seq #[Value.ref (64 : Nat), Value.ref (65 : Nat), Value.ref (66 : Nat)] }) ::
  (nat_lit 68, { cls := Value.type "tuple", data := Data.seq #[Value.ref (43 : Nat), Value.ref (45 : Nat), Value.ref (47 : Nat), Value.ref (51 : Nat), Value.ref (53 : Nat), Value.ref (55 : Nat), Value.ref (59 : Nat), Value.ref (61 : Nat), Value.ref (63 : Nat), Value.ref (67 : Nat)] }) ::
  (nat_lit 69, { cls := Value.type "tuple", data := Data.seq #[] }) ::
  (nat_lit 71, { cls := Value.type "tuple", data := Data.seq #[Value.str (Str.ofString "mode") (277 : Nat), Value.str (Str.ofString "perm") (278 : Nat), Value.str (Str.ofString "index") (279 : Nat), Value.str (Str.ofString "table") (280 : Nat), Value.str (Str.ofString "bit") (281 : Nat), Value.str (Str.ofString "char") (282 : Nat)] }) ::
  (nat_lit 72, { cls := Value.type "tuple", data := Data.seq #[] }) ::
  (nat_lit 74, { cls := Value.type "code", data := Data.fields #[Value.str (Str.ofString "filemode") (274 : Nat), Value.str (Str.ofString "filemode") (275 : Nat), Value.str (Str.ofString "/claim/cut.py") (276 : Nat), Value.int (29 : Int) (0 : Nat), Value.int (1 : Int) (0 : Nat), Value.int (0 : Int) (0 : Nat), Value.int (0 : Int) (0 : Nat), Value.int (3 : Int) (0 : Nat), Value.ref (69 : Nat), Value.bool Bool.true, Value.int (181 : Int) (0 : Nat), Value.ref (70 : Nat), Value.none, Value.ref (71 : Nat), Value.ref (72 : Nat), Value.ref (73 : Nat), Value.int (283 : Int) (0 : Nat), Value.int (29 : Int) (0 : Nat), Value.str (Str.ofString "/claim/cut.py") (284 : Nat)] }) ::
  (nat_lit 75, { cls := Value.type "function", dict := none, data := Data.func (fnO (stT 24) (Str.ofString "filemode") ((3 : Nat)) ([]) (Value.none) (Value.none) (Value.none) (Value.str (Str.ofString "cpy313.stat") (194 : Nat)) (none) (Value.ref (74 : Nat)) (Value.none) ((0 : Nat))), slots := #[] }) ::
  (nat_lit 83, { cls := Value.type "tuple", data := Data.seq #[] }) ::
  (nat_lit 85, { cls := Value.type "tuple", data := Data.seq #[Value.str (Str.ofString "self") (303 : Nat), Value.str (Str.ofString "fp") (304 : Nat)] }) ::
  (nat_lit 86, { cls := Value.type "tuple", data := Data.seq #[] }) ::
  (nat_lit 88, { cls := Value.type "code", data := Data.fields #[Value.str (Str.ofString "__init__") (300 : Nat), Value.str (Str.ofString "_netrclex.__init__") (301 : Nat), Value.str (Str.ofString "/claim/cut.py") (302 : Nat), Value.int (49 : Int) (0 : Nat), Value.int (2 : Int) (0 : Nat), Value.int (0 : Int) (0 : Nat), Value.int (0 : Int) (0 : Nat), Value.int (3 : Int) (0 : Nat), Value.ref (83 : Nat), Value.bool Bool.true, Value.int (181 : Int) (0 : Nat), Value.ref (84 : Nat), Value.none, Value.ref (85 : Nat), Value.ref (86 : Nat), Value.ref (87 : Nat), Value.int (305 : Int) (0 : Nat), Value.int (49 : Int) (0 : Nat), Value.str (Str.ofString "/claim/cut.py") (306 : Nat)] }) ::
  (nat_lit 89, { cls := Value.type "function", dict := none, data := Data.func (fnO (stC 26 0) (Str.ofString "_netrclex.__init__") ((3 : Nat)) ([]) (Value.none) (Value.none) (Value.none) (Value.str (Str.ofString "cpy313.netrc") (286 : Nat)) (none) (Value.ref (88 : Nat)) (Value.none) ((0 : Nat))), slots := #[] }) ::
  (nat_lit 90, { cls := Value.type "tuple", data := Data.seq #[] }) ::
  (nat_lit 92, { cls := Value.type "tuple", data := Data.seq #[Value.str (Str.ofString "self") (311 : Nat), Value.str (Str.ofString "ch") (312 : Nat)] }) ::
  (nat_lit 93, { cls := Value.type "tuple", data := Data.seq #[] }) ::
  (nat_lit 95, { cls := Value.type "code", data := Data.fields #[Value.str (Str.ofString "_read_char") (308 : Nat), Value.str (Str.ofString "_netrclex._read_char") (309 : Nat), Value.str (Str.ofString "/claim/cut.py") (310 : Nat), Value.int (55 : Int) (0 : Nat), Value.int (1 : Int) (0 : Nat), Value.int (0 : Int) (0 : Nat), Value.int (0 : Int) (0 : Nat), Value.int (3 : Int) (0 : Nat), Value.ref (90 : Nat), Value.bool Bool.true, Value.int (181 : Int) (0 : Nat), Value.ref (91 : Nat), Value.none, Value.ref (92 : Nat), Value.ref (93 : Nat), Value.ref (94 : Nat), Value.int (313 : Int) (0 : Nat), Value.int (55 : Int) (0 : Nat), Value.str (Str.ofString "/claim/cut.py") (314 : Nat)] }) ::
  (nat_lit 96, { cls := Value.type "function", dict := none, data := Data.func (fnO (stC 26 1) (Str.ofString "_netrclex._read_char") ((3 : Nat)) ([]) (Value.none) (Value.none) (Value.none) (Value.str (Str.ofString "cpy313.netrc") (286 : Nat)) (none) (Value.ref (95 : Nat)) (Value.none) ((0 : Nat))), slots := #[] }) ::
  (nat_lit 97, { cls := Value.type "tuple", data := Data.seq #[] }) ::
  (nat_lit 99, { cls := Value.type "tuple", data := Data.seq #[Value.str (Str.ofString "self") (319 : Nat), Value.str (Str.ofString "token") (320 : Nat), Value.str (Str.ofString "fiter") (321 : Nat), Value.str (Str.ofString "ch") (322 : Nat)] }) ::
  (nat_lit 100, { cls := Value.type "tuple", data := Data.seq #[] }) ::
  (nat_lit 102, { cls := Value.type "code", data := Data.fields #[Value.str (Str.ofString "get_token") (316 : Nat), Value.str (Str.ofString "_netrclex.get_token") (317 : Nat), Value.str (Str.ofString "/claim/cut.py") (318 : Nat), Value.int (61 : Int) (0 : Nat), Value.int (1 : Int) (0 : Nat), Value.int (0 : Int) (0 : Nat), Value.int (0 : Int) (0 : Nat), Value.int (3 : Int) (0 : Nat), Value.ref (97 : Nat), Value.bool Bool.true, Value.int (181 : Int) (0 : Nat), Value.ref (98 : Nat), Value.none, Value.ref (99 : Nat), Value.ref (100 : Nat), Value.ref (101 : Nat), Value.int (323 : Int) (0 : Nat), Value.int (61 : Int) (0 : Nat), Value.str (Str.ofString "/claim/cut.py") (324 : Nat)] }) ::
  (nat_lit 103, { cls := Value.type "function", dict := none, data := Data.func (fnO (stC 26 2) (Str.ofString "_netrclex.get_token") ((3 : Nat)) ([]) (Value.none) (Value.none) (Value.none) (Value.str (Str.ofString "cpy313.netrc") (286 : Nat)) (none) (Value.ref (102 : Nat)) (Value.none) ((0 : Nat))), slots := #[] }) ::
  (nat_lit 104, { cls := Value.type "tuple", data := Data.seq #[] }) ::
  (nat_lit 106, { cls := Value.type "tuple", data := Data.seq #[Value.str (Str.ofString "self") (329 : Nat), Value.str (Str.ofString "token") (330 : Nat)] }) ::
  (nat_lit 107, { cls := Value.type "tuple", data := Data.seq #[] }) ::
  (nat_lit 109, { cls := Value.type "code", data := Data.fields #[Value.str (Str.ofString "push_token") (326 : Nat), Value.str (Str.ofString "_netrclex.push_token") (327 : Nat), Value.str (Str.ofString "/claim/cut.py") (328 : Nat), Value.int (88 : Int) (0 : Nat), Value.int (2 : Int) (0 : Nat), Value.int (0 : Int) (0 : Nat), Value.int (0 : Int) (0 : Nat), Value.int (3 : Int) (0 : Nat), Value.ref (104 : Nat), Value.bool Bool.true, Value.int (181 : Int) (0 : Nat), Value.ref (105 : Nat), Value.none, Value.ref (106 : Nat), Value.ref (107 : Nat), Value.ref (108 : Nat), Value.int (331 : Int) (0 : Nat), Value.int (88 : Int) (0 : Nat), Value.str (Str.ofString "/claim/cut.py") (332 : Nat)] }) ::
  (nat_lit 110, { cls := Value.type "function", dict := none, data := Data.func (fnO (stC 26 3) (Str.ofString "_netrclex.push_token") ((3 : Nat)) ([]) (Value.none) (Value.none) (Value.none) (Value.str (Str.ofString "cpy313.netrc") (286 : Nat)) (none) (Value.ref (109 : Nat)) (Value.none) ((0 : Nat))), slots := #[] }) ::
  (nat_lit 111, { cls := Value.type "tuple", data := Data.seq #[Value.str (Str.ofString "instream") (334 : Nat), Value.str (Str.ofString "lineno") (335 : Nat), Value.str (Str.ofString "pushback") (336 : Nat), Value.str (Str.ofString "whitespace") (337 : Nat)] }) ::
  (nat_lit 112, { cls := Value.type "dict", data := Data.dict #[{ hash := PyData.keyHash P (Str.ofString "__module__"), key := Value.str (Str.ofString "__module__") (295 : Nat), val := Value.str (Str.ofString "cpy313.netrc") (286 : Nat) }, { hash := PyData.keyHash P (Str.ofString "__firstlineno__"), key := Value.str (Str.ofString "__firstlineno__") (299 : Nat), val := Value.int (47 : Int) (298 : Nat) }, { hash := PyData.keyHash P (Str.ofString "__init__"), key := Value.str (Str.ofString "__init__") (307 : Nat), val := Value.ref (89 : Nat) }, { hash := PyData.keyHash P (Str.ofString "_read_char"), key := Value.str (Str.ofString "_read_char") (315 : Nat), val := Value.ref (96 : Nat) }, { hash := PyData.keyHash P (Str.ofString "get_token"), key := Value.str (Str.ofString "get_token") (325 : Nat), val := Value.ref (103 : Nat) }, { hash := PyData.keyHash P (Str.ofString "push_token"), key := Value.str (Str.ofString "push_token") (333 : Nat), val := Value.ref (110 : Nat) }, { hash := PyData.keyHash P (Str.ofString "__static_attributes__"), key := Value.str (Str.ofString "__static_attributes__") (338 : Nat), val := Value.ref (111 : Nat) }, { hash := PyData.keyHash P (Str.ofString "__dict__"), key := Value.str (Str.ofString "__dict__") (340 : Nat), val := Value.ref (114 : Nat) }, { hash := PyData.keyHash P (Str.ofString "__weakref__"), key := Value.str (Str.ofString "__weakref__") (342 : Nat), val := Value.ref (115 : Nat) }, { hash := PyData.keyHash P (Str.ofString "__doc__"), key := Value.str (Str.ofString "__doc__") (343 : Nat), val := Value.none }] (4 : Nat) }) ::
  (nat_lit 113, { cls := Value.type "type", data := Data.cls { name := Str.ofString "_netrclex", bases := [Value.type "object"], mro := [Value.ref (113 : Nat), Value.type "object"], ns := (112 : Nat), qualname := Str.ofString "_netrclex" }, slots := #[none, none, some (Value.str (Str.ofString "_netrclex") (288 : Nat)), some (Value.str (Str.ofString "_netrclex") (296 : Nat)), some (Value.builtin "object.__new__"), some (Value.bool Bool.true)] }) ::
  (nat_lit 114, { cls := Value.type "getset_descriptor", data := Data.fields #[Value.str (Str.ofString "__dict__") (339 : Nat), Value.ref (113 : Nat), Value.builtin "function.__dict__", Value.builtin "function.__dict__#set"] }) ::
  (nat_lit 115, { cls := Value.type "getset_descriptor", data := Data.fields #[Value.str (Str.ofString "__weakref__") (341 : Nat), Value.ref (113 : Nat), Value.builtin "ExceptionGroup.__weakref__", Value.none] }) ::
  (nat_lit 118, { cls := Value.type "tuple", data := Data.seq #[] }) ::
  (nat_lit 120, { cls := Value.type "tuple", data := Data.seq #[Value.str (Str.ofString "x") (351 : Nat), Value.str (Str.ofString "what") (352 : Nat), Value.str (Str.ofString "kind") (353 : Nat)] }) ::
  (nat_lit 121, { cls := Value.type "tuple", data := Data.seq #[] }) ::
  (nat_lit 123, { cls := Value.type "code", data := Data.fields #[Value.str (Str.ofString "_plain_name") (348 : Nat), Value.str (Str.ofString "_plain_name") (349 : Nat), Value.str (Str.ofString "/claim/cut.py") (350 : Nat), Value.int (91 : Int) (0 : Nat), Value.int (2 : Int) (0 : Nat), Value.int (0 : Int) (0 : Nat), Value.int (0 : Int) (0 : Nat), Value.int (3 : Int) (0 : Nat), Value.ref (118 : Nat), Value.bool Bool.true, Value.int (181 : Int) (0 : Nat), Value.ref (119 : Nat), Value.none, Value.ref (120 : Nat), Value.ref (121 : Nat), Value.ref (122 : Nat), Value.int (354 : Int) (0 : Nat), Value.int (91 : Int) (0 : Nat), Value.str (Str.ofString "/claim/cut.py") (355 : Nat)] }) ::
  (nat_lit 124, { cls := Value.type "function", dict := none, data := Data.func (fnO (stT 28) (Str.ofString "_plain_name") ((3 : Nat)) ([]) (Value.none) (Value.none) (Value.none) (Value.str (Str.ofString "os") (346 : Nat)) (none) (Value.ref (123 : Nat)) (Value.none) ((0 : Nat))), slots := #[] }) ::
  (nat_lit 125, { cls := Value.type "tuple", data := Data.seq #[Value.type "type"] }) ::
  (nat_lit 132, { cls := Value.type "tuple", data := Data.seq #[] }) ::
  (nat_lit 134, { cls := Value.type "tuple", data := Data.seq #[Value.str (Str.ofString "cls") (374 : Nat), Value.str (Str.ofString "subclass") (375 : Nat)] }) ::
  (nat_lit 135, { cls := Value.type "tuple", data := Data.seq #[] }) ::
  (nat_lit 137, { cls := Value.type "code", data := Data.fields #[Value.str (Str.ofString "register") (371 : Nat), Value.str (Str.ofString "ABCMeta.register") (372 : Nat), Value.str (Str.ofString "/claim/cut.py") (373 : Nat), Value.int (99 : Int) (0 : Nat), Value.int (2 : Int) (0 : Nat), Value.int (0 : Int) (0 : Nat), Value.int (0 : Int) (0 : Nat), Value.int (3 : Int) (0 : Nat), Value.ref (132 : Nat), Value.bool Bool.true, Value.int (181 : Int) (0 : Nat), Value.ref (133 : Nat), Value.none, Value.ref (134 : Nat), Value.ref (135 : Nat), Value.ref (136 : Nat), Value.int (376 : Int) (0 : Nat), Value.int (99 : Int) (0 : Nat), Value.str (Str.ofString "/claim/cut.py") (377 : Nat)] }) ::
  (nat_lit 138, { cls := Value.type "function", dict := none, data := Data.func (fnO (stC 30 0) (Str.ofString "ABCMeta.register") ((3 : Nat)) ([]) (Value.none) (Value.none) (Value.none) (Value.str (Str.ofString "abc") (357 : Nat)) (none) (Value.ref (137 : Nat)) (Value.none) ((0 : Nat))), slots := #[] }) ::
  (nat_lit 139, { cls := Value.type "tuple", data := Data.seq #[] }) ::
  (nat_lit 140, { cls := Value.type "dict", data := Data.dict #[{ hash := PyData.keyHash P (Str.ofString "__module__"), key := Value.str (Str.ofString "__module__") (366 : Nat), val := Value.str (Str.ofString "abc") (357 : Nat) }, { hash := PyData.keyHash P (Str.ofString "__firstlineno__"), key := Value.str (Str.ofString "__firstlineno__") (370 : Nat), val := Value.int (97 : Int) (369 : Nat) }, { hash := PyData.keyHash P (Str.ofString "register"), key := Value.str (Str.ofString "register") (378 : Nat), val := Value.ref (138 : Nat) }, { hash := PyData.keyHash P (Str.ofString "__static_attributes__"), key := Value.str (Str.ofString "__static_attributes__") (379 : Nat), val := Value.ref (139 : Nat) }, { hash := PyData.keyHash P (Str.ofString "__doc__"), key := Value.str (Str.ofString "__doc__") (380 : Nat), val := Value.none }] (2 : Nat) }) ::
  (nat_lit 141, { cls := Value.type "type", data := Data.cls { name := Str.ofString "ABCMeta", bases := [Value.type "type"], mro := [Value.ref (141 : Nat), Value.type "type", Value.type "object"], ns := (140 : Nat), qualname := Str.ofString "ABCMeta", subclasses := [Value.ref (174 : Nat)] }, slots := #[some (Value.ref (125 : Nat)), none, some (Value.str (Str.ofString "ABCMeta") (359 : Nat)), some (Value.str (Str.ofString "ABCMeta") (367 : Nat)), some (Value.builtin "type.__new__"), some (Value.bool Bool.true)] }) ::
  (nat_lit 144, { cls := Value.type "tuple", data := Data.seq #[Value.ref (141 : Nat)] }) ::
  (nat_lit 151, { cls := Value.type "tuple", data := Data.seq #[] }) ::
  (nat_lit 153, { cls := Value.type "tuple", data := Data.seq #[Value.str (Str.ofString "cls") (400 : Nat), Value.str (Str.ofString "instance") (401 : Nat), Value.str (Str.ofString "C") (402 : Nat)] }) ::
  (nat_lit 154, { cls := Value.type "tuple", data := Data.seq #[] }) ::
  (nat_lit 156, { cls := Value.type "code", data := Data.fields #[Value.str (Str.ofString "__instancecheck__") (397 : Nat), Value.str (Str.ofString "_ABCLike.__instancecheck__") (398 : Nat), Value.str (Str.ofString "/claim/cut.py") (399 : Nat), Value.int (104 : Int) (0 : Nat), Value.int (2 : Int) (0 : Nat), Value.int (0 : Int) (0 : Nat), Value.int (0 : Int) (0 : Nat), Value.int (3 : Int) (0 : Nat), Value.ref (151 : Nat), Value.bool Bool.true, Value.int (181 : Int) (0 : Nat), Value.ref (152 : Nat), Value.none, Value.ref (153 : Nat), Value.ref (154 : Nat), Value.ref (155 : Nat), Value.int (403 : Int) (0 : Nat), Value.int (104 : Int) (0 : Nat), Value.str (Str.ofString "/claim/cut.py") (404 : Nat)] }) ::
  (nat_lit 157, { cls := Value.type "function", dict := none, data := Data.func (fnO (stC 32 0) (Str.ofString "_ABCLike.__instancecheck__") ((3 : Nat)) ([]) (Value.none) (Value.none) (Value.none) (Value.str (Str.ofString "collections.abc") (383 : Nat)) (none) (Value.ref (156 : Nat)) (Value.none) ((0 : Nat))), slots := #[] }) ::
  (nat_lit 158, { cls := Value.type "tuple", data := Data.seq #[] }) ::
  (nat_lit 160, { cls := Value.type "tuple", data := Data.seq #[Value.str (Str.ofString "cls") (409 : Nat), Value.str (Str.ofString "C") (410 : Nat)] }) ::
  (nat_lit 161, { cls := Value.type "tuple", data := Data.seq #[] }) ::
  (nat_lit 163, { cls := Value.type "code", data := Data.fields #[Value.str (Str.ofString "__subclasscheck__") (406 : Nat), Value.str (Str.ofString "_ABCLike.__subclasscheck__") (407 : Nat), Value.str (Str.ofString "/claim/cut.py") (408 : Nat), Value.int (110 : Int) (0 : Nat), Value.int (2 : Int) (0 : Nat), Value.int (0 : Int) (0 : Nat), Value.int (0 : Int) (0 : Nat), Value.int (3 : Int) (0 : Nat), Value.ref (158 : Nat), Value.bool Bool.true, Value.int (181 : Int) (0 : Nat), Value.ref (159 : Nat), Value.none, Value.ref (160 : Nat), Value.ref (161 : Nat), Value.ref (162 : Nat), Value.int (411 : Int) (0 : Nat), Value.int (110 : Int) (0 : Nat), Value.str (Str.ofString "/claim/cut.py") (412 : Nat)] }) ::
  (nat_lit 164, { cls := Value.type "function", dict := none, data := Data.func (fnO (stC 32 1) (Str.ofString "_ABCLike.__subclasscheck__") ((3 : Nat)) ([]) (Value.none) (Value.none) (Value.none) (Value.str (Str.ofString "collections.abc") (383 : Nat)) (none) (Value.ref (163 : Nat)) (Value.none) ((0 : Nat))), slots := #[] }) ::
  (nat_lit 165, { cls := Value.type "tuple", data := Data.seq #[] }) ::
  (nat_lit 167, { cls := Value.type "tuple", data := Data.seq #[Value.str (Str.ofString "cls") (417 : Nat), Value.str (Str.ofString "subclass") (418 : Nat)] }) ::
  (nat_lit 168, { cls := Value.type "tuple", data := Data.seq #[] }) ::
  (nat_lit 170, { cls := Value.type "code", data := Data.fields #[Value.str (Str.ofString "register") (414 : Nat), Value.str (Str.ofString "_ABCLike.register") (415 : Nat), Value.str (Str.ofString "/claim/cut.py") (416 : Nat), Value.int (115 : Int) (0 : Nat), Value.int (2 : Int) (0 : Nat), Value.int (0 : Int) (0 : Nat), Value.int (0 : Int) (0 : Nat), Value.int (3 : Int) (0 : Nat), Value.ref (165 : Nat), Value.bool Bool.true, Value.int (181 : Int) (0 : Nat), Value.ref (166 : Nat), Value.none, Value.ref (167 : Nat), Value.ref (168 : Nat), Value.ref (169 : Nat), Value.int (419 : Int) (0 : Nat), Value.int (115 : Int) (0 : Nat), Value.str (Str.ofString "/claim/cut.py") (420 : Nat)] }) ::
  (nat_lit 171, { cls := Value.type "function", dict := none, data := Data.func (fnO (stC 32 2) (Str.ofString "_ABCLike.register") ((3 : Nat)) ([]) (Value.none) (Value.none) (Value.none) (Value.str (Str.ofString "collections.abc") (383 : Nat)) (none) (Value.ref (170 : Nat)) (Value.none) ((0 : Nat))), slots := #[] }) ::
  (nat_lit 172, { cls := Value.type "tuple", data := Data.seq #[] }) ::
  (nat_lit 173, { cls := Value.type "dict", data := Data.dict #[{ hash := PyData.keyHash P (Str.ofString "__module__"), key := Value.str (Str.ofString "__module__") (392 : Nat), val := Value.str (Str.ofString "collections.abc") (383 : Nat) }, { hash := PyData.keyHash P (Str.ofString "__firstlineno__"), key := Value.str (Str.ofString "__firstlineno__") (396 : Nat), val := Value.int (102 : Int) (395 : Nat) }, { hash := PyData.keyHash P (Str.ofString "__instancecheck__"), key := Value.str (Str.ofString "__instancecheck__") (405 : Nat), val := Value.ref (157 : Nat) }, { hash := PyData.keyHash P (Str.ofString "__subclasscheck__"), key := Value.str (Str.ofString "__subclasscheck__") (413 : Nat), val := Value.ref (164 : Nat) }, { hash := PyData.keyHash P (Str.ofString "register"), key := Value.str (Str.ofString "register") (421 : Nat), val := Value.ref (171 : Nat) }, { hash := PyData.keyHash P (Str.ofString "__static_attributes__"), key := Value.str (Str.ofString "__static_attributes__") (422 : Nat), val := Value.ref (172 : Nat) }, { hash := PyData.keyHash P (Str.ofString "__doc__"), key := Value.str (Str.ofString "__doc__") (423 : Nat), val := Value.none }] (2 : Nat) }) ::
  (nat_lit 174, { cls := Value.type "type", data := Data.cls { name := Str.ofString "_ABCLike", bases := [Value.ref (141 : Nat)], mro := [Value.ref (174 : Nat), Value.ref (141 : Nat), Value.type "type", Value.type "object"], ns := (173 : Nat), qualname := Str.ofString "_ABCLike" }, slots := #[some (Value.ref (144 : Nat)), none, some (Value.str (Str.ofString "_ABCLike") (385 : Nat)), some (Value.str (Str.ofString "_ABCLike") (393 : Nat)), some (Value.builtin "type.__new__"), some (Value.bool Bool.true)] }) ::
  (nat_lit 177, { cls := Value.type "tuple", data := Data.seq #[] }) ::
  (nat_lit 179, { cls := Value.type "tuple", data := Data.seq #[Value.str (Str.ofString "C") (429 : Nat)] }) ::
  (nat_lit 180, { cls := Value.type "tuple", data := Data.seq #[] }) ::
  (nat_lit 182, { cls := Value.type "code", data := Data.fields #[Value.str (Str.ofString "_abc_plain_meta") (426 : Nat), Value.str (Str.ofString "_abc_plain_meta") (427 : Nat), Value.str (Str.ofString "/claim/cut.py") (428 : Nat), Value.int (117 : Int) (0 : Nat), Value.int (1 : Int) (0 : Nat), Value.int (0 : Int) (0 : Nat), Value.int (0 : Int) (0 : Nat), Value.int (3 : Int) (0 : Nat), Value.ref (177 : Nat), Value.bool Bool.true, Value.int (181 : Int) (0 : Nat), Value.ref (178 : Nat), Value.none, Value.ref (179 : Nat), Value.ref (180 : Nat), Value.ref (181 : Nat), Value.int (430 : Int) (0 : Nat), Value.int (117 : Int) (0 : Nat), Value.str (Str.ofString "/claim/cut.py") (431 : Nat)] }) ::
  (nat_lit 183, { cls := Value.type "function", dict := none, data := Data.func (fnO (stT 33) (Str.ofString "_abc_plain_meta") ((3 : Nat)) ([]) (Value.none) (Value.none) (Value.none) (Value.str (Str.ofString "collections.abc") (383 : Nat)) (none) (Value.ref (182 : Nat)) (Value.none) ((0 : Nat))), slots := #[] }) ::
  (nat_lit 184, { cls := Value.type "tuple", data := Data.seq #[] }) ::
  (nat_lit 186, { cls := Value.type "tuple", data := Data.seq #[Value.str (Str.ofString "path") (438 : Nat), Value.str (Str.ofString "kind") (439 : Nat), Value.str (Str.ofString "hook") (440 : Nat), Value.str (Str.ofString "given") (441 : Nat)] }) ::
  (nat_lit 187, { cls := Value.type "tuple", data := Data.seq #[] }) ::
  (nat_lit 189, { cls := Value.type "code", data := Data.fields #[Value.str (Str.ofString "fspath") (435 : Nat), Value.str (Str.ofString "fspath") (436 : Nat), Value.str (Str.ofString "/claim/cut.py") (437 : Nat), Value.int (121 : Int) (0 : Nat), Value.int (1 : Int) (0 : Nat), Value.int (0 : Int) (0 : Nat), Value.int (0 : Int) (0 : Nat), Value.int (3 : Int) (0 : Nat), Value.ref (184 : Nat), Value.bool Bool.true, Value.int (181 : Int) (0 : Nat), Value.ref (185 : Nat), Value.none, Value.ref (186 : Nat), Value.ref (187 : Nat), Value.ref (188 : Nat), Value.int (442 : Int) (0 : Nat), Value.int (121 : Int) (0 : Nat), Value.str (Str.ofString "/claim/cut.py") (443 : Nat)] }) ::
  (nat_lit 190, { cls := Value.type "function", dict := none, data := Data.func (fnO (stT 35) (Str.ofString "fspath") ((3 : Nat)) ([]) (Value.none) (Value.none) (Value.none) (Value.str (Str.ofString "os") (433 : Nat)) (none) (Value.ref (189 : Nat)) (Value.none) ((0 : Nat))), slots := #[] }) ::
  (nat_lit 191, { cls := Value.type "tuple", data := Data.seq #[] }) ::
  (nat_lit 193, { cls := Value.type "tuple", data := Data.seq #[Value.str (Str.ofString "funcname") (450 : Nat), Value.str (Str.ofString "args") (451 : Nat), Value.str (Str.ofString "hasstr") (452 : Nat), Value.str (Str.ofString "hasbytes") (453 : Nat), Value.str (Str.ofString "s") (454 : Nat)] }) ::
  (nat_lit 194, { cls := Value.type "tuple", data := Data.seq #[] }) ::
  (nat_lit 196, { cls := Value.type "code", data := Data.fields #[Value.str (Str.ofString "_check_arg_types") (447 : Nat), Value.str (Str.ofString "_check_arg_types") (448 : Nat), Value.str (Str.ofString "/claim/cut.py") (449 : Nat), Value.int (138 : Int) (0 : Nat), Value.int (1 : Int) (0 : Nat), Value.int (0 : Int) (0 : Nat), Value.int (0 : Int) (0 : Nat), Value.int (7 : Int) (0 : Nat), Value.ref (191 : Nat), Value.bool Bool.true, Value.int (181 : Int) (0 : Nat), Value.ref (192 : Nat), Value.none, Value.ref (193 : Nat), Value.ref (194 : Nat), Value.ref (195 : Nat), Value.int (455 : Int) (0 : Nat), Value.int (138 : Int) (0 : Nat), Value.str (Str.ofString "/claim/cut.py") (456 : Nat)] }) ::
  (nat_lit 197, { cls := Value.type "function", dict := none, data := Data.func (fnO (stT 37) (Str.ofString "_check_arg_types") ((3 : Nat)) ([]) (Value.none) (Value.none) (Value.none) (Value.str (Str.ofString "cpy313.genericpath") (445 : Nat)) (none) (Value.ref (196 : Nat)) (Value.none) ((0 : Nat))), slots := #[] }) ::
  (nat_lit 198, { cls := Value.type "tuple", data := Data.seq #[] }) ::
  (nat_lit 200, { cls := Value.type "tuple", data := Data.seq #[Value.str (Str.ofString "path") (463 : Nat)] }) ::
  (nat_lit 201, { cls := Value.type "tuple", data := Data.seq #[] }) ::
  (nat_lit 203, { cls := Value.type "code", data := Data.fields #[Value.str (Str.ofString "_get_sep") (460 : Nat), Value.str (Str.ofString "_get_sep") (461 : Nat), Value.str (Str.ofString "/claim/cut.py") (462 : Nat), Value.int (150 : Int) (0 : Nat), Value.int (1 : Int) (0 : Nat), Value.int (0 : Int) (0 : Nat), Value.int (0 : Int) (0 : Nat), Value.int (3 : Int) (0 : Nat), Value.ref (198 : Nat), Value.bool Bool.true, Value.int (181 : Int) (0 : Nat), Value.ref (199 : Nat), Value.none, Value.ref (200 : Nat), Value.ref (201 : Nat), Value.ref (202 : Nat), Value.int (464 : Int) (0 : Nat), Value.int (150 : Int) (0 : Nat), Value.str (Str.ofString "/claim/cut.py") (465 : Nat)] }) ::
  (nat_lit 204, { cls := Value.type "function", dict := none, data := Data.func (fnO (stT 39) (Str.ofString "_get_sep") ((3 : Nat)) ([]) (Value.none) (Value.none) (Value.none) (Value.str (Str.ofString "cpy313.posixpath") (458 : Nat)) (none) (Value.ref (203 : Nat)) (Value.none) ((0 : Nat))), slots := #[] }) ::
  (nat_lit 205, { cls := Value.type "tuple", data := Data.seq #[] }) ::
  (nat_lit 207, { cls := Value.type "tuple", data := Data.seq #[Value.str (Str.ofString "a") (470 : Nat), Value.str (Str.ofString "p") (471 : Nat), Value.str (Str.ofString "sep") (472 : Nat), Value.str (Str.ofString "path") (473 : Nat), Value.str (Str.ofString "b") (474 : Nat)] }) ::
  (nat_lit 208, { cls := Value.type "tuple", data := Data.seq #[] }) ::
  (nat_lit 210, { cls := Value.type "code", data := Data.fields #[Value.str (Str.ofString "join") (467 : Nat), Value.str (Str.ofString "join") (468 : Nat), Value.str (Str.ofString "/claim/cut.py") (469 : Nat), Value.int (155 : Int) (0 : Nat), Value.int (1 : Int) (0 : Nat), Value.int (0 : Int) (0 : Nat), Value.int (0 : Int) (0 : Nat), Value.int (7 : Int) (0 : Nat), Value.ref (205 : Nat), Value.bool Bool.true, Value.int (181 : Int) (0 : Nat), Value.ref (206 : Nat), Value.none, Value.ref (207 : Nat), Value.ref (208 : Nat), Value.ref (209 : Nat), Value.int (475 : Int) (0 : Nat), Value.int (155 : Int) (0 : Nat), Value.str (Str.ofString "/claim/cut.py") (476 : Nat)] }) ::
  (nat_lit 211, { cls := Value.type "function", dict := none, data := Data.func (fnO (stT 40) (Str.ofString "join") ((3 : Nat)) ([]) (Value.none) (Value.none) (Value.none) (Value.str (Str.ofString "cpy313.posixpath") (458 : Nat)) (none) (Value.ref (210 : Nat)) (Value.none) ((0 : Nat))), slots := #[] }) ::
  (nat_lit 212, { cls := Value.type "tuple", data := Data.seq #[] }) ::
  (nat_lit 215, { cls := Value.type "code", data := Data.fields #[Value.str (Str.ofString "commonpath") (478 : Nat), Value.str (Str.ofString "commonpath") (479 : Nat), Value.str (Str.ofString "/claim/cut.py") (480 : Nat), Value.int (172 : Int) (0 : Nat), Value.int (1 : Int) (0 : Nat), Value.int (0 : Int) (0 : Nat), Value.int (0 : Int) (0 : Nat), Value.int (3 : Int) (0 : Nat), Value.ref (212 : Nat), Value.bool Bool.true, Value.int (181 : Int) (0 : Nat), Value.ref (213 : Nat), Value.none, Value.none, Value.none, Value.ref (214 : Nat), Value.int (481 : Int) (0 : Nat), Value.int (172 : Int) (0 : Nat), Value.str (Str.ofString "/claim/cut.py") (482 : Nat)] }) ::
  (nat_lit 216, { cls := Value.type "function", dict := none, data := Data.func (fnO (stT 41) (Str.ofString "commonpath") ((3 : Nat)) ([]) (Value.none) (Value.none) (Value.none) (Value.str (Str.ofString "cpy313.posixpath") (458 : Nat)) (none) (Value.ref (215 : Nat)) (Value.none) ((0 : Nat))), slots := #[] }) ::
  (nat_lit 217, { cls := Value.type "tuple", data := Data.seq #[] }) ::
  (nat_lit 219, { cls := Value.type "tuple", data := Data.seq #[Value.str (Str.ofString "text") (489 : Nat), Value.str (Str.ofString "stream") (490 : Nat), Value.str (Str.ofString "_law_next") (491 : Nat)] }) ::
  (nat_lit 220, { cls := Value.type "tuple", data := Data.seq #[Value.str (Str.ofString "left") (492 : Nat)] }) ::
  (nat_lit 222, { cls := Value.type "code", data := Data.fields #[Value.str (Str.ofString "_law_lexer") (486 : Nat), Value.str (Str.ofString "_law_lexer") (487 : Nat), Value.str (Str.ofString "/claim/cut.py") (488 : Nat), Value.int (202 : Int) (0 : Nat), Value.int (1 : Int) (0 : Nat), Value.int (0 : Int) (0 : Nat), Value.int (0 : Int) (0 : Nat), Value.int (3 : Int) (0 : Nat), Value.ref (217 : Nat), Value.bool Bool.true, Value.int (181 : Int) (0 : Nat), Value.ref (218 : Nat), Value.none, Value.ref (219 : Nat), Value.ref (220 : Nat), Value.ref (221 : Nat), Value.int (493 : Int) (0 : Nat), Value.int (202 : Int) (0 : Nat), Value.str (Str.ofString "/claim/cut.py") (494 : Nat)] }) ::
  (nat_lit 223, { cls := Value.type "function", dict := none, data := Data.func (fnO (stT 43) (Str.ofString "_law_lexer") ((3 : Nat)) ([]) (Value.none) (Value.none) (Value.none) (Value.str (Str.ofString "law_un0041_01") (484 : Nat)) (none) (Value.ref (222 : Nat)) (Value.none) ((0 : Nat))), slots := #[] }) ::
  (nat_lit 224, { cls := Value.type "tuple", data := Data.seq #[] }) ::
  (nat_lit 227, { cls := Value.type "code", data := Data.fields #[Value.str (Str.ofString "_law_mode") (496 : Nat), Value.str (Str.ofString "_law_mode") (497 : Nat), Value.str (Str.ofString "/claim/cut.py") (498 : Nat), Value.int (210 : Int) (0 : Nat), Value.int (1 : Int) (0 : Nat), Value.int (0 : Int) (0 : Nat), Value.int (0 : Int) (0 : Nat), Value.int (3 : Int) (0 : Nat), Value.ref (224 : Nat), Value.bool Bool.true, Value.int (181 : Int) (0 : Nat), Value.ref (225 : Nat), Value.none, Value.none, Value.none, Value.ref (226 : Nat), Value.int (499 : Int) (0 : Nat), Value.int (210 : Int) (0 : Nat), Value.str (Str.ofString "/claim/cut.py") (500 : Nat)] }) ::
  (nat_lit 228, { cls := Value.type "function", dict := none, data := Data.func (fnO (stT 44) (Str.ofString "_law_mode") ((3 : Nat)) ([]) (Value.none) (Value.none) (Value.none) (Value.str (Str.ofString "law_un0041_01") (484 : Nat)) (none) (Value.ref (227 : Nat)) (Value.none) ((0 : Nat))), slots := #[] }) ::
  (nat_lit 229, { cls := Value.type "tuple", data := Data.seq #[] }) ::
  (nat_lit 232, { cls := Value.type "code", data := Data.fields #[Value.str (Str.ofString "_law_noted") (502 : Nat), Value.str (Str.ofString "_law_noted") (503 : Nat), Value.str (Str.ofString "/claim/cut.py") (504 : Nat), Value.int (212 : Int) (0 : Nat), Value.int (1 : Int) (0 : Nat), Value.int (0 : Int) (0 : Nat), Value.int (0 : Int) (0 : Nat), Value.int (3 : Int) (0 : Nat), Value.ref (229 : Nat), Value.bool Bool.true, Value.int (181 : Int) (0 : Nat), Value.ref (230 : Nat), Value.none, Value.none, Value.none, Value.ref (231 : Nat), Value.int (505 : Int) (0 : Nat), Value.int (212 : Int) (0 : Nat), Value.str (Str.ofString "/claim/cut.py") (506 : Nat)] }) ::
  (nat_lit 233, { cls := Value.type "function", dict := none, data := Data.func (fnO (stT 45) (Str.ofString "_law_noted") ((3 : Nat)) ([]) (Value.none) (Value.none) (Value.none) (Value.str (Str.ofString "law_un0041_01") (484 : Nat)) (none) (Value.ref (232 : Nat)) (Value.none) ((0 : Nat))), slots := #[] }) ::
  (nat_lit 234, { cls := Value.type "tuple", data := Data.seq #[] }) ::
  (nat_lit 236, { cls := Value.type "tuple", data := Data.seq #[Value.str (Str.ofString "figures") (511 : Nat)] }) ::
  (nat_lit 237, { cls := Value.type "tuple", data := Data.seq #[] }) ::
  (nat_lit 239, { cls := Value.type "code", data := Data.fields #[Value.str (Str.ofString "_law_row") (508 : Nat), Value.str (Str.ofString "_law_row") (509 : Nat), Value.str (Str.ofString "/claim/cut.py") (510 : Nat), Value.int (232 : Int) (0 : Nat), Value.int (1 : Int) (0 : Nat), Value.int (0 : Int) (0 : Nat), Value.int (0 : Int) (0 : Nat), Value.int (3 : Int) (0 : Nat), Value.ref (234 : Nat), Value.bool Bool.true, Value.int (181 : Int) (0 : Nat), Value.ref (235 : Nat), Value.none, Value.ref (236 : Nat), Value.ref (237 : Nat), Value.ref (238 : Nat), Value.int (512 : Int) (0 : Nat), Value.int (232 : Int) (0 : Nat), Value.str (Str.ofString "/claim/cut.py") (513 : Nat)] }) ::
  (nat_lit 240, { cls := Value.type "function", dict := none, data := Data.func (fnO (stT 46) (Str.ofString "_law_row") ((3 : Nat)) ([]) (Value.none) (Value.none) (Value.none) (Value.str (Str.ofString "law_un0041_01") (484 : Nat)) (none) (Value.ref (239 : Nat)) (Value.none) ((0 : Nat))), slots := #[] }) ::
  (nat_lit 241, { cls := Value.type "tuple", data := Data.seq #[] }) ::
  (nat_lit 244, { cls := Value.type "code", data := Data.fields #[Value.str (Str.ofString "_law_above") (515 : Nat), Value.str (Str.ofString "_law_above") (516 : Nat), Value.str (Str.ofString "/claim/cut.py") (517 : Nat), Value.int (234 : Int) (0 : Nat), Value.int (1 : Int) (0 : Nat), Value.int (0 : Int) (0 : Nat), Value.int (0 : Int) (0 : Nat), Value.int (3 : Int) (0 : Nat), Value.ref (241 : Nat), Value.bool Bool.true, Value.int (181 : Int) (0 : Nat), Value.ref (242 : Nat), Value.none, Value.none, Value.none, Value.ref (243 : Nat), Value.int (518 : Int) (0 : Nat), Value.int (234 : Int) (0 : Nat), Value.str (Str.ofString "/claim/cut.py") (519 : Nat)] }) ::
  (nat_lit 245, { cls := Value.type "function", dict := none, data := Data.func (fnO (stT 47) (Str.ofString "_law_above") ((3 : Nat)) ([]) (Value.none) (Value.none) (Value.none) (Value.str (Str.ofString "law_un0041_01") (484 : Nat)) (none) (Value.ref (244 : Nat)) (Value.none) ((0 : Nat))), slots := #[] }) ::
  (nat_lit 246, { cls := Value.type "tuple", data := Data.seq #[] }) ::
  (nat_lit 249, { cls := Value.type "code", data := Data.fields #[Value.str (Str.ofString "law") (521 : Nat), Value.str (Str.ofString "law") (522 : Nat), Value.str (Str.ofString "/claim/cut.py") (523 : Nat), Value.int (239 : Int) (0 : Nat), Value.int (1 : Int) (0 : Nat), Value.int (0 : Int) (0 : Nat), Value.int (0 : Int) (0 : Nat), Value.int (3 : Int) (0 : Nat), Value.ref (246 : Nat), Value.bool Bool.true, Value.int (181 : Int) (0 : Nat), Value.ref (247 : Nat), Value.none, Value.none, Value.none, Value.ref (248 : Nat), Value.int (524 : Int) (0 : Nat), Value.int (239 : Int) (0 : Nat), Value.str (Str.ofString "/claim/cut.py") (525 : Nat)] }) ::
  (nat_lit 250, { cls := Value.type "function", dict := none, data := Data.func (fnO (stT 48) (Str.ofString "law") ((3 : Nat)) ([]) (Value.none) (Value.none) (Value.none) (Value.str (Str.ofString "law_un0041_01") (484 : Nat)) (none) (Value.ref (249 : Nat)) (Value.none) ((0 : Nat))), slots := #[] }) ::
  []
noncomputable def hdAs : List Addr := [nat_lit 2, nat_lit 3, nat_lit 15, nat_lit 17, nat_lit 18, nat_lit 20, nat_lit 21, nat_lit 22, nat_lit 24, nat_lit 25, nat_lit 27, nat_lit 28, nat_lit 29, nat_lit 31, nat_lit 32, nat_lit 34, nat_lit 35, nat_lit 36, nat_lit 37, nat_lit 38, nat_lit 39, nat_lit 40, nat_lit 41, nat_lit 42, nat_lit 43, nat_lit 44, nat_lit 45, nat_lit 46, nat_lit 47, nat_lit 48, nat_lit 49, nat_lit 50, nat_lit 51, nat_lit 52, nat_lit 53, nat_lit 54, nat_lit 55, nat_lit 56, nat_lit 57, nat_lit 58, nat_lit 59, nat_lit 60, nat_lit 61, nat_lit 62, nat_lit 63, nat_lit 64, nat_lit 65, nat_lit 66, nat_lit 67, nat_lit 68, nat_lit 69, nat_lit 71, nat_lit 72, nat_lit 74, nat_lit 75, nat_lit 83, nat_lit 85, nat_lit 86, nat_lit 88, nat_lit 89, nat_lit 90, nat_lit 92, nat_lit 93, nat_lit 95, nat_lit 96, nat_lit 97, nat_lit 99, nat_lit 100, nat_lit 102, nat_lit 103, nat_lit 104, nat_lit 106, nat_lit 107, nat_lit 109, nat_lit 110, nat_lit 111, nat_lit 112, nat_lit 113, nat_lit 114, nat_lit 115, nat_lit 118, nat_lit 120, nat_lit 121, nat_lit 123, nat_lit 124, nat_lit 125, nat_lit 132, nat_lit 134, nat_lit 135, nat_lit 137, nat_lit 138, nat_lit 139, nat_lit 140, nat_lit 141, nat_lit 144, nat_lit 151, nat_lit 153, nat_lit 154, nat_lit 156, nat_lit 157, nat_lit 158, nat_lit 160, nat_lit 161, nat_lit 163, nat_lit 164, nat_lit 165, nat_lit 167, nat_lit 168, nat_lit 170, nat_lit 171, nat_lit 172, nat_lit 173, nat_lit 174, nat_lit 177, nat_lit 179, nat_lit 180, nat_lit 182, nat_lit 183, nat_lit 184, nat_lit 186, nat_lit 187, nat_lit 189, nat_lit 190, nat_lit 191, nat_lit 193, nat_lit 194, nat_lit 196, nat_lit 197, nat_lit 198, nat_lit 200, nat_lit 201, nat_lit 203, nat_lit 204, nat_lit 205, nat_lit 207, nat_lit 208, nat_lit 210, nat_lit 211, nat_lit 212, nat_lit 215, nat_lit 216, nat_lit 217, nat_lit 219, nat_lit 220, nat_lit 222, nat_lit 223, nat_lit 224, nat_lit 227, nat_lit 228, nat_lit 229, nat_lit 232, nat_lit 233, nat_lit 234, nat_lit 236, nat_lit 237, nat_lit 239, nat_lit 240, nat_lit 241, nat_lit 244, nat_lit 245, nat_lit 246, nat_lit 249, nat_lit 250]
noncomputable def hdKeep : List Nat := [0, 2, 3, 4, 5, 6, 7, 8, 9, 10, 11, 12, 13, 14, 15, 16, 17, 18, 19, 20, 21, 22, 23, 24, 26, 28, 30, 32, 33, 35, 37, 39, 40, 41, 43, 44, 45, 46, 47, 48]
noncomputable def hdView : Program := { PySem.Challenge.pw_un0041_01 with main := { PySem.Challenge.pw_un0041_01.main with body := hdKeep.filterMap fun i => PySem.Challenge.pw_un0041_01.main.body[i]? } }
theorem said : PySem.Challenge.rw_un0041_01.wellSaid = true := by
  rw [PySem.W.Fast.te9446332074065402090]
  kernel_rfl
noncomputable abbrev hkH : Hook := kmHook hd.heap_39 hdAs (fun _ => by kernel_rfl) [218]
noncomputable abbrev hdRow : RowW := PySem.Challenge.rw_un0041_01.row.toRowW
noncomputable abbrev hdLoose : List Str := [Str.ofString "_filemode_table"]
noncomputable abbrev hdXt : Shared → Bool := fun s => xlAt hdView [] s && recOk (RowW.records hdRow) s
theorem left : LeftO hdRow.prog hdView hdLoose hdXt hkH.obs hkH.val 3632 := fun w => by
  unfold openEnds fencedOpening topFrom
  rw [PySem.W.Fast.te10274390034422433532, PySem.W.Fast.te14082659384304107361, PySem.W.Fast.te14289696077712309145, PySem.W.Fast.te1435165496053646825, PySem.W.Fast.te14364793385576792824, PySem.W.Fast.te4187177175401517315, PySem.W.Fast.te5923862056798008813, PySem.W.Fast.te8920871248978507458]
  kernel_rfl
end
section
noncomputable abbrev Led := List (Addr × Obj)
noncomputable def Off (E : Led) (h h' : Heap) : Prop := ∀ b o, b ∉ E.map (·.1) → h.get? b = some o → h'.get? b = some o
theorem Off.trans {E : Led} {h h' h'' : Heap} (x : Off E h h') (k : ∀ b o, h'.get? b = some o → h''.get? b = some o) : Off E h h'' := fun b o nb e => k b o (x b o nb e)

/-- what a call of f does: E0 is the part of the ledger that it may change -/
noncomputable def ConF (prog : Program) (w : World) (K : Frag) (p : Program) (loose : List Str) (mean : ExcName → Option Value) (mg mb : Str → Option Value) (lv : Nat) (f : Addr) (vs : List Value) (E0 : Led) (Out : Value → Led → Prop) : Prop :=
  ∀ (dp un : Nat) (gd : Option (List Code)) (cn : Str) (cs : Scope) (a : Addr) (ccd : Value) (cl : List (Str × Addr)) (outer : List Env) (A₀ : Around) (base h₀ : Heap) (L : Addr) (m : Str → Option Value) (s : Shared) (R : Result → Shared → Prop),
    Below A₀ base outer h₀ → Fr h₀ L s.heap m → K.In h₀ → News h₀ L s.heap E0 → Top p loose mean mg mb h₀ → cs.kind = .function → dp + 10 * lv < recursionLimit → un + 100 * lv < cLine →
    (∀ r E1 h' tk', Fr h₀ L h' m → News h₀ L h' E1 → Off E0 s.heap h' → Out r E1 → R (.ok (.ret r)) { s with heap := h', toks := tk' }) →
    codeAny (model prog w) (ktrTop dp un gd cn cs L a ccd cl outer) (.call (.ref f) ⟨vs, []⟩) R s

section
variable {prog : Program} {w : World} {K : Frag} {p : Program} {loose : List Str} {mean : ExcName → Option Value} {mg mb : Str → Option Value} {A₀ A : Around} {base h₀ : Heap} {s : Shared} {outer : List Env} {L : Addr} {m : Str → Option Value} {env : Env} {E0 news : Led} {R : Result → Shared → Prop}
  {name qual : Str} {params : Arguments} {body : List Stmt} {scope : Scope} {dV kV doc pm cdv ct oc : Value} {an od : Option Addr} {osl : Array (Option Value)} {f : Addr} {args : Args} {binds : List (Str × Value)}
theorem enterF (B : Below A₀ base outer h₀) (F : Fr h₀ L s.heap m) (X₀ : K.In h₀) (N : News h₀ L s.heap E0) (T : Top p loose mean mg mb h₀) (hA : A.frames = some (env :: outer)) (hf : env.frame = some L) (hke : env.scope.kind = .function)
    (ho : K.lookup f = some ⟨oc, od, .func (fnOf name qual params body scope dV kV doc pm an cdv ct), osl⟩) (hcd : codeIn K cdv qual = true) (hroom : A.depth < recursionLimit)
    (hbind : BindsTo s (fnOf name qual params body scope dV kV doc pm an cdv ct) args binds) (hloc : ∀ y ∈ binds, scope.names.lookup y.1 = some .local)
    (h : ∀ g L' h₁, Off E0 s.heap g → Fr h₀ L g m → Fr g L' h₁ (fun y => binds.reverse.lookup y) → News g L' h₁ E0 → Below A base (env :: outer) g → K.In g → Top p loose mean mg mb g → (∀ p ∈ E0, p.1 < L') →
      wpAny (model prog w) (A.deeper (envOf qual scope L' f cdv)) (execs body (envOf qual scope L' f cdv))
        (fun fl s' => LeaveK h₀ L m g R (match fl with | .ret v => v | _ => .none) s')
        (fun _ _ => False)
        { s with heap := h₁, toks := s.toks + binds.length })
    (hco : scope.isCoroutine = false) (hgen : scope.isGenerator = false) (hk : scope.kind = .function)
    (hcell : ∀ x ∈ scope.names, x.2 ≠ .cell) : codeAny (model prog w) A (.call (.ref f) args) R s := by
  obtain ⟨FG, BG, st, lv⟩ := groundX (R := R) B F N hA hf hke
  refine codeAny_call_def (fd := fnOf name qual params body scope dV kV doc pm an cdv ct) (body := body) (binds := binds) hroom ((X₀.keeps F.keep) _ _ ho) rfl (T.nolimit.keeps F.keep) (codeRec_of (X₀.keeps F.keep) hcd) rfl hbind hcell hloc (fun h₁ hns hk₁ => ?_) hco hgen hk
  exact wpAny_mono (h _ s.heap.objs.size h₁ (fun b o nb e => hideAll_get _ e nb) FG ⟨hns, fun b o e => hk₁ b o (of_hideAll _ e), Nat.le_of_eq (hideAll_size _ _)⟩
    (fun p hp => ⟨hk₁ _ _ (N p hp).1, Nat.ne_of_lt (Heap.lt_size (N p hp).1), hideAll_none _ (List.mem_map_of_mem hp)⟩) BG (X₀.keeps st) (T.keeps st) (fun p hp => Heap.lt_size (N p hp).1)) (fun fl s' hl => lv _ _ hl) fun _ _ y => y.elim

theorem enterFC (B : Below A₀ base outer h₀) (F : Fr h₀ L s.heap m) (X₀ : K.In h₀) (N : News h₀ L s.heap E0) (T : Top p loose mean mg mb h₀) (hA : A.frames = some (env :: outer)) (hf : env.frame = some L) (hke : env.scope.kind = .function)
    (ho : K.lookup f = some ⟨oc, od, .func (fnOf name qual params body scope dV kV doc pm an cdv ct), osl⟩) (hcd : codeIn K cdv qual = true) (hroom : A.depth < recursionLimit)
    (hbind : BindsTo s (fnOf name qual params body scope dV kV doc pm an cdv ct) args binds) (hkind : (binds.all fun y => scope.names.lookup y.1 == some .local || scope.names.lookup y.1 == some .cell) = true)
    (hnd : ((cellsFrom 0 scope.names []).map (·.1)).Nodup)
    (h : ∀ g L' h₁ tk cells, Off E0 s.heap g → Fr h₀ L g m → Fr g L' h₁ (bindL (envOfC qual scope L' f cdv).kindOf binds fun _ => none) → News g L' h₁ (cells ++ E0) →
      CellsAre (bindC (envOfC qual scope L' f cdv).kindOf binds fun _ => none) (cellsFrom (L' + 1) scope.names []) cells → Below A base (env :: outer) g → K.In g → Top p loose mean mg mb g → (∀ p ∈ E0, p.1 < L') →
      wpAny (model prog w) (A.deeper (envOfC qual scope L' f cdv)) (execs body (envOfC qual scope L' f cdv))
        (fun fl s' => LeaveK h₀ L m g R (match fl with | .ret v => v | _ => .none) s')
        (fun _ _ => False)
        { s with heap := h₁, toks := tk })
    (hco : scope.isCoroutine = false) (hgen : scope.isGenerator = false) (hk : scope.kind = .function) : codeAny (model prog w) A (.call (.ref f) args) R s := by
  obtain ⟨FG, BG, st, lv⟩ := groundX (R := R) B F N hA hf hke
  refine codeAny_call_function hroom ((X₀.keeps F.keep) _ _ ho) rfl hco hgen rfl (codeRec_of (X₀.keeps F.keep) hcd) (hbind _ _ _ _ ?_)
  refine wpAny_newFunctionEnv_cells hk (kindsX hkind _) fun env' he s' x => ?_
  subst he
  refine ⟨(T.nolimit.keeps F.keep).keeps x.toInCall.keep, codeAny_func ?_⟩
  obtain ⟨h₁, tk, rfl, _⟩ := x.done
  have up := x.toInCall.keep
  obtain ⟨cells, NC, Y⟩ := Cl.news (h₀ := s.heap) (Nat.le_refl _) fun n c hm => ⟨x.cell n c (lookup_of_mem_nodup (cellsFrom_names scope.names 0 (s.heap.objs.size + 1) [] [] rfl ▸ hnd) hm), x.above n c hm⟩
  have NN : News (hideAll s.heap (E0.map (·.1))) s.heap.objs.size h₁ (cells ++ E0) := fun p hp => by
    rcases List.mem_append.mp hp with hp | hp
    · refine ⟨(NC p hp).1, (NC p hp).2.1, ?_⟩
      cases q : (hideAll s.heap (E0.map (·.1))).get? p.1 with
      | none => rfl
      | some o => exact nomatch (NC p hp).2.2.symm.trans (of_hideAll _ q)
    · exact ⟨up _ _ (N p hp).1, Nat.ne_of_lt (Heap.lt_size (N p hp).1), hideAll_none _ (List.mem_map_of_mem hp)⟩
  exact wpAny_mono (h _ s.heap.objs.size h₁ tk cells (fun b o nb e => hideAll_get _ e nb) FG ⟨x.toInCall.ns, fun b o e => up b o (of_hideAll _ e), Nat.le_of_eq (hideAll_size _ _)⟩ NN Y BG (X₀.keeps st) (T.keeps st) (fun p hp => Heap.lt_size (N p hp).1)) (fun fl s' hl => lv _ _ hl) fun _ _ y => y.elim

theorem ConF.code {lv dp un : Nat} {gd : Option (List Code)} {cn : Str} {cs : Scope} {a : Addr} {ccd : Value} {cl : List (Str × Addr)} {vs : List Value} {Out : Value → Led → Prop} {rest : Led}
    (C : ConF prog w K p loose mean mg mb lv f vs E0 Out)
    (B : Below A₀ base outer h₀) (F : Fr h₀ L s.heap m) (X : K.In h₀) (N : News h₀ L s.heap news) (T : Top p loose mean mg mb h₀) (hk : cs.kind = .function) (hd : dp + 10 * lv < recursionLimit) (hu : un + 100 * lv < cLine)
    (h0 : ∀ p ∈ E0, p ∈ news) (hr : ∀ p ∈ rest, p ∈ news) (ho : ∀ p ∈ rest, p.1 ∉ E0.map (·.1))
    (h : ∀ r E1 h' tk', Fr h₀ L h' m → News h₀ L h' (E1 ++ rest) → Out r E1 → R (.ok (.ret r)) { s with heap := h', toks := tk' }) :
    codeAny (model prog w) (ktrTop dp un gd cn cs L a ccd cl outer) (.call (.ref f) ⟨vs, []⟩) R s :=
  C dp un gd cn cs a ccd cl outer A₀ base h₀ L m s R B F X (fun p hp => N p (h0 p hp)) T hk hd hu fun r E1 h' tk' F' N1 off out => h r E1 h' tk' F' (fun p hp => by
    rcases List.mem_append.mp hp with hp | hp
    · exact N1 p hp
    · exact ⟨off _ _ (ho p hp) (N p (hr p hp)).1, (N p (hr p hp)).2⟩) out
theorem ConF.use {lv dp un : Nat} {gd : Option (List Code)} {cn : Str} {cs : Scope} {a : Addr} {ccd : Value} {cl : List (Str × Addr)} {vs : List Value} {Out : Value → Led → Prop} {Q E : Value → Shared → Prop} {rest : Led}
    (C : ConF prog w K p loose mean mg mb lv f vs E0 Out)
    (B : Below A₀ base outer h₀) (F : Fr h₀ L s.heap m) (X : K.In h₀) (N : News h₀ L s.heap news) (T : Top p loose mean mg mb h₀) (hk : cs.kind = .function) (hd : dp + 10 * lv < recursionLimit) (hu : un + 100 * lv < cLine)
    (h0 : ∀ p ∈ E0, p ∈ news) (hr : ∀ p ∈ rest, p ∈ news) (ho : ∀ p ∈ rest, p.1 ∉ E0.map (·.1))
    (h : ∀ r E1 h' tk', Fr h₀ L h' m → News h₀ L h' (E1 ++ rest) → Out r E1 → Q r { s with heap := h', toks := tk' }) :
    wpAny (model prog w) (ktrTop dp un gd cn cs L a ccd cl outer) (call (.ref f) vs) Q E s :=
  wpAny_call (C.code B F X N T hk hd hu h0 hr ho h)
theorem ConF.use0 {lv dp un : Nat} {gd : Option (List Code)} {cn : Str} {cs : Scope} {a : Addr} {ccd : Value} {cl : List (Str × Addr)} {vs : List Value} {Out : Value → Led → Prop} {Q E : Value → Shared → Prop}
    (C : ConF prog w K p loose mean mg mb lv f vs [] Out)
    (B : Below A₀ base outer h₀) (F : Fr h₀ L s.heap m) (X : K.In h₀) (N : News h₀ L s.heap news) (T : Top p loose mean mg mb h₀) (hk : cs.kind = .function) (hd : dp + 10 * lv < recursionLimit) (hu : un + 100 * lv < cLine)
    (h : ∀ r E1 h' tk', Fr h₀ L h' m → News h₀ L h' news → Out r E1 → Q r { s with heap := h', toks := tk' }) :
    wpAny (model prog w) (ktrTop dp un gd cn cs L a ccd cl outer) (call (.ref f) vs) Q E s :=
  C.use B F X N T hk hd hu (fun _ hp => (nomatch hp)) (fun _ hp => hp) (fun _ _ hm => (nomatch hm)) fun r E1 h' tk' F' N' out => h r E1 h' tk' F' (fun p hp => N' p (List.mem_append_right _ hp)) out
theorem ConF.use0S {lv dp un : Nat} {gd : Option (List Code)} {cn : Str} {cs : Scope} {a : Addr} {ccd : Value} {cl : List (Str × Addr)} {vs : List Value} {v : Tok → Value} {Q E : Value → Shared → Prop}
    (C : ConF prog w K p loose mean mg mb lv f vs [] (fun r E1 => E1 = [] ∧ ∃ t, r = v t))
    (B : Below A₀ base outer h₀) (F : Fr h₀ L s.heap m) (X : K.In h₀) (N : News h₀ L s.heap news) (T : Top p loose mean mg mb h₀) (hk : cs.kind = .function) (hd : dp + 10 * lv < recursionLimit) (hu : un + 100 * lv < cLine)
    (h : ∀ t h' tk', Fr h₀ L h' m → News h₀ L h' news → Q (v t) { s with heap := h', toks := tk' }) :
    wpAny (model prog w) (ktrTop dp un gd cn cs L a ccd cl outer) (call (.ref f) vs) Q E s :=
  C.use0 B F X N T hk hd hu fun r E1 h' tk' F' N' out => by
    obtain ⟨_, t, rfl⟩ := out
    exact h t h' tk' F' N'
end
end
section
theorem peekV {α : Type} {K : Frag} {M : Model} {A : Around} {E : Value → Shared → Prop} {Q : α → Shared → Prop} {s : Shared} {o : Obj} {r : Addr → α}
    (X : K.In s.heap) (q : Q (r s.heap.objs.size) { s with heap := s.heap.push o }) :
    ∀ (t : Sem α) (g : Addr → Option α), peek1 K ⟨M.prog, M.w.params⟩ t = some (o, g) → (∀ D, g D = some (r D)) → wpAny M A t Q E s := by
  intro t
  induction t with
  | rule _ k ih => intro g e hg Γ p hΓ; exact ih () g e hg Γ p hΓ
  | point _ k ih => intro g e hg Γ p hΓ; exact ih () g e hg Γ p hΓ
  | ask k ih => intro g e hg Γ p hΓ; exact ih _ g e hg Γ p hΓ
  | load a _ k ih =>
    intro g e hg Γ p hΓ
    simp only [peek1] at e
    split at e
    · rename_i ob ho; exact ⟨ob, X _ _ ho, ih ob g e hg Γ p hΓ⟩
    · cases e
  | alloc ob k _ =>
    intro g e hg
    have e : some (ob, fun D => peek K ⟨M.prog, M.w.params⟩ (k D)) = some (o, g) := e
    obtain ⟨e1, e2⟩ := Prod.mk.inj (Option.some.inj e)
    subst e1
    subst e2
    have X' : K.In (s.heap.push ob) := X.keeps fun b x hb => Heap.get?_push_of_some _ hb
    show wpAny M A (alloc ob >>= k) Q E s
    refine wpAny_bind (wpAny_alloc ?_)
    exact (Looks.of_peek (M := M) (h := s.heap.push ob) X' (hg s.heap.objs.size)).here (s := { s with heap := s.heap.push ob }) q
  | _ => intro g e; cases e
section
variable {prog : Program} {w : World} {K : Frag} {p : Program} {loose : List Str} {mean : ExcName → Option Value} {mg mb : Str → Option Value} {A₀ A : Around} {base h₀ : Heap} {s : Shared} {outer : List Env} {L : Addr} {m : Str → Option Value} {env : Env} {E0 : Led} {R : Result → Shared → Prop}
  {name qual : Str} {params : Arguments} {body : List Stmt} {scope : Scope} {dV kV doc pm cdv ct oc : Value} {an od : Option Addr} {osl : Array (Option Value)} {f : Addr} {args : Args} {vs : List Value} {g₁ : Addr → Option (List (Str × Value))} {binds : Addr → List (Str × Value)}
theorem enterV (B : Below A₀ base outer h₀) (F : Fr h₀ L s.heap m) (X₀ : K.In h₀) (N : News h₀ L s.heap E0) (T : Top p loose mean mg mb h₀) (hA : A.frames = some (env :: outer)) (hf : env.frame = some L) (hke : env.scope.kind = .function)
    (ho : K.lookup f = some ⟨oc, od, .func (fnOf name qual params body scope dV kV doc pm an cdv ct), osl⟩) (hcd : codeIn K cdv qual = true) (hroom : A.depth < recursionLimit)
    (_hv : args.pos.drop (params.posonlyargs.length + params.args.length) = vs)
    (hp : peek1 K ⟨prog, w.params⟩ (bindArgs (fnOf name qual params body scope dV kV doc pm an cdv ct) args) = some (({ cls := .type "tuple", data := .seq vs.toArray } : Obj), g₁))
    (hg : ∀ D, g₁ D = some (binds D)) (hloc : ∀ D, ∀ y ∈ binds D, scope.names.lookup y.1 = some .local)
    (h : ∀ D g L' h₁, Off E0 s.heap g → Fr h₀ L g m → Fr g L' h₁ (fun y => (binds D).reverse.lookup y) → News g L' h₁ ((D, ({ cls := .type "tuple", data := .seq vs.toArray } : Obj)) :: E0) → Below A base (env :: outer) g → K.In g → Top p loose mean mg mb g → (∀ p ∈ E0, p.1 < D) → @LT.lt Nat _ D L' →
      wpAny (model prog w) (A.deeper (envOf qual scope L' f cdv)) (execs body (envOf qual scope L' f cdv))
        (fun fl s' => LeaveK h₀ L m g R (match fl with | .ret v => v | _ => .none) s')
        (fun _ _ => False)
        { s with heap := h₁, toks := s.toks + (binds D).length })
    (hco : scope.isCoroutine = false) (hgen : scope.isGenerator = false) (hk : scope.kind = .function)
    (hcell : ∀ x ∈ scope.names, x.2 ≠ .cell) : codeAny (model prog w) A (.call (.ref f) args) R s := by
  refine codeAny_call_function (fd := fnOf name qual params body scope dV kV doc pm an cdv ct) (body := body) hroom ((X₀.keeps F.keep) _ _ ho) rfl hco hgen rfl (codeRec_of (X₀.keeps F.keep) hcd) ?_
  refine peekV (o := ({ cls := .type "tuple", data := .seq vs.toArray } : Obj)) (X₀.keeps F.keep) (r := binds) ?_ _ g₁ hp hg
  have F' := F.push ({ cls := .type "tuple", data := .seq vs.toArray } : Obj)
  have N' := News.push F N ({ cls := .type "tuple", data := .seq vs.toArray } : Obj) rfl
  have hs : (s.heap.push ({ cls := .type "tuple", data := .seq vs.toArray } : Obj)).objs.size = s.heap.objs.size + 1 := Heap.size_push ..
  obtain ⟨FG, BG, st, lv⟩ := groundX (R := R) (s := { s with heap := s.heap.push ({ cls := .type "tuple", data := .seq vs.toArray } : Obj) }) B F' N' hA hf hke
  refine wpAny_newFunctionEnv hcell (hloc _) (fun h₁ hns hsb => ⟨(T.nolimit.keeps F'.keep).fresh _ hsb, codeAny_func ?_⟩) hk
  generalize hH : s.heap.push ({ cls := .type "tuple", data := .seq vs.toArray } : Obj) = H at *
  have hk₁ : ∀ b o, H.get? b = some o → h₁.get? b = some o := fun b o e => hsb.extBut b o (Nat.ne_of_lt (Heap.lt_size e)) (Heap.get?_push_of_some _ e)
  have up : ∀ b o, s.heap.get? b = some o → H.get? b = some o := fun b o e => hH ▸ Heap.get?_push_of_some _ e
  refine wpAny_mono (h _ _ H.objs.size h₁ (fun b o nb e => ?_) FG ⟨hns, fun b o e => hk₁ b o (of_hideAll _ e), Nat.le_of_eq (hideAll_size _ _)⟩
    (fun p hp => ⟨hk₁ _ _ (N' p hp).1, Nat.ne_of_lt (Heap.lt_size (N' p hp).1), hideAll_none _ (List.mem_map_of_mem hp)⟩) BG (X₀.keeps st) (T.keeps st) (fun p hp => Heap.lt_size (N p hp).1) (by rw [hs]; exact Nat.lt_succ_self _)) (fun fl s' hl => lv _ _ hl) fun _ _ y => y.elim
  refine hideAll_get _ (up b o e) fun hm => ?_
  rw [List.map_cons] at hm
  rcases List.mem_cons.mp hm with q | q
  · exact absurd (Heap.lt_size e) (Nat.not_lt.mpr (Nat.le_of_eq q.symm))
  · exact nb q
end
end
section
/-- one sign each -/
noncomputable def Chars : List Value → List Nat → Prop
  | [], [] => True
  | v :: vs, c :: cs => (∃ t, v = .str ⟨#[c]⟩ t) ∧ Chars vs cs
  | _, _ => False
theorem chars_of : ∀ (vs : List Value) (cs : List Nat), vs.length = cs.length → (∀ (j : Nat) (v : Value), vs[j]? = some v → ∃ (c : Nat) (u : Tok), cs[j]? = some c ∧ v = Value.str ⟨#[c]⟩ u) → Chars vs cs
  | [], [], _, _ => trivial
  | [], _ :: _, h, _ => by simp at h
  | _ :: _, [], h, _ => by simp at h
  | v :: vs, c :: cs, h, k => by
    refine ⟨?_, chars_of vs cs (by simpa using h) fun j u hj => k (j + 1) u (by simpa using hj)⟩
    obtain ⟨c', u, hc, hv⟩ := k 0 v rfl
    have : c = c' := by simpa using hc
    subst this
    exact ⟨u, hv⟩
theorem Chars.length : ∀ {vs : List Value} {cs : List Nat}, Chars vs cs → vs.length = cs.length
  | [], [], _ => rfl
  | [], _ :: _, h => h.elim
  | _ :: _, [], h => h.elim
  | _ :: _, _ :: _, h => congrArg (· + 1) h.2.length

theorem Chars.inv {vs : List Value} {c : Nat} {cs : List Nat} (h : Chars vs (c :: cs)) : ∃ t vs', vs = .str ⟨#[c]⟩ t :: vs' ∧ Chars vs' cs := by
  cases vs with
  | nil => exact h.elim
  | cons v r =>
    obtain ⟨⟨t, rfl⟩, h2⟩ := h
    exact ⟨t, r, rfl, h2⟩

section
variable {prog : Program} {w : World} {A : Around} {E : Value → Shared → Prop} {s : Shared} {h₀ : Heap} {L : Addr} {m : Str → Option Value} {news : Led}
theorem list_str_N {x : Str} {t : Tok} {Q : Value → Shared → Prop} (hh : A.handled = none) (F : Fr h₀ L s.heap m) (N : News h₀ L s.heap news) (hsz : x.cps.size ≤ sizeLine)
    (h : ∀ l h' tk vs c, Fr h₀ L h' m → News h₀ L h' ((l, W.listOf vs.toArray c) :: news) → (∀ p ∈ news, p.1 < l) → Chars vs x.cps.toList → Q (.ref l) { s with heap := h', toks := tk }) :
    wpAny (model prog w) A (call (.type "list") [.str x t]) Q E s := by
  refine call_list_str hh x t (hn := hsz) fun h' tk acc c hk hS hacc => ?_
  obtain ⟨oL, es, ep, hL, r⟩ := F.ns
  refine h s.heap.objs.size h' tk acc.toList c ⟨⟨oL, es, ep, hk _ _ hL, r⟩, fun b o e => hk _ _ (F.keep b o e), F.above⟩ (fun p hp => ?_) (fun p hp => Heap.lt_size (N p hp).1) (chars_of _ _ (by simpa using hacc.1) fun j v hj => ?_)
  · rcases List.mem_cons.mp hp with rfl | hp
    · refine ⟨by simpa using hS, Nat.ne_of_gt (Heap.lt_size hL), ?_⟩
      cases q : h₀.get? s.heap.objs.size with
      | none => rfl
      | some o => exact absurd (Heap.lt_size (F.keep _ _ q)) (Nat.lt_irrefl _)
    · exact ⟨hk _ _ (N p hp).1, (N p hp).2⟩
  · obtain ⟨c, u, hc, hv⟩ := hacc.2 j v (by simpa using hj)
    exact ⟨c, u, by simpa using hc, hv⟩
theorem pop0_N {D : Addr} {v : Value} {r : List Value} {n : Nat} {u : Tok} {news' : Led} {Q : Value → Shared → Prop} (F : Fr h₀ L s.heap m) (N : News h₀ L s.heap news) (U : Upd D (W.listOf (v :: r).toArray n) (W.listOf r.toArray (n + 1)) news news')
    (hz : r.length < 1000000) (h : ∀ h', Fr h₀ L h' m → News h₀ L h' news' → Q v { s with heap := h' }) : wpAny (model prog w) A (call (.builtin "list.pop") [.ref D, .int 0 u]) Q E s :=
  kl_popAt (k := 0) (p := []) (q := r) (y := v) F N rfl (by
    unfold seqIndex?
    simp) rfl U (by rw [sizeLine_eq]; show (v :: r).length ≤ _; rw [List.length_cons]; omega) h
end
end
local macro_rules | `(tactic| k_all) => `(tactic| k_extra "k_all")
local macro_rules | `(tactic| k_mem) => `(tactic| k_extra "k_mem")
local macro_rules | `(tactic| k_room) => `(tactic| k_extra "room")
local macro_rules | `(tactic| k_units) => `(tactic| k_extra "units")
local macro_rules | `(tactic| walk_at $s:str) => `(tactic| k_extra $s)
theorem rulesU : True := by
  k_with_none
  k_with "k_ne" => (refine neN ?_; (try dsimp only); first | exact Nat.ne_of_lt (by with_reducible assumption) | exact Nat.ne_of_gt (by with_reducible assumption) | with_reducible assumption | exact neL_up (by with_reducible assumption) | with_reducible exact neL_13 | with_reducible exact neL_23 | with_reducible exact neL_12 | with_reducible exact neL_31 | with_reducible exact neL_32 | with_reducible exact neL_21 | exact Nat.ne_of_gt (by walk_at "pick") | exact Nat.ne_of_lt (by walk_at "pick") | omega)
  k_with "pick" => first | with_reducible assumption | with_reducible exact j1 (by assumption) | with_reducible exact j2 (by assumption) | with_reducible exact j3 (by assumption) | with_reducible exact j4 (by assumption) | with_reducible exact j5 (by assumption) | with_reducible exact j6 (by assumption) | with_reducible exact j7 (by assumption) | with_reducible exact j8 (by assumption) | with_reducible exact j9 (by assumption) | with_reducible exact j10 (by assumption) | with_reducible exact j11 (by assumption) | with_reducible exact j12 (by assumption) | with_reducible exact j13 (by assumption) | with_reducible exact j14 (by assumption) | with_reducible exact j15 (by assumption)
  k_with "om" => first | walk_at "pick" | with_reducible exact Nat.lt_trans (by assumption) (by walk_at "pick")
  k_with "k_mem" => first | exact List.Mem.head _ | assumption | exact List.mem_append_left _ (by assumption) | exact List.mem_append_right _ (by assumption) | (refine' List.Mem.tail _ ?_; k_extra "k_mem")
  k_with "room" => first | exact rm1 (by assumption) (by decide) | exact rm2 (by assumption) (by decide) | exact rm0 (by assumption) | exact rm3 (by assumption) (by decide) | ktr_room
  k_with "units" => first | exact rm1 (by assumption) (by decide) | exact rm2 (by assumption) (by decide) | exact rm0 (by assumption) | exact rm3 (by assumption) (by decide) | ktr_units
  k_with "lt" => try ((rename ∀ p ∈ (_ : List (Addr × Obj)), @LT.lt Nat _ p.1 _ => q9l9); k_lt q9l9; revert q9l9; intro _)
  k_with "dn" => try dsimp only [List.cons_append, List.nil_append] at ‹News _ _ _ _›
  k_with "dd" => try dsimp only [List.cons_append, List.nil_append] at ‹Obj.IsDictOf _ _ _›
  k_with "ds" => try dsimp only [List.cons_append, List.nil_append] at ‹LexSt _ _ _ _ _›
  exact True.intro
section
theorem slot_ci_next : Slot "callable_iterator" "__next__" "callable_iterator.__next__" :=
  .of (owner := "callable_iterator") (n := "__next__") (by rw [typeLookup_type, builtinLookup_eq_fast]; kernel_rfl) (by decide +kernel) (by decide +kernel) (by decide +kernel)
    (by first | exact .inl (by decide +kernel) | exact .inr (by decide +kernel)) (by rw [isSubtype_type]; kernel_rfl)
theorem slot_ci_iter : Slot "callable_iterator" "__iter__" "callable_iterator.__iter__" :=
  .of (owner := "callable_iterator") (n := "__iter__") (by rw [typeLookup_type, builtinLookup_eq_fast]; kernel_rfl) (by decide +kernel) (by decide +kernel) (by decide +kernel)
    (by first | exact .inl (by decide +kernel) | exact .inr (by decide +kernel)) (by rw [isSubtype_type]; kernel_rfl)
theorem entry_ci_next : entryFor table "callable_iterator.__next__" = some Builtin.«callable_iterator.__next__» := entryFor_of_fast (by kernel_rfl)
theorem entry_ci_iter : entryFor table "callable_iterator.__iter__" = some Builtin.«dict_keyiterator.__iter__» :=
  entryFor_alias (id' := "dict_keyiterator.__iter__") (by kernel_rfl) rfl (by decide +kernel) (by kernel_rfl)
theorem args_ci_next (a : Value) : argsOk "callable_iterator.__next__" ⟨[a], []⟩ := by unfold argsOk; kernel_rfl
theorem args_ci_iter (a : Value) : argsOk "callable_iterator.__iter__" ⟨[a], []⟩ := by unfold argsOk; kernel_rfl
noncomputable abbrev ciObj (M : Addr) (t : Tok) : Obj := { cls := .type "callable_iterator", data := .fields #[.ref M, .str (Str.ofString "") t, .bool false] }

theorem look_method_call : typeLookup (.type "method") (Str.ofString "__call__") = pure (some (.builtin "method.__call__")) := by rw [typeLookup_type, builtinLookup_eq_fast]; kernel_rfl
theorem entry_iter2 : entryFor table "iter" = some Builtin.«iter» := entryFor_of_fast (by kernel_rfl)
theorem args_iter2 (a b : Value) : argsOk "iter" ⟨[a, b], []⟩ := by unfold argsOk; kernel_rfl
section
variable {prog : Program} {w : World} {A : Around} {E : Value → Shared → Prop} {s : Shared} {h₀ : Heap} {L : Addr} {m : Str → Option Value} {news : Led}
theorem iter2_N {M : Addr} {f self : Value} {t : Tok} {Q : Value → Shared → Prop} (F : Fr h₀ L s.heap m) (N : News h₀ L s.heap news) (hM : (M, methodObj f self) ∈ news)
    (h : ∀ I h', Fr h₀ L h' m → News h₀ L h' ((I, ciObj M t) :: news) → (∀ p ∈ news, p.1 < I) → Q (.ref I) { s with heap := h' }) :
    wpAny (model prog w) A (call (.builtin "iter") [.ref M, .str (Str.ofString "") t]) Q E s := by
  refine Calls.call_function_entry (by decide +kernel) (by decide +kernel) entry_iter2 (args_iter2 _ _) ?_
  show wpAny _ _ (someArgs "iter" 1 2 _ >>= _) _ _ s
  refine wpAny_bind (m := someArgs "iter" 1 2 _) (wpAny_of_eq (a := [Value.ref M, .str (Str.ofString "") t]) (by first | rfl | kernel_rfl!) ?_)
  show wpAny _ _ (specialOf (.ref M) "__call__" >>= _) _ _ s
  refine wpAny_bind (wpAny_specialOf (T := "method") ⟨_, (N _ hM).1, rfl⟩ look_method_call ?_)
  show wpAny _ _ (rule "iter.sentinel" >>= fun _ => newFields "callable_iterator" [.ref M, .str (Str.ofString "") t, .bool false] >>= fun x => ret x) _ _ s
  refine wpAny_bind (wpAny_rule (wpAny_bind (wpAny_newObj_type (wpAny_pure ⟨_, rfl, h _ _ (F.push _) (N.push F _) fun p hp => Heap.lt_size (N p hp).1⟩))))
theorem pyIter_ci {I M : Addr} {t : Tok} {Q : Value → Shared → Prop} (N : News h₀ L s.heap news) (hI : (I, ciObj M t) ∈ news) (h : Q (.ref I) s) : wpAny (model prog w) A (pyIter (.ref I)) Q E s := by
  have hT : s.TypeIs (.ref I) "callable_iterator" := ⟨_, (N _ hI).1, rfl⟩
  refine wpAny_pyIter_slot hT slot_ci_iter (wpAny_call_entry slot_ci_iter hT entry_ci_iter ?_ (args_ci_iter _))
  show wpAny _ _ (ret (.ref I)) _ _ s
  exact wpAny_pure ⟨_, rfl, "callable_iterator", _, hT, slot_ci_next.lookup, h⟩
/-- what the called method gives back, read at the iterator -/
theorem pyNext_ci {I M f : Addr} {t : Tok} {self : Value} {fo : Obj} {fd : FuncData} {Q : Option Value → Shared → Prop} (hh : A.handled = none) (hI : s.heap.get? I = some (ciObj M t)) (hM : s.heap.get? M = some (methodObj (.ref f) self)) (hf : s.heap.get? f = some fo) (hd : fo.data = .func fd)
    (hc : codeAny (model prog w) (A.in1) (.call (.ref f) ⟨[self], []⟩) (fun r s' => ∃ x u, r = .ok (.ret (.str x u)) ∧ s'.heap.get? I = some (ciObj M t) ∧ s'.heap.get? M = some (methodObj (.ref f) self) ∧ (∃ fo' fd', s'.heap.get? f = some fo' ∧ fo'.data = .func fd') ∧
        (x ≠ Str.ofString "" → Q (some (.str x u)) s') ∧ (x = Str.ofString "" → ∀ h' tk, (∀ b o, b ≠ I → s'.heap.get? b = some o → h'.get? b = some o) → Q none { s' with heap := h', toks := tk })) s) :
    wpAny (model prog w) A (pyNext (.ref I)) Q E s := by
  have hT : s.TypeIs (.ref I) "callable_iterator" := ⟨_, hI, rfl⟩
  unfold pyNext
  refine wpAny_bind (wpAny_attempt (wpAny_callSpecial?_slot (name := Str.ofString "__next__") hT slot_ci_next
    (wpAny_call_entry slot_ci_next hT entry_ci_next ?_ (args_ci_next _))))
  show wpAny _ _ (field (.ref I) 2 >>= _) _ _ s
  refine wpAny_bind (wpAny_field hI rfl (x := .bool false) rfl ?_)
  rw [if_neg (show ¬ ((Value.bool false == Value.bool true) = true) by decide)]
  show wpAny _ _ (field (.ref I) 0 >>= _) _ _ s
  refine wpAny_bind (wpAny_field hI rfl (x := .ref M) rfl ?_)
  refine wpAny_bind (wpAny_attempt ?_)
  unfold callOutOfASlot
  refine wpAny_bind ?_
  show wpAny _ _ (load M >>= _) _ _ s
  refine wpAny_bind (wpAny_load hM ?_)
  show wpAny _ _ (load f >>= _) _ _ s
  refine wpAny_bind (wpAny_load hf ?_)
  rw [hd]
  refine wpAny_pure ?_
  show wpAny _ _ (callBorrowed (.ref M) []) _ _ s
  unfold callBorrowed
  refine X.x_call ?_ (by intro e; cases e)
  show codeAny _ A.in1 _ _ _
  refine method_call hM (codeAny_mono hc fun r s' z => ?_)
  obtain ⟨x, u, rfl, hI', hM', ⟨fo', fd', hf', hd'⟩, h1, h2⟩ := z
  refine wpAny_pure ?_
  show wpAny _ _ (field (.ref I) 2 >>= _) _ _ s'
  refine wpAny_bind (wpAny_field hI' rfl (x := .bool false) rfl ?_)
  rw [if_neg (show ¬ ((Value.bool false == Value.bool true) = true) by decide)]
  show wpAny _ _ (field (.ref I) 1 >>= _) _ _ s'
  refine wpAny_bind (wpAny_field hI' rfl (x := .str (Str.ofString "") t) rfl ?_)
  refine wpAny_bind (wpAny_holding (wpAny_eqBool_str ?_))
  by_cases hx : x = Str.ofString ""
  · have e : (!decide (Str.ofString "" = x)) = false := by rw [hx]; simp
    rw [if_neg (by rw [e]; exact Bool.false_ne_true)]
    refine wpAny_bind (wpAny_rule ?_)
    refine wpAny_bind ?_
    show wpAny _ _ (field (.ref I) 0 >>= _) _ _ s'
    refine wpAny_bind (wpAny_field hI' rfl (x := .ref M) rfl ?_)
    refine wpAny_bind ?_
    show wpAny _ _ (borrowsExactly (.ref M) >>= _) _ _ s'
    refine wpAny_bind ?_
    show wpAny _ _ (load M >>= _) _ _ s'
    refine wpAny_bind (wpAny_load hM' ?_)
    show wpAny _ _ (load f >>= _) _ _ s'
    refine wpAny_bind (wpAny_load hf' ?_)
    rw [hd']
    refine wpAny_pure ?_
    refine wpAny_pure ?_
    refine wpAny_bind (wpAny_setField hI' rfl (by simp) ?_)
    refine wpAny_bind (wpAny_setField (Heap.get?_update_self _ hI' rfl) rfl (by simp) ?_)
    refine wpAny_setField (Heap.get?_update_self _ (Heap.get?_update_self _ hI' rfl) rfl) rfl (by simp) ?_
    show wpAny _ _ (newExc (.type "StopIteration") [] >>= _) _ _ _
    refine wpAny_bind ?_
    simp only [newExc, newTuple]
    refine wpAny_bind (wpAny_newObj_type ?_ (by size_fits))
    refine wpAny_bind (m := firstArgMember _ _) (wpAny_of_eq (a := Value.none) (by first | rfl | (simp only [firstArgMember]; rfl)) ?_)
    refine wpAny_newObj_type ?_ (by size_fits)
    simp only [raiseNew]
    refine wpAny_bind (wpAny_handled ?_)
    first | rw [show A.in1.handled = none from hh] | rw [hh]
    refine wpAny_bind (wpAny_pure (wpAny_throw ?_))
    refine wpAny_bind (wpAny_isInstance (T := "StopIteration") (b := true) ⟨_, Heap.get?_push_size _ rfl, rfl⟩ isSubtype_stop ?_)
    refine wpAny_pure (h2 hx _ _ fun b o hb e => ?_)
    exact Heap.get?_push_of_some _ (Heap.get?_push_of_some _ ((Heap.get?_update_other _ _ (Ne.symm hb)).trans ((Heap.get?_update_other _ _ (Ne.symm hb)).trans ((Heap.get?_update_other _ _ (Ne.symm hb)).trans e))))
  · have e : (!decide (Str.ofString "" = x)) = true := by simp [Ne.symm hx]
    rw [if_pos e]
    exact wpAny_pure ⟨_, rfl, wpAny_pure (h1 hx)⟩
end
end
section
noncomputable abbrev NoE : Value → Shared → Prop := fun _ _ => False
section
variable {prog : Program} {w : World} {A : Around} {s : Shared} {target it : _} {body orelse : List Stmt} {env : Env} {R : Result → Shared → Prop}
/-- one turn of a for -/
noncomputable def ForNx (prog : Program) (w : World) (A : Around) (target : Expr) (it : Value) (body orelse : List Stmt) (env : Env) (R : Result → Shared → Prop) (r : Option Value) (s : Shared) : Prop := match r with
  | none => wpAny (model prog w) A (execs orelse env) (fun f s' => R (.ok f) s') NoE s
  | some v => wpAny (model prog w) A (letOwnedTupleGo target it v) (fun _ s₂ => wpAny (model prog w) A (assign target env v) (fun _ s₃ => wpAny (model prog w) A (execs body env) (fun f s₄ => match f with
      | .next | .cont => codeAny (model prog w) A (.forLoop target it body orelse env) R s₄
      | .brk => R (.ok .next) s₄
      | .ret v => R (.ok (.ret v)) s₄) NoE s₃) NoE s₂) NoE s
theorem for_turn (h : wpAny (model prog w) A (pyNext it) (ForNx prog w A target it body orelse env R) NoE s) : codeAny (model prog w) A (.forLoop target it body orelse env) R s := by
  refine codeAny_of_tree ?_
  rw [Around.under_of_weight (show Code.weight _ = 0 from rfl) rfl]
  show wpAny _ A ((forTurn target it body orelse env).onRaise _) _ _ s
  refine wpAny_onRaise ?_
  unfold forTurn
  refine wpAny_bind (wpAny_standAt (wpAny_bind (wpAny_onRaise (wpAny_mono h (fun r s₁ z => ?_) fun _ _ x => x.elim))))
  cases r with
  | none =>
    refine wpAny_pure ⟨rfl, codeAny_of_tree ?_⟩
    rw [Around.under_of_weight (show Code.weight _ = 0 from rfl) rfl]
    show wpAny _ A ((execs orelse env).onRaise _ >>= _) _ _ s₁
    exact wpAny_bind (wpAny_onRaise (wpAny_mono z (fun f s' y => wpAny_pure y) fun _ _ x => x.elim))
  | some v =>
    refine wpAny_bind (wpAny_mono z (fun _ s₂ z => ?_) fun _ _ x => x.elim)
    refine wpAny_bind (wpAny_mono z (fun _ s₃ z => ?_) fun _ _ x => x.elim)
    refine wpAny_bind (wpAny_mono z (fun f s₄ z => ?_) fun _ _ x => x.elim)
    cases f with
    | next => exact wpAny_pure ⟨rfl, z⟩
    | cont => exact wpAny_pure ⟨rfl, z⟩
    | brk => exact wpAny_pure z
    | ret v => exact wpAny_pure z
end
end
section
/-- the parts of a def -/
noncomputable def partsOf : Stmt → Arguments × List Stmt × Scope
  | .FunctionDef _ a b _ _ _ sc _ _ _ => (a, b, sc)
  | _ => default
noncomputable def defIn : List Stmt → Stmt
  | [] => .Pass ⟨0, 0, 0, 0⟩
  | .FunctionDef n a b d r t sc ts bd p :: _ => .FunctionDef n a b d r t sc ts bd p
  | _ :: r => defIn r
noncomputable def theNext : Arguments × List Stmt × Scope := partsOf (defIn (partsOf (PySem.Challenge.pw_un0041_01.main.body.getD 43 (.Pass ⟨0, 0, 0, 0⟩))).2.1)
noncomputable def nextP : Arguments := theNext.1
noncomputable def nextB : List Stmt := theNext.2.1
noncomputable def nextS : Scope := theNext.2.2
theorem nextP_is : nextP = nextP := rfl
end
section
noncomputable abbrev lexD (P : Params) (ln : Int) (st : Value) (pb : Nat) (k1 k2 k3 k4 a b : Tok) : List DictEntry :=
  [⟨PyData.keyHash P (Str.ofString "lineno"), .str (Str.ofString "lineno") k1, .int ln a⟩, ⟨PyData.keyHash P (Str.ofString "instream"), .str (Str.ofString "instream") k2, st⟩,
   ⟨PyData.keyHash P (Str.ofString "whitespace"), .str (Str.ofString "whitespace") k3, .str (Str.ofString "\n\t\r ") b⟩, ⟨PyData.keyHash P (Str.ofString "pushback"), .str (Str.ofString "pushback") k4, .ref pb⟩]
noncomputable abbrev strD (P : Params) (st : Value) (pb f : Nat) (k1 k2 k3 k4 a b k5 : Tok) : List DictEntry :=
  [⟨PyData.keyHash P (Str.ofString "lineno"), .str (Str.ofString "lineno") k1, .int 1 a⟩, ⟨PyData.keyHash P (Str.ofString "instream"), .str (Str.ofString "instream") k2, st⟩,
   ⟨PyData.keyHash P (Str.ofString "whitespace"), .str (Str.ofString "whitespace") k3, .str (Str.ofString "\n\t\r ") b⟩, ⟨PyData.keyHash P (Str.ofString "pushback"), .str (Str.ofString "pushback") k4, .ref pb⟩,
   ⟨PyData.keyHash P (Str.ofString "read"), .str (Str.ofString "read") k5, .ref f⟩]
noncomputable abbrev nextQ : Str := Str.ofString "_law_lexer" ++ Str.ofString ".<locals>." ++ Str.ofString "_law_next"
/-- where the lexer's parts lie -/
structure LA where
  (pb x d f c pb1 x1 d1 lf cc : Nat)
  (dc ct mgn : Value)
  (oc ocell : Obj)
  (k : _root_.Fin 20 → Tok)
noncomputable abbrev lexLed (P : Params) (z : LA) (q : Array Value) (qn : Nat) (ln : Int) (lt : Tok) (left : Array Value) (n : Nat) : Led :=
  [(z.pb, W.listOf q qn), (z.x, instObj 113 z.d), (z.d, dictOf (lexD P ln (.ref z.x1) z.pb (z.k 0) (z.k 1) (z.k 2) (z.k 3) lt (z.k 4)) 4),
   (z.f, fnMade (Str.ofString "_law_next") nextQ nextP nextB nextS [(Str.ofString "left", z.cc)] z.dc z.mgn z.c z.ct), (z.c, z.oc), (z.pb1, W.listOf #[] 0),
   (z.x1, instObj 113 z.d1), (z.d1, dictOf (strD P .none z.pb1 z.f (z.k 5) (z.k 6) (z.k 7) (z.k 8) (z.k 9) (z.k 10) (z.k 11)) 5), (z.lf, W.listOf left n), (z.cc, z.ocell)]
noncomputable def LA.Ok (z : LA) : Prop := 218 < z.cc ∧ z.cc < z.lf ∧ z.lf < z.d1 ∧ z.d1 < z.x1 ∧ z.x1 < z.pb1 ∧ z.pb1 < z.c ∧ z.c < z.f ∧ z.f < z.d ∧ z.d < z.x ∧ z.x < z.pb ∧
  z.ocell.data = .cell (some (.ref z.lf)) ∧ ∃ vs t, z.oc.data = .fields vs ∧ vs[1]? = some (.str nextQ t)
theorem rulesLex1_0 : True := by
  k_with_none
  k_with "k_ne" => (refine neN ?_; (try dsimp only); first | exact Nat.ne_of_lt (by with_reducible assumption) | exact Nat.ne_of_gt (by with_reducible assumption) | with_reducible assumption | exact neL_up (by with_reducible assumption) | with_reducible exact neL_13 | with_reducible exact neL_23 | with_reducible exact neL_12 | with_reducible exact neL_31 | with_reducible exact neL_32 | with_reducible exact neL_21 | exact Nat.ne_of_gt (by walk_at "pick") | exact Nat.ne_of_lt (by walk_at "pick") | omega)
  k_with "pick" => first | with_reducible assumption | with_reducible exact j1 (by assumption) | with_reducible exact j2 (by assumption) | with_reducible exact j3 (by assumption) | with_reducible exact j4 (by assumption) | with_reducible exact j5 (by assumption) | with_reducible exact j6 (by assumption) | with_reducible exact j7 (by assumption) | with_reducible exact j8 (by assumption) | with_reducible exact j9 (by assumption) | with_reducible exact j10 (by assumption) | with_reducible exact j11 (by assumption) | with_reducible exact j12 (by assumption) | with_reducible exact j13 (by assumption) | with_reducible exact j14 (by assumption) | with_reducible exact j15 (by assumption)
  k_with "om" => first | walk_at "pick" | with_reducible exact Nat.lt_trans (by assumption) (by walk_at "pick")
  k_with "k_mem" => first | exact List.Mem.head _ | assumption | exact List.mem_append_left _ (by assumption) | exact List.mem_append_right _ (by assumption) | (refine' List.Mem.tail _ ?_; k_extra "k_mem")
  k_with "room" => first | exact rm1 (by assumption) (by decide) | exact rm2 (by assumption) (by decide) | exact rm0 (by assumption) | exact rm3 (by assumption) (by decide) | ktr_room
  k_with "units" => first | exact rm1 (by assumption) (by decide) | exact rm2 (by assumption) (by decide) | exact rm0 (by assumption) | exact rm3 (by assumption) (by decide) | ktr_units
  k_with "lt" => try ((rename ∀ p ∈ (_ : List (Addr × Obj)), @LT.lt Nat _ p.1 _ => q9l9); k_lt q9l9; revert q9l9; intro _)
  k_with "dn" => try dsimp only [List.cons_append, List.nil_append] at ‹News _ _ _ _›
  k_with "dd" => try dsimp only [List.cons_append, List.nil_append] at ‹Obj.IsDictOf _ _ _›
  k_with "ds" => try dsimp only [List.cons_append, List.nil_append] at ‹LexSt _ _ _ _ _›
  k_with "end 0" => (intro q9g' q9L' q9h' q9off' q9FG' q9F' q9N' q9B' q9X' q9T' q9l0'; (try k_lt q9l0'); (try dsimp only); (try k_lift q9B'); (try k_fold))
  k_with "end 1" => (intro q9g' q9L' q9h' q9tk' q9cells' q9off' q9FG' q9F' q9N' q9Y' q9B' q9X' q9T' q9l0'; (try k_lt q9l0'); k_cells q9Y'; (try dsimp only [List.cons_append, List.nil_append] at q9N'); (try dsimp only); (try k_lift q9B'); (try k_fold))
  k_with "enterF" => (k_dflt (refine' enterF (by k_asm) (by k_asm) (by k_asm) (by k_asm) (by k_asm) (by exact rfl) (by exact rfl) (by assumption) (by k_is) (by k_is) (by walk_at "room") (by first | exact BindsTo.of_eq rfl | exact binds_K (by k_in) rfl (by k_is) rfl rfl rfl) (by exact locs rfl) ?_ (by exact rfl) (by exact rfl) (by exact rfl) (by decide); k_whole; walk_at "end 0"))
  k_with "enterFC" => (k_dflt (refine' enterFC (by k_asm) (by k_asm) (by k_asm) (by k_asm) (by k_asm) (by exact rfl) (by exact rfl) (by assumption) (by k_is) (by k_is) (by walk_at "room") (by first | exact BindsTo.of_eq rfl | exact binds_K (by k_in) rfl (by k_is) rfl rfl rfl) (by exact rfl) (by decide +kernel) ?_ (by exact rfl) (by exact rfl) (by exact rfl); k_whole; walk_at "end 1"))
  k_with "call type:list" => (k_here; (with_reducible show wpAny _ _ (call (Value.type "list") [Value.str _ _]) _ _ _); k_dflt (refine' list_str_N (by exact rfl) (by k_asm) (by k_asm) (by assumption) ?_; k_whole); intros; walk_at "lt"; (try k_sweep))
  k_with "call builtin:list.pop" => (k_here; (with_reducible show wpAny _ _ (call (Value.builtin _) [Value.ref _, Value.int _ _]) _ _ _); k_dflt (refine' pop0_N (by k_asm) (by k_asm) (by k_upd) (by omega) ?_); intros; (try k_sweep))
  k_with "getMethod ref" => (k_here; k_dflt (refine' kmu_own (by k_asm) (by k_asm) (by k_inst) (by k_is) (by k_is) ?_; k_whole))
  exact True.intro

theorem read_con (w : World) (p : Program) (loose : List Str) (mean : ExcName → Option Value) (mg mb : Str → Option Value) (z : LA) (hz : z.Ok) (q : Array Value) (qn : Nat) (ln : Int) (lt : Tok) (c : Nat) (t : Tok) (vs : List Value) (n : Nat) (hlen : vs.length < 10000) :
   ConF PySem.Challenge.rw_un0041_01.row.prog w (hd.heap_39 w.params) p loose mean mg mb 3 96 [.ref z.x] (lexLed w.params z q qn ln lt (Value.str ⟨#[c]⟩ t :: vs).toArray n)
    (fun r E1 => r = .str ⟨#[c]⟩ t ∧ ∃ ln' lt', E1 = lexLed w.params z q qn ln' lt' vs.toArray (n + 1)) := by
  k_fill
  obtain ⟨pb, x, d, f, c1, pb1, x1, d1, lf, cc, dc, ct, mgn, oc, ocell, k⟩ := z
  obtain ⟨o1, o2, o3, o4, o5, o6, o7, o8, o9, o10, hcell, vs9, t9, hoc, hoc1⟩ := hz
  have r1 : lf < x1 := Nat.lt_trans o3 o4
  have r2 : lf < pb1 := Nat.lt_trans r1 o5
  have r3 : lf < c1 := Nat.lt_trans r2 o6
  have r4 : lf < f := Nat.lt_trans r3 o7
  have r5 : lf < d := Nat.lt_trans r4 o8
  have r6 : lf < x := Nat.lt_trans r5 o9
  have r7 : lf < pb := Nat.lt_trans r6 o10
  have d1d : c1 < d := Nat.lt_trans o7 o8
  have d2d : pb1 < d := Nat.lt_trans o6 d1d
  have d3d : x1 < d := Nat.lt_trans o5 d2d
  have d4d : d1 < d := Nat.lt_trans o4 d3d
  have d6d : cc < d := Nat.lt_trans o2 r5
  have d7d : d < pb := Nat.lt_trans o9 o10
  dsimp only at *
  have eP : nextP = nextP := rfl
  conv at eP => rhs; whnf
  have eB : nextB = nextB := rfl
  conv at eB => rhs; whnf
  have eS : nextS = nextS := rfl
  conv at eS => rhs; whnf
  intro dp un gd cn cs a ccd cl outer A₀ base h₀ L m s R B F X N T hk hd hu ret
  dsimp only [lexLed, lexD, strD] at N ret
  rw [eP, eB, eS] at N ret
  clear eP eB eS
  have codeHd := codeHd_of_K (c := 222) (P := 218) X (by kernel_rfl)
  walk_at "enterF"
  k_steps
  all_goals exact ret _ _ _ _ (by k_asm) (by k_asm) (Off.trans (by assumption) (Fr.keep (by k_asm))) ⟨rfl, _, _, rfl⟩
theorem read_end (w : World) (p : Program) (loose : List Str) (mean : ExcName → Option Value) (mg mb : Str → Option Value) (z : LA) (hz : z.Ok) (q : Array Value) (qn : Nat) (ln : Int) (lt : Tok) (n : Nat) :
   ConF PySem.Challenge.rw_un0041_01.row.prog w (hd.heap_39 w.params) p loose mean mg mb 3 96 [.ref z.x] (lexLed w.params z q qn ln lt #[] n)
    (fun r E1 => (∃ t, r = .str (Str.ofString "") t) ∧ E1 = lexLed w.params z q qn ln lt #[] n) := by
  k_fill
  obtain ⟨pb, x, d, f, c1, pb1, x1, d1, lf, cc, dc, ct, mgn, oc, ocell, k⟩ := z
  obtain ⟨o1, o2, o3, o4, o5, o6, o7, o8, o9, o10, hcell, vs9, t9, hoc, hoc1⟩ := hz
  have r1 : lf < x1 := Nat.lt_trans o3 o4
  have r2 : lf < pb1 := Nat.lt_trans r1 o5
  have r3 : lf < c1 := Nat.lt_trans r2 o6
  have r4 : lf < f := Nat.lt_trans r3 o7
  have r5 : lf < d := Nat.lt_trans r4 o8
  have r6 : lf < x := Nat.lt_trans r5 o9
  have r7 : lf < pb := Nat.lt_trans r6 o10
  have d1d : c1 < d := Nat.lt_trans o7 o8
  have d2d : pb1 < d := Nat.lt_trans o6 d1d
  have d3d : x1 < d := Nat.lt_trans o5 d2d
  have d4d : d1 < d := Nat.lt_trans o4 d3d
  have d6d : cc < d := Nat.lt_trans o2 r5
  have d7d : d < pb := Nat.lt_trans o9 o10
  dsimp only at *
  have eP : nextP = nextP := rfl
  conv at eP => rhs; whnf
  have eB : nextB = nextB := rfl
  conv at eB => rhs; whnf
  have eS : nextS = nextS := rfl
  conv at eS => rhs; whnf
  intro dp un gd cn cs a ccd cl outer A₀ base h₀ L m s R B F X N T hk hd hu ret
  dsimp only [lexLed, lexD, strD] at N ret
  rw [eP, eB, eS] at N ret
  clear eP eB eS
  have codeHd := codeHd_of_K (c := 222) (P := 218) X (by kernel_rfl)
  walk_at "enterF"
  k_steps
  all_goals skip
  all_goals exact ret _ _ _ _ (by k_asm) (by k_asm) (Off.trans (by assumption) (Fr.keep (by k_asm))) ⟨⟨_, rfl⟩, rfl⟩
end
section
open Sem (wp)
open AutoSeq1 (wpAny_loadPart')
theorem rulesTup41 : True := by
  k_with_none
  k_with "k_ne" => (refine neN ?_; (try dsimp only); first | exact Nat.ne_of_lt (by with_reducible assumption) | exact Nat.ne_of_gt (by with_reducible assumption) | with_reducible assumption | exact neL_up (by with_reducible assumption) | with_reducible exact neL_13 | with_reducible exact neL_23 | with_reducible exact neL_12 | with_reducible exact neL_31 | with_reducible exact neL_32 | with_reducible exact neL_21 | exact Nat.ne_of_gt (by walk_at "pick") | exact Nat.ne_of_lt (by walk_at "pick") | omega)
  k_with "pick" => first | with_reducible assumption | with_reducible exact j1 (by assumption) | with_reducible exact j2 (by assumption) | with_reducible exact j3 (by assumption) | with_reducible exact j4 (by assumption) | with_reducible exact j5 (by assumption) | with_reducible exact j6 (by assumption) | with_reducible exact j7 (by assumption) | with_reducible exact j8 (by assumption) | with_reducible exact j9 (by assumption) | with_reducible exact j10 (by assumption) | with_reducible exact j11 (by assumption) | with_reducible exact j12 (by assumption) | with_reducible exact j13 (by assumption) | with_reducible exact j14 (by assumption) | with_reducible exact j15 (by assumption)
  k_with "om" => first | walk_at "pick" | with_reducible exact Nat.lt_trans (by assumption) (by walk_at "pick")
  k_with "k_mem" => first | exact List.Mem.head _ | assumption | exact List.mem_append_left _ (by assumption) | exact List.mem_append_right _ (by assumption) | (refine' List.Mem.tail _ ?_; k_extra "k_mem")
  k_with "room" => first | exact rm1 (by assumption) (by decide) | exact rm2 (by assumption) (by decide) | exact rm0 (by assumption) | exact rm3 (by assumption) (by decide) | ktr_room
  k_with "units" => first | exact rm1 (by assumption) (by decide) | exact rm2 (by assumption) (by decide) | exact rm0 (by assumption) | exact rm3 (by assumption) (by decide) | ktr_units
  k_with "lt" => try ((rename ∀ p ∈ (_ : List (Addr × Obj)), @LT.lt Nat _ p.1 _ => q9l9); k_lt q9l9; revert q9l9; intro _)
  k_with "dn" => try dsimp only [List.cons_append, List.nil_append] at ‹News _ _ _ _›
  k_with "dd" => try dsimp only [List.cons_append, List.nil_append] at ‹Obj.IsDictOf _ _ _›
  k_with "ds" => try dsimp only [List.cons_append, List.nil_append] at ‹LexSt _ _ _ _ _›
  exact True.intro
section
variable {prog : Program} {w : World} {A : Around} {E : Value → Shared → Prop} {s : Shared}
theorem nextOf_tuple_item {it t : Addr} {i : Nat} {items} {x : Value} {Q : Value → Shared → Prop} (hit : s.heap.IsTupleIter it t i)
    (ht : s.heap.IsTuple t items) (hx : items[i]? = some x)
    (hQ : ∀ h', h'.IsTupleIter it t (i + 1) → Heap.SameBut it s.heap h' → Q x { s with heap := h' }) :
    wpAny (model prog w) A (Builtin.SmallTypes.nextOf (.ref it)) Q E s := by
  obtain ⟨o, ho, hc, hd⟩ := id hit
  obtain ⟨ol, hol, _, nl, hdl⟩ := ht
  unfold Builtin.SmallTypes.nextOf
  refine wpAny_bind (wpAny_callSpecial?_slot (name := Str.ofString "__next__") hit.typeIs F.slot_tuple_iterator_next
    (wpAny_call_entry F.slot_tuple_iterator_next hit.typeIs F.entry_tuple_iterator_next ?_ (F.args_tuple_iterator_next_1 _)))
  show wpAny _ _ (field (.ref it) 0 >>= _) _ _ s
  refine wpAny_bind (wpAny_field ho hd (x := .ref t) rfl ?_)
  show wpAny _ _ (if (Value.ref t == Value.none) = true then _ else _) _ _ s
  rw [if_neg (show ¬ ((Value.ref t == Value.none) = true) from Bool.false_ne_true)]
  show wpAny _ _ (field (.ref it) 1 >>= _) _ _ s
  refine wpAny_bind (wpAny_field ho hd (x := .int i 0) rfl ?_)
  show wpAny _ _ (seqItems? (.ref t) >>= _) _ _ s
  refine wpAny_bind (wpAny_seqItems hol hdl ?_)
  simp only [Int.toNat_natCast, hx]
  refine wpAny_bind (wpAny_setField ho hd (by simp) (wpAny_pure ⟨x, rfl, wpAny_pure (hQ _ ?_ (Heap.SameBut.update ..))⟩))
  exact ⟨_, Heap.get?_update_self _ ho (Obj.isFreed_of_fields (Obj.data_mapFields hd _)), (Obj.cls_mapFields ..).trans hc, by
    rw [Obj.data_mapFields hd]; simp [rawInt]⟩

theorem nextOf_tuple_end {it t : Addr} {i : Nat} {items} {Q : Value → Shared → Prop} (hh : A.handled = none)
    (hit : s.heap.IsTupleIter it t i) (ht : s.heap.IsTuple t items) (hx : items[i]? = none)
    (hE : ∀ h' e, Heap.ExtBut it s.heap h' → (∃ o, h'.get? e = some o ∧ o.cls = .type "StopIteration") → E (.ref e) { s with heap := h' }) :
    wpAny (model prog w) A (Builtin.SmallTypes.nextOf (.ref it)) Q E s := by
  obtain ⟨o, ho, hc, hd⟩ := id hit
  obtain ⟨ol, hol, _, nl, hdl⟩ := ht
  unfold Builtin.SmallTypes.nextOf
  refine wpAny_bind (wpAny_callSpecial?_slot (name := Str.ofString "__next__") hit.typeIs F.slot_tuple_iterator_next
    (wpAny_call_entry F.slot_tuple_iterator_next hit.typeIs F.entry_tuple_iterator_next ?_ (F.args_tuple_iterator_next_1 _)))
  show wpAny _ _ (field (.ref it) 0 >>= _) _ _ s
  refine wpAny_bind (wpAny_field ho hd (x := .ref t) rfl ?_)
  show wpAny _ _ (if (Value.ref t == Value.none) = true then _ else _) _ _ s
  rw [if_neg (show ¬ ((Value.ref t == Value.none) = true) from Bool.false_ne_true)]
  show wpAny _ _ (field (.ref it) 1 >>= _) _ _ s
  refine wpAny_bind (wpAny_field ho hd (x := .int i 0) rfl ?_)
  show wpAny _ _ (seqItems? (.ref t) >>= _) _ _ s
  refine wpAny_bind (wpAny_seqItems hol hdl ?_)
  simp only [Int.toNat_natCast, hx]
  refine wpAny_bind (wpAny_rule (wpAny_bind (wpAny_setField ho hd (by simp) ?_)))
  show wpAny _ _ (newExc (.type "StopIteration") [] >>= _) _ _ _
  refine wpAny_bind ?_
  simp only [newExc, newTuple]
  refine wpAny_bind (wpAny_newObj_type ?_ (by size_fits))
  refine wpAny_bind (m := firstArgMember _ _) (wpAny_of_eq (a := Value.none) (by first | rfl | (simp only [firstArgMember]; rfl)) ?_)
  refine wpAny_newObj_type ?_ (by size_fits)
  simp only [raiseNew]
  refine wpAny_bind (wpAny_handled ?_)
  first | rw [show A.in1.handled = none from hh] | rw [hh]
  refine wpAny_bind (wpAny_pure (wpAny_throw ?_))
  exact hE _ _ (((Heap.SameBut.update ..).extBut.push _).push _) ⟨_, Heap.get?_push_size _ rfl, rfl⟩

theorem Draws_tuple {prog : Program} {w : World} {A : Around} (hh : A.handled = none) (it l : Addr) (hne : l ≠ it) (items : Array Value) :
    Draws prog w A it [it, l] items.size (fun i v => items[i]? = some v) (fun i h => h.IsTupleIter it l i ∧ h.IsTuple l items) where
  live := fun _ _ st => let ⟨o, ho, _⟩ := st.1; ⟨o, ho⟩
  frame := fun _ _ _ st hk => ⟨st.1.at fun o e => hk it (by simp) o e, st.2.at fun o e => hk l (by simp) o e⟩
  item := fun i s Q E hi st hQ => by
    refine nextOf_tuple_item st.1 st.2 (x := items[i]) (by simp [hi]) fun h' hit' hs' => ?_
    exact hQ _ h' s.toks (by simp [hi]) ⟨hit', st.2.extBut hs'.extBut hne⟩ hs'
  done := fun s Q E st hE => nextOf_tuple_end hh st.1 st.2 (by simp) hE

theorem meets_enumerate_newT (l : Addr) (items : Array Value) (n : Nat) (dct : Option Addr) (sl : Array (Option Value)) :
    Meets (Builtin.«enumerate.__new__» ⟨[.type "enumerate", .ref l], []⟩) (fun _ R s => s.heap.get? l = some { cls := .type "tuple", dict := dct, data := .seq items n, slots := sl } ∧
      R (.ok (.ret (.ref (s.heap.push { cls := .type "tuple_iterator", data := .fields #[.ref l, .int 0 0] }).objs.size)))
        { s with heap := (s.heap.push { cls := .type "tuple_iterator", data := .fields #[.ref l, .int 0 0] }).push { cls := .type "enumerate", data := .fields #[.none, .bool false, .ref s.heap.objs.size, rawInt 0, .none, .none] } }) :=
  .of_wp fun prog w A R s h => by
    obtain ⟨hp, g, d, tk, os⟩ := s; obtain ⟨hl, h⟩ := h
    have hsub := sub_enumerate
    have hL : Heap.IsTuple (Shared.heap ⟨hp, g, d, tk, os⟩) l items := ⟨_, hl, rfl, n, rfl⟩
    wp_walk using wpAny_loadPart' hl
    refine wpAny_stack_any fun st => wpAny_pure ?_
    split
    · rename_i c _ _ _ _ _
      cases (c == Value.type "enumerate")
      · wp_walk using wpAny_loadPart' hl, wpAny_pyIter_tuple hL
        exact ⟨_, rfl, h⟩
      · wp_walk using wpAny_loadPart' hl, wpAny_pyIter_tuple hL
        exact ⟨_, rfl, h⟩
    · wp_walk using wpAny_loadPart' hl, wpAny_pyIter_tuple hL
      exact ⟨_, rfl, h⟩
noncomputable abbrev tiObj (l : Addr) : Obj := { cls := .type "tuple_iterator", data := .fields #[.ref l, .int 0 0] }
noncomputable abbrev enObj (it : Addr) : Obj := { cls := .type "enumerate", data := .fields #[.none, .bool false, .ref it, rawInt 0, .none, .none] }
theorem call_enum_tuple {l : Addr} {items : Array Value} {Q : Value → Shared → Prop} (hL : s.heap.IsTuple l items)
    (h : Q (.ref (s.heap.objs.size + 1)) { s with heap := (s.heap.push (tiObj l)).push (enObj s.heap.objs.size) }) :
    wpAny (model prog w) A (call (.type "enumerate") [.ref l]) Q E s := by
  obtain ⟨⟨c, dct, dt, sl⟩, hl, hc, n, hd⟩ := hL
  replace hc : c = .type "tuple" := hc
  replace hd : dt = .seq items n := hd
  subst hc hd
  refine callType_new F.called_enumerate (by decide) (F.typeCall_enumerate_1 _) (F.newCall_enumerate_1 _) (fun obj => F.args_object_init_2 obj _) F.entry_enumerate_new
    (meets_enumerate_newT l items n dct sl) ⟨hl, ?_⟩
  have hz : (s.heap.push (tiObj l)).objs.size = s.heap.objs.size + 1 := Heap.size_push ..
  show _ ∧ _
  rw [hz]
  have he : ((s.heap.push (tiObj l)).push (enObj s.heap.objs.size)).get? (s.heap.objs.size + 1) = some (enObj s.heap.objs.size) := by
    have := Heap.get?_push_size (s.heap.push (tiObj l)) (o := enObj s.heap.objs.size) rfl
    rw [hz] at this; exact this
  exact ⟨⟨_, he, rfl⟩, h⟩
end
section
variable {prog : Program} {w : World} {A : Around} {E : Value → Shared → Prop} {s : Shared} {h₀ : Heap} {L : Addr} {m : Str → Option Value} {news : Led}
theorem enum_tuple_N {l : Addr} {items : Array Value} {Q : Value → Shared → Prop} (F : Fr h₀ L s.heap m) (N : News h₀ L s.heap news) (hL : IsTup h₀ l items)
    (h : ∀ e it h', Fr h₀ L h' m → News h₀ L h' ((e, enObj it) :: (it, tiObj l) :: news) → @LT.lt Nat _ it e → (∀ p ∈ news, p.1 < it) → Q (.ref e) { s with heap := h' }) :
    wpAny (model prog w) A (call (.type "enumerate") [.ref l]) Q E s := by
  have hL' : s.heap.IsTuple l items := by
    obtain ⟨o, ho, r⟩ := hL
    exact ⟨o, F.keep _ _ ho, r⟩
  refine call_enum_tuple hL' ?_
  have N1 : News h₀ L (s.heap.push (tiObj l)) ((s.heap.objs.size, tiObj l) :: news) := N.push F _ rfl
  have N2 := N1.push (F.push (tiObj l)) (enObj s.heap.objs.size) rfl
  rw [Heap.size_push] at N2
  exact h _ _ _ ((F.push _).push _) N2 (Nat.lt_succ_self _) fun p hp => Heap.lt_size (N p hp).1
end
end
section
theorem Fr_chg {h₀ h h' : Heap} {L : Addr} {m : Str → Option Value} {ws : List Addr} (F : Fr h₀ L h m) (hk : ∀ b o, b ∉ ws → h.get? b = some o → h'.get? b = some o) (hL : L ∉ ws) (hn : ∀ b ∈ ws, h₀.get? b = none) : Fr h₀ L h' m :=
  ⟨F.ns.at' fun o e => hk _ _ hL e, fun b o e => hk _ _ (fun hb => by rw [hn b hb] at e; cases e) (F.keep b o e), F.above⟩
theorem News_chg {h₀ h h' : Heap} {L : Addr} {ws : List Addr} {rest : Led} (N : News h₀ L h rest) (hk : ∀ b o, b ∉ ws → h.get? b = some o → h'.get? b = some o) (hr : ∀ p ∈ rest, p.1 ∉ ws) : News h₀ L h' rest :=
  fun p hp => ⟨hk _ _ (hr p hp) (N p hp).1, (N p hp).2⟩
noncomputable def TiAt (o : Obj) (t : Addr) (i : Nat) : Prop := o.cls = .type "tuple_iterator" ∧ o.data = .fields #[.ref t, .int i 0]
noncomputable abbrev enRec (it : Addr) (i : Int) (old : Value) : Obj := { cls := .type "enumerate", data := .fields #[.none, .bool false, .ref it, rawInt i, .none, old] }
section
variable {prog : Program} {w : World} {A : Around} {s : Shared} {target : Expr} {body orelse : List Stmt} {env : Env} {R : Result → Shared → Prop} {g : Heap} {L : Addr} {m : Str → Option Value} {I t : Addr} {oI : Obj} {items : Array Value} {i : Nat} {rest : Led}
theorem ti_item {x : Value} (F : Fr g L s.heap m) (N : News g L s.heap ((I, oI) :: rest)) (hr : ∀ p ∈ rest, p.1 ≠ I) (ht : IsTup g t items) (hi : TiAt oI t i) (hx : items[i]? = some x)
    (h : ∀ h' oI', Fr g L h' m → News g L h' ((I, oI') :: rest) → TiAt oI' t (i + 1) → wpAny (model prog w) A (assign target env x) (fun _ s₃ => wpAny (model prog w) A (execs body env) (fun f s₄ => match f with
      | .next | .cont => codeAny (model prog w) A (.forLoop target (.ref I) body orelse env) R s₄
      | .brk => R (.ok .next) s₄
      | .ret v => R (.ok (.ret v)) s₄) NoE s₃) NoE { s with heap := h' }) :
    codeAny (model prog w) A (.forLoop target (.ref I) body orelse env) R s := by
  have NI := N _ (.head _)
  have hit : s.heap.IsTupleIter I t i := ⟨oI, NI.1, hi.1, hi.2⟩
  have ht' : s.heap.IsTuple t items := by obtain ⟨o, ho, r⟩ := ht; exact ⟨o, F.keep _ _ ho, r⟩
  refine for_turn (wpAny_pyNext_tuple_item hit ht' hx fun h' hit' hs' => ?_)
  show wpAny _ _ (letOwnedTupleGo _ _ _) _ _ _
  refine letGo_tupleiter hit' ?_
  obtain ⟨oI', h1, h2, h3⟩ := hit'
  have hk : ∀ b o, b ∉ [I] → s.heap.get? b = some o → h'.get? b = some o := fun b o hb e => (hs'.2 b (by simpa using hb)).trans e
  have nI : ∀ b ∈ [I], g.get? b = none := fun b hb => by rw [List.mem_singleton.mp hb]; exact NI.2.2
  refine h h' oI' (Fr_chg F hk (by simpa using Ne.symm NI.2.1) nI) (fun p hp => ?_) ⟨h2, h3⟩
  rcases List.mem_cons.mp hp with rfl | hp
  · exact ⟨h1, NI.2⟩
  · exact News_chg (rest := rest) (fun p hp => N p (.tail _ hp)) hk (fun p hp => by simpa using hr p hp) p hp
theorem ti_end (hh : A.handled = none) (F : Fr g L s.heap m) (N : News g L s.heap ((I, oI) :: rest)) (hr : ∀ p ∈ rest, p.1 ≠ I) (ht : IsTup g t items) (hi : TiAt oI t i) (hx : items[i]? = none)
    (h : ∀ h', Fr g L h' m → News g L h' rest → wpAny (model prog w) A (execs orelse env) (fun f s' => R (.ok f) s') NoE { s with heap := h' }) :
    codeAny (model prog w) A (.forLoop target (.ref I) body orelse env) R s := by
  have NI := N _ (.head _)
  have hit : s.heap.IsTupleIter I t i := ⟨oI, NI.1, hi.1, hi.2⟩
  have ht' : s.heap.IsTuple t items := by obtain ⟨o, ho, r⟩ := ht; exact ⟨o, F.keep _ _ ho, r⟩
  refine for_turn (wpAny_pyNext_tuple_end hh hit ht' hx fun h' hs' => ?_)
  have hk : ∀ b o, b ∉ [I] → s.heap.get? b = some o → h'.get? b = some o := fun b o hb e => hs' b o (by simpa using hb) e
  have nI : ∀ b ∈ [I], g.get? b = none := fun b hb => by rw [List.mem_singleton.mp hb]; exact NI.2.2
  exact h h' (Fr_chg F hk (by simpa using Ne.symm NI.2.1) nI) (News_chg (rest := rest) (fun p hp => N p (.tail _ hp)) hk (fun p hp => by simpa using hr p hp))
theorem en_item {e : Addr} {old x : Value} {elts : List Expr} {x1 : Nat} {pos : Pos} (hh : A.in1.handled = none) (F : Fr g L s.heap m) (N : News g L s.heap ((e, enRec I i old) :: (I, oI) :: rest)) (he : I ≠ e) (hr : ∀ p ∈ rest, p.1 ≠ I ∧ p.1 ≠ e) (ht : IsTup g t items) (hi : TiAt oI t i) (hx : items[i]? = some x)
    (h : ∀ T tk h' oI', Fr g L h' m → News g L h' ((T, { cls := .type "tuple", data := .seq #[.int i tk, x] }) :: (e, enRec I ((i + 1 : Nat) : Int) x) :: (I, oI') :: rest) → (∀ p ∈ rest, p.1 < T) → @LT.lt Nat _ e T → @LT.lt Nat _ I T → TiAt oI' t (i + 1) → wpAny (model prog w) A (assign (.Tuple elts x1 pos) env (.ref T)) (fun _ s₃ => wpAny (model prog w) A (execs body env) (fun f s₄ => match f with
      | .next | .cont => codeAny (model prog w) A (.forLoop (.Tuple elts x1 pos) (.ref e) body orelse env) R s₄
      | .brk => R (.ok .next) s₄
      | .ret v => R (.ok (.ret v)) s₄) NoE s₃) NoE { s with heap := h', toks := tk + 1 }) :
    codeAny (model prog w) A (.forLoop (.Tuple elts x1 pos) (.ref e) body orelse env) R s := by
  have NE := N _ (.head _)
  have NI := N _ (.tail _ (.head _))
  have NR : News g L s.heap rest := fun p hp => N p (.tail _ (.tail _ hp))
  have hit : s.heap.IsTupleIter I t i := ⟨oI, NI.1, hi.1, hi.2⟩
  have ht' : s.heap.IsTuple t items := by obtain ⟨o, ho, r⟩ := ht; exact ⟨o, F.keep _ _ ho, r⟩
  have tI : t ≠ I := fun q => by obtain ⟨o, ho, _⟩ := ht; rw [q] at ho; exact nomatch ho.symm.trans NI.2.2
  have tE : t ≠ e := fun q => by obtain ⟨o, ho, _⟩ := ht; rw [q] at ho; exact nomatch ho.symm.trans NE.2.2
  have hlt : i < items.size := (Array.getElem?_eq_some_iff.mp hx).1
  refine for_turn (wpAny_pyNext_enum_itemD (Draws_tuple hh I t tI items) NE.1 ⟨hit, ht'⟩ hlt (Ne.symm he) (by simpa using ⟨Ne.symm he, Ne.symm tE⟩) fun x' h' tk hP ho hs' hT hsz hk => ?_)
  obtain rfl : x' = x := Option.some.inj ((show items[i]? = some x' from hP).symm.trans hx)
  show wpAny _ _ (letOwnedTupleGo _ _ _) _ _ _
  refine wpAny_letOwnedTupleGo_enum ho fun h'' he' hs'' => ?_
  have hel : @LT.lt Nat _ e s.heap.objs.size := Heap.lt_size NE.1
  have hIl : @LT.lt Nat _ I s.heap.objs.size := Heap.lt_size NI.1
  obtain ⟨oI', h1, h2, h3⟩ := hs'.1
  have hk2 : ∀ b o, b ∉ [e, I] → s.heap.get? b = some o → h''.get? b = some o := fun b o hb y => (hs''.2 b (by simp at hb; exact hb.1)).trans (hk b o (by simp at hb; exact hb.1) (by simp at hb; exact hb.2) y)
  have nW : ∀ b ∈ [e, I], g.get? b = none := fun b hb => by
    rcases List.mem_cons.mp hb with rfl | hb
    · exact NE.2.2
    · rw [List.mem_singleton.mp hb]; exact NI.2.2
  refine h s.heap.objs.size tk h'' oI' (Fr_chg F hk2 (by simpa using ⟨Ne.symm NE.2.1, Ne.symm NI.2.1⟩) nW) (fun p hp => ?_) (fun p hp => Heap.lt_size (NR p hp).1) hel hIl ⟨h2, h3⟩
  rcases List.mem_cons.mp hp with rfl | hp
  · refine ⟨(hs''.2 _ (Nat.ne_of_gt hel)).trans hT, ?_, ?_⟩
    · obtain ⟨oL, _, _, hL, _⟩ := F.ns
      exact Nat.ne_of_gt (Heap.lt_size hL)
    · cases q : g.get? s.heap.objs.size with
      | none => rfl
      | some o => exact absurd (Heap.lt_size (F.keep _ _ q)) (Nat.lt_irrefl _)
  rcases List.mem_cons.mp hp with rfl | hp
  · exact ⟨he', NE.2⟩
  rcases List.mem_cons.mp hp with rfl | hp
  · exact ⟨(hs''.2 _ he).trans h1, NI.2⟩
  · exact News_chg NR hk2 (fun p hp => by simpa using ⟨(hr p hp).2, (hr p hp).1⟩) p hp
theorem en_end {e : Addr} {old : Value} (hh : A.in1.handled = none) (F : Fr g L s.heap m) (N : News g L s.heap ((e, enRec I i old) :: (I, oI) :: rest)) (hr : ∀ p ∈ rest, p.1 ≠ I) (ht : IsTup g t items) (hi : TiAt oI t i) (hx : i = items.size)
    (h : ∀ h', Fr g L h' m → News g L h' rest → wpAny (model prog w) A (execs orelse env) (fun f s' => R (.ok f) s') NoE { s with heap := h' }) :
    codeAny (model prog w) A (.forLoop target (.ref e) body orelse env) R s := by
  subst hx
  have NE := N _ (.head _)
  have NI := N _ (.tail _ (.head _))
  have NR : News g L s.heap rest := fun p hp => N p (.tail _ (.tail _ hp))
  have hit : s.heap.IsTupleIter I t items.size := ⟨oI, NI.1, hi.1, hi.2⟩
  have ht' : s.heap.IsTuple t items := by obtain ⟨o, ho, r⟩ := ht; exact ⟨o, F.keep _ _ ho, r⟩
  have tI : t ≠ I := fun q => by obtain ⟨o, ho, _⟩ := ht; rw [q] at ho; exact nomatch ho.symm.trans NI.2.2
  refine for_turn (wpAny_pyNext_enum_endD (Draws_tuple hh I t tI items) NE.1 ⟨hit, ht'⟩ fun h' hs' => ?_)
  have hk : ∀ b o, b ∉ [I] → s.heap.get? b = some o → h'.get? b = some o := fun b o hb e => hs' b o (by simpa using hb) e
  have nI : ∀ b ∈ [I], g.get? b = none := fun b hb => by rw [List.mem_singleton.mp hb]; exact NI.2.2
  exact h h' (Fr_chg F hk (by simpa using Ne.symm NI.2.1) nI) (News_chg NR hk (fun p hp => by simpa using hr p hp))
end
end
section
open PyProof.Rows.LCg
section
variable {prog : Program} {w : World} {A : Around} {s : Shared} {target iter elt : Expr} {ifs : List Expr} {scope : Scope} {pos : Pos} {it acc : Value} {env : Env} {R : Result → Shared → Prop}
noncomputable abbrev compTest (ifs : List Expr) (env : Env) : Sem Bool := forIn ifs true fun c r => if r = true then do let ok ← isTrue c env (eval c env); pure (ForInStep.yield ok) else pure (ForInStep.yield r)
noncomputable def CompNx (prog : Program) (w : World) (A : Around) (elt target iter : Expr) (ifs : List Expr) (scope : Scope) (pos : Pos) (it acc : Value) (env : Env) (R : Result → Shared → Prop) (r : Option Value) (s : Shared) : Prop := match r with
  | none => R (.ok .next) s
  | some v => wpAny (model prog w) A (letOwnedTupleGo target it v) (fun _ s₂ => wpAny (model prog w) A (assign target env v) (fun _ s₃ => wpAny (model prog w) A (compTest ifs env) (fun ok s₄ =>
      if ok = true then wpAny (model prog w) A (eval elt env) (fun x s₅ => wpAny (model prog w) A (call (.builtin "list.append") [acc, x]) (fun _ s₆ => codeAny (model prog w) A (.compLoop (.ListComp elt [⟨target, iter, ifs, 0⟩] scope pos) 0 it acc env) R s₆) NoE s₅) NoE s₄
      else codeAny (model prog w) A (.compLoop (.ListComp elt [⟨target, iter, ifs, 0⟩] scope pos) 0 it acc env) R s₄) NoE s₃) NoE s₂) NoE s
theorem comp_turn (h : wpAny (model prog w) A (pyNext it) (CompNx prog w A elt target iter ifs scope pos it acc env R) NoE s) :
    codeAny (model prog w) A (.compLoop (.ListComp elt [⟨target, iter, ifs, 0⟩] scope pos) 0 it acc env) R s := by
  refine codeAny_of_tree ?_
  rw [Around.under_of_weight (show Code.weight _ = 0 from rfl) rfl]
  show wpAny _ A ((compTurn (.ListComp elt [⟨target, iter, ifs, 0⟩] scope pos) 0 it acc env).onRaise _) _ _ s
  refine wpAny_onRaise ?_
  rw [compTurn_list]
  refine wpAny_bind (wpAny_standAt (wpAny_bind (wpAny_mono h (fun r s₁ z => ?_) fun _ _ x => x.elim)))
  cases r with
  | none => exact wpAny_pure z
  | some v =>
    refine wpAny_bind (wpAny_mono z (fun _ s₂ z => ?_) fun _ _ x => x.elim)
    refine wpAny_bind (wpAny_mono z (fun _ s₃ z => ?_) fun _ _ x => x.elim)
    refine wpAny_bind (wpAny_mono z (fun ok s₄ z => ?_) fun _ _ x => x.elim)
    cases ok with
    | false => exact wpAny_pure ⟨rfl, z⟩
    | true => exact wpAny_bind (wpAny_bind (wpAny_mono z (fun x s₅ z => wpAny_bind (wpAny_mono z (fun _ s₆ z => wpAny_pure (wpAny_pure ⟨rfl, z⟩)) fun _ _ x => x.elim)) fun _ _ x => x.elim))
end
noncomputable def LcEnd (h₀ : Heap) (L : Addr) (m : Str → Option Value) (C : Addr) (K : Shared → Prop) (r : Result) (s' : Shared) : Prop :=
  r = .ok .next ∧ ∃ oC' m' news', NsObj oC' m' ∧ News h₀ L s'.heap ((C, oC') :: news') ∧ (∀ p ∈ news', p.1 ≠ C) ∧ Fr h₀ L s'.heap m ∧ ∀ h'', Fr h₀ L h'' m → News h₀ L h'' news' → K { s' with heap := h'' }
noncomputable def LcGo (prog : Program) (w : World) (A : Around) (h₀ : Heap) (L : Addr) (m : Str → Option Value) (env : Env) (elt target iter : Expr) (ifs : List Expr) (scope : Scope) (cl : List (Str × Addr)) (pos : Pos) (Q : Value → Shared → Prop) (it : Value) (s₂ : Shared) : Prop :=
  ∃ news, Fr h₀ L s₂.heap m ∧ News h₀ L s₂.heap news ∧ (∀ (s' : Shared) (Q' : Value → Shared → Prop) (E' : Value → Shared → Prop), (∀ p ∈ news, s'.heap.get? p.1 = some p.2) → Q' it s' → wpAny (model prog w) A (pyIter it) Q' E' s') ∧
    ∀ D C oC m₀ h tk, NsObj oC m₀ → Fr h₀ L h m → News h₀ L h ((C, oC) :: (D, lst []) :: news) → @LT.lt Nat _ D C → (∀ p ∈ news, p.1 < D) →
      codeAny (model prog w) A (.compLoop (.ListComp elt [⟨target, iter, ifs, 0⟩] scope pos) 0 it (.ref D) (compEnvC scope cl C env)) (LcEnd h₀ L m C (Q (.ref D))) { s₂ with heap := h, toks := tk }
section
variable {prog : Program} {w : World} {A : Around} {s : Shared} {target iter elt : Expr} {ifs : List Expr} {scope : Scope} {pos : Pos} {env : Env} {h₀ : Heap} {L : Addr} {m : Str → Option Value} {cl : List (Str × Addr)} {Q E : Value → Shared → Prop}
theorem lc_enter (_F₀ : Fr h₀ L s.heap m) (hclos : closureFor scope env = pure cl) (hcell : ∀ y ∈ scope.names, y.2 ≠ .cell) (hkind : scope.kind = .function)
    (hnames : ∀ y ∈ scope.names, y.2 = .local → scope.names.lookup y.1 = some .local)
    (h : wpAny (model prog w) A (eval iter env) (fun x s₁ => wpAny (model prog w) A (pyIter x) (LcGo prog w A h₀ L m env elt target iter ifs scope cl pos Q) E s₁) E s)
    (hs : ∀ x, foldedSetIterable iter env x = pure x := by intro _; rfl) :
    wpAny (model prog w) A (eval (.ListComp elt [⟨target, iter, ifs, 0⟩] scope pos) env) Q E s := by
  rw [eval_ListComp]
  refine wpAny_comprehension_free (use := none) rfl hs hclos hkind hnames (wpAny_mono h (fun xv s₁ h₁ => wpAny_mono h₁ (fun it s₂ z => ?_) fun _ _ e => e) fun _ _ e => e)
  obtain ⟨news, F, N, hself, go⟩ := z
  refine wpAny_newObj_type (wpAny_newFunctionEnv hcell (by intro y hy; simp at hy) (fun h₁ hns₁ hsb₁ => ?_) hkind)
  dsimp only at hns₁ hsb₁ ⊢
  generalize hH2 : s₂.heap.push { cls := .type "list", dict := none, data := .seq ([] : List Value).toArray } = H2 at hns₁ hsb₁ ⊢
  have hC : H2.objs.size = s₂.heap.objs.size + 1 := by rw [← hH2, Heap.size_push]
  have hDC : s₂.heap.objs.size ≠ H2.objs.size := by rw [hC]; exact Nat.ne_of_lt (Nat.lt_succ_self _)
  have below : ∀ b, b < s₂.heap.objs.size → b ≠ H2.objs.size ∧ b ≠ s₂.heap.objs.size := fun b hb => ⟨by rw [hC]; exact Nat.ne_of_lt (Nat.lt_succ_of_lt hb), Nat.ne_of_lt hb⟩
  have old : ∀ b o, s₂.heap.get? b = some o → h₁.get? b = some o := fun b o e => hsb₁.extBut b o (below b (Heap.lt_size e)).1 (Heap.get?_push_of_some _ (hH2 ▸ Heap.get?_push_of_some _ e))
  have hacc : h₁.get? s₂.heap.objs.size = some (lst []) := hsb₁.extBut _ _ hDC (Heap.get?_push_of_some _ (hH2 ▸ Heap.get?_push_size _ rfl))
  have fresh : ∀ a, s₂.heap.objs.size ≤ a → s₂.heap.get? a = none := fun a ha => by
    cases e : s₂.heap.get? a with
    | none => rfl
    | some o' => exact absurd (Heap.lt_size e) (Nat.not_lt.mpr ha)
  have fresh₀ : ∀ a, s₂.heap.objs.size ≤ a → h₀.get? a = none := fun a ha => by
    cases e : h₀.get? a with
    | none => rfl
    | some o' => have := F.keep a o' e; rw [fresh a ha] at this; cases this
  have hLlt : L < s₂.heap.objs.size := F.ns.lt
  obtain ⟨oC, heC, hoC⟩ := ns_obj hns₁
  have N₁ : News h₀ L h₁ ((H2.objs.size, oC) :: (s₂.heap.objs.size, lst []) :: news) := fun p hp => by
    rcases List.mem_cons.mp hp with rfl | hp
    · exact ⟨heC, Ne.symm (below L hLlt).1, fresh₀ _ (by rw [hC]; exact Nat.le_succ _)⟩
    rcases List.mem_cons.mp hp with rfl | hp
    · exact ⟨hacc, Ne.symm (below L hLlt).2, fresh₀ _ (Nat.le_refl _)⟩
    · exact ⟨old _ _ (N p hp).1, (N p hp).2⟩
  have loop := fun tk => go s₂.heap.objs.size H2.objs.size oC _ h₁ tk hoC (F.keeps old) N₁ (by rw [hC]; exact Nat.lt_succ_self _) (fun p hp => Heap.lt_size (N p hp).1)
  have fin : ∀ r s', LcEnd h₀ L m H2.objs.size (Q (.ref s₂.heap.objs.size)) r s' → compPost (model prog w) A E none Q (.ref s₂.heap.objs.size) H2.objs.size r s' := fun r s' z => by
    obtain ⟨rfl, oC', m', news', hN, NN, ne, FF, K⟩ := z
    refine ⟨m', hN.ns (NN _ (.head _)).1, fun h'' hs'' => K h'' (FF.change hs'' (NN _ (.head _)).2.1 (NN _ (.head _)).2.2) fun p hp => ?_⟩
    exact ⟨hs''.extBut _ _ (ne p hp) (NN p (.tail _ hp)).1, (NN p (.tail _ hp)).2⟩
  exact codeAny_compStart_list (codeAny_mono (loop _) fin) (hself _ _ _ (fun p hp => old _ _ (N p hp).1) (codeAny_mono (loop _) fin))
end
end
section
open PyProof.Rows.LCg
inductive Del (d : Addr) : Led → Led → Prop
  | head {o r} : (∀ p ∈ r, p.1 ≠ d) → Del d ((d, o) :: r) r
  | tail {p r r'} : p.1 ≠ d → Del d r r' → Del d (p :: r) (p :: r')
theorem Del.sub {d : Addr} : ∀ {l l' : Led}, Del d l l' → ∀ p ∈ l', p ∈ l ∧ p.1 ≠ d
  | _, _, .head h, p, hp => ⟨.tail _ hp, h p hp⟩
  | _, _, .tail ne r, p, hp => by
    rcases List.mem_cons.mp hp with rfl | hp
    · exact ⟨.head _, ne⟩
    · exact ⟨.tail _ (r.sub p hp).1, (r.sub p hp).2⟩
theorem Del.mem {d : Addr} : ∀ {l l' : Led}, Del d l l' → ∃ o, (d, o) ∈ l
  | _, _, .head (o := o) _ => ⟨o, .head _⟩
  | _, _, .tail _ r => let ⟨o, h⟩ := r.mem; ⟨o, .tail _ h⟩
theorem upd_FN {g h h' : Heap} {L d : Addr} {m : Str → Option Value} {o o' : Obj} {news news' : Led} (F : Fr g L h m) (N : News g L h news) (U : Upd d o o' news news') (hd : h'.get? d = some o')
    (hk : ∀ b x, b ≠ d → h.get? b = some x → h'.get? b = some x) : Fr g L h' m ∧ News g L h' news' := by
  obtain ⟨pre, post, rfl, rfl, a, b⟩ := U.split
  have ND := N (d, o) (by simp)
  refine ⟨Fr_chg F (ws := [d]) (fun b x hb e => hk b x (by simpa using hb) e) (by simpa using Ne.symm ND.2.1) (fun b hb => by rw [List.mem_singleton.mp hb]; exact ND.2.2), fun p hp => ?_⟩
  rcases List.mem_append.mp hp with hp | hp
  · exact ⟨hk _ _ (a p hp) (N p (List.mem_append_left _ hp)).1, (N p (List.mem_append_left _ hp)).2⟩
  rcases List.mem_cons.mp hp with rfl | hp
  · exact ⟨hd, ND.2⟩
  · exact ⟨hk _ _ (b p hp) (N p (List.mem_append_right _ (.tail _ hp))).1, (N p (List.mem_append_right _ (.tail _ hp))).2⟩
theorem upd_old {g h : Heap} {L d : Addr} {o o' : Obj} {news news' : Led} (N : News g L h news) (U : Upd d o o' news news') : h.get? d = some o ∧ d ≠ L ∧ g.get? d = none := by
  obtain ⟨pre, post, rfl, rfl, a, b⟩ := U.split
  exact N (d, o) (by simp)
theorem del_FN {g h h' : Heap} {L d : Addr} {m : Str → Option Value} {news news' : Led} (F : Fr g L h m) (N : News g L h news) (U : Del d news news') (hk : ∀ b x, b ≠ d → h.get? b = some x → h'.get? b = some x) : Fr g L h' m ∧ News g L h' news' := by
  obtain ⟨o, hm⟩ := U.mem
  have ND := N _ hm
  exact ⟨Fr_chg F (ws := [d]) (fun b x hb e => hk b x (by simpa using hb) e) (by simpa using Ne.symm ND.2.1) (fun b hb => by rw [List.mem_singleton.mp hb]; exact ND.2.2),
    fun p hp => ⟨hk _ _ (U.sub p hp).2 (N p (U.sub p hp).1).1, (N p (U.sub p hp).1).2⟩⟩
noncomputable abbrev liObj (l : Addr) (i : Nat) : Obj := { cls := .type "list_iterator", data := .fields #[.ref l, .int i 0] }
section
variable {prog : Program} {w : World} {A : Around} {s : Shared} {target : Expr}
noncomputable def NextK (prog : Program) (w : World) (A : Around) (it : Value) (target : Expr) (Kn : Shared → Prop) (Kv : Value → Shared → Prop) (r : Option Value) (s : Shared) : Prop := match r with
  | none => Kn s
  | some v => wpAny (model prog w) A (letOwnedTupleGo target it v) (fun _ s₂ => Kv v s₂) NoE s
theorem comp_turnK {iter elt : Expr} {ifs : List Expr} {scope : Scope} {pos : Pos} {it acc : Value} {env : Env} {R : Result → Shared → Prop} (h : wpAny (model prog w) A (pyNext it) (NextK prog w A it target (fun s => R (.ok .next) s)
    (fun v s₂ => wpAny (model prog w) A (assign target env v) (fun _ s₃ => wpAny (model prog w) A (compTest ifs env) (fun ok s₄ =>
      if ok = true then wpAny (model prog w) A (eval elt env) (fun x s₅ => wpAny (model prog w) A (call (.builtin "list.append") [acc, x]) (fun _ s₆ => codeAny (model prog w) A (.compLoop (.ListComp elt [⟨target, iter, ifs, 0⟩] scope pos) 0 it acc env) R s₆) NoE s₅) NoE s₄
      else codeAny (model prog w) A (.compLoop (.ListComp elt [⟨target, iter, ifs, 0⟩] scope pos) 0 it acc env) R s₄) NoE s₃) NoE s₂)) NoE s) :
    codeAny (model prog w) A (.compLoop (.ListComp elt [⟨target, iter, ifs, 0⟩] scope pos) 0 it acc env) R s :=
  comp_turn (wpAny_mono h (fun r s₁ z => by cases r <;> exact z) fun _ _ x => x)
theorem for_turnK {it : Value} {body orelse : List Stmt} {env : Env} {R : Result → Shared → Prop} (h : wpAny (model prog w) A (pyNext it) (NextK prog w A it target (fun s => wpAny (model prog w) A (execs orelse env) (fun f s' => R (.ok f) s') NoE s)
    (fun v s₂ => wpAny (model prog w) A (assign target env v) (fun _ s₃ => wpAny (model prog w) A (execs body env) (fun f s₄ => match f with
      | .next | .cont => codeAny (model prog w) A (.forLoop target it body orelse env) R s₄
      | .brk => R (.ok .next) s₄
      | .ret v => R (.ok (.ret v)) s₄) NoE s₃) NoE s₂)) NoE s) :
    codeAny (model prog w) A (.forLoop target it body orelse env) R s :=
  for_turn (wpAny_mono h (fun r s₁ z => by cases r <;> exact z) fun _ _ x => x)
variable {Q E : Value → Shared → Prop}
theorem nextOf_list2 {it l : Addr} {i : Nat} {items : Array Value} {x : Value} (hit : s.heap.get? it = some (liObj l i))
    (hl : s.heap.IsList l items) (hx : items[i]? = some x)
    (hQ : ∀ h', h'.get? it = some (liObj l (i + 1)) → Heap.SameBut it s.heap h' → Q x { s with heap := h' }) :
    wpAny (model prog w) A (Builtin.SmallTypes.nextOf (.ref it)) Q E s := by
  have hit' : s.heap.IsListIter it l i := ⟨_, hit, rfl, rfl⟩
  obtain ⟨ol, hol, _, nl, hdl⟩ := hl
  unfold Builtin.SmallTypes.nextOf
  refine wpAny_bind (wpAny_callSpecial?_slot (name := Str.ofString "__next__") hit'.typeIs slot_listiter_next
    (wpAny_call_entry slot_listiter_next hit'.typeIs entry_listiter_next ?_ (args_listiter_next _)))
  show wpAny _ _ (field (.ref it) 0 >>= _) _ _ s
  refine wpAny_bind (wpAny_field hit rfl (x := .ref l) rfl ?_)
  show wpAny _ _ (if (Value.ref l == Value.none) = true then _ else _) _ _ s
  rw [if_neg (show ¬ ((Value.ref l == Value.none) = true) from Bool.false_ne_true)]
  show wpAny _ _ (field (.ref it) 1 >>= _) _ _ s
  refine wpAny_bind (wpAny_field hit rfl (x := .int i 0) rfl ?_)
  show wpAny _ _ (seqItems? (.ref l) >>= _) _ _ s
  refine wpAny_bind (wpAny_seqItems hol hdl ?_)
  simp only [Int.toNat_natCast, hx]
  exact wpAny_bind (wpAny_setField_rec hit (by simp) fun h' h1 h2 => wpAny_pure ⟨x, rfl, wpAny_pure (hQ h' h1 h2)⟩)
theorem pyNext_list2 {it l : Addr} {i : Nat} {items : Array Value} {x : Value} {Q : Option Value → Shared → Prop} (hit : s.heap.get? it = some (liObj l i))
    (hl : s.heap.IsList l items) (hx : items[i]? = some x)
    (hQ : ∀ h', h'.get? it = some (liObj l (i + 1)) → Heap.SameBut it s.heap h' → Q (some x) { s with heap := h' }) :
    wpAny (model prog w) A (pyNext (.ref it)) Q E s := by
  have hit' : s.heap.IsListIter it l i := ⟨_, hit, rfl, rfl⟩
  obtain ⟨ol, hol, _, nl, hdl⟩ := hl
  unfold pyNext
  refine wpAny_bind (wpAny_attempt (wpAny_callSpecial?_slot (name := Str.ofString "__next__") hit'.typeIs slot_listiter_next
    (wpAny_call_entry slot_listiter_next hit'.typeIs entry_listiter_next ?_ (args_listiter_next _))))
  show wpAny _ _ (field (.ref it) 0 >>= _) _ _ s
  refine wpAny_bind (wpAny_field hit rfl (x := .ref l) rfl ?_)
  show wpAny _ _ (if (Value.ref l == Value.none) = true then _ else _) _ _ s
  rw [if_neg (show ¬ ((Value.ref l == Value.none) = true) from Bool.false_ne_true)]
  show wpAny _ _ (field (.ref it) 1 >>= _) _ _ s
  refine wpAny_bind (wpAny_field hit rfl (x := .int i 0) rfl ?_)
  show wpAny _ _ (seqItems? (.ref l) >>= _) _ _ s
  refine wpAny_bind (wpAny_seqItems hol hdl ?_)
  simp only [Int.toNat_natCast, hx]
  exact wpAny_bind (wpAny_setField_rec hit (by simp) fun h' h1 h2 => wpAny_pure ⟨x, rfl, wpAny_pure (hQ h' h1 h2)⟩)
end
section
variable {prog : Program} {w : World} {A : Around} {s : Shared} {target : Expr} {g : Heap} {L : Addr} {m : Str → Option Value} {news news' : Led} {I l : Addr} {i : Nat} {items : Array Value} {Kn : Shared → Prop} {Kv : Value → Shared → Prop}
end
end
section
open PyProof.Rows.LCg
open Sem (wp)
theorem Draws_list2 {prog : Program} {w : World} {A : Around} (hh : A.handled = none) (it l : Addr) (hne : l ≠ it) (items : Array Value) :
    Draws prog w A it [it, l] items.size (fun i v => items[i]? = some v) (fun i h => h.get? it = some (liObj l i) ∧ h.IsList l items) where
  live := fun _ _ st => ⟨_, st.1⟩
  frame := fun _ _ _ st hk => ⟨hk it (by simp) _ st.1, st.2.at fun o e => hk l (by simp) o e⟩
  item := fun i s Q E hi st hQ => by
    refine nextOf_list2 st.1 st.2 (x := items[i]) (by simp [hi]) fun h' hit' hs' => ?_
    exact hQ _ h' s.toks (by simp [hi]) ⟨hit', st.2.extBut hs'.extBut hne⟩ hs'
  done := fun s Q E st hE => wpAny_nextOf_list_end hh ⟨_, st.1, rfl, rfl⟩ st.2 (by simp) hE
section
variable {prog : Program} {w : World} {A : Around} {s : Shared} {E : Value → Shared → Prop}
theorem call_enum_list2 {l : Addr} {items : Array Value} {Q : Value → Shared → Prop} (hL : s.heap.IsList l items)
    (h : Q (.ref (s.heap.objs.size + 1)) { s with heap := (s.heap.push (liObj l 0)).push (enObj s.heap.objs.size) }) :
    wpAny (model prog w) A (call (.type "enumerate") [.ref l]) Q E s := by
  obtain ⟨⟨c, dct, dt, sl⟩, hl, hc, n, hd⟩ := hL
  replace hc : c = .type "list" := hc
  replace hd : dt = .seq items n := hd
  subst hc hd
  refine callType_new F.called_enumerate (by decide) (F.typeCall_enumerate_1 _) (F.newCall_enumerate_1 _) (fun obj => F.args_object_init_2 obj _) F.entry_enumerate_new
    (meets_enumerate_newL l items n dct sl) ⟨hl, ?_⟩
  have hz : (s.heap.push (liObj l 0)).objs.size = s.heap.objs.size + 1 := Heap.size_push ..
  show _ ∧ _
  have e0 : ({ cls := .type "list_iterator", data := .fields #[.ref l, .int 0 0] } : Obj) = liObj l 0 := rfl
  rw [e0, hz]
  have he : ((s.heap.push (liObj l 0)).push (enObj s.heap.objs.size)).get? (s.heap.objs.size + 1) = some (enObj s.heap.objs.size) := by
    have := Heap.get?_push_size (s.heap.push (liObj l 0)) (o := enObj s.heap.objs.size) rfl
    rw [hz] at this; exact this
  exact ⟨⟨_, he, rfl⟩, h⟩
variable {g : Heap} {L : Addr} {m : Str → Option Value} {news news' news'' : Led}
theorem enum_list_N {l : Addr} {items : Array Value} {Q : Value → Shared → Prop} (F : Fr g L s.heap m) (N : News g L s.heap news) (hL : s.heap.IsList l items)
    (h : ∀ e it h', Fr g L h' m → News g L h' ((e, enRec it ((0 : Nat) : Int) .none) :: (it, liObj l 0) :: news) → @LT.lt Nat _ it e → (∀ p ∈ news, p.1 < it) → Q (.ref e) { s with heap := h' }) :
    wpAny (model prog w) A (call (.type "enumerate") [.ref l]) Q E s := by
  refine call_enum_list2 hL ?_
  have N1 : News g L (s.heap.push (liObj l 0)) ((s.heap.objs.size, liObj l 0) :: news) := N.push F _ rfl
  have N2 := N1.push (F.push (liObj l 0)) (enObj s.heap.objs.size) rfl
  rw [Heap.size_push] at N2
  exact h _ _ _ ((F.push _).push _) N2 (Nat.lt_succ_self _) fun p hp => Heap.lt_size (N p hp).1
variable {I l e : Addr} {i : Nat} {items : Array Value} {Kn : Shared → Prop} {Kv : Value → Shared → Prop} {old x : Value} {elts : List Expr} {x1 : Nat} {pos : Pos}
theorem el_next (hh : A.in1.handled = none) (F : Fr g L s.heap m) (N : News g L s.heap news) (_m1 : (e, enRec I i old) ∈ news) (_m2 : (I, liObj l i) ∈ news) (he : I ≠ e) (hl : s.heap.IsList l items) (U1 : Upd I (liObj l i) (liObj l (i + 1)) news news') (U2 : Upd e (enRec I i old) (enRec I ((i + 1 : Nat) : Int) x) news' news'') (hx : items[i]? = some x) {v : Int} (hv : ((i : Nat) : Int) = v)
    (h : ∀ T tk h', Fr g L h' m → News g L h' ((T, { cls := .type "tuple", data := .seq #[.int v tk, x] }) :: news'') → (∀ p ∈ news, p.1 < T) → Kv (.ref T) { s with heap := h', toks := tk + 1 }) :
    wpAny (model prog w) A (pyNext (.ref e)) (NextK prog w A (.ref e) (.Tuple elts x1 pos) Kn Kv) NoE s := by
  subst hv
  have o1 := upd_old N U1
  have NE : s.heap.get? e = some (enRec I i old) := by
    obtain ⟨pre, post, h1, h2, a, b⟩ := U1.split
    obtain ⟨pre2, post2, h3, h4, a2, b2⟩ := U2.split
    have : (e, enRec I i old) ∈ news' := by rw [h3]; simp
    rw [h2] at this
    rcases List.mem_append.mp this with hp | hp
    · exact (N _ (by rw [h1]; exact List.mem_append_left _ hp)).1
    rcases List.mem_cons.mp hp with hp | hp
    · exact absurd (congrArg (·.1) hp) (Ne.symm he)
    · exact (N _ (by rw [h1]; exact List.mem_append_right _ (.tail _ hp))).1
  have lI : l ≠ I := fun q => by
    obtain ⟨o, ho, hc, n, hd⟩ := hl
    have h1 := o1.1
    rw [← q, ho] at h1
    rw [Option.some.inj h1] at hd
    exact nomatch hd
  have lE : l ≠ e := fun q => by
    obtain ⟨o, ho, hc, n, hd⟩ := hl
    have h1 := NE
    rw [← q, ho] at h1
    rw [Option.some.inj h1] at hd
    exact nomatch hd
  have hlt : i < items.size := (Array.getElem?_eq_some_iff.mp hx).1
  refine wpAny_pyNext_enum_itemD (Draws_list2 hh I l lI items) NE ⟨o1.1, hl⟩ hlt (Ne.symm he) (by simpa using ⟨Ne.symm he, Ne.symm lE⟩) fun x' h' tk hP ho hs' hT hsz hk => ?_
  obtain rfl : x' = x := Option.some.inj ((show items[i]? = some x' from hP).symm.trans hx)
  show wpAny _ _ (letOwnedTupleGo _ _ _) _ _ _
  refine wpAny_letOwnedTupleGo_enum ho fun h'' he' hs'' => ?_
  have hel : @LT.lt Nat _ e s.heap.objs.size := Heap.lt_size NE
  -- through the two changes
  have up : ∀ b o, b ≠ e → b ≠ I → s.heap.get? b = some o → h''.get? b = some o := fun b o h1 h2 y => (hs''.2 b h1).trans (hk b o h1 h2 y)
  have hI : h''.get? I = some (liObj l (i + 1)) := (hs''.2 _ he).trans hs'.1
  have N'' : News g L h'' news'' := fun p hp => by
    obtain ⟨pre, post, h1, h2, a, b⟩ := U1.split
    obtain ⟨pre2, post2, h3, h4, a2, b2⟩ := U2.split
    have sub1 : ∀ q ∈ news', q.1 ≠ I → q ∈ news := fun q hq hn => by
      rw [h2] at hq; rw [h1]
      rcases List.mem_append.mp hq with hq | hq
      · exact List.mem_append_left _ hq
      rcases List.mem_cons.mp hq with rfl | hq
      · exact absurd rfl hn
      · exact List.mem_append_right _ (.tail _ hq)
    have sub2 : ∀ q ∈ news'', q.1 ≠ e → q ∈ news' := fun q hq hn => by
      rw [h4] at hq; rw [h3]
      rcases List.mem_append.mp hq with hq | hq
      · exact List.mem_append_left _ hq
      rcases List.mem_cons.mp hq with rfl | hq
      · exact absurd rfl hn
      · exact List.mem_append_right _ (.tail _ hq)
    have gE : e ≠ L ∧ g.get? e = none := by
      have : (e, enRec I i old) ∈ news' := by rw [h3]; simp
      exact (N _ (sub1 _ this (Ne.symm he))).2
    by_cases q1 : p.1 = e
    · have : p = (e, enRec I ((i + 1 : Nat) : Int) x') := by
        rw [h4] at hp
        rcases List.mem_append.mp hp with hq | hq
        · exact absurd q1 (a2 p hq)
        rcases List.mem_cons.mp hq with hq | hq
        · exact hq
        · exact absurd q1 (b2 p hq)
      subst this
      exact ⟨he', gE⟩
    · have hp1 := sub2 p hp q1
      by_cases q2 : p.1 = I
      · have : p = (I, liObj l (i + 1)) := by
          rw [h2] at hp1
          rcases List.mem_append.mp hp1 with hq | hq
          · exact absurd q2 (a p hq)
          rcases List.mem_cons.mp hq with hq | hq
          · exact hq
          · exact absurd q2 (b p hq)
        subst this
        exact ⟨hI, o1.2⟩
      · have hp2 := sub1 p hp1 q2
        exact ⟨up _ _ q1 q2 (N p hp2).1, (N p hp2).2⟩
  have nW : ∀ b ∈ [e, I], b ≠ L ∧ g.get? b = none := fun b hb => by
    rcases List.mem_cons.mp hb with rfl | hb
    · obtain ⟨pre, post, h1, h2, a, b'⟩ := U1.split
      obtain ⟨pre2, post2, h3, h4, a2, b2⟩ := U2.split
      have : (b, enRec I ((i + 1 : Nat) : Int) x') ∈ news'' := by rw [h4]; simp
      exact (N'' _ this).2
    · rw [List.mem_singleton.mp hb]; exact o1.2
  refine h s.heap.objs.size tk h'' (Fr_chg F (ws := [e, I]) (fun b o hb y => up b o (by simp at hb; exact hb.1) (by simp at hb; exact hb.2) y) (fun hL => (nW _ hL).1 rfl) fun b hb => (nW b hb).2) (fun p hp => ?_) (fun p hp => Heap.lt_size (N p hp).1)
  rcases List.mem_cons.mp hp with rfl | hp
  · refine ⟨(hs''.2 _ (Nat.ne_of_gt hel)).trans hT, ?_, ?_⟩
    · obtain ⟨oL, _, _, hL, _⟩ := F.ns
      exact Nat.ne_of_gt (Heap.lt_size hL)
    · cases q : g.get? s.heap.objs.size with
      | none => rfl
      | some o => exact absurd (Heap.lt_size (F.keep _ _ q)) (Nat.lt_irrefl _)
  · exact N'' p hp
end
end
section
open PyProof.Rows.LCg
theorem updF_FN {g h h' : Heap} {L d : Addr} {m : Str → Option Value} {o o' : Obj} {news : Led} {G : Obj → Led} (F : Fr g L h m) (N : News g L h news) (U : UpdF d o news G) (hd : h'.get? d = some o')
    (hk : ∀ b x, b ≠ d → h.get? b = some x → h'.get? b = some x) : Fr g L h' m ∧ News g L h' (G o') := by
  obtain ⟨pre, post, rfl, e, a, b⟩ := U.split
  have ND := N (d, o) (by simp)
  refine ⟨Fr_chg F (ws := [d]) (fun b x hb e => hk b x (by simpa using hb) e) (by simpa using Ne.symm ND.2.1) (fun b hb => by rw [List.mem_singleton.mp hb]; exact ND.2.2), fun p hp => ?_⟩
  rw [e] at hp
  rcases List.mem_append.mp hp with hp | hp
  · exact ⟨hk _ _ (a p hp) (N p (List.mem_append_left _ hp)).1, (N p (List.mem_append_left _ hp)).2⟩
  rcases List.mem_cons.mp hp with rfl | hp
  · exact ⟨hd, ND.2⟩
  · exact ⟨hk _ _ (b p hp) (N p (List.mem_append_right _ (.tail _ hp))).1, (N p (List.mem_append_right _ (.tail _ hp))).2⟩
theorem updF_old {g h : Heap} {L d : Addr} {o : Obj} {news : Led} {G : Obj → Led} (N : News g L h news) (U : UpdF d o news G) : h.get? d = some o ∧ d ≠ L ∧ g.get? d = none := by
  obtain ⟨pre, post, rfl, e, a, b⟩ := U.split
  exact N (d, o) (by simp)
section
variable {prog : Program} {w : World} {A : Around} {s : Shared} {g : Heap} {L : Addr} {m : Str → Option Value} {news news' news'' : Led} {G : Obj → Led} {I l e : Addr} {i : Nat} {items : Array Value} {Kn : Shared → Prop} {Kv : Value → Shared → Prop} {old x : Value} {target : Expr}
theorem el_stop (hh : A.in1.handled = none) (F : Fr g L s.heap m) (N : News g L s.heap news) (_m1 : (e, enRec I i old) ∈ news) (_m2 : (I, liObj l i) ∈ news) (he : I ≠ e) (hl : s.heap.IsList l items) (U1 : Upd I (liObj l i) (liObj l i) news news) (U2 : Upd e (enRec I i old) (enRec I i old) news news) (D1 : Del I news news') (D2 : Del e news' news'') (hx : i = items.size)
    (h : ∀ h', Fr g L h' m → News g L h' news'' → Kn { s with heap := h' }) :
    wpAny (model prog w) A (pyNext (.ref e)) (NextK prog w A (.ref e) target Kn Kv) NoE s := by
  subst hx
  have o1 := upd_old N U1
  have o2 := upd_old N U2
  have lI : l ≠ I := fun q => by
    obtain ⟨o, ho, hc, n, hd⟩ := hl
    have h1 := o1.1
    rw [← q, ho] at h1
    rw [Option.some.inj h1] at hd
    exact nomatch hd
  refine wpAny_pyNext_enum_endD (Draws_list2 hh I l lI items) o2.1 ⟨o1.1, hl⟩ fun h' hs' => ?_
  obtain ⟨F', N'⟩ := del_FN F N D1 fun b x hb e => hs' b x hb e
  exact h h' F' fun p hp => N' p (D2.sub p hp).1
variable {env : Env} {scope : Scope} {cl : List (Str × Addr)} {C : Addr} {oC : Obj} {m₂ : Str → Option Value} {E : Value → Shared → Prop} {Q : Unit → Shared → Prop}
theorem asg_name {x : Str} {px : Pos} {v : Value} (F : Fr g L s.heap m) (N : News g L s.heap news) (U : UpdF C oC news G) (hC : NsObj oC m₂) (hk : scope.kind = .function) (hx : scope.names.lookup x = some .local)
    (h : ∀ h' tk' oC' m₃, NsObj oC' m₃ → m₃ x = some v → Fr g L h' m → News g L h' (G oC') → Q () { s with heap := h', toks := tk' }) :
    wpAny (model prog w) A (assign (.Name x px) (compEnvC scope cl C env) v) Q E s := by
  have o := updF_old N U
  refine wpAny_assign_Name (wpAny_storeName_local (lookup_relabel_local hx) (hC.ns o.1) (fun h₃ hn₃ hs₃ => ?_) (by simp [compEnvC, relabel, hk]))
  obtain ⟨oC', h1, h2⟩ := ns_obj hn₃
  obtain ⟨F', N'⟩ := updF_FN F N U h1 fun b x hb e => (hs₃.2 b hb).trans e
  exact h h₃ _ oC' _ h2 (by simp) F' N'
theorem asg_pair {a b : Str} {pa pb tp : Pos} {kk : Nat} {T : Addr} {oT : Obj} {x y : Value} (hh : A.handled = none) (F : Fr g L s.heap m) (N : News g L s.heap news) (hT : (T, oT) ∈ news) (hc : oT.cls = .type "tuple") (hd : ∃ n, oT.data = .seq #[x, y] n) (U : UpdF C oC news G) (hC : NsObj oC m₂) (hk : scope.kind = .function)
    (hxa : scope.names.lookup a = some .local) (hxb : scope.names.lookup b = some .local) (hab : ¬ a = b)
    (h : ∀ h' tk' oC' m₃, NsObj oC' m₃ → m₃ a = some x → m₃ b = some y → Fr g L h' m → News g L h' (G oC') → Q () { s with heap := h', toks := tk' }) :
    wpAny (model prog w) A (assign (.Tuple [.Name a pa, .Name b pb] kk tp) (compEnvC scope cl C env) (.ref T)) Q E s := by
  have o := updF_old N U
  refine kcp_assign (env := compEnvC scope cl C env) hh ⟨oT, (N _ hT).1, hc, hd⟩ (lookup_relabel_local hxa) (lookup_relabel_local hxb) (by simp [compEnvC, relabel, hk]) (hC.ns o.1) fun h₄ tk₄ hn₄ hs₄ => ?_
  obtain ⟨oC', h1, h2⟩ := ns_obj hn₄
  obtain ⟨F', N'⟩ := updF_FN F N U h1 fun b x hb e => hs₄ b x hb e
  exact h h₄ tk₄ oC' _ h2 (by simp [hab]) (by simp) F' N'
variable {elt iter : Expr} {ifs : List Expr} {pos : Pos} {K : Value → Shared → Prop}
theorem pyIter_list_N {Q : Value → Shared → Prop} (F : Fr g L s.heap m) (N : News g L s.heap news) (hl : s.heap.IsList l items)
    (h : ∀ I h', Fr g L h' m → News g L h' ((I, liObj l 0) :: news) → (∀ p ∈ news, p.1 < I) → Q (.ref I) { s with heap := h' }) : wpAny (model prog w) A (pyIter (.ref l)) Q E s :=
  wpAny_pyIter_list hl (h _ _ (F.push _) (N.push F _ rfl) fun p hp => Heap.lt_size (N p hp).1)
theorem pyIter_enum_N {Q : Value → Shared → Prop} {it : Addr} {j : Int} (N : News g L s.heap news) (hm : (e, enRec it j old) ∈ news) (h : Q (.ref e) s) : wpAny (model prog w) A (pyIter (.ref e)) Q E s :=
  wpAny_pyIter_enum (it := it) (i := j) (old := old) (N _ hm).1 h
end
end
section
open PyProof.Rows.LCg
theorem rulesGcomp : True := by
  k_with_none
  k_with "k_ne" => (refine neN ?_; (try dsimp only); first | exact Nat.ne_of_lt (by with_reducible assumption) | exact Nat.ne_of_gt (by with_reducible assumption) | with_reducible assumption | exact neL_up (by with_reducible assumption) | with_reducible exact neL_13 | with_reducible exact neL_23 | with_reducible exact neL_12 | with_reducible exact neL_31 | with_reducible exact neL_32 | with_reducible exact neL_21 | exact Nat.ne_of_gt (by walk_at "pick") | exact Nat.ne_of_lt (by walk_at "pick") | omega)
  k_with "pick" => first | with_reducible assumption | with_reducible exact j1 (by assumption) | with_reducible exact j2 (by assumption) | with_reducible exact j3 (by assumption) | with_reducible exact j4 (by assumption) | with_reducible exact j5 (by assumption) | with_reducible exact j6 (by assumption) | with_reducible exact j7 (by assumption) | with_reducible exact j8 (by assumption) | with_reducible exact j9 (by assumption) | with_reducible exact j10 (by assumption) | with_reducible exact j11 (by assumption) | with_reducible exact j12 (by assumption) | with_reducible exact j13 (by assumption) | with_reducible exact j14 (by assumption) | with_reducible exact j15 (by assumption)
  k_with "om" => first | walk_at "pick" | with_reducible exact Nat.lt_trans (by assumption) (by walk_at "pick")
  k_with "k_mem" => first | exact List.Mem.head _ | assumption | exact List.mem_append_left _ (by assumption) | exact List.mem_append_right _ (by assumption) | (refine' List.Mem.tail _ ?_; k_extra "k_mem")
  k_with "room" => first | exact rm1 (by assumption) (by decide) | exact rm2 (by assumption) (by decide) | exact rm0 (by assumption) | exact rm3 (by assumption) (by decide) | ktr_room
  k_with "units" => first | exact rm1 (by assumption) (by decide) | exact rm2 (by assumption) (by decide) | exact rm0 (by assumption) | exact rm3 (by assumption) (by decide) | ktr_units
  k_with "lt" => try ((rename ∀ p ∈ (_ : List (Addr × Obj)), @LT.lt Nat _ p.1 _ => q9l9); k_lt q9l9; revert q9l9; intro _)
  k_with "dn" => try dsimp only [List.cons_append, List.nil_append] at ‹News _ _ _ _›
  k_with "dd" => try dsimp only [List.cons_append, List.nil_append] at ‹Obj.IsDictOf _ _ _›
  k_with "ds" => try dsimp only [List.cons_append, List.nil_append] at ‹LexSt _ _ _ _ _›
  k_with "perm" => (simp only [List.mem_append, List.mem_cons] at *; grind)
  exact True.intro
noncomputable def Grown (Z Z' W : Led) : Prop := ∀ p ∈ Z', (∃ q ∈ Z, q.1 = p.1) ∨ (∀ q ∈ W, @LT.lt Nat _ q.1 p.1)
/-- an iterator of a comprehension, with its target -/
structure CompIt (prog : Program) (w : World) (A : Around) (env : Env) (g : Heap) (L : Addr) (m : Str → Option Value) (target : Expr) (C : Addr) (it : Value) (n : Nat) (ia : List Addr) (Its : Nat → Led → Prop) (Src : Led) (Bound : Nat → (Str → Option Value) → Prop) : Prop where
  sub : ∀ i J, Its i J → ∀ a ∈ ia, ∃ p ∈ J, p.1 = a
  keep : ∀ i j J J', Its i J → Its j J' → ∀ p ∈ J', ∃ q ∈ J, q.1 = p.1
  src : ∀ J, Its 0 J → ∀ p ∈ Src, ∃ q ∈ J, q.1 = p.1
  next : ∀ (i : Nat) (s : Shared) (oC : Obj) (m₁ : Str → Option Value) (J X : Led) (Kn K : Shared → Prop), i < n → Its i J → Fr g L s.heap m → News g L s.heap ((C, oC) :: (J ++ X)) → (∀ p ∈ J ++ X, p.1 ≠ C) → (∀ p ∈ X, p.1 ∉ ia) → NsObj oC m₁ →
    (∀ h' tk' oC' m₁' J', Its (i + 1) J' → NsObj oC' m₁' → Bound i m₁' → Fr g L h' m → News g L h' ((C, oC') :: (J' ++ X)) → K { s with heap := h', toks := tk' }) →
    wpAny (model prog w) A (pyNext it) (NextK prog w A it target Kn (fun v s₂ => wpAny (model prog w) A (assign target env v) (fun _ s₃ => K s₃) NoE s₂)) NoE s
  stop : ∀ (s : Shared) (J X : Led) (Kn : Shared → Prop) (Kv : Value → Shared → Prop), Its n J → Fr g L s.heap m → News g L s.heap (J ++ X) → (∀ p ∈ X, p.1 ∉ ia) →
    (∀ h' tk', Fr g L h' m → News g L h' (Src ++ X) → Kn { s with heap := h', toks := tk' }) → wpAny (model prog w) A (pyNext it) (NextK prog w A it target Kn Kv) NoE s
  self : ∀ (s : Shared) (J : Led) (Q E : Value → Shared → Prop), Its 0 J → (∀ p ∈ J, s.heap.get? p.1 = some p.2) → Q it s → wpAny (model prog w) A (pyIter it) Q E s
section
variable {prog : Program} {w : World} {A : Around} {s : Shared} {target : Expr} {it : Value} {n : Nat} {ia : List Addr} {Its : Nat → Led → Prop} {Src : Led} {Bound : Nat → (Str → Option Value) → Prop} {env : Env} {g : Heap} {L C : Addr} {m : Str → Option Value} {R : Result → Shared → Prop} {ifs : List Expr}
theorem gcomp {Lp : Shared → Prop} {Emit : (Shared → Prop) → Shared → Prop} {Kn : Shared → Prop} {Inv : Nat → Led → Prop} {X : Led} (It : CompIt prog w A env g L m target C it n ia Its Src Bound)
    (hturn : ∀ s, wpAny (model prog w) A (pyNext it) (NextK prog w A it target Kn (fun v s₂ => wpAny (model prog w) A (assign target env v) (fun _ s₃ => wpAny (model prog w) A (compTest ifs env) (fun ok s₄ => if ok = true then Emit Lp s₄ else Lp s₄) NoE s₃) NoE s₂)) NoE s → Lp s)
    (hX : ∀ i J, Its i J → ∀ p ∈ J ++ X, p.1 ≠ C) (hI : ∀ p ∈ X, p.1 ∉ ia)
    (hbody : ∀ i Z h tk oC m₁ (X' : Led), i < n → Inv i Z → Fr g L h m → News g L h ((C, oC) :: (Z ++ X')) → (∀ p ∈ Z ++ X', p.1 ≠ C) → (∃ J, Its (i + 1) J ∧ X' = J ++ X) → NsObj oC m₁ → Bound i m₁ →
      (∀ Z' h' tk', Inv (i + 1) Z' → Grown Z Z' ((C, oC) :: (Z ++ X')) → Fr g L h' m → News g L h' ((C, oC) :: (Z' ++ X')) → Lp { s with heap := h', toks := tk' }) →
      wpAny (model prog w) A (compTest ifs env) (fun ok s₄ => if ok = true then Emit Lp s₄ else Lp s₄) NoE { s with heap := h, toks := tk })
    (hend : ∀ Z h tk oC m₁, Inv n Z → NsObj oC m₁ → Fr g L h m → News g L h ((C, oC) :: (Src ++ (Z ++ X))) → (∀ p ∈ Z, p.1 ≠ C) → Kn { s with heap := h, toks := tk }) :
    ∀ (k i : Nat) J Z h tk oC m₁, n - i = k → i ≤ n → Its i J → Inv i Z → Fr g L h m → News g L h ((C, oC) :: (J ++ (Z ++ X))) → (∀ p ∈ Z, p.1 ≠ C ∧ p.1 ∉ ia) → NsObj oC m₁ → Lp { s with heap := h, toks := tk } := by
  intro k
  induction k with
  | zero =>
    intro i J Z h tk oC m₁ hk hi hJ hZ F N hC hO
    obtain rfl : i = n := by omega
    refine hturn _ (It.stop _ J ((C, oC) :: (Z ++ X)) _ _ hJ F (fun p hp => N p ?_) (fun p hp => ?_) fun h' tk' F' N' => ?_)
    · walk_at "perm"
    · rcases List.mem_cons.mp hp with rfl | hp
      · intro ha
        obtain ⟨q, hq, e⟩ := It.sub i J hJ _ ha
        exact hX i J hJ q (List.mem_append_left _ hq) e
      · rcases List.mem_append.mp hp with hp | hp
        · exact (hC p hp).2
        · exact hI p hp
    · exact hend Z _ _ oC m₁ hZ hO F' (fun p hp => N' p (by walk_at "perm")) fun p hp => (hC p hp).1
  | succ k ih =>
    intro i J Z h tk oC m₁ hk hi hJ hZ F N hC hO
    have hlt : i < n := by omega
    refine hturn _ (It.next i _ oC m₁ J (Z ++ X) _ _ hlt hJ F N (fun p hp => ?_) (fun p hp => ?_) hO fun h' tk' oC' m₁' J' hJ' hO' hB F' N' => ?_)
    · rcases List.mem_append.mp hp with hp | hp
      · exact hX i J hJ p (List.mem_append_left _ hp)
      rcases List.mem_append.mp hp with hp | hp
      · exact (hC p hp).1
      · exact hX i J hJ p (List.mem_append_right _ hp)
    · rcases List.mem_append.mp hp with hp | hp
      · exact (hC p hp).2
      · exact hI p hp
    refine hbody i Z h' tk' oC' m₁' (J' ++ X) hlt hZ F' (fun p hp => N' p ?_) (fun p hp => ?_) ⟨J', hJ', rfl⟩ hO' hB fun Z' h'' tk'' hZ' G' F'' N'' => ?_
    · walk_at "perm"
    · rcases List.mem_append.mp hp with hp | hp
      · exact (hC p hp).1
      · exact hX (i + 1) J' hJ' p hp
    refine ih (i + 1) J' Z' _ _ oC' m₁' (by omega) hlt hJ' hZ' F'' (fun p hp => N'' p ?_) (fun p hp => ?_) hO'
    · walk_at "perm"
    · rcases G' p hp with ⟨q, hq, e⟩ | hlt'
      · rw [← e]; exact hC q hq
      · refine ⟨Nat.ne_of_gt (hlt' (C, oC') (.head _)), fun ha => ?_⟩
        obtain ⟨q, hq, e⟩ := It.sub (i + 1) J' hJ' _ ha
        have := hlt' q (.tail _ (List.mem_append_right _ (List.mem_append_left _ hq)))
        rw [e] at this
        exact Nat.lt_irrefl _ this
end
/-- the results of a list comprehension -/
inductive Res (p : Nat → Bool) (G : Nat → Value → Led → Prop) : Nat → List Value → Led → Prop
  | nil : Res p G 0 [] []
  | skip {i ys made} : p i = false → Res p G i ys made → Res p G (i + 1) ys made
  | take {i ys made y mk} : p i = true → Res p G i ys made → G i y mk → Res p G (i + 1) (ys ++ [y]) (mk ++ made)
theorem Res.len {p : Nat → Bool} {G : Nat → Value → Led → Prop} {n : Nat} {ys : List Value} {made : Led} (h : Res p G n ys made) : ys.length ≤ n := by
  induction h with
  | nil => exact Nat.le_refl _
  | skip _ _ ih => omega
  | take _ _ _ ih => simp; exact ih
/-- no new objects: the values alone -/
theorem Res.pure {p : Nat → Bool} {G : Nat → Value → Led → Prop} {n : Nat} {ys : List Value} {made : Led} (h : Res p G n ys made) (hG : ∀ i y mk, G i y mk → mk = []) : made = [] := by
  induction h with
  | nil => rfl
  | skip _ _ ih => exact ih
  | take _ _ g ih => rw [hG _ _ _ g, ih]; rfl
section
variable {prog : Program} {w : World} {A : Around} {s : Shared} {target iter elt : Expr} {ifs : List Expr} {scope : Scope} {pos : Pos} {env : Env} {g : Heap} {L : Addr} {m : Str → Option Value} {cl : List (Str × Addr)} {Q E : Value → Shared → Prop}
  {it : Value} {n : Nat} {ia : List Addr} {Its : Nat → Led → Prop} {Src : Led} {Bound : Nat → (Str → Option Value) → Prop} {p : Nat → Bool} {G : Nat → Value → Led → Prop} {E0 X : Led}
theorem LcGo_all (hn : n ≤ sizeLine) (F : Fr g L s.heap m) {J : Led} (hJ : Its 0 J) (N : News g L s.heap (J ++ (E0 ++ X))) (hI : ∀ q ∈ E0 ++ X, q.1 ∉ ia)
    (It : ∀ C, CompIt prog w A (compEnvC scope cl C env) g L m target C it n ia Its Src Bound)
    (helt : ∀ C i (s : Shared) oC m₁ (X : Led) (Kt : Value → Shared → Prop) (Ks : Shared → Prop), i < n → Fr g L s.heap m → News g L s.heap ((C, oC) :: (E0 ++ X)) → NsObj oC m₁ → Bound i m₁ → (∀ q ∈ E0 ++ X, q.1 ≠ C) →
      (p i = true → ∀ y mk h' tk', G i y mk → (∀ q ∈ mk, ∀ r ∈ (C, oC) :: (E0 ++ X), @LT.lt Nat _ r.1 q.1) → Fr g L h' m → News g L h' ((C, oC) :: (E0 ++ (mk ++ X))) → Kt y { s with heap := h', toks := tk' }) →
      (p i = false → ∀ h' tk', Fr g L h' m → News g L h' ((C, oC) :: (E0 ++ X)) → Ks { s with heap := h', toks := tk' }) →
      wpAny (model prog w) A (compTest ifs (compEnvC scope cl C env)) (fun ok s₄ => if ok = true then wpAny (model prog w) A (eval elt (compEnvC scope cl C env)) Kt NoE s₄ else Ks s₄) NoE s)
    (hQ : ∀ D ys made c h' tk', Res p G n ys made → (∀ q ∈ Src ++ (E0 ++ X), @LT.lt Nat _ q.1 D) → (∀ q ∈ made, @LT.lt Nat _ D q.1) → Fr g L h' m → News g L h' ((D, W.listOf ys.toArray c) :: (Src ++ (E0 ++ (made ++ X)))) → Q (.ref D) { s with heap := h', toks := tk' }) :
    LcGo prog w A g L m env elt target iter ifs scope cl pos Q it s := by
  refine ⟨J ++ (E0 ++ X), F, N, fun s' Q' E' k q => (It 0).self _ J _ _ hJ (fun p hp => k p (List.mem_append_left _ hp)) q, fun D C oC m₀ h tk hO F₁ N₁ hDC hlt => ?_⟩
  have hltC : ∀ q ∈ J ++ (E0 ++ X), q.1 ≠ C := fun q hq => Nat.ne_of_lt (Nat.lt_trans (hlt q hq) hDC)
  have hltCi : ∀ i J', Its i J' → ∀ q ∈ J' ++ X, q.1 ≠ C := fun i J' hJ' q hq => by
    rcases List.mem_append.mp hq with hq | hq
    · obtain ⟨q', hq', e⟩ := (It C).keep 0 i J J' hJ hJ' q hq
      rw [← e]; exact hltC q' (List.mem_append_left _ hq')
    · exact hltC q (List.mem_append_right _ (List.mem_append_right _ hq))
  have hDi : D ∉ ia := fun ha => by
    obtain ⟨q, hq, e⟩ := (It C).sub 0 J hJ _ ha
    exact Nat.ne_of_lt (hlt q (List.mem_append_left _ hq)) e
  have hDits : ∀ i J', Its i J' → ∀ q ∈ J', q.1 ≠ D := fun i J' hJ' q hq => by
    obtain ⟨q', hq', e⟩ := (It C).keep 0 i J J' hJ hJ' q hq
    rw [← e]; exact Nat.ne_of_lt (hlt q' (List.mem_append_left _ hq'))
  refine gcomp (ifs := ifs) (s := s) (Lp := fun s => codeAny (model prog w) A (.compLoop (.ListComp elt [⟨target, iter, ifs, 0⟩] scope pos) 0 it (.ref D) (compEnvC scope cl C env)) (LcEnd g L m C (Q (.ref D))) s)
    (Emit := fun K s₄ => wpAny (model prog w) A (eval elt (compEnvC scope cl C env)) (fun x s₅ => wpAny (model prog w) A (call (.builtin "list.append") [.ref D, x]) (fun _ s₆ => K s₆) NoE s₅) NoE s₄)
    (Kn := fun s' => LcEnd g L m C (Q (.ref D)) (.ok .next) s')
    (Inv := fun i Z => ∃ ys made c, Res p G i ys made ∧ Z = (D, W.listOf ys.toArray c) :: (E0 ++ made) ∧ (∀ q ∈ made, @LT.lt Nat _ D q.1)) (X := X) (It C) ?_ hltCi (fun q hq => hI q (List.mem_append_right _ hq)) ?_ ?_ n 0 J ((D, W.listOf #[] 0) :: E0) h tk oC m₀ rfl (Nat.zero_le _) hJ ⟨[], [], 0, .nil, by simp, by simp⟩ F₁ (fun q hq => N₁ q ?_) (fun q hq => ?_) hO
  · exact fun s' z => comp_turnK z
  · intro i Z h₁ tk₁ oC₁ m₁ X' hi hZ9 F' N' hC' hX' hO' hB K
    obtain ⟨ys, made, c, hR, rfl, hm⟩ := hZ9
    obtain ⟨J', hJ', rfl⟩ := hX'
    have perm : ∀ q, q ∈ (C, oC₁) :: (E0 ++ ((D, W.listOf ys.toArray c) :: (made ++ (J' ++ X)))) ↔ q ∈ (C, oC₁) :: (((D, W.listOf ys.toArray c) :: (E0 ++ made)) ++ (J' ++ X)) := fun q => by
      simp only [List.mem_append, List.mem_cons]; grind
    refine wpAny_mono (helt C i { s with heap := h₁, toks := tk₁ } oC₁ m₁ ((D, W.listOf ys.toArray c) :: (made ++ (J' ++ X))) (fun y s₅ => wpAny (model prog w) A (call (.builtin "list.append") [.ref D, y]) (fun _ s₆ => codeAny (model prog w) A (.compLoop (.ListComp elt [⟨target, iter, ifs, 0⟩] scope pos) 0 it (.ref D) (compEnvC scope cl C env)) (LcEnd g L m C (Q (.ref D))) s₆) NoE s₅)
      (fun s₄ => codeAny (model prog w) A (.compLoop (.ListComp elt [⟨target, iter, ifs, 0⟩] scope pos) 0 it (.ref D) (compEnvC scope cl C env)) (LcEnd g L m C (Q (.ref D))) s₄) hi F' (fun q hq => N' q ((perm q).mp hq)) hO' hB (fun q hq => hC' q ?_) (fun hp y mk h' tk' hG hmk F'' N'' => ?_) (fun hp h' tk' F'' N'' => ?_)) (fun ok s₄ z => ?_) fun _ _ e => e
    · have := (perm q).mp (.tail _ hq)
      rcases List.mem_cons.mp this with rfl | h9
      · exfalso
        exact hC' (C, oC₁) (by simp only [List.cons_append, List.mem_cons, List.mem_append] at hq ⊢; grind) rfl
      · exact h9
    · have hDm : ∀ q ∈ mk ++ made, @LT.lt Nat _ D q.1 := fun q hq => by
        rcases List.mem_append.mp hq with hq | hq
        · exact hmk q hq (D, W.listOf ys.toArray c) (.tail _ (List.mem_append_right _ (.head _)))
        · exact hm q hq
      have hE : ∀ q ∈ E0, q.1 ≠ D := fun q hq => Nat.ne_of_lt (hlt q (List.mem_append_right _ (List.mem_append_left _ hq)))
      have hXD : ∀ q ∈ X, q.1 ≠ D := fun q hq => Nat.ne_of_lt (hlt q (List.mem_append_right _ (List.mem_append_right _ hq)))
      have hCD : C ≠ D := Nat.ne_of_gt hDC
      refine append_K (its := ys.toArray) (n := c) (news := (C, oC₁) :: (D, W.listOf ys.toArray c) :: (E0 ++ ((mk ++ made) ++ (J' ++ X)))) F'' (fun q hq => N'' q (by simp only [List.mem_append, List.mem_cons] at hq ⊢; grind)) (.tail hCD (.head fun q hq => ?_)) (fun h'' F3 N3 => ?_) ?_
      · rcases List.mem_append.mp hq with hq | hq
        · exact hE q hq
        rcases List.mem_append.mp hq with hq | hq
        · exact Nat.ne_of_gt (hDm q hq)
        rcases List.mem_append.mp hq with hq | hq
        · exact hDits _ _ hJ' q hq
        · exact hXD q hq
      · refine K ((D, W.listOf (ys ++ [y]).toArray (c + 1)) :: (E0 ++ (mk ++ made))) h'' tk' ⟨ys ++ [y], mk ++ made, c + 1, .take hp hR hG, rfl, hDm⟩ (fun q hq => ?_) F3 (fun q hq => N3 q (by simp only [List.mem_append, List.mem_cons, List.cons_append, List.push_toArray] at hq ⊢; grind))
        rcases List.mem_cons.mp hq with rfl | hq
        · exact .inl ⟨_, .head _, rfl⟩
        rcases List.mem_append.mp hq with hq | hq
        · exact .inl ⟨q, .tail _ (List.mem_append_left _ hq), rfl⟩
        rcases List.mem_append.mp hq with hq | hq
        · exact .inr fun r hr => hmk q hq r ((perm r).mpr hr)
        · exact .inl ⟨q, .tail _ (List.mem_append_right _ hq), rfl⟩
      · have := hR.len
        rw [List.size_toArray]; omega
    · refine K ((D, W.listOf ys.toArray c) :: (E0 ++ made)) h' tk' ⟨ys, made, c, .skip hp hR, rfl, hm⟩ (fun q hq => .inl ⟨q, hq, rfl⟩) F'' fun q hq => N'' q ((perm q).mpr hq)
    · exact z
  · rintro Z h₁ tk₁ oC₁ m₁ ⟨ys, made, c, hR, rfl, hm⟩ hO' F' N' hC'
    refine ⟨rfl, oC₁, m₁, (D, W.listOf ys.toArray c) :: (Src ++ (E0 ++ (made ++ X))), hO', fun q hq => N' q ?_, fun q hq => ?_, F', fun h'' F'' N'' => hQ D ys made c h'' tk₁ hR (fun q hq => ?_) hm F'' N''⟩
    · simp only [List.mem_append, List.mem_cons, List.cons_append] at hq ⊢; grind
    · have hs : ∀ r ∈ Src, r.1 ≠ C := fun r hr => by
        obtain ⟨q', hq', e⟩ := (It C).src J hJ r hr
        rw [← e]; exact hltC q' (List.mem_append_left _ hq')
      rcases List.mem_cons.mp hq with rfl | hq
      · exact Nat.ne_of_lt hDC
      rcases List.mem_append.mp hq with hq | hq
      · exact hs q hq
      rcases List.mem_append.mp hq with hq | hq
      · exact hltC q (List.mem_append_right _ (List.mem_append_left _ hq))
      rcases List.mem_append.mp hq with hq | hq
      · exact hC' q (.tail _ (List.mem_append_right _ hq))
      · exact hltC q (List.mem_append_right _ (List.mem_append_right _ hq))
    · rcases List.mem_append.mp hq with hq | hq
      · obtain ⟨q', hq', e⟩ := (It C).src J hJ q hq
        rw [← e]; exact hlt q' (List.mem_append_left _ hq')
      · exact hlt q (List.mem_append_right _ hq)
  · simp only [List.mem_append, List.mem_cons] at hq ⊢
    grind
  · rcases List.mem_cons.mp hq with rfl | hq
    · exact ⟨Nat.ne_of_lt hDC, hDi⟩
    · exact ⟨hltC q (List.mem_append_right _ (List.mem_append_left _ hq)), hI q (List.mem_append_left _ hq)⟩
end
end
section
open PyProof.Rows.LCg
theorem rulesCompIts : True := by
  k_with_none
  k_with "k_ne" => (refine neN ?_; (try dsimp only); first | exact Nat.ne_of_lt (by with_reducible assumption) | exact Nat.ne_of_gt (by with_reducible assumption) | with_reducible assumption | exact neL_up (by with_reducible assumption) | with_reducible exact neL_13 | with_reducible exact neL_23 | with_reducible exact neL_12 | with_reducible exact neL_31 | with_reducible exact neL_32 | with_reducible exact neL_21 | exact Nat.ne_of_gt (by walk_at "pick") | exact Nat.ne_of_lt (by walk_at "pick") | omega)
  k_with "pick" => first | with_reducible assumption | with_reducible exact j1 (by assumption) | with_reducible exact j2 (by assumption) | with_reducible exact j3 (by assumption) | with_reducible exact j4 (by assumption) | with_reducible exact j5 (by assumption) | with_reducible exact j6 (by assumption) | with_reducible exact j7 (by assumption) | with_reducible exact j8 (by assumption) | with_reducible exact j9 (by assumption) | with_reducible exact j10 (by assumption) | with_reducible exact j11 (by assumption) | with_reducible exact j12 (by assumption) | with_reducible exact j13 (by assumption) | with_reducible exact j14 (by assumption) | with_reducible exact j15 (by assumption)
  k_with "om" => first | walk_at "pick" | with_reducible exact Nat.lt_trans (by assumption) (by walk_at "pick")
  k_with "k_mem" => first | exact List.Mem.head _ | assumption | exact List.mem_append_left _ (by assumption) | exact List.mem_append_right _ (by assumption) | (refine' List.Mem.tail _ ?_; k_extra "k_mem")
  k_with "room" => first | exact rm1 (by assumption) (by decide) | exact rm2 (by assumption) (by decide) | exact rm0 (by assumption) | exact rm3 (by assumption) (by decide) | ktr_room
  k_with "units" => first | exact rm1 (by assumption) (by decide) | exact rm2 (by assumption) (by decide) | exact rm0 (by assumption) | exact rm3 (by assumption) (by decide) | ktr_units
  k_with "lt" => try ((rename ∀ p ∈ (_ : List (Addr × Obj)), @LT.lt Nat _ p.1 _ => q9l9); k_lt q9l9; revert q9l9; intro _)
  k_with "dn" => try dsimp only [List.cons_append, List.nil_append] at ‹News _ _ _ _›
  k_with "dd" => try dsimp only [List.cons_append, List.nil_append] at ‹Obj.IsDictOf _ _ _›
  k_with "ds" => try dsimp only [List.cons_append, List.nil_append] at ‹LexSt _ _ _ _ _›
  exact True.intro
section
variable {prog : Program} {w : World} {A : Around} {s : Shared} {target : Expr} {g : Heap} {L C : Addr} {m : Str → Option Value} {env : Env} {scope : Scope} {cl : List (Str × Addr)} {I l t : Addr} {items : Array Value} {c i : Nat} {x : Str} {px : Pos} {Kn : Shared → Prop} {Kv : Value → Shared → Prop}
theorem ne_of_nin {I : Addr} {X : Led} (hX : ∀ p ∈ X, p.1 ∉ [I]) : ∀ p ∈ X, p.1 ≠ I := fun p hp e => hX p hp (e ▸ .head _)
/-- the cells fp, as a ledger -/
noncomputable def CellsP (fp : List Addr) (P : Heap → Prop) (J : Led) : Prop := J.map (·.1) = fp ∧ ∀ h : Heap, (∀ p ∈ J, h.get? p.1 = some p.2) → P h
theorem cells_of {fp : List Addr} {P : Heap → Prop} {h : Heap} (frame : ∀ h', (∀ b ∈ fp, ∀ o, h.get? b = some o → h'.get? b = some o) → P h') (live : ∀ b ∈ fp, ∃ o, h.get? b = some o) :
    ∃ J, CellsP fp P J ∧ ∀ p ∈ J, h.get? p.1 = some p.2 := by
  have key : ∀ b o, h.get? b = some o → (h.get? b).getD default = o := fun b o e => by rw [e]; rfl
  refine ⟨fp.map fun a => (a, (h.get? a).getD default), ⟨by rw [List.map_map]; exact List.map_id' .. , fun h' hp => frame h' fun b hb o e => ?_⟩, fun p hp => ?_⟩
  · have := hp (b, (h.get? b).getD default) (List.mem_map_of_mem hb)
    rw [key b o e] at this; exact this
  · obtain ⟨b, hb, rfl⟩ := List.mem_map.mp hp
    obtain ⟨o, e⟩ := live b hb
    show h.get? b = some ((h.get? b).getD default)
    rw [key b o e]; exact e
theorem CellsP.mem {fp : List Addr} {P : Heap → Prop} {J : Led} (h : CellsP fp P J) {b : Addr} (hb : b ∈ fp) : ∃ p ∈ J, p.1 = b := by
  rw [← h.1] at hb
  obtain ⟨p, hp, e⟩ := List.mem_map.mp hb
  exact ⟨p, hp, e⟩
theorem CellsP.fp {fp : List Addr} {P : Heap → Prop} {J : Led} (h : CellsP fp P J) {p : Addr × Obj} (hp : p ∈ J) : p.1 ∈ fp := by
  rw [← h.1]; exact List.mem_map_of_mem hp
section
variable {fp wr : List Addr} {n : Nat} {P : Nat → Value → Prop} {St : Nat → Heap → Prop} {h h' : Heap} {J J' X : Led} {oC : Obj}
theorem turnFN (F : Fr g L h m) (N : News g L h ((C, oC) :: (J ++ X))) (hJ : ∃ P, CellsP fp P J) (hJ' : ∃ P, CellsP fp P J') (hg : ∀ p ∈ J', h'.get? p.1 = some p.2) (sub : ∀ b ∈ wr, b ∈ fp) (hC : ∀ p ∈ J ++ X, p.1 ≠ C) (hX : ∀ p ∈ X, p.1 ∉ wr)
    (hk : ∀ b o, b ∉ wr → h.get? b = some o → h'.get? b = some o) : Fr g L h' m ∧ News g L h' ((C, oC) :: (J' ++ X)) ∧ ∀ p ∈ J' ++ X, p.1 ≠ C := by
  obtain ⟨P1, c1⟩ := hJ
  obtain ⟨P2, c2⟩ := hJ'
  have wrJ : ∀ b ∈ wr, ∃ p ∈ J, p.1 = b := fun b hb => c1.mem (sub b hb)
  refine ⟨Fr_chg F hk (fun hL => ?_) (fun b hb => ?_), fun p hp => ?_, fun p hp => ?_⟩
  · obtain ⟨p, hp, e⟩ := wrJ L hL
    exact (N p (.tail _ (List.mem_append_left _ hp))).2.1 e
  · obtain ⟨p, hp, e⟩ := wrJ b hb
    rw [← e]; exact (N p (.tail _ (List.mem_append_left _ hp))).2.2
  · rcases List.mem_cons.mp hp with rfl | hp
    · refine ⟨hk _ _ (fun hb => ?_) (N _ (.head _)).1, (N _ (.head _)).2⟩
      obtain ⟨p, hp, e⟩ := wrJ C hb
      exact hC p (List.mem_append_left _ hp) e
    rcases List.mem_append.mp hp with hp | hp
    · obtain ⟨q, hq, e⟩ := c1.mem (c2.fp hp)
      refine ⟨hg p hp, ?_⟩
      rw [← e]; exact (N q (.tail _ (List.mem_append_left _ hq))).2
    · exact ⟨hk _ _ (hX p hp) (N p (.tail _ (List.mem_append_right _ hp))).1, (N p (.tail _ (List.mem_append_right _ hp))).2⟩
  · rcases List.mem_append.mp hp with hp | hp
    · obtain ⟨q, hq, e⟩ := c1.mem (c2.fp hp)
      rw [← e]; exact hC q (List.mem_append_left _ hq)
    · exact hC p (List.mem_append_right _ hp)
theorem ci_walks (W : Walks prog w A I fp wr n P St) (live : ∀ i h, St i h → ∀ b ∈ fp, ∃ o, h.get? b = some o) (hk : scope.kind = .function) (hx : scope.names.lookup x = some .local) :
    CompIt prog w A (compEnvC scope cl C env) g L m (.Name x px) C (.ref I) n wr (fun i J => CellsP fp (St i) J) [] (fun i m₁ => ∃ v, P i v ∧ m₁ x = some v) where
  sub := fun i J hJ a ha => hJ.mem (W.sub a ha)
  keep := fun i j J J' hJ hJ' p hp => hJ.mem (hJ'.fp hp)
  src := fun J hJ p hp => nomatch hp
  next := fun i s oC m₁ J X Kn K hi hJ F N hC hX hO h => by
    have st := hJ.2 s.heap fun p hp => (N p (.tail _ (List.mem_append_left _ hp))).1
    refine W.item i s _ _ hi st fun v h' tk hP st' hk' => ?_
    obtain ⟨J', hJ', hg⟩ := cells_of (fp := fp) (P := St (i + 1)) (h := h') (fun h'' q => W.frame _ _ _ st' q) (live _ _ st')
    obtain ⟨F', N', hC'⟩ := turnFN F N ⟨_, hJ⟩ ⟨_, hJ'⟩ hg W.sub hC hX hk'
    show wpAny _ _ (letOwnedTupleGo (.Name x px) (.ref I) v) _ _ _
    refine wpAny_of_eq (a := ()) rfl ?_
    exact asg_name F' N' (.head hC') hO hk hx fun h₂ tk₂ oC' m₃ hO' hv F₂ N₂ => h h₂ tk₂ oC' m₃ J' hJ' hO' ⟨v, hP, hv⟩ F₂ N₂
  stop := fun s J X Kn Kv hJ F N hX h => by
    have st := hJ.2 s.heap fun p hp => (N p (List.mem_append_left _ hp)).1
    refine W.done s _ _ st fun h' tk hk' => ?_
    refine h h' tk (Fr_chg F hk' (fun hL => ?_) fun b hb => ?_) fun p hp => ⟨hk' _ _ (hX p hp) (N p (List.mem_append_right _ hp)).1, (N p (List.mem_append_right _ hp)).2⟩
    · obtain ⟨p, hp, e⟩ := hJ.mem (W.sub L hL)
      exact (N p (List.mem_append_left _ hp)).2.1 e
    · obtain ⟨p, hp, e⟩ := hJ.mem (W.sub b hb)
      rw [← e]; exact (N p (List.mem_append_left _ hp)).2.2
  self := fun s J Q E hJ hk q => W.self 0 s Q E (hJ.2 _ hk) q
theorem ci_walksT {Pt : Nat → Array Value → Prop} {Mid : Nat → Addr → Heap → Prop} {a b : Str} {pa pb tp : Pos} {kk : Nat} (hh : A.handled = none) (W : WalksT prog w A I fp wr n Pt St Mid) (live : ∀ i h, St i h → ∀ b ∈ fp, ∃ o, h.get? b = some o) (hpair : ∀ i vals, Pt i vals → ∃ x y, vals = #[x, y])
    (hk : scope.kind = .function) (hxa : scope.names.lookup a = some .local) (hxb : scope.names.lookup b = some .local) (hab : ¬ a = b) :
    CompIt prog w A (compEnvC scope cl C env) g L m (.Tuple [.Name a pa, .Name b pb] kk tp) C (.ref I) n wr (fun i J => CellsP fp (St i) J) [] (fun i m₁ => ∃ x y, Pt i #[x, y] ∧ m₁ a = some x ∧ m₁ b = some y) where
  sub := fun i J hJ a ha => hJ.mem (W.sub a ha)
  keep := fun i j J J' hJ hJ' p hp => hJ.mem (hJ'.fp hp)
  src := fun J hJ p hp => nomatch hp
  next := fun i s oC m₁ J X Kn K hi hJ F N hC hX hO h => by
    have st := hJ.2 s.heap fun p hp => (N p (.tail _ (List.mem_append_left _ hp))).1
    refine W.item i s _ _ hi st fun T vals h' tk hP hlt hT mid hk' => ?_
    show wpAny _ _ (letOwnedTupleGo (.Tuple [.Name a pa, .Name b pb] kk tp) (.ref I) (.ref T)) _ _ _
    refine W.go _ _ _ i T _ _ _ mid fun h'' st' hk'' => ?_
    obtain ⟨x, y, rfl⟩ := hpair i vals hP
    obtain ⟨J', hJ', hg⟩ := cells_of (fp := fp) (P := St (i + 1)) (h := h'') (fun h'' q => W.frame _ _ _ st' q) (live _ _ st')
    obtain ⟨F', N', hC'⟩ := turnFN F N ⟨_, hJ⟩ ⟨_, hJ'⟩ hg W.sub hC hX fun b o hb e => hk'' b o hb (hk' b o hb e)
    obtain ⟨oT, hoT, hcT, hdT⟩ := hT
    have hoT' := hk'' _ _ (W.apart _ _ _ mid) hoT
    have nT : ∀ q o, s.heap.get? q = some o → T ≠ q := fun q o e => Nat.ne_of_gt (Nat.lt_of_lt_of_le (Heap.lt_size e) hlt)
    have NT : News g L h'' ((T, oT) :: (C, oC) :: (J' ++ X)) := fun p hp => by
      rcases List.mem_cons.mp hp with rfl | hp
      · obtain ⟨oL, _, _, hL, _⟩ := F.ns
        refine ⟨hoT', nT L _ hL, ?_⟩
        cases q : g.get? T with
        | none => rfl
        | some o => exact absurd rfl (nT T _ (F.keep _ _ q))
      · exact N' p hp
    refine asg_pair hh F' NT (.head _) hcT hdT (.tail (nT C _ (N _ (.head _)).1) (.head hC')) hO hk hxa hxb hab fun h₂ tk₂ oC' m₃ hO' hva hvb F₂ N₂ => ?_
    exact h h₂ tk₂ oC' m₃ J' hJ' hO' ⟨x, y, hP, hva, hvb⟩ F₂ fun p hp => N₂ p (.tail _ hp)
  stop := fun s J X Kn Kv hJ F N hX h => by
    have st := hJ.2 s.heap fun p hp => (N p (List.mem_append_left _ hp)).1
    refine W.done s _ _ st fun h' tk hk' => ?_
    refine h h' tk (Fr_chg F hk' (fun hL => ?_) fun b hb => ?_) fun p hp => ⟨hk' _ _ (hX p hp) (N p (List.mem_append_right _ hp)).1, (N p (List.mem_append_right _ hp)).2⟩
    · obtain ⟨p, hp, e⟩ := hJ.mem (W.sub L hL)
      exact (N p (List.mem_append_left _ hp)).2.1 e
    · obtain ⟨p, hp, e⟩ := hJ.mem (W.sub b hb)
      rw [← e]; exact (N p (List.mem_append_left _ hp)).2.2
  self := fun s J Q E hJ hk q => W.self 0 s Q E (hJ.2 _ hk) q
end
end
end
section
open PyProof.Rows.LCg
/-- what a comprehension's list must give, where it is assigned to a name of the frame -/
noncomputable def QA (g : Heap) (L : Addr) (m : Str → Option Value) (y : Str) (Q : Flow → Shared → Prop) (v : Value) (s' : Shared) : Prop :=
  ∃ news', Fr g L s'.heap m ∧ News g L s'.heap news' ∧ ∀ h'' tk'', Fr g L h'' (fun z => if z = y then some v else m z) → News g L h'' news' → Q .next { s' with heap := h'', toks := tk'' }
section
variable {prog : Program} {w : World} {A : Around} {s : Shared} {target iter elt : Expr} {ifs : List Expr} {scope : Scope} {pos spos py : Pos} {env : Env} {g : Heap} {L : Addr} {m : Str → Option Value} {cl : List (Str × Addr)} {Q : Flow → Shared → Prop} {E : Value → Shared → Prop} {y : Str}
theorem lc_assign (F₀ : Fr g L s.heap m) (hL : env.locals = L) (hsw : swapsWith (.ListComp elt [⟨target, iter, ifs, 0⟩] scope pos) (some (.Name y py)) spos.line env = pure true)
    (hclos : closureFor scope env = pure cl) (hcell : ∀ y ∈ scope.names, y.2 ≠ .cell) (hkind : scope.kind = .function)
    (hnames : ∀ y ∈ scope.names, y.2 = .local → scope.names.lookup y.1 = some .local) (hy : env.kindOf y = some .local) (hp : (env.scope.kind == .class || (env.scope.kind == .module && env.locals != env.globals)) = false)
    (h : wpAny (model prog w) A (eval iter env) (fun x s₁ => wpAny (model prog w) A (pyIter x) (LcGo prog w A g L m env elt target iter ifs scope cl pos (QA g L m y Q)) E s₁) E s)
    (hs : ∀ x, foldedSetIterable iter env x = pure x := by intro _; rfl) :
    wpAny (model prog w) A (exec (.Assign [.Name y py] (.ListComp elt [⟨target, iter, ifs, 0⟩] scope pos) spos) env) Q E s := by
  rw [exec_Assign_Name_used _ _ _ _ hsw]
  refine wpAny_bind (wpAny_standAt (wpAny_bind ?_))
  show wpAny _ A (do let _ ← comprehension (.ListComp elt [⟨target, iter, ifs, 0⟩] scope pos) scope env _ (newList []) false (eval iter env) (some (assign (.Name y py) env))) _ _ s
  refine wpAny_bind (wpAny_mono (wpAny_comprehension_free (use := some (assign (.Name y py) env)) (Q := fun _ s' => Q .next s') rfl hs hclos hkind hnames
    (wpAny_mono h (fun xv s₁ h₁ => wpAny_mono h₁ (fun it s₂ z => ?_) fun _ _ e => e) fun _ _ e => e)) (fun _ s' hq => wpAny_pure (wpAny_pure hq)) fun _ _ e => e)
  obtain ⟨news, F, N, hself, go⟩ := z
  refine wpAny_newObj_type (wpAny_newFunctionEnv hcell (by intro y hy; simp at hy) (fun h₁ hns₁ hsb₁ => ?_) hkind)
  dsimp only at hns₁ hsb₁ ⊢
  generalize hH2 : s₂.heap.push { cls := .type "list", dict := none, data := .seq ([] : List Value).toArray } = H2 at hns₁ hsb₁ ⊢
  have hC : H2.objs.size = s₂.heap.objs.size + 1 := by rw [← hH2, Heap.size_push]
  have hDC : s₂.heap.objs.size ≠ H2.objs.size := by rw [hC]; exact Nat.ne_of_lt (Nat.lt_succ_self _)
  have below : ∀ b, b < s₂.heap.objs.size → b ≠ H2.objs.size ∧ b ≠ s₂.heap.objs.size := fun b hb => ⟨by rw [hC]; exact Nat.ne_of_lt (Nat.lt_succ_of_lt hb), Nat.ne_of_lt hb⟩
  have old : ∀ b o, s₂.heap.get? b = some o → h₁.get? b = some o := fun b o e => hsb₁.extBut b o (below b (Heap.lt_size e)).1 (Heap.get?_push_of_some _ (hH2 ▸ Heap.get?_push_of_some _ e))
  have hacc : h₁.get? s₂.heap.objs.size = some (lst []) := hsb₁.extBut _ _ hDC (Heap.get?_push_of_some _ (hH2 ▸ Heap.get?_push_size _ rfl))
  have fresh₀ : ∀ a, s₂.heap.objs.size ≤ a → g.get? a = none := fun a ha => by
    cases e : g.get? a with
    | none => rfl
    | some o' => exact absurd (Heap.lt_size (F.keep a o' e)) (Nat.not_lt.mpr ha)
  have hLlt : L < s₂.heap.objs.size := F.ns.lt
  obtain ⟨oC, heC, hoC⟩ := ns_obj hns₁
  have N₁ : News g L h₁ ((H2.objs.size, oC) :: (s₂.heap.objs.size, lst []) :: news) := fun p hp => by
    rcases List.mem_cons.mp hp with rfl | hp
    · exact ⟨heC, Ne.symm (below L hLlt).1, fresh₀ _ (by rw [hC]; exact Nat.le_succ _)⟩
    rcases List.mem_cons.mp hp with rfl | hp
    · exact ⟨hacc, Ne.symm (below L hLlt).2, fresh₀ _ (Nat.le_refl _)⟩
    · exact ⟨old _ _ (N p hp).1, (N p hp).2⟩
  have loop := fun tk => go s₂.heap.objs.size H2.objs.size oC _ h₁ tk hoC (F.keeps old) N₁ (by rw [hC]; exact Nat.lt_succ_self _) (fun p hp => Heap.lt_size (N p hp).1)
  have fin : ∀ r s', LcEnd g L m H2.objs.size (QA g L m y Q (.ref s₂.heap.objs.size)) r s' → compPost (model prog w) A E (some (assign (.Name y py) env)) (fun _ s' => Q .next s') (.ref s₂.heap.objs.size) H2.objs.size r s' := fun r s' z => by
    obtain ⟨rfl, oC', m', news', hN, NN, ne, FF, K⟩ := z
    generalize H2.objs.size = C at *
    have NC := NN _ (.head _)
    have hid : ∀ b o, b ≠ C → s'.heap.get? b = some o → (s'.heap.hide C).get? b = some o := fun b o hb e => (Heap.hide_ne s'.heap hb).trans e
    have Fh : Fr g L (s'.heap.hide C) m := Fr_chg FF (ws := [C]) (fun b o hb e => hid b o (by simpa using hb) e) (by simpa using Ne.symm NC.2.1) (fun b hb => by rw [List.mem_singleton.mp hb]; exact NC.2.2)
    obtain ⟨news₂, F2, N2, K2⟩ := K (s'.heap.hide C) Fh fun p hp => ⟨hid _ _ (ne p hp) (NN _ (.tail _ hp)).1, (NN _ (.tail _ hp)).2⟩
    have ne2 : ∀ p ∈ news₂, p.1 ≠ C := fun p hp e => by
      have := (N2 p hp).1
      rw [e] at this
      exact nomatch (Heap.hide_self s'.heap C).symm.trans this
    show wpAny _ A (assign (.Name y py) env (.ref s₂.heap.objs.size)) _ _ _
    refine wpAny_assign_Name (wpAny_storeName_local hy (hL ▸ FF.ns) (fun h₂ hn₂ hs₂ => ?_) hp)
    rw [hL] at hn₂ hs₂
    refine ⟨m', (hN.ns NC.1).sameBut hs₂ NC.2.1, fun h₃ hs₃ => ?_⟩
    have F3 : Fr g L h₃ (fun z => if z = y then some (.ref s₂.heap.objs.size) else m z) :=
      Fr_chg (FF.set hn₂ hs₂) (ws := [C]) (fun b o hb e => (hs₃.2 b (by simpa using hb)).trans e) (by simpa using Ne.symm NC.2.1) (fun b hb => by rw [List.mem_singleton.mp hb]; exact NC.2.2)
    exact K2 h₃ _ F3 fun p hp => ⟨(hs₃.2 _ (ne2 p hp)).trans ((hs₂.2 _ (N2 p hp).2.1).trans (Heap.of_hide (N2 p hp).1)), (N2 p hp).2⟩
  exact codeAny_compStart_list (codeAny_mono (loop _) fin) (hself _ _ _ (fun p hp => old _ _ (N p hp).1) (codeAny_mono (loop _) fin))
end
end
section
open Sem (wp)
open AutoSeq1 (wpAny_loadPart')
theorem slot_map_next : Slot "map" "__next__" "map.__next__" :=
  .of (owner := "map") (n := "__next__") (by rw [typeLookup_type, builtinLookup_eq_fast]; kernel_rfl) (by decide +kernel) (by decide +kernel) (by decide +kernel)
    (by first | exact .inl (by decide +kernel) | exact .inr (by decide +kernel)) (by rw [isSubtype_type]; kernel_rfl)
theorem slot_map_iter : Slot "map" "__iter__" "map.__iter__" :=
  .of (owner := "map") (n := "__iter__") (by rw [typeLookup_type, builtinLookup_eq_fast]; kernel_rfl) (by decide +kernel) (by decide +kernel) (by decide +kernel)
    (by first | exact .inl (by decide +kernel) | exact .inr (by decide +kernel)) (by rw [isSubtype_type]; kernel_rfl)
theorem slot_map_init : Slot "map" "__init__" "object.__init__" :=
  .of (owner := "object") (n := "__init__") (by rw [typeLookup_type, builtinLookup_eq_fast]; kernel_rfl) (by decide +kernel) (by decide +kernel) (by decide +kernel)
    (by first | exact .inl (by decide +kernel) | exact .inr (by decide +kernel)) (by rw [isSubtype_type]; kernel_rfl)
theorem entry_map_next : entryFor table "map.__next__" = some Builtin.«map.__next__» := entryFor_of_tree (by kernel_rfl)
theorem entry_map_iter : entryFor table "map.__iter__" = some Builtin.«dict_keyiterator.__iter__» :=
  entryFor_alias (id' := "dict_keyiterator.__iter__") (by kernel_rfl) rfl (by decide +kernel) (by kernel_rfl)
theorem args_map_next (a : Value) : argsOk "map.__next__" ⟨[a], []⟩ := by unfold argsOk; kernel_rfl
theorem args_map_iter (a : Value) : argsOk "map.__iter__" ⟨[a], []⟩ := by unfold argsOk; kernel_rfl
theorem mro_map : mroOf (.type "map") = pure [.type "map", .type "object"] := by rw [mroOf_type]; kernel_rfl
theorem lookup_map_new : typeLookup (.type "map") "__new__" = pure (some (.builtin "map.__new__")) := by rw [typeLookup_type, builtinLookup_eq_fast]; kernel_rfl
theorem called_map : TypeCalled "map" "map.__new__" "object.__init__" :=
  ⟨by decide +kernel, by decide +kernel, ⟨_, _, mro_map⟩, madeBy_type mro_map lookup_map_new (by decide +kernel), by decide +kernel, by rw [isSubtype_type]; kernel_rfl, slot_map_init⟩
theorem typeCall_map_2 (a b : Value) : checkTypeCall "map" ⟨[a, b], []⟩ = pure () := by kernel_rfl
theorem newCall_map_2 (a b : Value) : checkBuiltinCall "map.__new__" ⟨[.type "map", a, b], []⟩ = pure () := by kernel_rfl
theorem entry_map_new : entryFor table "map.__new__" = some Builtin.«map.__new__» := entryFor_of_tree (by kernel_rfl)
theorem sub_map : isSubtype (.type "map") (.type "map") = pure true := by rw [isSubtype_type]; kernel_rfl
end
section
open Sem (wp)
open AutoSeq1 (wpAny_loadPart')
noncomputable abbrev mapObj (T f : Addr) : Obj := { cls := .type "map", data := .fields #[.ref T, .ref f] }
noncomputable abbrev oneTup (I : Addr) : Obj := { cls := .type "tuple", data := .seq #[.ref I] }
theorem meets_map_new (f l : Addr) (items : Array Value) :
    Meets (Builtin.«map.__new__» ⟨[.type "map", .ref f, .ref l], []⟩) (fun _ R s => s.heap.IsList l items ∧
      R (.ok (.ret (.ref ((s.heap.push (liObj l 0)).push (oneTup s.heap.objs.size)).objs.size)))
        { s with heap := ((s.heap.push (liObj l 0)).push (oneTup s.heap.objs.size)).push (mapObj (s.heap.push (liObj l 0)).objs.size f) }) :=
  .of_wp fun prog w A R s h => by
    obtain ⟨hp, g, d, tk, os⟩ := s; obtain ⟨hl1, h⟩ := h
    have hsub := sub_map
    have hL1 : Heap.IsList (Shared.heap ⟨hp, g, d, tk, os⟩) l items := hl1
    wp_walk using wpAny_pyIter_list hL1
    exact ⟨_, rfl, h⟩
section
variable {prog : Program} {w : World} {A : Around} {E : Value → Shared → Prop} {s : Shared} {g : Heap} {L : Addr} {m : Str → Option Value} {news : Led}
theorem map_N {f l : Addr} {items : Array Value} {Q : Value → Shared → Prop} (F : Fr g L s.heap m) (N : News g L s.heap news) (hL : s.heap.IsList l items)
    (h : ∀ M T I h', Fr g L h' m → News g L h' ((M, mapObj T f) :: (T, oneTup I) :: (I, liObj l 0) :: news) → @LT.lt Nat _ T M → @LT.lt Nat _ I T → (∀ p ∈ news, p.1 < I) → Q (.ref M) { s with heap := h' }) :
    wpAny (model prog w) A (call (.type "map") [.ref f, .ref l]) Q E s := by
  refine callType_new called_map (by decide) (typeCall_map_2 _ _) (newCall_map_2 _ _) (fun obj => PySem.F.args_object_init_3 obj _ _) entry_map_new (meets_map_new f l items) ⟨hL, ?_⟩
  have N1 : News g L (s.heap.push (liObj l 0)) ((s.heap.objs.size, liObj l 0) :: news) := N.push F _ rfl
  have F1 := F.push (liObj l 0)
  have N2 := N1.push F1 (oneTup s.heap.objs.size) rfl
  have F2 := F1.push (oneTup s.heap.objs.size)
  have N3 := N2.push F2 (mapObj (s.heap.push (liObj l 0)).objs.size f) rfl
  have z1 : (s.heap.push (liObj l 0)).objs.size = s.heap.objs.size + 1 := Heap.size_push ..
  have z2 : ((s.heap.push (liObj l 0)).push (oneTup s.heap.objs.size)).objs.size = s.heap.objs.size + 2 := by rw [Heap.size_push, z1]
  refine ⟨⟨_, (N3 _ (.head _)).1, rfl⟩, h _ _ _ _ (F2.push _) N3 (by rw [z1, z2]; exact Nat.lt_succ_self _) (by rw [z1]; exact Nat.lt_succ_self _) fun p hp => Heap.lt_size (N p hp).1⟩
end
end
section
section
variable {prog : Program} {w : World} {A : Around} {E : Value → Shared → Prop} {s : Shared} {g : Heap} {L : Addr} {m : Str → Option Value} {news : Led}
theorem map_next_item {M T I f l : Addr} {i : Nat} {items : Array Value} {x : Value} {Q : Option Value → Shared → Prop} (hM : s.heap.get? M = some (mapObj T f)) (hT : s.heap.get? T = some (oneTup I)) (hI : s.heap.get? I = some (liObj l i)) (hl : s.heap.IsList l items) (hx : items[i]? = some x)
    (h : ∀ h', h'.get? I = some (liObj l (i + 1)) → Heap.SameBut I s.heap h' → wpAny (model prog w) A.in1 (call (.ref f) [x]) (fun r s' => Q (some r) s') (fun _ _ => False) { s with heap := h' }) :
    wpAny (model prog w) A (pyNext (.ref M)) Q E s := by
  have hTM : s.TypeIs (.ref M) "map" := ⟨_, hM, rfl⟩
  have hMI : M ≠ I := fun e => by rw [e, hI] at hM; exact absurd (congrArg Obj.cls (Option.some.inj hM)) (by simp)
  unfold pyNext
  refine wpAny_bind (wpAny_attempt (wpAny_callSpecial?_slot (name := Str.ofString "__next__") hTM slot_map_next
    (wpAny_call_entry slot_map_next hTM entry_map_next ?_ (args_map_next _))))
  show wpAny _ _ (field (.ref M) 0 >>= _) _ _ s
  refine wpAny_bind (wpAny_field hM rfl (x := .ref T) rfl ?_)
  show wpAny _ _ (seqItems? (.ref T) >>= _) _ _ s
  refine wpAny_bind (wpAny_seqItems hT rfl ?_)
  dsimp only
  simp only [List.forIn_toArray, List.forIn_cons, List.forIn_nil]
  refine wpAny_bind (wpAny_bind (wpAny_bind (wpAny_holding (nextOf_list2 hI hl hx fun h' h1 h2 => wpAny_pure ?_))))
  refine wpAny_pure ?_
  have hM' : h'.get? M = some (mapObj T f) := (h2.2 _ hMI).trans hM
  refine wpAny_bind (wpAny_field hM' rfl (x := .ref f) rfl ?_)
  refine wpAny_bind (wpAny_holding ?_)
  show wpAny _ _ (call (.ref f) [x]) _ _ _
  refine wpAny_mono (h h' h1 h2) (fun r s' q => ?_) fun _ _ e => e.elim
  exact wpAny_bind (wpAny_letGo (wpAny_pure ⟨_, rfl, wpAny_pure q⟩))
theorem map_next_end {M T I f l : Addr} {i : Nat} {items : Array Value} {Q : Option Value → Shared → Prop} (hh : A.handled = none) (hM : s.heap.get? M = some (mapObj T f)) (hT : s.heap.get? T = some (oneTup I)) (hI : s.heap.get? I = some (liObj l i)) (hl : s.heap.IsList l items) (hx : items[i]? = none)
    (h : ∀ h', Heap.ExtBut I s.heap h' → Q none { s with heap := h' }) :
    wpAny (model prog w) A (pyNext (.ref M)) Q E s := by
  have hTM : s.TypeIs (.ref M) "map" := ⟨_, hM, rfl⟩
  unfold pyNext
  refine wpAny_bind (wpAny_attempt (wpAny_callSpecial?_slot (name := Str.ofString "__next__") hTM slot_map_next
    (wpAny_call_entry slot_map_next hTM entry_map_next ?_ (args_map_next _))))
  show wpAny _ _ (field (.ref M) 0 >>= _) _ _ s
  refine wpAny_bind (wpAny_field hM rfl (x := .ref T) rfl ?_)
  show wpAny _ _ (seqItems? (.ref T) >>= _) _ _ s
  refine wpAny_bind (wpAny_seqItems hT rfl ?_)
  dsimp only
  simp only [List.forIn_toArray, List.forIn_cons, List.forIn_nil]
  refine wpAny_bind (wpAny_bind (wpAny_bind (wpAny_holding (wpAny_nextOf_list_end hh ⟨_, hI, rfl, rfl⟩ hl hx fun h' e he hc => ?_))))
  obtain ⟨o, ho, hc⟩ := hc
  refine wpAny_bind (wpAny_isInstance (T := "StopIteration") (b := true) ⟨o, ho, hc⟩ isSubtype_stop ?_)
  exact wpAny_pure (h _ he)
end
end
section
theorem map_no_len : typeLookup (.type "map") "__len__" = pure none := by rw [typeLookup_type, builtinLookup_eq_fast]; kernel_rfl
theorem map_no_hint : typeLookup (.type "map") "__length_hint__" = pure none := by rw [typeLookup_type, builtinLookup_eq_fast]; kernel_rfl
section
variable {prog : Program} {w : World} {A : Around} {E : Value → Shared → Prop} {s : Shared} {I : Addr} {fp wr : List Addr} {G : Array GenState → Array GenState → Prop} {n : Nat} {P : Nat → Value → Prop} {St : Nat → Shared → Prop}
theorem collect_map {Q : List Value → Shared → Prop} (W : WalksS prog w A.in1 I fp wr G n P St) (hT : ∀ i s, St i s → s.TypeIs (.ref I) "map") (hst : St 0 s) (hfp : ∀ b ∈ fp, b < s.heap.objs.size) (hI : I ∈ fp)
    (hQ : ∀ s' acc, Moved wr G s s' → ItemsOf P acc n → Q acc.toList s') (hn : n ≤ sizeLine) : wpAny (model prog w) A (collect (.ref I)) Q E s := by
  have hSf : s.heap.objs.size ∉ fp := fun hm => Nat.lt_irrefl _ (hfp _ hm)
  have hSI : s.heap.objs.size ≠ I := fun e => hSf (e ▸ hI)
  unfold collect
  refine wpAny_bind (wpAny_runValue (codeAny_builtin PySem.F.entry_proto_collect ?_))
  rw [Around.under_plainId PySem.F.plain_proto_collect _]
  show wpAny _ A.in1 (newList [] >>= fun l => again (.builtin "list.__iadd__" ⟨[l, .ref I], []⟩)) _ _ s
  refine wpAny_bind (wpAny_newObj_type ?_)
  refine wpAny_pure ⟨plainId_quiet PySem.F.plain_list_iadd _, codeAny_builtin PySem.F.entry_list_iadd ?_⟩
  rw [Around.under_plainId PySem.F.plain_list_iadd _]
  have hst₁ := W.frame 0 s (s.heap.push { cls := .type "list", data := .seq ([] : List Value).toArray }) s.toks hst (Nat.le_refl _) fun b _ o e => Heap.get?_push_of_some _ e
  show wpAny _ A.in1 (Builtin.List.listExtendWith (.ref s.heap.objs.size) (.ref I) (.ref s.heap.objs.size)) _ _ _
  unfold Builtin.List.listExtendWith
  refine wpAny_bind (wpAny_typeOf (hT 0 _ hst₁) ?_)
  have h1 : Builtin.List.listSameRef (.ref s.heap.objs.size) (.ref I) = false := by simp [Builtin.List.listSameRef, hSI]
  have h2 : (Value.type "map" == Value.type "list") = false := by decide
  have h3 : (Value.type "map" == Value.type "tuple") = false := by decide
  simp only [h1, h2, h3, Bool.or_false, Bool.false_eq_true, if_false]
  refine wpAny_bind (W.self 0 _ _ _ hst₁ ?_)
  refine wpAny_bind (wpAny_holding ?_)
  unfold Builtin.List.listLengthHint
  refine wpAny_bind (wpAny_specialOf (hT 0 _ hst₁) map_no_len ?_)
  show wpAny _ A.in1 (specialOf (Value.ref I) (Str.ofString "__length_hint__") >>= _) _ _ _
  refine wpAny_bind (wpAny_specialOf (hT 0 _ hst₁) map_no_hint ?_)
  refine wpAny_pure ?_
  show wpAny _ A.in1 (rule "list.extend.makes-room" >>= fun _ => Builtin.List.listTouch (.ref s.heap.objs.size) >>= fun _ =>
    again (.builtin "list.extend.loop" ⟨[.ref s.heap.objs.size, .ref I, .ref s.heap.objs.size], []⟩)) _ _ _
  refine wpAny_bind (wpAny_rule ?_)
  have hS₁ : (s.heap.push { cls := .type "list", data := .seq ([] : List Value).toArray }).get? s.heap.objs.size = some { cls := .type "list", data := .seq ([] : List Value).toArray } := Heap.get?_push_size _ rfl
  refine wpAny_bind ?_
  show wpAny _ A.in1 (updateSeq s.heap.objs.size (·.push .none) >>= fun _ => updateSeq s.heap.objs.size (·.pop)) _ _ _
  refine wpAny_bind (wpAny_updateSeq hS₁ rfl ?_)
  have hS₂ := Heap.get?_update_self (Obj.mapSeq (·.push Value.none)) hS₁ rfl
  refine wpAny_updateSeq hS₂ rfl ?_
  have hS₃ := Heap.get?_update_self (Obj.mapSeq (·.pop)) hS₂ rfl
  have oth : ∀ b o, b ≠ s.heap.objs.size → (s.heap.push { cls := .type "list", data := .seq ([] : List Value).toArray }).get? b = some o →
      (((s.heap.push { cls := .type "list", data := .seq ([] : List Value).toArray }).update s.heap.objs.size (Obj.mapSeq (·.push Value.none))).update s.heap.objs.size (Obj.mapSeq (·.pop))).get? b = some o :=
    fun b o hb e => (Heap.get?_update_other _ _ (Ne.symm hb)).trans ((Heap.get?_update_other _ _ (Ne.symm hb)).trans e)
  refine wpAny_pure ⟨plainId_quiet PySem.F.plain_extend_loop _, codeAny_extend_loopS W hn _ hSf _ n 0 _ _ _ rfl (Nat.zero_le _)
    (W.frame 0 ({ s with heap := s.heap.push { cls := .type "list", data := .seq ([] : List Value).toArray } } : Shared) _ s.toks hst₁ (Nat.le_refl _) fun b hb o e => oth b o (fun h => hSf (h ▸ hb)) e) hS₃ (ItemsOf.nil P) fun s' acc' c' hm hS' hacc => ?_⟩
  show wpAny _ A (load s.heap.objs.size >>= _) _ _ s'
  refine wpAny_bind (wpAny_load hS' ?_)
  refine wpAny_pure (hQ s' acc' (Moved.drop_new (o := { cls := .type "list", data := .seq ([] : List Value).toArray }) (tk := s.toks) (Moved.trans W.gtrans ((Moved.refl W.grefl).then_heap (by first | exact Nat.le_refl _ | exact Nat.le_succ _ | omega) fun b o hb e => ?_) hm) (Nat.le_refl _)) hacc)
  exact oth b o (fun h => hb (h ▸ List.mem_cons_self)) e
end
end
section
section
variable {prog : Program} {w : World} {A : Around} {E : Value → Shared → Prop} {s : Shared} {I : Addr} {fp wr : List Addr} {G : Array GenState → Array GenState → Prop} {n : Nat} {P : Nat → Value → Prop} {St : Nat → Shared → Prop}
theorem code_tuple_map {Q₁ : Value → Shared → Prop} (W : WalksS prog w A.in1.in1 I fp wr G n P St) (hT : ∀ i s, St i s → s.TypeIs (.ref I) "map") (hst : St 0 s) (hfp : ∀ b ∈ fp, b < s.heap.objs.size) (hI : I ∈ fp)
    (h : ∀ s' acc, Moved wr G s s' → ItemsOf P acc n → Q₁ (.ref s'.heap.objs.size) { s' with heap := s'.heap.push { cls := .type "tuple", data := .seq acc } }) (hsz : n ≤ sizeLine) :
    codeAny (model prog w) A (.call (.builtin "tuple.__new__") ⟨[.type "tuple", .ref I], []⟩) (wants Q₁ E) s := by
  refine codeAny_of_tree ?_
  show wpAny _ A.in1 (do checkBuiltinCall "tuple.__new__" ⟨[.type "tuple", .ref I], []⟩; again (.builtin "tuple.__new__" ⟨[.type "tuple", .ref I], []⟩)) _ _ s
  refine wpAny_bind (wpAny_of_eq (PySem.F.newCall_tuple_1 _) (wpAny_pure ⟨plainId_quiet PySem.F.plain_tuple_new _, codeAny_builtin PySem.F.entry_tuple_new ?_⟩))
  rw [Around.under_plainId PySem.F.plain_tuple_new _]
  have hsub := sub_tuple_self
  have hinit := init_tuple_lookup
  have hmh := madeHere_tuple
  have hTI := hT 0 s hst
  wp_walk using wpAny_typeOf hTI, collect_map (hn := hsz) W hT hst hfp hI
  intro s' acc hm hacc
  show wpAny _ _ (Builtin.Tuple.tupleExact acc.toList.toArray >>= fun v => ret v) _ _ _
  unfold Builtin.Tuple.tupleExact
  refine wpAny_bind (wpAny_newObj_type ?_ (by show acc.toList.toArray.size ≤ sizeLine; simp only [Array.toArray_toList]; rw [hacc.1]; exact hsz))
  refine wpAny_pure ?_
  have e : acc.toList.toArray = acc := by simp
  rw [e]
  exact h s' acc hm hacc
theorem call_tuple_map {Q : Value → Shared → Prop} (W : WalksS prog w A.in1.in1.in1 I fp wr G n P St) (hT : ∀ i s, St i s → s.TypeIs (.ref I) "map") (hst : St 0 s) (hfp : ∀ b ∈ fp, b < s.heap.objs.size) (hI : I ∈ fp)
    (hQ : ∀ s' acc, Moved wr G s s' → ItemsOf P acc n → Q (.ref s'.heap.objs.size) { s' with heap := s'.heap.push { cls := .type "tuple", data := .seq acc } }) (hsz : n ≤ sizeLine) :
    wpAny (model prog w) A (call (.type "tuple") [.ref I]) Q E s := by
  refine callType_codes (Q₁ := fun obj s₁ => s₁.TypeIs obj "tuple" ∧ Q obj s₁) PySem.F.called_tuple (PySem.F.typeCall_tuple_1 _) PySem.F.entry_object_init
    (code_tuple_map (hsz := hsz) W hT hst hfp hI fun s' acc hm hacc => ⟨⟨_, Heap.get?_push_size _ rfl, rfl⟩, hQ s' acc hm hacc⟩) fun obj s₁ h₁ => ?_
  exact ⟨h₁.1, PySem.F.args_object_init_2 obj _, object_init_meets PySem.F.called_tuple.init.lookup PySem.F.called_tuple.made (by decide) prog w A.in1 _ s₁ ⟨h₁.1, rfl, h₁.2⟩⟩
end
end
section
noncomputable abbrev PP : Program := PySem.Challenge.rw_un0041_01.row.prog
theorem char_ne (c : Nat) : (⟨#[c]⟩ : Str) ≠ Str.ofString "" := by
  rw [(by decide +kernel : Str.ofString "" = ⟨#[]⟩)]
  intro e
  exact absurd (congrArg (fun x : Str => x.cps.size) e) (by simp)
theorem ch_ne (c k : Nat) (x : Str) (hx : x = ⟨#[k]⟩) (h : c ≠ k) : ¬ ((⟨#[c]⟩ : Str) == x) = true := by
  subst hx
  intro e
  have := eq_of_beq e
  simp at this
  exact h this
theorem q_is : Str.ofString "\"" = ⟨#[34]⟩ := by decide +kernel
theorem b_is : Str.ofString "\\" = ⟨#[92]⟩ := by decide +kernel
noncomputable abbrev inWs (c : Nat) : Bool := (Builtin.Str.occurrences (Str.ofString "\n\t\r ") ⟨#[c]⟩ 0 (Str.ofString "\n\t\r ").length 1).isEmpty
theorem ws34 : inWs 34 = true := by decide +kernel
theorem ws32 : ¬ inWs 32 = true := by decide +kernel
theorem ws10 : ¬ inWs 10 = true := by decide +kernel
theorem wsOct : ∀ c, 48 ≤ c → c < 56 → inWs c = true := by
  intro c h1 h2
  obtain ⟨k, rfl⟩ := Nat.exists_eq_add_of_le h1
  exact (by decide +kernel : ∀ k, k < 8 → inWs (48 + k) = true) k (Nat.lt_of_add_lt_add_left (n := 48) h2)
theorem lex_le {z : LA} (hz : z.Ok) {P : Params} {q : Array Value} {qn : Nat} {ln : Int} {lt : Tok} {left : Array Value} {n : Nat} : ∀ a ∈ (lexLed P z q qn ln lt left n).map (·.1), @LE.le Nat _ a z.pb := by
  obtain ⟨b1, b2, b3, b4, b5, b6, b7, b8, b9, b10, _⟩ := hz
  intro a ha
  simp only [List.map_cons, List.map_nil, List.mem_cons, List.not_mem_nil, or_false] at ha
  have e0 : @LE.le Nat _ z.pb z.pb := Nat.le_refl _
  have e1 : @LE.le Nat _ z.x z.pb := Nat.le_of_lt b10
  have e2 : @LE.le Nat _ z.d z.pb := Nat.le_trans (Nat.le_of_lt b9) e1
  have e3 : @LE.le Nat _ z.f z.pb := Nat.le_trans (Nat.le_of_lt b8) e2
  have e4 : @LE.le Nat _ z.c z.pb := Nat.le_trans (Nat.le_of_lt b7) e3
  have e5 : @LE.le Nat _ z.pb1 z.pb := Nat.le_trans (Nat.le_of_lt b6) e4
  have e6 : @LE.le Nat _ z.x1 z.pb := Nat.le_trans (Nat.le_of_lt b5) e5
  have e7 : @LE.le Nat _ z.d1 z.pb := Nat.le_trans (Nat.le_of_lt b4) e6
  have e8 : @LE.le Nat _ z.lf z.pb := Nat.le_trans (Nat.le_of_lt b3) e7
  have e9 : @LE.le Nat _ z.cc z.pb := Nat.le_trans (Nat.le_of_lt b2) e8
  rcases ha with rfl | rfl | rfl | rfl | rfl | rfl | rfl | rfl | rfl | rfl <;> assumption
theorem method_read (w : World) : (hd.heap_39 w.params).lookup 96 = (hd.heap_39 w.params).lookup 96 := rfl
/-- the read function stands in the written part -/
noncomputable def isFnAt (K : Frag) (f : Addr) : Bool := match K.lookup f with
  | some ⟨_, _, .func _, _⟩ => true
  | _ => false
theorem fnAt_of {K : Frag} {h : Heap} {f : Addr} (X : K.In h) (e : isFnAt K f = true) : ∃ fo fd, h.get? f = some fo ∧ fo.data = .func fd := by
  unfold isFnAt at e
  split at e
  · rename_i fd _ hk
    exact ⟨_, _, X _ _ hk, rfl⟩
  · cases e
noncomputable abbrev itLed (I M : Nat) (ts : Tok) (x : Nat) : Led := [(I, ciObj M ts), (M, methodObj (.ref 96) (.ref x))]
section
variable {w : World} {p : Program} {loose : List Str} {mean : ExcName → Option Value} {mg mb : Str → Option Value} {z : LA}
  {A : Around} {dp un : Nat} {gd : Option (List Code)} {cn : Str} {cs : Scope} {a : Addr} {ccd : Value} {cl : List (Str × Addr)} {outer : List Env} {A₀ : Around} {base g : Heap} {L : Addr} {m : Str → Option Value} {s : Shared} {R : Result → Shared → Prop}
  {I M : Nat} {ts : Tok} {q : Array Value} {qn : Nat} {ln : Int} {lt : Tok} {n : Nat} {body orelse : List Stmt} {ps : Pos}
theorem read_turn (hz : z.Ok) (hA : A.in1 = ktrTop dp un gd cn cs L a ccd cl outer) (B : Below A₀ base outer g) (F : Fr g L s.heap m) (X : (hd.heap_39 w.params).In g) (T : Top p loose mean mg mb g) (hk : cs.kind = .function) (hd' : dp + 10 * 3 < recursionLimit) (hu : un + 100 * 3 < cLine)
    {c : Nat} {t : Tok} {vs : List Value} (N : News g L s.heap (itLed I M ts z.x ++ lexLed w.params z q qn ln lt (Value.str ⟨#[c]⟩ t :: vs).toArray n)) (o1 : z.pb < M) (o2 : M < I) (hlen : vs.length < 10000)
    (hx : (envX cn cs L a ccd cl).kindOf (Str.ofString "ch") = some .local)
    (h : ∀ h' tk' ln' lt', Fr g L h' (fun y => if y = Str.ofString "ch" then some (.str ⟨#[c]⟩ t) else m y) → News g L h' (itLed I M ts z.x ++ lexLed w.params z q qn ln' lt' vs.toArray (n + 1)) →
      wpAny (model PP w) A (execs body (envX cn cs L a ccd cl)) (fun f s₄ => match f with
        | .next | .cont => codeAny (model PP w) A (.forLoop (.Name (Str.ofString "ch") ps) (.ref I) body orelse (envX cn cs L a ccd cl)) R s₄
        | .brk => R (.ok .next) s₄
        | .ret v => R (.ok (.ret v)) s₄) NoE { s with heap := h', toks := tk' }) :
    codeAny (model PP w) A (.forLoop (.Name (Str.ofString "ch") ps) (.ref I) body orelse (envX cn cs L a ccd cl)) R s := by
  have hh : A.handled = none := by
    have : A.in1.handled = none := by rw [hA]
    exact this
  obtain ⟨fo, fd, hf, hfd⟩ := fnAt_of (f := 96) (X.keeps F.keep) (by kernel_rfl)
  refine for_turn (pyNext_ci hh (N.get (o := ciObj M ts) (.head _)) (N.get (o := methodObj (.ref 96) (.ref z.x)) (.tail _ (.head _))) hf hfd ?_)
  rw [hA]
  refine ConF.code (read_con w p loose mean mg mb z hz q qn ln lt c t vs n hlen) (rest := itLed I M ts z.x) B F X N T hk hd' hu (fun p hp => List.mem_append_right _ hp) (fun p hp => List.mem_append_left _ hp) (fun p hp hm => ?_) fun r E1 h' tk' F' N' out => ?_
  · have le := lex_le hz _ hm
    simp only [List.mem_cons, List.not_mem_nil, or_false] at hp
    rcases hp with rfl | rfl <;> dsimp only at le <;> omega
  · obtain ⟨rfl, ln', lt', rfl⟩ := out
    have N2 : News g L h' (itLed I M ts z.x ++ lexLed w.params z q qn ln' lt' vs.toArray (n + 1)) := fun p hp => N' p ((List.mem_append.mp hp).elim (fun h => List.mem_append_right _ h) fun h => List.mem_append_left _ h)
    refine ⟨⟨#[c]⟩, t, rfl, N2.get (.head _), N2.get (.tail _ (.head _)), fnAt_of (X.keeps F'.keep) (by kernel_rfl), fun _ => ?_, fun e => absurd e (char_ne c)⟩
    show wpAny _ A (letOwnedTupleGo _ _ _) _ _ _
    refine wpAny_pure ?_
    refine wpAny_assign_Name (storeX_L F' N2 (fun h'' F'' N'' => ?_) hk hx)
    exact h h'' _ ln' lt' F'' N''

/-- the frame within an inner loop -/
noncomputable abbrev tokM (m : Str → Option Value) (acc : Str) (ta : Tok) (c : Nat) (t : Tok) : Str → Option Value := fun y => if y = Str.ofString "ch" then some (.str ⟨#[c]⟩ t) else if y = Str.ofString "token" then some (.str acc ta) else m y
noncomputable def TokStep (g : Heap) (L : Addr) (m' : Str → Option Value) (led : Led) (x : Str) (s : Shared) (f : Flow) (s₄ : Shared) : Prop :=
  f = .next ∧ ∃ h'' tk'' ta', s₄ = { s with heap := h'', toks := tk'' } ∧ Fr g L h'' (fun y => if y = Str.ofString "token" then some (.str x ta') else m' y) ∧ News g L h'' led
theorem read_loop (hz : z.Ok) (hA : A.in1 = ktrTop dp un gd cn cs L a ccd cl outer) (B : Below A₀ base outer g) (X : (hd.heap_39 w.params).In g) (T : Top p loose mean mg mb g) (hk : cs.kind = .function) (hd' : dp + 10 * 3 < recursionLimit) (hu : un + 100 * 3 < cLine)
    (o1 : z.pb < M) (o2 : M < I) (hx : (envX cn cs L a ccd cl).kindOf (Str.ofString "ch") = some .local) {e : Nat} {rest : List Nat} (Good : Nat → Prop)
    (step : ∀ c acc ta t h' tk' ln' lt' n' (vs' : List Value), Good c → acc.cps.size < 20000 → Fr g L h' (tokM m acc ta c t) → News g L h' (itLed I M ts z.x ++ lexLed w.params z q qn ln' lt' vs'.toArray n') →
      wpAny (model PP w) A (execs body (envX cn cs L a ccd cl)) (TokStep g L (tokM m acc ta c t) (itLed I M ts z.x ++ lexLed w.params z q qn ln' lt' vs'.toArray n') (acc ++ ⟨#[c]⟩) { s with heap := h', toks := tk' }) NoE { s with heap := h', toks := tk' }) :
    ∀ (tok : List Nat) (acc : Str) (ta : Tok) (m₁ : Str → Option Value) (hp : Heap) (tk : Nat) (ln : Int) (lt : Tok) (n : Nat) (vs : List Value), (∀ c ∈ tok, Good c) → acc.cps.size + tok.length < 20000 → vs.length < 10000 → Chars vs (tok ++ e :: rest) →
      (∀ y, y ≠ Str.ofString "ch" → m₁ y = if y = Str.ofString "token" then some (.str acc ta) else m y) → Fr g L hp m₁ → News g L hp (itLed I M ts z.x ++ lexLed w.params z q qn ln lt vs.toArray n) →
      (∀ ta t h' tk' ln' lt' n' (vs' : List Value), Chars vs' rest → Fr g L h' (tokM m (acc ++ ⟨tok.toArray⟩) ta e t) → News g L h' (itLed I M ts z.x ++ lexLed w.params z q qn ln' lt' vs'.toArray n') →
        wpAny (model PP w) A (execs body (envX cn cs L a ccd cl)) (fun f s₄ => match f with
          | .next | .cont => codeAny (model PP w) A (.forLoop (.Name (Str.ofString "ch") ps) (.ref I) body orelse (envX cn cs L a ccd cl)) R s₄
          | .brk => R (.ok .next) s₄
          | .ret v => R (.ok (.ret v)) s₄) NoE { s with heap := h', toks := tk' }) →
      codeAny (model PP w) A (.forLoop (.Name (Str.ofString "ch") ps) (.ref I) body orelse (envX cn cs L a ccd cl)) R { s with heap := hp, toks := tk } := by
  intro tok
  have fe : ∀ (m₁ : Str → Option Value) acc ta c t, (∀ y, y ≠ Str.ofString "ch" → m₁ y = if y = Str.ofString "token" then some (.str acc ta) else m y) →
      (fun y => if y = Str.ofString "ch" then some (Value.str ⟨#[c]⟩ t) else m₁ y) = tokM m acc ta c t := by
    intro m₁ acc ta c t h
    funext y
    by_cases hy : y = Str.ofString "ch"
    · simp only [tokM, if_pos hy]
    · simp only [tokM, if_neg hy]; exact h y hy
  induction tok with
  | nil =>
    intro acc ta m₁ hp tk ln lt n vs _ _ hlen hv hm F N last
    obtain ⟨t, vs', rfl, hv'⟩ := Chars.inv hv
    refine read_turn hz hA B F X T hk hd' hu N o1 o2 (by simp at hlen; omega) hx fun h' tk' ln' lt' F' N' => ?_
    rw [fe m₁ acc ta e t hm] at F'
    have z0 : (acc ++ (⟨#[]⟩ : Str)) = acc := by rw [← (by decide +kernel : Str.ofString "" = ⟨#[]⟩)]; exact Str.append_empty _
    have last' := last ta t h' tk' ln' lt' (n + 1) vs' hv'
    rw [show (⟨([] : List Nat).toArray⟩ : Str) = ⟨#[]⟩ from rfl, z0] at last'
    exact last' F' N'
  | cons c r ih =>
    intro acc ta m₁ hp tk ln lt n vs hg hac hlen hv hm F N last
    obtain ⟨t, vs', rfl, hv'⟩ := Chars.inv hv
    refine read_turn hz hA B F X T hk hd' hu N o1 o2 (by simp at hlen; omega) hx fun h' tk' ln' lt' F' N' => ?_
    rw [fe m₁ acc ta c t hm] at F'
    refine wpAny_mono (step c acc ta t h' tk' ln' lt' (n + 1) vs' (hg c (.head _)) (by simp at hac; omega) F' N') (fun f s₄ z4 => ?_) fun _ _ e => e
    obtain ⟨rfl, h'', tk'', ta', rfl, F'', N''⟩ := z4
    have e2 : (⟨(c :: r).toArray⟩ : Str) = ⟨#[c]⟩ ++ ⟨r.toArray⟩ := by apply Str.ext'; rw [Str.cps_append]; simp
    refine ih (acc ++ ⟨#[c]⟩) ta' _ h'' tk'' ln' lt' (n + 1) vs' (fun c' hc' => hg c' (.tail _ hc')) (by rw [Str.cps_append, Array.size_append]; simp at hac ⊢; omega) (by simp at hlen; omega) hv' (fun y hy => ?_) F'' N'' ?_
    · by_cases h1 : y = Str.ofString "token"
      · simp only [if_pos h1]
      · simp only [tokM, if_neg h1, if_neg hy]
    · rw [Str.append_assoc, ← e2]; exact last
theorem read_loop1 (hz : z.Ok) (hA : A.in1 = ktrTop dp un gd cn cs L a ccd cl outer) (B : Below A₀ base outer g) (F : Fr g L s.heap m) (X : (hd.heap_39 w.params).In g) (T : Top p loose mean mg mb g) (hk : cs.kind = .function) (hd' : dp + 10 * 3 < recursionLimit) (hu : un + 100 * 3 < cLine)
    {vs : List Value} (N : News g L s.heap (itLed I M ts z.x ++ lexLed w.params z q qn ln lt vs.toArray n))
    (o1 : z.pb < M) (o2 : M < I) (hx : (envX cn cs L a ccd cl).kindOf (Str.ofString "ch") = some .local) {tok : List Nat} {e : Nat} {rest : List Nat} {acc : Str} {ta : Tok} (Good : Nat → Prop) (hg : ∀ c ∈ tok, Good c) (hac : acc.cps.size + tok.length < 20000) (hlen : vs.length < 10000) (hv : Chars vs (tok ++ e :: rest))
    (hm : m (Str.ofString "token") = some (.str acc ta))
    (step : ∀ c acc ta t h' tk' ln' lt' n' (vs' : List Value), Good c → acc.cps.size < 20000 → Fr g L h' (tokM m acc ta c t) → News g L h' (itLed I M ts z.x ++ lexLed w.params z q qn ln' lt' vs'.toArray n') →
      wpAny (model PP w) A (execs body (envX cn cs L a ccd cl)) (TokStep g L (tokM m acc ta c t) (itLed I M ts z.x ++ lexLed w.params z q qn ln' lt' vs'.toArray n') (acc ++ ⟨#[c]⟩) { s with heap := h', toks := tk' }) NoE { s with heap := h', toks := tk' })
    (last : ∀ ta t h' tk' ln' lt' n' (vs' : List Value), Chars vs' rest → Fr g L h' (tokM m (acc ++ ⟨tok.toArray⟩) ta e t) → News g L h' (itLed I M ts z.x ++ lexLed w.params z q qn ln' lt' vs'.toArray n') →
        wpAny (model PP w) A (execs body (envX cn cs L a ccd cl)) (fun f s₄ => match f with
          | .next | .cont => codeAny (model PP w) A (.forLoop (.Name (Str.ofString "ch") ps) (.ref I) body orelse (envX cn cs L a ccd cl)) R s₄
          | .brk => R (.ok .next) s₄
          | .ret v => R (.ok (.ret v)) s₄) NoE { s with heap := h', toks := tk' }) :
      codeAny (model PP w) A (.forLoop (.Name (Str.ofString "ch") ps) (.ref I) body orelse (envX cn cs L a ccd cl)) R s :=
  read_loop (s := s) hz hA B X T hk hd' hu o1 o2 hx (e := e) (rest := rest) Good step tok acc ta m s.heap s.toks ln lt n vs hg hac hlen hv (fun y _ => by
    by_cases h : y = Str.ofString "token"
    · rw [if_pos h, h]; exact hm
    · rw [if_neg h]) F N last
theorem read_turn_end (hz : z.Ok) (hA : A.in1 = ktrTop dp un gd cn cs L a ccd cl outer) (B : Below A₀ base outer g) (F : Fr g L s.heap m) (X : (hd.heap_39 w.params).In g) (T : Top p loose mean mg mb g) (hk : cs.kind = .function) (hd' : dp + 10 * 3 < recursionLimit) (hu : un + 100 * 3 < cLine)
    (N : News g L s.heap (itLed I M ts z.x ++ lexLed w.params z q qn ln lt #[] n)) (o1 : z.pb < M) (o2 : M < I)
    (h : ∀ h' tk', Fr g L h' m → News g L h' (lexLed w.params z q qn ln lt #[] n) →
      wpAny (model PP w) A (execs orelse (envX cn cs L a ccd cl)) (fun f s₄ => R (.ok f) s₄) NoE { s with heap := h', toks := tk' }) :
    codeAny (model PP w) A (.forLoop (.Name (Str.ofString "ch") ps) (.ref I) body orelse (envX cn cs L a ccd cl)) R s := by
  have hh : A.handled = none := by
    have : A.in1.handled = none := by rw [hA]
    exact this
  have hI := N (I, ciObj M ts) (.head _)
  obtain ⟨fo, fd, hf, hfd⟩ := fnAt_of (f := 96) (X.keeps F.keep) (by kernel_rfl)
  refine for_turn (pyNext_ci hh hI.1 (N.get (o := methodObj (.ref 96) (.ref z.x)) (.tail _ (.head _))) hf hfd ?_)
  rw [hA]
  refine ConF.code (read_end w p loose mean mg mb z hz q qn ln lt n) (rest := itLed I M ts z.x) B F X N T hk hd' hu (fun p hp => List.mem_append_right _ hp) (fun p hp => List.mem_append_left _ hp) (fun p hp hm => ?_) fun r E1 h' tk' F' N' out => ?_
  · have le := lex_le hz _ hm
    simp only [List.mem_cons, List.not_mem_nil, or_false] at hp
    rcases hp with rfl | rfl <;> dsimp only at le <;> omega
  · obtain ⟨⟨t, rfl⟩, rfl⟩ := out
    have N2 : News g L h' (itLed I M ts z.x ++ lexLed w.params z q qn ln lt #[] n) := fun p hp => N' p ((List.mem_append.mp hp).elim (fun h => List.mem_append_right _ h) fun h => List.mem_append_left _ h)
    refine ⟨Str.ofString "", t, rfl, N2.get (.head _), N2.get (.tail _ (.head _)), fnAt_of (X.keeps F'.keep) (by kernel_rfl), fun e => absurd rfl e, fun _ h'' tk'' hk'' => ?_⟩
    refine h h'' tk'' ⟨F'.ns.at' fun o e => hk'' _ _ (fun e' => hI.2.1 e'.symm) e, fun b o e => hk'' _ _ (fun e' => ?_) (F'.keep b o e), F'.above⟩ (fun p hp => ⟨hk'' _ _ (fun e' => ?_) (N2 p (List.mem_append_right _ hp)).1, (N2 p (List.mem_append_right _ hp)).2⟩)
    · subst e'
      rw [hI.2.2] at e; cases e
    · have le := lex_le hz p.1 (List.mem_map_of_mem hp)
      rw [e'] at le
      have : I ≤ z.pb := le
      omega
end
end
section
theorem Fr_shape {g h : Heap} {L : Addr} {m : Str → Option Value} {x : Str} {v : Value} (F : Fr g L h m) (e : m x = some v) : Fr g L h (fun y => if y = x then some v else m y) := by
  have : (fun y => if y = x then some v else m y) = m := by
    funext y
    by_cases q : y = x
    · rw [if_pos q, q, e]
    · rw [if_neg q]
  rw [this]; exact F
noncomputable def tupAt (K : Frag) (a : Nat) : Option (List Value) := match K.lookup a with
  | some ⟨.type c, _, .seq items _, _⟩ => if c = "tuple" then some items.toList else none
  | _ => none
theorem tup_of {K : Frag} {h : Heap} {a : Nat} {vs : List Value} (X : K.In h) (e : tupAt K a = some vs) : IsTup h a vs.toArray := by
  unfold tupAt at e
  split at e
  · rename_i c d items n sl hk
    split at e
    · rename_i hc
      subst hc
      have : vs = items.toList := (Option.some.inj e).symm
      subst this
      exact ⟨_, X _ _ hk, rfl, n, by simp⟩
    · cases e
  · cases e
noncomputable abbrev tabs : List (Nat × List Nat) := [(43, [36, 37, 38, 39, 40, 41, 42]), (45, [44]), (47, [46]), (51, [48, 49, 50]), (53, [52]), (55, [54]), (59, [56, 57, 58]), (61, [60]), (63, [62]), (67, [64, 65, 66])]
noncomputable def refsAre : List Value → List Nat → Bool
  | [], [] => true
  | .ref a :: vs, b :: bs => (a : Nat) == b && refsAre vs bs
  | _, _ => false
theorem refs_of : ∀ {vs : List Value} {bs : List Nat}, refsAre vs bs = true → vs = bs.map fun b => Value.ref b
  | [], [], _ => rfl
  | .ref a :: vs, b :: bs, h => by
    simp only [refsAre, Bool.and_eq_true] at h
    rw [refs_of h.2, eq_of_beq h.1]; rfl
  | [], _ :: _, h => by simp [refsAre] at h
noncomputable def tupRefs (K : Frag) (a : Nat) (bs : List Nat) : Bool := match tupAt K a with
  | some vs => refsAre vs bs
  | none => false
theorem tupRefs_of {K : Frag} {h : Heap} {a : Nat} {bs : List Nat} (X : K.In h) (e : tupRefs K a bs = true) : IsTup h a (bs.map fun b => Value.ref b).toArray := by
  unfold tupRefs at e
  split at e
  · rename_i vs hv
    rw [← refs_of e]
    exact tup_of X hv
  · cases e
structure Ent where
  bit : Int
  tb : Tok
  chr : Str
  tc : Tok
noncomputable def entAt (K : Frag) (a : Nat) : Option Ent := match tupAt K a with
  | some [.int b tb, .str c tc] => some ⟨b, tb, c, tc⟩
  | _ => none
theorem ent_of {K : Frag} {h : Heap} {a : Nat} {e : Ent} (X : K.In h) (q : entAt K a = some e) : IsTup h a #[.int e.bit e.tb, .str e.chr e.tc] := by
  unfold entAt at q
  split at q
  · rename_i b tb c tc hv
    cases q
    exact tup_of X hv
  · cases q
noncomputable def ent (K : Frag) (a : Nat) : Ent := (entAt K a).getD ⟨0, 0, Str.ofString "", 0⟩
theorem tabK (P : Params) : tupRefs (hd.heap_39 P) 68 (tabs.map (·.1)) = true := by kernel_rfl
theorem entK (P : Params) : (tabs.all fun t => tupRefs (hd.heap_39 P) t.1 t.2 && t.2.all fun e => (entAt (hd.heap_39 P) e).isSome) = true := by kernel_rfl
/-- the sign of one table -/
noncomputable def signOf (K : Frag) (miss : Str) (hit : Nat → Bool) : List Nat → Str
  | [] => miss
  | e :: es => if hit e then (ent K e).chr else signOf K miss hit es
noncomputable def missOf (i : Nat) : Str := if i = 0 then Str.ofString "?" else Str.ofString "-"
section
variable {prog : Program} {w : World} {A : Around} {target : Expr} {body orelse : List Stmt} {env : Env} {R : Result → Shared → Prop} {g : Heap} {L : Addr} {s : Shared}
/-- what one turn of the inner loop does: the list l grows by a sign, or nothing -/
noncomputable def Done (g : Heap) (L : Addr) (s : Shared) (Kept : (Str → Option Value) → Prop) (led : Led) (s₄ : Shared) : Prop :=
  ∃ h' tk' m', s₄ = { s with heap := h', toks := tk' } ∧ Kept m' ∧ Fr g L h' m' ∧ News g L h' led
theorem Done_mk {h' : Heap} {tk' : Nat} {m' : Str → Option Value} {Kept : (Str → Option Value) → Prop} {led : Led} (F : Fr g L h' m') (N : News g L h' led) (hK : Kept m') : Done g L s Kept led { s with heap := h', toks := tk' } := ⟨_, _, _, rfl, hK, F, N⟩
theorem fm_inner {K : Frag} {miss : Str} (hh : A.handled = none) (Kept : (Str → Option Value) → Prop) (hit : Nat → Bool) {t I l : Addr} {keep : Led} {acc : Array Value} {n : Nat} {all : List Nat}
    (ht : IsTup g t (all.map fun b => Value.ref b).toArray) (hI : ∀ p ∈ keep ++ [(l, W.listOf acc n)], p.1 ≠ I)
    (step : ∀ e ∈ all, ∀ (s : Shared) oI m, Kept m → Fr g L s.heap m → News g L s.heap ((I, oI) :: (keep ++ [(l, W.listOf acc n)])) →
      wpAny (model prog w) A (assign target env (.ref e)) (fun _ s₃ => wpAny (model prog w) A (execs body env) (fun f s₄ =>
        if hit e then f = .brk ∧ Done g L s Kept (keep ++ [(l, W.listOf (acc ++ #[.str (ent K e).chr (ent K e).tc]) (n + 1))]) s₄
        else f = .next ∧ Done g L s Kept ((I, oI) :: (keep ++ [(l, W.listOf acc n)])) s₄) NoE s₃) NoE s)
    (last : ∀ (s : Shared) m, Kept m → Fr g L s.heap m → News g L s.heap (keep ++ [(l, W.listOf acc n)]) →
      wpAny (model prog w) A (execs orelse env) (fun f s₄ => f = .next ∧ ∃ t, Done g L s Kept (keep ++ [(l, W.listOf (acc ++ #[.str miss t]) (n + 1))]) s₄) NoE s) :
    ∀ (es pre : List Nat), all = pre ++ es → ∀ (s : Shared) oI m, TiAt oI t pre.length → Kept m → Fr g L s.heap m → News g L s.heap ((I, oI) :: (keep ++ [(l, W.listOf acc n)])) →
      (∀ h' tk' m' t', Kept m' → Fr g L h' m' → News g L h' (keep ++ [(l, W.listOf (acc ++ #[.str (signOf K miss hit es) t']) (n + 1))]) → R (.ok .next) { s with heap := h', toks := tk' }) →
      codeAny (model prog w) A (.forLoop target (.ref I) body orelse env) R s := by
  intro es
  induction es with
  | nil =>
    intro pre hp s oI m hi hK F N fin
    refine ti_end hh F N hI ht hi (by subst hp; simp) fun h' F' N' => ?_
    refine wpAny_mono (last _ m hK F' N') (fun f s₄ z => ?_) fun _ _ e => e
    obtain ⟨rfl, t', h'', tk'', m', rfl, K', F'', N''⟩ := z
    exact fin _ _ _ _ K' F'' N''
  | cons e es ih =>
    intro pre hp s oI m hi hK F N fin
    refine ti_item F N hI ht hi (x := .ref e) (by subst hp; simp) fun h' oI' F' N' hi' => ?_
    refine wpAny_mono (step e (by subst hp; simp) _ oI' m hK F' N') (fun _ s₃ z => wpAny_mono z (fun f s₄ z => ?_) fun _ _ e => e) fun _ _ e => e
    cases hc : hit e with
    | true =>
      rw [hc] at z
      simp only [if_true] at z
      obtain ⟨rfl, h'', tk'', m', rfl, K', F'', N''⟩ := z
      exact fin h'' tk'' m' (ent K e).tc K' F'' (by rw [signOf, hc, if_pos rfl]; exact N'')
    | false =>
      rw [hc] at z
      simp only [Bool.false_eq_true, if_false] at z
      obtain ⟨rfl, h'', tk'', m', rfl, K', F'', N''⟩ := z
      refine ih (pre ++ [e]) (by rw [hp, List.append_assoc]; rfl) { s with heap := h'', toks := tk'' } oI' m' (by rw [List.length_append]; exact hi') K' F'' N'' fun h3 tk3 m3 t3 K3 F3 N3 => ?_
      refine fin h3 tk3 m3 t3 K3 F3 ?_
      rw [signOf, hc, if_neg Bool.false_ne_true]
      exact N3
/-- all signs -/
noncomputable def signsOf (K : Frag) (hit : Nat → Nat → Bool) : Nat → List (Nat × List Nat) → List Str
  | _, [] => []
  | i, t :: ts => signOf K (missOf i) (hit i) t.2 :: signsOf K hit (i + 1) ts
theorem fm_outer {K : Frag} {elts : List Expr} {x1 : Nat} {pos : Pos} (hh : A.in1.handled = none) (Kept : (Str → Option Value) → Prop) (hit : Nat → Nat → Bool) {t e it l : Addr} {all : List (Nat × List Nat)}
    (ht : IsTup g t ((all.map (·.1)).map fun b => Value.ref b).toArray) (o1 : @LT.lt Nat _ l it) (o2 : @LT.lt Nat _ it e)
    (step : ∀ (i : Nat) (tt : Nat × List Nat), all[i]? = some tt → ∀ (s : Shared) T tk oit oe acc n m, Kept m → Fr g L s.heap m → News g L s.heap [(T, { cls := .type "tuple", data := .seq #[.int (i : Int) tk, .ref tt.1] }), (e, oe), (it, oit), (l, W.listOf acc n)] → @LT.lt Nat _ e T → acc.size < 20 →
      wpAny (model prog w) A (assign (.Tuple elts x1 pos) env (.ref T)) (fun _ s₃ => wpAny (model prog w) A (execs body env) (fun f s₄ =>
        f = .next ∧ ∃ t, Done g L s Kept [(e, oe), (it, oit), (l, W.listOf (acc ++ #[.str (signOf K (missOf i) (hit i) tt.2) t]) (n + 1))] s₄) NoE s₃) NoE s) :
    ∀ (ts pre : List (Nat × List Nat)), all = pre ++ ts → all.length < 20 → ∀ (s : Shared) old oit m (acc : Array Value) n ys, TiAt oit t pre.length → Kept m → Fr g L s.heap m → acc.size = pre.length → StrsAre acc.toList ys → News g L s.heap [(e, enRec it (pre.length : Nat) old), (it, oit), (l, W.listOf acc n)] →
      (∀ h' tk' m' acc' n', Kept m' → Fr g L h' m' → News g L h' [(l, W.listOf acc' n')] → StrsAre acc'.toList (ys ++ signsOf K hit pre.length ts) → wpAny (model prog w) A (execs orelse env) (fun f s' => R (.ok f) s') NoE { s with heap := h', toks := tk' }) →
      codeAny (model prog w) A (.forLoop (.Tuple elts x1 pos) (.ref e) body orelse env) R s := by
  intro ts
  have ne : ∀ (n : Nat) (acc : Array Value), ∀ p ∈ [(l, W.listOf acc n)], p.1 ≠ it ∧ p.1 ≠ e := fun n acc p hp => by
    rw [List.mem_singleton.mp hp]; exact ⟨Nat.ne_of_lt o1, Nat.ne_of_lt (Nat.lt_trans o1 o2)⟩
  have snoc : ∀ (vs : List Value) (ys : List Str) y t, StrsAre vs ys → StrsAre (vs ++ [Value.str y t]) (ys ++ [y]) := fun vs ys y t h => by
    induction h with
    | nil => exact .cons _ _ .nil
    | cons a b _ ih => exact .cons a b ih
  induction ts with
  | nil =>
    intro pre hp hl s old oit m acc n ys hi hK F _ hy N fin
    refine en_end hh F N (fun p hp => (ne n acc p hp).1) ht hi (by subst hp; simp) fun h' F' N' => ?_
    exact fin h' _ m acc n hK F' N' (by rw [signsOf, List.append_nil]; exact hy)
  | cons tt ts ih =>
    intro pre hp hl s old oit m acc n ys hi hK F hs hy N fin
    refine en_item hh F N (Nat.ne_of_lt o2) (ne n acc) ht hi (x := .ref tt.1) (by subst hp; simp) fun T tk h' oit' F' N' l1 l2 l3 hi' => ?_
    refine wpAny_mono (step pre.length tt (by subst hp; simp) _ T tk oit' _ acc n m hK F' N' l2 (by rw [hs]; subst hp; simp at hl; omega)) (fun _ s₃ z => wpAny_mono z (fun f s₄ z => ?_) fun _ _ e => e) fun _ _ e => e
    obtain ⟨rfl, t', h'', tk'', m', rfl, K', F'', N''⟩ := z
    refine ih (pre ++ [tt]) (by rw [hp, List.append_assoc]; rfl) hl { s with heap := h'', toks := tk'' } (.ref tt.1) oit' m' (acc ++ #[.str (signOf K (missOf pre.length) (hit pre.length) tt.2) t']) (n + 1) (ys ++ [signOf K (missOf pre.length) (hit pre.length) tt.2]) (by rw [List.length_append]; exact hi') K' F'' (by simp [hs]) (by rw [Array.toList_append]; exact snoc _ _ _ t' hy) (by rw [List.length_append]; exact N'') fun h3 tk3 m3 acc3 n3 K3 F3 N3 S3 => ?_
    refine fin h3 tk3 m3 acc3 n3 K3 F3 N3 ?_
    rw [List.append_assoc, List.length_append] at S3
    exact S3
end
end
section
theorem rulesFm2 : True := by
  k_with_none
  k_with "k_ne" => (refine neN ?_; (try dsimp only); first | exact Nat.ne_of_lt (by with_reducible assumption) | exact Nat.ne_of_gt (by with_reducible assumption) | with_reducible assumption | exact neL_up (by with_reducible assumption) | with_reducible exact neL_13 | with_reducible exact neL_23 | with_reducible exact neL_12 | with_reducible exact neL_31 | with_reducible exact neL_32 | with_reducible exact neL_21 | exact Nat.ne_of_gt (by walk_at "pick") | exact Nat.ne_of_lt (by walk_at "pick") | omega)
  k_with "pick" => first | with_reducible assumption | with_reducible exact j1 (by assumption) | with_reducible exact j2 (by assumption) | with_reducible exact j3 (by assumption) | with_reducible exact j4 (by assumption) | with_reducible exact j5 (by assumption) | with_reducible exact j6 (by assumption) | with_reducible exact j7 (by assumption) | with_reducible exact j8 (by assumption) | with_reducible exact j9 (by assumption) | with_reducible exact j10 (by assumption) | with_reducible exact j11 (by assumption) | with_reducible exact j12 (by assumption) | with_reducible exact j13 (by assumption) | with_reducible exact j14 (by assumption) | with_reducible exact j15 (by assumption)
  k_with "om" => first | walk_at "pick" | with_reducible exact Nat.lt_trans (by assumption) (by walk_at "pick")
  k_with "k_mem" => first | exact List.Mem.head _ | assumption | exact List.mem_append_left _ (by assumption) | exact List.mem_append_right _ (by assumption) | (refine' List.Mem.tail _ ?_; k_extra "k_mem")
  k_with "room" => first | exact rm1 (by assumption) (by decide) | exact rm2 (by assumption) (by decide) | exact rm0 (by assumption) | exact rm3 (by assumption) (by decide) | ktr_room
  k_with "units" => first | exact rm1 (by assumption) (by decide) | exact rm2 (by assumption) (by decide) | exact rm0 (by assumption) | exact rm3 (by assumption) (by decide) | ktr_units
  k_with "lt" => try ((rename ∀ p ∈ (_ : List (Addr × Obj)), @LT.lt Nat _ p.1 _ => q9l9); k_lt q9l9; revert q9l9; intro _)
  k_with "dn" => try dsimp only [List.cons_append, List.nil_append] at ‹News _ _ _ _›
  k_with "dd" => try dsimp only [List.cons_append, List.nil_append] at ‹Obj.IsDictOf _ _ _›
  k_with "ds" => try dsimp only [List.cons_append, List.nil_append] at ‹LexSt _ _ _ _ _›
  k_with "end 0" => (intro q9g' q9L' q9h' q9off' q9FG' q9F' q9N' q9B' q9X' q9T' q9l0'; (try k_lt q9l0'); (try dsimp only); (try k_lift q9B'); (try k_fold))
  k_with "end 1" => (intro q9g' q9L' q9h' q9tk' q9cells' q9off' q9FG' q9F' q9N' q9Y' q9B' q9X' q9T' q9l0'; (try k_lt q9l0'); k_cells q9Y'; (try dsimp only [List.cons_append, List.nil_append] at q9N'); (try dsimp only); (try k_lift q9B'); (try k_fold))
  k_with "enterF" => (k_dflt (refine' enterF (by k_asm) (by k_asm) (by k_asm) (by k_asm) (by k_asm) (by exact rfl) (by exact rfl) (by assumption) (by k_is) (by k_is) (by walk_at "room") (by first | exact BindsTo.of_eq rfl | exact binds_K (by k_in) rfl (by k_is) rfl rfl rfl) (by exact locs rfl) ?_ (by exact rfl) (by exact rfl) (by exact rfl) (by decide); k_whole; walk_at "end 0"))
  k_with "enterFC" => (k_dflt (refine' enterFC (by k_asm) (by k_asm) (by k_asm) (by k_asm) (by k_asm) (by exact rfl) (by exact rfl) (by assumption) (by k_is) (by k_is) (by walk_at "room") (by first | exact BindsTo.of_eq rfl | exact binds_K (by k_in) rfl (by k_is) rfl rfl rfl) (by exact rfl) (by decide +kernel) ?_ (by exact rfl) (by exact rfl) (by exact rfl); k_whole; walk_at "end 1"))
  k_with "call type:list" => (k_here; (with_reducible show wpAny _ _ (call (Value.type "list") [Value.str _ _]) _ _ _); k_dflt (refine' list_str_N (by exact rfl) (by k_asm) (by k_asm) (by assumption) ?_; k_whole); intros; walk_at "lt"; (try k_sweep))
  k_with "call builtin:list.pop" => (k_here; (with_reducible show wpAny _ _ (call (Value.builtin _) [Value.ref _, Value.int _ _]) _ _ _); k_dflt (refine' pop0_N (by k_asm) (by k_asm) (by k_upd) (by omega) ?_); intros; (try k_sweep))
  k_with "call builtin:iter" => (k_here; (with_reducible show wpAny _ _ (call (Value.builtin "iter") [Value.ref _, Value.str _ _]) _ _ _); k_dflt (refine' iter2_N (by k_asm) (by k_asm) (by k_mem) ?_; k_whole); intros; walk_at "lt"; (try k_sweep))
  k_with "pyIter ref" => (k_here; k_dflt (refine' pyIter_ci (by k_asm) (by k_mem) ?_; k_whole))
  k_with "exec For Name Name cons nil" => (k_here; k_dflt (refine wpAny_For ?_ (by intro _; rfl)))
  k_with "ite" => (with_reducible first | refine ite_pos (by assumption) ?_ | refine ite_neg (by assumption) ?_)
  k_with "call type:enumerate" => (k_here; k_dflt (refine' enum_tuple_N (by k_asm) (by k_asm) (by assumption) ?_; k_whole); intros; walk_at "lt"; (try k_sweep))
  k_with "exec For Tuple Call" => (k_here; k_dflt (refine wpAny_For ?_ (by intro _; rfl)))
  k_with "pyIter ref" => (k_here; k_dflt (refine' wpAny_pyIter_enum (by exact News.get (by k_asm) (.head _)) ?_; k_whole))
  exact True.intro
theorem pyIter_tup_N {prog : Program} {w : World} {A : Around} {E : Value → Shared → Prop} {s : Shared} {g : Heap} {L : Addr} {m : Str → Option Value} {news : Led} {t : Addr} {items : Array Value} {Q : Value → Shared → Prop}
    (F : Fr g L s.heap m) (N : News g L s.heap news) (ht : IsTup g t items)
    (h : ∀ I h', Fr g L h' m → News g L h' ((I, tiObj t) :: news) → (∀ p ∈ news, p.1 < I) → Q (.ref I) { s with heap := h' }) : wpAny (model prog w) A (pyIter (.ref t)) Q E s := by
  have ht' : s.heap.IsTuple t items := by obtain ⟨o, ho, r⟩ := ht; exact ⟨o, F.keep _ _ ho, r⟩
  exact wpAny_pyIter_tuple ht' (h _ _ (F.push _) (N.push F _ rfl) fun p hp => Heap.lt_size (N p hp).1)
theorem rulesFm2_0 : True := by
  k_with "pyIter ref" => (k_here; k_dflt (refine' pyIter_tup_N (by k_asm) (by k_asm) (by assumption) ?_; k_whole); intros; walk_at "lt")
  k_with "exec For Tuple Name cons cons" => (k_here; k_dflt (refine wpAny_For ?_ (by intro _; rfl)))
  exact True.intro
theorem ite_dec {c : Prop} [Decidable c] {P Q : Prop} (h1 : c → P) (h2 : ¬ c → Q) : if c then P else Q := by
  by_cases h : c
  · rw [if_pos h]; exact h1 h
  · rw [if_neg h]; exact h2 h
noncomputable def hitOf (K : Frag) (M : Int) (i e : Nat) : Bool := if i = 0 then Builtin.bitAnd M 61440 == (ent K e).bit else Builtin.bitAnd M (ent K e).bit == (ent K e).bit
theorem rulesFm2_1 : True := by
  k_with "call builtin:str.join" => (k_here; k_dflt (refine' join_listW (by exact News.isList (by k_asm) (by k_mem)) (by assumption) (by decide +kernel) (by assumption) ?_); intros)
  exact True.intro
theorem filemode_con (w : World) (p : Program) (loose : List Str) (mean : ExcName → Option Value) (mg mb : Str → Option Value) (M : Int) (tm : Tok) (ys : List Str) (hys : signsOf (hd.heap_39 w.params) (hitOf (hd.heap_39 w.params) M) 0 tabs = ys) (hws : (ys.map (·.length)).sum + ys.length ≤ 1048576) :
   ConF PySem.Challenge.rw_un0041_01.row.prog w (hd.heap_39 w.params) p loose mean mg mb 5 75 [.int M tm] [] 
    (fun r E1 => E1 = [] ∧ ∃ t, r = .str (Txt.join (Str.ofString "") ys) t) := by
  k_fill
  intro dp un gd cn cs a ccd cl outer A₀ base h₀ L m s R B F X N T hk hd hu ret
  walk_at "enterF"
  (rename Frag.In _ _ => hX9)
  have t68 := tupRefs_of hX9 (tabK w.params)
  k_steps
  rename_i l9 _ _ _ e9 it9 h9 kF9 kN9 l19 l29
  refine fm_outer (K := Mine.hd.heap_39 w.params) rfl (fun m' => m' (Str.ofString "mode") = some (.int M tm) ∧ m' (Str.ofString "perm") = some (.ref l9)) (hitOf (Mine.hd.heap_39 w.params) M) t68 (by first | assumption | walk_at "om" | omega) (by first | assumption | walk_at "om" | omega) ?step tabs [] rfl (by decide) _ .none _ _ #[] 0 [] ⟨rfl, rfl⟩ ⟨by with_unfolding_all rfl, by with_unfolding_all rfl⟩ kF9 rfl .nil kN9 ?fin
  case step =>
    clear kF9 kN9
    intro i tt htt s T tki oit oe acc n m hK F N lT hacc
    have F1 := Fr_shape (x := Str.ofString "perm") (v := .ref l9) (Fr_shape F hK.1) (by rw [if_neg (by decide +kernel)]; exact hK.2)
    clear F
    have hx := List.all_eq_true.mp (entK w.params) tt (List.mem_of_getElem? htt)
    rw [Bool.and_eq_true] at hx
    have ttab := tupRefs_of hX9 hx.1
    have tent := List.all_eq_true.mp hx.2
    clear hx
    k_steps
    (rename News _ _ _ _ => kN9)
    (rename Fr _ _ _ _ => kF9)
    (rename Addr => I9)
    have kI : ∀ p ∈ ([(T, ({ cls := .type "tuple", data := .seq #[.int (i : Int) tki, .ref tt.1] } : Obj)), (e9, oe), (it9, oit)] ++ [(l9, W.listOf acc n)] : Led), p.1 ≠ I9 := fun p hp => by
      simp only [List.mem_cons, List.not_mem_nil, or_false, List.cons_append, List.nil_append] at hp
      rcases hp with rfl | rfl | rfl | rfl <;> dsimp only <;> exact Nat.ne_of_lt (by omega)
    refine fm_inner (K := Mine.hd.heap_39 w.params) (miss := missOf i) rfl (fun m' => m' (Str.ofString "mode") = some (.int M tm) ∧ m' (Str.ofString "perm") = some (.ref l9) ∧ m' (Str.ofString "index") = some (.int i tki)) (hitOf (Mine.hd.heap_39 w.params) M i) (keep := [(T, { cls := .type "tuple", data := .seq #[.int (i : Int) tki, .ref tt.1] }), (e9, oe), (it9, oit)]) ttab kI ?s1 ?s2 tt.2 [] rfl _ _ _ ⟨rfl, rfl⟩ ⟨by with_unfolding_all rfl, by with_unfolding_all rfl, by with_unfolding_all rfl⟩ kF9 kN9 ?sf
    case s1 =>
      clear kF9 kN9
      intro e he s oI m hK F N
      have F1 := Fr_shape (x := Str.ofString "index") (v := .int i tki) (Fr_shape (x := Str.ofString "perm") (v := .ref l9) (Fr_shape F hK.1) (by rw [if_neg (by decide +kernel)]; exact hK.2.1)) (by rw [if_neg (by decide +kernel), if_neg (by decide +kernel)]; exact hK.2.2)
      clear F
      obtain ⟨E, hE⟩ := Option.isSome_iff_exists.mp (tent e he)
      have tE := ent_of hX9 hE
      have eE : ent (Mine.hd.heap_39 w.params) e = E := by unfold ent; rw [hE]; rfl
      dsimp only [List.cons_append, List.nil_append] at N
      cases i with
      | zero =>
        have hq : hitOf (Mine.hd.heap_39 w.params) M 0 e = (Builtin.bitAnd M 61440 == E.bit) := by unfold hitOf; rw [if_pos rfl, eE]
        simp only [hq, eE]
        k_steps
        all_goals first | (exfalso; omega) | contradiction | (exact Done_mk (by k_asm) (by first | k_asm | ((rename News _ _ _ _ => kN9); exact fun p hp => kN9 p (.tail _ hp))) ⟨by with_unfolding_all rfl, by with_unfolding_all rfl, by with_unfolding_all rfl⟩)
      | succ i =>
        have hq : hitOf (Mine.hd.heap_39 w.params) M (i + 1) e = (Builtin.bitAnd M E.bit == E.bit) := by unfold hitOf; rw [if_neg (Nat.succ_ne_zero i), eE]
        simp only [hq, eE]
        k_steps
        all_goals first | (exfalso; omega) | contradiction | (exact Done_mk (by k_asm) (by first | k_asm | ((rename News _ _ _ _ => kN9); exact fun p hp => kN9 p (.tail _ hp))) ⟨by with_unfolding_all rfl, by with_unfolding_all rfl, by with_unfolding_all rfl⟩)
    case s2 =>
      clear kF9 kN9
      intro s m hK F N
      have F1 := Fr_shape (x := Str.ofString "index") (v := .int i tki) (Fr_shape (x := Str.ofString "perm") (v := .ref l9) (Fr_shape F hK.1) (by rw [if_neg (by decide +kernel)]; exact hK.2.1)) (by rw [if_neg (by decide +kernel), if_neg (by decide +kernel)]; exact hK.2.2)
      clear F
      dsimp only [List.cons_append, List.nil_append] at N
      cases i with
      | zero =>
        simp only [show missOf 0 = Str.ofString "?" from rfl]
        k_steps
        all_goals first | (exfalso; omega) | contradiction | (exact Done_mk (by k_asm) (by first | k_asm | ((rename News _ _ _ _ => kN9); exact fun p hp => kN9 p (.tail _ hp))) ⟨by with_unfolding_all rfl, by with_unfolding_all rfl, by with_unfolding_all rfl⟩)
      | succ i =>
        simp only [show missOf (i + 1) = Str.ofString "-" from rfl]
        k_steps
        all_goals first | (exfalso; omega) | contradiction | (exact Done_mk (by k_asm) (by first | k_asm | ((rename News _ _ _ _ => kN9); exact fun p hp => kN9 p (.tail _ hp))) ⟨by with_unfolding_all rfl, by with_unfolding_all rfl, by with_unfolding_all rfl⟩)
    case sf =>
      clear kF9 kN9
      intro h' tk' m' t' hK F N
      refine wpAny_execs_nil ?_
      exact ⟨rfl, t', _, _, _, rfl, ⟨hK.1, hK.2.1⟩, F, fun p hp => N p (.tail _ hp)⟩
  case fin => 
    intro h' tk' m' acc' n' hK F N S
    have F1 := Fr_shape (x := Str.ofString "perm") (v := .ref l9) (Fr_shape F hK.1) (by rw [if_neg (by decide +kernel)]; exact hK.2)
    clear F kF9 kN9
    replace S : StrsAre acc'.toList ys := hys ▸ S
    k_steps
    (rename News _ _ _ _ => kN9)
    exact ret _ [] _ _ (by k_asm) (fun p hp => nomatch hp) (Off.trans (by assumption) (Fr.keep (by k_asm))) ⟨rfl, _, rfl⟩
end
section
theorem rulesFm3 : True := by
  k_with_none
  k_with "k_ne" => (refine neN ?_; (try dsimp only); first | exact Nat.ne_of_lt (by with_reducible assumption) | exact Nat.ne_of_gt (by with_reducible assumption) | with_reducible assumption | exact neL_up (by with_reducible assumption) | with_reducible exact neL_13 | with_reducible exact neL_23 | with_reducible exact neL_12 | with_reducible exact neL_31 | with_reducible exact neL_32 | with_reducible exact neL_21 | exact Nat.ne_of_gt (by walk_at "pick") | exact Nat.ne_of_lt (by walk_at "pick") | omega)
  k_with "pick" => first | with_reducible assumption | with_reducible exact j1 (by assumption) | with_reducible exact j2 (by assumption) | with_reducible exact j3 (by assumption) | with_reducible exact j4 (by assumption) | with_reducible exact j5 (by assumption) | with_reducible exact j6 (by assumption) | with_reducible exact j7 (by assumption) | with_reducible exact j8 (by assumption) | with_reducible exact j9 (by assumption) | with_reducible exact j10 (by assumption) | with_reducible exact j11 (by assumption) | with_reducible exact j12 (by assumption) | with_reducible exact j13 (by assumption) | with_reducible exact j14 (by assumption) | with_reducible exact j15 (by assumption)
  k_with "om" => first | walk_at "pick" | with_reducible exact Nat.lt_trans (by assumption) (by walk_at "pick")
  k_with "k_mem" => first | exact List.Mem.head _ | assumption | exact List.mem_append_left _ (by assumption) | exact List.mem_append_right _ (by assumption) | (refine' List.Mem.tail _ ?_; k_extra "k_mem")
  k_with "room" => first | exact rm1 (by assumption) (by decide) | exact rm2 (by assumption) (by decide) | exact rm0 (by assumption) | exact rm3 (by assumption) (by decide) | ktr_room
  k_with "units" => first | exact rm1 (by assumption) (by decide) | exact rm2 (by assumption) (by decide) | exact rm0 (by assumption) | exact rm3 (by assumption) (by decide) | ktr_units
  k_with "lt" => try ((rename ∀ p ∈ (_ : List (Addr × Obj)), @LT.lt Nat _ p.1 _ => q9l9); k_lt q9l9; revert q9l9; intro _)
  k_with "dn" => try dsimp only [List.cons_append, List.nil_append] at ‹News _ _ _ _›
  k_with "dd" => try dsimp only [List.cons_append, List.nil_append] at ‹Obj.IsDictOf _ _ _›
  k_with "ds" => try dsimp only [List.cons_append, List.nil_append] at ‹LexSt _ _ _ _ _›
  exact True.intro
noncomputable def modeOf (f : Nat) : Int := (32768 + 256 * (f % 2) + 128 * (f / 2 % 2) + 32 * (f / 4 % 2) + 2 * (f / 8 % 2) : Nat)
noncomputable def sgn (b : Nat) (x : String) : Str := if b = 1 then Str.ofString x else Str.ofString "-"
noncomputable def rowSigns (f : Nat) : List Str := [Str.ofString "-", sgn (f % 2) "r", sgn (f / 2 % 2) "w", Str.ofString "-", sgn (f / 4 % 2) "r", Str.ofString "-", Str.ofString "-", Str.ofString "-", sgn (f / 8 % 2) "w", Str.ofString "-"]
noncomputable def rowOf (f : Nat) : Str := Txt.join (Str.ofString "") (rowSigns f)
theorem cases16 {f : Nat} (h : f < 16) : f = 0 ∨ f = 1 ∨ f = 2 ∨ f = 3 ∨ f = 4 ∨ f = 5 ∨ f = 6 ∨ f = 7 ∨ f = 8 ∨ f = 9 ∨ f = 10 ∨ f = 11 ∨ f = 12 ∨ f = 13 ∨ f = 14 ∨ f = 15 := by
  have key : ∀ f : _root_.Fin 16, f.val = 0 ∨ f.val = 1 ∨ f.val = 2 ∨ f.val = 3 ∨ f.val = 4 ∨ f.val = 5 ∨ f.val = 6 ∨ f.val = 7 ∨ f.val = 8 ∨ f.val = 9 ∨ f.val = 10 ∨ f.val = 11 ∨ f.val = 12 ∨ f.val = 13 ∨ f.val = 14 ∨ f.val = 15 := by decide +kernel
  exact key ⟨f, h⟩
theorem signs_row (P : Params) {f : Nat} (h : f < 16) : signsOf (hd.heap_39 P) (hitOf (hd.heap_39 P) (modeOf f)) 0 tabs = rowSigns f := by
  rcases cases16 h with rfl | rfl | rfl | rfl | rfl | rfl | rfl | rfl | rfl | rfl | rfl | rfl | rfl | rfl | rfl | rfl <;> kernel_rfl
theorem rowSigns_len {f : Nat} (h : f < 16) : ((rowSigns f).map (·.length)).sum + (rowSigns f).length ≤ 1048576 := by
  rcases cases16 h with rfl | rfl | rfl | rfl | rfl | rfl | rfl | rfl | rfl | rfl | rfl | rfl | rfl | rfl | rfl | rfl <;> decide +kernel
theorem fm_con (w : World) (p : Program) (loose : List Str) (mean : ExcName → Option Value) (mg mb : Str → Option Value) {f : Nat} (hf : f < 16) (tm : Tok) :
   ConF PySem.Challenge.rw_un0041_01.row.prog w (hd.heap_39 w.params) p loose mean mg mb 5 75 [.int (modeOf f) tm] [] (fun r E1 => E1 = [] ∧ ∃ t, r = .str (rowOf f) t) :=
  filemode_con w p loose mean mg mb (modeOf f) tm (rowSigns f) (signs_row w.params hf) (rowSigns_len hf)
end
section
noncomputable abbrev tabLed (c : Nat) : Led := [(218, tabObj (#[] ++ #[rawInt 206, rawInt 4, Value.ref c]))]
end
section
open PySem.Builtin.Str PySem.Builtin
noncomputable def octDigits (f : Nat) : List Nat := (Nat.toDigits 8 (modeOf f).natAbs).map Char.toNat
noncomputable def octOf (f : Nat) : Str := ⟨(octDigits f).toArray⟩
theorem log_mode {f : Nat} (hf : f < 16) : (modeOf f).natAbs.log2 < 1920 := by
  rcases cases16 hf with rfl | rfl | rfl | rfl | rfl | rfl | rfl | rfl | rfl | rfl | rfl | rfl | rfl | rfl | rfl | rfl <;> decide +kernel
theorem oct_fit {f : Nat} (hf : f < 16) : 0 + (octOf f).length ≤ 16777216 := by
  rcases cases16 hf with rfl | rfl | rfl | rfl | rfl | rfl | rfl | rfl | rfl | rfl | rfl | rfl | rfl | rfl | rfl | rfl <;> decide +kernel
theorem mod_o {prog : Program} {w : World} {A : Around} {E : Value → Shared → Prop} {s : Shared} {t u : Tok} {Q : Value → Shared → Prop} {f : Nat} (hf : f < 16) (h : ∀ t' k, Q (.str (octOf f) t') { s with toks := k }) :
    wpAny (model prog w) A (binaryOp .Mod (.str (Str.ofString "%o") t) (.int (modeOf f) u)) Q E s := by
  refine' KPc.mod_lit (T := octOf f) ?kpcF ?kpcd ?kpcm ?_
  case kpcF => kpc_eq
  case kpcd => exact log_mode hf
  case kpcm =>
    k_dflt (
    intros
    apply KPc.meets_of
    intro _ _ _ _ _ _ _
    rw [KPc.entry_is]
    unfold Builtin.Str.percentFormat
    refine wpAny_bind (wpAny_isInstance (typeIs_int _ _ _) F.sub_int_tuple ?_)
    refine wpAny_bind (wpAny_of_eq (a := none) rfl ?_)
    refine wpAny_bind (wpAny_of_eq (KPc.fills _ _) ?_)
    kpc_if
    refine wpAny_bind (wpAny_pure ?_)
    refine wpAny_bind ?_
    rw [KPc.range_list]
    refine KPc.start ?_
    intro _ _
    refine KPc.turn ?_; kpc_check; (repeat kpc_if)
    refine wpAny_bind ?_; refine wpAny_holding ?_; (repeat kpc_if); kpc_conv; refine wpAny_pure ?_; refine wpAny_pure ?_)
    k_dflt (refine KPc.after_add0 (y := octOf f) (by kpc_g) (by rcases cases16 hf with rfl | rfl | rfl | rfl | rfl | rfl | rfl | rfl | rfl | rfl | rfl | rfl | rfl | rfl | rfl | rfl <;> decide +kernel) (by kpc_obj) ?_; intro _ hg; refine KPc.turn ?_; refine wpAny_ite (KPc.ite_no (KPc.short_good hg (oct_fit hf)) ?_); (repeat kpc_if); refine wpAny_pure ?_; kpc_if; refine KPc.finish_ok hg (oct_fit hf) rfl ?_; assumption)
  exact h
end
section
open PySem.Calls PySem.NumText
theorem typeCall_int_2 (a b : Value) : checkTypeCall "int" ⟨[a, b], []⟩ = pure () := by kernel_rfl
theorem newCall_int_2 (a b : Value) : checkBuiltinCall "int.__new__" ⟨[.type "int", a, b], []⟩ = pure () := by kernel_rfl
theorem wp_text8 {M : Model} {A : Around} {E : Value → Shared → Prop} {s : Shared} {Q : Value → Shared → Prop} {v : Value} {text : List Nat} {n : Int}
    (hs : (text.takeWhile (· != 0)).length ≤ 640) (hr : (int_private% "readNumeral") 0 8 (text.takeWhile (· != 0)) = (int_private% "Numeral.value") n)
    (ha : ((text.takeWhile (· != 0)).length == text.length) = true) (h : Q (.int n s.toks) { s with toks := s.toks + 1 }) :
    wpAny M A ((int_private% "intFromText") v text 8) Q E s := by
  obtain ⟨hp, g, d, tk, os⟩ := s
  repeat (any_goals (first
    | assumption
    | (with_reducible refine wpAny_ite_true (decide_eq_true hs) ?_)
    | (with_reducible refine wpAny_ite_true (decide_eq_true ha) ?_)
    | wp_step))
  all_goals (try rw [hr])
  all_goals (try dsimp only)
  repeat (any_goals (first
    | assumption
    | (with_reducible refine wpAny_ite_true (decide_eq_true hs) ?_)
    | (with_reducible refine wpAny_ite_true (decide_eq_true ha) ?_)
    | wp_step))
theorem oct_seen {f : Nat} (hf : f < 16) : ((numTextOf (octOf f)).takeWhile (· != 0)).length ≤ 640 ∧ (int_private% "readNumeral") 0 8 ((numTextOf (octOf f)).takeWhile (· != 0)) = (int_private% "Numeral.value") (modeOf f) ∧
    (((numTextOf (octOf f)).takeWhile (· != 0)).length == (numTextOf (octOf f)).length) = true := by
  rcases cases16 hf with rfl | rfl | rfl | rfl | rfl | rfl | rfl | rfl | rfl | rfl | rfl | rfl | rfl | rfl | rfl | rfl <;> refine ⟨by decide +kernel, by kernel_rfl, by decide +kernel⟩
theorem gives_int8 {f : Nat} (hf : f < 16) (u v : Tok) : Gives (Builtin.«int.__new__» ⟨[.type "int", .str (octOf f) u, .int 8 v], []⟩) (.int (modeOf f)) :=
  .of_wp fun M A E s Q h => by
    obtain ⟨hp, g, d, tk, os⟩ := s
    have f1 := F.conv_sub_int
    have f2 := F.madeHere_int
    have f6 : typeOf (.str (octOf f) u) = pure (.type "str") := rfl
    have hk := KIN.Hid.mk (oct_seen hf)
    clear hf
    repeat (any_goals (first
      | assumption
      | ((with_reducible show wpAny _ _ ((int_private% "intFromText") _ _ _) _ _ _); refine wp_text8 hk.out.1 hk.out.2.1 hk.out.2.2 ?_)
      | wp_step))
    all_goals first | exact ⟨_, rfl, h⟩ | skip
theorem call_int8 {prog : Program} {w : World} {A : Around} {E : Value → Shared → Prop} {s : Shared} {t u : Tok} {Q : Value → Shared → Prop} {f : Nat} (hf : f < 16) (h : Q (.int (modeOf f) s.toks) { s with toks := s.toks + 1 }) :
    wpAny (model prog w) A (call (.type "int") [.str (octOf f) t, .int 8 u]) Q E s :=
  callType_new F.called_int F.newNe_int (typeCall_int_2 _ _) (newCall_int_2 _ _) (fun obj => PySem.F.args_object_init_3 obj _ _) F.entry_int_new (gives_int8 hf t u).meets (show (Made.int (modeOf f)).post _ s from ⟨rfl, h⟩)
end
section
open PySem.Builtin.Str PySem.Builtin
theorem oct_len {f : Nat} (hf : f < 16) : (octOf f).length ≤ 100 := by
  rcases cases16 hf with rfl | rfl | rfl | rfl | rfl | rfl | rfl | rfl | rfl | rfl | rfl | rfl | rfl | rfl | rfl | rfl <;> decide +kernel
theorem mod_line {prog : Program} {w : World} {A : Around} {E : Value → Shared → Prop} {s : Shared} {t u : Tok} {Q : Value → Shared → Prop} {f : Nat} (hf : f < 16) (h : ∀ t' k, Q (.str (Str.ofString "\" " ++ octOf f ++ Str.ofString "\n") t') { s with toks := k }) :
    wpAny (model prog w) A (binaryOp .Mod (.str (Str.ofString "\" %o\n") t) (.int (modeOf f) u)) Q E s := by
  refine' KPc.mod_lit (T := Str.ofString "\" " ++ octOf f ++ Str.ofString "\n") ?kpcF ?kpcd ?kpcm ?_
  case kpcF => kpc_eq
  case kpcd => exact log_mode hf
  case kpcm =>
    have hl := oct_len hf
    k_dflt (
    intros
    apply KPc.meets_of
    intro _ _ _ _ _ _ _
    rw [KPc.entry_is]
    unfold Builtin.Str.percentFormat
    refine wpAny_bind (wpAny_isInstance (typeIs_int _ _ _) F.sub_int_tuple ?_)
    refine wpAny_bind (wpAny_of_eq (a := none) rfl ?_)
    refine wpAny_bind (wpAny_of_eq (KPc.fills _ _) ?_)
    kpc_if
    refine wpAny_bind (wpAny_pure ?_)
    refine wpAny_bind ?_
    rw [KPc.range_list]
    refine KPc.start ?_
    intro _ _
    refine KPc.turn ?_; kpc_check; (repeat kpc_if); refine wpAny_pure ?_; kpc_piece
    refine KPc.turn ?_; kpc_check; (repeat kpc_if)
    refine wpAny_bind ?_; refine wpAny_holding ?_; (repeat kpc_if); kpc_conv; refine wpAny_pure ?_; refine wpAny_pure ?_)
    k_dflt (refine KPc.after_add (y := octOf f) (by kpc_g) (by rcases cases16 hf with rfl | rfl | rfl | rfl | rfl | rfl | rfl | rfl | rfl | rfl | rfl | rfl | rfl | rfl | rfl | rfl <;> decide +kernel) (by kpc_obj) ?_; intro _ hg; refine KPc.turn ?_; refine wpAny_ite (KPc.ite_no (KPc.short_good hg ?n1) ?_); (case n1 => exact Nat.le_trans (Nat.add_le_add_left hl _) (by decide +kernel)); (repeat kpc_if); refine wpAny_pure ?_)
    k_dflt (refine KPc.after_add hg (by kpc_text) (by kpc_obj) ?_; intro _ hg2; refine KPc.turn ?_; refine wpAny_ite (KPc.ite_no (KPc.short_good hg2 ?n2) ?_); (case n2 => exact Nat.le_trans (Nat.add_le_add_right (Nat.add_le_add_left hl _) _) (by decide +kernel)); (repeat kpc_if); refine wpAny_pure ?_; kpc_if; refine KPc.finish_ok hg2 ?n3 rfl ?_; (case n3 => exact Nat.le_trans (Nat.add_le_add_right (Nat.add_le_add_left hl _) _) (by decide +kernel)); assumption)
  exact h
end
section
theorem rulesRow2 : True := by
  k_with_none
  k_with "k_ne" => (refine neN ?_; (try dsimp only); first | exact Nat.ne_of_lt (by with_reducible assumption) | exact Nat.ne_of_gt (by with_reducible assumption) | with_reducible assumption | exact neL_up (by with_reducible assumption) | with_reducible exact neL_13 | with_reducible exact neL_23 | with_reducible exact neL_12 | with_reducible exact neL_31 | with_reducible exact neL_32 | with_reducible exact neL_21 | exact Nat.ne_of_gt (by walk_at "pick") | exact Nat.ne_of_lt (by walk_at "pick") | omega)
  k_with "pick" => first | with_reducible assumption | with_reducible exact j1 (by assumption) | with_reducible exact j2 (by assumption) | with_reducible exact j3 (by assumption) | with_reducible exact j4 (by assumption) | with_reducible exact j5 (by assumption) | with_reducible exact j6 (by assumption) | with_reducible exact j7 (by assumption) | with_reducible exact j8 (by assumption) | with_reducible exact j9 (by assumption) | with_reducible exact j10 (by assumption) | with_reducible exact j11 (by assumption) | with_reducible exact j12 (by assumption) | with_reducible exact j13 (by assumption) | with_reducible exact j14 (by assumption) | with_reducible exact j15 (by assumption)
  k_with "om" => first | walk_at "pick" | with_reducible exact Nat.lt_trans (by assumption) (by walk_at "pick")
  k_with "k_mem" => first | exact List.Mem.head _ | assumption | exact List.mem_append_left _ (by assumption) | exact List.mem_append_right _ (by assumption) | (refine' List.Mem.tail _ ?_; k_extra "k_mem")
  k_with "room" => first | exact rm1 (by assumption) (by decide) | exact rm2 (by assumption) (by decide) | exact rm0 (by assumption) | exact rm3 (by assumption) (by decide) | ktr_room
  k_with "units" => first | exact rm1 (by assumption) (by decide) | exact rm2 (by assumption) (by decide) | exact rm0 (by assumption) | exact rm3 (by assumption) (by decide) | ktr_units
  k_with "lt" => try ((rename ∀ p ∈ (_ : List (Addr × Obj)), @LT.lt Nat _ p.1 _ => q9l9); k_lt q9l9; revert q9l9; intro _)
  k_with "dn" => try dsimp only [List.cons_append, List.nil_append] at ‹News _ _ _ _›
  k_with "dd" => try dsimp only [List.cons_append, List.nil_append] at ‹Obj.IsDictOf _ _ _›
  k_with "ds" => try dsimp only [List.cons_append, List.nil_append] at ‹LexSt _ _ _ _ _›
  k_with "end 0" => (intro q9g' q9L' q9h' q9off' q9FG' q9F' q9N' q9B' q9X' q9T' q9l0'; (try k_lt q9l0'); (try dsimp only); (try k_lift q9B'); (try k_fold))
  k_with "end 1" => (intro q9g' q9L' q9h' q9tk' q9cells' q9off' q9FG' q9F' q9N' q9Y' q9B' q9X' q9T' q9l0'; (try k_lt q9l0'); k_cells q9Y'; (try dsimp only [List.cons_append, List.nil_append] at q9N'); (try dsimp only); (try k_lift q9B'); (try k_fold))
  k_with "enterF" => (k_dflt (refine' enterF (by k_asm) (by k_asm) (by k_asm) (by k_asm) (by k_asm) (by exact rfl) (by exact rfl) (by assumption) (by k_is) (by k_is) (by walk_at "room") (by first | exact BindsTo.of_eq rfl | exact binds_K (by k_in) rfl (by k_is) rfl rfl rfl) (by exact locs rfl) ?_ (by exact rfl) (by exact rfl) (by exact rfl) (by decide); k_whole; walk_at "end 0"))
  k_with "enterFC" => (k_dflt (refine' enterFC (by k_asm) (by k_asm) (by k_asm) (by k_asm) (by k_asm) (by exact rfl) (by exact rfl) (by assumption) (by k_is) (by k_is) (by walk_at "room") (by first | exact BindsTo.of_eq rfl | exact binds_K (by k_in) rfl (by k_is) rfl rfl rfl) (by exact rfl) (by decide +kernel) ?_ (by exact rfl) (by exact rfl) (by exact rfl); k_whole; walk_at "end 1"))
  k_with "call type:list" => (k_here; (with_reducible show wpAny _ _ (call (Value.type "list") [Value.str _ _]) _ _ _); k_dflt (refine' list_str_N (by exact rfl) (by k_asm) (by k_asm) (by assumption) ?_; k_whole); intros; walk_at "lt"; (try k_sweep))
  k_with "call builtin:list.pop" => (k_here; (with_reducible show wpAny _ _ (call (Value.builtin _) [Value.ref _, Value.int _ _]) _ _ _); k_dflt (refine' pop0_N (by k_asm) (by k_asm) (by k_upd) (by omega) ?_); intros; (try k_sweep))
  k_with "call builtin:iter" => (k_here; (with_reducible show wpAny _ _ (call (Value.builtin "iter") [Value.ref _, Value.str _ _]) _ _ _); k_dflt (refine' iter2_N (by k_asm) (by k_asm) (by k_mem) ?_; k_whole); intros; walk_at "lt"; (try k_sweep))
  k_with "exec For Name Name cons nil" => (k_here; k_dflt (refine wpAny_For ?_ (by intro _; rfl)))
  k_with "ite" => (with_reducible first | refine ite_pos (by assumption) ?_ | refine ite_neg (by assumption) ?_)
  k_with "pyIter ref" => (k_here; k_dflt (first | (refine' pyIter_enum_N (by k_asm) (by k_mem) ?_; k_whole) | (refine' pyIter_list_N (by k_asm) (by k_asm) (by exact News.isList (by k_asm) (by k_mem)) ?_; k_whole; intros; walk_at "lt")))
  k_with "binaryOp RShift int int" => (k_here; (with_reducible refine rshift_int (by decide) ?_))
  exact True.intro
theorem row_val {f : Nat} (hf : f < 16) : Str.ofString "-" ++ Txt.item (Str.ofString "-r") (Builtin.bitAnd (f : Int) 1) ++ Txt.item (Str.ofString "-w") (Builtin.bitAnd ((f : Int).fdiv (2 ^ (1 : Int).toNat)) 1) ++ Str.ofString "-" ++ Txt.item (Str.ofString "-r") (Builtin.bitAnd ((f : Int).fdiv (2 ^ (2 : Int).toNat)) 1) ++ Str.ofString "---" ++ Txt.item (Str.ofString "-w") ((f : Int).fdiv (2 ^ (3 : Int).toNat)) ++ Str.ofString "-" = rowOf f := by
  rcases cases16 hf with rfl | rfl | rfl | rfl | rfl | rfl | rfl | rfl | rfl | rfl | rfl | rfl | rfl | rfl | rfl | rfl <;> decide +kernel
theorem row_con (w : World) (p : Program) (loose : List Str) (mean : ExcName → Option Value) (mg mb : Str → Option Value) {f : Nat} (hf : f < 16) (tf : Tok) :
   ConF PySem.Challenge.rw_un0041_01.row.prog w (hd.heap_39 w.params) p loose mean mg mb 5 240 [.int (f : Int) tf] [] 
    (fun r E1 => E1 = [] ∧ ∃ t, r = .str (rowOf f) t) := by
  k_fill
  intro dp un gd cn cs a ccd cl outer A₀ base h₀ L m s R B F X N T hk hd hu ret
  have b0 : 0 ≤ Builtin.bitAnd (f : Int) 1 ∧ Builtin.bitAnd (f : Int) 1 < 2 := by
    rcases cases16 hf with rfl | rfl | rfl | rfl | rfl | rfl | rfl | rfl | rfl | rfl | rfl | rfl | rfl | rfl | rfl | rfl <;> decide
  have b1 : 0 ≤ Builtin.bitAnd ((f : Int).fdiv (2 ^ (1 : Int).toNat)) 1 ∧ Builtin.bitAnd ((f : Int).fdiv (2 ^ (1 : Int).toNat)) 1 < 2 := by
    rcases cases16 hf with rfl | rfl | rfl | rfl | rfl | rfl | rfl | rfl | rfl | rfl | rfl | rfl | rfl | rfl | rfl | rfl <;> decide
  have b2 : 0 ≤ Builtin.bitAnd ((f : Int).fdiv (2 ^ (2 : Int).toNat)) 1 ∧ Builtin.bitAnd ((f : Int).fdiv (2 ^ (2 : Int).toNat)) 1 < 2 := by
    rcases cases16 hf with rfl | rfl | rfl | rfl | rfl | rfl | rfl | rfl | rfl | rfl | rfl | rfl | rfl | rfl | rfl | rfl <;> decide
  have b3 : 0 ≤ ((f : Int).fdiv (2 ^ (3 : Int).toNat)) ∧ ((f : Int).fdiv (2 ^ (3 : Int).toNat)) < 2 := by
    rcases cases16 hf with rfl | rfl | rfl | rfl | rfl | rfl | rfl | rfl | rfl | rfl | rfl | rfl | rfl | rfl | rfl | rfl <;> decide
  walk_at "enterF"
  k_steps
  refine ret _ [] _ _ (by k_asm) (fun p hp => nomatch hp) (Off.trans (by assumption) (Fr.keep (by k_asm))) ⟨rfl, _, congrArg (Value.str · _) (row_val hf)⟩
end
section
open PySem.Calls
theorem rulesSub1 : True := by
  k_with_none
  k_with "k_ne" => (refine neN ?_; (try dsimp only); first | exact Nat.ne_of_lt (by with_reducible assumption) | exact Nat.ne_of_gt (by with_reducible assumption) | with_reducible assumption | exact neL_up (by with_reducible assumption) | with_reducible exact neL_13 | with_reducible exact neL_23 | with_reducible exact neL_12 | with_reducible exact neL_31 | with_reducible exact neL_32 | with_reducible exact neL_21 | exact Nat.ne_of_gt (by walk_at "pick") | exact Nat.ne_of_lt (by walk_at "pick") | omega)
  k_with "pick" => first | with_reducible assumption | with_reducible exact j1 (by assumption) | with_reducible exact j2 (by assumption) | with_reducible exact j3 (by assumption) | with_reducible exact j4 (by assumption) | with_reducible exact j5 (by assumption) | with_reducible exact j6 (by assumption) | with_reducible exact j7 (by assumption) | with_reducible exact j8 (by assumption) | with_reducible exact j9 (by assumption) | with_reducible exact j10 (by assumption) | with_reducible exact j11 (by assumption) | with_reducible exact j12 (by assumption) | with_reducible exact j13 (by assumption) | with_reducible exact j14 (by assumption) | with_reducible exact j15 (by assumption)
  k_with "om" => first | walk_at "pick" | with_reducible exact Nat.lt_trans (by assumption) (by walk_at "pick")
  k_with "k_mem" => first | exact List.Mem.head _ | assumption | exact List.mem_append_left _ (by assumption) | exact List.mem_append_right _ (by assumption) | (refine' List.Mem.tail _ ?_; k_extra "k_mem")
  k_with "room" => first | exact rm1 (by assumption) (by decide) | exact rm2 (by assumption) (by decide) | exact rm0 (by assumption) | exact rm3 (by assumption) (by decide) | ktr_room
  k_with "units" => first | exact rm1 (by assumption) (by decide) | exact rm2 (by assumption) (by decide) | exact rm0 (by assumption) | exact rm3 (by assumption) (by decide) | ktr_units
  k_with "lt" => try ((rename ∀ p ∈ (_ : List (Addr × Obj)), @LT.lt Nat _ p.1 _ => q9l9); k_lt q9l9; revert q9l9; intro _)
  k_with "dn" => try dsimp only [List.cons_append, List.nil_append] at ‹News _ _ _ _›
  k_with "dd" => try dsimp only [List.cons_append, List.nil_append] at ‹Obj.IsDictOf _ _ _›
  k_with "ds" => try dsimp only [List.cons_append, List.nil_append] at ‹LexSt _ _ _ _ _›
  exact True.intro
theorem sub_str : isSubtype (.type "str") (.type "str") = pure true := by rw [isSubtype_type]; kernel_rfl
theorem nested_str {prog : Program} {w : World} {A : Around} {E : Value → Shared → Prop} {s : Shared} {dep : Int} {tk : Tok} {Q : PySem.Fin → Shared → Prop} (hq : Q (.done (.ret (.bool true))) s) :
    wpAny (model prog w) A (Builtin.«issubclass.nested» ⟨[.type "str", .type "str", .int dep tk], []⟩) Q E s := by
  have hself := sub_str
  repeat (any_goals (first | assumption | (rw [hself]) | wp_step))
theorem sub_tup : isSubtype (.type "tuple") (.type "tuple") = pure true := by rw [isSubtype_type]; kernel_rfl
theorem kind_nested : builtinKind "issubclass.nested" = none := by decide +kernel
theorem plain_nested : plainId "issubclass.nested" = true := by decide +kernel
theorem args_nested (a b c : Value) : argsOk "issubclass.nested" ⟨[a, b, c], []⟩ := by unfold argsOk; kernel_rfl
theorem meets_nested (dep : Int) (tk : Tok) : Meets (Builtin.«issubclass.nested» ⟨[.type "str", .type "str", .int dep tk], []⟩) (fun _ R s => R (.ok (.ret (.bool true))) s) :=
  .of_wp fun prog w A R s h => nested_str ⟨_, rfl, h⟩
theorem call_nested {prog : Program} {w : World} {A : Around} {E : Value → Shared → Prop} {s : Shared} {dep : Int} {tk : Tok} {Q : Value → Shared → Prop} (h : Q (.bool true) s) : wpAny (model prog w) A (call (.builtin "issubclass.nested") [.type "str", .type "str", .int dep tk]) Q E s :=
  call_function_meets kind_nested plain_nested F.entry_issubclass_nested (args_nested _ _ _) (meets_nested dep tk) h
theorem nested_tup {prog : Program} {w : World} {A : Around} {E : Value → Shared → Prop} {s : Shared} {tk : Tok} {D : Addr} {o : Obj} {n : Nat} {Q : PySem.Fin → Shared → Prop} (hD : s.heap.get? D = some o) (hc : o.cls = .type "tuple") (hd : o.data = .seq #[.type "str", .type "bytes"] n) (hq : Q (.done (.ret (.bool true))) s) :
    wpAny (model prog w) A (Builtin.«issubclass.nested» ⟨[.type "str", .ref D, .int 0 tk], []⟩) Q E s := by
  obtain ⟨c, d, dt, sl⟩ := o
  dsimp only at hc hd
  subst hc hd
  have hself := sub_tup
  repeat (any_goals (first | assumption | (rw [hself]) | (refine call_nested ?_) | wp_step))
theorem meets_sub {D : Addr} {o : Obj} {n : Nat} (hc : o.cls = .type "tuple") (hd : o.data = .seq #[.type "str", .type "bytes"] n) :
    Meets (Builtin.«issubclass» ⟨[.type "str", .ref D], []⟩) (fun _ R s => s.heap.get? D = some o ∧ R (.ok (.ret (.bool true))) s) :=
  fun _ _ _ _ _ hs => issubclass_outer (nested_tup hs.1 hc hd hs.2)
theorem call_sub {prog : Program} {w : World} {A : Around} {E : Value → Shared → Prop} {s : Shared} {D : Addr} {o : Obj} {n : Nat} {Q : Value → Shared → Prop} (hD : s.heap.get? D = some o) (hc : o.cls = .type "tuple") (hd : o.data = .seq #[.type "str", .type "bytes"] n) (h : Q (.bool true) s) :
    wpAny (model prog w) A (call (.builtin "issubclass") [.type "str", .ref D]) Q E s :=
  call_issubclass (meets_sub hc hd) ⟨hD, h⟩
end
section
theorem rulesJoin1 : True := by
  k_with_none
  k_with "k_ne" => (refine neN ?_; (try dsimp only); first | exact Nat.ne_of_lt (by with_reducible assumption) | exact Nat.ne_of_gt (by with_reducible assumption) | with_reducible assumption | exact neL_up (by with_reducible assumption) | with_reducible exact neL_13 | with_reducible exact neL_23 | with_reducible exact neL_12 | with_reducible exact neL_31 | with_reducible exact neL_32 | with_reducible exact neL_21 | exact Nat.ne_of_gt (by walk_at "pick") | exact Nat.ne_of_lt (by walk_at "pick") | omega)
  k_with "pick" => first | with_reducible assumption | with_reducible exact j1 (by assumption) | with_reducible exact j2 (by assumption) | with_reducible exact j3 (by assumption) | with_reducible exact j4 (by assumption) | with_reducible exact j5 (by assumption) | with_reducible exact j6 (by assumption) | with_reducible exact j7 (by assumption) | with_reducible exact j8 (by assumption) | with_reducible exact j9 (by assumption) | with_reducible exact j10 (by assumption) | with_reducible exact j11 (by assumption) | with_reducible exact j12 (by assumption) | with_reducible exact j13 (by assumption) | with_reducible exact j14 (by assumption) | with_reducible exact j15 (by assumption)
  k_with "om" => first | walk_at "pick" | with_reducible exact Nat.lt_trans (by assumption) (by walk_at "pick")
  k_with "k_mem" => first | exact List.Mem.head _ | assumption | exact List.mem_append_left _ (by assumption) | exact List.mem_append_right _ (by assumption) | (refine' List.Mem.tail _ ?_; k_extra "k_mem")
  k_with "room" => first | exact rm1 (by assumption) (by decide) | exact rm2 (by assumption) (by decide) | exact rm0 (by assumption) | exact rm3 (by assumption) (by decide) | ktr_room
  k_with "units" => first | exact rm1 (by assumption) (by decide) | exact rm2 (by assumption) (by decide) | exact rm0 (by assumption) | exact rm3 (by assumption) (by decide) | ktr_units
  k_with "lt" => try ((rename ∀ p ∈ (_ : List (Addr × Obj)), @LT.lt Nat _ p.1 _ => q9l9); k_lt q9l9; revert q9l9; intro _)
  k_with "dn" => try dsimp only [List.cons_append, List.nil_append] at ‹News _ _ _ _›
  k_with "dd" => try dsimp only [List.cons_append, List.nil_append] at ‹Obj.IsDictOf _ _ _›
  k_with "ds" => try dsimp only [List.cons_append, List.nil_append] at ‹LexSt _ _ _ _ _›
  k_with "end 0" => (intro q9g' q9L' q9h' q9off' q9FG' q9F' q9N' q9B' q9X' q9T' q9l0'; (try k_lt q9l0'); (try dsimp only); (try k_lift q9B'); (try k_fold))
  k_with "end 1" => (intro q9g' q9L' q9h' q9tk' q9cells' q9off' q9FG' q9F' q9N' q9Y' q9B' q9X' q9T' q9l0'; (try k_lt q9l0'); k_cells q9Y'; (try dsimp only [List.cons_append, List.nil_append] at q9N'); (try dsimp only); (try k_lift q9B'); (try k_fold))
  k_with "enterF" => (k_dflt (refine' enterF (by k_asm) (by k_asm) (by k_asm) (by k_asm) (by k_asm) (by exact rfl) (by exact rfl) (by assumption) (by k_is) (by k_is) (by walk_at "room") (by first | exact BindsTo.of_eq rfl | exact binds_K (by k_in) rfl (by k_is) rfl rfl rfl) (by exact locs rfl) ?_ (by exact rfl) (by exact rfl) (by exact rfl) (by decide); k_whole; walk_at "end 0"))
  k_with "enterFC" => (k_dflt (refine' enterFC (by k_asm) (by k_asm) (by k_asm) (by k_asm) (by k_asm) (by exact rfl) (by exact rfl) (by assumption) (by k_is) (by k_is) (by walk_at "room") (by first | exact BindsTo.of_eq rfl | exact binds_K (by k_in) rfl (by k_is) rfl rfl rfl) (by exact rfl) (by decide +kernel) ?_ (by exact rfl) (by exact rfl) (by exact rfl); k_whole; walk_at "end 1"))
  k_with "call type:list" => (k_here; (with_reducible show wpAny _ _ (call (Value.type "list") [Value.str _ _]) _ _ _); k_dflt (refine' list_str_N (by exact rfl) (by k_asm) (by k_asm) (by assumption) ?_; k_whole); intros; walk_at "lt"; (try k_sweep))
  k_with "call builtin:list.pop" => (k_here; (with_reducible show wpAny _ _ (call (Value.builtin _) [Value.ref _, Value.int _ _]) _ _ _); k_dflt (refine' pop0_N (by k_asm) (by k_asm) (by k_upd) (by omega) ?_); intros; (try k_sweep))
  k_with "call builtin:iter" => (k_here; (with_reducible show wpAny _ _ (call (Value.builtin "iter") [Value.ref _, Value.str _ _]) _ _ _); k_dflt (refine' iter2_N (by k_asm) (by k_asm) (by k_mem) ?_; k_whole); intros; walk_at "lt"; (try k_sweep))
  k_with "exec For Name Name cons nil" => (k_here; k_dflt (refine wpAny_For ?_ (by intro _; rfl)))
  k_with "ite" => (with_reducible first | refine ite_pos (by assumption) ?_ | refine ite_neg (by assumption) ?_)
  k_with "pyIter ref" => (k_here; k_dflt (first | (refine' pyIter_enum_N (by k_asm) (by k_mem) ?_; k_whole) | (refine' pyIter_list_N (by k_asm) (by k_asm) (by exact News.isList (by k_asm) (by k_mem)) ?_; k_whole; intros; walk_at "lt")))
  k_with "binaryOp RShift int int" => (k_here; (with_reducible refine rshift_int (by decide) ?_))
  k_with "call builtin:issubclass" => (k_here; k_dflt (refine' call_sub (by exact News.get (by k_asm) (by k_mem)) (by rfl) (by rfl) ?_; k_whole))
  exact True.intro
theorem fspath_con (w : World) (p : Program) (loose : List Str) (mean : ExcName → Option Value) (mg mb : Str → Option Value) (x : Str) (t : Tok) :
   ConF PySem.Challenge.rw_un0041_01.row.prog w (hd.heap_39 w.params) p loose mean mg mb 3 190 [.str x t] [] 
    (fun r E1 => E1 = [] ∧ r = .str x t) := by
  k_fill
  intro dp un gd cn cs a ccd cl outer A₀ base h₀ L m s R B F X N T hk hd hu ret
  walk_at "enterF"
  k_steps
  exact ret _ [] _ _ (by k_asm) (fun p hp => nomatch hp) (Off.trans (by assumption) (Fr.keep (by k_asm))) ⟨rfl, rfl⟩
end
section
theorem rulesJoin2 : True := by
  k_with_none
  k_with "k_ne" => (refine neN ?_; (try dsimp only); first | exact Nat.ne_of_lt (by with_reducible assumption) | exact Nat.ne_of_gt (by with_reducible assumption) | with_reducible assumption | exact neL_up (by with_reducible assumption) | with_reducible exact neL_13 | with_reducible exact neL_23 | with_reducible exact neL_12 | with_reducible exact neL_31 | with_reducible exact neL_32 | with_reducible exact neL_21 | exact Nat.ne_of_gt (by walk_at "pick") | exact Nat.ne_of_lt (by walk_at "pick") | omega)
  k_with "pick" => first | with_reducible assumption | with_reducible exact j1 (by assumption) | with_reducible exact j2 (by assumption) | with_reducible exact j3 (by assumption) | with_reducible exact j4 (by assumption) | with_reducible exact j5 (by assumption) | with_reducible exact j6 (by assumption) | with_reducible exact j7 (by assumption) | with_reducible exact j8 (by assumption) | with_reducible exact j9 (by assumption) | with_reducible exact j10 (by assumption) | with_reducible exact j11 (by assumption) | with_reducible exact j12 (by assumption) | with_reducible exact j13 (by assumption) | with_reducible exact j14 (by assumption) | with_reducible exact j15 (by assumption)
  k_with "om" => first | walk_at "pick" | with_reducible exact Nat.lt_trans (by assumption) (by walk_at "pick")
  k_with "k_mem" => first | exact List.Mem.head _ | assumption | exact List.mem_append_left _ (by assumption) | exact List.mem_append_right _ (by assumption) | (refine' List.Mem.tail _ ?_; k_extra "k_mem")
  k_with "room" => first | exact rm1 (by assumption) (by decide) | exact rm2 (by assumption) (by decide) | exact rm0 (by assumption) | exact rm3 (by assumption) (by decide) | ktr_room
  k_with "units" => first | exact rm1 (by assumption) (by decide) | exact rm2 (by assumption) (by decide) | exact rm0 (by assumption) | exact rm3 (by assumption) (by decide) | ktr_units
  k_with "lt" => try ((rename ∀ p ∈ (_ : List (Addr × Obj)), @LT.lt Nat _ p.1 _ => q9l9); k_lt q9l9; revert q9l9; intro _)
  k_with "dn" => try dsimp only [List.cons_append, List.nil_append] at ‹News _ _ _ _›
  k_with "dd" => try dsimp only [List.cons_append, List.nil_append] at ‹Obj.IsDictOf _ _ _›
  k_with "ds" => try dsimp only [List.cons_append, List.nil_append] at ‹LexSt _ _ _ _ _›
  k_with "end 0" => (intro q9g' q9L' q9h' q9off' q9FG' q9F' q9N' q9B' q9X' q9T' q9l0'; (try k_lt q9l0'); (try dsimp only); (try k_lift q9B'); (try k_fold))
  k_with "end 1" => (intro q9g' q9L' q9h' q9tk' q9cells' q9off' q9FG' q9F' q9N' q9Y' q9B' q9X' q9T' q9l0'; (try k_lt q9l0'); k_cells q9Y'; (try dsimp only [List.cons_append, List.nil_append] at q9N'); (try dsimp only); (try k_lift q9B'); (try k_fold))
  k_with "end 7" => (intro q9r' q9E1' q9h' q9tk' q9F' q9N' q9out'; obtain ⟨_, q9out9'⟩ := q9out'; subst q9out9'; (try k_sweep))
  k_with "end 8" => (intro q9D' q9g' q9L' q9h' q9off' q9FG' q9F' q9N' q9B' q9X' q9T' q9l0' q9l1'; (try k_lt q9l0'); (try dsimp only); (try k_lift q9B'); (try k_fold))
  k_with "enterF" => (k_dflt (refine' enterF (by k_asm) (by k_asm) (by k_asm) (by k_asm) (by k_asm) (by exact rfl) (by exact rfl) (by assumption) (by k_is) (by k_is) (by walk_at "room") (by first | exact BindsTo.of_eq rfl | exact binds_K (by k_in) rfl (by k_is) rfl rfl rfl) (by exact locs rfl) ?_ (by exact rfl) (by exact rfl) (by exact rfl) (by decide); k_whole; walk_at "end 0"))
  k_with "enterFC" => (k_dflt (refine' enterFC (by k_asm) (by k_asm) (by k_asm) (by k_asm) (by k_asm) (by exact rfl) (by exact rfl) (by assumption) (by k_is) (by k_is) (by walk_at "room") (by first | exact BindsTo.of_eq rfl | exact binds_K (by k_in) rfl (by k_is) rfl rfl rfl) (by exact rfl) (by decide +kernel) ?_ (by exact rfl) (by exact rfl) (by exact rfl); k_whole; walk_at "end 1"))
  k_with "call type:list" => (k_here; (with_reducible show wpAny _ _ (call (Value.type "list") [Value.str _ _]) _ _ _); k_dflt (refine' list_str_N (by exact rfl) (by k_asm) (by k_asm) (by assumption) ?_; k_whole); intros; walk_at "lt"; (try k_sweep))
  k_with "call builtin:list.pop" => (k_here; (with_reducible show wpAny _ _ (call (Value.builtin _) [Value.ref _, Value.int _ _]) _ _ _); k_dflt (refine' pop0_N (by k_asm) (by k_asm) (by k_upd) (by omega) ?_); intros; (try k_sweep))
  k_with "call builtin:iter" => (k_here; (with_reducible show wpAny _ _ (call (Value.builtin "iter") [Value.ref _, Value.str _ _]) _ _ _); k_dflt (refine' iter2_N (by k_asm) (by k_asm) (by k_mem) ?_; k_whole); intros; walk_at "lt"; (try k_sweep))
  k_with "k_del" => first | (refine' Del.head (by k_all)) | (refine' Del.tail (by k_ne) (by walk_at "k_del"))
  k_with "binaryOp RShift int int" => (k_here; (with_reducible refine rshift_int (by decide) ?_))
  k_with "call builtin:issubclass" => (k_here; k_dflt (refine' call_sub (by exact News.get (by k_asm) (by k_mem)) (by rfl) (by rfl) ?_; k_whole))
  k_with "call ref" => (k_here; (with_reducible show wpAny _ _ (call (Value.ref 190) [Value.str _ _]) _ _ _); k_dflt (refine' ConF.use0 (fspath_con _ _ _ _ _ _ _ _) (by k_asm) (by k_asm) (by k_asm) (by k_asm) (by k_asm) (by exact rfl) (by (first | with_reducible assumption | omega | walk_at "room")) (by (first | with_reducible assumption | omega | walk_at "units")) ?_; k_whole); walk_at "end 7")
  k_with "enterV" => (k_dflt (refine' enterV (by k_asm) (by k_asm) (by k_asm) (by k_asm) (by k_asm) (by exact rfl) (by exact rfl) (by assumption) (by k_is) (by k_is) (by walk_at "room") (by kl_lit) (by exact rfl) (by exact fun _ => rfl) (by exact fun _ => locs rfl) ?_ (by exact rfl) (by exact rfl) (by exact rfl) (by decide); k_whole; walk_at "end 8"))
  exact True.intro
theorem join_con (w : World) (p : Program) (loose : List Str) (mean : ExcName → Option Value) (mg mb : Str → Option Value) (x y : Str) (t u : Tok) (hx : x.length ≤ 1000) (hy : y.length ≤ 1000) (hx1 : Txt.endswith x (Str.ofString "/") = false) (hx2 : x.length ≠ 0) (hy1 : Txt.startswith y (Str.ofString "/") = false) :
   ConF PySem.Challenge.rw_un0041_01.row.prog w (hd.heap_39 w.params) p loose mean mg mb 5 211 [.str x t, .str y u] [] 
    (fun r E1 => E1 = [] ∧ ∃ t', r = .str (x ++ (Str.ofString "/" ++ y)) t') := by
  k_fill
  intro dp un gd cn cs a ccd cl outer A₀ base h₀ L m s R B F X N T hk hd hu ret
  walk_at "enterV"
  k_steps
  all_goals first
    | exact absurd (by assumption : Txt.startswith y (Str.ofString "/") = true) (by rw [hy1]; exact Bool.false_ne_true)
    | exact absurd (by assumption : Txt.endswith x (Str.ofString "/") = true) (by rw [hx1]; exact Bool.false_ne_true)
    | (exfalso; omega)
    | exact ret _ [] _ _ (by k_asm) (fun p hp => nomatch hp) (Off.trans (by assumption) (Fr.keep (by k_asm))) ⟨rfl, _, rfl⟩
end
section
theorem rulesMap6 : True := by
  k_with_none
  k_with "k_ne" => (refine neN ?_; (try dsimp only); first | exact Nat.ne_of_lt (by with_reducible assumption) | exact Nat.ne_of_gt (by with_reducible assumption) | with_reducible assumption | exact neL_up (by with_reducible assumption) | with_reducible exact neL_13 | with_reducible exact neL_23 | with_reducible exact neL_12 | with_reducible exact neL_31 | with_reducible exact neL_32 | with_reducible exact neL_21 | exact Nat.ne_of_gt (by walk_at "pick") | exact Nat.ne_of_lt (by walk_at "pick") | omega)
  k_with "pick" => first | with_reducible assumption | with_reducible exact j1 (by assumption) | with_reducible exact j2 (by assumption) | with_reducible exact j3 (by assumption) | with_reducible exact j4 (by assumption) | with_reducible exact j5 (by assumption) | with_reducible exact j6 (by assumption) | with_reducible exact j7 (by assumption) | with_reducible exact j8 (by assumption) | with_reducible exact j9 (by assumption) | with_reducible exact j10 (by assumption) | with_reducible exact j11 (by assumption) | with_reducible exact j12 (by assumption) | with_reducible exact j13 (by assumption) | with_reducible exact j14 (by assumption) | with_reducible exact j15 (by assumption)
  k_with "om" => first | walk_at "pick" | with_reducible exact Nat.lt_trans (by assumption) (by walk_at "pick")
  k_with "k_mem" => first | exact List.Mem.head _ | assumption | exact List.mem_append_left _ (by assumption) | exact List.mem_append_right _ (by assumption) | (refine' List.Mem.tail _ ?_; k_extra "k_mem")
  k_with "room" => first | exact rm1 (by assumption) (by decide) | exact rm2 (by assumption) (by decide) | exact rm0 (by assumption) | exact rm3 (by assumption) (by decide) | ktr_room
  k_with "units" => first | exact rm1 (by assumption) (by decide) | exact rm2 (by assumption) (by decide) | exact rm0 (by assumption) | exact rm3 (by assumption) (by decide) | ktr_units
  k_with "lt" => try ((rename ∀ p ∈ (_ : List (Addr × Obj)), @LT.lt Nat _ p.1 _ => q9l9); k_lt q9l9; revert q9l9; intro _)
  k_with "dn" => try dsimp only [List.cons_append, List.nil_append] at ‹News _ _ _ _›
  k_with "dd" => try dsimp only [List.cons_append, List.nil_append] at ‹Obj.IsDictOf _ _ _›
  k_with "ds" => try dsimp only [List.cons_append, List.nil_append] at ‹LexSt _ _ _ _ _›
  exact True.intro
noncomputable abbrev PPm : Program := PySem.Challenge.rw_un0041_01.row.prog
noncomputable abbrev tupOf (items : Array Value) : Obj := { cls := .type "tuple", data := .seq items }

theorem map_iter_self {prog : Program} {w : World} {A : Around} {E : Value → Shared → Prop} {s : Shared} {M T f : Addr} {Q : Value → Shared → Prop} (hM : s.heap.get? M = some (mapObj T f)) (h : Q (.ref M) s) : wpAny (model prog w) A (pyIter (.ref M)) Q E s := by
  have hT : s.TypeIs (.ref M) "map" := ⟨_, hM, rfl⟩
  refine wpAny_pyIter_slot hT slot_map_iter (wpAny_call_entry slot_map_iter hT entry_map_iter ?_ (args_map_iter _))
  show wpAny _ _ (ret (.ref M)) _ _ s
  exact wpAny_pure ⟨_, rfl, "map", _, hT, slot_map_next.lookup, h⟩
section
variable {w : World} {p : Program} {loose : List Str} {mean : ExcName → Option Value} {mg mb : Str → Option Value} {dp un : Nat} {gd : Option (List Code)} {cn : Str} {cs : Scope} {a : Addr} {ccd : Value} {cl : List (Str × Addr)} {outer : List Env} {A₀ : Around} {base g : Heap} {L : Addr} {m : Str → Option Value} {s : Shared} {M T I l : Addr} {vs : List Value} {xs : List Str} {c : Nat} {news : Led} {E : Value → Shared → Prop}
theorem map_walks (B : Below A₀ base outer g) (X : (hd.heap_39 w.params).In g) (Tp : Top p loose mean mg mb g) (hk : cs.kind = .function) (hd' : dp + 10 * 3 < recursionLimit) (hu : un + 1 + 100 * 3 < cLine)
    (hMI : M ≠ I) (hTI : T ≠ I) (hlI : l ≠ I) (hLI : L ≠ I) (hgI : g.get? I = none) (hvs : StrsAre vs xs) :
    WalksS PPm w (ktrTop dp un gd cn cs L a ccd cl outer) M ([M, T, I, l, L] ++ List.range g.objs.size) [I] (fun a b => b = a) vs.length (fun i v => vs[i]? = some v)
      (fun i s => s.heap.get? M = some (mapObj T 190) ∧ s.heap.get? T = some (oneTup I) ∧ s.heap.get? I = some (liObj l i) ∧ s.heap.get? l = some (W.listOf vs.toArray c) ∧ Fr g L s.heap m) where
  sub := fun b hb => by simp at hb; simp [hb]
  grefl := fun _ => rfl
  gtrans := fun _ _ _ h1 h2 => h2.trans h1
  frame := fun i s h' tk ⟨a1, a2, a3, a4, a5⟩ _ hk => ⟨hk M (by simp) _ a1, hk T (by simp) _ a2, hk I (by simp) _ a3, hk l (by simp) _ a4,
    ⟨a5.ns.at' fun o e => hk L (by simp) o e, fun b o e => hk b (List.mem_append_right _ (List.mem_range.mpr (Heap.lt_size e))) o (a5.keep b o e), a5.above⟩⟩
  item := fun i s Q E hi ⟨a1, a2, a3, a4, a5⟩ hQ => by
    have hx : vs.toArray[i]? = some vs[i] := by simp [hi]
    obtain ⟨x, t, hv, hxs⟩ := hvs.item i vs[i] (by simp [hi])
    refine wpAny_with_toks (Nat.le_refl s.toks) (map_next_item a1 a2 a3 ⟨_, a4, rfl, _, rfl⟩ hx fun h' b1 b2 => ?_)
    have F' : Fr g L h' m := Fr_chg a5 (ws := [I]) (fun b o hb e => b2.extBut b o (fun h => hb (by simp [h])) e) (by simpa using hLI) (fun b hb => by rw [List.mem_singleton.mp hb]; exact hgI)
    rw [hv]
    refine wpAny_call (fspath_con w p loose mean mg mb x t dp (un + 1) gd cn cs a ccd cl outer A₀ base g L m { s with heap := h' } _ B F' X News.nil Tp hk hd' hu fun r E1 h'' tk' F'' N'' off out => ?_)
    obtain ⟨-, rfl⟩ := out
    intro htk
    have up : ∀ b o, b ∉ [I] → s.heap.get? b = some o → h''.get? b = some o := fun b o hb e => off b o (by simp) (b2.extBut b o (fun h => hb (by simp [h])) e)
    exact hQ _ _ (by simp [hi, hv]) ⟨up _ _ (by simpa using hMI) a1, up _ _ (by simpa using hTI) a2, off _ _ (by simp) b1, up _ _ (by simpa using hlI) a4, F''⟩ ⟨up, rfl, rfl, rfl, htk⟩
  done := fun s Q E ⟨a1, a2, a3, a4, a5⟩ hQ => by
    refine wpAny_with_toks (Nat.le_refl s.toks) (map_next_end rfl a1 a2 a3 ⟨_, a4, rfl, _, rfl⟩ (by simp) fun h' b2 htk => ?_)
    exact hQ _ ⟨fun b o hb e => b2 b o (fun h => hb (by simp [h])) e, rfl, rfl, rfl, htk⟩
  self := fun i s Q E ⟨a1, _⟩ hQ => map_iter_self a1 hQ
theorem tuple_fspath_N {Q : Value → Shared → Prop} (hvs : StrsAre vs xs) (hsz : vs.length ≤ sizeLine) (B : Below A₀ base outer g) (F : Fr g L s.heap m) (X : (hd.heap_39 w.params).In g) (Tp : Top p loose mean mg mb g) (hk : cs.kind = .function) (hd' : dp + 10 * 3 < recursionLimit) (hu : un + 4 + 100 * 3 < cLine)
    (N : News g L s.heap ((M, mapObj T 190) :: (T, oneTup I) :: (I, liObj l 0) :: news)) (hl : (l, W.listOf vs.toArray c) ∈ news) (hMI : M ≠ I) (hTI : T ≠ I) (hI : ∀ p ∈ news, p.1 ≠ I)
    (h : ∀ t h' tk, Fr g L h' m → News g L h' ((t, tupOf vs.toArray) :: news) → (∀ p ∈ news, @LT.lt Nat _ p.1 t) → Q (.ref t) { s with heap := h', toks := tk }) :
    wpAny (model PPm w) (ktrTop dp un gd cn cs L a ccd cl outer) (call (.type "tuple") [.ref M]) Q E s := by
  have NM := N _ (.head _)
  have NT := N _ (.tail _ (.head _))
  have NI := N _ (.tail _ (.tail _ (.head _)))
  have Nl := N _ (.tail _ (.tail _ (.tail _ hl)))
  have W := map_walks (w := w) (p := p) (loose := loose) (mean := mean) (mg := mg) (mb := mb) (dp := dp) (un := un + 3) (gd := gd) (cn := cn) (cs := cs) (a := a) (ccd := ccd) (cl := cl) (L := L) (m := m) (M := M) (T := T) (I := I) (l := l) (c := c) B X Tp hk hd' (by omega) hMI hTI (hI _ hl) (Ne.symm NI.2.1) NI.2.2 hvs
  refine call_tuple_map W (fun i s st => ⟨_, st.1, rfl⟩) ⟨NM.1, NT.1, NI.1, Nl.1, F⟩ (fun b hb => ?_) (by simp) (fun s' acc hm hacc => ?_) hsz
  · simp only [List.cons_append, List.nil_append, List.mem_cons, List.mem_range] at hb
    rcases hb with rfl | rfl | rfl | rfl | rfl | hb
    · exact Heap.lt_size NM.1
    · exact Heap.lt_size NT.1
    · exact Heap.lt_size NI.1
    · exact Heap.lt_size Nl.1
    · exact F.ns.lt
    · exact Nat.lt_of_lt_of_le hb (Nat.le_trans F.above (Nat.le_of_lt F.ns.lt))
  · obtain ⟨hn, hg, hd, hos, htk⟩ := hm
    obtain rfl : acc = vs.toArray := by
      refine Array.ext_getElem? fun i => ?_
      cases q : acc[i]? with
      | some v => exact ((by simpa using hacc.2 i v q) : vs.toArray[i]? = some v).symm
      | none =>
        have h1 : acc.size ≤ i := Array.getElem?_eq_none_iff.mp q
        rw [hacc.1] at h1
        exact (Array.getElem?_eq_none (by simpa using h1)).symm
    have es : s' = { s with heap := s'.heap, toks := s'.toks } := by
      cases s'; cases s; simp only at hg hd hos; subst hg hd hos; rfl
    have F' : Fr g L s'.heap m := Fr_chg F (ws := [I]) hn (by simpa using Ne.symm NI.2.1) (fun b hb => by rw [List.mem_singleton.mp hb]; exact NI.2.2)
    have N' : News g L s'.heap news := fun q hq => ⟨hn _ _ (by simpa using hI q hq) (N q (.tail _ (.tail _ (.tail _ hq)))).1, (N q (.tail _ (.tail _ (.tail _ hq)))).2⟩
    have := h s'.heap.objs.size (s'.heap.push (tupOf vs.toArray)) s'.toks (F'.push _) (N'.push F' _ rfl) fun q hq => Heap.lt_size (N' q hq).1
    rw [es]
    exact this
end
theorem truthy_tup_cons {prog : Program} {w : World} {A : Around} {E : Value → Shared → Prop} {s : Shared} {g : Heap} {L t : Addr} {news : Led} {v : Value} {r : List Value} {Q : Bool → Shared → Prop} (N : News g L s.heap news) (hm : (t, tupOf (v :: r).toArray) ∈ news) (hz : (v :: r).length ≤ 1000)
    (h : Q true { s with toks := s.toks + 1 + 1 }) : wpAny (model prog w) A (truthy (.ref t)) Q E s := ktl_truthyK N hm hz h
theorem tup0_N {prog : Program} {w : World} {A : Around} {E : Value → Shared → Prop} {s : Shared} {g : Heap} {L t : Addr} {news : Led} {v : Value} {r : List Value} {u : Tok} {value slice : Expr} {Q : Value → Shared → Prop} (N : News g L s.heap news) (hm : (t, tupOf (v :: r).toArray) ∈ news) (h : Q v s)
    (hs : subscripted slice false (.ref t) (.int 0 u) = operate [.ref t, .int 0 u] (getItem (.ref t) (.int 0 u)) := by with_unfolding_all rfl) :
    wpAny (model prog w) A (subscriptTail value slice (.ref t) (.int 0 u)) Q E s :=
  item_tupleT (j := 0) ⟨_, (N _ hm).1, rfl, _, rfl⟩ (by decide) (by decide) (by
    unfold seqIndex?
    simp) rfl h hs
theorem try_no {prog : Program} {w : World} {A : Around} {E : Value → Shared → Prop} {s : Shared} {env : Env} {body orelse : List Stmt} {e₀ : ExceptHandler} {es : List ExceptHandler} {pos : Pos} {Q : Flow → Shared → Prop}
    (h : wpAny (model prog w) A (execs body env) (fun f s₁ => match f with | .next => wpAny (model prog w) A (execs orelse env) Q E s₁ | f => Q f s₁) NoE s) : wpAny (model prog w) A (exec (.Try body (e₀ :: es) orelse [] pos) env) Q E s :=
  wpAny_Try_except (wpAny_mono h (fun _ _ q => q) fun _ _ x => x.elim)
end
section
theorem rulesTok1 : True := by
  k_with_none
  k_with "k_ne" => (refine neN ?_; (try dsimp only); first | exact Nat.ne_of_lt (by with_reducible assumption) | exact Nat.ne_of_gt (by with_reducible assumption) | with_reducible assumption | exact neL_up (by with_reducible assumption) | with_reducible exact neL_13 | with_reducible exact neL_23 | with_reducible exact neL_12 | with_reducible exact neL_31 | with_reducible exact neL_32 | with_reducible exact neL_21 | exact Nat.ne_of_gt (by walk_at "pick") | exact Nat.ne_of_lt (by walk_at "pick") | omega)
  k_with "pick" => first | with_reducible assumption | with_reducible exact j1 (by assumption) | with_reducible exact j2 (by assumption) | with_reducible exact j3 (by assumption) | with_reducible exact j4 (by assumption) | with_reducible exact j5 (by assumption) | with_reducible exact j6 (by assumption) | with_reducible exact j7 (by assumption) | with_reducible exact j8 (by assumption) | with_reducible exact j9 (by assumption) | with_reducible exact j10 (by assumption) | with_reducible exact j11 (by assumption) | with_reducible exact j12 (by assumption) | with_reducible exact j13 (by assumption) | with_reducible exact j14 (by assumption) | with_reducible exact j15 (by assumption)
  k_with "om" => first | walk_at "pick" | with_reducible exact Nat.lt_trans (by assumption) (by walk_at "pick")
  k_with "k_mem" => first | exact List.Mem.head _ | assumption | exact List.mem_append_left _ (by assumption) | exact List.mem_append_right _ (by assumption) | (refine' List.Mem.tail _ ?_; k_extra "k_mem")
  k_with "room" => first | exact rm1 (by assumption) (by decide) | exact rm2 (by assumption) (by decide) | exact rm0 (by assumption) | exact rm3 (by assumption) (by decide) | ktr_room
  k_with "units" => first | exact rm1 (by assumption) (by decide) | exact rm2 (by assumption) (by decide) | exact rm0 (by assumption) | exact rm3 (by assumption) (by decide) | ktr_units
  k_with "lt" => try ((rename ∀ p ∈ (_ : List (Addr × Obj)), @LT.lt Nat _ p.1 _ => q9l9); k_lt q9l9; revert q9l9; intro _)
  k_with "dn" => try dsimp only [List.cons_append, List.nil_append] at ‹News _ _ _ _›
  k_with "dd" => try dsimp only [List.cons_append, List.nil_append] at ‹Obj.IsDictOf _ _ _›
  k_with "ds" => try dsimp only [List.cons_append, List.nil_append] at ‹LexSt _ _ _ _ _›
  k_with "end 0" => (intro q9g' q9L' q9h' q9off' q9FG' q9F' q9N' q9B' q9X' q9T' q9l0'; (try k_lt q9l0'); (try dsimp only); (try k_lift q9B'); (try k_fold))
  k_with "end 1" => (intro q9g' q9L' q9h' q9tk' q9cells' q9off' q9FG' q9F' q9N' q9Y' q9B' q9X' q9T' q9l0'; (try k_lt q9l0'); k_cells q9Y'; (try dsimp only [List.cons_append, List.nil_append] at q9N'); (try dsimp only); (try k_lift q9B'); (try k_fold))
  k_with "end 2" => (intro q9h' q9tk' q9ln' q9lt' q9F' q9N'; (try dsimp only [itLed, lexLed, lexD, strD, List.cons_append, List.nil_append] at q9N'); (try k_sweep))
  k_with "enterF" => (k_dflt (refine' enterF (by k_asm) (by k_asm) (by k_asm) (by k_asm) (by k_asm) (by exact rfl) (by exact rfl) (by assumption) (by k_is) (by k_is) (by walk_at "room") (by first | exact BindsTo.of_eq rfl | exact binds_K (by k_in) rfl (by k_is) rfl rfl rfl) (by exact locs rfl) ?_ (by exact rfl) (by exact rfl) (by exact rfl) (by decide); k_whole; walk_at "end 0"))
  k_with "enterFC" => (k_dflt (refine' enterFC (by k_asm) (by k_asm) (by k_asm) (by k_asm) (by k_asm) (by exact rfl) (by exact rfl) (by assumption) (by k_is) (by k_is) (by walk_at "room") (by first | exact BindsTo.of_eq rfl | exact binds_K (by k_in) rfl (by k_is) rfl rfl rfl) (by exact rfl) (by decide +kernel) ?_ (by exact rfl) (by exact rfl) (by exact rfl); k_whole; walk_at "end 1"))
  k_with "call type:list" => (k_here; (with_reducible show wpAny _ _ (call (Value.type "list") [Value.str _ _]) _ _ _); k_dflt (refine' list_str_N (by exact rfl) (by k_asm) (by k_asm) (by assumption) ?_; k_whole); intros; walk_at "lt"; (try k_sweep))
  k_with "call builtin:list.pop" => (k_here; (with_reducible show wpAny _ _ (call (Value.builtin _) [Value.ref _, Value.int _ _]) _ _ _); k_dflt (refine' pop0_N (by k_asm) (by k_asm) (by k_upd) (by omega) ?_); intros; (try k_sweep))
  k_with "call builtin:iter" => (k_here; (with_reducible show wpAny _ _ (call (Value.builtin "iter") [Value.ref _, Value.str _ _]) _ _ _); k_dflt (refine' iter2_N (by k_asm) (by k_asm) (by k_mem) ?_; k_whole); intros; walk_at "lt"; (try k_sweep))
  k_with "pyIter ref" => (k_here; k_dflt (refine' pyIter_ci (by k_asm) (by k_mem) ?_; k_whole))
  k_with "exec For Name Name cons nil" => (k_here; k_dflt (refine wpAny_For ?_ (by intro _; rfl)))
  k_with "codeAny" => (k_here; k_dflt (refine' read_turn (by assumption) (by exact rfl) (by k_asm) (by k_asm) (by k_asm) (by k_asm) (by first | exact rfl | assumption) (by (first | with_reducible assumption | omega | walk_at "room")) (by (first | with_reducible assumption | omega | walk_at "units")) (by k_asm) (by ((try dsimp only); omega)) (by ((try dsimp only); omega)) (by (first | assumption | omega)) (by exact rfl) ?_; k_whole; walk_at "end 2"))
  k_with "ite" => (with_reducible first | refine ite_pos (by assumption) ?_ | refine ite_neg (by assumption) ?_)
  exact True.intro
theorem tokQ (w : World) (p : Program) (loose : List Str) (mean : ExcName → Option Value) (mg mb : Str → Option Value) (z : LA) (hz : z.Ok) (qn : Nat) (ln : Int) (lt : Tok) (vs : List Value) (tok rest : List Nat) (n : Nat) (hlen : vs.length < 10000)
   (hv : Chars vs (34 :: (tok ++ 34 :: rest))) (ht : ∀ c ∈ tok, c ≠ 34 ∧ c ≠ 92) :
   ConF PySem.Challenge.rw_un0041_01.row.prog w (hd.heap_39 w.params) p loose mean mg mb 5 103 [.ref z.x] (lexLed w.params z #[] qn ln lt vs.toArray n)
    (fun r E1 => (∃ t, r = .str ⟨tok.toArray⟩ t) ∧ ∃ ln' lt' n' vs', E1 = lexLed w.params z #[] qn ln' lt' vs'.toArray n' ∧ Chars vs' rest) := by
  k_fill
  obtain ⟨pb, x, d, f, c1, pb1, x1, d1, lf, cc, dc, ct, mgn, oc, ocell, k⟩ := z
  obtain ⟨o1, o2, o3, o4, o5, o6, o7, o8, o9, o10, hcell, vs9, t9, hoc, hoc1⟩ := id hz
  dsimp only at *
  obtain ⟨t0, vs1, rfl, hv1⟩ := Chars.inv hv
  have hlen1 : vs1.length < 10000 := by simp at hlen; omega
  have w34 := ws34
  intro dp un gd cn cs a ccd cl outer A₀ base h₀ L m s R B F X N T hk hd hu ret
  dsimp only [lexLed, lexD, strD] at N ret
  walk_at "enterF"
  k_steps
  k_dflt (refine' read_loop1 hz ?hA ?B ?F ?X ?T ?hk ?hd ?hu ?N ?o1 ?o2 ?hx (fun c => c ≠ 34 ∧ c ≠ 92) ht ?hac hlen1 hv1 ?hm ?step ?last; (case hA => exact rfl); (case B => k_asm); (case X => k_asm); (case T => k_asm); (case hk => exact rfl); (case hd => (first | with_reducible assumption | omega | walk_at "room")); (case hu => (first | with_reducible assumption | omega | walk_at "units")); (case F => k_asm); (case N => k_asm); (case o1 => ((try dsimp only); omega)); (case o2 => ((try dsimp only); omega)); (case hx => exact rfl); (case hm => exact rfl); (case hac => (rw [(by decide +kernel : Str.ofString "" = ⟨#[]⟩)]; have := hv1.length; simp at this ⊢; omega)))
  case step =>
    intro c acc ta t h' tk' ln' lt' n' vs' hgc hac F' N'
    (try dsimp only [itLed, lexLed, lexD, strD, List.cons_append, List.nil_append] at N')
    (try k_sweep)
    have e1 := ch_ne c 34 _ q_is hgc.1
    have e2 := ch_ne c 92 _ b_is hgc.2
    have hsz : acc.length + Str.length ⟨#[c]⟩ ≤ sizeLine := by
      rw [sizeLine_eq]; show acc.cps.size + 1 ≤ _; omega
    (try k_fold)
    k_steps
    exact ⟨rfl, _, _, _, rfl, by k_asm, by k_asm⟩
  case last =>
    intro ta t h' tk' ln' lt' n' vs' hv' F' N'
    (try dsimp only [itLed, lexLed, lexD, strD, List.cons_append, List.nil_append] at N')
    (try k_sweep)
    (try k_fold)
    k_steps
    (rename News _ _ _ _ => kN9)
    exact ret _ _ _ _ (by k_asm) (fun p hp => kN9 p (List.Mem.tail _ (List.Mem.tail _ hp))) (Off.trans (by assumption) (Fr.keep (by k_asm))) ⟨⟨_, congrArg (Value.str · _) (Str.empty_append _)⟩, _, _, _, _, rfl, hv'⟩
end
section
theorem rulesTok2 : True := by
  k_with_none
  k_with "k_ne" => (refine neN ?_; (try dsimp only); first | exact Nat.ne_of_lt (by with_reducible assumption) | exact Nat.ne_of_gt (by with_reducible assumption) | with_reducible assumption | exact neL_up (by with_reducible assumption) | with_reducible exact neL_13 | with_reducible exact neL_23 | with_reducible exact neL_12 | with_reducible exact neL_31 | with_reducible exact neL_32 | with_reducible exact neL_21 | exact Nat.ne_of_gt (by walk_at "pick") | exact Nat.ne_of_lt (by walk_at "pick") | omega)
  k_with "pick" => first | with_reducible assumption | with_reducible exact j1 (by assumption) | with_reducible exact j2 (by assumption) | with_reducible exact j3 (by assumption) | with_reducible exact j4 (by assumption) | with_reducible exact j5 (by assumption) | with_reducible exact j6 (by assumption) | with_reducible exact j7 (by assumption) | with_reducible exact j8 (by assumption) | with_reducible exact j9 (by assumption) | with_reducible exact j10 (by assumption) | with_reducible exact j11 (by assumption) | with_reducible exact j12 (by assumption) | with_reducible exact j13 (by assumption) | with_reducible exact j14 (by assumption) | with_reducible exact j15 (by assumption)
  k_with "om" => first | walk_at "pick" | with_reducible exact Nat.lt_trans (by assumption) (by walk_at "pick")
  k_with "k_mem" => first | exact List.Mem.head _ | assumption | exact List.mem_append_left _ (by assumption) | exact List.mem_append_right _ (by assumption) | (refine' List.Mem.tail _ ?_; k_extra "k_mem")
  k_with "room" => first | exact rm1 (by assumption) (by decide) | exact rm2 (by assumption) (by decide) | exact rm0 (by assumption) | exact rm3 (by assumption) (by decide) | ktr_room
  k_with "units" => first | exact rm1 (by assumption) (by decide) | exact rm2 (by assumption) (by decide) | exact rm0 (by assumption) | exact rm3 (by assumption) (by decide) | ktr_units
  k_with "lt" => try ((rename ∀ p ∈ (_ : List (Addr × Obj)), @LT.lt Nat _ p.1 _ => q9l9); k_lt q9l9; revert q9l9; intro _)
  k_with "dn" => try dsimp only [List.cons_append, List.nil_append] at ‹News _ _ _ _›
  k_with "dd" => try dsimp only [List.cons_append, List.nil_append] at ‹Obj.IsDictOf _ _ _›
  k_with "ds" => try dsimp only [List.cons_append, List.nil_append] at ‹LexSt _ _ _ _ _›
  k_with "end 0" => (intro q9g' q9L' q9h' q9off' q9FG' q9F' q9N' q9B' q9X' q9T' q9l0'; (try k_lt q9l0'); (try dsimp only); (try k_lift q9B'); (try k_fold))
  k_with "end 1" => (intro q9g' q9L' q9h' q9tk' q9cells' q9off' q9FG' q9F' q9N' q9Y' q9B' q9X' q9T' q9l0'; (try k_lt q9l0'); k_cells q9Y'; (try dsimp only [List.cons_append, List.nil_append] at q9N'); (try dsimp only); (try k_lift q9B'); (try k_fold))
  k_with "end 2" => (intro q9h' q9tk' q9ln' q9lt' q9F' q9N'; (try dsimp only [itLed, lexLed, lexD, strD, List.cons_append, List.nil_append] at q9N'); (try k_sweep))
  k_with "end 3" => (intro q9h' q9tk' q9F' q9N'; (try dsimp only [itLed, lexLed, lexD, strD, List.cons_append, List.nil_append] at q9N'); (try k_sweep))
  k_with "enterF" => (k_dflt (refine' enterF (by k_asm) (by k_asm) (by k_asm) (by k_asm) (by k_asm) (by exact rfl) (by exact rfl) (by assumption) (by k_is) (by k_is) (by walk_at "room") (by first | exact BindsTo.of_eq rfl | exact binds_K (by k_in) rfl (by k_is) rfl rfl rfl) (by exact locs rfl) ?_ (by exact rfl) (by exact rfl) (by exact rfl) (by decide); k_whole; walk_at "end 0"))
  k_with "enterFC" => (k_dflt (refine' enterFC (by k_asm) (by k_asm) (by k_asm) (by k_asm) (by k_asm) (by exact rfl) (by exact rfl) (by assumption) (by k_is) (by k_is) (by walk_at "room") (by first | exact BindsTo.of_eq rfl | exact binds_K (by k_in) rfl (by k_is) rfl rfl rfl) (by exact rfl) (by decide +kernel) ?_ (by exact rfl) (by exact rfl) (by exact rfl); k_whole; walk_at "end 1"))
  k_with "call type:list" => (k_here; (with_reducible show wpAny _ _ (call (Value.type "list") [Value.str _ _]) _ _ _); k_dflt (refine' list_str_N (by exact rfl) (by k_asm) (by k_asm) (by assumption) ?_; k_whole); intros; walk_at "lt"; (try k_sweep))
  k_with "call builtin:list.pop" => (k_here; (with_reducible show wpAny _ _ (call (Value.builtin _) [Value.ref _, Value.int _ _]) _ _ _); k_dflt (refine' pop0_N (by k_asm) (by k_asm) (by k_upd) (by omega) ?_); intros; (try k_sweep))
  k_with "call builtin:iter" => (k_here; (with_reducible show wpAny _ _ (call (Value.builtin "iter") [Value.ref _, Value.str _ _]) _ _ _); k_dflt (refine' iter2_N (by k_asm) (by k_asm) (by k_mem) ?_; k_whole); intros; walk_at "lt"; (try k_sweep))
  k_with "pyIter ref" => (k_here; k_dflt (refine' pyIter_ci (by k_asm) (by k_mem) ?_; k_whole))
  k_with "exec For Name Name cons nil" => (k_here; k_dflt (refine wpAny_For ?_ (by intro _; rfl)))
  k_with "codeAny" => (k_here; k_dflt (refine' read_turn (by assumption) (by exact rfl) (by k_asm) (by k_asm) (by k_asm) (by k_asm) (by first | exact rfl | assumption) (by (first | with_reducible assumption | omega | walk_at "room")) (by (first | with_reducible assumption | omega | walk_at "units")) (by k_asm) (by ((try dsimp only); omega)) (by ((try dsimp only); omega)) (by (first | assumption | omega)) (by exact rfl) ?_; k_whole; walk_at "end 2"))
  k_with "ite" => (with_reducible first | refine ite_pos (by assumption) ?_ | refine ite_neg (by assumption) ?_)
  k_with "codeAny" => (k_here; k_dflt (refine' read_turn_end (by assumption) (by exact rfl) (by k_asm) (by k_asm) (by k_asm) (by k_asm) (by first | exact rfl | assumption) (by (first | with_reducible assumption | omega | walk_at "room")) (by (first | with_reducible assumption | omega | walk_at "units")) (by k_asm) (by ((try dsimp only); omega)) (by ((try dsimp only); omega)) ?_; k_whole; walk_at "end 3"))
  exact True.intro
theorem tokE (w : World) (p : Program) (loose : List Str) (mean : ExcName → Option Value) (mg mb : Str → Option Value) (z : LA) (hz : z.Ok) (qn : Nat) (ln : Int) (lt : Tok) (n : Nat) :
   ConF PySem.Challenge.rw_un0041_01.row.prog w (hd.heap_39 w.params) p loose mean mg mb 5 103 [.ref z.x] (lexLed w.params z #[] qn ln lt #[] n)
    (fun r E1 => (∃ t, r = .str (Str.ofString "") t) ∧ E1 = lexLed w.params z #[] qn ln lt #[] n) := by
  k_fill
  obtain ⟨pb, x, d, f, c1, pb1, x1, d1, lf, cc, dc, ct, mgn, oc, ocell, k⟩ := z
  obtain ⟨o1, o2, o3, o4, o5, o6, o7, o8, o9, o10, hcell, vs9, t9, hoc, hoc1⟩ := id hz
  have s1 : d < pb := Nat.lt_trans o9 o10
  have s2 : f < pb := Nat.lt_trans o8 s1
  have s3 : c1 < pb := Nat.lt_trans o7 s2
  have s4 : pb1 < pb := Nat.lt_trans o6 s3
  have s5 : x1 < pb := Nat.lt_trans o5 s4
  have s6 : d1 < pb := Nat.lt_trans o4 s5
  have s7 : lf < pb := Nat.lt_trans o3 s6
  have s8 : cc < pb := Nat.lt_trans o2 s7
  dsimp only at *
  intro dp un gd cn cs a ccd cl outer A₀ base h₀ L m s R B F X N T hk hd hu ret
  dsimp only [lexLed, lexD, strD] at N ret
  walk_at "enterF"
  k_steps
  exact ret _ _ _ _ (by k_asm) (by k_asm) (Off.trans (by assumption) (Fr.keep (by k_asm))) ⟨⟨_, rfl⟩, rfl⟩
theorem tokB (w : World) (p : Program) (loose : List Str) (mean : ExcName → Option Value) (mg mb : Str → Option Value) (z : LA) (hz : z.Ok) (v : Value) (q : List Value) (hq : q.length < 1000) (qn : Nat) (ln : Int) (lt : Tok) (left : Array Value) (n : Nat) :
   ConF PySem.Challenge.rw_un0041_01.row.prog w (hd.heap_39 w.params) p loose mean mg mb 5 103 [.ref z.x] (lexLed w.params z (v :: q).toArray qn ln lt left n)
    (fun r E1 => r = v ∧ E1 = lexLed w.params z q.toArray (qn + 1) ln lt left n) := by
  k_fill
  obtain ⟨pb, x, d, f, c1, pb1, x1, d1, lf, cc, dc, ct, mgn, oc, ocell, k⟩ := z
  obtain ⟨o1, o2, o3, o4, o5, o6, o7, o8, o9, o10, hcell, vs9, t9, hoc, hoc1⟩ := id hz
  have s1 : d < pb := Nat.lt_trans o9 o10
  have s2 : f < pb := Nat.lt_trans o8 s1
  have s3 : c1 < pb := Nat.lt_trans o7 s2
  have s4 : pb1 < pb := Nat.lt_trans o6 s3
  have s5 : x1 < pb := Nat.lt_trans o5 s4
  have s6 : d1 < pb := Nat.lt_trans o4 s5
  have s7 : lf < pb := Nat.lt_trans o3 s6
  have s8 : cc < pb := Nat.lt_trans o2 s7
  dsimp only at *
  intro dp un gd cn cs a ccd cl outer A₀ base h₀ L m s R B F X N T hk hd hu ret
  dsimp only [lexLed, lexD, strD] at N ret
  walk_at "enterF"
  k_steps
  exact ret _ _ _ _ (by k_asm) (by k_asm) (Off.trans (by assumption) (Fr.keep (by k_asm))) ⟨rfl, rfl⟩
theorem push_con (w : World) (p : Program) (loose : List Str) (mean : ExcName → Option Value) (mg mb : Str → Option Value) (z : LA) (hz : z.Ok) (x : Str) (tx : Tok) (q : List Value) (hq : q.length < 1000) (qn : Nat) (ln : Int) (lt : Tok) (left : Array Value) (n : Nat) :
   ConF PySem.Challenge.rw_un0041_01.row.prog w (hd.heap_39 w.params) p loose mean mg mb 5 110 [.ref z.x, .str x tx] (lexLed w.params z q.toArray qn ln lt left n)
    (fun r E1 => r = .none ∧ E1 = lexLed w.params z (q ++ [Value.str x tx]).toArray (qn + 1) ln lt left n) := by
  k_fill
  obtain ⟨pb, x, d, f, c1, pb1, x1, d1, lf, cc, dc, ct, mgn, oc, ocell, k⟩ := z
  obtain ⟨o1, o2, o3, o4, o5, o6, o7, o8, o9, o10, hcell, vs9, t9, hoc, hoc1⟩ := id hz
  have s1 : d < pb := Nat.lt_trans o9 o10
  have s2 : f < pb := Nat.lt_trans o8 s1
  have s3 : c1 < pb := Nat.lt_trans o7 s2
  have s4 : pb1 < pb := Nat.lt_trans o6 s3
  have s5 : x1 < pb := Nat.lt_trans o5 s4
  have s6 : d1 < pb := Nat.lt_trans o4 s5
  have s7 : lf < pb := Nat.lt_trans o3 s6
  have s8 : cc < pb := Nat.lt_trans o2 s7
  dsimp only at *
  have hzq : q.toArray.size ≤ sizeLine := by rw [sizeLine_eq]; simp; omega
  intro dp un gd cn cs a ccd cl outer A₀ base h₀ L m s R B F X N T hk hd hu ret
  dsimp only [lexLed, lexD, strD] at N ret
  walk_at "enterF"
  k_steps
  exact ret _ _ _ _ (by k_asm) (by k_asm) (Off.trans (by assumption) (Fr.keep (by k_asm))) ⟨rfl, by simp⟩
end
section
theorem rulesTok3 : True := by
  k_with_none
  k_with "k_ne" => (refine neN ?_; (try dsimp only); first | exact Nat.ne_of_lt (by with_reducible assumption) | exact Nat.ne_of_gt (by with_reducible assumption) | with_reducible assumption | exact neL_up (by with_reducible assumption) | with_reducible exact neL_13 | with_reducible exact neL_23 | with_reducible exact neL_12 | with_reducible exact neL_31 | with_reducible exact neL_32 | with_reducible exact neL_21 | exact Nat.ne_of_gt (by walk_at "pick") | exact Nat.ne_of_lt (by walk_at "pick") | omega)
  k_with "pick" => first | with_reducible assumption | with_reducible exact j1 (by assumption) | with_reducible exact j2 (by assumption) | with_reducible exact j3 (by assumption) | with_reducible exact j4 (by assumption) | with_reducible exact j5 (by assumption) | with_reducible exact j6 (by assumption) | with_reducible exact j7 (by assumption) | with_reducible exact j8 (by assumption) | with_reducible exact j9 (by assumption) | with_reducible exact j10 (by assumption) | with_reducible exact j11 (by assumption) | with_reducible exact j12 (by assumption) | with_reducible exact j13 (by assumption) | with_reducible exact j14 (by assumption) | with_reducible exact j15 (by assumption)
  k_with "om" => first | walk_at "pick" | with_reducible exact Nat.lt_trans (by assumption) (by walk_at "pick")
  k_with "k_mem" => first | exact List.Mem.head _ | assumption | exact List.mem_append_left _ (by assumption) | exact List.mem_append_right _ (by assumption) | (refine' List.Mem.tail _ ?_; k_extra "k_mem")
  k_with "room" => first | exact rm1 (by assumption) (by decide) | exact rm2 (by assumption) (by decide) | exact rm0 (by assumption) | exact rm3 (by assumption) (by decide) | ktr_room
  k_with "units" => first | exact rm1 (by assumption) (by decide) | exact rm2 (by assumption) (by decide) | exact rm0 (by assumption) | exact rm3 (by assumption) (by decide) | ktr_units
  k_with "lt" => try ((rename ∀ p ∈ (_ : List (Addr × Obj)), @LT.lt Nat _ p.1 _ => q9l9); k_lt q9l9; revert q9l9; intro _)
  k_with "dn" => try dsimp only [List.cons_append, List.nil_append] at ‹News _ _ _ _›
  k_with "dd" => try dsimp only [List.cons_append, List.nil_append] at ‹Obj.IsDictOf _ _ _›
  k_with "ds" => try dsimp only [List.cons_append, List.nil_append] at ‹LexSt _ _ _ _ _›
  k_with "end 0" => (intro q9g' q9L' q9h' q9off' q9FG' q9F' q9N' q9B' q9X' q9T' q9l0'; (try k_lt q9l0'); (try dsimp only); (try k_lift q9B'); (try k_fold))
  k_with "end 1" => (intro q9g' q9L' q9h' q9tk' q9cells' q9off' q9FG' q9F' q9N' q9Y' q9B' q9X' q9T' q9l0'; (try k_lt q9l0'); k_cells q9Y'; (try dsimp only [List.cons_append, List.nil_append] at q9N'); (try dsimp only); (try k_lift q9B'); (try k_fold))
  k_with "end 2" => (intro q9h' q9tk' q9ln' q9lt' q9F' q9N'; (try dsimp only [itLed, lexLed, lexD, strD, List.cons_append, List.nil_append] at q9N'); (try k_sweep))
  k_with "enterF" => (k_dflt (refine' enterF (by k_asm) (by k_asm) (by k_asm) (by k_asm) (by k_asm) (by exact rfl) (by exact rfl) (by assumption) (by k_is) (by k_is) (by walk_at "room") (by first | exact BindsTo.of_eq rfl | exact binds_K (by k_in) rfl (by k_is) rfl rfl rfl) (by exact locs rfl) ?_ (by exact rfl) (by exact rfl) (by exact rfl) (by decide); k_whole; walk_at "end 0"))
  k_with "enterFC" => (k_dflt (refine' enterFC (by k_asm) (by k_asm) (by k_asm) (by k_asm) (by k_asm) (by exact rfl) (by exact rfl) (by assumption) (by k_is) (by k_is) (by walk_at "room") (by first | exact BindsTo.of_eq rfl | exact binds_K (by k_in) rfl (by k_is) rfl rfl rfl) (by exact rfl) (by decide +kernel) ?_ (by exact rfl) (by exact rfl) (by exact rfl); k_whole; walk_at "end 1"))
  k_with "call type:list" => (k_here; (with_reducible show wpAny _ _ (call (Value.type "list") [Value.str _ _]) _ _ _); k_dflt (refine' list_str_N (by exact rfl) (by k_asm) (by k_asm) (by assumption) ?_; k_whole); intros; walk_at "lt"; (try k_sweep))
  k_with "call builtin:list.pop" => (k_here; (with_reducible show wpAny _ _ (call (Value.builtin _) [Value.ref _, Value.int _ _]) _ _ _); k_dflt (refine' pop0_N (by k_asm) (by k_asm) (by k_upd) (by omega) ?_); intros; (try k_sweep))
  k_with "call builtin:iter" => (k_here; (with_reducible show wpAny _ _ (call (Value.builtin "iter") [Value.ref _, Value.str _ _]) _ _ _); k_dflt (refine' iter2_N (by k_asm) (by k_asm) (by k_mem) ?_; k_whole); intros; walk_at "lt"; (try k_sweep))
  k_with "pyIter ref" => (k_here; k_dflt (refine' pyIter_ci (by k_asm) (by k_mem) ?_; k_whole))
  k_with "exec For Name Name cons nil" => (k_here; k_dflt (refine wpAny_For ?_ (by intro _; rfl)))
  k_with "codeAny" => (k_here; k_dflt (refine' read_turn (by assumption) (by exact rfl) (by k_asm) (by k_asm) (by k_asm) (by k_asm) (by first | exact rfl | assumption) (by (first | with_reducible assumption | omega | walk_at "room")) (by (first | with_reducible assumption | omega | walk_at "units")) (by k_asm) (by ((try dsimp only); omega)) (by ((try dsimp only); omega)) (by (first | assumption | omega)) (by exact rfl) ?_; k_whole; walk_at "end 2"))
  k_with "ite" => (with_reducible first | refine ite_pos (by assumption) ?_ | refine ite_neg (by assumption) ?_)
  exact True.intro
theorem tokP (w : World) (p : Program) (loose : List Str) (mean : ExcName → Option Value) (mg mb : Str → Option Value) (z : LA) (hz : z.Ok) (qn : Nat) (ln : Int) (lt : Tok) (vs : List Value) (c0 : Nat) (tok rest : List Nat) (n : Nat) (hlen : vs.length < 10000)
   (hv : Chars vs (32 :: c0 :: (tok ++ 10 :: rest))) (h0 : 48 ≤ c0 ∧ c0 < 56) (ht : ∀ c ∈ tok, 48 ≤ c ∧ c < 56) :
   ConF PySem.Challenge.rw_un0041_01.row.prog w (hd.heap_39 w.params) p loose mean mg mb 5 103 [.ref z.x] (lexLed w.params z #[] qn ln lt vs.toArray n)
    (fun r E1 => (∃ t, r = .str ⟨(c0 :: tok).toArray⟩ t) ∧ ∃ ln' lt' n' vs', E1 = lexLed w.params z #[] qn ln' lt' vs'.toArray n' ∧ Chars vs' rest) := by
  k_fill
  obtain ⟨pb, x, d, f, c1, pb1, x1, d1, lf, cc, dc, ct, mgn, oc, ocell, k⟩ := z
  obtain ⟨o1, o2, o3, o4, o5, o6, o7, o8, o9, o10, hcell, vs9, t9, hoc, hoc1⟩ := id hz
  dsimp only at *
  obtain ⟨t0, vs0, rfl, hv0⟩ := Chars.inv hv
  obtain ⟨t1, vs1, rfl, hv1⟩ := Chars.inv hv0
  have hlen0 : (Value.str ⟨#[c0]⟩ t1 :: vs1).length < 10000 := by simp at hlen ⊢; omega
  have hlen1 : vs1.length < 10000 := by simp at hlen; omega
  have w32 := ws32
  have w0 := wsOct c0 h0.1 h0.2
  have a1 := ch_ne c0 34 _ q_is (by omega)
  have a2 := ch_ne c0 92 _ b_is (by omega)
  have hsz0 : (Str.ofString "").length + Str.length ⟨#[c0]⟩ ≤ sizeLine := by
    rw [(by decide +kernel : Str.ofString "" = ⟨#[]⟩), sizeLine_eq]; show 0 + 1 ≤ _; omega
  intro dp un gd cn cs a ccd cl outer A₀ base h₀ L m s R B F X N T hk hd hu ret
  dsimp only [lexLed, lexD, strD] at N ret
  walk_at "enterF"
  k_steps
  k_dflt (refine' read_loop1 hz ?hA ?B ?F ?X ?T ?hk ?hd ?hu ?N ?o1 ?o2 ?hx (fun c => 48 ≤ c ∧ c < 56) ht ?hac hlen1 hv1 ?hm ?step ?last; (case hA => exact rfl); (case B => k_asm); (case X => k_asm); (case T => k_asm); (case hk => exact rfl); (case hd => (first | with_reducible assumption | omega | walk_at "room")); (case hu => (first | with_reducible assumption | omega | walk_at "units")); (case F => k_asm); (case N => k_asm); (case o1 => ((try dsimp only); omega)); (case o2 => ((try dsimp only); omega)); (case hx => exact rfl); (case hm => exact rfl); (case hac => (rw [(by decide +kernel : Str.ofString "" = ⟨#[]⟩), Str.cps_append, Array.size_append]; have := hv1.length; simp at this ⊢; omega)))
  case step =>
    intro c acc ta t h' tk' ln' lt' n' vs' hgc hac F' N'
    (try dsimp only [itLed, lexLed, lexD, strD, List.cons_append, List.nil_append] at N')
    (try k_sweep)
    have e1 := wsOct c hgc.1 hgc.2
    have e2 := ch_ne c 92 _ b_is (by omega)
    have hsz : acc.length + Str.length ⟨#[c]⟩ ≤ sizeLine := by
      rw [sizeLine_eq]; show acc.cps.size + 1 ≤ _; omega
    (try k_fold)
    k_steps
    exact ⟨rfl, _, _, _, rfl, by k_asm, by k_asm⟩
  case last =>
    intro ta t h' tk' ln' lt' n' vs' hv' F' N'
    (try dsimp only [itLed, lexLed, lexD, strD, List.cons_append, List.nil_append] at N')
    (try k_sweep)
    have w10 := ws10
    (try k_fold)
    k_steps
    (rename News _ _ _ _ => kN9)
    refine ret _ _ _ _ (by k_asm) (fun p hp => kN9 p (List.Mem.tail _ (List.Mem.tail _ hp))) (Off.trans (by assumption) (Fr.keep (by k_asm))) ⟨⟨_, congrArg (Value.str · _) ?_⟩, _, _, _, _, rfl, hv'⟩
    rw [(by decide +kernel : Str.ofString "" = ⟨#[]⟩)]
    apply Str.ext'
    simp [Str.cps_append]
end
section
open PyProof.Rows.LCg
open Sem (wp)
open AutoSeq1 (wpAny_loadPart')
theorem rulesZipS : True := by
  k_with_none
  k_with "k_ne" => (refine neN ?_; (try dsimp only); first | exact Nat.ne_of_lt (by with_reducible assumption) | exact Nat.ne_of_gt (by with_reducible assumption) | with_reducible assumption | exact neL_up (by with_reducible assumption) | with_reducible exact neL_13 | with_reducible exact neL_23 | with_reducible exact neL_12 | with_reducible exact neL_31 | with_reducible exact neL_32 | with_reducible exact neL_21 | exact Nat.ne_of_gt (by walk_at "pick") | exact Nat.ne_of_lt (by walk_at "pick") | omega)
  k_with "pick" => first | with_reducible assumption | with_reducible exact j1 (by assumption) | with_reducible exact j2 (by assumption) | with_reducible exact j3 (by assumption) | with_reducible exact j4 (by assumption) | with_reducible exact j5 (by assumption) | with_reducible exact j6 (by assumption) | with_reducible exact j7 (by assumption) | with_reducible exact j8 (by assumption) | with_reducible exact j9 (by assumption) | with_reducible exact j10 (by assumption) | with_reducible exact j11 (by assumption) | with_reducible exact j12 (by assumption) | with_reducible exact j13 (by assumption) | with_reducible exact j14 (by assumption) | with_reducible exact j15 (by assumption)
  k_with "om" => first | walk_at "pick" | with_reducible exact Nat.lt_trans (by assumption) (by walk_at "pick")
  k_with "k_mem" => first | exact List.Mem.head _ | assumption | exact List.mem_append_left _ (by assumption) | exact List.mem_append_right _ (by assumption) | (refine' List.Mem.tail _ ?_; k_extra "k_mem")
  k_with "room" => first | exact rm1 (by assumption) (by decide) | exact rm2 (by assumption) (by decide) | exact rm0 (by assumption) | exact rm3 (by assumption) (by decide) | ktr_room
  k_with "units" => first | exact rm1 (by assumption) (by decide) | exact rm2 (by assumption) (by decide) | exact rm0 (by assumption) | exact rm3 (by assumption) (by decide) | ktr_units
  k_with "lt" => try ((rename ∀ p ∈ (_ : List (Addr × Obj)), @LT.lt Nat _ p.1 _ => q9l9); k_lt q9l9; revert q9l9; intro _)
  k_with "dn" => try dsimp only [List.cons_append, List.nil_append] at ‹News _ _ _ _›
  k_with "dd" => try dsimp only [List.cons_append, List.nil_append] at ‹Obj.IsDictOf _ _ _›
  k_with "ds" => try dsimp only [List.cons_append, List.nil_append] at ‹LexSt _ _ _ _ _›
  exact True.intro
noncomputable abbrev siT : String := "str_ascii_iterator"
structure ZO (z TI TO i1 i2 : Nat) : Prop where
  a : i1 < i2
  b : i2 < TI
  c : TI < TO
  d : TO < z
section
variable {prog : Program} {w : World} {A : Around} {E : Value → Shared → Prop} {s : Shared} {z TI TO i1 i2 : Nat} {x y : Str} {tx ty : Tok} {k : Nat} {a b : Value}
theorem zs_item {c e : Nat} {Q : Value → Shared → Prop} (O : ZO z TI TO i1 i2) (hz : IsZip s.heap z TI TO .none) (hTI : IsPair s.heap TI (.ref i1) (.ref i2)) (hTO : IsPair s.heap TO a b)
    (h1 : s.heap.IsStrIter i1 siT x tx k) (h2 : s.heap.IsStrIter i2 siT y ty k) (hx : x.cps[k]? = some c) (hy : y.cps[k]? = some e)
    (hQ : ∀ h' tk u v, IsZip h' z TI TO (rawInt s.heap.objs.size) → IsPair h' TO (.str ⟨#[c]⟩ u) (.str ⟨#[e]⟩ v) → h'.IsStrIter i1 siT x tx (k + 1) → h'.IsStrIter i2 siT y ty (k + 1) → IsPair h' s.heap.objs.size (.str ⟨#[c]⟩ u) (.str ⟨#[e]⟩ v) →
      (∀ q o, q ≠ z → q ≠ TO → q ≠ i1 → q ≠ i2 → s.heap.get? q = some o → h'.get? q = some o) → Q (.ref s.heap.objs.size) { s with heap := h', toks := tk }) :
    wpAny (model prog w) A (Builtin.«zip.__next__» ⟨[.ref z], []⟩) (fun fin s' => ∃ v, fin = .done (.ret v) ∧ Q v s') E s := by
  obtain ⟨o1, o2, o3, o4⟩ := O
  have n1 : z ≠ TI := by omega
  have n2 : z ≠ TO := by omega
  have n3 : z ≠ i1 := by omega
  have n4 : z ≠ i2 := by omega
  have n5 : TO ≠ i1 := by omega
  have n6 : TO ≠ i2 := by omega
  have n7 : i1 ≠ i2 := by omega
  show wpAny _ _ (field (.ref z) 2 >>= _) _ _ _
  refine wpAny_bind (wpAny_field hz rfl (x := .bool false) rfl ?_)
  show wpAny _ _ (field (.ref z) 3 >>= _) _ _ _
  refine wpAny_bind (wpAny_field hz rfl (x := .ref TI) rfl ?_)
  refine wpAny_bind (wpAny_seqItems hTI rfl ?_)
  show wpAny _ _ (Builtin.SmallTypes.ownedTupleIsFree (.ref z) >>= _) _ _ _
  refine wpAny_bind ?_
  unfold Builtin.SmallTypes.ownedTupleIsFree
  refine wpAny_bind (wpAny_field hz rfl (x := .none) rfl (wpAny_pure ?_))
  simp only [if_true]
  refine wpAny_bind (wpAny_rule ?_)
  refine wpAny_bind (wpAny_field hz rfl (x := .ref TO) rfl ?_)
  refine wpAny_bind (wpAny_setField_rec hz (by simp) fun h₁ hz₁ hs₁ => ?_)
  replace hz₁ : IsZip h₁ z TI TO .ellipsis := hz₁
  refine wpAny_bind ?_
  simp only [List.zipIdx_cons, List.zipIdx_nil, List.forIn_cons, List.forIn_nil]
  refine wpAny_bind (wpAny_bind (wpAny_onRaise ?_))
  show wpAny _ _ (Builtin.SmallTypes.nextOf (.ref i1) >>= _) _ _ _
  have h1₁ : h₁.IsStrIter i1 siT x tx k := let ⟨o, ho, r⟩ := h1; ⟨o, hs₁.extBut _ _ n3.symm ho, r⟩
  refine wpAny_bind (wpAny_nextOf_ascii_item h1₁ hx fun h₂ h1₂ hs₂ => wpAny_pure ?_)
  have hTO₂ : IsPair h₂ TO a b := hs₂.extBut _ _ n5 (hs₁.extBut _ _ n2.symm hTO)
  refine wpAny_bind (wpAny_seqItems hTO₂ rfl ?_)
  refine wpAny_bind (wpAny_updateSeq_pair hTO₂ fun h₃ hTO₃ hs₃ => ?_)
  replace hTO₃ : IsPair h₃ TO _ b := hTO₃
  refine wpAny_bind (wpAny_letGo (wpAny_pure ?_))
  refine wpAny_bind (wpAny_bind (wpAny_onRaise ?_))
  show wpAny _ _ (Builtin.SmallTypes.nextOf (.ref i2) >>= _) _ _ _
  have h2₃ : h₃.IsStrIter i2 siT y ty k := let ⟨o, ho, r⟩ := h2; ⟨o, hs₃.extBut _ _ n6.symm (hs₂.extBut _ _ n7.symm (hs₁.extBut _ _ n4.symm ho)), r⟩
  refine wpAny_bind (wpAny_nextOf_ascii_item h2₃ hy fun h₄ h2₄ hs₄ => wpAny_pure ?_)
  have hTO₄ := hs₄.extBut _ _ n6 hTO₃
  refine wpAny_bind (wpAny_seqItems hTO₄ rfl ?_)
  refine wpAny_bind (wpAny_updateSeq_pair hTO₄ fun h₅ hTO₅ hs₅ => ?_)
  replace hTO₅ : IsPair h₅ TO _ _ := hTO₅
  refine wpAny_bind (wpAny_letGo (wpAny_pure (wpAny_pure ?_)))
  refine wpAny_bind (wpAny_seqItems hTO₅ rfl ?_)
  refine wpAny_bind (wpAny_newTuple ?_)
  have hsz : h₅.objs.size = s.heap.objs.size := by rw [hs₅.1, hs₄.1, hs₃.1, hs₂.1, hs₁.1]
  have hz₅ : IsZip h₅ z TI TO .ellipsis := hs₅.extBut _ _ n2 (hs₄.extBut _ _ n4 (hs₃.extBut _ _ n2 (hs₂.extBut _ _ n3 hz₁)))
  have hk₅ : ∀ q o, q ≠ z → q ≠ TO → q ≠ i1 → q ≠ i2 → s.heap.get? q = some o → h₅.get? q = some o := fun q o c1 c2 c3 c4 e =>
    hs₅.extBut _ _ c2 (hs₄.extBut _ _ c4 (hs₃.extBut _ _ c2 (hs₂.extBut _ _ c3 (hs₁.extBut _ _ c1 e))))
  have h1₅ : h₅.IsStrIter i1 siT x tx (k + 1) := let ⟨o, ho, r⟩ := h1₂; ⟨o, hs₅.extBut _ _ n5.symm (hs₄.extBut _ _ n7 (hs₃.extBut _ _ n5.symm ho)), r⟩
  have h2₅ : h₅.IsStrIter i2 siT y ty (k + 1) := let ⟨o, ho, r⟩ := h2₄; ⟨o, hs₅.extBut _ _ n6.symm ho, r⟩
  have hzlt : z < h₅.objs.size := Heap.lt_size hz₅
  show wpAny _ _ (Builtin.SmallTypes.ownedTupleHandOut (.ref z) (.ref h₅.objs.size) >>= _) _ _ _
  refine wpAny_bind ?_
  unfold Builtin.SmallTypes.ownedTupleHandOut
  refine wpAny_bind (wpAny_setField_rec (Heap.get?_push_of_some _ hz₅) (by simp) fun h₇ hz₇ hs₇ => ?_)
  replace hz₇ : IsZip h₇ z TI TO (rawInt h₅.objs.size) := hz₇
  refine wpAny_setField_rec hz₇ (by simp) fun h₈ hz₈ hs₈ => ?_
  replace hz₈ : IsZip h₈ z TI TO (rawInt h₅.objs.size) := hz₈
  have up : ∀ q o, q ≠ z → h₅.get? q = some o → h₈.get? q = some o := fun q o c1 e => hs₈.extBut _ _ c1 (hs₇.extBut _ _ c1 (Heap.get?_push_of_some _ e))
  have hT₈ := hs₈.extBut _ _ (Nat.ne_of_gt hzlt) (hs₇.extBut _ _ (Nat.ne_of_gt hzlt) (Heap.get?_push_size h₅ (o := { cls := .type "tuple", data := .seq #[.str ⟨#[c]⟩ _, .str ⟨#[e]⟩ _] }) rfl))
  rw [hsz] at hz₈ hT₈
  refine wpAny_pure ⟨_, rfl, ?_⟩
  show Q (.ref h₅.objs.size) _
  rw [hsz]
  exact hQ h₈ _ _ _ hz₈ (up _ _ n2.symm hTO₅) (let ⟨o, ho, r⟩ := h1₅; ⟨o, up _ _ n3.symm ho, r⟩) (let ⟨o, ho, r⟩ := h2₅; ⟨o, up _ _ n4.symm ho, r⟩) hT₈ fun q o c1 c2 c3 c4 e => up q o c1 (hk₅ q o c1 c2 c3 c4 e)
theorem zs_end {Q : Fin → Shared → Prop} (hh : A.handled = none) (O : ZO z TI TO i1 i2) (hz : IsZip s.heap z TI TO .none) (hTI : IsPair s.heap TI (.ref i1) (.ref i2))
    (h1 : s.heap.IsStrIter i1 siT x tx k) (hx : x.cps[k]? = none)
    (hE : ∀ h' e, (∀ q o, q ≠ z → q ≠ TO → q ≠ i1 → q ≠ i2 → s.heap.get? q = some o → h'.get? q = some o) → (∃ o, h'.get? e = some o ∧ o.cls = .type "StopIteration") → E (.ref e) { s with heap := h' }) :
    wpAny (model prog w) A (Builtin.«zip.__next__» ⟨[.ref z], []⟩) Q E s := by
  obtain ⟨o1, o2, o3, o4⟩ := O
  have n3 : z ≠ i1 := by omega
  show wpAny _ _ (field (.ref z) 2 >>= _) _ _ _
  refine wpAny_bind (wpAny_field hz rfl (x := .bool false) rfl ?_)
  show wpAny _ _ (field (.ref z) 3 >>= _) _ _ _
  refine wpAny_bind (wpAny_field hz rfl (x := .ref TI) rfl ?_)
  refine wpAny_bind (wpAny_seqItems hTI rfl ?_)
  show wpAny _ _ (Builtin.SmallTypes.ownedTupleIsFree (.ref z) >>= _) _ _ _
  refine wpAny_bind ?_
  unfold Builtin.SmallTypes.ownedTupleIsFree
  refine wpAny_bind (wpAny_field hz rfl (x := .none) rfl (wpAny_pure ?_))
  simp only [if_true]
  refine wpAny_bind (wpAny_rule ?_)
  refine wpAny_bind (wpAny_field hz rfl (x := .ref TO) rfl ?_)
  refine wpAny_bind (wpAny_setField_rec hz (by simp) fun h₁ hz₁ hs₁ => ?_)
  replace hz₁ : IsZip h₁ z TI TO .ellipsis := hz₁
  refine wpAny_bind ?_
  simp only [List.zipIdx_cons, List.zipIdx_nil, List.forIn_cons, List.forIn_nil]
  refine wpAny_bind (wpAny_bind (wpAny_onRaise ?_))
  show wpAny _ _ (Builtin.SmallTypes.nextOf (.ref i1) >>= _) _ _ _
  have h1₁ : h₁.IsStrIter i1 siT x tx k := let ⟨o, ho, r⟩ := h1; ⟨o, hs₁.extBut _ _ n3.symm ho, r⟩
  refine wpAny_bind (wpAny_nextOf_ascii_end hh h1₁ hx fun h₂ e hs₂ he => ?_)
  obtain ⟨oe, hoe, hce⟩ := he
  have hz₂ : IsZip h₂ z TI TO .ellipsis := hs₂ _ _ n3 hz₁
  have hez : e ≠ z := fun q => by subst q; rw [hz₂] at hoe; cases hoe; simp at hce
  exact wpAny_setField_rec hz₂ (by simp) fun h₃ _ hs₃ => hE h₃ e (fun q o c1 _ c3 _ e' => hs₃.extBut _ _ c1 (hs₂ _ _ c3 (hs₁.extBut _ _ c1 e'))) ⟨oe, hs₃.extBut _ _ hez hoe, hce⟩
/-- zip over two texts of one length -/
theorem zs_walks (hh : A.handled = none) (O : ZO z TI TO i1 i2) (hxy : x.cps.size = y.cps.size) :
    WalksT prog w A z [z, TI, TO, i1, i2] [z, TO, i1, i2] x.cps.size
      (fun i vals => ∃ c e u v, x.cps[i]? = some c ∧ y.cps[i]? = some e ∧ vals = #[.str ⟨#[c]⟩ u, .str ⟨#[e]⟩ v])
      (fun i h => IsZip h z TI TO .none ∧ IsPair h TI (.ref i1) (.ref i2) ∧ (∃ a b, IsPair h TO a b) ∧ h.IsStrIter i1 siT x tx i ∧ h.IsStrIter i2 siT y ty i)
      (fun i T h => IsZip h z TI TO (rawInt T) ∧ IsPair h TI (.ref i1) (.ref i2) ∧ (∃ a b, IsPair h TO a b) ∧ h.IsStrIter i1 siT x tx (i + 1) ∧ h.IsStrIter i2 siT y ty (i + 1) ∧ T ≠ z ∧ T ≠ TO ∧ T ≠ i1 ∧ T ≠ i2) where
  sub := fun b hb => by simp at hb ⊢; rcases hb with rfl | rfl | rfl | rfl <;> simp
  frame := fun i h h' ⟨a1, a2, ⟨a, b, a3⟩, ⟨o1, a4, r1⟩, ⟨o2, a5, r2⟩⟩ hk => ⟨hk z (by simp) _ a1, hk TI (by simp) _ a2, ⟨a, b, hk TO (by simp) _ a3⟩, ⟨o1, hk i1 (by simp) _ a4, r1⟩, ⟨o2, hk i2 (by simp) _ a5, r2⟩⟩
  item := fun i s Q E hi ⟨a1, a2, ⟨a, b, a3⟩, a4, a5⟩ hQ => by
    have hT : s.TypeIs (.ref z) "zip" := ⟨_, a1, rfl⟩
    have hiy : i < y.cps.size := hxy ▸ hi
    obtain ⟨o1, o2, o3, o4⟩ := id O
    have lt : ∀ {q o}, s.heap.get? q = some o → s.heap.objs.size ≠ q := fun e => Nat.ne_of_gt (Heap.lt_size e)
    unfold pyNext
    refine wpAny_bind (wpAny_attempt (wpAny_callSpecial?_slot (name := Str.ofString "__next__") hT F.slot_zip_next
      (wpAny_call_entry F.slot_zip_next hT F.entry_zip_next (zs_item O a1 a2 a3 a4 a5 (Array.getElem?_eq_getElem hi) (Array.getElem?_eq_getElem hiy) fun h' tk u v b1 b2 b3 b4 b5 hk => wpAny_pure ?_) (F.args_zip_next_1 _))))
    refine hQ s.heap.objs.size _ h' tk ⟨_, _, u, v, Array.getElem?_eq_getElem hi, Array.getElem?_eq_getElem hiy, rfl⟩ (Nat.le_refl _) ⟨_, b5, rfl, _, rfl⟩
      ⟨b1, hk TI _ (by omega) (by omega) (by omega) (by omega) a2, ⟨_, _, b2⟩, b3, b4, lt a1, lt a3, (by obtain ⟨_, e, _⟩ := a4; exact lt e), (by obtain ⟨_, e, _⟩ := a5; exact lt e)⟩
      fun q o hq e => hk q o (fun h => hq (by simp [h])) (fun h => hq (by simp [h])) (fun h => hq (by simp [h])) (fun h => hq (by simp [h])) e
  go := fun elts kk pos i T s Q E ⟨a1, a2, ⟨a, b, a3⟩, ⟨p1, a4, r1⟩, ⟨p2, a5, r2⟩, _⟩ hQ => by
    obtain ⟨o1, o2, o3, o4⟩ := id O
    have m1 : TI ≠ z := by omega
    have m2 : TO ≠ z := by omega
    have m3 : i1 ≠ z := by omega
    have m4 : i2 ≠ z := by omega
    refine wpAny_letOwnedTupleGo_zip a1 fun h' hz' hs' => hQ h' ⟨hz', hs'.extBut _ _ m1 a2, ⟨a, b, hs'.extBut _ _ m2 a3⟩, ⟨p1, hs'.extBut _ _ m3 a4, r1⟩, ⟨p2, hs'.extBut _ _ m4 a5, r2⟩⟩
      fun q o hq e => hs'.extBut _ _ (fun h => hq (by simp [h])) e
  apart := fun i T h ⟨_, _, _, _, _, t1, t2, t3, t4⟩ hT => by
    simp at hT
    rcases hT with h | h | h | h
    · exact t1 h
    · exact t2 h
    · exact t3 h
    · exact t4 h
  done := fun s Q E ⟨a1, a2, _, a4, a5⟩ hQ => by
    have hT : s.TypeIs (.ref z) "zip" := ⟨_, a1, rfl⟩
    unfold pyNext
    refine wpAny_bind (wpAny_attempt (wpAny_callSpecial?_slot (name := Str.ofString "__next__") hT F.slot_zip_next
      (wpAny_call_entry F.slot_zip_next hT F.entry_zip_next (zs_end hh O a1 a2 a4 (by simp) fun h' e hk he => ?_) (F.args_zip_next_1 _))))
    obtain ⟨o, ho, hc⟩ := he
    refine wpAny_bind (wpAny_isInstance (T := "StopIteration") (b := true) ⟨o, ho, hc⟩ isSubtype_stop ?_)
    exact wpAny_pure (hQ h' s.toks fun q o hq e => hk q o (fun h => hq (by simp [h])) (fun h => hq (by simp [h])) (fun h => hq (by simp [h])) (fun h => hq (by simp [h])) e)
  self := fun i s Q E ⟨a1, _⟩ hQ => wpAny_pyIter_zip a1 hQ
end
noncomputable abbrev siObj (x : Str) (t : Tok) : Obj := { cls := .type siT, data := .fields #[.str x t, .int 0 0] }
noncomputable abbrev pairObj (a b : Value) : Obj := { cls := .type "tuple", data := .seq #[a, b] }
noncomputable abbrev zipObj (TI TO : Addr) : Obj := { cls := .type "zip", data := .fields #[.none, .bool false, .bool false, .ref TI, .ref TO] }
theorem meets_zip_strs (x y : Str) (tx ty : Tok) (ax : x.cps.all (· < 128) = true) (ay : y.cps.all (· < 128) = true) :
    Meets (Builtin.«zip.__new__» ⟨[.type "zip", .str x tx, .str y ty], []⟩) (fun _ R s =>
      R (.ok (.ret (.ref ((((s.heap.push (siObj x tx)).push (siObj y ty)).push (pairObj (.ref s.heap.objs.size) (.ref (s.heap.push (siObj x tx)).objs.size))).push (pairObj .none .none)).objs.size)))
        { s with heap := ((((s.heap.push (siObj x tx)).push (siObj y ty)).push (pairObj (.ref s.heap.objs.size) (.ref (s.heap.push (siObj x tx)).objs.size))).push (pairObj .none .none)).push (zipObj ((s.heap.push (siObj x tx)).push (siObj y ty)).objs.size (((s.heap.push (siObj x tx)).push (siObj y ty)).push (pairObj (.ref s.heap.objs.size) (.ref (s.heap.push (siObj x tx)).objs.size))).objs.size) }) :=
  .of_wp fun prog w A R s h => by
    obtain ⟨hp, g, d, tk, os⟩ := s
    have hsub := sub_zip
    wp_walk using wpAny_pyIter_ascii ax, wpAny_pyIter_ascii ay
    exact ⟨_, rfl, h⟩
section
variable {prog : Program} {w : World} {A : Around} {E : Value → Shared → Prop} {s : Shared} {g : Heap} {L : Addr} {m : Str → Option Value} {news : Led}
theorem zip_strs_N {x y : Str} {tx ty : Tok} {Q : Value → Shared → Prop} (F : Fr g L s.heap m) (N : News g L s.heap news) (ax : x.cps.all (· < 128) = true) (ay : y.cps.all (· < 128) = true)
    (h : ∀ z TI TO i1 i2 h', ZO z TI TO i1 i2 → Fr g L h' m → News g L h' ([(z, zipObj TI TO), (TI, pairObj (.ref i1) (.ref i2)), (TO, pairObj .none .none), (i1, siObj x tx), (i2, siObj y ty)] ++ news) → (∀ p ∈ news, @LT.lt Nat _ p.1 i1) → Q (.ref z) { s with heap := h' }) :
    wpAny (model prog w) A (call (.type "zip") [.str x tx, .str y ty]) Q E s := by
  refine callType_new PySem.F.called_zip (by decide) (PySem.F.typeCall_zip_2 _ _) (PySem.F.newCall_zip_2 _ _) (fun obj => PySem.F.args_object_init_3 obj _ _) PySem.F.entry_zip_new (meets_zip_strs x y tx ty ax ay) ?_
  have N1 := N.push F (siObj x tx) rfl
  have F1 := F.push (siObj x tx)
  have z1 : (s.heap.push (siObj x tx)).objs.size = s.heap.objs.size + 1 := Heap.size_push ..
  generalize s.heap.push (siObj x tx) = H1 at *
  have N2 := N1.push F1 (siObj y ty) rfl
  have F2 := F1.push (siObj y ty)
  have z2 : (H1.push (siObj y ty)).objs.size = s.heap.objs.size + 2 := by rw [Heap.size_push, z1]
  generalize H1.push (siObj y ty) = H2 at *
  have N3 := N2.push F2 (pairObj (.ref s.heap.objs.size) (.ref H1.objs.size)) rfl
  have F3 := F2.push (pairObj (.ref s.heap.objs.size) (.ref H1.objs.size))
  have z3 : (H2.push (pairObj (.ref s.heap.objs.size) (.ref H1.objs.size))).objs.size = s.heap.objs.size + 3 := by rw [Heap.size_push, z2]
  generalize H2.push (pairObj (.ref s.heap.objs.size) (.ref H1.objs.size)) = H3 at *
  have N4 := N3.push F3 (pairObj .none .none) rfl
  have F4 := F3.push (pairObj .none .none)
  have z4 : (H3.push (pairObj .none .none)).objs.size = s.heap.objs.size + 4 := by rw [Heap.size_push, z3]
  generalize H3.push (pairObj .none .none) = H4 at *
  have N5 := N4.push F4 (zipObj H2.objs.size H3.objs.size) rfl
  have F5 := F4.push (zipObj H2.objs.size H3.objs.size)
  refine ⟨⟨_, (N5 _ (.head _)).1, rfl⟩, h H4.objs.size H2.objs.size H3.objs.size s.heap.objs.size H1.objs.size _ ⟨by omega, by omega, by omega, by omega⟩ F5 (fun p hp => N5 p ?_) fun p hp => Heap.lt_size (N p hp).1⟩
  simp only [List.mem_append, List.mem_cons, List.not_mem_nil, or_false] at hp ⊢
  grind
end
end
section
open PyProof.Rows.LCg
noncomputable abbrev tiO (t : Addr) (i : Nat) : Obj := { cls := .type "tuple_iterator", data := .fields #[.ref t, .int i 0] }
noncomputable abbrev tupO (items : Array Value) : Obj := { cls := .type "tuple", data := .seq items }
section
variable {prog : Program} {w : World} {A : Around} {s : Shared} {target iter elt : Expr} {ifs : List Expr} {scope : Scope} {pos : Pos} {env : Env} {g : Heap} {L : Addr} {m : Str → Option Value} {cl : List (Str × Addr)} {Q E : Value → Shared → Prop}
  {it : Value} {n : Nat} {ia : List Addr} {Its : Nat → Led → Prop} {Bound : Nat → (Str → Option Value) → Prop} {p : Nat → Bool} {G : Nat → Value → Led → Prop} {J nn news : Led}
theorem LcGo_use (hn : n ≤ sizeLine) (F : Fr g L s.heap m) (N : News g L s.heap nn) (hJ : Its 0 J) (hJn : ∀ q ∈ J, q ∈ nn) (hnn : ∀ q ∈ news, q ∈ nn) (hI : ∀ q ∈ news, q.1 ∉ ia)
    (It : ∀ C, CompIt prog w A (compEnvC scope cl C env) g L m target C it n ia Its [] Bound)
    (helt : ∀ C i (s : Shared) oC m₁ (X : Led) (Kt : Value → Shared → Prop) (Ks : Shared → Prop), i < n → Fr g L s.heap m → News g L s.heap ((C, oC) :: (news ++ X)) → NsObj oC m₁ → Bound i m₁ → (∀ q ∈ news ++ X, q.1 ≠ C) →
      (p i = true → ∀ y mk h' tk', G i y mk → (∀ q ∈ mk, ∀ r ∈ (C, oC) :: (news ++ X), @LT.lt Nat _ r.1 q.1) → Fr g L h' m → News g L h' ((C, oC) :: (news ++ (mk ++ X))) → Kt y { s with heap := h', toks := tk' }) →
      (p i = false → ∀ h' tk', Fr g L h' m → News g L h' ((C, oC) :: (news ++ X)) → Ks { s with heap := h', toks := tk' }) →
      wpAny (model prog w) A (compTest ifs (compEnvC scope cl C env)) (fun ok s₄ => if ok = true then wpAny (model prog w) A (eval elt (compEnvC scope cl C env)) Kt NoE s₄ else Ks s₄) NoE s)
    (hQ : ∀ D ys made c h' tk', Res p G n ys made → (∀ q ∈ news, @LT.lt Nat _ q.1 D) → (∀ q ∈ made, @LT.lt Nat _ D q.1) → Fr g L h' m → News g L h' ((D, W.listOf ys.toArray c) :: (news ++ made)) → Q (.ref D) { s with heap := h', toks := tk' }) :
    LcGo prog w A g L m env elt target iter ifs scope cl pos Q it s := by
  refine LcGo_all (J := J) (E0 := news) (X := []) (Src := []) hn F hJ (fun q hq => N q ?_) (fun q hq => hI q (by simpa using hq)) It helt fun D ys made c h' tk' hR h1 h2 F' N' => hQ D ys made c h' tk' hR (fun q hq => h1 q (by simpa using hq)) h2 F' fun q hq => N' q (by simpa using hq)
  simp only [List.append_nil, List.mem_append] at hq
  exact hq.elim (hJn q) (hnn q)
variable {I t l : Addr} {items : Array Value} {c : Nat} {x : Str} {px : Pos}
theorem LcGo_tuple (hn : items.size ≤ sizeLine) (hh : A.handled = none) (F : Fr g L s.heap m) (N : News g L s.heap ((I, tiO t 0) :: news)) (hI : ∀ q ∈ news, q.1 ≠ I) (ht : (t, tupO items) ∈ news) (hk : scope.kind = .function) (hx : scope.names.lookup x = some .local)
    (helt : ∀ C i (s : Shared) oC m₁ (X : Led) (Kt : Value → Shared → Prop) (Ks : Shared → Prop), i < items.size → Fr g L s.heap m → News g L s.heap ((C, oC) :: (news ++ X)) → NsObj oC m₁ → (∃ v, items[i]? = some v ∧ m₁ x = some v) → (∀ q ∈ news ++ X, q.1 ≠ C) →
      (p i = true → ∀ y mk h' tk', G i y mk → (∀ q ∈ mk, ∀ r ∈ (C, oC) :: (news ++ X), @LT.lt Nat _ r.1 q.1) → Fr g L h' m → News g L h' ((C, oC) :: (news ++ (mk ++ X))) → Kt y { s with heap := h', toks := tk' }) →
      (p i = false → ∀ h' tk', Fr g L h' m → News g L h' ((C, oC) :: (news ++ X)) → Ks { s with heap := h', toks := tk' }) →
      wpAny (model prog w) A (compTest ifs (compEnvC scope cl C env)) (fun ok s₄ => if ok = true then wpAny (model prog w) A (eval elt (compEnvC scope cl C env)) Kt NoE s₄ else Ks s₄) NoE s)
    (hQ : ∀ D ys made c h' tk', Res p G items.size ys made → (∀ q ∈ news, @LT.lt Nat _ q.1 D) → (∀ q ∈ made, @LT.lt Nat _ D q.1) → Fr g L h' m → News g L h' ((D, W.listOf ys.toArray c) :: (news ++ made)) → Q (.ref D) { s with heap := h', toks := tk' }) :
    LcGo prog w A g L m env elt (.Name x px) iter ifs scope cl pos Q (.ref I) s := by
  have htI : t ≠ I := hI _ ht
  refine LcGo_use (J := [(I, tiO t 0), (t, tupO items)]) (ia := [I]) (Its := fun i J => CellsP [I, t] (fun h => h.IsTupleIter I t i ∧ h.IsTuple t items) J) (Bound := fun i m₁ => ∃ v, items[i]? = some v ∧ m₁ x = some v) hn F N ⟨rfl, fun h hp => ⟨⟨_, hp _ (.head _), rfl, rfl⟩, ⟨_, hp _ (.tail _ (.head _)), rfl, _, rfl⟩⟩⟩ (fun q hq => ?_) (fun q hq => .tail _ hq) (fun q hq hm => hI q hq (List.mem_singleton.mp hm))
    (fun C => ci_walks (Walks.tuple hh I t htI items) (fun i h st b hb => ?_) hk hx) helt hQ
  · rcases List.mem_cons.mp hq with rfl | hq
    · exact .head _
    · rw [List.mem_singleton.mp hq]; exact .tail _ ht
  · obtain ⟨⟨o1, e1, _⟩, ⟨o2, e2, _⟩⟩ := st
    rcases List.mem_cons.mp hb with rfl | hb
    · exact ⟨o1, e1⟩
    · rw [List.mem_singleton.mp hb]; exact ⟨o2, e2⟩
theorem LcGo_list (hn : items.size ≤ sizeLine) (hh : A.handled = none) (F : Fr g L s.heap m) (N : News g L s.heap ((I, liObj l 0) :: news)) (hI : ∀ q ∈ news, q.1 ≠ I) (ht : (l, W.listOf items c) ∈ news) (hk : scope.kind = .function) (hx : scope.names.lookup x = some .local)
    (helt : ∀ C i (s : Shared) oC m₁ (X : Led) (Kt : Value → Shared → Prop) (Ks : Shared → Prop), i < items.size → Fr g L s.heap m → News g L s.heap ((C, oC) :: (news ++ X)) → NsObj oC m₁ → (∃ v, items[i]? = some v ∧ m₁ x = some v) → (∀ q ∈ news ++ X, q.1 ≠ C) →
      (p i = true → ∀ y mk h' tk', G i y mk → (∀ q ∈ mk, ∀ r ∈ (C, oC) :: (news ++ X), @LT.lt Nat _ r.1 q.1) → Fr g L h' m → News g L h' ((C, oC) :: (news ++ (mk ++ X))) → Kt y { s with heap := h', toks := tk' }) →
      (p i = false → ∀ h' tk', Fr g L h' m → News g L h' ((C, oC) :: (news ++ X)) → Ks { s with heap := h', toks := tk' }) →
      wpAny (model prog w) A (compTest ifs (compEnvC scope cl C env)) (fun ok s₄ => if ok = true then wpAny (model prog w) A (eval elt (compEnvC scope cl C env)) Kt NoE s₄ else Ks s₄) NoE s)
    (hQ : ∀ D ys made c h' tk', Res p G items.size ys made → (∀ q ∈ news, @LT.lt Nat _ q.1 D) → (∀ q ∈ made, @LT.lt Nat _ D q.1) → Fr g L h' m → News g L h' ((D, W.listOf ys.toArray c) :: (news ++ made)) → Q (.ref D) { s with heap := h', toks := tk' }) :
    LcGo prog w A g L m env elt (.Name x px) iter ifs scope cl pos Q (.ref I) s := by
  have htI : l ≠ I := hI _ ht
  refine LcGo_use (J := [(I, liObj l 0), (l, W.listOf items c)]) (ia := [I]) (Its := fun i J => CellsP [I, l] (fun h => h.IsListIter I l i ∧ h.IsList l items) J) (Bound := fun i m₁ => ∃ v, items[i]? = some v ∧ m₁ x = some v) hn F N ⟨rfl, fun h hp => ⟨⟨_, hp _ (.head _), rfl, rfl⟩, ⟨_, hp _ (.tail _ (.head _)), rfl, _, rfl⟩⟩⟩ (fun q hq => ?_) (fun q hq => .tail _ hq) (fun q hq hm => hI q hq (List.mem_singleton.mp hm))
    (fun C => ci_walks (Walks.list hh I l htI items) (fun i h st b hb => ?_) hk hx) helt hQ
  · rcases List.mem_cons.mp hq with rfl | hq
    · exact .head _
    · rw [List.mem_singleton.mp hq]; exact .tail _ ht
  · obtain ⟨⟨o1, e1, _⟩, ⟨o2, e2, _⟩⟩ := st
    rcases List.mem_cons.mp hb with rfl | hb
    · exact ⟨o1, e1⟩
    · rw [List.mem_singleton.mp hb]; exact ⟨o2, e2⟩
theorem pyIter_tupo_N {Q : Value → Shared → Prop} (F : Fr g L s.heap m) (N : News g L s.heap news) (ht : (t, tupO items) ∈ news)
    (h : ∀ I h', Fr g L h' m → News g L h' ((I, tiO t 0) :: news) → (∀ p ∈ news, p.1 < I) → Q (.ref I) { s with heap := h' }) : wpAny (model prog w) A (pyIter (.ref t)) Q E s :=
  wpAny_pyIter_tuple ⟨_, (N _ ht).1, rfl, _, rfl⟩ (h _ _ (F.push _) (N.push F _ rfl) fun p hp => Heap.lt_size (N p hp).1)
end
theorem perm_in {α : Type} {q d c : α} {E X : List α} (h : q ∈ c :: (E ++ ([d] ++ X))) : q ∈ d :: c :: (E ++ X) := by
  simp only [List.mem_append, List.mem_cons, List.not_mem_nil, or_false] at h ⊢
  grind
theorem Res.get {p : Nat → Bool} {G : Nat → Value → Led → Prop} {n : Nat} {ys : List Value} {made : Led} (h : Res p G n ys made) (hp : ∀ i, p i = true) : ys.length = n ∧ ∀ (i : Nat) (y : Value), ys[i]? = some y → ∃ mk, G i y mk ∧ ∀ q ∈ mk, q ∈ made := by
  induction h with
  | nil => exact ⟨rfl, fun i y e => by simp at e⟩
  | skip hq _ _ => rw [hp] at hq; cases hq
  | @take i ys made y mk hq hr g ih =>
    refine ⟨by simp [ih.1], fun j z e => ?_⟩
    rcases Nat.lt_or_ge j ys.length with hj | hj
    · rw [List.getElem?_append_left hj] at e
      obtain ⟨mk', g', h'⟩ := ih.2 j z e
      exact ⟨mk', g', fun q hq => List.mem_append_right _ (h' q hq)⟩
    · have : j = ys.length := by
        have := (List.getElem?_eq_some_iff.mp e).1
        simp at this; omega
      subst this
      rw [List.getElem?_append_right (Nat.le_refl _)] at e
      simp at e
      subst e
      exact ⟨mk, by rw [ih.1]; exact g, fun q hq => List.mem_append_left _ hq⟩
/-- a comprehension that keeps some of the texts -/
theorem Res.strs {xs : List Str} {f : Str → Bool} {n : Nat} {ys : List Value} {made : Led} (h : Res (fun i => f (xs.getD i default)) (fun i y mk => mk = [] ∧ ∃ t, y = .str (xs.getD i default) t) n ys made) (hn : n ≤ xs.length) : made = [] ∧ ∃ l : List (Str × Tok), ys = strValues l ∧ l.map (·.1) = (xs.take n).filter f := by
  induction h with
  | nil => exact ⟨rfl, [], rfl, by simp⟩
  | @skip i ys made hq _ ih =>
    obtain ⟨rfl, l, rfl, e⟩ := ih (by omega)
    refine ⟨rfl, l, rfl, ?_⟩
    have hi : i < xs.length := by omega
    have g : xs.getD i default = xs[i] := by simp [hi]
    rw [g] at hq
    have t1 : xs.take (i + 1) = xs.take i ++ [xs[i]] := by rw [List.take_add_one, List.getElem?_eq_getElem hi]; rfl
    rw [e, t1, List.filter_append, List.filter_cons_of_neg (by rw [hq]; exact Bool.false_ne_true)]
    simp
  | @take i ys made y mk hq _ g ih =>
    obtain ⟨rfl, l, rfl, e⟩ := ih (by omega)
    obtain ⟨rfl, t, rfl⟩ := g
    have hi : i < xs.length := by omega
    have g : xs.getD i default = xs[i] := by simp [hi]
    rw [g] at hq ⊢
    refine ⟨rfl, l ++ [(xs[i], t)], by simp [strValues], ?_⟩
    have t1 : xs.take (i + 1) = xs.take i ++ [xs[i]] := by rw [List.take_add_one, List.getElem?_eq_getElem hi]; rfl
    rw [List.map_append, e, t1, List.filter_append, List.filter_cons_of_pos hq]
    simp
end
section
open PyProof.Rows.LCg
open Sem (wp)
noncomputable abbrev bt (w : World) : Bool := w.params.followText "set-order"
noncomputable abbrev set0 (led : Bool) : Obj := { cls := .type "set", dict := none, data := .set #[] 0 (.fresh 0 0 led) }
noncomputable def T1 (led : Bool) : SetTable := { mask := 7, place := #[1], dummies := #[], finger := 0, led, moves := 0, plain := true }
noncomputable abbrev set1 (led : Bool) : Obj := { cls := .type "set", dict := none, data := .set #[(1, .bool true)] 1 (T1 led) }
section
variable {prog : Program} {w : World} {A : Around} {E : Value → Shared → Prop} {s : Shared} {g : Heap} {L a : Addr} {m : Str → Option Value} {news : Led}
theorem newSet_W {Q : Value → Shared → Prop} (h : Q (.ref s.heap.objs.size) { s with heap := s.heap.push (set0 (!bt w)) }) : wpAny (model prog w) A (newSet (.type "set")) Q E s := by
  unfold newSet setsByText
  refine wpAny_bind (wpAny_bind (wpAny_askSetting (wpAny_pure ?_)))
  exact wpAny_newObj_type h
theorem lay_true (led : Bool) : layNew (.fresh 0 0 led) #[] 1 (.bool true) = (#[(1, .bool true)], T1 led, false, false) := by cases led <;> decide +kernel
theorem pyHash_true {Q : Int → Shared → Prop} (h : ∀ tk, Q 1 { s with toks := tk }) : wpAny (model prog w) A (pyHash (.bool true)) Q E s := by
  unfold pyHash
  have hv : [Value.bool true].any Value.onHeap = false := rfl
  refine wpAny_bind ?_
  rw [cRoomFor, if_neg (by rw [hv]; exact Bool.false_ne_true)]; refine wpAny_pure ?_
  refine wpAny_bind (wpAny_specialOf (PySem.typeIs_bool s true) PySem.F.slot_bool_hash.lookup ?_)
  show wpAny _ _ (if (some (Value.builtin "int.__hash__") == some Value.none) = true then _ else _) Q E s
  rw [if_neg (by rw [beq_builtin_none]; exact Bool.false_ne_true)]
  refine wpAny_bind (wpAny_specialOf (PySem.typeIs_bool s true) PySem.F.slot_bool_hash.lookup ?_)
  show wpAny _ _ (callSpecialIfBoundUnlessNone? (.bool true) "__hash__" _ >>= _) Q E s
  refine wpAny_bind (wpAny_callSpecialIfBoundUnlessNone?_slot (PySem.typeIs_bool s true) PySem.F.slot_bool_hash
    (wpAny_call_entry PySem.F.slot_bool_hash (PySem.typeIs_bool s true) PySem.F.entry_int_hash
      (show wpAny _ _ (do ret (← mkInt 1)) _ _ s from wpAny_ret_mkInt ?_) (PySem.F.args_int_hash_1 _)))
  exact wpAny_pure (h _)
theorem state_set {es : Array (Int × Value)} {ep : Nat} {t : SetTable} {Q : (Array (Int × Value) × Nat × SetTable) → Shared → Prop} (ho : s.heap.get? a = some { cls := .type "set", dict := none, data := .set es ep t }) (hf : t.fits es.size = true) (h : Q (es, ep, t) s) : wpAny (model prog w) A (setState a) Q E s :=
  wpAny_setState_of ho rfl hf h
theorem set_add0 {led : Bool} {Q : Value → Shared → Prop} (ho : s.heap.get? a = some (set0 led)) (h : ∀ h' tk, Heap.SameBut a s.heap h' → h'.get? a = some (set1 led) → Q .none { s with heap := h', toks := tk }) :
    wpAny (model prog w) A (call (.builtin "set.add") [.ref a, .bool true]) Q E s := by
  refine wpAny_call_entry PySem.F.slot_set_add ⟨_, ho, rfl⟩ PySem.F.entry_set_add ?_ (PySem.F.args_set_add_2 _ _)
  unfold Builtin.«set.add» Builtin.Frozenset.oneOther
  simp only [List.isEmpty_nil, bind_assoc]
  unfold Builtin.Frozenset.addrOf setAdd
  refine wpAny_bind (wpAny_pure ?_)
  try dsimp only
  refine wpAny_bind (wpAny_pure ?_)
  try dsimp only
  refine wpAny_bind ?_
  refine wpAny_holding ?_
  refine wpAny_bind (pyHash_true fun tk => ?_)
  unfold setAddHashed
  refine wpAny_holding ?_
  unfold setAddHashedIn
  have hf : (SetTable.fresh 0 0 led).fits (#[] : Array (Int × Value)).size = true := by cases led <;> rfl
  refine wpAny_bind (wpAny_setState_of ho rfl hf ?_)
  dsimp only
  rw [if_pos (by decide +kernel)]
  refine wpAny_bind ?_
  unfold setAddByScan
  refine wpAny_bind (wpAny_rule ?_)
  refine wpAny_bind ?_
  unfold setScan
  dsimp only
  unfold setScanFrom
  refine wpAny_pure ?_
  dsimp only
  refine wpAny_bind (wpAny_pure ?_)
  rw [lay_true]
  dsimp only
  refine wpAny_bind (wpAny_pure ?_)
  simp only [if_true]
  refine wpAny_bind (wpAny_storeSet_of ho rfl ?_ (by decide))
  rw [if_neg (by cases led <;> decide)]
  refine wpAny_pure ?_
  dsimp only
  refine wpAny_pure ?_
  show wpAny _ _ (ret Value.none) _ _ _
  refine wpAny_pure ⟨_, rfl, h _ _ (Heap.SameBut.update ..) ?_⟩
  exact Heap.get?_update_self (Obj.putSet #[(1, .bool true)] (T1 led)) ho rfl
theorem T1_fits (led : Bool) : (T1 led).fits (#[(1, Value.bool true)] : Array (Int × Value)).size = true := by cases led <;> rfl
theorem set_add1 {led : Bool} {Q : Value → Shared → Prop} (ho : s.heap.get? a = some (set1 led)) (h : ∀ tk, Q .none { s with toks := tk }) :
    wpAny (model prog w) A (call (.builtin "set.add") [.ref a, .bool true]) Q E s := by
  refine wpAny_call_entry PySem.F.slot_set_add ⟨_, ho, rfl⟩ PySem.F.entry_set_add ?_ (PySem.F.args_set_add_2 _ _)
  unfold Builtin.«set.add» Builtin.Frozenset.oneOther
  simp only [List.isEmpty_nil, bind_assoc]
  unfold Builtin.Frozenset.addrOf setAdd
  refine wpAny_bind (wpAny_pure ?_)
  try dsimp only
  refine wpAny_bind (wpAny_pure ?_)
  try dsimp only
  refine wpAny_bind ?_
  refine wpAny_holding ?_
  refine wpAny_bind (pyHash_true fun tk => ?_)
  unfold setAddHashed
  refine wpAny_holding ?_
  unfold setAddHashedIn
  refine wpAny_bind (wpAny_setState_of ho rfl (T1_fits led) ?_)
  dsimp only
  rw [if_pos (by decide +kernel)]
  refine wpAny_bind ?_
  unfold setAddByScan
  refine wpAny_bind (wpAny_rule ?_)
  refine wpAny_bind ?_
  unfold setScan
  dsimp only
  unfold setScanFrom
  dsimp only
  rw [if_pos (show ((1 : Int) == 1) = true from rfl)]
  refine wpAny_bind (wpAny_setEpoch_of ho rfl (T1_fits led) ?_)
  refine wpAny_bind (SeqAt.EqAt.bool_bool true true prog w _ _ ?_)
  simp only [beq_self_eq_true, Bool.and_self, if_true]
  refine wpAny_pure ?_
  refine wpAny_pure ?_
  dsimp only
  refine wpAny_pure ?_
  show wpAny _ _ (ret Value.none) _ _ _
  exact wpAny_pure ⟨_, rfl, h _⟩
theorem entry_set_iter : entryFor table "set.__iter__" = some Builtin.«frozenset.__iter__» :=
  entryFor_alias (id' := "frozenset.__iter__") (by kernel_rfl) rfl (by decide +kernel) (by kernel_rfl)
theorem slot_si_next : Slot "set_iterator" "__next__" "set_iterator.__next__" :=
  .of (owner := "set_iterator") (n := "__next__") (by rw [typeLookup_type, builtinLookup_eq_fast]; kernel_rfl) (by decide +kernel) (by decide +kernel) (by decide +kernel)
    (by first | exact .inl (by decide +kernel) | exact .inr (by decide +kernel)) (by rw [isSubtype_type]; kernel_rfl)
theorem entry_si_next : entryFor table "set_iterator.__next__" = some Builtin.«set_iterator.__next__» := entryFor_of_tree (by kernel_rfl)
theorem args_si_next (a : Value) : argsOk "set_iterator.__next__" ⟨[a], []⟩ := by unfold argsOk; kernel_rfl
noncomputable abbrev sitObj (slot i : Nat) (a : Addr) : Obj := { cls := .type "set_iterator", data := .fields #[.int slot 0, .int i 0, .ref a, .int 1 0, .int 1 0] }
theorem pyIter_set1 {led : Bool} {Q : Value → Shared → Prop} (ho : s.heap.get? a = some (set1 led)) (h : Q (.ref s.heap.objs.size) { s with heap := s.heap.push (sitObj 0 0 a) }) :
    wpAny (model prog w) A (pyIter (.ref a)) Q E s := by
  have hT : s.TypeIs (.ref a) "set" := ⟨_, ho, rfl⟩
  refine wpAny_pyIter_slot hT PySem.F.slot_set_iter (wpAny_call_entry PySem.F.slot_set_iter hT entry_set_iter ?_ (PySem.F.args_set_iter_1 _))
  unfold Builtin.«frozenset.__iter__» Builtin.Frozenset.slot0
  refine wpAny_bind (wpAny_bind (m := slotArgs "__iter__" 0 _) (wpAny_pure (wpAny_pure ?_)))
  unfold Builtin.Frozenset.sizeOf setEntries
  refine wpAny_bind (wpAny_bind (wpAny_bind (wpAny_setState_of ho rfl (T1_fits led) (wpAny_pure (wpAny_pure ?_)))))
  refine wpAny_bind ?_
  unfold setDrawn
  refine wpAny_bind (m := setState a) (wpAny_setState_of ho rfl (T1_fits led) ?_)
  dsimp only
  unfold setsByText
  refine wpAny_bind (wpAny_bind (wpAny_askSetting (wpAny_pure ?_)))
  refine wpAny_pure ?_
  refine wpAny_ite_split (fun hab => absurd hab ?_) (fun _ => ?_)
  · show ¬ (!(w.params.followText "set-order") && _) = true
    cases w.params.followText "set-order"
    · exact Bool.false_ne_true
    · exact Bool.false_ne_true
  refine wpAny_bind (wpAny_pure ?_)
  refine wpAny_bind ?_
  unfold setEpoch
  refine wpAny_bind (m := setState a) (wpAny_setState_of ho rfl (T1_fits led) (wpAny_pure ?_))
  refine wpAny_bind (wpAny_newObj_type (wpAny_pure ⟨_, rfl, "set_iterator", _, ⟨_, Heap.get?_push_size _ rfl, rfl⟩, slot_si_next.lookup, h⟩))
theorem setNext_0 {led : Bool} {Q : Option (Value × Nat) → Shared → Prop} (hl : led = !bt w) (ho : s.heap.get? a = some (set1 led)) (h : ∀ slot, (slot = 2 ∨ bt w = true) → Q (some (.bool true, slot)) s) : wpAny (model prog w) A (setNext a 0 0 1) Q E s := by
  unfold setNext
  refine wpAny_bind (m := setState a) (wpAny_setState_of ho rfl (T1_fits led) ?_)
  dsimp only
  unfold setsByText
  refine wpAny_bind (wpAny_bind (wpAny_askSetting (wpAny_pure ?_)))
  refine wpAny_ite_split (fun hb => ?_) (fun hb => ?_)
  · replace hb : bt w = true := hb
    refine wpAny_ite_split (fun hab => absurd hab (show ¬ ((1 : Nat) != 1) = true by decide)) (fun _ => ?_)
    refine wpAny_bind ?_
    unfold setWalk
    refine wpAny_bind (m := setState a) (wpAny_setState_of ho rfl (T1_fits led) ?_)
    dsimp only
    unfold setsByText
    refine wpAny_bind (wpAny_bind (wpAny_askSetting (wpAny_pure ?_)))
    refine wpAny_ite_split (fun _ => ?_) (fun hn => absurd hb hn)
    refine wpAny_bind (wpAny_askSetting (wpAny_pure (wpAny_pure ?_)))
    have : pickOrder (w.params.setOrder a 1) #[((1 : Int), Value.bool true)] = #[((1 : Int), Value.bool true)] := by
      unfold pickOrder pickOrder.go
      simp [Nat.mod_one, pickOrder.go]
    show Q ((pickOrder (w.params.setOrder a 1) #[((1 : Int), Value.bool true)])[0]?.map fun e => (e.2, 0)) s
    rw [this]
    exact h 0 (.inr hb)
  · replace hb : bt w = false := Bool.eq_false_iff.mpr hb
    rw [hb] at hl
    subst hl
    refine wpAny_ite_split (fun hab => absurd hab Bool.false_ne_true) (fun _ => ?_)
    refine wpAny_bind (wpAny_pure (wpAny_pure ?_))
    exact h 2 (.inl rfl)
theorem setNext_1 {led : Bool} {slot : Nat} {Q : Option (Value × Nat) → Shared → Prop} (hs : slot = 2 ∨ bt w = true) (hl : led = !bt w) (ho : s.heap.get? a = some (set1 led)) (h : Q none s) : wpAny (model prog w) A (setNext a slot 1 1) Q E s := by
  unfold setNext
  refine wpAny_bind (m := setState a) (wpAny_setState_of ho rfl (T1_fits led) ?_)
  dsimp only
  unfold setsByText
  refine wpAny_bind (wpAny_bind (wpAny_askSetting (wpAny_pure ?_)))
  refine wpAny_ite_split (fun hb => ?_) (fun hb => ?_)
  · replace hb : bt w = true := hb
    refine wpAny_ite_split (fun hab => absurd hab (show ¬ ((1 : Nat) != 1) = true by decide)) (fun _ => ?_)
    refine wpAny_bind ?_
    unfold setWalk
    refine wpAny_bind (m := setState a) (wpAny_setState_of ho rfl (T1_fits led) ?_)
    dsimp only
    unfold setsByText
    refine wpAny_bind (wpAny_bind (wpAny_askSetting (wpAny_pure ?_)))
    refine wpAny_ite_split (fun _ => ?_) (fun hn => absurd hb hn)
    refine wpAny_bind (wpAny_askSetting (wpAny_pure (wpAny_pure ?_)))
    have : pickOrder (w.params.setOrder a 1) #[((1 : Int), Value.bool true)] = #[((1 : Int), Value.bool true)] := by
      unfold pickOrder pickOrder.go
      simp [Nat.mod_one, pickOrder.go]
    show Q ((pickOrder (w.params.setOrder a 1) #[((1 : Int), Value.bool true)])[1]?.map fun e => (e.2, slot)) s
    rw [this]
    exact h
  · replace hb : bt w = false := Bool.eq_false_iff.mpr hb
    have hs' : slot = 2 := hs.resolve_right (by rw [hb]; exact Bool.false_ne_true)
    subst hs'
    rw [hb] at hl
    subst hl
    refine wpAny_ite_split (fun hab => absurd hab Bool.false_ne_true) (fun _ => ?_)
    refine wpAny_bind (wpAny_pure (wpAny_pure ?_))
    exact h
theorem pyNext_set1_item {led : Bool} {I : Addr} {Q : Option Value → Shared → Prop} (hl : led = !bt w) (ho : s.heap.get? a = some (set1 led)) (hI : s.heap.get? I = some (sitObj 0 0 a))
    (h : ∀ h' slot, (slot = 2 ∨ bt w = true) → h'.get? I = some (sitObj slot 1 a) → Heap.SameBut I s.heap h' → Q (some (.bool true)) { s with heap := h' }) : wpAny (model prog w) A (pyNext (.ref I)) Q E s := by
  have hT : s.TypeIs (.ref I) "set_iterator" := ⟨_, hI, rfl⟩
  unfold pyNext
  refine wpAny_bind (wpAny_attempt (wpAny_callSpecial?_slot (name := Str.ofString "__next__") hT slot_si_next
    (wpAny_call_entry slot_si_next hT entry_si_next ?_ (args_si_next _))))
  unfold Builtin.«set_iterator.__next__»
  refine wpAny_bind (m := slotArgs "__next__" 0 _) (wpAny_pure ?_)
  refine wpAny_bind (wpAny_fieldsOf hI rfl ?_)
  dsimp only
  unfold setEntries
  refine wpAny_bind (wpAny_bind (wpAny_setState_of ho rfl (T1_fits led) (wpAny_pure ?_)))
  refine wpAny_ite_split (fun hab => absurd hab (show ¬ ((1 : Int) != 1) = true by decide)) (fun _ => ?_)
  refine wpAny_bind (m := setNext a 0 0 1) (setNext_0 hl ho fun slot hs => ?_)
  dsimp only
  refine wpAny_bind (wpAny_setField_rec hI (by simp) fun h₁ e₁ s₁ => ?_)
  refine wpAny_bind (wpAny_setField_rec e₁ (by simp) fun h₂ e₂ s₂ => ?_)
  exact wpAny_pure ⟨_, rfl, wpAny_pure (h h₂ slot hs e₂ (s₁.trans s₂))⟩
theorem pyNext_set1_end {led : Bool} {I : Addr} {slot : Nat} {Q : Option Value → Shared → Prop} (hh : A.handled = none) (hs : slot = 2 ∨ bt w = true) (hl : led = !bt w) (ho : s.heap.get? a = some (set1 led)) (hI : s.heap.get? I = some (sitObj slot 1 a))
    (h : ∀ h', Heap.ExtBut I s.heap h' → Q none { s with heap := h' }) : wpAny (model prog w) A (pyNext (.ref I)) Q E s := by
  have hT : s.TypeIs (.ref I) "set_iterator" := ⟨_, hI, rfl⟩
  unfold pyNext
  refine wpAny_bind (wpAny_attempt (wpAny_callSpecial?_slot (name := Str.ofString "__next__") hT slot_si_next
    (wpAny_call_entry slot_si_next hT entry_si_next ?_ (args_si_next _))))
  unfold Builtin.«set_iterator.__next__»
  refine wpAny_bind (m := slotArgs "__next__" 0 _) (wpAny_pure ?_)
  refine wpAny_bind (wpAny_fieldsOf hI rfl ?_)
  dsimp only
  unfold setEntries
  refine wpAny_bind (wpAny_bind (wpAny_setState_of ho rfl (T1_fits led) (wpAny_pure ?_)))
  refine wpAny_ite_split (fun hab => absurd hab (show ¬ ((1 : Int) != 1) = true by decide)) (fun _ => ?_)
  refine wpAny_bind (m := setNext a slot 1 1) (setNext_1 hs hl ho ?_)
  dsimp only
  refine wpAny_bind (wpAny_setField hI rfl (by simp) ?_)
  show wpAny _ _ (newExc (.type "StopIteration") [] >>= _) _ _ _
  refine wpAny_bind ?_
  simp only [newExc, newTuple]
  refine wpAny_bind (wpAny_newObj_type ?_ (by size_fits))
  refine wpAny_bind (m := firstArgMember _ _) (wpAny_of_eq (a := Value.none) (by first | rfl | (simp only [firstArgMember]; rfl)) ?_)
  refine wpAny_newObj_type ?_ (by size_fits)
  simp only [raiseNew]
  refine wpAny_bind (wpAny_handled ?_)
  first | rw [show A.in1.handled = none from hh] | rw [hh]
  refine wpAny_bind (wpAny_pure (wpAny_throw ?_))
  refine wpAny_bind (wpAny_isInstance (T := "StopIteration") (b := true) ⟨_, Heap.get?_push_size _ rfl, rfl⟩ isSubtype_stop ?_)
  exact wpAny_pure (h _ (((Heap.SameBut.update ..).extBut.push _).push _))
theorem unpack_set1 {led : Bool} {Q : List Value → Shared → Prop} (hh : A.handled = none) (hl : led = !bt w) (ho : s.heap.get? a = some (set1 led)) (h : ∀ h', (∀ b o, s.heap.get? b = some o → h'.get? b = some o) → Q [.bool true] { s with heap := h' }) : wpAny (model prog w) A (unpackItems (.ref a) 1 none) Q E s := by
  have hT : s.TypeIs (.ref a) "set" := ⟨_, ho, rfl⟩
  unfold unpackItems
  refine wpAny_bind ?_
  unfold notIterableAtAll
  refine wpAny_bind (wpAny_specialOf (name := Str.ofString "__iter__") hT PySem.F.slot_set_iter.lookup ?_)
  refine wpAny_pure ?_
  rw [if_neg (by decide)]
  refine wpAny_bind (wpAny_holding (pyIter_set1 ho ?_))
  have old : ∀ b o, s.heap.get? b = some o → (s.heap.push (sitObj 0 0 a)).get? b = some o ∧ b ≠ s.heap.objs.size := fun b o e => ⟨Heap.get?_push_of_some _ e, Nat.ne_of_lt (Heap.lt_size e)⟩
  dsimp only
  refine wpAny_bind (wpAny_holding ?_)
  unfold draw
  refine wpAny_bind (pyNext_set1_item hl (old _ _ ho).1 (Heap.get?_push_size _ rfl) fun h₁ slot hs e₁ s₁ => ?_)
  refine wpAny_bind (wpAny_holding ?_)
  unfold draw
  refine wpAny_pure (wpAny_pure ?_)
  rw [if_neg (by decide)]
  have k1 : ∀ b o, s.heap.get? b = some o → h₁.get? b = some o := fun b o e => s₁.extBut _ _ (old b o e).2 (old b o e).1
  refine wpAny_bind (wpAny_holding (pyNext_set1_end hh hs hl (k1 _ _ ho) e₁ fun h₂ s₂ => ?_))
  rw [if_neg (by decide)]
  exact wpAny_pure (h h₂ fun b o e => s₂ _ _ (old b o e).2 (k1 b o e))
end
end
section
open PyProof.Rows.LCg
theorem compTurn_set (elt target iter : Expr) (ifs : List Expr) (scope : Scope) (pos : Pos) (it acc : Value) (env : Env) :
    compTurn (.SetComp elt [⟨target, iter, ifs, 0⟩] scope pos) 0 it acc env = (do
      standAt iter.pos
      match ← pyNext it with
      | none => pure (.done .next)
      | some v =>
        letOwnedTupleGo target it v
        assign target env v
        let mut ok := true
        for c in ifs do
          if ok then ok ← isTrue c env (eval c env)
        if ok then
          (do let v ← eval elt env; standAt elt.pos; let _ ← call (.builtin "set.add") [acc, v])
        again (.compLoop (.SetComp elt [⟨target, iter, ifs, 0⟩] scope pos) 0 it acc env)) := by rfl
section
variable {prog : Program} {w : World} {A : Around} {s : Shared} {target iter elt : Expr} {ifs : List Expr} {scope : Scope} {pos : Pos} {it acc : Value} {env : Env} {R : Result → Shared → Prop}
theorem set_turnK (h : wpAny (model prog w) A (pyNext it) (NextK prog w A it target (fun s => R (.ok .next) s)
    (fun v s₂ => wpAny (model prog w) A (assign target env v) (fun _ s₃ => wpAny (model prog w) A (compTest ifs env) (fun ok s₄ =>
      if ok = true then wpAny (model prog w) A (eval elt env) (fun x s₅ => wpAny (model prog w) A (call (.builtin "set.add") [acc, x]) (fun _ s₆ => codeAny (model prog w) A (.compLoop (.SetComp elt [⟨target, iter, ifs, 0⟩] scope pos) 0 it acc env) R s₆) NoE s₅) NoE s₄
      else codeAny (model prog w) A (.compLoop (.SetComp elt [⟨target, iter, ifs, 0⟩] scope pos) 0 it acc env) R s₄) NoE s₃) NoE s₂)) NoE s) :
    codeAny (model prog w) A (.compLoop (.SetComp elt [⟨target, iter, ifs, 0⟩] scope pos) 0 it acc env) R s := by
  refine codeAny_of_tree ?_
  rw [Around.under_of_weight (show Code.weight _ = 0 from rfl) rfl]
  show wpAny _ A ((compTurn (.SetComp elt [⟨target, iter, ifs, 0⟩] scope pos) 0 it acc env).onRaise _) _ _ s
  refine wpAny_onRaise ?_
  rw [compTurn_set]
  refine wpAny_bind (wpAny_standAt (wpAny_bind (wpAny_mono h (fun r s₁ z => ?_) fun _ _ x => x.elim)))
  cases r with
  | none => exact wpAny_pure z
  | some v =>
    refine wpAny_bind (wpAny_mono z (fun _ s₂ z => ?_) fun _ _ x => x.elim)
    refine wpAny_bind (wpAny_mono z (fun _ s₃ z => ?_) fun _ _ x => x.elim)
    refine wpAny_bind (wpAny_mono z (fun ok s₄ z => ?_) fun _ _ x => x.elim)
    cases ok with
    | false => exact wpAny_pure ⟨rfl, z⟩
    | true => exact wpAny_bind (wpAny_bind (wpAny_mono z (fun x s₅ z => wpAny_bind (wpAny_standAt (wpAny_bind (wpAny_mono z (fun _ s₆ z => wpAny_pure (wpAny_pure ⟨rfl, z⟩)) fun _ _ x => x.elim)))) fun _ _ x => x.elim))
theorem set_start {rest : List Comprehension}
    (h0 : codeAny (model prog w) A (.compLoop (.SetComp elt (⟨target, iter, ifs, 0⟩ :: rest) scope pos) 0 it acc env) R s)
    (h : wpAny (model prog w) A (pyIter it) (fun it' s' => codeAny (model prog w) A (.compLoop (.SetComp elt (⟨target, iter, ifs, 0⟩ :: rest) scope pos) 0 it' acc env) R s')
      (notedBy (model prog w) A env fun x s' => R (.error x) s') s) :
    codeAny (model prog w) A (.compStart (.SetComp elt (⟨target, iter, ifs, 0⟩ :: rest) scope pos) 0 it acc env) R s := by
  refine codeAny_of_tree ?_
  show wpAny _ _ ((compStart (.SetComp elt (⟨target, iter, ifs, 0⟩ :: rest) scope pos) 0 it acc env).onRaise (fun x => do noteFrame x env; standAt theWindowsPlace)) _ _ s
  refine wpAny_notedAt ?_
  unfold compStart
  show wpAny _ _ (ask >>= _) _ _ s
  refine wpAny_bind (wpAny_askSetting (wpAny_ite ?_))
  split
  · first
      | exact wpAny_bind (wpAny_pure (wpAny_pure (And.intro rfl h0)))
      | exact wpAny_pure (And.intro rfl h0)
  · first
      | exact wpAny_bind (wpAny_rule (wpAny_bind (wpAny_standAt (wpAny_bind (wpAny_mono h (fun it' s' h' => wpAny_pure (And.intro rfl h')) fun _ _ x => x)))))
      | (refine wpAny_bind (wpAny_rule ?_); show wpAny _ _ (standAt iter.pos >>= _) _ _ s; exact wpAny_bind (wpAny_standAt (wpAny_bind (wpAny_mono h (fun it' s' h' => wpAny_pure (And.intro rfl h')) fun _ _ x => x))))
end
noncomputable def ScGo (prog : Program) (w : World) (A : Around) (h₀ : Heap) (L : Addr) (m : Str → Option Value) (env : Env) (elt target iter : Expr) (ifs : List Expr) (scope : Scope) (cl : List (Str × Addr)) (pos : Pos) (Q : Value → Shared → Prop) (it : Value) (s₂ : Shared) : Prop :=
  ∃ news, Fr h₀ L s₂.heap m ∧ News h₀ L s₂.heap news ∧ (∀ (s' : Shared) (Q' : Value → Shared → Prop) (E' : Value → Shared → Prop), (∀ p ∈ news, s'.heap.get? p.1 = some p.2) → Q' it s' → wpAny (model prog w) A (pyIter it) Q' E' s') ∧
    ∀ D C oC m₀ h tk, NsObj oC m₀ → Fr h₀ L h m → News h₀ L h ((C, oC) :: (D, set0 (!bt w)) :: news) → @LT.lt Nat _ D C → (∀ p ∈ news, p.1 < D) →
      codeAny (model prog w) A (.compLoop (.SetComp elt [⟨target, iter, ifs, 0⟩] scope pos) 0 it (.ref D) (compEnvC scope cl C env)) (LcEnd h₀ L m C (Q (.ref D))) { s₂ with heap := h, toks := tk }
section
variable {prog : Program} {w : World} {A : Around} {s : Shared} {target iter elt : Expr} {ifs : List Expr} {scope : Scope} {pos : Pos} {env : Env} {h₀ : Heap} {L : Addr} {m : Str → Option Value} {cl : List (Str × Addr)} {Q E : Value → Shared → Prop}
theorem sc_enter (_F₀ : Fr h₀ L s.heap m) (hclos : closureFor scope env = pure cl) (hcell : ∀ y ∈ scope.names, y.2 ≠ .cell) (hkind : scope.kind = .function)
    (hnames : ∀ y ∈ scope.names, y.2 = .local → scope.names.lookup y.1 = some .local)
    (h : wpAny (model prog w) A (eval iter env) (fun x s₁ => wpAny (model prog w) A (pyIter x) (ScGo prog w A h₀ L m env elt target iter ifs scope cl pos Q) E s₁) E s)
    (hs : ∀ x, foldedSetIterable iter env x = pure x := by intro _; rfl) :
    wpAny (model prog w) A (eval (.SetComp elt [⟨target, iter, ifs, 0⟩] scope pos) env) Q E s := by
  rw [arm_eval_SetComp]
  refine wpAny_comprehension_free (use := none) rfl hs hclos hkind hnames (wpAny_mono h (fun xv s₁ h₁ => wpAny_mono h₁ (fun it s₂ z => ?_) fun _ _ e => e) fun _ _ e => e)
  obtain ⟨news, F, N, hself, go⟩ := z
  refine newSet_W (wpAny_newFunctionEnv hcell (by intro y hy; simp at hy) (fun h₁ hns₁ hsb₁ => ?_) hkind)
  dsimp only at hns₁ hsb₁ ⊢
  generalize hH2 : s₂.heap.push (set0 (!bt w)) = H2 at hns₁ hsb₁ ⊢
  have hC : H2.objs.size = s₂.heap.objs.size + 1 := by rw [← hH2, Heap.size_push]
  have hDC : s₂.heap.objs.size ≠ H2.objs.size := by rw [hC]; exact Nat.ne_of_lt (Nat.lt_succ_self _)
  have below : ∀ b, b < s₂.heap.objs.size → b ≠ H2.objs.size ∧ b ≠ s₂.heap.objs.size := fun b hb => ⟨by rw [hC]; exact Nat.ne_of_lt (Nat.lt_succ_of_lt hb), Nat.ne_of_lt hb⟩
  have old : ∀ b o, s₂.heap.get? b = some o → h₁.get? b = some o := fun b o e => hsb₁.extBut b o (below b (Heap.lt_size e)).1 (Heap.get?_push_of_some _ (hH2 ▸ Heap.get?_push_of_some _ e))
  have hacc : h₁.get? s₂.heap.objs.size = some (set0 (!bt w)) := hsb₁.extBut _ _ hDC (Heap.get?_push_of_some _ (hH2 ▸ Heap.get?_push_size _ rfl))
  have fresh₀ : ∀ a, s₂.heap.objs.size ≤ a → h₀.get? a = none := fun a ha => by
    cases e : h₀.get? a with
    | none => rfl
    | some o' => exact absurd (Heap.lt_size (F.keep a o' e)) (Nat.not_lt.mpr ha)
  have hLlt : L < s₂.heap.objs.size := F.ns.lt
  obtain ⟨oC, heC, hoC⟩ := ns_obj hns₁
  have N₁ : News h₀ L h₁ ((H2.objs.size, oC) :: (s₂.heap.objs.size, set0 (!bt w)) :: news) := fun p hp => by
    rcases List.mem_cons.mp hp with rfl | hp
    · exact ⟨heC, Ne.symm (below L hLlt).1, fresh₀ _ (by rw [hC]; exact Nat.le_succ _)⟩
    rcases List.mem_cons.mp hp with rfl | hp
    · exact ⟨hacc, Ne.symm (below L hLlt).2, fresh₀ _ (Nat.le_refl _)⟩
    · exact ⟨old _ _ (N p hp).1, (N p hp).2⟩
  have loop := fun tk => go s₂.heap.objs.size H2.objs.size oC _ h₁ tk hoC (F.keeps old) N₁ (by rw [hC]; exact Nat.lt_succ_self _) (fun p hp => Heap.lt_size (N p hp).1)
  have fin : ∀ r s', LcEnd h₀ L m H2.objs.size (Q (.ref s₂.heap.objs.size)) r s' → compPost (model prog w) A E none Q (.ref s₂.heap.objs.size) H2.objs.size r s' := fun r s' z => by
    obtain ⟨rfl, oC', m', news', hN, NN, ne, FF, K⟩ := z
    refine ⟨m', hN.ns (NN _ (.head _)).1, fun h'' hs'' => K h'' (FF.change hs'' (NN _ (.head _)).2.1 (NN _ (.head _)).2.2) fun p hp => ?_⟩
    exact ⟨hs''.extBut _ _ (ne p hp) (NN p (.tail _ hp)).1, (NN p (.tail _ hp)).2⟩
  exact set_start (codeAny_mono (loop _) fin) (hself _ _ _ (fun p hp => old _ _ (N p hp).1) (codeAny_mono (loop _) fin))
end
section
variable {prog : Program} {w : World} {A : Around} {s : Shared} {iter elt : Expr} {scope : Scope} {pos px : Pos} {env : Env} {g : Heap} {L : Addr} {m : Str → Option Value} {cl : List (Str × Addr)} {Q E : Value → Shared → Prop} {I t : Addr} {items : Array Value} {x : Str} {news : Led}
theorem ScGo_tuple (hn : 0 < items.size) (hh : A.handled = none) (F : Fr g L s.heap m) (N : News g L s.heap ((I, tiO t 0) :: news)) (hI : ∀ q ∈ news, q.1 ≠ I) (ht : (t, tupO items) ∈ news) (hk : scope.kind = .function) (hx : scope.names.lookup x = some .local)
    (helt : ∀ C i (s : Shared) oC m₁ (X : Led) (Kt : Value → Shared → Prop), i < items.size → Fr g L s.heap m → News g L s.heap ((C, oC) :: (news ++ X)) → NsObj oC m₁ → (∃ v, items[i]? = some v ∧ m₁ x = some v) → (∀ q ∈ news ++ X, q.1 ≠ C) →
      (∀ h' tk', Fr g L h' m → News g L h' ((C, oC) :: (news ++ X)) → Kt (.bool true) { s with heap := h', toks := tk' }) →
      wpAny (model prog w) A (eval elt (compEnvC scope cl C env)) Kt NoE s)
    (hQ : ∀ D h' tk', (∀ q ∈ news, @LT.lt Nat _ q.1 D) → Fr g L h' m → News g L h' ((D, set1 (!bt w)) :: news) → Q (.ref D) { s with heap := h', toks := tk' }) :
    ScGo prog w A g L m env elt (.Name x px) iter [] scope cl pos Q (.ref I) s := by
  have htI : t ≠ I := hI _ ht
  have It : ∀ C, CompIt prog w A (compEnvC scope cl C env) g L m (.Name x px) C (.ref I) items.size [I] (fun i J => CellsP [I, t] (fun h => h.IsTupleIter I t i ∧ h.IsTuple t items) J) [] (fun i m₁ => ∃ v, items[i]? = some v ∧ m₁ x = some v) := fun C =>
    ci_walks (Walks.tuple hh I t htI items) (fun i h st b hb => by
      obtain ⟨⟨o1, e1, _⟩, ⟨o2, e2, _⟩⟩ := st
      rcases List.mem_cons.mp hb with rfl | hb
      · exact ⟨o1, e1⟩
      · rw [List.mem_singleton.mp hb]; exact ⟨o2, e2⟩) hk hx
  refine ⟨(I, tiO t 0) :: news, F, N, fun s' Q' E' k q => (It 0).self _ [(I, tiO t 0), (t, tupO items)] _ _ ⟨rfl, fun h hp => ⟨⟨_, hp _ (.head _), rfl, rfl⟩, ⟨_, hp _ (.tail _ (.head _)), rfl, _, rfl⟩⟩⟩ (fun p hp => k p ?_) q, fun D C oC m₀ h tk hO F₁ N₁ hDC hlt => ?_⟩
  · rcases List.mem_cons.mp hp with rfl | hp
    · exact .head _
    · rw [List.mem_singleton.mp hp]; exact .tail _ ht
  have nC : ∀ q ∈ (I, tiO t 0) :: news, q.1 ≠ C := fun q hq => Nat.ne_of_lt (Nat.lt_trans (hlt q hq) hDC)
  have nD : ∀ q ∈ (I, tiO t 0) :: news, q.1 ≠ D := fun q hq => Nat.ne_of_lt (hlt q hq)
  have hCD : C ≠ D := Nat.ne_of_gt hDC
  have fpJ : ∀ i J, CellsP [I, t] (fun h => h.IsTupleIter I t i ∧ h.IsTuple t items) J → ∀ q ∈ J, q.1 = I ∨ q.1 = t := fun i J hJ q hq => by
    have := hJ.fp hq
    simpa using this
  refine gcomp (ifs := []) (s := s) (Lp := fun s => codeAny (model prog w) A (.compLoop (.SetComp elt [⟨.Name x px, iter, [], 0⟩] scope pos) 0 (.ref I) (.ref D) (compEnvC scope cl C env)) (LcEnd g L m C (Q (.ref D))) s)
    (Emit := fun K s₄ => wpAny (model prog w) A (eval elt (compEnvC scope cl C env)) (fun x s₅ => wpAny (model prog w) A (call (.builtin "set.add") [.ref D, x]) (fun _ s₆ => K s₆) NoE s₅) NoE s₄)
    (Kn := fun s' => LcEnd g L m C (Q (.ref D)) (.ok .next) s')
    (Inv := fun i Z => Z = (D, if i = 0 then set0 (!bt w) else set1 (!bt w)) :: news) (X := []) (It C) (fun s' z => set_turnK z) (fun i J hJ q hq => ?_) (by simp) ?_ ?_ items.size 0 [(I, tiO t 0), (t, tupO items)] ((D, set0 (!bt w)) :: news) h tk oC m₀ rfl (Nat.zero_le _) ⟨rfl, fun h hp => ⟨⟨_, hp _ (.head _), rfl, rfl⟩, ⟨_, hp _ (.tail _ (.head _)), rfl, _, rfl⟩⟩⟩ rfl F₁ (fun q hq => N₁ q ?_) (fun q hq => ?_) hO
  · rcases fpJ i J hJ q (by simpa using hq) with e | e
    · rw [e]; exact nC (I, tiO t 0) (.head _)
    · rw [e]; exact nC (t, tupO items) (.tail _ ht)
  · intro i Z h₁ tk₁ oC₁ m₁ X' hi hZ9 F' N' hC' hZ8 hO' hB K
    subst hZ9
    obtain ⟨J', hJ', rfl⟩ := hZ8
    refine wpAny_tests_nil ?_
    rw [if_pos rfl]
    refine helt C i { s with heap := h₁, toks := tk₁ } oC₁ m₁ ((D, if i = 0 then set0 (!bt w) else set1 (!bt w)) :: (J' ++ [])) _ hi F' (fun q hq => N' q ?_) hO' hB (fun q hq => hC' q ?_) fun h₂ tk₂ F2 N2 => ?_
    · simp only [List.mem_cons, List.mem_append, List.cons_append] at hq ⊢; grind
    · simp only [List.mem_cons, List.mem_append, List.cons_append] at hq ⊢; grind
    have ND := N2 (D, if i = 0 then set0 (!bt w) else set1 (!bt w)) (.tail _ (List.mem_append_right _ (.head _)))
    have ne : ∀ q ∈ (C, oC₁) :: (news ++ (J' ++ [])), q.1 ≠ D := fun q hq => by
      rcases List.mem_cons.mp hq with rfl | hq
      · exact hCD
      rcases List.mem_append.mp hq with hq | hq
      · exact nD q (.tail _ hq)
      · rcases fpJ _ J' hJ' q (by simpa using hq) with e | e
        · rw [e]; exact nD (I, tiO t 0) (.head _)
        · rw [e]; exact nD (t, tupO items) (.tail _ ht)
    have fin : ∀ h₃ tk₃, (∀ b o, b ≠ D → h₂.get? b = some o → h₃.get? b = some o) → h₃.get? D = some (set1 (!bt w)) →
        codeAny (model prog w) A (.compLoop (.SetComp elt [⟨.Name x px, iter, [], 0⟩] scope pos) 0 (.ref I) (.ref D) (compEnvC scope cl C env)) (LcEnd g L m C (Q (.ref D))) { s with heap := h₃, toks := tk₃ } := fun h₃ tk₃ hk₃ hD₃ => by
      refine K ((D, set1 (!bt w)) :: news) h₃ tk₃ (by simp) (fun q hq => .inl ?_) (Fr_chg F2 (ws := [D]) (fun b o hb e => hk₃ b o (by simpa using hb) e) (by simpa using Ne.symm ND.2.1) (fun b hb => by rw [List.mem_singleton.mp hb]; exact ND.2.2)) fun q hq => ?_
      · rcases List.mem_cons.mp hq with rfl | hq
        · exact ⟨_, .head _, rfl⟩
        · exact ⟨q, .tail _ hq, rfl⟩
      · have : q = (D, set1 (!bt w)) ∨ q ∈ (C, oC₁) :: (news ++ (J' ++ [])) := by
          simp only [List.mem_cons, List.mem_append, List.cons_append] at hq ⊢; grind
        rcases this with rfl | hq'
        · exact ⟨hD₃, ND.2⟩
        · have Nq := N2 q (by simp only [List.mem_cons, List.mem_append, List.cons_append] at hq' ⊢; grind)
          exact ⟨hk₃ _ _ (ne q hq') Nq.1, Nq.2⟩
    by_cases h0 : i = 0
    · rw [if_pos h0] at ND
      exact set_add0 ND.1 fun h₃ tk₃ hs hD₃ => fin h₃ tk₃ (fun b o hb e => hs.extBut b o hb e) hD₃
    · rw [if_neg h0] at ND
      exact set_add1 ND.1 fun tk₃ => fin h₂ tk₃ (fun b o hb e => e) ND.1
  · rintro Z h₁ tk₁ oC₁ m₁ rfl hO' F' N' hC'
    rw [if_neg (Nat.ne_of_gt hn)] at N'
    refine ⟨rfl, oC₁, m₁, (D, set1 (!bt w)) :: news, hO', fun q hq => N' q (by simpa using hq), fun q hq => ?_, F', fun h'' F'' N'' => hQ D h'' tk₁ (fun q hq => hlt q (.tail _ hq)) F'' N''⟩
    rcases List.mem_cons.mp hq with rfl | hq
    · exact hCD.symm
    · exact nC q (.tail _ hq)
  · simp only [List.mem_append, List.mem_cons, List.not_mem_nil, or_false, List.append_nil] at hq ⊢
    grind
  · rcases List.mem_cons.mp hq with rfl | hq
    · exact ⟨hCD.symm, fun hm => nD (I, tiO t 0) (.head _) (List.mem_singleton.mp hm).symm⟩
    · exact ⟨nC q (.tail _ hq), fun hm => hI q hq (List.mem_singleton.mp hm)⟩
end
end
section
open PyProof.Rows.LCg
section
variable {prog : Program} {w : World} {A : Around} {s : Shared} {env : Env} {g : Heap} {L D : Addr} {m : Str → Option Value} {news : Led} {Q : Unit → Shared → Prop} {E : Value → Shared → Prop} {y : Str} {py tp : Pos} {kk : Nat}
theorem asg_set1 (hh : A.handled = none) (F : Fr g L s.heap m) (N : News g L s.heap news) (hD : (D, set1 (!bt w)) ∈ news) (hL : env.locals = L) (hy : env.kindOf y = some .local) (hp : (env.scope.kind == .class || (env.scope.kind == .module && env.locals != env.globals)) = false)
    (h : ∀ h' tk', Fr g L h' (fun z => if z = y then some (.bool true) else m z) → News g L h' news → Q () { s with heap := h', toks := tk' }) :
    wpAny (model prog w) A (assign (.Tuple [.Name y py] kk tp) env (.ref D)) Q E s := by
  show wpAny _ _ (do standAt tp; unpack (.ref D) (assignEach [.Name y py] env)) _ _ _
  refine wpAny_bind (wpAny_standAt ?_)
  unfold unpack
  refine wpAny_bind (wpAny_holding ?_)
  show wpAny _ _ (unpackItems (.ref D) 1 none) _ _ _
  refine unpack_set1 hh rfl (N _ hD).1 fun h₁ hk => ?_
  show wpAny _ _ (do holding [] (assign (.Name y py) env (.bool true)); pure ()) _ _ _
  have F1 : Fr g L h₁ m := F.keeps hk
  refine wpAny_bind (wpAny_holding (wpAny_assign_Name (wpAny_storeName_local hy (hL ▸ F1.ns) (fun h₂ hn hs => wpAny_pure ?_) hp)))
  rw [hL] at hn hs
  exact h h₂ _ (F1.set hn hs) fun p hp => ⟨(hs.2 _ (N p hp).2.1).trans (hk _ _ (N p hp).1), (N p hp).2⟩
end
end
section
open AutoSeq1 (wpAny_loadPart')
open MeetsSeq MeetsSeq2 MeetsSeq3
noncomputable def ltS (x y : Str) : Bool := decide (x.cps.toList < y.cps.toList)
noncomputable def ltL : List Str → List Str → Bool
  | [], [] => false
  | [], _ :: _ => true
  | _ :: _, [] => false
  | x :: xs, y :: ys => if x = y then ltL xs ys else ltS x y
section
variable {prog : Program} {w : World} {A : Around} {E : Value → Shared → Prop} {s : Shared} {a b : Addr} {l1 l2 : List (Str × Tok)} {n1 n2 : Nat}
theorem loop_lt (h1 : s.heap.get? a = some (W.listOf (strValues l1).toArray n1)) (h2 : s.heap.get? b = some (W.listOf (strValues l2).toArray n2)) (k : Nat) : ∀ (i : Nat), l1.length - i = k → i ≤ l1.length → i ≤ l2.length →
    ∀ R : Result → Shared → Prop, R (.ok (.ret (.bool (ltL ((l1.drop i).map (·.1)) ((l2.drop i).map (·.1)))))) s → codeAny (model prog w) A (.builtin "list.__eq__.loop" ⟨[.ref a, .ref b, rawInt i, rawInt 0], []⟩) R s := by
  induction k with
  | zero =>
    intro i hk hi1 hi2 R h
    obtain rfl : i = l1.length := by omega
    refine codeAny_builtin entry_eq_loop ?_
    rw [Around.under_plainId plain_eq_loop _]
    obtain ⟨hp, g, d, tk, os⟩ := s
    wp_walk using wpAny_loadPart' h1, wpAny_loadPart' h2
    have e1 : (strValues l1).toArray[((l1.length : Nat) : Int).toNat]? = none := by simp [strValues]
    rw [e1]
    wp_walk using wpAny_loadPart' h1, wpAny_loadPart' h2
    rw [List.drop_of_length_le (Nat.le_refl _)] at h
    show R (.ok (.ret (.bool (decide ((strValues l1).toArray.size < (strValues l2).toArray.size))))) _
    cases e : l2.drop l1.length with
    | nil =>
      have hl : l2.length ≤ l1.length := by have := congrArg List.length e; simp at this; omega
      rw [e] at h
      rw [decide_eq_false (by simp [strValues]; omega)]
      exact h
    | cons p r =>
      have hl : l1.length < l2.length := by have := congrArg List.length e; simp at this; omega
      rw [e] at h
      rw [decide_eq_true (by simp [strValues]; omega)]
      exact h
  | succ k ih =>
    intro i hk hi1 hi2 R h
    have hlt : i < l1.length := by omega
    refine codeAny_builtin entry_eq_loop ?_
    rw [Around.under_plainId plain_eq_loop _]
    obtain ⟨hp, g, d, tk, os⟩ := s
    wp_walk using wpAny_loadPart' h1, wpAny_loadPart' h2
    have e1 : (strValues l1).toArray[((i : Nat) : Int).toNat]? = some (.str l1[i].1 l1[i].2) := by simp [strValues, hlt]
    have d1 : l1.drop i = l1[i] :: l1.drop (i + 1) := List.drop_eq_getElem_cons hlt
    rw [d1] at h
    rcases Nat.lt_or_ge i l2.length with hl2 | hl2
    · have e2 : (strValues l2).toArray[((i : Nat) : Int).toNat]? = some (.str l2[i].1 l2[i].2) := by simp [strValues, hl2]
      have d2 : l2.drop i = l2[i] :: l2.drop (i + 1) := List.drop_eq_getElem_cons hl2
      rw [d2] at h
      simp only [List.map_cons, ltL] at h
      rw [e1, e2]
      dsimp only
      refine wpAny_bind (wpAny_eqBool_str ?_)
      by_cases hq : l1[i].1 = l2[i].1
      · rw [decide_eq_true hq]
        rw [if_pos hq] at h
        simp only [if_true]
        have hc : ((i : Int) + 1) = ((i + 1 : Nat) : Int) := by push_cast; rfl
        rw [hc]
        exact wpAny_pure ⟨plainId_quiet plain_eq_loop _, ih (i + 1) (by omega) hlt hl2 R h⟩
      · rw [decide_eq_false hq]
        rw [if_neg hq] at h
        simp only [Bool.false_eq_true, if_false]
        wp_walk using wpAny_loadPart' h1, wpAny_loadPart' h2
        rw [e1, e2]
        dsimp only
        refine wpAny_bind ?_
        show wpAny _ _ (compareOp .Lt _ _) _ _ _
        exact PySem.P.lt_str (wpAny_pure h)
    · have e2 : (strValues l2).toArray[((i : Nat) : Int).toNat]? = none := by simp [strValues]; omega
      have d2 : l2.drop i = [] := List.drop_of_length_le hl2
      rw [d2] at h
      rw [e1, e2]
      wp_walk using wpAny_loadPart' h1, wpAny_loadPart' h2
      show R (.ok (.ret (.bool (decide ((strValues l1).toArray.size < (strValues l2).toArray.size))))) _
      rw [decide_eq_false (by simp [strValues]; omega)]
      exact h
theorem loop_gt (h1 : s.heap.get? a = some (W.listOf (strValues l1).toArray n1)) (h2 : s.heap.get? b = some (W.listOf (strValues l2).toArray n2)) (k : Nat) : ∀ (i : Nat), l1.length - i = k → i ≤ l1.length → i ≤ l2.length →
    ∀ R : Result → Shared → Prop, R (.ok (.ret (.bool (ltL ((l2.drop i).map (·.1)) ((l1.drop i).map (·.1)))))) s → codeAny (model prog w) A (.builtin "list.__eq__.loop" ⟨[.ref a, .ref b, rawInt i, rawInt 4], []⟩) R s := by
  induction k with
  | zero =>
    intro i hk hi1 hi2 R h
    obtain rfl : i = l1.length := by omega
    refine codeAny_builtin entry_eq_loop ?_
    rw [Around.under_plainId plain_eq_loop _]
    obtain ⟨hp, g, d, tk, os⟩ := s
    wp_walk using wpAny_loadPart' h1, wpAny_loadPart' h2
    have e1 : (strValues l1).toArray[((l1.length : Nat) : Int).toNat]? = none := by simp [strValues]
    rw [e1]
    wp_walk using wpAny_loadPart' h1, wpAny_loadPart' h2
    rw [List.drop_of_length_le (Nat.le_refl _)] at h
    show R (.ok (.ret (.bool (decide ((strValues l1).toArray.size > (strValues l2).toArray.size))))) _
    cases e : l2.drop l1.length with
    | nil =>
      have hl : l2.length ≤ l1.length := by have := congrArg List.length e; simp at this; omega
      rw [e] at h
      rw [decide_eq_false (by simp [strValues]; omega)]
      exact h
    | cons p r =>
      have hl : l1.length < l2.length := by have := congrArg List.length e; simp at this; omega
      rw [e] at h
      rw [decide_eq_false (by simp [strValues]; omega)]
      exact h
  | succ k ih =>
    intro i hk hi1 hi2 R h
    have hlt : i < l1.length := by omega
    refine codeAny_builtin entry_eq_loop ?_
    rw [Around.under_plainId plain_eq_loop _]
    obtain ⟨hp, g, d, tk, os⟩ := s
    wp_walk using wpAny_loadPart' h1, wpAny_loadPart' h2
    have e1 : (strValues l1).toArray[((i : Nat) : Int).toNat]? = some (.str l1[i].1 l1[i].2) := by simp [strValues, hlt]
    have d1 : l1.drop i = l1[i] :: l1.drop (i + 1) := List.drop_eq_getElem_cons hlt
    rw [d1] at h
    rcases Nat.lt_or_ge i l2.length with hl2 | hl2
    · have e2 : (strValues l2).toArray[((i : Nat) : Int).toNat]? = some (.str l2[i].1 l2[i].2) := by simp [strValues, hl2]
      have d2 : l2.drop i = l2[i] :: l2.drop (i + 1) := List.drop_eq_getElem_cons hl2
      rw [d2] at h
      simp only [List.map_cons, ltL] at h
      rw [e1, e2]
      dsimp only
      refine wpAny_bind (wpAny_eqBool_str ?_)
      by_cases hq : l1[i].1 = l2[i].1
      · rw [decide_eq_true hq]
        rw [if_pos hq.symm] at h
        simp only [if_true]
        have hc : ((i : Int) + 1) = ((i + 1 : Nat) : Int) := by push_cast; rfl
        rw [hc]
        exact wpAny_pure ⟨plainId_quiet plain_eq_loop _, ih (i + 1) (by omega) hlt hl2 R h⟩
      · rw [decide_eq_false hq]
        rw [if_neg (Ne.symm hq)] at h
        simp only [Bool.false_eq_true, if_false]
        wp_walk using wpAny_loadPart' h1, wpAny_loadPart' h2
        rw [e1, e2]
        dsimp only
        refine wpAny_bind ?_
        show wpAny _ _ (compareOp .Gt _ _) _ _ _
        exact PySem.P.gt_str (wpAny_pure h)
    · have e2 : (strValues l2).toArray[((i : Nat) : Int).toNat]? = none := by simp [strValues]; omega
      have d2 : l2.drop i = [] := List.drop_of_length_le hl2
      rw [d2] at h
      rw [e1, e2]
      wp_walk using wpAny_loadPart' h1, wpAny_loadPart' h2
      show R (.ok (.ret (.bool (decide ((strValues l1).toArray.size > (strValues l2).toArray.size))))) _
      rw [decide_eq_true (by simp [strValues]; omega)]
      exact h
theorem meets_list_lt (a b : Addr) (l1 l2 : List (Str × Tok)) (n1 n2 : Nat) : Meets (Builtin.«list.__lt__» ⟨[.ref a, .ref b], []⟩)
      (fun _ R s => s.heap.get? a = some (W.listOf (strValues l1).toArray n1) ∧ s.heap.get? b = some (W.listOf (strValues l2).toArray n2) ∧ R (.ok (.ret (.bool (ltL (l1.map (·.1)) (l2.map (·.1)))))) s) := by
  intro prog w A R s h
  obtain ⟨hp, g, d, tk, os⟩ := s; obtain ⟨hl, hb, h⟩ := h
  have f3 := AutoSeq1.sub_list_list
  wp_walk using wpAny_loadPart' hl, wpAny_loadPart' hb
  exact ⟨plainId_quiet plain_eq_loop _, loop_lt hl hb l1.length 0 rfl (Nat.zero_le _) (Nat.zero_le _) R (by simpa using h)⟩
theorem rc_lt {Q : Value → Shared → Prop} (h1 : s.heap.get? a = some (W.listOf (strValues l1).toArray n1)) (h2 : s.heap.get? b = some (W.listOf (strValues l2).toArray n2)) (hu : A.units < cLine) (h : Q (.bool (ltL (l1.map (·.1)) (l2.map (·.1)))) s) : wpAny (model prog w) A (richCompare .Lt (.ref a) (.ref b)) Q E s := by
  have hT : s.TypeIs (.ref a) "list" := ⟨_, h1, rfl⟩
  have hT2 : s.TypeIs (.ref b) "list" := ⟨_, h2, rfl⟩
  exact wpAny_richCompare_same_room (op := .Lt) hT hT2 PySem.F.slot_list_lt (call_meets PySem.F.slot_list_lt hT PySem.F.entry_list_lt (PySem.F.args_list_lt_2 _ _) (meets_list_lt a b l1 l2 n1 n2) ⟨h1, h2, ⟨(fun e => nomatch e), h⟩⟩) hu
theorem meets_list_gt (a b : Addr) (l1 l2 : List (Str × Tok)) (n1 n2 : Nat) : Meets (Builtin.«list.__gt__» ⟨[.ref a, .ref b], []⟩)
      (fun _ R s => s.heap.get? a = some (W.listOf (strValues l1).toArray n1) ∧ s.heap.get? b = some (W.listOf (strValues l2).toArray n2) ∧ R (.ok (.ret (.bool (ltL (l2.map (·.1)) (l1.map (·.1)))))) s) := by
  intro prog w A R s h
  obtain ⟨hp, g, d, tk, os⟩ := s; obtain ⟨hl, hb, h⟩ := h
  have f3 := AutoSeq1.sub_list_list
  wp_walk using wpAny_loadPart' hl, wpAny_loadPart' hb
  exact ⟨plainId_quiet plain_eq_loop _, loop_gt hl hb l1.length 0 rfl (Nat.zero_le _) (Nat.zero_le _) R (by simpa using h)⟩
theorem rc_gt {Q : Value → Shared → Prop} (h1 : s.heap.get? a = some (W.listOf (strValues l1).toArray n1)) (h2 : s.heap.get? b = some (W.listOf (strValues l2).toArray n2)) (hu : A.units < cLine) (h : Q (.bool (ltL (l2.map (·.1)) (l1.map (·.1)))) s) : wpAny (model prog w) A (richCompare .Gt (.ref a) (.ref b)) Q E s := by
  have hT : s.TypeIs (.ref a) "list" := ⟨_, h1, rfl⟩
  have hT2 : s.TypeIs (.ref b) "list" := ⟨_, h2, rfl⟩
  exact wpAny_richCompare_same_room (op := .Gt) hT hT2 PySem.F.slot_list_gt (call_meets PySem.F.slot_list_gt hT PySem.F.entry_list_gt (PySem.F.args_list_gt_2 _ _) (meets_list_gt a b l1 l2 n1 n2) ⟨h1, h2, ⟨(fun e => nomatch e), h⟩⟩) hu
end
end
section
/-- lists of texts that stand in the heap -/
noncomputable def Cells (h : Heap) (ps : List (Addr × List Str)) : Prop := ∀ p ∈ ps, ∃ (l : List (Str × Tok)) (n : Nat), h.get? p.1 = some (W.listOf (strValues l).toArray n) ∧ l.map (·.1) = p.2
theorem Cells.keeps {h h' : Heap} {ps : List (Addr × List Str)} (c : Cells h ps) (hk : ∀ p ∈ ps, ∀ o, h.get? p.1 = some o → h'.get? p.1 = some o) : Cells h' ps := fun p hp => let ⟨l, n, e, r⟩ := c p hp; ⟨l, n, hk p hp _ e, r⟩
noncomputable def bestBy (bt : List Str → List Str → Bool) : Addr × List Str → List (Addr × List Str) → Addr × List Str
  | b, [] => b
  | b, x :: r => bestBy bt (if bt x.2 b.2 then x else b) r
theorem best_mem (bt : List Str → List Str → Bool) : ∀ (r : List (Addr × List Str)) (b : Addr × List Str), bestBy bt b r ∈ b :: r
  | [], b => .head _
  | x :: r, b => by
    have := best_mem bt r (if bt x.2 b.2 then x else b)
    unfold bestBy
    rcases List.mem_cons.mp this with e | e
    · rw [e]
      split
      · exact .tail _ (.head _)
      · exact .head _
    · exact .tail _ (.tail _ e)
section
variable {prog : Program} {w : World} {A : Around} {E : Value → Shared → Prop} {I l S : Addr} {items : Array Value}

theorem min_loop (hh : A.handled = none) (hu : A.in1.units < cLine) (hSI : S ≠ I) (hSl : S ≠ l) (hlI : l ≠ I) : ∀ (rest : List (Addr × List Str)) (i : Nat) (s : Shared) (b : Addr × List Str) (c : Nat) (R : Result → Shared → Prop),
    items.toList.drop i = rest.map (fun p => Value.ref p.1) → Cells s.heap (b :: rest) → (∀ p ∈ b :: rest, p.1 ≠ I ∧ p.1 ≠ S) → s.heap.get? I = some (liObj l i) → s.heap.IsList l items →
    s.heap.get? S = some { cls := .type "list", dict := none, data := .seq #[.ref b.1, .ref b.1] c, slots := #[] } →
    (∀ h' tk, (∀ q o, q ≠ I → q ≠ S → s.heap.get? q = some o → h'.get? q = some o) → R (.ok (.ret (.ref (bestBy ltL b rest).1))) { s with heap := h', toks := tk }) →
    codeAny (model prog w) A (.builtin "min.loop" ⟨[.ref I, .none, .ref S], []⟩) R s := by
  have hname : (toString "min" ++ toString ".loop" : String) = "min.loop" := by decide
  intro rest
  induction rest with
  | nil =>
    intro i s b c R hd hc hne hI hl hS hR
    have hx : items[i]? = none := by
      rw [← Array.getElem?_toList]; have hz := congrArg List.length hd; simp at hz; exact List.getElem?_eq_none (by simp; omega)
    refine codeAny_builtin PySem.F.entry_min_loop ?_
    rw [Around.under_plainId PySem.F.plain_min_loop _]
    show wpAny _ A.in1 (seqItems? (.ref S) >>= _) _ _ s
    refine wpAny_bind (wpAny_seqItems hS rfl ?_)
    show wpAny _ A.in1 (tryCatch (pyNext (.ref I)) _ >>= _) _ _ s
    refine wpAny_bind (wpAny_tryCatch (wpAny_pyNext_list_end hh ⟨_, hI, rfl, rfl⟩ hl hx fun h' hk => ?_))
    have hS' := hk S _ hSI hS
    show wpAny _ A.in1 (updateSeq S (fun _ => #[]) >>= _) _ _ _
    refine wpAny_bind ?_
    refine wpAny_updateSeq hS' rfl (wpAny_bind (wpAny_letGo (wpAny_pure ?_)))
    exact hR _ _ fun q o h1 h2 e => (Heap.get?_update_other _ _ (Ne.symm h2)).trans (hk q o h1 e)
  | cons x rest ih =>
    intro i s b c R hd hc hne hI hl hS hR
    have hx : items[i]? = some (.ref x.1) := by
      rw [← Array.getElem?_toList]
      have := congrArg (fun l => l[0]?) hd
      simpa using this
    have hd' : items.toList.drop (i + 1) = rest.map (fun p => Value.ref p.1) := by
      have := congrArg List.tail hd
      simpa using this
    refine codeAny_builtin PySem.F.entry_min_loop ?_
    rw [Around.under_plainId PySem.F.plain_min_loop _]
    show wpAny _ A.in1 (seqItems? (.ref S) >>= _) _ _ s
    refine wpAny_bind (wpAny_seqItems hS rfl ?_)
    show wpAny _ A.in1 (tryCatch (pyNext (.ref I)) _ >>= _) _ _ s
    refine wpAny_bind (wpAny_tryCatch (pyNext_list2 hI hl hx fun h' hI' hs => ?_))
    have hk : ∀ q o, q ≠ I → s.heap.get? q = some o → h'.get? q = some o := fun q o h1 e => hs.extBut q o h1 e
    have hS' := hk S _ hSI hS
    have hl' : h'.IsList l items := hl.extBut hs.extBut hlI
    have hc' : Cells h' (b :: x :: rest) := hc.keeps fun p hp o e => hk _ o (hne p hp).1 e
    obtain ⟨lb, nb, eb, mb⟩ := hc' b (.head _)
    obtain ⟨lx, nx, ex, mx⟩ := hc' x (.tail _ (.head _))
    show wpAny _ A.in1 (tryCatch (holding [.ref x.1, .ref x.1] (richCompare .Lt (.ref x.1) (.ref b.1) >>= _)) _ >>= _) _ _ _
    refine wpAny_bind (wpAny_tryCatch (wpAny_holding (wpAny_bind (rc_lt (l1 := lx) (l2 := lb) ex eb hu ?_))))
    refine wpAny_bind (wpAny_holding (wpAny_truthy_bool ?_))
    refine wpAny_bind (wpAny_letGo (wpAny_pure ?_))
    rw [mx, mb]
    have eb : ltL x.2 b.2 = ltL x.2 b.2 := rfl
    rw [eb]
    cases hb : ltL x.2 b.2 with
    | true =>
      simp only [if_true]
      refine wpAny_bind ?_
      refine wpAny_updateSeq hS' rfl (wpAny_bind (wpAny_letGo ?_))
      rw [hname]
      refine wpAny_pure ⟨plainId_quiet PySem.F.plain_min_loop _, ih (i + 1) _ x _ R hd' ?_ (fun p hp => hne p (.tail _ hp)) ?_ ?_ (Heap.get?_update_self _ hS' rfl) fun h'' tk hk'' => ?_⟩
      · exact Cells.keeps (fun p hp => hc' p (.tail _ hp)) fun p hp o e => (Heap.get?_update_other _ _ (Ne.symm (hne p (.tail _ hp)).2)).trans e
      · exact (Heap.get?_update_other _ _ hSI).trans hI'
      · exact hl'.at fun o e => (Heap.get?_update_other _ _ hSl).trans e
      · have := hR h'' tk fun q o h1 h2 e => hk'' q o h1 h2 ((Heap.get?_update_other _ _ (Ne.symm h2)).trans (hk q o h1 e))
        simpa only [bestBy, hb, if_true] using this
    | false =>
      simp only [Bool.false_eq_true, if_false]
      refine wpAny_bind (wpAny_letGo ?_)
      rw [hname]
      refine wpAny_pure ⟨plainId_quiet PySem.F.plain_min_loop _, ih (i + 1) _ b c R hd' (fun p hp => hc' p ?_) (fun p hp => hne p ?_) hI' hl' hS' fun h'' tk hk'' => ?_⟩
      · rcases List.mem_cons.mp hp with rfl | hp
        · exact .head _
        · exact .tail _ (.tail _ hp)
      · rcases List.mem_cons.mp hp with rfl | hp
        · exact .head _
        · exact .tail _ (.tail _ hp)
      · have := hR h'' tk fun q o h1 h2 e => hk'' q o h1 h2 (hk q o h1 e)
        simpa only [bestBy, hb, Bool.false_eq_true, if_false] using this
theorem call_min {b : Addr × List Str} {rest : List (Addr × List Str)} {s : Shared} {Q : Value → Shared → Prop} (hh : A.handled = none) (hu : A.in1.units < cLine) (hd : items.toList = (b :: rest).map (fun p => Value.ref p.1)) (hc : Cells s.heap (b :: rest)) (hl : s.heap.IsList l items)
    (h : ∀ h' tk, (∀ q o, s.heap.get? q = some o → h'.get? q = some o) → Q (.ref (bestBy ltL b rest).1) { s with heap := h', toks := tk }) :
    wpAny (model prog w) A (call (.builtin "min") [.ref l]) Q E s := by
  have hname : (toString "min" ++ toString ".loop" : String) = "min.loop" := by decide
  refine call_function_tree PySem.F.kind_min PySem.F.plain_min PySem.F.entry_min (PySem.F.args_min1 _) ?_
  show wpAny _ A.in1 (Builtin.Builtins.bindParams "min" ["key", "default"] 0 ⟨[], []⟩ >>= _) _ _ s
  refine wpAny_bind (wpAny_of_eq (show Builtin.Builtins.bindParams "min" ["key", "default"] 0 ⟨[], []⟩ = pure [none, none] from rfl) ?_)
  refine wpAny_bind (wpAny_pure ?_)
  have ll : l < s.heap.objs.size := by obtain ⟨o, e, _⟩ := hl; exact Heap.lt_size e
  refine wpAny_bind (wpAny_pyIter_list hl ?_)
  refine wpAny_bind (wpAny_newObj_type ?_)
  rw [hname]
  have old : ∀ q o, s.heap.get? q = some o → ((s.heap.push (liObj l 0)).push { cls := .type "list", data := .seq ([] : List Value).toArray }).get? q = some o := fun q o e => Heap.get?_push_of_some _ (Heap.get?_push_of_some _ e)
  have z1 : (s.heap.push (liObj l 0)).objs.size = s.heap.objs.size + 1 := Heap.size_push ..
  generalize hH : s.heap.push (liObj l 0) = H at *
  have hIH : H.get? s.heap.objs.size = some (liObj l 0) := hH ▸ Heap.get?_push_size _ rfl
  have lt : ∀ p ∈ b :: rest, p.1 < s.heap.objs.size := fun p hp => let ⟨_, _, e, _⟩ := hc p hp; Heap.lt_size e
  have hSI : H.objs.size ≠ s.heap.objs.size := by rw [z1]; exact Nat.ne_of_gt (Nat.lt_succ_self _)
  have hSp : H.get? H.objs.size = none := by
    cases e : H.get? H.objs.size with
    | none => rfl
    | some o => exact absurd (Heap.lt_size e) (Nat.lt_irrefl _)
  have hS : (H.push { cls := .type "list", data := .seq ([] : List Value).toArray }).get? H.objs.size = some { cls := .type "list", dict := none, data := .seq #[], slots := #[] } := Heap.get?_push_size _ rfl
  have hI : (H.push { cls := .type "list", data := .seq ([] : List Value).toArray }).get? s.heap.objs.size = some (liObj l 0) := Heap.get?_push_of_some _ hIH
  have hlI : l ≠ s.heap.objs.size := Nat.ne_of_lt ll
  have hSl : H.objs.size ≠ l := by rw [z1]; exact Nat.ne_of_gt (Nat.lt_succ_of_lt ll)
  have hl2 : (H.push { cls := .type "list", data := .seq ([] : List Value).toArray }).IsList l items := hl.at fun o e => old _ o e
  have hx : items[0]? = some (.ref b.1) := by rw [← Array.getElem?_toList, hd]; rfl
  refine wpAny_pure ⟨plainId_quiet PySem.F.plain_min_loop _, ?_⟩
  refine codeAny_builtin PySem.F.entry_min_loop ?_
  rw [Around.under_plainId PySem.F.plain_min_loop _]
  show wpAny _ _ (seqItems? (.ref H.objs.size) >>= _) _ _ _
  refine wpAny_bind (wpAny_seqItems hS rfl ?_)
  show wpAny _ _ (tryCatch (pyNext (.ref s.heap.objs.size)) _ >>= _) _ _ _
  refine wpAny_bind (wpAny_tryCatch (pyNext_list2 hI hl2 hx fun h₁ hI₁ hs₁ => ?_))
  have hS₁ := hs₁.extBut _ _ hSI hS
  show wpAny _ _ (updateSeq H.objs.size (fun _ => #[.ref b.1, .ref b.1]) >>= _) _ _ _
  refine wpAny_bind ?_
  refine wpAny_updateSeq hS₁ rfl ?_
  rw [hname]
  have k1 : ∀ q o, s.heap.get? q = some o → h₁.get? q = some o := fun q o e => hs₁.extBut q o (Nat.ne_of_lt (Heap.lt_size e)) (old q o e)
  have ne2 : ∀ q o, s.heap.get? q = some o → q ≠ H.objs.size := fun q o e => by rw [z1]; exact Nat.ne_of_lt (Nat.lt_succ_of_lt (Heap.lt_size e))
  have k2 : ∀ q o, s.heap.get? q = some o → (h₁.update H.objs.size (Obj.mapSeq fun _ => #[.ref b.1, .ref b.1])).get? q = some o := fun q o e => (Heap.get?_update_other _ _ (Ne.symm (ne2 q o e))).trans (k1 q o e)
  refine wpAny_pure ⟨plainId_quiet PySem.F.plain_min_loop _, min_loop hh hu hSI hSl hlI rest 1 _ b _ _ ?_ (hc.keeps fun p _ o e => k2 _ o e) (fun p hp => ⟨Nat.ne_of_lt (lt p hp), let ⟨_, _, e, _⟩ := hc p hp; ne2 _ _ e⟩) ((Heap.get?_update_other _ _ hSI).trans hI₁) (hl.at fun o e => k2 _ o e) (Heap.get?_update_self _ hS₁ rfl) fun h' tk hk => ?_⟩
  · have := congrArg List.tail hd
    simpa using this
  · exact h h' tk fun q o e => hk q o (Nat.ne_of_lt (Heap.lt_size e)) (ne2 q o e) (k2 q o e)

theorem max_loop (hh : A.handled = none) (hu : A.in1.units < cLine) (hSI : S ≠ I) (hSl : S ≠ l) (hlI : l ≠ I) : ∀ (rest : List (Addr × List Str)) (i : Nat) (s : Shared) (b : Addr × List Str) (c : Nat) (R : Result → Shared → Prop),
    items.toList.drop i = rest.map (fun p => Value.ref p.1) → Cells s.heap (b :: rest) → (∀ p ∈ b :: rest, p.1 ≠ I ∧ p.1 ≠ S) → s.heap.get? I = some (liObj l i) → s.heap.IsList l items →
    s.heap.get? S = some { cls := .type "list", dict := none, data := .seq #[.ref b.1, .ref b.1] c, slots := #[] } →
    (∀ h' tk, (∀ q o, q ≠ I → q ≠ S → s.heap.get? q = some o → h'.get? q = some o) → R (.ok (.ret (.ref (bestBy (fun x b => ltL b x) b rest).1))) { s with heap := h', toks := tk }) →
    codeAny (model prog w) A (.builtin "max.loop" ⟨[.ref I, .none, .ref S], []⟩) R s := by
  have hname : (toString "max" ++ toString ".loop" : String) = "max.loop" := by decide
  intro rest
  induction rest with
  | nil =>
    intro i s b c R hd hc hne hI hl hS hR
    have hx : items[i]? = none := by
      rw [← Array.getElem?_toList]; have hz := congrArg List.length hd; simp at hz; exact List.getElem?_eq_none (by simp; omega)
    refine codeAny_builtin PySem.F.entry_max_loop ?_
    rw [Around.under_plainId PySem.F.plain_max_loop _]
    show wpAny _ A.in1 (seqItems? (.ref S) >>= _) _ _ s
    refine wpAny_bind (wpAny_seqItems hS rfl ?_)
    show wpAny _ A.in1 (tryCatch (pyNext (.ref I)) _ >>= _) _ _ s
    refine wpAny_bind (wpAny_tryCatch (wpAny_pyNext_list_end hh ⟨_, hI, rfl, rfl⟩ hl hx fun h' hk => ?_))
    have hS' := hk S _ hSI hS
    show wpAny _ A.in1 (updateSeq S (fun _ => #[]) >>= _) _ _ _
    refine wpAny_bind ?_
    refine wpAny_updateSeq hS' rfl (wpAny_bind (wpAny_letGo (wpAny_pure ?_)))
    exact hR _ _ fun q o h1 h2 e => (Heap.get?_update_other _ _ (Ne.symm h2)).trans (hk q o h1 e)
  | cons x rest ih =>
    intro i s b c R hd hc hne hI hl hS hR
    have hx : items[i]? = some (.ref x.1) := by
      rw [← Array.getElem?_toList]
      have := congrArg (fun l => l[0]?) hd
      simpa using this
    have hd' : items.toList.drop (i + 1) = rest.map (fun p => Value.ref p.1) := by
      have := congrArg List.tail hd
      simpa using this
    refine codeAny_builtin PySem.F.entry_max_loop ?_
    rw [Around.under_plainId PySem.F.plain_max_loop _]
    show wpAny _ A.in1 (seqItems? (.ref S) >>= _) _ _ s
    refine wpAny_bind (wpAny_seqItems hS rfl ?_)
    show wpAny _ A.in1 (tryCatch (pyNext (.ref I)) _ >>= _) _ _ s
    refine wpAny_bind (wpAny_tryCatch (pyNext_list2 hI hl hx fun h' hI' hs => ?_))
    have hk : ∀ q o, q ≠ I → s.heap.get? q = some o → h'.get? q = some o := fun q o h1 e => hs.extBut q o h1 e
    have hS' := hk S _ hSI hS
    have hl' : h'.IsList l items := hl.extBut hs.extBut hlI
    have hc' : Cells h' (b :: x :: rest) := hc.keeps fun p hp o e => hk _ o (hne p hp).1 e
    obtain ⟨lb, nb, eb, mb⟩ := hc' b (.head _)
    obtain ⟨lx, nx, ex, mx⟩ := hc' x (.tail _ (.head _))
    show wpAny _ A.in1 (tryCatch (holding [.ref x.1, .ref x.1] (richCompare .Gt (.ref x.1) (.ref b.1) >>= _)) _ >>= _) _ _ _
    refine wpAny_bind (wpAny_tryCatch (wpAny_holding (wpAny_bind (rc_gt (l1 := lx) (l2 := lb) ex eb hu ?_))))
    refine wpAny_bind (wpAny_holding (wpAny_truthy_bool ?_))
    refine wpAny_bind (wpAny_letGo (wpAny_pure ?_))
    rw [mx, mb]
    have eb : ltL b.2 x.2 = (fun x b => ltL b x) x.2 b.2 := rfl
    rw [eb]
    cases hb : (fun x b => ltL b x) x.2 b.2 with
    | true =>
      simp only [if_true]
      refine wpAny_bind ?_
      refine wpAny_updateSeq hS' rfl (wpAny_bind (wpAny_letGo ?_))
      rw [hname]
      refine wpAny_pure ⟨plainId_quiet PySem.F.plain_max_loop _, ih (i + 1) _ x _ R hd' ?_ (fun p hp => hne p (.tail _ hp)) ?_ ?_ (Heap.get?_update_self _ hS' rfl) fun h'' tk hk'' => ?_⟩
      · exact Cells.keeps (fun p hp => hc' p (.tail _ hp)) fun p hp o e => (Heap.get?_update_other _ _ (Ne.symm (hne p (.tail _ hp)).2)).trans e
      · exact (Heap.get?_update_other _ _ hSI).trans hI'
      · exact hl'.at fun o e => (Heap.get?_update_other _ _ hSl).trans e
      · have := hR h'' tk fun q o h1 h2 e => hk'' q o h1 h2 ((Heap.get?_update_other _ _ (Ne.symm h2)).trans (hk q o h1 e))
        simpa only [bestBy, hb, if_true] using this
    | false =>
      simp only [Bool.false_eq_true, if_false]
      refine wpAny_bind (wpAny_letGo ?_)
      rw [hname]
      refine wpAny_pure ⟨plainId_quiet PySem.F.plain_max_loop _, ih (i + 1) _ b c R hd' (fun p hp => hc' p ?_) (fun p hp => hne p ?_) hI' hl' hS' fun h'' tk hk'' => ?_⟩
      · rcases List.mem_cons.mp hp with rfl | hp
        · exact .head _
        · exact .tail _ (.tail _ hp)
      · rcases List.mem_cons.mp hp with rfl | hp
        · exact .head _
        · exact .tail _ (.tail _ hp)
      · have := hR h'' tk fun q o h1 h2 e => hk'' q o h1 h2 (hk q o h1 e)
        simpa only [bestBy, hb, Bool.false_eq_true, if_false] using this
theorem call_max {b : Addr × List Str} {rest : List (Addr × List Str)} {s : Shared} {Q : Value → Shared → Prop} (hh : A.handled = none) (hu : A.in1.units < cLine) (hd : items.toList = (b :: rest).map (fun p => Value.ref p.1)) (hc : Cells s.heap (b :: rest)) (hl : s.heap.IsList l items)
    (h : ∀ h' tk, (∀ q o, s.heap.get? q = some o → h'.get? q = some o) → Q (.ref (bestBy (fun x b => ltL b x) b rest).1) { s with heap := h', toks := tk }) :
    wpAny (model prog w) A (call (.builtin "max") [.ref l]) Q E s := by
  have hname : (toString "max" ++ toString ".loop" : String) = "max.loop" := by decide
  refine call_function_tree PySem.F.kind_max PySem.F.plain_max PySem.F.entry_max (PySem.F.args_max1 _) ?_
  show wpAny _ A.in1 (Builtin.Builtins.bindParams "max" ["key", "default"] 0 ⟨[], []⟩ >>= _) _ _ s
  refine wpAny_bind (wpAny_of_eq (show Builtin.Builtins.bindParams "max" ["key", "default"] 0 ⟨[], []⟩ = pure [none, none] from rfl) ?_)
  refine wpAny_bind (wpAny_pure ?_)
  have ll : l < s.heap.objs.size := by obtain ⟨o, e, _⟩ := hl; exact Heap.lt_size e
  refine wpAny_bind (wpAny_pyIter_list hl ?_)
  refine wpAny_bind (wpAny_newObj_type ?_)
  rw [hname]
  have old : ∀ q o, s.heap.get? q = some o → ((s.heap.push (liObj l 0)).push { cls := .type "list", data := .seq ([] : List Value).toArray }).get? q = some o := fun q o e => Heap.get?_push_of_some _ (Heap.get?_push_of_some _ e)
  have z1 : (s.heap.push (liObj l 0)).objs.size = s.heap.objs.size + 1 := Heap.size_push ..
  generalize hH : s.heap.push (liObj l 0) = H at *
  have hIH : H.get? s.heap.objs.size = some (liObj l 0) := hH ▸ Heap.get?_push_size _ rfl
  have lt : ∀ p ∈ b :: rest, p.1 < s.heap.objs.size := fun p hp => let ⟨_, _, e, _⟩ := hc p hp; Heap.lt_size e
  have hSI : H.objs.size ≠ s.heap.objs.size := by rw [z1]; exact Nat.ne_of_gt (Nat.lt_succ_self _)
  have hSp : H.get? H.objs.size = none := by
    cases e : H.get? H.objs.size with
    | none => rfl
    | some o => exact absurd (Heap.lt_size e) (Nat.lt_irrefl _)
  have hS : (H.push { cls := .type "list", data := .seq ([] : List Value).toArray }).get? H.objs.size = some { cls := .type "list", dict := none, data := .seq #[], slots := #[] } := Heap.get?_push_size _ rfl
  have hI : (H.push { cls := .type "list", data := .seq ([] : List Value).toArray }).get? s.heap.objs.size = some (liObj l 0) := Heap.get?_push_of_some _ hIH
  have hlI : l ≠ s.heap.objs.size := Nat.ne_of_lt ll
  have hSl : H.objs.size ≠ l := by rw [z1]; exact Nat.ne_of_gt (Nat.lt_succ_of_lt ll)
  have hl2 : (H.push { cls := .type "list", data := .seq ([] : List Value).toArray }).IsList l items := hl.at fun o e => old _ o e
  have hx : items[0]? = some (.ref b.1) := by rw [← Array.getElem?_toList, hd]; rfl
  refine wpAny_pure ⟨plainId_quiet PySem.F.plain_max_loop _, ?_⟩
  refine codeAny_builtin PySem.F.entry_max_loop ?_
  rw [Around.under_plainId PySem.F.plain_max_loop _]
  show wpAny _ _ (seqItems? (.ref H.objs.size) >>= _) _ _ _
  refine wpAny_bind (wpAny_seqItems hS rfl ?_)
  show wpAny _ _ (tryCatch (pyNext (.ref s.heap.objs.size)) _ >>= _) _ _ _
  refine wpAny_bind (wpAny_tryCatch (pyNext_list2 hI hl2 hx fun h₁ hI₁ hs₁ => ?_))
  have hS₁ := hs₁.extBut _ _ hSI hS
  show wpAny _ _ (updateSeq H.objs.size (fun _ => #[.ref b.1, .ref b.1]) >>= _) _ _ _
  refine wpAny_bind ?_
  refine wpAny_updateSeq hS₁ rfl ?_
  rw [hname]
  have k1 : ∀ q o, s.heap.get? q = some o → h₁.get? q = some o := fun q o e => hs₁.extBut q o (Nat.ne_of_lt (Heap.lt_size e)) (old q o e)
  have ne2 : ∀ q o, s.heap.get? q = some o → q ≠ H.objs.size := fun q o e => by rw [z1]; exact Nat.ne_of_lt (Nat.lt_succ_of_lt (Heap.lt_size e))
  have k2 : ∀ q o, s.heap.get? q = some o → (h₁.update H.objs.size (Obj.mapSeq fun _ => #[.ref b.1, .ref b.1])).get? q = some o := fun q o e => (Heap.get?_update_other _ _ (Ne.symm (ne2 q o e))).trans (k1 q o e)
  refine wpAny_pure ⟨plainId_quiet PySem.F.plain_max_loop _, max_loop hh hu hSI hSl hlI rest 1 _ b _ _ ?_ (hc.keeps fun p _ o e => k2 _ o e) (fun p hp => ⟨Nat.ne_of_lt (lt p hp), let ⟨_, _, e, _⟩ := hc p hp; ne2 _ _ e⟩) ((Heap.get?_update_other _ _ hSI).trans hI₁) (hl.at fun o e => k2 _ o e) (Heap.get?_update_self _ hS₁ rfl) fun h' tk hk => ?_⟩
  · have := congrArg List.tail hd
    simpa using this
  · exact h h' tk fun q o e => hk q o (Nat.ne_of_lt (Heap.lt_size e)) (ne2 q o e) (k2 q o e)
end
end
section
open PyProof.Rows.LCg
theorem allNe_of {d : Addr} {X : Led} (h : AllLt d X) : ∀ p ∈ X, p.1 ≠ d := by
  induction X with
  | nil => intro p hp; exact nomatch hp
  | cons a r ih =>
    intro q hq
    rcases List.mem_cons.mp hq with rfl | hq
    · exact Nat.ne_of_lt h.1
    · exact ih h.2 q hq
theorem allNe_gt {d : Addr} {X : Led} (h : ∀ q ∈ X, @LT.lt Nat _ d q.1) : ∀ p ∈ X, p.1 ≠ d := fun p hp => Nat.ne_of_gt (h p hp)
section
variable {prog : Program} {w : World} {A : Around} {s : Shared} {g : Heap} {L l : Addr} {m : Str → Option Value} {news : Led} {E Q : Value → Shared → Prop} {items : List Value} {c : Nat} {b : Addr × List Str} {rest : List (Addr × List Str)}
theorem min_N (hh : A.handled = none) (hu : A.in1.units < cLine) (F : Fr g L s.heap m) (N : News g L s.heap news) (hl : (l, W.listOf items.toArray c) ∈ news) (hd : items = (b :: rest).map (fun p => Value.ref p.1)) (hc : Cells s.heap (b :: rest))
    (h : ∀ h' tk, Fr g L h' m → News g L h' news → Q (.ref (bestBy ltL b rest).1) { s with heap := h', toks := tk }) : wpAny (model prog w) A (call (.builtin "min") [.ref l]) Q E s :=
  call_min hh hu (items := items.toArray) (by rw [List.toList_toArray]; exact hd) hc ⟨_, (N _ hl).1, rfl, _, rfl⟩ fun h' tk hk => h h' tk (F.keeps hk) fun p hp => ⟨hk _ _ (N p hp).1, (N p hp).2⟩
theorem max_N (hh : A.handled = none) (hu : A.in1.units < cLine) (F : Fr g L s.heap m) (N : News g L s.heap news) (hl : (l, W.listOf items.toArray c) ∈ news) (hd : items = (b :: rest).map (fun p => Value.ref p.1)) (hc : Cells s.heap (b :: rest))
    (h : ∀ h' tk, Fr g L h' m → News g L h' news → Q (.ref (bestBy (fun x b => ltL b x) b rest).1) { s with heap := h', toks := tk }) : wpAny (model prog w) A (call (.builtin "max") [.ref l]) Q E s :=
  call_max hh hu (items := items.toArray) (by rw [List.toList_toArray]; exact hd) hc ⟨_, (N _ hl).1, rfl, _, rfl⟩ fun h' tk hk => h h' tk (F.keeps hk) fun p hp => ⟨hk _ _ (N p hp).1, (N p hp).2⟩
end
noncomputable def okPart (x : Str) : Bool := !(x.length == 0) && !(x == Str.ofString ".")
noncomputable def partsOk (x : Str) : List Str := (Txt.split x (Str.ofString "/")).filter okPart
theorem okPart_t {x : Str} (h1 : (x.length : Int) ≠ 0) (h2 : (x != Str.ofString ".") = true) : okPart x = true := by
  have : (x.length == 0) = false := by simp; omega
  unfold okPart
  rw [this]
  simpa [bne] using h2
theorem okPart_f1 {x : Str} (h2 : (x != Str.ofString ".") = false) : okPart x = false := by
  unfold okPart
  have : (x == Str.ofString ".") = true := by simpa [bne] using h2
  rw [this]; simp
theorem okPart_f2 {x : Str} (h1 : (x.length : Int) = 0) : okPart x = false := by
  have : (x.length == 0) = true := by simp; omega
  unfold okPart
  rw [this]; simp
noncomputable def InMade (made : Led) (p : Addr × List Str) : Prop := ∃ (l : List (Str × Tok)) (n : Nat), (p.1, W.listOf (strValues l).toArray n) ∈ made ∧ l.map (·.1) = p.2
theorem refs_made {f : Str → List Str} {made : Led} : ∀ (ys : List Value) (xs : List Str), ys.length = xs.length →
    (∀ (i : Nat) (y : Value), ys[i]? = some y → ∃ (D : Addr) (l : List (Str × Tok)) (n : Nat), y = .ref D ∧ (D, W.listOf (strValues l).toArray n) ∈ made ∧ ∃ x, xs[i]? = some x ∧ l.map (·.1) = f x) →
    ∃ ps : List (Addr × List Str), ys = ps.map (fun p => Value.ref p.1) ∧ ps.map (·.2) = xs.map f ∧ ∀ p ∈ ps, InMade made p := by
  intro ys
  induction ys with
  | nil =>
    intro xs hl h
    cases xs with
    | nil => exact ⟨[], rfl, rfl, fun p hp => nomatch hp⟩
    | cons _ _ => simp at hl
  | cons y r ih =>
    intro xs hl h
    cases xs with
    | nil => simp at hl
    | cons x xr =>
      obtain ⟨D, l, n, rfl, hm, x', hx', e⟩ := h 0 y rfl
      obtain rfl : x = x' := by simpa using hx'
      obtain ⟨ps, h1, h2, h3⟩ := ih xr (by simpa using hl) fun i y hy => by
        obtain ⟨D, l, n, h1, h2, x, hx, e⟩ := h (i + 1) y (by simpa using hy)
        exact ⟨D, l, n, h1, h2, x, by simpa using hx, e⟩
      refine ⟨(D, f x) :: ps, by rw [h1]; rfl, by simp [h2], fun p hp => ?_⟩
      rcases List.mem_cons.mp hp with rfl | hp
      · exact ⟨l, n, hm, e⟩
      · exact h3 p hp
theorem cells_mem {h : Heap} {ps : List (Addr × List Str)} {made : Led} (hp : ∀ p ∈ ps, InMade made p) (hm : ∀ q ∈ made, h.get? q.1 = some q.2) : Cells h ps := fun p hq => let ⟨l, n, e, r⟩ := hp p hq; ⟨l, n, hm _ e, r⟩
noncomputable def bestL (bt : List Str → List Str → Bool) : List Str → List (List Str) → List Str
  | b, [] => b
  | b, x :: r => bestL bt (if bt x b then x else b) r
theorem best_snd (bt : List Str → List Str → Bool) : ∀ (r : List (Addr × List Str)) (b : Addr × List Str), (bestBy bt b r).2 = bestL bt b.2 (r.map (·.2))
  | [], b => rfl
  | x :: r, b => by
    unfold bestBy
    rw [best_snd bt r]
    show _ = bestL bt (if bt x.2 b.2 then x.2 else b.2) (r.map (·.2))
    split <;> rfl
/-- the first signs of two lists that are the same -/
noncomputable def cpL : List Str → List Str → List Str
  | x :: xs, y :: ys => if x = y then x :: cpL xs ys else []
  | _, _ => []
noncomputable def fitsL : List Str → List Str → Bool
  | [], _ => true
  | _ :: _, [] => false
  | x :: xs, y :: ys => if x = y then fitsL xs ys else true
end
section
open PyProof.Rows.LCg
section
variable {prog : Program} {w : World} {A : Around} {s : Shared} {g : Heap} {L e it l : Addr} {m0 : Str → Option Value} {env : Env} {R : Result → Shared → Prop} {body : List Stmt} {xi xv : Str} {pi pv tp : Pos} {kk : Nat} {items : Array Value} {c : Nat} {rest : Led}
noncomputable abbrev frm2 (xi xv : Str) (iv cv : Option Value) (m0 : Str → Option Value) : Str → Option Value := fun y => if y = xv then cv else if y = xi then iv else m0 y
theorem for_enum_list (F : Fr g L s.heap m0) (hh : A.in1.handled = none) (hh2 : A.handled = none) (hL : env.locals = L) (hxi : env.kindOf xi = some .local) (hxv : env.kindOf xv = some .local) (hp : (env.scope.kind == .class || (env.scope.kind == .module && env.locals != env.globals)) = false)
    (hne : it ≠ e) (hr : ∀ q ∈ rest, q.1 ≠ it ∧ q.1 ≠ e) (hl : (l, W.listOf items c) ∈ rest) (Inv : Nat → Prop) (h0 : Inv 0) (N : News g L s.heap ((e, enRec it ((0 : Nat) : Int) .none) :: (it, liObj l 0) :: rest))
    (hbody : ∀ (i : Nat) (v : Value) (t : Tok) (h : Heap) (tk : Nat) (old : Value), items[i]? = some v → Inv i → Fr g L h (frm2 xi xv (some (.int i t)) (some v) m0) → News g L h ((e, enRec it ((i + 1 : Nat) : Int) old) :: (it, liObj l (i + 1)) :: rest) →
      (Inv (i + 1) → ∀ h' tk', Fr g L h' (frm2 xi xv (some (.int i t)) (some v) m0) → News g L h' ((e, enRec it ((i + 1 : Nat) : Int) old) :: (it, liObj l (i + 1)) :: rest) → codeAny (model prog w) A (.forLoop (.Tuple [.Name xi pi, .Name xv pv] kk tp) (.ref e) body [] env) R { s with heap := h', toks := tk' }) →
      wpAny (model prog w) A (execs body env) (fun f s₄ => match f with
        | .next | .cont => codeAny (model prog w) A (.forLoop (.Tuple [.Name xi pi, .Name xv pv] kk tp) (.ref e) body [] env) R s₄
        | .brk => R (.ok .next) s₄
        | .ret v => R (.ok (.ret v)) s₄) NoE { s with heap := h, toks := tk })
    (hend : ∀ iv cv h tk, Inv items.size → Fr g L h (frm2 xi xv iv cv m0) → News g L h rest → R (.ok .next) { s with heap := h, toks := tk }) :
    codeAny (model prog w) A (.forLoop (.Tuple [.Name xi pi, .Name xv pv] kk tp) (.ref e) body [] env) R s := by
  have key : ∀ (k i : Nat) (h : Heap) (tk : Nat) (iv cv : Option Value) (old : Value), items.size - i = k → i ≤ items.size → Inv i → Fr g L h (frm2 xi xv iv cv m0) → News g L h ((e, enRec it ((i : Nat) : Int) old) :: (it, liObj l i) :: rest) →
      codeAny (model prog w) A (.forLoop (.Tuple [.Name xi pi, .Name xv pv] kk tp) (.ref e) body [] env) R { s with heap := h, toks := tk } := by
    intro k
    induction k with
    | zero =>
      intro i h tk iv cv old hk hi hI F N
      have hx : i = items.size := by omega
      have hIs : Heap.IsList h l items := News.isList N (n := c) (.tail _ (.tail _ hl))
      have hrit : ∀ q ∈ rest, q.1 ≠ it := fun q hq => (hr q hq).1
      have hre : ∀ q ∈ rest, q.1 ≠ e := fun q hq => (hr q hq).2
      refine for_turnK (el_stop hh F N (.head _) (.tail _ (.head _)) hne hIs (.tail (Ne.symm hne) (.head hrit)) (.head fun q hq => ?_) (.tail (Ne.symm hne) (.head hrit)) (.head hre) hx fun h' F' N' => ?_)
      · rcases List.mem_cons.mp hq with rfl | hq
        · exact hne
        · exact hre q hq
      · refine wpAny_execs_nil ?_
        exact hend iv cv h' tk (hx ▸ hI) F' N'
    | succ k ih =>
      intro i h tk iv cv old hk hi hI F N
      have hlt : i < items.size := by omega
      have hx : items[i]? = some items[i] := Array.getElem?_eq_getElem hlt
      have hIs : Heap.IsList h l items := News.isList N (n := c) (.tail _ (.tail _ hl))
      have hrit : ∀ q ∈ rest, q.1 ≠ it := fun q hq => (hr q hq).1
      refine for_turnK (el_next hh F N (.head _) (.tail _ (.head _)) hne hIs (.tail (Ne.symm hne) (.head hrit)) (.head fun q hq => ?_) hx rfl fun T tk₁ h₁ F₁ N₁ hT => ?_)
      · rcases List.mem_cons.mp hq with rfl | hq
        · exact hne
        · exact (hr q hq).2
      have NT := N₁ _ (.head _)
      refine kcp_assign (env := env) hh2 ⟨_, NT.1, rfl, _, rfl⟩ hxi hxv hp (hL ▸ F₁.ns) fun h₄ tk₄ hn₄ hs₄ => ?_
      rw [hL] at hn₄ hs₄
      have e1 : (fun y => if y = xv then some items[i] else if y = xi then some (Value.int (i : Int) tk₁) else frm2 xi xv iv cv m0 y) = frm2 xi xv (some (.int i tk₁)) (some items[i]) m0 := by
        funext y
        by_cases a : y = xv
        · simp [frm2, a]
        · by_cases b : y = xi <;> simp [frm2, a, b]
      have F4 : Fr g L h₄ (frm2 xi xv (some (.int i tk₁)) (some items[i]) m0) := by
        rw [← e1]
        refine ⟨hn₄, fun b o q => hs₄ b o ?_ (F₁.keep b o q), F₁.above⟩
        exact Nat.ne_of_lt (Nat.lt_of_lt_of_le (Heap.lt_size q) F₁.above)
      have N4 : News g L h₄ ((e, enRec it ((i + 1 : Nat) : Int) items[i]) :: (it, liObj l (i + 1)) :: rest) := fun p hp => ⟨hs₄ _ _ (N₁ p (.tail _ hp)).2.1 (N₁ p (.tail _ hp)).1, (N₁ p (.tail _ hp)).2⟩
      exact hbody i items[i] tk₁ h₄ _ items[i] hx hI F4 N4 fun hI' h' tk' F' N' => ih (i + 1) h' tk' _ _ _ (by omega) hlt hI' F' N'
  have e0 : frm2 xi xv (m0 xi) (m0 xv) m0 = m0 := by
    funext y
    by_cases a : y = xv
    · simp [frm2, a]
    · by_cases b : y = xi
      · subst b; simp only [frm2]; split <;> simp_all
      · simp [frm2, a, b]
  exact key items.size 0 s.heap s.toks (m0 xi) (m0 xv) .none rfl (Nat.zero_le _) h0 (e0.symm ▸ F) N
end
theorem allLt_mono {a b : Nat} {X : Led} (hab : a < b) (h : AllLt a X) : AllLt b X := by
  induction X with
  | nil => trivial
  | cons p r ih => exact ⟨Nat.lt_trans h.1 hab, ih h.2⟩
theorem itemL_N {prog : Program} {w : World} {A : Around} {E : Value → Shared → Prop} {s : Shared} {g : Heap} {L a : Addr} {news : Led} {items : List Value} {c : Nat} {v : Value} {i : Nat} {u : Tok} {value slice : Expr} {Q : Value → Shared → Prop} (N : News g L s.heap news) (hm : (a, W.listOf items.toArray c) ∈ news) (hx : items[i]? = some v) (hz : items.length ≤ 100000) (h : Q v s)
    (hs : subscripted slice false (.ref a) (.int (i : Int) u) = operate [.ref a, .int (i : Int) u] (getItem (.ref a) (.int (i : Int) u)) := by with_unfolding_all rfl) :
    wpAny (model prog w) A (subscriptTail value slice (.ref a) (.int (i : Int) u)) Q E s := by
  have hi : i < items.length := (List.getElem?_eq_some_iff.mp hx).1
  exact tail_any (Heap.IsList.typeIs ⟨_, (N _ hm).1, rfl, _, rfl⟩) slot_list_getitem.lookup (wpAny_getItem_list (s := s) ⟨_, (N _ hm).1, rfl, _, rfl⟩ (by omega) (by omega) (by simpa using hx) h) hs
theorem fits_lt : ∀ (a b : List Str) (i : Nat), fitsL a b = true → a.take i = b.take i → i < a.length → i < b.length := by
  intro a
  induction a with
  | nil => intro b i _ _ h; simp at h
  | cons x r ih =>
    intro b i h ht hi
    cases b with
    | nil => simp [fitsL] at h
    | cons y q =>
      cases i with
      | zero => simp
      | succ i =>
        simp only [List.take_succ_cons, List.cons.injEq] at ht
        obtain ⟨rfl, ht⟩ := ht
        simp only [fitsL, if_true] at h
        have := ih q i h ht (by simpa using hi)
        simpa using this
theorem cp_break : ∀ (a b : List Str) (i : Nat) (x y : Str), a.take i = b.take i → a[i]? = some x → b[i]? = some y → x ≠ y → cpL a b = a.take i := by
  intro a
  induction a with
  | nil => intro b i x y _ h; simp at h
  | cons z r ih =>
    intro b i x y ht hx hy hn
    cases b with
    | nil => simp at hy
    | cons u q =>
      cases i with
      | zero =>
        simp at hx hy
        subst hx hy
        simp [cpL, hn]
      | succ i =>
        simp only [List.take_succ_cons, List.cons.injEq] at ht
        obtain ⟨rfl, ht⟩ := ht
        simp only [cpL, if_true, List.take_succ_cons]
        rw [ih q i x y ht (by simpa using hx) (by simpa using hy) hn]
theorem cp_all : ∀ (a b : List Str), a.take a.length = b.take a.length → cpL a b = a := by
  intro a
  induction a with
  | nil => intro b _; simp [cpL]
  | cons z r ih =>
    intro b ht
    cases b with
    | nil => simp at ht
    | cons u q =>
      simp only [List.length_cons, List.take_succ_cons, List.cons.injEq] at ht
      obtain ⟨rfl, ht⟩ := ht
      simp only [cpL, if_true]
      rw [ih q ht]
theorem slice_upto_N {prog : Program} {w : World} {A : Around} {E : Value → Shared → Prop} {s : Shared} {g : Heap} {L a : Addr} {m : Str → Option Value} {news : Led} {l1 : List (Str × Tok)} {c i : Nat} {u : Tok} {value slice : Expr} {Q : Value → Shared → Prop} (F : Fr g L s.heap m) (N : News g L s.heap news) (hm : (a, W.listOf (strValues l1).toArray c) ∈ news) (hi : i < l1.length) (hz : (strValues l1).toArray.size ≤ sizeLine)
    (h : ∀ D h', Fr g L h' m → News g L h' ((D, W.listOf (strValues (l1.take i)).toArray 0) :: news) → (∀ p ∈ news, p.1 < D) → Q (.ref D) { s with heap := h' })
    (hs : subscripted slice false (.ref a) (.ref s.heap.objs.size) = operate [.ref s.heap.objs.size, .ref a] (getItem (.ref a) (.ref s.heap.objs.size))) (ht : ∀ r, letTemporaryGo value (.ref a) r = pure ()) :
    wpAny (model prog w) A (subscriptTail value slice (.ref a) (.ref s.heap.objs.size)) Q E { s with heap := s.heap.push { cls := .type "slice", data := .fields #[.none, .int (i : Int) u, .none] } } := by
  refine kmk_slice F N (its := (strValues l1).toArray) ⟨_, (N _ hm).1, rfl, _, rfl⟩ .none (.int _ _) (fun D h' F' N' l0 => h D h' F' ?_ l0) hs ht hz
  have e : slicePick (strValues l1).toArray none (some (i : Int)) none = (strValues (l1.take i)).toArray := by
    rw [slicePick_upto _ _ (by simp [strValues]; omega)]
    simp [strValues, List.map_take]
  rw [← e]; exact N'
theorem join_Nl {prog : Program} {w : World} {A : Around} {E : Value → Shared → Prop} {s : Shared} {g : Heap} {L a : Addr} {news : Led} {l1 : List (Str × Tok)} {c : Nat} {x : Str} {t : Tok} {Q : Value → Shared → Prop} (N : News g L s.heap news) (hm : (a, W.listOf (strValues l1).toArray c) ∈ news) (hok : ((l1.map (·.1)).map (·.length)).sum + (l1.map (·.1)).length * x.length ≤ 16777216)
    (h : ∀ t' tk, Q (.str (Txt.join x (l1.map (·.1))) t') { s with toks := tk }) : wpAny (model prog w) A (call (.builtin "str.join") [.str x t, .ref a]) Q E s :=
  join_list (items := (strValues l1).toArray) ⟨_, (N _ hm).1, rfl, _, rfl⟩ (by rw [List.toList_toArray]; exact strsAre_of_values l1) hok h
theorem join_len (sep : Str) (ys : List Str) : (Txt.join sep ys).length ≤ (ys.map (·.length)).sum + ys.length * sep.length := by
  unfold Txt.join
  rw [StrLaws.glued_eq_join]
  exact StrLaws.join_length_le sep ys
theorem sum_le : ∀ (L : List Str), (∀ y ∈ L, y.length ≤ 1000) → (L.map (·.length)).sum ≤ 1000 * L.length
  | [], _ => Nat.le_refl _
  | x :: r, h => by
    have h1 := h x (.head _)
    have h2 := sum_le r fun y hy => h y (.tail _ hy)
    simp only [List.map_cons, List.sum_cons, List.length_cons]
    omega
noncomputable def minOf (xs : List Str) : List Str := match xs.map partsOk with
  | [] => []
  | b :: r => bestL ltL b r
noncomputable def maxOf (xs : List Str) : List Str := match xs.map partsOk with
  | [] => []
  | b :: r => bestL (fun x b => ltL b x) b r
noncomputable def commonOf (xs : List Str) : Str := Str.ofString "/" ++ Txt.join (Str.ofString "/") (cpL (minOf xs) (maxOf xs))
/-- sizes of a list of parts -/
noncomputable def Small (L : List Str) : Prop := L.length ≤ 1000 ∧ ∀ y ∈ L, y.length ≤ 1000
theorem Small.take {L : List Str} (h : Small L) (i : Nat) : Small (L.take i) := ⟨Nat.le_trans (List.length_take_le' _ _) h.1, fun y hy => h.2 y (List.mem_of_mem_take hy)⟩
theorem sep_len : (Str.ofString "/").length = 1 := by decide +kernel
theorem Small.ok {L : List Str} (h : Small L) : (L.map (·.length)).sum + L.length * (Str.ofString "/").length ≤ 16777216 := by
  have := sum_le L h.2
  have := h.1
  rw [sep_len]; omega
theorem Small.add {L : List Str} (h : Small L) : (Str.ofString "/").length + (Txt.join (Str.ofString "/") L).length ≤ sizeLine := by
  have h1 := sum_le L h.2
  have h2 := h.1
  have h3 := join_len (Str.ofString "/") L
  rw [sep_len] at h3
  rw [sep_len, sizeLine_eq]; omega
end
section
open PyProof.Rows.LCg
open AutoSeq1 (wpAny_loadPart')
open MeetsSeq MeetsSeq2 MeetsSeq3
section
variable {prog : Program} {w : World} {A : Around} {s : Shared} {test : Expr} {body orelse : List Stmt} {env : Env} {R : Result → Shared → Prop}
theorem while_turn (h : wpAny (model prog w) A (isTrue test env (eval test env)) (fun b s₁ => if b = true then wpAny (model prog w) A (execs body env) (fun f s₂ => match f with
      | .next | .cont => codeAny (model prog w) A (.whileLoop test body orelse env) R s₂
      | .brk => R (.ok .next) s₂
      | .ret v => R (.ok (.ret v)) s₂) NoE s₁ else wpAny (model prog w) A (execs orelse env) (fun f s' => R (.ok f) s') NoE s₁) NoE s) :
    codeAny (model prog w) A (.whileLoop test body orelse env) R s := by
  refine codeAny_of_tree ?_
  rw [Around.under_of_weight (show Code.weight _ = 0 from rfl) rfl]
  show wpAny _ A ((whileTurn test body orelse env).onRaise _) _ _ s
  refine wpAny_onRaise ?_
  unfold whileTurn
  refine wpAny_bind (wpAny_mono h (fun b s₁ z => ?_) fun _ _ x => x.elim)
  cases b with
  | true =>
    rw [if_pos rfl] at z ⊢
    refine wpAny_bind (wpAny_mono z (fun f s₂ z => ?_) fun _ _ x => x.elim)
    cases f with
    | next => exact wpAny_pure ⟨rfl, z⟩
    | cont => exact wpAny_pure ⟨rfl, z⟩
    | brk => exact wpAny_pure z
    | ret v => exact wpAny_pure z
  | false =>
    rw [if_neg Bool.false_ne_true] at z ⊢
    exact wpAny_bind (wpAny_mono z (fun f s' z => wpAny_pure z) fun _ _ x => x.elim)
end
section
variable {prog : Program} {w : World} {A : Around} {E : Value → Shared → Prop} {s : Shared} {g : Heap} {L a b : Addr} {m : Str → Option Value} {news : Led} {items : List Value} {c : Nat}
theorem len_N {Q : Value → Shared → Prop} (N : News g L s.heap news) (hm : (a, W.listOf items.toArray c) ∈ news) (hz : items.length ≤ 100000) (h : ∀ t tk, Q (.int (items.length : Nat) t) { s with toks := tk }) : wpAny (model prog w) A (call (.builtin "len") [.ref a]) Q E s := by
  refine Calls.call_len_list (items := items.toArray) ⟨_, (N _ hm).1, rfl, _, rfl⟩ (by rw [List.size_toArray]; omega) ?_
  rw [List.size_toArray]
  exact h _ _
theorem argBest_le (ns : Nat → Int) : ∀ k, argBest (fun i j => decide (ns i < ns j)) k ≤ k ∧ ∀ i, i ≤ k → ns (argBest (fun i j => decide (ns i < ns j)) k) ≤ ns i := by
  intro k
  induction k with
  | zero => exact ⟨Nat.le_refl _, fun i hi => by
    obtain rfl : i = 0 := Nat.le_zero.mp hi
    exact Int.le_refl (ns 0)⟩
  | succ k ih =>
    unfold argBest
    split
    · rename_i h
      replace h := of_decide_eq_true h
      refine ⟨Nat.le_refl _, fun i hi => ?_⟩
      rcases Nat.lt_or_ge k i with h1 | h1
      · obtain rfl : i = k + 1 := by omega
        exact Int.le_refl _
      · have := ih.2 i h1; omega
    · rename_i h
      replace h : ¬ (ns (k + 1) < ns (argBest (fun i j => decide (ns i < ns j)) k)) := fun q => h (decide_eq_true q)
      refine ⟨by omega, fun i hi => ?_⟩
      rcases Nat.lt_or_ge k i with h1 | h1
      · obtain rfl : i = k + 1 := by omega
        omega
      · exact ih.2 i h1
theorem rc_int {x y : Int} {t u : Tok} {Q : Value → Shared → Prop} (h : Q (.bool (decide (x < y))) s) : wpAny (model prog w) A (richCompare .Lt (.int x t) (.int y u)) Q E s := lt_int h
theorem minI_N {Q : Value → Shared → Prop} (ns : Nat → Int) (hh : A.handled = none) (F : Fr g L s.heap m) (N : News g L s.heap news) (hm : (a, W.listOf items.toArray c) ∈ news) (hn : 0 < items.length) (hd : ∀ (i : Nat) (v : Value), items[i]? = some v → ∃ t : Tok, v = Value.int (ns i) t)
    (h : ∀ x t h' tk, (∀ i, i < items.length → x ≤ ns i) → (∃ i, i < items.length ∧ x = ns i) → Fr g L h' m → News g L h' news → Q (.int x t) { s with heap := h', toks := tk }) : wpAny (model prog w) A (call (.builtin "min") [.ref a]) Q E s := by
  have hl : s.heap.IsList a items.toArray := ⟨_, (N _ hm).1, rfl, _, rfl⟩
  refine call_min_walk (wpAny_pyIter_list hl ?_)
  have F1 := F.push (liObj a 0)
  have N1 := N.push F (liObj a 0) rfl
  have hne : a ≠ s.heap.objs.size := Nat.ne_of_lt (Heap.lt_size (N _ hm).1)
  have hl1 : (s.heap.push (liObj a 0)).IsList a items.toArray := ⟨_, (N1 _ (.tail _ hm)).1, rfl, _, rfl⟩
  refine ⟨s.heap.objs.size, [s.heap.objs.size, a], [s.heap.objs.size], items.toArray.size, (fun i v => items.toArray[i]? = some v), (fun i h => h.IsListIter s.heap.objs.size a i ∧ h.IsList a items.toArray), (fun i j => decide (ns i < ns j)), rfl, Walks.list (A := A.in1) hh s.heap.objs.size a hne items.toArray, ⟨⟨_, (N1 _ (.head _)).1, rfl, rfl⟩, hl1⟩, fun b hb => ?_, by simpa using hn, fun i j vi vj s' Q' E' hi hj q => ?_, fun v h' tk hv hk => ?_⟩
  · rcases List.mem_cons.mp hb with rfl | hb
    · exact Heap.lt_size (N1 _ (.head _)).1
    · rw [List.mem_singleton.mp hb]; exact Heap.lt_size (N1 _ (.tail _ hm)).1
  · obtain ⟨t, rfl⟩ := hd i vi (by simpa using hi)
    obtain ⟨u, rfl⟩ := hd j vj (by simpa using hj)
    exact rc_int q
  · have hv' : items[argBest (fun i j => decide (ns i < ns j)) (items.length - 1)]? = some v := by simpa using hv
    obtain ⟨t, rfl⟩ := hd _ v hv'
    have hb := argBest_le ns (items.length - 1)
    have hk2 : ∀ q o, s.heap.get? q = some o → h'.get? q = some o := fun q o e => hk q o (by simpa using Nat.ne_of_lt (Heap.lt_size e)) (Heap.get?_push_of_some _ e)
    exact h _ t h' tk (fun i hi => hb.2 i (by omega)) ⟨_, by omega, rfl⟩ (F.keeps hk2) fun p hp => ⟨hk2 _ _ (N p hp).1, (N p hp).2⟩
theorem meets_list_eq_nil (a b : Addr) (items : Array Value) (n1 n2 : Nat) : Meets (Builtin.«list.__eq__» ⟨[.ref a, .ref b], []⟩)
      (fun _ R s => s.heap.get? a = some (W.listOf items n1) ∧ s.heap.get? b = some (W.listOf #[] n2) ∧ R (.ok (.ret (.bool items.isEmpty))) s) := by
  intro prog w A R s h
  obtain ⟨hp, g, d, tk, os⟩ := s; obtain ⟨hl, hb, h⟩ := h
  have f3 := AutoSeq1.sub_list_list
  by_cases he : items.size = 0
  · have hne : ¬ (items.size != (#[] : Array Value).size) = true := by simp [he]
    obtain rfl : items = #[] := Array.eq_empty_of_size_eq_zero he
    wp_walk using wpAny_loadPart' hl, wpAny_loadPart' hb
    exact ⟨plainId_quiet plain_eq_loop _, codeAny_builtin entry_eq_loop (by
      rw [Around.under_plainId plain_eq_loop _]
      exact eq_loop a b #[] #[] n1 n2 rfl (fun _ => true) (fun j h1 => absurd h1 (Nat.not_lt_zero _)) _ 0 rfl prog w A R _ ⟨hl, hb, by simpa using h⟩)⟩
  · have hne : (items.size != (#[] : Array Value).size) = true := by simp; intro q; exact he (by rw [q]; rfl)
    have e2 : items.isEmpty = false := by simp [Array.isEmpty, he]
    rw [e2] at h
    wp_walk using wpAny_loadPart' hl, wpAny_loadPart' hb
    exact h
theorem eq_nil_N {c2 : Nat} {Q : Value → Shared → Prop} (N : News g L s.heap news) (hm : (a, W.listOf items.toArray c) ∈ news) (hm2 : (b, W.listOf #[] c2) ∈ news) (hu : A.units < cLine) (h : Q (.bool items.isEmpty) s) : wpAny (model prog w) A (compareOp .Eq (.ref a) (.ref b)) Q E s := by
  have hT : s.TypeIs (.ref a) "list" := ⟨_, (N _ hm).1, rfl⟩
  have hT2 : s.TypeIs (.ref b) "list" := ⟨_, (N _ hm2).1, rfl⟩
  refine wpAny_richCompare_same_room (op := .Eq) hT hT2 PySem.F.slot_list_eq (call_meets PySem.F.slot_list_eq hT PySem.F.entry_list_eq (PySem.F.args_list_eq_2 _ _) (meets_list_eq_nil a b items.toArray c c2) ⟨(N _ hm).1, (N _ hm2).1, ⟨(fun e => nomatch e), ?_⟩⟩) hu
  rw [List.isEmpty_toArray]; exact h
end
/-- the least length -/
noncomputable def minLen : List (List Str) → Nat
  | [] => 0
  | [L] => L.length
  | L :: M :: r => min L.length (minLen (M :: r))
noncomputable def agree (Ls : List (List Str)) (k : Nat) : Bool := Ls.all fun L => L[k]? == (Ls.head?.getD [])[k]?
noncomputable def aboveK (Ls : List (List Str)) : Nat → Nat → Nat
  | 0, k => k
  | n + 1, k => if k < minLen Ls ∧ agree Ls k = true then aboveK Ls n (k + 1) else k
noncomputable def aboveOf (Ls : List (List Str)) : Str := Str.ofString "/" ++ Txt.join (Str.ofString "/") ((Ls.head?.getD []).take (aboveK Ls (minLen Ls + 1) 0))
theorem minLen_le : ∀ (Ls : List (List Str)) (L : List Str), L ∈ Ls → minLen Ls ≤ L.length
  | [M], L, h => by rw [List.mem_singleton.mp h]; exact Nat.le_refl _
  | M :: P :: r, L, h => by
    unfold minLen
    rcases List.mem_cons.mp h with rfl | h
    · exact Nat.min_le_left _ _
    · exact Nat.le_trans (Nat.min_le_right _ _) (minLen_le _ _ h)
theorem minLen_mem : ∀ (Ls : List (List Str)), Ls ≠ [] → ∃ L ∈ Ls, minLen Ls = L.length
  | [M], _ => ⟨M, .head _, rfl⟩
  | M :: P :: r, _ => by
    obtain ⟨L, hL, e⟩ := minLen_mem (P :: r) (by simp)
    unfold minLen
    rcases Nat.le_total M.length (minLen (P :: r)) with h | h
    · exact ⟨M, .head _, Nat.min_eq_left h⟩
    · exact ⟨L, .tail _ hL, by rw [Nat.min_eq_right h, e]⟩
theorem allNe_le {b d : Nat} {X : Led} (h : AllLt b X) (hb : b ≤ d) : ∀ p ∈ X, p.1 ≠ d := by
  induction X with
  | nil => intro p hp; exact nomatch hp
  | cons a r ih =>
    intro q hq
    rcases List.mem_cons.mp hq with rfl | hq
    · exact Nat.ne_of_lt (Nat.lt_of_lt_of_le h.1 hb)
    · exact ih h.2 q hq
section
variable {prog : Program} {w : World} {A : Around} {s : Shared} {g : Heap} {L Ck : Addr} {m : Str → Option Value} {E1 : Led} {c : Code} {R : Result → Shared → Prop} {ok0 : Obj} {t0 : Tok}
theorem while_cell (F : Fr g L s.heap m) (N : News g L s.heap ((Ck, ok0) :: E1)) (h0 : ok0.data = .cell (some (.int 0 t0))) (K : Nat) (Inv : Nat → Prop) (hI : Inv 0)
    (step : ∀ (k : Nat) h tk ok t, k ≤ K → Inv k → Fr g L h m → News g L h ((Ck, ok) :: E1) → ok.data = .cell (some (.int (k : Int) t)) →
      (k < K → Inv (k + 1) → ∀ h' tk' ok' t', Fr g L h' m → News g L h' ((Ck, ok') :: E1) → ok'.data = .cell (some (.int ((k : Int) + 1) t')) → codeAny (model prog w) A c R { s with heap := h', toks := tk' }) →
      codeAny (model prog w) A c R { s with heap := h, toks := tk }) : codeAny (model prog w) A c R s := by
  have key : ∀ (n k : Nat) h tk ok t, K - k = n → k ≤ K → Inv k → Fr g L h m → News g L h ((Ck, ok) :: E1) → ok.data = .cell (some (.int (k : Int) t)) → codeAny (model prog w) A c R { s with heap := h, toks := tk } := by
    intro n
    induction n with
    | zero =>
      intro k h tk ok t hn hk hI F N hd
      exact step k h tk ok t hk hI F N hd fun hlt => absurd hlt (by omega)
    | succ n ih =>
      intro k h tk ok t hn hk hI F N hd
      exact step k h tk ok t hk hI F N hd fun hlt hI' h' tk' ok' t' F' N' hd' => ih (k + 1) h' tk' ok' t' (by omega) hlt hI' F' N' hd'
  exact key K 0 s.heap s.toks ok0 t0 rfl (Nat.zero_le _) hI F N h0
end
theorem item0_N {prog : Program} {w : World} {A : Around} {E : Value → Shared → Prop} {s : Shared} {g : Heap} {L a : Addr} {news : Led} {items : List Value} {c : Nat} {v : Value} {u : Tok} {value slice : Expr} {Q : Value → Shared → Prop} (N : News g L s.heap news) (hm : (a, W.listOf items.toArray c) ∈ news) (hx : items[0]? = some v) (h : Q v s)
    (hs : subscripted slice false (.ref a) (.int 0 u) = operate [.ref a, .int 0 u] (getItem (.ref a) (.int 0 u)) := by with_unfolding_all rfl) :
    wpAny (model prog w) A (subscriptTail value slice (.ref a) (.int 0 u)) Q E s :=
  tail_any (Heap.IsList.typeIs ⟨_, (N _ hm).1, rfl, _, rfl⟩) slot_list_getitem.lookup (wpAny_getItem_list (s := s) (k := 0) ⟨_, (N _ hm).1, rfl, _, rfl⟩ (by decide) (by decide) (by simpa using hx) h) hs
theorem Res.empty {p : Nat → Bool} {G : Nat → Value → Led → Prop} {n : Nat} {ys : List Value} {made : Led} (h : Res p G n ys made) : ys.isEmpty = (List.range n).all fun i => !p i := by
  induction h with
  | nil => rfl
  | skip hq _ ih => rw [List.range_succ, List.all_append, ← ih]; simp [hq]
  | take hq _ _ ih => rw [List.range_succ, List.all_append]; simp [hq]
theorem agree_range {Ls : List (List Str)} {k : Nat} {L0 : List Str} {r : List (List Str)} (e : Ls = L0 :: r) (f : Nat → Bool) (hf : ∀ i L, Ls[i]? = some L → f i = !(L[k]? == L0[k]?)) : ((List.range Ls.length).all fun i => !f i) = agree Ls k := by
  unfold agree
  have h0 : Ls.head?.getD [] = L0 := by rw [e]; rfl
  rw [h0, Bool.eq_iff_iff, List.all_eq_true, List.all_eq_true]
  constructor
  · intro h L hL
    obtain ⟨i, hi, rfl⟩ := List.getElem_of_mem hL
    have := h i (List.mem_range.mpr hi)
    rw [hf i Ls[i] (List.getElem?_eq_getElem hi)] at this
    simpa using this
  · intro h i hi
    have hi' := List.mem_range.mp hi
    rw [hf i Ls[i] (List.getElem?_eq_getElem hi')]
    simpa using h Ls[i] (List.getElem_mem hi')
theorem slice_upto_N2 {prog : Program} {w : World} {A : Around} {E : Value → Shared → Prop} {s : Shared} {g : Heap} {L a : Addr} {m : Str → Option Value} {news : Led} {l1 : List (Str × Tok)} {c i : Nat} {u : Tok} {value slice : Expr} {Q : Value → Shared → Prop} (F : Fr g L s.heap m) (N : News g L s.heap news) (hm : (a, W.listOf (strValues l1).toArray c) ∈ news) (hi : i ≤ l1.length) (hz : (strValues l1).toArray.size ≤ sizeLine)
    (h : ∀ D h', Fr g L h' m → News g L h' ((D, W.listOf (strValues (l1.take i)).toArray 0) :: news) → (∀ p ∈ news, p.1 < D) → Q (.ref D) { s with heap := h' })
    (hs : subscripted slice false (.ref a) (.ref s.heap.objs.size) = operate [.ref s.heap.objs.size, .ref a] (getItem (.ref a) (.ref s.heap.objs.size))) (ht : ∀ r, letTemporaryGo value (.ref a) r = pure ()) :
    wpAny (model prog w) A (subscriptTail value slice (.ref a) (.ref s.heap.objs.size)) Q E { s with heap := s.heap.push { cls := .type "slice", data := .fields #[.none, .int (i : Int) u, .none] } } := by
  refine kmk_slice F N (its := (strValues l1).toArray) ⟨_, (N _ hm).1, rfl, _, rfl⟩ .none (.int _ _) (fun D h' F' N' l0 => h D h' F' ?_ l0) hs ht hz
  have e : slicePick (strValues l1).toArray none (some (i : Int)) none = (strValues (l1.take i)).toArray := by
    rw [slicePick_upto _ _ (by simp [strValues]; omega)]
    simp [strValues, List.map_take]
  rw [← e]; exact N'
theorem above_step {Ls : List (List Str)} {k : Nat} (h1 : k < minLen Ls) (h2 : agree Ls k = true) : aboveK Ls (minLen Ls + 1 - k) k = aboveK Ls (minLen Ls + 1 - (k + 1)) (k + 1) := by
  have : minLen Ls + 1 - k = (minLen Ls + 1 - (k + 1)) + 1 := by omega
  rw [this]
  show (if k < minLen Ls ∧ agree Ls k = true then _ else _) = _
  rw [if_pos ⟨h1, h2⟩]
theorem above_stop {Ls : List (List Str)} {k n : Nat} (h : ¬ (k < minLen Ls ∧ agree Ls k = true)) : aboveK Ls n k = k := by
  cases n with
  | zero => rfl
  | succ n =>
    show (if k < minLen Ls ∧ agree Ls k = true then _ else _) = _
    rw [if_neg h]
theorem above_is {b : Addr × List Str} {br : List (Addr × List Str)} {l0 : List (Str × Tok)} {k : Nat} (e0 : l0.map (·.1) = b.2) (hk : aboveK ((b :: br).map (·.2)) (minLen ((b :: br).map (·.2)) + 1) 0 = k) :
    Str.ofString "/" ++ Txt.join (Str.ofString "/") ((l0.take k).map (·.1)) = aboveOf ((b :: br).map (·.2)) := by
  unfold aboveOf
  rw [hk, List.map_take, e0]
  rfl
end
section
theorem rulesAbove : True := by
  k_with_none
  k_with "k_ne" => (refine neN ?_; (try dsimp only); first | exact Nat.ne_of_lt (by with_reducible assumption) | exact Nat.ne_of_gt (by with_reducible assumption) | with_reducible assumption | exact neL_up (by with_reducible assumption) | with_reducible exact neL_13 | with_reducible exact neL_23 | with_reducible exact neL_12 | with_reducible exact neL_31 | with_reducible exact neL_32 | with_reducible exact neL_21 | exact Nat.ne_of_gt (by walk_at "pick") | exact Nat.ne_of_lt (by walk_at "pick") | omega)
  k_with "pick" => first | with_reducible assumption | with_reducible exact j1 (by assumption) | with_reducible exact j2 (by assumption) | with_reducible exact j3 (by assumption) | with_reducible exact j4 (by assumption) | with_reducible exact j5 (by assumption) | with_reducible exact j6 (by assumption) | with_reducible exact j7 (by assumption) | with_reducible exact j8 (by assumption) | with_reducible exact j9 (by assumption) | with_reducible exact j10 (by assumption) | with_reducible exact j11 (by assumption) | with_reducible exact j12 (by assumption) | with_reducible exact j13 (by assumption) | with_reducible exact j14 (by assumption) | with_reducible exact j15 (by assumption)
  k_with "om" => first | walk_at "pick" | with_reducible exact Nat.lt_trans (by assumption) (by walk_at "pick")
  k_with "k_mem" => first | exact List.Mem.head _ | assumption | exact List.mem_append_left _ (by assumption) | exact List.mem_append_right _ (by assumption) | (refine' List.Mem.tail _ ?_; k_extra "k_mem")
  k_with "room" => first | exact rm1 (by assumption) (by decide) | exact rm2 (by assumption) (by decide) | exact rm0 (by assumption) | exact rm3 (by assumption) (by decide) | ktr_room
  k_with "units" => first | exact rm1 (by assumption) (by decide) | exact rm2 (by assumption) (by decide) | exact rm0 (by assumption) | exact rm3 (by assumption) (by decide) | ktr_units
  k_with "lt" => try ((rename ∀ p ∈ (_ : List (Addr × Obj)), @LT.lt Nat _ p.1 _ => q9l9); k_lt q9l9; revert q9l9; intro _)
  k_with "dn" => try dsimp only [List.cons_append, List.nil_append] at ‹News _ _ _ _›
  k_with "dd" => try dsimp only [List.cons_append, List.nil_append] at ‹Obj.IsDictOf _ _ _›
  k_with "ds" => try dsimp only [List.cons_append, List.nil_append] at ‹LexSt _ _ _ _ _›
  k_with "end 0" => (intro q9g' q9L' q9h' q9off' q9FG' q9F' q9N' q9B' q9X' q9T' q9l0'; (try k_lt q9l0'); (try dsimp only); (try k_lift q9B'); (try k_fold))
  k_with "end 1" => (intro q9g' q9L' q9h' q9tk' q9cells' q9off' q9FG' q9F' q9N' q9Y' q9B' q9X' q9T' q9l0'; (try k_lt q9l0'); k_cells q9Y'; (try dsimp only [List.cons_append, List.nil_append] at q9N'); (try dsimp only); (try k_lift q9B'); (try k_fold))
  k_with "enterF" => (k_dflt (refine' enterF (by k_asm) (by k_asm) (by k_asm) (by k_asm) (by k_asm) (by exact rfl) (by exact rfl) (by assumption) (by k_is) (by k_is) (by walk_at "room") (by first | exact BindsTo.of_eq rfl | exact binds_K (by k_in) rfl (by k_is) rfl rfl rfl) (by exact locs rfl) ?_ (by exact rfl) (by exact rfl) (by exact rfl) (by decide); k_whole; walk_at "end 0"))
  k_with "enterFC" => (k_dflt (refine' enterFC (by k_asm) (by k_asm) (by k_asm) (by k_asm) (by k_asm) (by exact rfl) (by exact rfl) (by assumption) (by k_is) (by k_is) (by walk_at "room") (by first | exact BindsTo.of_eq rfl | exact binds_K (by k_in) rfl (by k_is) rfl rfl rfl) (by exact rfl) (by decide +kernel) ?_ (by exact rfl) (by exact rfl) (by exact rfl); k_whole; walk_at "end 1"))
  k_with "k_del" => first | (refine' Del.head (by k_all)) | (refine' Del.tail (by k_ne) (by walk_at "k_del"))
  k_with "eval ListComp" => (k_here; k_dflt (refine lc_enter (by k_asm) (by with_unfolding_all rfl) (by decide) (by rfl) (by decide) ?_ (by intro _; rfl)))
  k_with "call type:enumerate" => (k_here; k_dflt (refine' enum_list_N (by k_asm) (by k_asm) (by exact News.isList (by k_asm) (by k_mem)) ?_; k_whole); intros; walk_at "lt"; (try k_sweep))
  k_with "pyIter ref" => (k_here; k_dflt (first | (refine' pyIter_enum_N (by k_asm) (by k_mem) ?_; k_whole) | (refine' pyIter_tupo_N (by k_asm) (by k_asm) (by k_mem) ?_; k_whole; intros; walk_at "lt"; (try k_sweep)) | (refine' pyIter_list_N (by k_asm) (by k_asm) (by exact News.isList (by k_asm) (by k_mem)) ?_; k_whole; intros; walk_at "lt"; (try k_sweep))))
  k_with "exec Assign cons ListComp" => (k_here; k_dflt (refine' lc_assign (by k_asm) (by rfl) (by with_unfolding_all rfl) (by with_unfolding_all rfl) (by decide) (by rfl) (by decide) (by rfl) (by rfl) ?_ (by intro _; rfl)))
  k_with "k_all" => first | exact List.forall_mem_nil _ | exact allNe_of (by assumption) | exact allNe_le (by assumption) (by omega) | exact allNe_gt (by assumption) | exact List.forall_mem_cons.mpr ⟨by k_ne, by k_extra "k_all"⟩
  k_with "subscriptTail" => (k_here; (with_reducible show wpAny _ _ (subscriptTail _ _ (Value.ref _) (Value.int _ _)) _ _ _); k_dflt (refine' itemL_N (by k_asm) (by k_mem) (by assumption) (by assumption) ?_ (by with_unfolding_all rfl); k_whole))
  k_with "subscriptTail" => (k_here; (with_reducible show wpAny _ _ (subscriptTail _ _ (Value.ref _) (Value.ref _)) _ _ _); k_dflt (refine' slice_upto_N2 (by k_asm) (by k_asm) (by k_mem) (by assumption) (by assumption) ?_ (by with_unfolding_all rfl) (by intro _; with_unfolding_all rfl); k_whole); intros; walk_at "lt"; (try k_sweep))
  k_with "call builtin:str.join" => (k_here; (with_reducible show wpAny _ _ (call (Value.builtin "str.join") [Value.str _ _, Value.ref _]) _ _ _); k_dflt (refine' join_Nl (by k_asm) (by k_mem) (by assumption) ?_; k_whole); intros)
  k_with "binaryOp Add str str" => (k_here; (with_reducible show wpAny _ _ (binaryOp Operator.Add (Value.str _ _) (Value.str _ _)) _ _ _); k_dflt (refine' PyProof.Rows.add_str ?_ (by assumption); k_whole); intros)
  k_with "call builtin:len" => (k_here; (with_reducible show wpAny _ _ (call (Value.builtin "len") [Value.ref _]) _ _ _); k_dflt (refine' len_N (by k_asm) (by k_mem) (by assumption) ?_; k_whole); intros)
  k_with "compareOp Eq ref ref" => (k_here; (with_reducible show wpAny _ _ (compareOp CmpOp.Eq (Value.ref _) (Value.ref _)) _ _ _); k_dflt (refine' eq_nil_N (by k_asm) (by k_mem) (by k_mem) (by walk_at "units") ?_; k_whole))
  k_with "exec While BoolOp cons nil" => (k_here; k_dflt (refine wpAny_While ?_))
  k_with "subscriptTail" => (k_here; (with_reducible show wpAny _ _ (subscriptTail _ _ (Value.ref _) (Value.int 0 _)) _ _ _); k_dflt (refine' item0_N (by k_asm) (by k_mem) (by assumption) ?_ (by with_unfolding_all rfl); k_whole))
  k_with "subscriptTail Name" => walk_at "subscriptTail"
  k_with "subscriptTail Name Name ref int" => walk_at "subscriptTail"
  k_with "subscriptTail Name Name ref str" => walk_at "subscriptTail"
  k_with "subscriptTail Name Slice ref ref" => walk_at "subscriptTail"
  k_with "subscriptTail Name Constant ref int" => walk_at "subscriptTail"
  exact True.intro
theorem above_con (w : World) (p : Program) (loose : List Str) (mean : ExcName → Option Value) (mg mb : Str → Option Value) (l : Addr) (ps : List (Addr × List Str)) (rl : Led) (c : Nat) (hps : ps ≠ []) (hin : ∀ p ∈ ps, InMade rl p) (sm : ∀ p ∈ ps, Small p.2) (hz : ps.length ≤ 100) :
   ConF PySem.Challenge.rw_un0041_01.row.prog w (hd.heap_39 w.params) p loose mean mg mb 5 245 [.ref l] ((l, W.listOf (ps.map (fun p => Value.ref p.1)).toArray c) :: rl)
    (fun r E1 => E1 = (l, W.listOf (ps.map (fun p => Value.ref p.1)).toArray c) :: rl ∧ ∃ t, r = .str (aboveOf (ps.map (·.2))) t) := by
  k_fill
  obtain ⟨b0, br, rfl⟩ : ∃ b r, ps = b :: r := by
    cases ps with
    | nil => exact absurd rfl hps
    | cons a b => exact ⟨a, b, rfl⟩
  obtain ⟨l0, n0, hm0, e0⟩ := hin b0 (.head _)
  have hx0 : (List.map (fun p : Addr × List Str => Value.ref p.1) (b0 :: br))[0]? = some (.ref b0.1) := rfl
  have hlen0 : ((b0 :: br).map (fun p : Addr × List Str => Value.ref p.1)).length = (b0 :: br).length := List.length_map ..
  intro dp un gd cn cs a ccd cl outer A₀ base h₀ L m s R B F X N T hk hd hu ret
  walk_at "enterFC"
  repeat (rename _ ∧ _ => kL7; obtain ⟨_, _⟩ := kL7)
  iterate 8 (try walk1)
  (rename Fr _ _ _ _ => kF9)
  (rename News _ _ _ _ => kN9)
  refine while_cell kF9 kN9 (by assumption) (minLen ((b0 :: br).map (·.2))) (fun k => aboveK ((b0 :: br).map (·.2)) (minLen ((b0 :: br).map (·.2)) + 1) 0 = aboveK ((b0 :: br).map (·.2)) (minLen ((b0 :: br).map (·.2)) + 1 - k) k) rfl ?_
  clear kF9 kN9
  intro k h1 tk1 ok t1 hk1 hI F1 N1 hd1 back
  refine while_turn ?_
  k_steps
  (rename Fr _ _ _ _ => kF9)
  (rename News _ _ _ _ => kN9)
  refine LcGo_list (items := ((b0 :: br).map (fun p : Addr × List Str => Value.ref p.1)).toArray) (p := fun _ => true) (G := fun i y mk => mk = [] ∧ ∃ t, y = .int ((((b0 :: br).map (·.2)).getD i []).length : Nat) t) ?hn1 rfl kF9 kN9 ?hI1 (by k_mem) rfl rfl ?he1 ?hq1
  case hn1 => rw [List.size_toArray, hlen0, sizeLine_eq]; omega
  case hI1 => k_all
  case he1 =>
    clear kF9 kN9
    intro C i s1 oC m₁ X' Kt Ks hi F2 N2 hO hB hC hT hF
    obtain ⟨v, hv, hm⟩ := hB
    have hi2 : i < (b0 :: br).length := by rw [List.size_toArray, hlen0] at hi; exact hi
    obtain rfl : v = .ref (b0 :: br)[i].1 := by
      have : ((b0 :: br).map (fun p : Addr × List Str => Value.ref p.1))[i]? = some v := by simpa using hv
      rw [List.getElem?_map, List.getElem?_eq_getElem hi2] at this
      simpa using this.symm
    obtain ⟨li, ni, hmi, eli⟩ := hin _ (List.getElem_mem hi2)
    have hgd : ((b0 :: br).map (·.2)).getD i [] = (b0 :: br)[i].2 := by rw [List.getD_eq_getElem?_getD, List.getElem?_map, List.getElem?_eq_getElem hi2]; rfl
    rw [hgd] at hT
    have hsm := (sm _ (List.getElem_mem hi2)).1
    generalize (b0 :: br)[i] = pp at *
    have hlz : (strValues li).length ≤ 100000 := by rw [← eli] at hsm; simp [strValues] at hsm ⊢; omega
    dsimp only [List.cons_append, List.nil_append] at N2
    refine wpAny_tests_nil (ite_pos rfl ?_)
    k_steps
    refine hT rfl _ [] _ _ ⟨rfl, _, congrArg (Value.int · _) ?_⟩ (by simp) (by k_asm) (by assumption)
    rw [← eli]; simp [strValues]
  case hq1 =>
    clear kF9 kN9
    intro D1 ys1 made1 c1 h2 tk2 hR1 hlt1 hmd1 F2 N2
    obtain rfl := hR1.pure fun i y mk h => h.1
    obtain ⟨hyl, hyg⟩ := hR1.get fun _ => rfl
    simp only [List.append_nil] at N2
    k_lt hlt1
    k_steps
    (rename Fr _ _ _ _ => kF9)
    (rename News _ _ _ _ => kN9)
    refine minI_N (items := ys1) (fun i => ((((b0 :: br).map (·.2)).getD i []).length : Nat)) rfl kF9 kN9 (by k_mem) ?p1 ?p2 fun x t h3 tk3 hxl hxm F3 N3 => ?_
    case p1 => rw [hyl, List.size_toArray, hlen0]; simp
    case p2 =>
      intro i v hv
      obtain ⟨mk, ⟨_, t, rfl⟩, _⟩ := hyg i v hv
      exact ⟨t, rfl⟩
    clear kF9 kN9
    have hgi : ∀ i, i < (b0 :: br).length → ((b0 :: br).map (·.2)).getD i [] ∈ (b0 :: br).map (·.2) := fun i hi => by
      have hi' : i < ((b0 :: br).map (·.2)).length := by rw [List.length_map]; exact hi
      rw [List.getD_eq_getElem?_getD, List.getElem?_eq_getElem hi']
      exact List.getElem_mem hi'
    have hyl2 : ys1.length = (b0 :: br).length := by rw [hyl, List.size_toArray, hlen0]
    have hxe : x = (minLen ((b0 :: br).map (·.2)) : Nat) := by
      obtain ⟨i, hi, ex⟩ := hxm
      obtain ⟨L1, hL1, eL1⟩ := minLen_mem ((b0 :: br).map (·.2)) (by simp)
      obtain ⟨j, hj, ej⟩ := List.getElem_of_mem hL1
      have h1 := minLen_le _ _ (hgi i (by rw [← hyl2]; exact hi))
      have h2 := hxl j (by rw [hyl2]; rw [List.length_map] at hj; exact hj)
      have h3 : ((b0 :: br).map (·.2)).getD j [] = L1 := by rw [List.getD_eq_getElem?_getD, List.getElem?_eq_getElem hj, ← ej]; rfl
      rw [h3] at h2
      omega
    subst hxe
    have hkl : k ≤ l0.length := by
      have := minLen_le _ _ (List.mem_map_of_mem (f := (·.2)) (List.Mem.head br (a := b0)))
      rw [← e0] at this
      simp only [List.length_map] at this
      omega
    have sm0 := sm b0 (.head _)
    have hz0 : (strValues l0).toArray.size ≤ sizeLine := by
      have := sm0.1
      rw [← e0] at this
      rw [sizeLine_eq]; simp [strValues] at this ⊢; omega
    have smk : Small ((l0.take k).map (·.1)) := by rw [List.map_take, e0]; exact sm0.take k
    have hok := smk.ok
    have hadd := smk.add
    k_steps
    · (rename Fr _ _ _ _ => kF9)
      (rename News _ _ _ _ => kN9)
      have hkm : k < minLen ((b0 :: br).map (·.2)) := by omega
      have hk0 : k < l0.length := by
        have := minLen_le _ _ (List.mem_map_of_mem (f := (·.2)) (List.Mem.head br (a := b0)))
        rw [← e0, List.length_map] at this
        omega
      have hz02 : (strValues l0).length ≤ 100000 := by
        have := sm0.1
        rw [← e0] at this
        simp [strValues] at this ⊢; omega
      have hx2 : (strValues l0)[k]? = some (.str l0[k].1 l0[k].2) := by simp [strValues, hk0]
      refine LcGo_list (items := ((b0 :: br).map (fun p : Addr × List Str => Value.ref p.1)).toArray) (p := fun i => !((((b0 :: br).map (·.2)).getD i [])[k]? == b0.2[k]?)) (G := fun i y mk => mk = []) ?hn2 rfl kF9 kN9 ?hI2 (by k_mem) rfl rfl ?he2 ?hq2
      case hn2 => rw [List.size_toArray, hlen0, sizeLine_eq]; omega
      case hI2 => k_all
      case he2 =>
        clear kF9 kN9
        intro C i s1 oC m₁ X' Kt Ks hi F2 N2 hO hB hC hT hF
        obtain ⟨v, hv, hm⟩ := hB
        have hi2 : i < (b0 :: br).length := by rw [List.size_toArray, hlen0] at hi; exact hi
        obtain rfl : v = .ref (b0 :: br)[i].1 := by
          have : ((b0 :: br).map (fun p : Addr × List Str => Value.ref p.1))[i]? = some v := by simpa using hv
          rw [List.getElem?_map, List.getElem?_eq_getElem hi2] at this
          simpa using this.symm
        obtain ⟨li, ni, hmi, eli⟩ := hin _ (List.getElem_mem hi2)
        have hgd : ((b0 :: br).map (·.2)).getD i [] = (b0 :: br)[i].2 := by rw [List.getD_eq_getElem?_getD, List.getElem?_map, List.getElem?_eq_getElem hi2]; rfl
        have hml := minLen_le _ _ (List.mem_map_of_mem (f := (·.2)) (List.getElem_mem hi2))
        rw [hgd] at hT hF
        have hsm := (sm _ (List.getElem_mem hi2)).1
        generalize (b0 :: br)[i] = pp at *
        have hlz : (strValues li).length ≤ 100000 := by rw [← eli] at hsm; simp [strValues] at hsm ⊢; omega
        have hki : k < li.length := by
          have : pp.2.length = li.length := by rw [← eli]; simp
          omega
        have hxi : (strValues li)[k]? = some (.str li[k].1 li[k].2) := by simp [strValues, hki]
        have e3 : pp.2[k]? = some li[k].1 := by rw [← eli]; simp [hki]
        have e4 : b0.2[k]? = some l0[k].1 := by rw [← e0]; simp [hk0]
        rw [e3, e4] at hT hF
        dsimp only [List.cons_append, List.nil_append] at N2
        refine wpAny_tests_one ?_
        k_steps
        · exact hT (by simpa [bne] using (by assumption : (li[k].1 != l0[k].1) = true)) _ [] _ _ rfl (by simp) (by k_asm) (by assumption)
        · exact hF (by simpa [bne] using (by assumption : (li[k].1 != l0[k].1) = false)) _ _ (by k_asm) (by assumption)
      case hq2 =>
        clear kF9 kN9
        intro D2 ys2 made2 c2 h4 tk4 hR2 hlt2 hmd2 F4 N4
        obtain rfl := hR2.pure fun i y mk h => h
        have hemp := hR2.empty
        simp only [List.append_nil] at N4
        k_lt hlt2
        have hag : ys2.isEmpty = agree ((b0 :: br).map (·.2)) k := by
          rw [hemp, List.size_toArray, hlen0, show (b0 :: br).length = ((b0 :: br).map (·.2)).length from (List.length_map ..).symm]
          refine agree_range (Ls := (b0 :: br).map (·.2)) (L0 := b0.2) (r := br.map (·.2)) rfl _ fun i L hL => ?_
          rw [List.getD_eq_getElem?_getD, hL]; rfl
        k_steps
        · show codeAny _ _ _ _ _
          (rename News _ _ _ _ => kN9)
          have ht : ys2.isEmpty = true := by assumption
          rw [hag] at ht
          exact back hkm (hI.trans (above_step hkm ht)) _ _ _ _ (by k_asm) (fun q hq => kN9 q (by repeat (first | exact hq | apply List.Mem.tail))) (by assumption)
        · (rename News _ _ _ _ => kN9)
          have ht : ys2.isEmpty = false := by assumption
          rw [hag] at ht
          refine ret _ _ _ _ (by k_asm) (fun q hq => kN9 q (by repeat (first | exact hq | apply List.Mem.tail))) (Off.trans (by assumption) (Fr.keep (by k_asm))) ⟨rfl, _, congrArg (Value.str · _) (above_is e0 (hI.trans (above_stop fun h => ?_)))⟩
          rw [ht] at h; exact Bool.false_ne_true h.2
    · (rename News _ _ _ _ => kN9)
      have hkm : ¬ k < minLen ((b0 :: br).map (·.2)) := by omega
      refine ret _ _ _ _ (by k_asm) (fun q hq => kN9 q (by repeat (first | exact hq | apply List.Mem.tail))) (Off.trans (by assumption) (Fr.keep (by k_asm))) ⟨rfl, _, congrArg (Value.str · _) (above_is e0 (hI.trans (above_stop fun h => hkm h.1)))⟩
end
section
theorem rulesCP1 : True := by
  k_with_none
  k_with "k_ne" => (refine neN ?_; (try dsimp only); first | exact Nat.ne_of_lt (by with_reducible assumption) | exact Nat.ne_of_gt (by with_reducible assumption) | with_reducible assumption | exact neL_up (by with_reducible assumption) | with_reducible exact neL_13 | with_reducible exact neL_23 | with_reducible exact neL_12 | with_reducible exact neL_31 | with_reducible exact neL_32 | with_reducible exact neL_21 | exact Nat.ne_of_gt (by walk_at "pick") | exact Nat.ne_of_lt (by walk_at "pick") | omega)
  k_with "pick" => first | with_reducible assumption | with_reducible exact j1 (by assumption) | with_reducible exact j2 (by assumption) | with_reducible exact j3 (by assumption) | with_reducible exact j4 (by assumption) | with_reducible exact j5 (by assumption) | with_reducible exact j6 (by assumption) | with_reducible exact j7 (by assumption) | with_reducible exact j8 (by assumption) | with_reducible exact j9 (by assumption) | with_reducible exact j10 (by assumption) | with_reducible exact j11 (by assumption) | with_reducible exact j12 (by assumption) | with_reducible exact j13 (by assumption) | with_reducible exact j14 (by assumption) | with_reducible exact j15 (by assumption)
  k_with "om" => first | walk_at "pick" | with_reducible exact Nat.lt_trans (by assumption) (by walk_at "pick")
  k_with "k_mem" => first | exact List.Mem.head _ | assumption | exact List.mem_append_left _ (by assumption) | exact List.mem_append_right _ (by assumption) | (refine' List.Mem.tail _ ?_; k_extra "k_mem")
  k_with "room" => first | exact rm1 (by assumption) (by decide) | exact rm2 (by assumption) (by decide) | exact rm0 (by assumption) | exact rm3 (by assumption) (by decide) | ktr_room
  k_with "units" => first | exact rm1 (by assumption) (by decide) | exact rm2 (by assumption) (by decide) | exact rm0 (by assumption) | exact rm3 (by assumption) (by decide) | ktr_units
  k_with "lt" => try ((rename ∀ p ∈ (_ : List (Addr × Obj)), @LT.lt Nat _ p.1 _ => q9l9); k_lt q9l9; revert q9l9; intro _)
  k_with "dn" => try dsimp only [List.cons_append, List.nil_append] at ‹News _ _ _ _›
  k_with "dd" => try dsimp only [List.cons_append, List.nil_append] at ‹Obj.IsDictOf _ _ _›
  k_with "ds" => try dsimp only [List.cons_append, List.nil_append] at ‹LexSt _ _ _ _ _›
  k_with "end 0" => (intro q9g' q9L' q9h' q9off' q9FG' q9F' q9N' q9B' q9X' q9T' q9l0'; (try k_lt q9l0'); (try dsimp only); (try k_lift q9B'); (try k_fold))
  k_with "end 1" => (intro q9g' q9L' q9h' q9tk' q9cells' q9off' q9FG' q9F' q9N' q9Y' q9B' q9X' q9T' q9l0'; (try k_lt q9l0'); k_cells q9Y'; (try dsimp only [List.cons_append, List.nil_append] at q9N'); (try dsimp only); (try k_lift q9B'); (try k_fold))
  k_with "end 4" => (intro q9M' q9T' q9I' q9h' q9F' q9N' q9l1 q9l2 q9l3; (try k_lt q9l3); (try k_lt2 q9l1); (try k_lt2 q9l2); (try k_sweep))
  k_with "end 5" => (intro q9D' q9l' q9h' q9k' q9e' q9a' q9F' q9N' q9l1; (have q9l1c := q9l1); (try k_lt q9l1); (try k_sweep))
  k_with "enterF" => (k_dflt (refine' enterF (by k_asm) (by k_asm) (by k_asm) (by k_asm) (by k_asm) (by exact rfl) (by exact rfl) (by assumption) (by k_is) (by k_is) (by walk_at "room") (by first | exact BindsTo.of_eq rfl | exact binds_K (by k_in) rfl (by k_is) rfl rfl rfl) (by exact locs rfl) ?_ (by exact rfl) (by exact rfl) (by exact rfl) (by decide); k_whole; walk_at "end 0"))
  k_with "enterFC" => (k_dflt (refine' enterFC (by k_asm) (by k_asm) (by k_asm) (by k_asm) (by k_asm) (by exact rfl) (by exact rfl) (by assumption) (by k_is) (by k_is) (by walk_at "room") (by first | exact BindsTo.of_eq rfl | exact binds_K (by k_in) rfl (by k_is) rfl rfl rfl) (by exact rfl) (by decide +kernel) ?_ (by exact rfl) (by exact rfl) (by exact rfl); k_whole; walk_at "end 1"))
  k_with "k_del" => first | (refine' Del.head (by k_all)) | (refine' Del.tail (by k_ne) (by walk_at "k_del"))
  k_with "eval ListComp" => (k_here; k_dflt (refine lc_enter (by k_asm) (by with_unfolding_all rfl) (by decide) (by rfl) (by decide) ?_ (by intro _; rfl)))
  k_with "call type:enumerate" => (k_here; k_dflt (refine' enum_list_N (by k_asm) (by k_asm) (by exact News.isList (by k_asm) (by k_mem)) ?_; k_whole); intros; walk_at "lt"; (try k_sweep))
  k_with "call type:map" => (k_here; k_dflt (refine' map_N (by k_asm) (by k_asm) (by exact News.isList (by k_asm) (by k_mem)) ?_; k_whole); walk_at "end 4")
  k_with "call type:tuple" => (k_here; k_dflt (refine' tuple_fspath_N (by assumption) (by assumption) (by k_asm) (by k_asm) (by k_asm) (by k_asm) (by exact rfl) (by (first | with_reducible assumption | omega | walk_at "room")) (by (first | with_reducible assumption | omega | walk_at "units")) (by k_asm) (by k_mem) (by k_ne) (by k_ne) (by k_all) ?_; k_whole); intros; walk_at "lt"; (try k_sweep))
  k_with "truthy ref" => (k_here; k_dflt (refine' truthy_tup_cons (by k_asm) (by k_mem) (by (simp only [List.length_cons] at *; omega)) ?_; k_whole))
  k_with "subscriptTail" => (k_here; (with_reducible show wpAny _ _ (subscriptTail _ _ (Value.ref _) (Value.int _ _)) _ _ _); k_dflt (refine' tup0_N (by k_asm) (by k_mem) ?_ (by with_unfolding_all rfl); k_whole))
  k_with "exec Try" => (k_here; refine try_no ?_; (try k_fold))
  k_with "pyIter ref" => (k_here; k_dflt (first | (refine' pyIter_enum_N (by k_asm) (by k_mem) ?_; k_whole) | (refine' pyIter_tupo_N (by k_asm) (by k_asm) (by k_mem) ?_; k_whole; intros; walk_at "lt"; (try k_sweep)) | (refine' pyIter_list_N (by k_asm) (by k_asm) (by exact News.isList (by k_asm) (by k_mem)) ?_; k_whole; intros; walk_at "lt"; (try k_sweep))))
  k_with "exec Assign cons ListComp" => (k_here; k_dflt (refine' lc_assign (by k_asm) (by rfl) (by with_unfolding_all rfl) (by with_unfolding_all rfl) (by decide) (by rfl) (by decide) (by rfl) (by rfl) ?_ (by intro _; rfl)))
  k_with "call builtin:str.split" => (k_here; (with_reducible show wpAny _ _ (call (Value.builtin "str.split") _) _ _ _); (refine KSpl.split1 (by k_asm) (by k_asm) (by decide) ?_ (by (rw [sizeLine_eq]; omega))); walk_at "end 5")
  k_with "k_all" => first | exact List.forall_mem_nil _ | exact allNe_of (by assumption) | exact allNe_gt (by assumption) | exact List.forall_mem_cons.mpr ⟨by k_ne, by k_extra "k_all"⟩
  k_with "eval SetComp" => (k_here; k_dflt (refine sc_enter (by k_asm) (by with_unfolding_all rfl) (by decide) (by rfl) (by decide) ?_ (by intro _; rfl)))
  k_with "assign Tuple" => (k_here; (with_reducible show wpAny _ _ (assign (Expr.Tuple [_] _ _) _ _) _ _ _); k_dflt (refine' asg_set1 rfl (by k_asm) (by k_asm) (by k_mem) (by rfl) (by rfl) (by rfl) ?_; k_whole); intros; (try k_sweep))
  k_with "exec For Tuple Call cons nil" => (k_here; k_dflt (refine wpAny_For ?_ (by intro _; rfl)))
  k_with "subscriptTail" => (k_here; (with_reducible show wpAny _ _ (subscriptTail _ _ (Value.ref _) (Value.int _ _)) _ _ _); k_dflt (refine' itemL_N (by k_asm) (by k_mem) (by assumption) (by assumption) ?_ (by with_unfolding_all rfl); k_whole))
  k_with "subscriptTail" => (k_here; (with_reducible show wpAny _ _ (subscriptTail _ _ (Value.ref _) (Value.ref _)) _ _ _); k_dflt (refine' slice_upto_N (by k_asm) (by k_asm) (by k_mem) (by assumption) (by assumption) ?_ (by with_unfolding_all rfl) (by intro _; with_unfolding_all rfl); k_whole); intros; walk_at "lt"; (try k_sweep))
  k_with "call builtin:str.join" => (k_here; (with_reducible show wpAny _ _ (call (Value.builtin "str.join") [Value.str _ _, Value.ref _]) _ _ _); k_dflt (refine' join_Nl (by k_asm) (by k_mem) (by assumption) ?_; k_whole); intros)
  k_with "binaryOp Add str str" => (k_here; (with_reducible show wpAny _ _ (binaryOp Operator.Add (Value.str _ _) (Value.str _ _)) _ _ _); k_dflt (refine' PyProof.Rows.add_str ?_ (by assumption); k_whole); intros)
  k_with "subscriptTail Name" => walk_at "subscriptTail"
  k_with "subscriptTail Name Name ref int" => walk_at "subscriptTail"
  k_with "subscriptTail Name Name ref str" => walk_at "subscriptTail"
  k_with "subscriptTail Name Slice ref ref" => walk_at "subscriptTail"
  k_with "subscriptTail Name Constant ref int" => walk_at "subscriptTail"
  exact True.intro
theorem commonpath_con (w : World) (p : Program) (loose : List Str) (mean : ExcName → Option Value) (mg mb : Str → Option Value) (l : Addr) (vs : List Value) (xs : List Str) (c : Nat) (hvs : StrsAre vs xs) (hlen : ∀ x ∈ xs, x.length ≤ 1000) (hsw : ∀ x ∈ xs, Txt.startswith x (Str.ofString "/") = true) (hpa : ∀ x ∈ xs, (Txt.split x (Str.ofString "/")).length ≤ 1000 ∧ ∀ y ∈ Txt.split x (Str.ofString "/"), y.length ≤ 1000) (hfit : fitsL (minOf xs) (maxOf xs) = true) (hz0 : vs.length ≤ 100) (hn : 0 < vs.length) :
   ConF PySem.Challenge.rw_un0041_01.row.prog w (hd.heap_39 w.params) p loose mean mg mb 8 216 [.ref l] [(l, W.listOf vs.toArray c)]
    (fun r E1 => E1 = [(l, W.listOf vs.toArray c)] ∧ ∃ t, r = .str (commonOf xs) t) := by
  k_fill
  obtain ⟨v0, vs', rfl⟩ : ∃ v0 vs', vs = v0 :: vs' := by cases vs with | nil => simp at hn | cons a b => exact ⟨a, b, rfl⟩
  obtain ⟨x0, t0, rfl, hx0⟩ := hvs.item 0 v0 rfl
  have hz : (Value.str x0 t0 :: vs').length ≤ sizeLine := by rw [sizeLine_eq]; omega
  intro dp un gd cn cs a ccd cl outer A₀ base h₀ L m s R B F X N T hk hd hu ret
  walk_at "enterFC"
  iterate 110 (try walk1)
  (rename Fr _ _ _ _ => kF9)
  (rename News _ _ _ _ => kN9)
  refine LcGo_tuple (items := (Value.str x0 t0 :: vs').toArray) (p := fun _ => true) (G := fun i y mk => ∃ D l, y = .ref D ∧ mk = [(D, W.listOf (strValues l).toArray 0)] ∧ ∃ x, xs[i]? = some x ∧ l.map (·.1) = Txt.split x (Str.ofString "/")) ?hn rfl kF9 kN9 ?hI (by k_mem) rfl rfl ?helt ?hQ
  case hn => rw [List.size_toArray]; exact hz
  case hI => k_all
  case helt =>
    clear kF9 kN9
    intro C i s1 oC m₁ X' Kt Ks hi F1 N1 hO hB hC hT hF
    obtain ⟨v, hv, hm⟩ := hB
    obtain ⟨x, t, rfl, hx⟩ := hvs.item i v (by simpa using hv)
    have hxl := hlen x (List.mem_of_getElem? hx)
    dsimp only [List.cons_append, List.nil_append] at N1
    refine wpAny_tests_nil (ite_pos rfl ?_)
    k_steps
    (rename News _ _ _ _ => kN9)
    refine hT rfl _ _ _ _ ⟨_, _, rfl, rfl, x, hx, by assumption⟩ (fun q hq r hr => ?_) (by k_asm) (fun q hq => kN9 q (perm_in hq))
    rw [List.mem_singleton.mp hq]
    refine (?_ : ∀ p ∈ _, @LT.lt Nat _ p.1 _) r hr
    assumption
  case hQ =>
    intro D1 ys made c1 h1 tk1 hR hlt hmade F1 N1
    clear kF9 kN9
    obtain ⟨hysl, hys⟩ := hR.get fun _ => rfl
    dsimp only [List.cons_append, List.nil_append] at N1
    k_lt hlt
    refine ⟨_, F1, N1, fun h2 tk2 F2 N2 => ?_⟩
    clear F1 N1
    k_steps
    (rename Fr _ _ _ _ => kF9)
    (rename News _ _ _ _ => kN9)
    refine ScGo_tuple (items := (Value.str x0 t0 :: vs').toArray) ?hn rfl kF9 kN9 ?hI (by k_mem) rfl rfl ?helt ?hQ
    case hn => simp
    case hI => k_all
    case helt =>
      clear kF9 kN9
      intro C i s1 oC m₁ X' Kt hi F1 N1 hO hB hC hT
      obtain ⟨v, hv, hm⟩ := hB
      obtain ⟨x, t, rfl, hx⟩ := hvs.item i v (by simpa using hv)
      have hxl := hlen x (List.mem_of_getElem? hx)
      have hxs := hsw x (List.mem_of_getElem? hx)
      dsimp only [List.cons_append, List.nil_append] at N1
      k_steps
      rw [hxs]
      exact hT _ _ (by k_asm) (by k_asm)
    case hQ =>
      intro D2 h3 tk3 hlt2 F3 N3
      clear kF9 kN9
      k_lt hlt2
      k_steps
      (rename Fr _ _ _ _ => kF9)
      (rename News _ _ _ _ => kN9)
      refine LcGo_list (items := ys.toArray) (p := fun _ => true) (G := fun i y mk => ∃ D l n, y = .ref D ∧ mk = [(D, W.listOf (strValues l).toArray n)] ∧ ∃ x, xs[i]? = some x ∧ l.map (·.1) = partsOk x) ?hn rfl kF9 kN9 ?hI (by k_mem) rfl rfl ?helt ?hQ
      case hn => rw [List.size_toArray, hysl, List.size_toArray]; exact hz
      case hI => k_all
      case helt =>
        clear kF9 kN9
        intro C i s1 oC m₁ X' Kt Ks hi F1 N1 hO hB hC hT hF
        obtain ⟨v, hv, hm⟩ := hB
        obtain ⟨mk, ⟨Di, li, rfl, rfl, x, hx, hli⟩, hmk⟩ := hys i v (by simpa using hv)
        have hDi := hmk _ (.head _)
        have hxl := hlen x (List.mem_of_getElem? hx)
        dsimp only [List.cons_append, List.nil_append] at N1
        refine wpAny_tests_nil (ite_pos rfl ?_)
        k_steps
        (rename Fr _ _ _ _ => kF9)
        (rename News _ _ _ _ => kN9)
        refine LcGo_list (items := (strValues li).toArray) (c := 0) (p := fun i => okPart ((li.map (·.1)).getD i default)) (G := fun i y mk => mk = [] ∧ ∃ t, y = .str ((li.map (·.1)).getD i default) t) ?hn3 rfl kF9 kN9 ?hI3 (by k_mem) rfl rfl ?helt3 ?hQ3
        case hn3 =>
          have := (hpa x (List.mem_of_getElem? hx)).1
          rw [← hli, List.length_map] at this
          rw [sizeLine_eq]; simp [strValues]; omega
        case hI3 => k_all
        case helt3 =>
          clear kF9 kN9
          intro C2 i2 s2 oC2 m₂ X2 Kt2 Ks2 hi2 F2 N2 hO2 hB2 hC2 hT2 hF2
          obtain ⟨v2, hv2, hm2⟩ := hB2
          have hi3 : i2 < li.length := by simpa [strValues] using hi2
          obtain rfl : v2 = .str li[i2].1 li[i2].2 := by simp [strValues, hi3] at hv2; exact hv2.symm
          have hgd : (li.map (·.1)).getD i2 default = li[i2].1 := by simp [hi3]
          rw [hgd] at hT2 hF2
          have hx2l : li[i2].1.length ≤ 1000 := (hpa x (List.mem_of_getElem? hx)).2 _ (by rw [← hli]; exact List.mem_map_of_mem (List.getElem_mem hi3))
          generalize li[i2].1 = x2 at *
          generalize li[i2].2 = t2 at *
          dsimp only [List.cons_append, List.nil_append] at N2
          refine wpAny_tests_one ?_
          k_steps
          · exact hT2 (okPart_t (by assumption) (by assumption)) _ [] _ _ ⟨rfl, _, rfl⟩ (by simp) (by k_asm) (by assumption)
          · exact hF2 (okPart_f1 (by assumption)) _ _ (by k_asm) (by assumption)
          · exact hF2 (okPart_f2 (by assumption)) _ _ (by k_asm) (by assumption)
        case hQ3 =>
          intro D3 ys3 made3 c3 h3 tk3 hR3 hlt3 hm3 F3 N3
          obtain ⟨rfl, l3, rfl, hl3⟩ := hR3.strs (by simp [strValues])
          refine hT rfl _ [(D3, W.listOf (strValues l3).toArray c3)] _ _ ⟨D3, l3, c3, rfl, rfl, x, hx, ?_⟩ (fun q hq r hr => ?_) F3 (fun q hq => N3 q ?_)
          · rw [hl3, List.take_of_length_le (by simp [strValues]), hli]; rfl
          · rw [List.mem_singleton.mp hq]; exact hlt3 r hr
          · rw [List.append_nil]; exact perm_in hq
      case hQ =>
        intro D4 ys4 made4 c4 h4 tk4 hR4 hlt4 hm4 F4 N4
        clear kF9 kN9
        obtain ⟨hysl4, hys4⟩ := hR4.get fun _ => rfl
        dsimp only [List.cons_append, List.nil_append] at N4
        k_lt hlt4
        refine ⟨_, F4, N4, fun h5 tk5 F5 N5 => ?_⟩
        clear F4 N4
        k_steps
        obtain ⟨ps, hps1, hps2, hps3⟩ := refs_made (f := partsOk) (made := made4) ys4 xs (by rw [hysl4, List.size_toArray, hysl, List.size_toArray]; exact hvs.len_eq) fun i y hy => by
          obtain ⟨mk, ⟨Di, li, n, rfl, rfl, x, hx, e⟩, hmk⟩ := hys4 i y hy
          exact ⟨Di, li, n, rfl, hmk _ (.head _), x, hx, e⟩
        obtain ⟨b0, brest, rfl⟩ : ∃ b r, ps = b :: r := by
          cases ps with
          | nil => rw [hps1] at hysl4; simp at hysl4; rw [← hysl4] at hysl; simp at hysl
          | cons a b => exact ⟨a, b, rfl⟩
        (rename Fr _ _ _ _ => kF9)
        (rename News _ _ _ _ => kN9)
        refine min_N rfl (by walk_at "units") kF9 kN9 (by k_mem) hps1 (cells_mem hps3 fun q hq => (kN9 q (by k_mem)).1) fun h6 tk6 F6 N6 => ?_
        clear kF9 kN9
        have hm1 := best_mem ltL brest b0
        have hmin := best_snd ltL brest b0
        generalize bestBy ltL b0 brest = p1 at *
        obtain ⟨l1, n1, hin1, hl1⟩ := hps3 p1 hm1
        k_steps
        (rename Fr _ _ _ _ => kF9)
        (rename News _ _ _ _ => kN9)
        refine max_N rfl (by walk_at "units") kF9 kN9 (by k_mem) hps1 (cells_mem hps3 fun q hq => (kN9 q (by k_mem)).1) fun h7 tk7 F7 N7 => ?_
        clear kF9 kN9
        have hm2 := best_mem (fun x b => ltL b x) brest b0
        have hmax := best_snd (fun x b => ltL b x) brest b0
        generalize bestBy (fun x b => ltL b x) b0 brest = p2 at *
        obtain ⟨l2, n2, hin2, hl2⟩ := hps3 p2 hm2
        k_steps
        (rename Fr _ _ _ _ => kF9)
        (rename News _ _ _ _ => kN9)
        have hxs2 : xs.map partsOk = b0.2 :: brest.map (·.2) := by rw [← hps2]; rfl
        have e1 : minOf xs = l1.map (·.1) := by rw [hl1, hmin]; unfold minOf; rw [hxs2]
        have e2 : maxOf xs = l2.map (·.1) := by rw [hl2, hmax]; unfold maxOf; rw [hxs2]
        rw [e1, e2] at hfit
        have small : ∀ p ∈ b0 :: brest, Small p.2 := fun p hp => by
          have : p.2 ∈ xs.map partsOk := by rw [← hps2]; exact List.mem_map_of_mem hp
          obtain ⟨x, hx, e⟩ := List.mem_map.mp this
          rw [← e]
          exact ⟨Nat.le_trans (List.length_filter_le _ _) (hpa x hx).1, fun y hy => (hpa x hx).2 y (List.mem_filter.mp hy).1⟩
        have sm1 : Small (l1.map (·.1)) := by rw [hl1]; exact small _ hm1
        have sm2 : Small (l2.map (·.1)) := by rw [hl2]; exact small _ hm2
        have hz2 : (strValues l2).length ≤ 100000 := by have := sm2.1; simp [strValues] at this ⊢; omega
        have hz1 : (strValues l1).toArray.size ≤ sizeLine := by have := sm1.1; rw [sizeLine_eq]; simp [strValues] at this ⊢; omega
        have hcom : commonOf xs = Str.ofString "/" ++ Txt.join (Str.ofString "/") (cpL (l1.map (·.1)) (l2.map (·.1))) := by unfold commonOf; rw [e1, e2]
        rw [hcom] at ret
        refine for_enum_list (l := p1.1) (items := (strValues l1).toArray) (c := n1) kF9 rfl rfl rfl rfl rfl rfl ?kne ?kr (by k_mem) (fun i => (l1.map (·.1)).take i = (l2.map (·.1)).take i) rfl kN9 ?kbody ?kend
        case kne => k_ne
        case kr =>
          intro q hq
          refine ⟨(?_ : ∀ q ∈ _, q.1 ≠ _) q hq, (?_ : ∀ q ∈ _, q.1 ≠ _) q hq⟩
          · k_all
          · repeat (rename _ ∧ _ => kL7; obtain ⟨_, _⟩ := kL7)
            (rename AllLt _ (made ++ made4) => kL8)
            have ha := allLt_mono (by assumption) kL8
            k_all
        case kbody =>
          clear kF9 kN9
          intro i v t hh tk8 old hv hI F8 N8 back
          have hi : i < l1.length := by simpa [strValues] using (Array.getElem?_eq_some_iff.mp hv).1
          have hi2 : i < l2.length := by simpa using fits_lt _ _ i hfit hI (by simpa using hi)
          obtain rfl : v = .str l1[i].1 l1[i].2 := by simp [strValues, hi] at hv; exact hv.symm
          have hx2 : (strValues l2)[i]? = some (.str l2[i].1 l2[i].2) := by simp [strValues, hi2]
          dsimp only [frm2] at F8 back
          have smI : Small ((l1.take i).map (·.1)) := by rw [List.map_take]; exact sm1.take i
          have hok := smI.ok
          have hadd := smI.add
          k_steps
          · (rename News _ _ _ _ => kN9)
            refine ret _ [(l, W.listOf (Value.str x0 t0 :: vs').toArray c)] _ _ (by k_asm) (fun q hq => kN9 q ?_) (Off.trans (by assumption) (Fr.keep (by k_asm))) ⟨rfl, _, congrArg (Value.str · _) ?_⟩
            · rw [List.mem_singleton.mp hq]; k_mem
            · rw [List.map_take, cp_break _ _ i l1[i].1 l2[i].1 hI (by simp [hi]) (by simp [hi2]) (by simpa [bne] using (by assumption : (l1[i].1 != l2[i].1) = true))]
          · show codeAny _ _ _ _ _
            refine back ?_ _ _ (by k_asm) (by k_asm)
            have hq : l1[i].1 = l2[i].1 := by simpa [bne] using (by assumption : (l1[i].1 != l2[i].1) = false)
            rw [List.take_add_one, List.take_add_one, hI]
            simp [hi, hi2, hq]
        case kend =>
          clear kF9 kN9
          intro iv cv h9 tk9 hI F9 N9
          dsimp only [frm2] at F9
          have hok := sm1.ok
          have hadd := sm1.add
          k_steps
          (rename News _ _ _ _ => kN9)
          refine ret _ [(l, W.listOf (Value.str x0 t0 :: vs').toArray c)] _ _ (by k_asm) (fun q hq => kN9 q ?_) (Off.trans (by assumption) (Fr.keep (by k_asm))) ⟨rfl, _, congrArg (Value.str · _) ?_⟩
          · rw [List.mem_singleton.mp hq]; k_mem
          · rw [cp_all _ _ (by simpa [strValues] using hI)]
end
section
theorem rulesLexS : True := by
  k_with_none
  k_with "k_ne" => (refine neN ?_; (try dsimp only); first | exact Nat.ne_of_lt (by with_reducible assumption) | exact Nat.ne_of_gt (by with_reducible assumption) | with_reducible assumption | exact neL_up (by with_reducible assumption) | with_reducible exact neL_13 | with_reducible exact neL_23 | with_reducible exact neL_12 | with_reducible exact neL_31 | with_reducible exact neL_32 | with_reducible exact neL_21 | exact Nat.ne_of_gt (by walk_at "pick") | exact Nat.ne_of_lt (by walk_at "pick") | omega)
  k_with "pick" => first | with_reducible assumption | with_reducible exact j1 (by assumption) | with_reducible exact j2 (by assumption) | with_reducible exact j3 (by assumption) | with_reducible exact j4 (by assumption) | with_reducible exact j5 (by assumption) | with_reducible exact j6 (by assumption) | with_reducible exact j7 (by assumption) | with_reducible exact j8 (by assumption) | with_reducible exact j9 (by assumption) | with_reducible exact j10 (by assumption) | with_reducible exact j11 (by assumption) | with_reducible exact j12 (by assumption) | with_reducible exact j13 (by assumption) | with_reducible exact j14 (by assumption) | with_reducible exact j15 (by assumption)
  k_with "om" => first | walk_at "pick" | with_reducible exact Nat.lt_trans (by assumption) (by walk_at "pick")
  k_with "k_mem" => first | exact List.Mem.head _ | assumption | exact List.mem_append_left _ (by assumption) | exact List.mem_append_right _ (by assumption) | (refine' List.Mem.tail _ ?_; k_extra "k_mem")
  k_with "room" => first | exact rm1 (by assumption) (by decide) | exact rm2 (by assumption) (by decide) | exact rm0 (by assumption) | exact rm3 (by assumption) (by decide) | ktr_room
  k_with "units" => first | exact rm1 (by assumption) (by decide) | exact rm2 (by assumption) (by decide) | exact rm0 (by assumption) | exact rm3 (by assumption) (by decide) | ktr_units
  k_with "lt" => try ((rename ∀ p ∈ (_ : List (Addr × Obj)), @LT.lt Nat _ p.1 _ => q9l9); k_lt q9l9; revert q9l9; intro _)
  k_with "dn" => try dsimp only [List.cons_append, List.nil_append] at ‹News _ _ _ _›
  k_with "dd" => try dsimp only [List.cons_append, List.nil_append] at ‹Obj.IsDictOf _ _ _›
  k_with "ds" => try dsimp only [List.cons_append, List.nil_append] at ‹LexSt _ _ _ _ _›
  exact True.intro
/-- the lexer: what is pushed, what is left of the text -/
noncomputable def LexSt (P : Params) (z : LA) (q : List Value) (cs : List Nat) (E : Led) : Prop := z.Ok ∧ cs.length < 10000 ∧ ∃ qn ln lt n vs, E = lexLed P z q.toArray qn ln lt (List.toArray vs) n ∧ Chars vs cs
theorem LexSt.le {P : Params} {z : LA} {q : List Value} {cs : List Nat} {E : Led} (h : LexSt P z q cs E) : ∀ p ∈ E, @LE.le Nat _ p.1 z.pb := by
  obtain ⟨hz, _, qn, ln, lt, n, vs, rfl, _⟩ := h
  exact fun p hp => lex_le hz p.1 (List.mem_map_of_mem hp)
theorem LexSt.pb {P : Params} {z : LA} {q : List Value} {cs : List Nat} {E : Led} (h : LexSt P z q cs E) : ∃ p ∈ E, p.1 = z.pb := by
  obtain ⟨hz, _, qn, ln, lt, n, vs, rfl, _⟩ := h
  exact ⟨_, .head _, rfl⟩
theorem LexSt.ne {P : Params} {z : LA} {q : List Value} {cs : List Nat} {E : Led} (h : LexSt P z q cs E) {d : Nat} (hd : z.pb < d) : ∀ p ∈ E, p.1 ≠ d := fun p hp => Nat.ne_of_lt (Nat.lt_of_le_of_lt (h.le p hp) hd)
theorem allLt_mem {d : Nat} {X : Led} (h : AllLt d X) {p : Addr × Obj} (hp : p ∈ X) : @LT.lt Nat _ p.1 d := by
  induction X with
  | nil => exact nomatch hp
  | cons a r ih =>
    rcases List.mem_cons.mp hp with rfl | hp
    · exact h.1
    · exact ih h.2 hp
theorem LexSt.lt {P : Params} {z : LA} {q : List Value} {cs : List Nat} {E : Led} (h : LexSt P z q cs E) {d : Nat} (hd : AllLt d E) : z.pb < d := by
  obtain ⟨p, hp, e⟩ := h.pb
  rw [← e]; exact allLt_mem hd hp
section
variable {w : World} {p : Program} {loose : List Str} {mean : ExcName → Option Value} {mg mb : Str → Option Value} {z : LA} {E : Led} {cs : List Nat}
theorem Chars.len {vs : List Value} {cs : List Nat} (h : Chars vs cs) (hc : cs.length < 10000) : vs.length < 10000 := by rw [h.length]; exact hc
theorem getQ {tok rest : List Nat} (h : LexSt w.params z [] (34 :: (tok ++ 34 :: rest)) E) (ht : ∀ c ∈ tok, c ≠ 34 ∧ c ≠ 92) :
    ConF PySem.Challenge.rw_un0041_01.row.prog w (hd.heap_39 w.params) p loose mean mg mb 5 103 [.ref z.x] E (fun r E1 => (∃ t, r = .str ⟨tok.toArray⟩ t) ∧ LexSt w.params z [] rest E1) := by
  obtain ⟨hz, hc, qn, ln, lt, n, vs, rfl, hv⟩ := h
  have C := tokQ w p loose mean mg mb z hz qn ln lt vs tok rest n (hv.len hc) hv ht
  intro dp un gd cn cs a ccd cl outer A₀ base h₀ L m s R B F X N T hk hd hu ret
  refine C dp un gd cn cs a ccd cl outer A₀ base h₀ L m s R B F X N T hk hd hu fun r E1 h' tk' F' N' off out => ret r E1 h' tk' F' N' off ⟨out.1, ?_⟩
  obtain ⟨-, ln', lt', n', vs', rfl, hv'⟩ := out
  exact ⟨hz, by simp at hc; omega, 0 + qn, ln', lt', n', vs', by rw [Nat.zero_add], hv'⟩
theorem getP {c0 : Nat} {tok rest : List Nat} (h : LexSt w.params z [] (32 :: c0 :: (tok ++ 10 :: rest)) E) (h0 : 48 ≤ c0 ∧ c0 < 56) (ht : ∀ c ∈ tok, 48 ≤ c ∧ c < 56) :
    ConF PySem.Challenge.rw_un0041_01.row.prog w (hd.heap_39 w.params) p loose mean mg mb 5 103 [.ref z.x] E (fun r E1 => (∃ t, r = .str ⟨(c0 :: tok).toArray⟩ t) ∧ LexSt w.params z [] rest E1) := by
  obtain ⟨hz, hc, qn, ln, lt, n, vs, rfl, hv⟩ := h
  have C := tokP w p loose mean mg mb z hz qn ln lt vs c0 tok rest n (hv.len hc) hv h0 ht
  intro dp un gd cn cs a ccd cl outer A₀ base h₀ L m s R B F X N T hk hd hu ret
  refine C dp un gd cn cs a ccd cl outer A₀ base h₀ L m s R B F X N T hk hd hu fun r E1 h' tk' F' N' off out => ret r E1 h' tk' F' N' off ⟨out.1, ?_⟩
  obtain ⟨-, ln', lt', n', vs', rfl, hv'⟩ := out
  exact ⟨hz, by simp at hc; omega, qn, ln', lt', n', vs', rfl, hv'⟩
theorem getE (h : LexSt w.params z [] [] E) :
    ConF PySem.Challenge.rw_un0041_01.row.prog w (hd.heap_39 w.params) p loose mean mg mb 5 103 [.ref z.x] E (fun r E1 => (∃ t, r = .str (Str.ofString "") t) ∧ LexSt w.params z [] [] E1) := by
  obtain ⟨hz, hc, qn, ln, lt, n, vs, rfl, hv⟩ := h
  obtain rfl : vs = [] := List.eq_nil_of_length_eq_zero hv.length
  have C := tokE w p loose mean mg mb z hz qn ln lt n
  intro dp un gd cn cs a ccd cl outer A₀ base h₀ L m s R B F X N T hk hd hu ret
  refine C dp un gd cn cs a ccd cl outer A₀ base h₀ L m s R B F X N T hk hd hu fun r E1 h' tk' F' N' off out => ret r E1 h' tk' F' N' off ⟨out.1, ?_⟩
  exact ⟨hz, hc, qn, ln, lt, n, [], out.2, trivial⟩
theorem getB {v : Value} {q : List Value} (h : LexSt w.params z (v :: q) cs E) (hq : q.length < 1000) :
    ConF PySem.Challenge.rw_un0041_01.row.prog w (hd.heap_39 w.params) p loose mean mg mb 5 103 [.ref z.x] E (fun r E1 => r = v ∧ LexSt w.params z q cs E1) := by
  obtain ⟨hz, hc, qn, ln, lt, n, vs, rfl, hv⟩ := h
  have C := tokB w p loose mean mg mb z hz v q hq qn ln lt vs.toArray n
  intro dp un gd cn cs a ccd cl outer A₀ base h₀ L m s R B F X N T hk hd hu ret
  refine C dp un gd cn cs a ccd cl outer A₀ base h₀ L m s R B F X N T hk hd hu fun r E1 h' tk' F' N' off out => ret r E1 h' tk' F' N' off ⟨out.1, ?_⟩
  exact ⟨hz, hc, qn + 1, ln, lt, n, vs, out.2, hv⟩
theorem pushT {x : Str} {tx : Tok} {q : List Value} (h : LexSt w.params z q cs E) (hq : q.length < 1000) :
    ConF PySem.Challenge.rw_un0041_01.row.prog w (hd.heap_39 w.params) p loose mean mg mb 5 110 [.ref z.x, .str x tx] E (fun r E1 => r = .none ∧ LexSt w.params z (q ++ [.str x tx]) cs E1) := by
  obtain ⟨hz, hc, qn, ln, lt, n, vs, rfl, hv⟩ := h
  have C := push_con w p loose mean mg mb z hz x tx q hq qn ln lt vs.toArray n
  intro dp un gd cn cs a ccd cl outer A₀ base h₀ L m s R B F X N T hk hd hu ret
  refine C dp un gd cn cs a ccd cl outer A₀ base h₀ L m s R B F X N T hk hd hu fun r E1 h' tk' F' N' off out => ret r E1 h' tk' F' N' off ⟨out.1, ?_⟩
  exact ⟨hz, hc, qn + 1, ln, lt, n, vs, out.2, hv⟩
end
inductive TailE (E : Led) : Led → Led → Prop
  | nil : TailE E E []
  | cons {p l r} : TailE E l r → TailE E (p :: l) (p :: r)
theorem TailE.mem {E : Led} : ∀ {l r : Led}, TailE E l r → ∀ q, (q ∈ E → q ∈ l) ∧ (q ∈ r → q ∈ l)
  | _, _, .nil, q => ⟨id, fun h => nomatch h⟩
  | _, _, .cons (p := p) t, q => ⟨fun h => .tail _ ((t.mem q).1 h), fun h => by
      rcases List.mem_cons.mp h with rfl | h
      · exact .head _
      · exact .tail _ ((t.mem q).2 h)⟩
section
variable {prog : Program} {w : World} {K : Frag} {p : Program} {loose : List Str} {mean : ExcName → Option Value} {mg mb : Str → Option Value} {A₀ : Around} {base h₀ : Heap} {s : Shared} {outer : List Env} {L : Addr} {m : Str → Option Value} {E0 news rest : Led}
  {lv dp un : Nat} {gd : Option (List Code)} {cn : Str} {cs : Scope} {a : Addr} {ccd : Value} {cl : List (Str × Addr)} {vs : List Value} {f : Addr} {Out : Value → Led → Prop} {Q E : Value → Shared → Prop}
theorem ConF.useL (C : ConF prog w K p loose mean mg mb lv f vs E0 Out)
    (B : Below A₀ base outer h₀) (F : Fr h₀ L s.heap m) (X : K.In h₀) (N : News h₀ L s.heap news) (T : Top p loose mean mg mb h₀) (hk : cs.kind = .function) (hd : dp + 10 * lv < recursionLimit) (hu : un + 100 * lv < cLine)
    (t : TailE E0 news rest) {B0 : Nat} (he : ∀ q ∈ E0, @LE.le Nat _ q.1 B0) (ho : ∀ q ∈ rest, @LT.lt Nat _ B0 q.1)
    (h : ∀ r E1 h' tk', Fr h₀ L h' m → News h₀ L h' (rest ++ E1) → Out r E1 → Q r { s with heap := h', toks := tk' }) :
    wpAny (model prog w) (ktrTop dp un gd cn cs L a ccd cl outer) (call (.ref f) vs) Q E s :=
  ConF.use C B F X N T hk hd hu (fun q hq => (t.mem q).1 hq) (fun q hq => (t.mem q).2 hq) (fun q hq hm => by
    obtain ⟨q', hq', e⟩ := List.mem_map.mp hm
    have h1 := ho q hq
    have h2 := he q' hq'
    rw [e] at h2
    exact Nat.lt_irrefl _ (Nat.lt_of_lt_of_le h1 h2)) fun r E1 h' tk' F' N' out => h r E1 h' tk' F' (fun q hq => N' q ((List.mem_append.mp hq).elim (fun h => List.mem_append_right _ h) fun h => List.mem_append_left _ h)) out
/-- a call that leaves the ledger as it was -/
theorem ConF.useRO (C : ConF prog w K p loose mean mg mb lv f vs E0 Out)
    (B : Below A₀ base outer h₀) (F : Fr h₀ L s.heap m) (X : K.In h₀) (N : News h₀ L s.heap news) (T : Top p loose mean mg mb h₀) (hk : cs.kind = .function) (hd : dp + 10 * lv < recursionLimit) (hu : un + 100 * lv < cLine)
    (h0 : ∀ q ∈ E0, q ∈ news) (hE : ∀ r E1, Out r E1 → E1 = E0)
    (h : ∀ r h' tk', Fr h₀ L h' m → News h₀ L h' news → Out r E0 → Q r { s with heap := h', toks := tk' }) :
    wpAny (model prog w) (ktrTop dp un gd cn cs L a ccd cl outer) (call (.ref f) vs) Q E s :=
  ConF.use (rest := news.filter fun q => decide (q.1 ∉ E0.map (·.1))) C B F X N T hk hd hu h0 (fun q hq => (List.mem_filter.mp hq).1) (fun q hq => of_decide_eq_true (List.mem_filter.mp hq).2) fun r E1 h' tk' F' N' out => by
    obtain rfl := hE r E1 out
    refine h r h' tk' F' (fun q hq => ?_) out
    by_cases hm : q.1 ∈ E1.map (·.1)
    · obtain ⟨q', hq', e⟩ := List.mem_map.mp hm
      have e1 := (N q hq).1
      have e2 := (N q' (h0 q' hq')).1
      rw [e] at e2
      have : q = q' := Prod.ext e.symm (Option.some.inj (e1.symm.trans e2))
      rw [this]
      exact N' q' (List.mem_append_left _ hq')
    · exact N' q (List.mem_append_right _ (List.mem_filter.mpr ⟨hq, decide_eq_true hm⟩))
theorem ConF.useLS {v : Tok → Value} {S : Led → Prop} (C : ConF prog w K p loose mean mg mb lv f vs E0 (fun r E1 => (∃ t, r = v t) ∧ S E1))
    (B : Below A₀ base outer h₀) (F : Fr h₀ L s.heap m) (X : K.In h₀) (N : News h₀ L s.heap news) (T : Top p loose mean mg mb h₀) (hk : cs.kind = .function) (hd : dp + 10 * lv < recursionLimit) (hu : un + 100 * lv < cLine)
    (t : TailE E0 news rest) {B0 : Nat} (he : ∀ q ∈ E0, @LE.le Nat _ q.1 B0) (ho : ∀ q ∈ rest, @LT.lt Nat _ B0 q.1)
    (h : ∀ t E1 h' tk', Fr h₀ L h' m → News h₀ L h' (rest ++ E1) → S E1 → Q (v t) { s with heap := h', toks := tk' }) :
    wpAny (model prog w) (ktrTop dp un gd cn cs L a ccd cl outer) (call (.ref f) vs) Q E s :=
  ConF.useL C B F X N T hk hd hu t he ho fun r E1 h' tk' F' N' out => by
    obtain ⟨⟨t, rfl⟩, hS⟩ := out
    exact h t E1 h' tk' F' N' hS
theorem ConF.useLE {v : Value} {S : Led → Prop} (C : ConF prog w K p loose mean mg mb lv f vs E0 (fun r E1 => r = v ∧ S E1))
    (B : Below A₀ base outer h₀) (F : Fr h₀ L s.heap m) (X : K.In h₀) (N : News h₀ L s.heap news) (T : Top p loose mean mg mb h₀) (hk : cs.kind = .function) (hd : dp + 10 * lv < recursionLimit) (hu : un + 100 * lv < cLine)
    (t : TailE E0 news rest) {B0 : Nat} (he : ∀ q ∈ E0, @LE.le Nat _ q.1 B0) (ho : ∀ q ∈ rest, @LT.lt Nat _ B0 q.1)
    (h : ∀ E1 h' tk', Fr h₀ L h' m → News h₀ L h' (rest ++ E1) → S E1 → Q v { s with heap := h', toks := tk' }) :
    wpAny (model prog w) (ktrTop dp un gd cn cs L a ccd cl outer) (call (.ref f) vs) Q E s :=
  ConF.useL C B F X N T hk hd hu t he ho fun r E1 h' tk' F' N' out => by
    obtain ⟨rfl, hS⟩ := out
    exact h E1 h' tk' F' N' hS
theorem ConF.useROS {v : Tok → Value} (C : ConF prog w K p loose mean mg mb lv f vs E0 (fun r E1 => E1 = E0 ∧ ∃ t, r = v t))
    (B : Below A₀ base outer h₀) (F : Fr h₀ L s.heap m) (X : K.In h₀) (N : News h₀ L s.heap news) (T : Top p loose mean mg mb h₀) (hk : cs.kind = .function) (hd : dp + 10 * lv < recursionLimit) (hu : un + 100 * lv < cLine)
    (h0 : ∀ q ∈ E0, q ∈ news)
    (h : ∀ t h' tk', Fr h₀ L h' m → News h₀ L h' news → Q (v t) { s with heap := h', toks := tk' }) :
    wpAny (model prog w) (ktrTop dp un gd cn cs L a ccd cl outer) (call (.ref f) vs) Q E s :=
  ConF.useRO C B F X N T hk hd hu h0 (fun _ _ x => x.1) fun r h' tk' F' N' out => by
    obtain ⟨_, t, rfl⟩ := out
    exact h t h' tk' F' N'
end
end
section
section
variable {w : World} {A : Around} {E : Value → Shared → Prop} {s : Shared} {g : Heap} {L : Addr} {m : Str → Option Value} {news El : Led} {z : LA} {q : List Value} {cs : List Nat} {Q : Value × List Value → Shared → Prop} {pl : Sem Bool}
theorem lex_get (hS : LexSt w.params z q cs El) (F : Fr g L s.heap m) (X : (hd.heap_39 w.params).In g) (N : News g L s.heap news) (hE : ∀ p ∈ El, p ∈ news) (h : Q (.ref 103, [.ref z.x]) s) :
    wpAny (model PySem.Challenge.rw_un0041_01.row.prog w) A (getMethod (.ref z.x) (Str.ofString "get_token") pl) Q E s := by
  obtain ⟨hz, hc, qn, ln, lt, n, vs, rfl, hv⟩ := hS
  have N0 : News g L s.heap (lexLed w.params z q.toArray qn ln lt (List.toArray vs) n) := fun p hp => N p (hE p hp)
  clear N hE
  obtain ⟨pb, x, d, f, c1, pb1, x1, d1, lf, cc, dc, ct, mgn, oc, ocell, k⟩ := z
  revert X
  k_fill
  intro X
  dsimp only [lexLed, lexD] at N0 ⊢
  refine' method_inst F X (InstAt.of_news N0 ?h1 ?h2) ?a ?b ?c ?d h
  case h1 => exact .tail _ (.head _)
  case h2 => exact .tail _ (.tail _ (.head _))
  case a => k_dflt k_is
  case b => k_dflt k_is
  case c => k_dflt k_is
  case d => k_get
theorem lex_push (hS : LexSt w.params z q cs El) (F : Fr g L s.heap m) (X : (hd.heap_39 w.params).In g) (N : News g L s.heap news) (hE : ∀ p ∈ El, p ∈ news) (h : Q (.ref 110, [.ref z.x]) s) :
    wpAny (model PySem.Challenge.rw_un0041_01.row.prog w) A (getMethod (.ref z.x) (Str.ofString "push_token") pl) Q E s := by
  obtain ⟨hz, hc, qn, ln, lt, n, vs, rfl, hv⟩ := hS
  have N0 : News g L s.heap (lexLed w.params z q.toArray qn ln lt (List.toArray vs) n) := fun p hp => N p (hE p hp)
  clear N hE
  obtain ⟨pb, x, d, f, c1, pb1, x1, d1, lf, cc, dc, ct, mgn, oc, ocell, k⟩ := z
  revert X
  k_fill
  intro X
  dsimp only [lexLed, lexD] at N0 ⊢
  refine' method_inst F X (InstAt.of_news N0 ?h1 ?h2) ?a ?b ?c ?d h
  case h1 => exact .tail _ (.head _)
  case h2 => exact .tail _ (.tail _ (.head _))
  case a => k_dflt k_is
  case b => k_dflt k_is
  case c => k_dflt k_is
  case d => k_get
end
end
section
open PyProof.Rows.LCg
/-- a row of the text from behind the path's sign -/
noncomputable def txt2 (f : Nat) (rest : List Nat) : List Nat := 32 :: ((octOf f).cps.toList ++ 10 :: rest)
noncomputable def txt1 (x : Str) (f : Nat) (rest : List Nat) : List Nat := 34 :: (x.cps.toList ++ 34 :: txt2 f rest)
theorem oct_digits {f : Nat} (h : f < 16) : ∃ c0 tok, (octOf f).cps.toList = c0 :: tok ∧ (48 ≤ c0 ∧ c0 < 56) ∧ ∀ c ∈ tok, 48 ≤ c ∧ c < 56 := by
  have key : ∀ f : _root_.Fin 16, ((octOf f.val).cps.toList.all fun c => decide (48 ≤ c) && decide (c < 56)) = true ∧ (octOf f.val).cps.toList ≠ [] := by decide +kernel
  obtain ⟨h1, h2⟩ := key ⟨f, h⟩
  cases e : (octOf f).cps.toList with
  | nil => exact absurd e h2
  | cons c0 tok =>
    have h1' : ((c0 :: tok).all fun c => decide (48 ≤ c) && decide (c < 56)) = true := by rw [← e]; exact h1
    rw [List.all_eq_true] at h1'
    have w : ∀ c ∈ c0 :: tok, 48 ≤ c ∧ c < 56 := fun c hc => by simpa using h1' c hc
    exact ⟨c0, tok, rfl, w c0 (.head _), fun c hc => w c (.tail _ hc)⟩
section
variable {w : World} {p : Program} {loose : List Str} {mean : ExcName → Option Value} {mg mb : Str → Option Value} {z : LA} {E : Led} {cs : List Nat}
theorem getPath {x : Str} {f : Nat} {rest : List Nat} (h : LexSt w.params z [] (txt1 x f rest) E) (hx : ∀ c ∈ x.cps.toList, c ≠ 34 ∧ c ≠ 92) :
    ConF PySem.Challenge.rw_un0041_01.row.prog w (hd.heap_39 w.params) p loose mean mg mb 5 103 [.ref z.x] E (fun r E1 => (∃ t, r = .str x t) ∧ LexSt w.params z [] (txt2 f rest) E1) := getQ h hx
theorem getOct {f : Nat} {rest : List Nat} (h : LexSt w.params z [] (txt2 f rest) E) (hf : f < 16) :
    ConF PySem.Challenge.rw_un0041_01.row.prog w (hd.heap_39 w.params) p loose mean mg mb 5 103 [.ref z.x] E (fun r E1 => (∃ t, r = .str (octOf f) t) ∧ LexSt w.params z [] rest E1) := by
  obtain ⟨c0, tok, e, h0, ht⟩ := oct_digits hf
  unfold txt2 at h
  rw [e] at h
  have C := getP (p := p) (loose := loose) (mean := mean) (mg := mg) (mb := mb) h h0 ht
  have : (⟨(c0 :: tok).toArray⟩ : Str) = octOf f := by rw [← e]
  rw [this] at C
  exact C
end
section
variable {prog : Program} {w : World} {A : Around} {E : Value → Shared → Prop} {s : Shared}
theorem truthy_yes {x : Str} {t : Tok} {Q : Bool → Shared → Prop} (h0 : x.length ≠ 0) (hz : x.length ≤ 1000) (h : ∀ tk, Q true { s with toks := tk }) : wpAny (model prog w) A (truthy (.str x t)) Q E s :=
  PySem.P.truthy_str (by omega) (by
    have : ((x.length : Int) != 0) = true := by simp; omega
    rw [this]; exact h _)
theorem truthy_no {t : Tok} {Q : Bool → Shared → Prop} (h : ∀ tk, Q false { s with toks := tk }) : wpAny (model prog w) A (truthy (.str (Str.ofString "") t)) Q E s :=
  PySem.P.truthy_str (by decide +kernel) (by
    have : (((Str.ofString "").length : Int) != 0) = false := by decide +kernel
    rw [this]; exact h _)
end
section
variable {x0 x1 x2 x3 : Str} {a b c d : Value}
theorem vn0 {x : Str} : valueAt ([] : List (Str × Value)) x = none := rfl
theorem vn1 (h : x0 ≠ x1) : valueAt [(x0, a)] x1 = none := by simp [valueAt, h]
theorem vn2 (h : x0 ≠ x2) (h' : x1 ≠ x2) : valueAt [(x0, a), (x1, b)] x2 = none := by simp [valueAt, h, h']
theorem vn3 (h : x0 ≠ x3) (h' : x1 ≠ x3) (h'' : x2 ≠ x3) : valueAt [(x0, a), (x1, b), (x2, c)] x3 = none := by simp [valueAt, h, h', h'']
theorem vs0 {r : List (Str × Value)} : valueAt ((x0, a) :: r) x0 = some a := by simp [valueAt]
theorem vs1 {r : List (Str × Value)} (h : x0 ≠ x1) : valueAt ((x0, a) :: (x1, b) :: r) x1 = some b := by simp [valueAt, h]
theorem vs2 {r : List (Str × Value)} (h : x0 ≠ x2) (h' : x1 ≠ x2) : valueAt ((x0, a) :: (x1, b) :: (x2, c) :: r) x2 = some c := by simp [valueAt, h, h']
theorem vs3 {r : List (Str × Value)} (h : x0 ≠ x3) (h' : x1 ≠ x3) (h'' : x2 ≠ x3) : valueAt ((x0, a) :: (x1, b) :: (x2, c) :: (x3, d) :: r) x3 = some d := by simp [valueAt, h, h', h'']
theorem stored_none {kvs : List (Str × Value)} {k : Str} {v : Value} (h : valueAt kvs k = none) : stored kvs k v = kvs ++ [(k, v)] := by
  unfold stored
  rw [if_neg]
  intro q
  unfold valueAt at h
  rw [Option.map_eq_none_iff, List.find?_eq_none] at h
  obtain ⟨p, hp, hk⟩ := List.any_eq_true.mp q
  exact h p hp hk
end
section
variable {prog : Program} {w : World} {A : Around} {E : Value → Shared → Prop} {s : Shared} {g : Heap} {L d : Addr} {m : Str → Option Value} {news : Led} {G : Obj → Led} {o : Obj} {kvs : List (Str × Value)} {k : Str} {t : Tok} {v : Value}
theorem dset_new {Q : Unit → Shared → Prop} (F : Fr g L s.heap m) (N : News g L s.heap news) (U : UpdF d o news G) (hd : o.IsDictOf (PySem.strKind prog w) kvs) (hn : valueAt kvs k = none) (hz : kvs.length ≤ 1000)
    (h : ∀ h' o' tk, Fr g L h' m → News g L h' (G o') → o'.IsDictOf (PySem.strKind prog w) (kvs ++ [(k, v)]) → Q () { s with heap := h', toks := tk }) : wpAny (model prog w) A (setItem (.ref d) (.str k t) v) Q E s :=
  kda_set (knd := PySem.strKind prog w) F N U hd (strKind_is _ _ _ _) (by rw [sizeLine_eq]; omega) fun h' o' F' N' hd' => h h' o' _ F' N' (stored_none hn ▸ hd')
theorem dget {value slice : Expr} {Q : Value → Shared → Prop} (N : News g L s.heap news) (hp : (d, o) ∈ news) (hd : o.IsDictOf (PySem.strKind prog w) kvs) (hv : valueAt kvs k = some v) (h : ∀ tk, Q v { s with toks := tk })
    (hs : subscripted slice false (.ref d) (.str k t) = operate [.ref d, .str k t] (getItem (.ref d) (.str k t))) :
    wpAny (model prog w) A (subscriptTail value slice (.ref d) (.str k t)) Q E s :=
  kdt_tail (knd := PySem.strKind prog w) N hp hd (kdt_getItem (knd := PySem.strKind prog w) N hp hd (strKind_is _ _ _ _) hv (h _)) hs
end
end
section
open PyProof.Rows.LCg
theorem dict_turnK {prog : Program} {w : World} {A : Around} {s : Shared} {target iter kx vx : Expr} {ifs : List Expr} {scope : Scope} {pos : Pos} {it : Value} {D : Addr} {env : Env} {R : Result → Shared → Prop} (h : wpAny (model prog w) A (pyNext it) (NextK prog w A it target (fun s => R (.ok .next) s)
    (fun v s₂ => wpAny (model prog w) A (assign target env v) (fun _ s₃ => wpAny (model prog w) A (compTest ifs env) (fun ok s₄ =>
      if ok = true then wpAny (model prog w) A (eval kx env) (fun kv s₅ => wpAny (model prog w) A (eval vx env) (fun vv s₆ => wpAny (model prog w) A (dictSet D kv vv) (fun _ s₇ => codeAny (model prog w) A (.compLoop (.DictComp kx vx [⟨target, iter, ifs, 0⟩] scope pos) 0 it (.ref D) env) R s₇) NoE s₆) NoE s₅) NoE s₄
      else codeAny (model prog w) A (.compLoop (.DictComp kx vx [⟨target, iter, ifs, 0⟩] scope pos) 0 it (.ref D) env) R s₄) NoE s₃) NoE s₂)) NoE s) :
    codeAny (model prog w) A (.compLoop (.DictComp kx vx [⟨target, iter, ifs, 0⟩] scope pos) 0 it (.ref D) env) R s := by
  refine codeAny_of_tree ?_
  rw [Around.under_of_weight (show Code.weight _ = 0 from rfl) rfl]
  show wpAny _ A ((compTurn (.DictComp kx vx [⟨target, iter, ifs, 0⟩] scope pos) 0 it (.ref D) env).onRaise _) _ _ s
  refine wpAny_onRaise ?_
  rw [compTurn_dict]
  refine wpAny_bind (wpAny_standAt (wpAny_bind (wpAny_mono h (fun r s₁ z => ?_) fun _ _ x => x.elim)))
  cases r with
  | none => exact wpAny_pure z
  | some v =>
    refine wpAny_bind (wpAny_mono z (fun _ s₂ z => ?_) fun _ _ x => x.elim)
    refine wpAny_bind (wpAny_mono z (fun _ s₃ z => ?_) fun _ _ x => x.elim)
    refine wpAny_bind (wpAny_mono z (fun ok s₄ z => ?_) fun _ _ x => x.elim)
    cases ok with
    | false => exact wpAny_pure ⟨rfl, z⟩
    | true => exact wpAny_bind (wpAny_bind (wpAny_mono z (fun kv s₄ h₄ => wpAny_bind (wpAny_holding (wpAny_mono h₄ (fun vv s₅ h₅ => wpAny_bind (wpAny_standAt (wpAny_holding (wpAny_mono h₅ (fun _ s₆ h₆ => wpAny_pure ⟨rfl, h₆⟩) fun _ _ h' => h'.elim)))) fun _ _ h' => h'.elim))) fun _ _ h' => h'.elim))
noncomputable abbrev dict0 : Obj := { cls := .type "dict", dict := none, data := .dict #[] }
noncomputable def DcGo (prog : Program) (w : World) (A : Around) (h₀ : Heap) (L : Addr) (m : Str → Option Value) (env : Env) (kx vx target iter : Expr) (ifs : List Expr) (scope : Scope) (cl : List (Str × Addr)) (pos : Pos) (Q : Value → Shared → Prop) (it : Value) (s₂ : Shared) : Prop :=
  ∃ news, Fr h₀ L s₂.heap m ∧ News h₀ L s₂.heap news ∧ (∀ (s' : Shared) (Q' : Value → Shared → Prop) (E' : Value → Shared → Prop), (∀ p ∈ news, s'.heap.get? p.1 = some p.2) → Q' it s' → wpAny (model prog w) A (pyIter it) Q' E' s') ∧
    ∀ D C oC m₀ h tk, NsObj oC m₀ → Fr h₀ L h m → News h₀ L h ((C, oC) :: (D, dict0) :: news) → @LT.lt Nat _ D C → (∀ p ∈ news, p.1 < D) →
      codeAny (model prog w) A (.compLoop (.DictComp kx vx [⟨target, iter, ifs, 0⟩] scope pos) 0 it (.ref D) (compEnvC scope cl C env)) (LcEnd h₀ L m C (Q (.ref D))) { s₂ with heap := h, toks := tk }
section
variable {prog : Program} {w : World} {A : Around} {s : Shared} {target iter kx vx : Expr} {ifs : List Expr} {scope : Scope} {pos : Pos} {env : Env} {h₀ : Heap} {L : Addr} {m : Str → Option Value} {cl : List (Str × Addr)} {Q E : Value → Shared → Prop}
theorem dc_enter (_F₀ : Fr h₀ L s.heap m) (hclos : closureFor scope env = pure cl) (hcell : ∀ y ∈ scope.names, y.2 ≠ .cell) (hkind : scope.kind = .function)
    (hnames : ∀ y ∈ scope.names, y.2 = .local → scope.names.lookup y.1 = some .local)
    (h : wpAny (model prog w) A (eval iter env) (fun x s₁ => wpAny (model prog w) A (pyIter x) (DcGo prog w A h₀ L m env kx vx target iter ifs scope cl pos Q) E s₁) E s)
    (hs : ∀ x, foldedSetIterable iter env x = pure x := by intro _; rfl) :
    wpAny (model prog w) A (eval (.DictComp kx vx [⟨target, iter, ifs, 0⟩] scope pos) env) Q E s := by
  rw [arm_eval_DictComp]
  refine wpAny_comprehension_free (use := none) rfl hs hclos hkind hnames (wpAny_mono h (fun xv s₁ h₁ => wpAny_mono h₁ (fun it s₂ z => ?_) fun _ _ e => e) fun _ _ e => e)
  obtain ⟨news, F, N, hself, go⟩ := z
  refine wpAny_newObj_type (wpAny_newFunctionEnv hcell (by intro y hy; simp at hy) (fun h₁ hns₁ hsb₁ => ?_) hkind)
  dsimp only at hns₁ hsb₁ ⊢
  generalize hH2 : s₂.heap.push { cls := .type "dict", dict := none, data := .dict #[] } = H2 at hns₁ hsb₁ ⊢
  have hC : H2.objs.size = s₂.heap.objs.size + 1 := by rw [← hH2, Heap.size_push]
  have hDC : s₂.heap.objs.size ≠ H2.objs.size := by rw [hC]; exact Nat.ne_of_lt (Nat.lt_succ_self _)
  have below : ∀ b, b < s₂.heap.objs.size → b ≠ H2.objs.size ∧ b ≠ s₂.heap.objs.size := fun b hb => ⟨by rw [hC]; exact Nat.ne_of_lt (Nat.lt_succ_of_lt hb), Nat.ne_of_lt hb⟩
  have old : ∀ b o, s₂.heap.get? b = some o → h₁.get? b = some o := fun b o e => hsb₁.extBut b o (below b (Heap.lt_size e)).1 (Heap.get?_push_of_some _ (hH2 ▸ Heap.get?_push_of_some _ e))
  have hacc : h₁.get? s₂.heap.objs.size = some dict0 := hsb₁.extBut _ _ hDC (Heap.get?_push_of_some _ (hH2 ▸ Heap.get?_push_size _ rfl))
  have fresh₀ : ∀ a, s₂.heap.objs.size ≤ a → h₀.get? a = none := fun a ha => by
    cases e : h₀.get? a with
    | none => rfl
    | some o' => exact absurd (Heap.lt_size (F.keep a o' e)) (Nat.not_lt.mpr ha)
  have hLlt : L < s₂.heap.objs.size := F.ns.lt
  obtain ⟨oC, heC, hoC⟩ := ns_obj hns₁
  have N₁ : News h₀ L h₁ ((H2.objs.size, oC) :: (s₂.heap.objs.size, dict0) :: news) := fun p hp => by
    rcases List.mem_cons.mp hp with rfl | hp
    · exact ⟨heC, Ne.symm (below L hLlt).1, fresh₀ _ (by rw [hC]; exact Nat.le_succ _)⟩
    rcases List.mem_cons.mp hp with rfl | hp
    · exact ⟨hacc, Ne.symm (below L hLlt).2, fresh₀ _ (Nat.le_refl _)⟩
    · exact ⟨old _ _ (N p hp).1, (N p hp).2⟩
  have loop := fun tk => go s₂.heap.objs.size H2.objs.size oC _ h₁ tk hoC (F.keeps old) N₁ (by rw [hC]; exact Nat.lt_succ_self _) (fun p hp => Heap.lt_size (N p hp).1)
  have fin : ∀ r s', LcEnd h₀ L m H2.objs.size (Q (.ref s₂.heap.objs.size)) r s' → compPost (model prog w) A E none Q (.ref s₂.heap.objs.size) H2.objs.size r s' := fun r s' z => by
    obtain ⟨rfl, oC', m', news', hN, NN, ne, FF, K⟩ := z
    refine ⟨m', hN.ns (NN _ (.head _)).1, fun h'' hs'' => K h'' (FF.change hs'' (NN _ (.head _)).2.1 (NN _ (.head _)).2.2) fun p hp => ?_⟩
    exact ⟨hs''.extBut _ _ (ne p hp) (NN p (.tail _ hp)).1, (NN p (.tail _ hp)).2⟩
  exact codeAny_compStart_dict (codeAny_mono (loop _) fin) (hself _ _ _ (fun p hp => old _ _ (N p hp).1) (codeAny_mono (loop _) fin))
end
/-- a dict whose values are made, key for key, from another's -/
inductive VA (P : Str × Value → Value → Prop) : List (Str × Value) → List (Str × Value) → Prop
  | nil : VA P [] []
  | snoc {l l' p y} : VA P l l' → P p y → VA P (l ++ [p]) (l' ++ [(p.1, y)])
theorem VA.keys {P : Str × Value → Value → Prop} {l l' : List (Str × Value)} (h : VA P l l') : l'.map (·.1) = l.map (·.1) := by
  induction h with
  | nil => rfl
  | snoc _ _ ih => simp [ih]
theorem VA.len {P : Str × Value → Value → Prop} {l l' : List (Str × Value)} (h : VA P l l') : l'.length = l.length := by
  have := congrArg List.length h.keys
  simpa using this
theorem va_nil {P : Str × Value → Value → Prop} {l' : List (Str × Value)} (h : VA P [] l') : l' = [] := List.eq_nil_of_length_eq_zero h.len
theorem va_cons {P : Str × Value → Value → Prop} {p : Str × Value} {l l' : List (Str × Value)} (h : VA P (p :: l) l') : ∃ y r, P p y ∧ l' = (p.1, y) :: r ∧ VA P l r := by
  generalize e : p :: l = l1 at h
  induction h generalizing l with
  | nil => cases e
  | @snoc a a' q y ha hq ih =>
    cases a with
    | nil =>
      obtain rfl := va_nil ha
      simp at e
      obtain ⟨rfl, rfl⟩ := e
      exact ⟨y, [], hq, rfl, .nil⟩
    | cons b a =>
      simp at e
      obtain ⟨rfl, rfl⟩ := e
      obtain ⟨y', r, hp, rfl, hr⟩ := ih rfl
      exact ⟨y', r ++ [(q.1, y)], hp, rfl, .snoc hr hq⟩
theorem valueAt_none {kvs : List (Str × Value)} {k : Str} (h : k ∉ kvs.map (·.1)) : valueAt kvs k = none := by
  unfold valueAt
  rw [Option.map_eq_none_iff, List.find?_eq_none]
  intro p hp hk
  exact h (List.mem_map.mpr ⟨p, hp, by simpa using hk⟩)
section
variable {prog : Program} {w : World} {A : Around} {s : Shared} {iter kx vx : Expr} {scope : Scope} {pos px : Pos} {env : Env} {g : Heap} {L : Addr} {m : Str → Option Value} {cl : List (Str × Addr)} {Q E : Value → Shared → Prop} {I d : Addr} {x : Str} {news : Led} {kvs : List (Str × Value)} {ep : Nat} {o oI : Obj} {P : Str × Value → Value → Prop}
noncomputable def dkSt (prog : Program) (w : World) (kvs : List (Str × Value)) (ep : Nat) (I d : Addr) (i : Nat) (h : Heap) : Prop := h.IsKeyIter I d i kvs.length ep ∧ h.DictAt (PySem.strKind prog w) d kvs ep
theorem dkSt.live {i : Nat} {h : Heap} (st : dkSt prog w kvs ep I d i h) : ∀ b ∈ [I, d], ∃ o, h.get? b = some o := fun b hb => by
  obtain ⟨⟨o1, e1, _⟩, ⟨o2, es, e2, _⟩⟩ := st
  rcases List.mem_cons.mp hb with rfl | hb
  · exact ⟨o1, e1⟩
  · rw [List.mem_singleton.mp hb]; exact ⟨o2, e2⟩
/-- the walk over a dict's keys, the keys as texts -/
theorem walks_dk (hh : A.handled = none) (hne : d ≠ I) : Walks prog w A I [I, d] [I] kvs.length (fun i v => ∃ k y t, kvs[i]? = some (k, y) ∧ v = .str k t) (dkSt prog w kvs ep I d) :=
  (Walks.dictKeys (knd := PySem.strKind prog w) hh I d hne kvs ep).weaken fun i v h => by
    obtain ⟨k, y, hx, hk⟩ := h
    obtain ⟨t, rfl⟩ := Value.isStrOf_shape hk
    exact ⟨k, y, t, hx, rfl⟩
theorem DcGo_dict (hz : kvs.length ≤ sizeLine) (hh : A.handled = none) (F : Fr g L s.heap m) (N : News g L s.heap ((I, oI) :: news)) (hI : ∀ q ∈ news, q.1 ≠ I) (hoI : KdkIter oI d 0 kvs.length ep) (ho : KdkAt (PySem.strKind prog w) o kvs ep) (hd : (d, o) ∈ news) (hk : scope.kind = .function) (hx : scope.names.lookup x = some .local)
    (helt : ∀ C (s : Shared) oC m₁ (X : Led) (k : Str) (v : Value) (t : Tok) (Kt : Value → Value → Shared → Prop), (k, v) ∈ kvs → Fr g L s.heap m → News g L s.heap ((C, oC) :: (news ++ X)) → NsObj oC m₁ → m₁ x = some (.str k t) → (∀ q ∈ news ++ X, q.1 ≠ C) →
      (∀ y h' tk', P (k, v) y → Fr g L h' m → News g L h' ((C, oC) :: (news ++ X)) → Kt (.str k t) y { s with heap := h', toks := tk' }) →
      wpAny (model prog w) A (eval kx (compEnvC scope cl C env)) (fun kv s₄ => wpAny (model prog w) A (eval vx (compEnvC scope cl C env)) (fun vv s₅ => Kt kv vv s₅) NoE s₄) NoE s)
    (hQ : ∀ D oD kvs' h' tk', VA P kvs kvs' → oD.IsDictOf (PySem.strKind prog w) kvs' → (∀ q ∈ news, @LT.lt Nat _ q.1 D) → Fr g L h' m → News g L h' ((D, oD) :: news) → Q (.ref D) { s with heap := h', toks := tk' }) :
    DcGo prog w A g L m env kx vx (.Name x px) iter [] scope cl pos Q (.ref I) s := by
  have htI : d ≠ I := hI _ hd
  have It : ∀ C, CompIt prog w A (compEnvC scope cl C env) g L m (.Name x px) C (.ref I) kvs.length [I] (fun i J => CellsP [I, d] (dkSt prog w kvs ep I d i) J) [] (fun i m₁ => ∃ v, (∃ k y t, kvs[i]? = some (k, y) ∧ v = .str k t) ∧ m₁ x = some v) := fun C =>
    ci_walks (walks_dk hh htI) (fun i h st => st.live) hk hx
  have h0 : CellsP [I, d] (dkSt prog w kvs ep I d 0) [(I, oI), (d, o)] := ⟨rfl, fun h hp => ⟨hoI.at (hp _ (.head _)), ho.dictAt (hp _ (.tail _ (.head _)))⟩⟩
  have nodup : (kvs.map (·.1)).Nodup := by obtain ⟨es, _, _, _, _, hn⟩ := ho; exact hn
  refine ⟨(I, oI) :: news, F, N, fun s' Q' E' k q => (It 0).self _ [(I, oI), (d, o)] _ _ h0 (fun p hp => k p ?_) q, fun D C oC m₀ h tk hO F₁ N₁ hDC hlt => ?_⟩
  · rcases List.mem_cons.mp hp with rfl | hp
    · exact .head _
    · rw [List.mem_singleton.mp hp]; exact .tail _ hd
  have nC : ∀ q ∈ (I, oI) :: news, q.1 ≠ C := fun q hq => Nat.ne_of_lt (Nat.lt_trans (hlt q hq) hDC)
  have nD : ∀ q ∈ (I, oI) :: news, q.1 ≠ D := fun q hq => Nat.ne_of_lt (hlt q hq)
  have hCD : C ≠ D := Nat.ne_of_gt hDC
  have fpJ : ∀ i J, CellsP [I, d] (dkSt prog w kvs ep I d i) J → ∀ q ∈ J, q.1 = I ∨ q.1 = d := fun i J hJ q hq => by
    have := hJ.fp hq
    simpa using this
  refine gcomp (ifs := []) (s := s) (Lp := fun s => codeAny (model prog w) A (.compLoop (.DictComp kx vx [⟨.Name x px, iter, [], 0⟩] scope pos) 0 (.ref I) (.ref D) (compEnvC scope cl C env)) (LcEnd g L m C (Q (.ref D))) s)
    (Emit := fun K s₄ => wpAny (model prog w) A (eval kx (compEnvC scope cl C env)) (fun kv s₅ => wpAny (model prog w) A (eval vx (compEnvC scope cl C env)) (fun vv s₆ => wpAny (model prog w) A (dictSet D kv vv) (fun _ s₇ => K s₇) NoE s₆) NoE s₅) NoE s₄)
    (Kn := fun s' => LcEnd g L m C (Q (.ref D)) (.ok .next) s')
    (Inv := fun i Z => ∃ oD kvs', VA P (kvs.take i) kvs' ∧ oD.IsDictOf (PySem.strKind prog w) kvs' ∧ Z = (D, oD) :: news) (X := []) (It C) (fun s' z => dict_turnK z) (fun i J hJ q hq => ?_) (by simp) ?_ ?_ kvs.length 0 [(I, oI), (d, o)] ((D, dict0) :: news) h tk oC m₀ rfl (Nat.zero_le _) h0 ⟨dict0, [], .nil, ?_, rfl⟩ F₁ (fun q hq => N₁ q ?_) (fun q hq => ?_) hO
  · rcases fpJ i J hJ q (by simpa using hq) with e | e
    · rw [e]; exact nC (I, oI) (.head _)
    · rw [e]; exact nC (d, o) (.tail _ hd)
  · intro i Z h₁ tk₁ oC₁ m₁ X' hi hZ9 F' N' hC' hZ8 hO' hB K
    obtain ⟨oD, kvs', hV, hoD, rfl⟩ := hZ9
    obtain ⟨J', hJ', rfl⟩ := hZ8
    obtain ⟨_, ⟨k, v, t, hkv, rfl⟩, hm⟩ := hB
    refine wpAny_tests_nil ?_
    rw [if_pos rfl]
    refine helt C { s with heap := h₁, toks := tk₁ } oC₁ m₁ ((D, oD) :: (J' ++ [])) k v t _ (List.mem_of_getElem? hkv) F' (fun q hq => N' q ?_) hO' hm (fun q hq => hC' q ?_) fun y h₂ tk₂ hP F2 N2 => ?_
    · simp only [List.mem_cons, List.mem_append, List.cons_append] at hq ⊢; grind
    · simp only [List.mem_cons, List.mem_append, List.cons_append] at hq ⊢; grind
    have ND := N2 (D, oD) (.tail _ (List.mem_append_right _ (.head _)))
    have ne : ∀ q ∈ (C, oC₁) :: (news ++ (J' ++ [])), q.1 ≠ D := fun q hq => by
      rcases List.mem_cons.mp hq with rfl | hq
      · exact hCD
      rcases List.mem_append.mp hq with hq | hq
      · exact nD q (.tail _ hq)
      · rcases fpJ _ J' hJ' q (by simpa using hq) with e | e
        · rw [e]; exact nD (I, oI) (.head _)
        · rw [e]; exact nD (d, o) (.tail _ hd)
    have hlen : kvs'.length ≤ sizeLine := by
      rw [hV.len]
      exact Nat.le_trans (List.length_take_le' _ _) hz
    have ekv : kvs[i] = (k, v) := Option.some.inj ((List.getElem?_eq_getElem hi).symm.trans hkv)
    have hnone : valueAt kvs' k = none := by
      refine valueAt_none fun hm => ?_
      rw [hV.keys] at hm
      have e1 : kvs = kvs.take i ++ kvs[i] :: kvs.drop (i + 1) := by rw [← List.drop_eq_getElem_cons hi]; exact (List.take_append_drop i kvs).symm
      rw [e1, List.map_append, List.nodup_append] at nodup
      exact nodup.2.2 k hm k (by rw [ekv]; exact .head _) rfl
    refine wpAny_dictSet_pairs (knd := PySem.strKind prog w) (hsz := hlen) (strKind_is _ _ k t) (Heap.dictOf_iff.mpr ⟨oD, ND.1, hoD⟩) fun h₃ hd₃ hs₃ => ?_
    obtain ⟨oD', hoD', hD'⟩ := Heap.dictOf_iff.mp hd₃
    rw [stored_none hnone] at hD'
    have hk₃ : ∀ b o, b ≠ D → h₂.get? b = some o → h₃.get? b = some o := fun b o hb e => hs₃.extBut b o hb e
    refine K ((D, oD') :: news) h₃ _ ⟨oD', _, ?_, hD', rfl⟩ (fun q hq => .inl ?_) (Fr_chg F2 (ws := [D]) (fun b o hb e => hk₃ b o (by simpa using hb) e) (by simpa using Ne.symm ND.2.1) (fun b hb => by rw [List.mem_singleton.mp hb]; exact ND.2.2)) fun q hq => ?_
    · have t1 : kvs.take (i + 1) = kvs.take i ++ [(k, v)] := by rw [List.take_add_one, List.getElem?_eq_getElem hi, ekv]; rfl
      rw [t1]
      exact hV.snoc hP
    · rcases List.mem_cons.mp hq with rfl | hq
      · exact ⟨_, .head _, rfl⟩
      · exact ⟨q, .tail _ hq, rfl⟩
    · have : q = (D, oD') ∨ q ∈ (C, oC₁) :: (news ++ (J' ++ [])) := by
        simp only [List.mem_cons, List.mem_append, List.cons_append] at hq ⊢; grind
      rcases this with rfl | hq'
      · exact ⟨hoD', ND.2⟩
      · have Nq := N2 q (by simp only [List.mem_cons, List.mem_append, List.cons_append] at hq' ⊢; grind)
        exact ⟨hk₃ _ _ (ne q hq') Nq.1, Nq.2⟩
  · rintro Z h₁ tk₁ oC₁ m₁ ⟨oD, kvs', hV, hoD, rfl⟩ hO' F' N' hC'
    rw [List.take_length] at hV
    refine ⟨rfl, oC₁, m₁, (D, oD) :: news, hO', fun q hq => N' q (by simpa using hq), fun q hq => ?_, F', fun h'' F'' N'' => hQ D oD kvs' h'' tk₁ hV hoD (fun q hq => hlt q (.tail _ hq)) F'' N''⟩
    rcases List.mem_cons.mp hq with rfl | hq
    · exact hCD.symm
    · exact nC q (.tail _ hq)
  · obtain ⟨oD, h1, h2⟩ := Heap.dictOf_iff.mp (Heap.DictOf.new (knd := PySem.strKind prog w) h)
    have h3 := Heap.get?_push_size h (o := dict0) rfl
    rw [h3] at h1
    exact Option.some.inj h1 ▸ h2
  · simp only [List.mem_append, List.mem_cons, List.not_mem_nil, or_false, List.append_nil] at hq ⊢
    grind
  · rcases List.mem_cons.mp hq with rfl | hq
    · exact ⟨hCD.symm, fun hm => nD (I, oI) (.head _) (List.mem_singleton.mp hm).symm⟩
    · exact ⟨nC q (.tail _ hq), fun hm => hI q hq (List.mem_singleton.mp hm)⟩
/-- iteration over a dict's keys -/
theorem dk_iter {Q : Value → Shared → Prop} (F : Fr g L s.heap m) (N : News g L s.heap news) (hp : (d, o) ∈ news) (hd : o.IsDictOf (PySem.strKind prog w) kvs) (lo : (d == sysModules) = false)
    (h : ∀ (I : Addr) h' oI ep, Fr g L h' m → News g L h' ((I, oI) :: news) → (∀ p ∈ news, p.1 < I) → KdkIter oI d 0 kvs.length ep → KdkAt (PySem.strKind prog w) o kvs ep → Q (.ref I) { s with heap := h' }) :
    wpAny (model prog w) A (pyIter (.ref d)) Q E s := by
  obtain ⟨ep, ha⟩ := KdkAt.of hd
  exact wpAny_pyIter_dict lo (ha.dictAt (N _ hp).1) (h _ _ _ ep (F.push _) (News.push F N _ rfl) (fun q hq => Heap.lt_size (N q hq).1) ⟨rfl, rfl⟩ ha)
variable {target : Expr} {Kn : Shared → Prop} {Kv : Value → Shared → Prop} {news' : Led} {G : Obj → Led} {i : Nat} {k : Str} {v : Value}
theorem dk_next (F : Fr g L s.heap m) (N : News g L s.heap news) (U : UpdF I oI news G) (hi : KdkIter oI d i kvs.length ep) (ha : KdkAt (PySem.strKind prog w) o kvs ep) (hp : (d, o) ∈ news) (hx : kvs[i]? = some (k, v))
    (h : ∀ h' o' t, Fr g L h' m → News g L h' (G o') → KdkIter o' d (i + 1) kvs.length ep → Kv (.str k t) { s with heap := h' }) :
    wpAny (model prog w) A (pyNext (.ref I)) (NextK prog w A (.ref I) target Kn Kv) NoE s := by
  obtain ⟨pre, post, hl, hg, a, b⟩ := U.split
  have hmem : (I, oI) ∈ news := by rw [hl]; exact List.mem_append_right _ (.head _)
  have hm := N (I, oI) hmem
  refine wpAny_pyNext_dict_item (hi.at hm.1) (ha.dictAt (N _ hp).1) hx fun key h' hkey hit' hs => ?_
  obtain ⟨t, rfl⟩ := Value.isStrOf_shape hkey
  obtain ⟨o', ho', hc', hd'⟩ := hit'
  exact letGo_keyiter (d := d) (i := i + 1) (n := kvs.length) (ep := ep) ⟨o', ho', hc', hd'⟩ (h h' o' t (F.change hs hm.2.1 hm.2.2) (hg o' ▸ (show News g L s.heap (pre ++ (I, oI) :: post) from hl ▸ N).setIn a b hs ho') ⟨hc', hd'⟩)
theorem dk_stop (hh : A.handled = none) (F : Fr g L s.heap m) (N : News g L s.heap news) (D : Del I news news') (hiM : (I, oI) ∈ news) (hi : KdkIter oI d i kvs.length ep) (ha : KdkAt (PySem.strKind prog w) o kvs ep) (hp : (d, o) ∈ news) (hx : kvs[i]? = none)
    (h : ∀ h', Fr g L h' m → News g L h' news' → Kn { s with heap := h' }) :
    wpAny (model prog w) A (pyNext (.ref I)) (NextK prog w A (.ref I) target Kn Kv) NoE s := by
  refine wpAny_pyNext_dict_end hh (hi.at (N _ hiM).1) (ha.dictAt (N _ hp).1) hx fun h' h2 => ?_
  obtain ⟨F', N'⟩ := del_FN F N D fun b x hb e => h2 b x hb e
  exact h h' F' N'
end
end
section
theorem rulesLexerR : True := by
  k_with_none
  k_with "k_ne" => (refine neN ?_; (try dsimp only); first | exact Nat.ne_of_lt (by with_reducible assumption) | exact Nat.ne_of_gt (by with_reducible assumption) | with_reducible assumption | exact neL_up (by with_reducible assumption) | with_reducible exact neL_13 | with_reducible exact neL_23 | with_reducible exact neL_12 | with_reducible exact neL_31 | with_reducible exact neL_32 | with_reducible exact neL_21 | exact Nat.ne_of_gt (by walk_at "pick") | exact Nat.ne_of_lt (by walk_at "pick") | omega)
  k_with "pick" => first | with_reducible assumption | with_reducible exact j1 (by assumption) | with_reducible exact j2 (by assumption) | with_reducible exact j3 (by assumption) | with_reducible exact j4 (by assumption) | with_reducible exact j5 (by assumption) | with_reducible exact j6 (by assumption) | with_reducible exact j7 (by assumption) | with_reducible exact j8 (by assumption) | with_reducible exact j9 (by assumption) | with_reducible exact j10 (by assumption) | with_reducible exact j11 (by assumption) | with_reducible exact j12 (by assumption) | with_reducible exact j13 (by assumption) | with_reducible exact j14 (by assumption) | with_reducible exact j15 (by assumption)
  k_with "om" => first | walk_at "pick" | with_reducible exact Nat.lt_trans (by assumption) (by walk_at "pick")
  k_with "k_mem" => first | exact List.Mem.head _ | assumption | exact List.mem_append_left _ (by assumption) | exact List.mem_append_right _ (by assumption) | (refine' List.Mem.tail _ ?_; k_extra "k_mem")
  k_with "room" => first | exact rm1 (by assumption) (by decide) | exact rm2 (by assumption) (by decide) | exact rm0 (by assumption) | exact rm3 (by assumption) (by decide) | ktr_room
  k_with "units" => first | exact rm1 (by assumption) (by decide) | exact rm2 (by assumption) (by decide) | exact rm0 (by assumption) | exact rm3 (by assumption) (by decide) | ktr_units
  k_with "lt" => try ((rename ∀ p ∈ (_ : List (Addr × Obj)), @LT.lt Nat _ p.1 _ => q9l9); k_lt q9l9; revert q9l9; intro _)
  k_with "dn" => try dsimp only [List.cons_append, List.nil_append] at ‹News _ _ _ _›
  k_with "dd" => try dsimp only [List.cons_append, List.nil_append] at ‹Obj.IsDictOf _ _ _›
  k_with "ds" => try dsimp only [List.cons_append, List.nil_append] at ‹LexSt _ _ _ _ _›
  k_with "end 0" => (intro q9g' q9L' q9h' q9off' q9FG' q9F' q9N' q9B' q9X' q9T' q9l0'; (try k_lt q9l0'); (try dsimp only); (try k_lift q9B'); (try k_fold))
  k_with "end 1" => (intro q9g' q9L' q9h' q9tk' q9cells' q9off' q9FG' q9F' q9N' q9Y' q9B' q9X' q9T' q9l0'; (try k_lt q9l0'); k_cells q9Y'; (try dsimp only [List.cons_append, List.nil_append] at q9N'); (try dsimp only); (try k_lift q9B'); (try k_fold))
  k_with "end 2" => (intro q9h' q9tk' q9ln' q9lt' q9F' q9N'; (try dsimp only [itLed, lexLed, lexD, strD, List.cons_append, List.nil_append] at q9N'); (try k_sweep))
  k_with "end 6" => (intro q9x' q9d' q9h' q9F' q9N' q9l1 q9l2; (try k_lt q9l1); (try k_lt2 q9l2); (try k_sweep); k_enter)
  k_with "enterF" => (k_dflt (refine' enterF (by k_asm) (by k_asm) (by k_asm) (by k_asm) (by k_asm) (by exact rfl) (by exact rfl) (by assumption) (by k_is) (by k_is) (by walk_at "room") (by first | exact BindsTo.of_eq rfl | exact binds_K (by k_in) rfl (by k_is) rfl rfl rfl) (by exact locs rfl) ?_ (by exact rfl) (by exact rfl) (by exact rfl) (by decide); k_whole; walk_at "end 0"))
  k_with "enterFC" => (k_dflt (refine' enterFC (by k_asm) (by k_asm) (by k_asm) (by k_asm) (by k_asm) (by exact rfl) (by exact rfl) (by assumption) (by k_is) (by k_is) (by walk_at "room") (by first | exact BindsTo.of_eq rfl | exact binds_K (by k_in) rfl (by k_is) rfl rfl rfl) (by exact rfl) (by decide +kernel) ?_ (by exact rfl) (by exact rfl) (by exact rfl); k_whole; walk_at "end 1"))
  k_with "call type:list" => (k_here; (with_reducible show wpAny _ _ (call (Value.type "list") [Value.str _ _]) _ _ _); k_dflt (refine' list_str_N (by exact rfl) (by k_asm) (by k_asm) (by assumption) ?_; k_whole); intros; walk_at "lt"; (try k_sweep))
  k_with "call builtin:list.pop" => (k_here; (with_reducible show wpAny _ _ (call (Value.builtin _) [Value.ref _, Value.int _ _]) _ _ _); k_dflt (refine' pop0_N (by k_asm) (by k_asm) (by k_upd) (by omega) ?_); intros; (try k_sweep))
  k_with "call builtin:iter" => (k_here; (with_reducible show wpAny _ _ (call (Value.builtin "iter") [Value.ref _, Value.str _ _]) _ _ _); k_dflt (refine' iter2_N (by k_asm) (by k_asm) (by k_mem) ?_; k_whole); intros; walk_at "lt"; (try k_sweep))
  k_with "pyIter ref" => (k_here; k_dflt (refine' pyIter_ci (by k_asm) (by k_mem) ?_; k_whole))
  k_with "exec For Name Name cons nil" => (k_here; k_dflt (refine wpAny_For ?_ (by intro _; rfl)))
  k_with "codeAny" => (k_here; k_dflt (refine' read_turn (by assumption) (by exact rfl) (by k_asm) (by k_asm) (by k_asm) (by k_asm) (by first | exact rfl | assumption) (by (first | with_reducible assumption | omega | walk_at "room")) (by (first | with_reducible assumption | omega | walk_at "units")) (by k_asm) (by ((try dsimp only); omega)) (by ((try dsimp only); omega)) (by (first | assumption | omega)) (by exact rfl) ?_; k_whole; walk_at "end 2"))
  k_with "ite" => (with_reducible first | refine ite_pos (by assumption) ?_ | refine ite_neg (by assumption) ?_)
  k_with "k_all" => first | exact List.forall_mem_nil _ | assumption | exact allNe_of (by assumption) | exact allNe_le (by assumption) (by omega) | exact allNe_gt (by assumption) | exact List.forall_mem_cons.mpr ⟨by k_ne, by k_extra "k_all"⟩
  k_with "callWith ref" => (k_here; k_dflt (first | (refine' callWith_K (by k_asm) (by k_is) ?_; k_whole) | (refine' callWith_K0 (by k_in) (by k_is) ?_; k_whole)))
  k_with "call ref" => (k_here; k_dflt (first | (refine' call_cls (by k_asm) (by k_asm) (by k_asm) (by k_is) (by k_is) (by k_is) ?_; k_whole; walk_at "end 6") | (refine wpAny_call ?_; k_enter)))
  exact True.intro
theorem lexer_conR (rest : Led) (hrest : ∀ q ∈ rest, q.1 ≠ 218) (w : World) (p : Program) (loose : List Str) (mean : ExcName → Option Value) (mg mb : Str → Option Value) (text : Str) (tt : Tok) (hsz : text.cps.size ≤ sizeLine) :
   ConF PySem.Challenge.rw_un0041_01.row.prog w (hd.heap_39 w.params) p loose mean mg mb 5 223 [.str text tt] ((218, tabObj #[]) :: rest)
    (fun r E1 => ∃ z lt vs n, LA.Ok z ∧ r = .ref z.x ∧ E1 = lexLed w.params z #[] 0 1 lt vs.toArray n ++ (tabLed z.c ++ rest) ∧ AllLt z.cc rest ∧ Chars vs text.cps.toList) := by
  k_fill
  intro dp un gd cn cs a ccd cl outer A₀ base h₀ L m s R B F X N T hk hd hu ret
  walk_at "enterFC"
  (rename Frag.In _ _ => hX9)
  have codeHd := codeHd_of_K (c := 222) (P := 218) hX9 (by kernel_rfl)
  (rename @LT.lt Nat _ _ _ ∧ _ => kL7)
  have hAL9 := kL7.2
  k_steps
  (rename News _ _ _ _ => kN9)
  (rename Chars _ _ => hC9)
  refine ret _ _ _ _ (by k_asm) kN9 (Off.trans (by assumption) (Fr.keep (by k_asm))) ⟨⟨_, _, _, _, _, _, _, _, _, _, _, _, _, _, _, fun i => [_, _, _, _, _, _, _, _, _, _, _, _].getD i.val 0⟩, _, _, _, ?ok, rfl, rfl, allLt_of fun p hp => Nat.lt_succ_of_lt (allLt_mem hAL9 hp), hC9⟩
  dsimp only [LA.Ok]
  exact ⟨by omega, by omega, by omega, by omega, by omega, by omega, by omega, by omega, by omega, by omega, by assumption, _, _, by assumption, by assumption⟩
end
section
theorem rulesNbT : True := by
  k_with_none
  k_with "k_ne" => (refine neN ?_; (try dsimp only); first | exact Nat.ne_of_lt (by with_reducible assumption) | exact Nat.ne_of_gt (by with_reducible assumption) | with_reducible assumption | exact neL_up (by with_reducible assumption) | with_reducible exact neL_13 | with_reducible exact neL_23 | with_reducible exact neL_12 | with_reducible exact neL_31 | with_reducible exact neL_32 | with_reducible exact neL_21 | exact Nat.ne_of_gt (by walk_at "pick") | exact Nat.ne_of_lt (by walk_at "pick") | omega)
  k_with "pick" => first | with_reducible assumption | with_reducible exact j1 (by assumption) | with_reducible exact j2 (by assumption) | with_reducible exact j3 (by assumption) | with_reducible exact j4 (by assumption) | with_reducible exact j5 (by assumption) | with_reducible exact j6 (by assumption) | with_reducible exact j7 (by assumption) | with_reducible exact j8 (by assumption) | with_reducible exact j9 (by assumption) | with_reducible exact j10 (by assumption) | with_reducible exact j11 (by assumption) | with_reducible exact j12 (by assumption) | with_reducible exact j13 (by assumption) | with_reducible exact j14 (by assumption) | with_reducible exact j15 (by assumption)
  k_with "om" => first | walk_at "pick" | with_reducible exact Nat.lt_trans (by assumption) (by walk_at "pick")
  k_with "k_mem" => first | exact List.Mem.head _ | assumption | exact List.mem_append_left _ (by assumption) | exact List.mem_append_right _ (by assumption) | (refine' List.Mem.tail _ ?_; k_extra "k_mem")
  k_with "room" => first | exact rm1 (by assumption) (by decide) | exact rm2 (by assumption) (by decide) | exact rm0 (by assumption) | exact rm3 (by assumption) (by decide) | ktr_room
  k_with "units" => first | exact rm1 (by assumption) (by decide) | exact rm2 (by assumption) (by decide) | exact rm0 (by assumption) | exact rm3 (by assumption) (by decide) | ktr_units
  k_with "lt" => try ((rename ∀ p ∈ (_ : List (Addr × Obj)), @LT.lt Nat _ p.1 _ => q9l9); k_lt q9l9; revert q9l9; intro _)
  k_with "dn" => try dsimp only [List.cons_append, List.nil_append] at ‹News _ _ _ _›
  k_with "dd" => try dsimp only [List.cons_append, List.nil_append] at ‹Obj.IsDictOf _ _ _›
  k_with "ds" => try dsimp only [List.cons_append, List.nil_append] at ‹LexSt _ _ _ _ _›
  k_with "end 0" => (intro q9g' q9L' q9h' q9off' q9FG' q9F' q9N' q9B' q9X' q9T' q9l0'; (try k_lt q9l0'); (try dsimp only); (try k_lift q9B'); (try k_fold))
  k_with "end 1" => (intro q9g' q9L' q9h' q9tk' q9cells' q9off' q9FG' q9F' q9N' q9Y' q9B' q9X' q9T' q9l0'; (try k_lt q9l0'); k_cells q9Y'; (try dsimp only [List.cons_append, List.nil_append] at q9N'); (try dsimp only); (try k_lift q9B'); (try k_fold))
  k_with "enterF" => (k_dflt (refine' enterF (by k_asm) (by k_asm) (by k_asm) (by k_asm) (by k_asm) (by exact rfl) (by exact rfl) (by assumption) (by k_is) (by k_is) (by walk_at "room") (by first | exact BindsTo.of_eq rfl | exact binds_K (by k_in) rfl (by k_is) rfl rfl rfl) (by exact locs rfl) ?_ (by exact rfl) (by exact rfl) (by exact rfl) (by decide); k_whole; walk_at "end 0"))
  k_with "enterFC" => (k_dflt (refine' enterFC (by k_asm) (by k_asm) (by k_asm) (by k_asm) (by k_asm) (by exact rfl) (by exact rfl) (by assumption) (by k_is) (by k_is) (by walk_at "room") (by first | exact BindsTo.of_eq rfl | exact binds_K (by k_in) rfl (by k_is) rfl rfl rfl) (by exact rfl) (by decide +kernel) ?_ (by exact rfl) (by exact rfl) (by exact rfl); k_whole; walk_at "end 1"))
  k_with "k_del" => first | (refine' Del.head (by k_all)) | (refine' Del.tail (by k_ne) (by walk_at "k_del"))
  k_with "eval ListComp" => (k_here; k_dflt (refine lc_enter (by k_asm) (by with_unfolding_all rfl) (by decide) (by rfl) (by decide) ?_ (by intro _; rfl)))
  k_with "pyIter ref" => (k_here; k_dflt (first | (refine' pyIter_enum_N (by k_asm) (by k_mem) ?_; k_whole) | (refine' pyIter_tupo_N (by k_asm) (by k_asm) (by k_mem) ?_; k_whole; intros; walk_at "lt"; (try k_sweep)) | (refine' pyIter_list_N (by k_asm) (by k_asm) (by exact News.isList (by k_asm) (by k_mem)) ?_; k_whole; intros; walk_at "lt"; (try k_sweep))))
  k_with "exec Assign cons ListComp" => (k_here; k_dflt (refine' lc_assign (by k_asm) (by rfl) (by with_unfolding_all rfl) (by with_unfolding_all rfl) (by decide) (by rfl) (by decide) (by rfl) (by rfl) ?_ (by intro _; rfl)))
  k_with "k_all" => first | exact List.forall_mem_nil _ | exact LexSt.ne (by assumption) (by omega) | exact allNe_of (by assumption) | exact allNe_le (by assumption) (by omega) | exact allNe_gt (by assumption) | exact List.forall_mem_cons.mpr ⟨by k_ne, by k_extra "k_all"⟩
  k_with "subscriptTail" => (k_here; (with_reducible show wpAny _ _ (subscriptTail _ _ (Value.ref _) (Value.int _ _)) _ _ _); k_dflt (refine' itemL_N (by k_asm) (by k_mem) (by assumption) (by assumption) ?_ (by with_unfolding_all rfl); k_whole))
  k_with "binaryOp Add str str" => (k_here; (with_reducible show wpAny _ _ (binaryOp Operator.Add (Value.str _ _) (Value.str _ _)) _ _ _); k_dflt (refine' PyProof.Rows.add_str ?_ (by assumption); k_whole); intros)
  k_with "k_tail" => first | exact TailE.nil | (apply TailE.cons; walk_at "k_tail")
  k_with "k_allgt" => first | exact List.forall_mem_nil _ | (refine' List.forall_mem_cons.mpr ⟨(by ((try dsimp only); first | with_reducible assumption | omega)), (by walk_at "k_allgt")⟩)
  k_with "k_inE" => first | exact fun _ hq => hq | (refine' fun q hq => List.Mem.tail _ (?_ : ∀ q ∈ _, q ∈ _) q hq)
  k_with "exec While Name cons nil" => (k_here; k_dflt (refine wpAny_While ?_))
  k_with "codeAny" => (k_here; (with_reducible show codeAny _ _ (Code.whileLoop _ _ _ _) _ _); refine while_turn ?_; (try k_fold))
  k_with "truthy str" => (k_here; (first | (refine' truthy_yes (by assumption) (by assumption) ?_) | refine truthy_no ?_); intros)
  k_with "call type:int" => (k_here; (with_reducible show wpAny _ _ (call (Value.type "int") [Value.str _ _, Value.int _ _]) _ _ _); k_dflt (refine call_int8 (by assumption) ?_))
  k_with "setItem ref str" => (k_here; k_dflt (refine' dset_new (by k_asm) (by k_asm) (by k_updF) (by k_asm) (by first | exact vn0 | exact vn1 (by assumption) | exact vn2 (by assumption) (by assumption) | exact vn3 (by assumption) (by assumption) (by assumption)) (by exact Nat.le_of_ble_eq_true (by with_unfolding_all rfl)) ?_); intros; walk_at "dn"; walk_at "dd"; (try k_sweep))
  k_with "subscriptTail" => (k_here; (with_reducible show wpAny _ _ (subscriptTail _ _ (Value.ref _) (Value.str _ _)) _ _ _); k_dflt (refine' dget (by k_asm) (by k_mem) (by k_asm) (by first | assumption | exact vs0 | exact vs1 (by assumption) | exact vs2 (by assumption) (by assumption) | exact vs3 (by assumption) (by assumption) (by assumption)) ?_ (by with_unfolding_all rfl); k_whole); intros)
  k_with "binaryOp Mod str int" => (k_here; (refine mod_o (by assumption) ?_); intros)
  k_with "call ref" => (k_here; k_dflt (show wpAny _ _ (call (Value.ref 103) [_]) _ _ _); k_dflt (first | (refine' ConF.useLS (getPath (by assumption) (by assumption)) (by k_asm) (by k_asm) (by k_asm) (by k_asm) (by k_asm) (by exact rfl) (by (first | with_reducible assumption | omega | walk_at "room")) (by (first | with_reducible assumption | omega | walk_at "units")) (by walk_at "k_tail") (by exact LexSt.le (by assumption)) (by walk_at "k_allgt") ?_; k_whole; intros; walk_at "dn"; (try k_sweep)) | (refine' ConF.useLS (getOct (by assumption) (by assumption)) (by k_asm) (by k_asm) (by k_asm) (by k_asm) (by k_asm) (by exact rfl) (by (first | with_reducible assumption | omega | walk_at "room")) (by (first | with_reducible assumption | omega | walk_at "units")) (by walk_at "k_tail") (by exact LexSt.le (by assumption)) (by walk_at "k_allgt") ?_; k_whole; intros; walk_at "dn"; (try k_sweep)) | (refine' ConF.useLS (getE (by assumption)) (by k_asm) (by k_asm) (by k_asm) (by k_asm) (by k_asm) (by exact rfl) (by (first | with_reducible assumption | omega | walk_at "room")) (by (first | with_reducible assumption | omega | walk_at "units")) (by walk_at "k_tail") (by exact LexSt.le (by assumption)) (by walk_at "k_allgt") ?_; k_whole; intros; walk_at "dn"; (try k_sweep)) | (refine' ConF.useLE (getB (by assumption) (by first | decide | assumption | (simp only [List.length_append, List.length_cons, List.length_nil]; omega))) (by k_asm) (by k_asm) (by k_asm) (by k_asm) (by k_asm) (by exact rfl) (by (first | with_reducible assumption | omega | walk_at "room")) (by (first | with_reducible assumption | omega | walk_at "units")) (by walk_at "k_tail") (by exact LexSt.le (by assumption)) (by walk_at "k_allgt") ?_; k_whole; intros; walk_at "dn"; (try k_sweep))))
  k_with "call ref" => (k_here; k_dflt (show wpAny _ _ (call (Value.ref 110) [_, _]) _ _ _); k_dflt (refine' ConF.useLE (pushT (by assumption) (by first | decide | assumption | (simp only [List.length_append, List.length_cons, List.length_nil]; omega))) (by k_asm) (by k_asm) (by k_asm) (by k_asm) (by k_asm) (by exact rfl) (by (first | with_reducible assumption | omega | walk_at "room")) (by (first | with_reducible assumption | omega | walk_at "units")) (by walk_at "k_tail") (by exact LexSt.le (by assumption)) (by walk_at "k_allgt") ?_; k_whole; intros; walk_at "ds"; walk_at "dn"; (try k_sweep)))
  k_with "call ref" => (k_here; k_dflt (show wpAny _ _ (call (Value.ref 75) [Value.int _ _]) _ _ _); k_dflt (refine' ConF.use0S (fm_con _ _ _ _ _ _ (by assumption) _) (by k_asm) (by k_asm) (by k_asm) (by k_asm) (by k_asm) (by exact rfl) (by (first | with_reducible assumption | omega | walk_at "room")) (by (first | with_reducible assumption | omega | walk_at "units")) ?_; k_whole); intros; (try k_sweep))
  k_with "getMethod ref" => (k_here; k_dflt (first | (refine' lex_get (by assumption) (by k_asm) (by k_asm) (by k_asm) (by intro q hq; repeat (first | exact hq | apply List.Mem.tail)) ?_; k_whole) | (refine' lex_push (by assumption) (by k_asm) (by k_asm) (by k_asm) (by intro q hq; repeat (first | exact hq | apply List.Mem.tail)) ?_; k_whole)))
  k_with "pyIter ref" => (k_here; k_dflt (refine' dk_iter (by k_asm) (by k_asm) (by k_mem) (by assumption) (by assumption) ?_; k_whole); intros; walk_at "lt"; (try k_sweep))
  k_with "codeAny" => (k_here; (with_reducible show codeAny _ _ (Code.forLoop _ _ _ _ _) _ _); refine for_turnK ?_; (try k_fold))
  k_with "pyNext ref" => (k_here; k_dflt (first | (refine' dk_next (by k_asm) (by k_asm) (by k_updF) (by assumption) (by assumption) (by k_mem) (by exact rfl) ?_; k_whole; intros; walk_at "dn"; (try k_sweep)) | (refine' dk_stop (by rfl) (by k_asm) (by k_asm) (by walk_at "k_del") (by k_mem) (by assumption) (by assumption) (by k_mem) (by exact rfl) ?_; k_whole; intros; walk_at "dn"; (try k_sweep))))
  k_with "exec For Name Name cons nil" => (k_here; k_dflt (refine wpAny_For ?_ (by intro _; rfl)))
  k_with "eval DictComp" => (k_here; k_dflt (refine dc_enter (by k_asm) (by with_unfolding_all rfl) (by decide) (by rfl) (by decide) ?_ (by intro _; rfl)))
  exact True.intro
section
variable {prog : Program} {w : World} {A : Around} {E : Value → Shared → Prop} {s : Shared} {g : Heap} {L d : Addr} {m : Str → Option Value} {news : Led} {o : Obj} {kvs : List (Str × Value)} {k : Str} {t u : Tok} {Q : Value → Shared → Prop}
theorem kda_notin (N : News g L s.heap news) (hp : (d, o) ∈ news) (hd : o.IsDictOf (PySem.strKind prog w) kvs) (lo : (d == sysModules) = false) (b : Bool) (hb : (valueAt kvs k).isSome = b) (h : Q (.bool (!b)) { s with toks := s.toks + 1 }) :
    wpAny (model prog w) A (compareOp .NotIn (.str k t) (.ref d)) Q E s := wpAny_notIn_of (knd := PySem.strKind prog w) (strKind_is _ _ k t) lo (kda_dict N hp hd).mapOf (by rw [hb]; exact h)
noncomputable def isFalseV : Value → Bool
  | .bool b => b == false
  | _ => false
theorem notin_bools {bs : List Bool} {c : Nat} (N : News g L s.heap news) (hp : (d, W.listOf (bs.map Value.bool).toArray c) ∈ news) (h : Q (.bool (!(bs.any (· == false)))) s) :
    wpAny (model prog w) A (compareOp .NotIn (.bool false) (.ref d)) Q E s := by
  refine PySem.SeqAt.notIn_listAt isFalseV (News.isList N hp) (fun y hy => ?_) ?_
  · obtain ⟨b, _, rfl⟩ := List.mem_map.mp (List.mem_toArray.mp hy)
    exact PySem.SeqAt.EqAt.bool_bool b false
  · have : (bs.map Value.bool).toArray.any isFalseV = bs.any (· == false) := by
      rw [← Array.any_toList, List.any_map]; rfl
    rw [this]; exact h
noncomputable def permI (f g : Nat) : Int := Builtin.bitAnd (Builtin.bitAnd (modeOf f) (modeOf g)) 4095
theorem perm_mode {f g : Nat} (hf : f < 16) (hg : g < 16) : 32768 + permI f g = modeOf (f &&& g) := by
  have key : ∀ f g : _root_.Fin 16, 32768 + permI f.val g.val = modeOf (f.val &&& g.val) := by decide +kernel
  exact key ⟨f, hf⟩ ⟨g, hg⟩
theorem land_lt {f g : Nat} (hf : f < 16) : f &&& g < 16 := Nat.lt_of_le_of_lt Nat.and_le_left hf
theorem add_perm {f g : Nat} (hf : f < 16) (hg : g < 16) (h : Q (.int (modeOf (f &&& g)) s.toks) { s with toks := s.toks + 1 }) : wpAny (model prog w) A (binaryOp .Add (.int 32768 t) (.int (permI f g) u)) Q E s :=
  add_int (by rw [perm_mode hf hg]; exact h)
end
theorem imode_con (w : World) (p : Program) (loose : List Str) (mean : ExcName → Option Value) (mg mb : Str → Option Value) (v : Int) (t : Tok) :
   ConF PySem.Challenge.rw_un0041_01.row.prog w (hd.heap_39 w.params) p loose mean mg mb 1 28 [.int v t] []
    (fun r E1 => E1 = [] ∧ ∃ t', r = .int (Builtin.bitAnd v 4095) t') := by
  k_fill
  intro dp un gd cn cs a ccd cl outer A₀ base h₀ L m s R B F X N T hk hd hu ret
  walk_at "enterF"
  k_steps
  exact ret _ [] _ _ (by k_asm) (fun p hp => nomatch hp) (Off.trans (by assumption) (Fr.keep (by k_asm))) ⟨rfl, _, rfl⟩
/-- the bit of a position -/
noncomputable def bAt (f g i : Nat) : Bool :=
  match (rowOf f).cps[i]?, (rowOf g).cps[i]? with
  | some c, some e => c == 45 || c == e
  | _, _ => true
theorem bAt_all {f g : Nat} (hf : f < 16) (hg : g < 16) : (!(((List.range 10).map (bAt f g)).any (· == false))) = (f &&& g == f) := by
  have key : ∀ f g : _root_.Fin 16, (!(((List.range 10).map (bAt f.val g.val)).any (· == false))) = (f.val &&& g.val == f.val) := by decide +kernel
  exact key ⟨f, hf⟩ ⟨g, hg⟩
theorem rowOf_size {f : Nat} (hf : f < 16) : (rowOf f).cps.size = 10 := by
  have key : ∀ f : _root_.Fin 16, (rowOf f.val).cps.size = 10 := by decide +kernel
  exact key ⟨f, hf⟩
theorem rowOf_ascii {f : Nat} (hf : f < 16) : (rowOf f).cps.all (· < 128) = true := by
  have key : ∀ f : _root_.Fin 16, (rowOf f.val).cps.all (· < 128) = true := by decide +kernel
  exact key ⟨f, hf⟩
theorem rowOf_signs {f i c : Nat} (hf : f < 16) (h : (rowOf f).cps[i]? = some c) : c = 45 ∨ c = 114 ∨ c = 119 := by
  have key : ∀ f : _root_.Fin 16, (rowOf f.val).cps.toList.all (fun c => c == 45 || c == 114 || c == 119) = true := by decide +kernel
  have := List.all_eq_true.mp (key ⟨f, hf⟩) c (by
    rw [← Array.getElem?_toList] at h
    exact List.mem_of_getElem? h)
  simpa [or_assoc] using this
theorem rowOf_inj {f g : Nat} (hf : f < 16) (hg : g < 16) (h : rowOf f = rowOf g) : f = g := by
  have key : ∀ f g : _root_.Fin 16, rowOf f.val = rowOf g.val → f.val = g.val := by decide +kernel
  exact key ⟨f, hf⟩ ⟨g, hg⟩ h
/-- the notes made so far: a figure and what stands at its row -/
inductive KV (c : Nat → Str) : List Nat → List (Str × Value) → Prop
  | nil : KV c [] []
  | snoc {N kvs f t} : KV c N kvs → KV c (N ++ [f]) (kvs ++ [(rowOf f, .str (c f) t)])
theorem KV.len {c : Nat → Str} {N kvs} (h : KV c N kvs) : kvs.length = N.length := by
  induction h with
  | nil => rfl
  | snoc _ ih => simp [ih]
theorem KV.keys {c : Nat → Str} {N kvs} (h : KV c N kvs) : kvs.map (·.1) = N.map rowOf := by
  induction h with
  | nil => rfl
  | snoc _ ih => simp [ih]
theorem KV.non {c : Nat → Str} {N kvs} {f : Nat} (h : KV c N kvs) (hN : ∀ x ∈ N, x < 16) (hf : f < 16) (hn : f ∉ N) : valueAt kvs (rowOf f) = none := by
  refine valueAt_none fun hm => ?_
  rw [h.keys] at hm
  obtain ⟨x, hx, e⟩ := List.mem_map.mp hm
  exact hn (rowOf_inj (hN x hx) hf e ▸ hx)
theorem KV.som {c : Nat → Str} {N kvs} {f : Nat} (h : KV c N kvs) (hN : ∀ x ∈ N, x < 16) (hf : f < 16) (hn : f ∈ N) : ∃ t, valueAt kvs (rowOf f) = some (.str (c f) t) := by
  induction h with
  | nil => exact nomatch hn
  | @snoc N kvs x t h ih =>
    by_cases hm : f ∈ N
    · obtain ⟨t', e⟩ := ih (fun x hx => hN x (List.mem_append_left _ hx)) hm
      refine ⟨t', ?_⟩
      unfold valueAt at e ⊢
      rw [List.find?_append]
      cases e2 : kvs.find? (fun kv => decide (kv.1 = rowOf f)) with
      | none => rw [e2] at e; exact nomatch e
      | some p => rw [e2] at e; simpa using e
    · have hx : f = x := by
        rcases List.mem_append.mp hn with q | q
        · exact absurd q hm
        · exact List.mem_singleton.mp q
      subst hx
      refine ⟨t, ?_⟩
      have := h.non (fun x hx => hN x (List.mem_append_left _ hx)) hf hm
      unfold valueAt at this ⊢
      rw [List.find?_append]
      rw [Option.map_eq_none_iff] at this
      rw [this]
      simp
theorem KV.isSome {c : Nat → Str} {N kvs} {f : Nat} (h : KV c N kvs) (hN : ∀ x ∈ N, x < 16) (hf : f < 16) : (valueAt kvs (rowOf f)).isSome = decide (f ∈ N) := by
  by_cases hn : f ∈ N
  · obtain ⟨t, e⟩ := h.som hN hf hn
    rw [e]; simp [hn]
  · rw [h.non hN hf hn]; simp [hn]
/-- the 15 meets of the four figures -/
noncomputable def meet (f0 f1 f2 f3 c : Nat) : Nat := (((15 &&& if c.testBit 0 then f0 else 15) &&& if c.testBit 1 then f1 else 15) &&& if c.testBit 2 then f2 else 15) &&& if c.testBit 3 then f3 else 15
noncomputable def IsMeet (f0 f1 f2 f3 f : Nat) : Prop := ∃ c, 1 ≤ c ∧ c < 16 ∧ f = meet f0 f1 f2 f3 c
theorem and15 {f : Nat} (h : f < 16) : 15 &&& f = f := by
  have key : ∀ f : _root_.Fin 16, 15 &&& f.val = f.val := by decide +kernel
  exact key ⟨f, h⟩
structure Pend (f0 f1 f2 f3 : Nat) (N q : List Nat) : Prop where
  nodup : N.Nodup
  lt : ∀ f ∈ N ++ q, f < 16
  meet : ∀ f ∈ N ++ q, IsMeet f0 f1 f2 f3 f
  h0 : f0 ∈ N ++ q
  h1 : f1 ∈ N ++ q
  h2 : f2 ∈ N ++ q
  h3 : f3 ∈ N ++ q
  a0 : ∀ f ∈ N, f &&& f0 ∈ N ++ q
  a1 : ∀ f ∈ N, f &&& f1 ∈ N ++ q
  a2 : ∀ f ∈ N, f &&& f2 ∈ N ++ q
  a3 : ∀ f ∈ N, f &&& f3 ∈ N ++ q
  len : q.length ≤ 4 + 4 * N.length
theorem nodup_lt {n : Nat} : ∀ {N : List Nat}, N.Nodup → (∀ f ∈ N, f < n) → N.length ≤ n := by
  induction n with
  | zero =>
    intro N _ h
    cases N with
    | nil => exact Nat.le_refl _
    | cons a _ => exact absurd (h a (.head _)) (Nat.not_lt_zero _)
  | succ n ih =>
    intro N hN h
    by_cases hn : n ∈ N
    · have h1 := List.length_erase_of_mem hn
      have h2 := ih (hN.erase n) fun f hf => by
        have h3 := h f (List.mem_of_mem_erase hf)
        have h4 : f ≠ n := fun e => by
          rw [hN.mem_erase_iff] at hf
          exact hf.1 e
        omega
      omega
    · have := ih hN fun f hf => by
        have h3 := h f hf
        have h4 : f ≠ n := fun e => hn (e ▸ hf)
        omega
      omega
theorem mc (b : Bool) (x y : Nat) (i : Nat) : (if b = true then x else y).testBit i = ((b && x.testBit i) || (!b && y.testBit i)) := by cases b <;> simp
theorem meet_bit (f0 f1 f2 f3 c i : Nat) : (meet f0 f1 f2 f3 c).testBit i = ((((Nat.testBit 15 i && ((c.testBit 0 && f0.testBit i) || (!c.testBit 0 && Nat.testBit 15 i))) && ((c.testBit 1 && f1.testBit i) || (!c.testBit 1 && Nat.testBit 15 i))) && ((c.testBit 2 && f2.testBit i) || (!c.testBit 2 && Nat.testBit 15 i))) && ((c.testBit 3 && f3.testBit i) || (!c.testBit 3 && Nat.testBit 15 i))) := by
  unfold meet
  simp only [Nat.testBit_and, mc]
theorem meet_and0 (f0 f1 f2 f3 c : Nat) : meet f0 f1 f2 f3 c &&& f0 = meet f0 f1 f2 f3 (c ||| 1) := by
  apply Nat.eq_of_testBit_eq; intro i
  rw [Nat.testBit_and, meet_bit, meet_bit]
  simp only [Nat.testBit_or, show Nat.testBit 1 0 = true from rfl, show Nat.testBit 1 1 = false from rfl, show Nat.testBit 1 2 = false from rfl, show Nat.testBit 1 3 = false from rfl]
  generalize Nat.testBit 15 i = b; generalize f0.testBit i = b0; generalize f1.testBit i = b1; generalize f2.testBit i = b2; generalize f3.testBit i = b3; generalize c.testBit 0 = c0; generalize c.testBit 1 = c1; generalize c.testBit 2 = c2; generalize c.testBit 3 = c3
  revert b b0 b1 b2 b3 c0 c1 c2 c3; decide +kernel
theorem meet_and1 (f0 f1 f2 f3 c : Nat) : meet f0 f1 f2 f3 c &&& f1 = meet f0 f1 f2 f3 (c ||| 2) := by
  apply Nat.eq_of_testBit_eq; intro i
  rw [Nat.testBit_and, meet_bit, meet_bit]
  simp only [Nat.testBit_or, show Nat.testBit 2 0 = false from rfl, show Nat.testBit 2 1 = true from rfl, show Nat.testBit 2 2 = false from rfl, show Nat.testBit 2 3 = false from rfl]
  generalize Nat.testBit 15 i = b; generalize f0.testBit i = b0; generalize f1.testBit i = b1; generalize f2.testBit i = b2; generalize f3.testBit i = b3; generalize c.testBit 0 = c0; generalize c.testBit 1 = c1; generalize c.testBit 2 = c2; generalize c.testBit 3 = c3
  revert b b0 b1 b2 b3 c0 c1 c2 c3; decide +kernel
theorem meet_and2 (f0 f1 f2 f3 c : Nat) : meet f0 f1 f2 f3 c &&& f2 = meet f0 f1 f2 f3 (c ||| 4) := by
  apply Nat.eq_of_testBit_eq; intro i
  rw [Nat.testBit_and, meet_bit, meet_bit]
  simp only [Nat.testBit_or, show Nat.testBit 4 0 = false from rfl, show Nat.testBit 4 1 = false from rfl, show Nat.testBit 4 2 = true from rfl, show Nat.testBit 4 3 = false from rfl]
  generalize Nat.testBit 15 i = b; generalize f0.testBit i = b0; generalize f1.testBit i = b1; generalize f2.testBit i = b2; generalize f3.testBit i = b3; generalize c.testBit 0 = c0; generalize c.testBit 1 = c1; generalize c.testBit 2 = c2; generalize c.testBit 3 = c3
  revert b b0 b1 b2 b3 c0 c1 c2 c3; decide +kernel
theorem meet_and3 (f0 f1 f2 f3 c : Nat) : meet f0 f1 f2 f3 c &&& f3 = meet f0 f1 f2 f3 (c ||| 8) := by
  apply Nat.eq_of_testBit_eq; intro i
  rw [Nat.testBit_and, meet_bit, meet_bit]
  simp only [Nat.testBit_or, show Nat.testBit 8 0 = false from rfl, show Nat.testBit 8 1 = false from rfl, show Nat.testBit 8 2 = false from rfl, show Nat.testBit 8 3 = true from rfl]
  generalize Nat.testBit 15 i = b; generalize f0.testBit i = b0; generalize f1.testBit i = b1; generalize f2.testBit i = b2; generalize f3.testBit i = b3; generalize c.testBit 0 = c0; generalize c.testBit 1 = c1; generalize c.testBit 2 = c2; generalize c.testBit 3 = c3
  revert b b0 b1 b2 b3 c0 c1 c2 c3; decide +kernel
theorem isMeet_f {f0 f1 f2 f3 : Nat} (g0 : f0 < 16) (g1 : f1 < 16) (g2 : f2 < 16) (g3 : f3 < 16) : IsMeet f0 f1 f2 f3 f0 ∧ IsMeet f0 f1 f2 f3 f1 ∧ IsMeet f0 f1 f2 f3 f2 ∧ IsMeet f0 f1 f2 f3 f3 := by
  have q : ∀ {f : Nat}, f < 16 → f &&& 15 = f := fun h => by rw [Nat.and_comm]; exact and15 h
  refine ⟨⟨1, by decide, by decide, ?_⟩, ⟨2, by decide, by decide, ?_⟩, ⟨4, by decide, by decide, ?_⟩, ⟨8, by decide, by decide, ?_⟩⟩
  · show f0 = (((15 &&& f0) &&& 15) &&& 15) &&& 15
    rw [and15 g0, q g0, q g0, q g0]
  · show f1 = (((15 &&& 15) &&& f1) &&& 15) &&& 15
    rw [show 15 &&& 15 = 15 from rfl, and15 g1, q g1, q g1]
  · show f2 = (((15 &&& 15) &&& 15) &&& f2) &&& 15
    rw [show 15 &&& 15 = 15 from rfl, show 15 &&& 15 = 15 from rfl, and15 g2, q g2]
  · show f3 = (((15 &&& 15) &&& 15) &&& 15) &&& f3
    rw [show 15 &&& 15 = 15 from rfl, show 15 &&& 15 = 15 from rfl, show 15 &&& 15 = 15 from rfl, and15 g3]
theorem or_lt16 {a b : Nat} (h1 : 1 ≤ a) (ha : a < 16) (hb : b < 16) : 1 ≤ a ||| b ∧ a ||| b < 16 := ⟨Nat.le_trans h1 Nat.left_le_or, Nat.or_lt_two_pow (n := 4) ha hb⟩
theorem IsMeet.and0 {f0 f1 f2 f3 f : Nat} : IsMeet f0 f1 f2 f3 f → IsMeet f0 f1 f2 f3 (f &&& f0) := fun ⟨c, h1, h2, e⟩ => ⟨c ||| 1, (or_lt16 h1 h2 (by decide)).1, (or_lt16 h1 h2 (by decide)).2, by rw [e, meet_and0]⟩
theorem IsMeet.and1 {f0 f1 f2 f3 f : Nat} : IsMeet f0 f1 f2 f3 f → IsMeet f0 f1 f2 f3 (f &&& f1) := fun ⟨c, h1, h2, e⟩ => ⟨c ||| 2, (or_lt16 h1 h2 (by decide)).1, (or_lt16 h1 h2 (by decide)).2, by rw [e, meet_and1]⟩
theorem IsMeet.and2 {f0 f1 f2 f3 f : Nat} : IsMeet f0 f1 f2 f3 f → IsMeet f0 f1 f2 f3 (f &&& f2) := fun ⟨c, h1, h2, e⟩ => ⟨c ||| 4, (or_lt16 h1 h2 (by decide)).1, (or_lt16 h1 h2 (by decide)).2, by rw [e, meet_and2]⟩
theorem IsMeet.and3 {f0 f1 f2 f3 f : Nat} : IsMeet f0 f1 f2 f3 f → IsMeet f0 f1 f2 f3 (f &&& f3) := fun ⟨c, h1, h2, e⟩ => ⟨c ||| 8, (or_lt16 h1 h2 (by decide)).1, (or_lt16 h1 h2 (by decide)).2, by rw [e, meet_and3]⟩
theorem Pend.start {f0 f1 f2 f3 : Nat} (g0 : f0 < 16) (g1 : f1 < 16) (g2 : f2 < 16) (g3 : f3 < 16) : Pend f0 f1 f2 f3 [] [f0, f1, f2, f3] := by
  obtain ⟨m0, m1, m2, m3⟩ := isMeet_f g0 g1 g2 g3
  exact ⟨List.nodup_nil, by simp [g0, g1, g2, g3], by simp [m0, m1, m2, m3], by simp, by simp, by simp, by simp, by simp, by simp, by simp, by simp, by simp⟩
theorem Pend.skip {f0 f1 f2 f3 f : Nat} {N q : List Nat} (h : Pend f0 f1 f2 f3 N (f :: q)) (hf : f ∈ N) : Pend f0 f1 f2 f3 N q := by
  have sub : ∀ x, x ∈ N ++ f :: q → x ∈ N ++ q := fun x hx => by
    simp only [List.mem_append, List.mem_cons] at hx ⊢
    rcases hx with h | rfl | h
    · exact .inl h
    · exact .inl hf
    · exact .inr h
  have up : ∀ x, x ∈ N ++ q → x ∈ N ++ f :: q := fun x hx => by
    simp only [List.mem_append, List.mem_cons] at hx ⊢
    exact hx.elim .inl fun h => .inr (.inr h)
  refine ⟨h.nodup, fun x hx => h.lt x (up x hx), fun x hx => h.meet x (up x hx), sub _ h.h0, sub _ h.h1, sub _ h.h2, sub _ h.h3, fun x hx => sub _ (h.a0 x hx), fun x hx => sub _ (h.a1 x hx), fun x hx => sub _ (h.a2 x hx), fun x hx => sub _ (h.a3 x hx), ?_⟩
  have := h.len
  simp only [List.length_cons] at this
  omega
theorem Pend.take {f0 f1 f2 f3 f : Nat} {N q : List Nat} (h : Pend f0 f1 f2 f3 N (f :: q)) (hf : f ∉ N) : Pend f0 f1 f2 f3 (N ++ [f]) (q ++ [f &&& f0, f &&& f1, f &&& f2, f &&& f3]) := by
  have fm : f ∈ N ++ f :: q := List.mem_append_right _ (.head _)
  have sub : ∀ x, x ∈ N ++ f :: q → x ∈ (N ++ [f]) ++ (q ++ [f &&& f0, f &&& f1, f &&& f2, f &&& f3]) := fun x hx => by
    simp only [List.mem_append, List.mem_cons] at hx ⊢
    rcases hx with h | h | h
    · exact .inl (.inl h)
    · exact .inl (.inr (.inl h))
    · exact .inr (.inl h)
  have cases' : ∀ x, x ∈ (N ++ [f]) ++ (q ++ [f &&& f0, f &&& f1, f &&& f2, f &&& f3]) → x ∈ N ++ f :: q ∨ x = f &&& f0 ∨ x = f &&& f1 ∨ x = f &&& f2 ∨ x = f &&& f3 := fun x hx => by
    simp only [List.mem_append, List.mem_cons, List.not_mem_nil, or_false] at hx ⊢
    grind
  have l16 := h.lt f fm
  have mf := h.meet f fm
  refine ⟨?_, fun x hx => ?_, fun x hx => ?_, sub _ h.h0, sub _ h.h1, sub _ h.h2, sub _ h.h3, fun x hx => ?_, fun x hx => ?_, fun x hx => ?_, fun x hx => ?_, ?_⟩
  · rw [List.nodup_append]
    exact ⟨h.nodup, by simp, fun a ha b hb e => hf (by rw [List.mem_singleton.mp hb] at e; exact e ▸ ha)⟩
  · rcases cases' x hx with q | rfl | rfl | rfl | rfl
    · exact h.lt x q
    all_goals exact land_lt l16
  · rcases cases' x hx with q | rfl | rfl | rfl | rfl
    · exact h.meet x q
    · exact mf.and0
    · exact mf.and1
    · exact mf.and2
    · exact mf.and3
  all_goals first
    | (rcases List.mem_append.mp hx with hx | hx
       · first | exact sub _ (h.a0 x hx) | exact sub _ (h.a1 x hx) | exact sub _ (h.a2 x hx) | exact sub _ (h.a3 x hx)
       · rw [List.mem_singleton.mp hx]; simp)
    | skip
  have := h.len
  simp only [List.length_cons, List.length_append, List.length_nil] at this ⊢
  omega
theorem Pend.small {f0 f1 f2 f3 : Nat} {N q : List Nat} (h : Pend f0 f1 f2 f3 N q) : N.length ≤ 16 ∧ q.length ≤ 68 := by
  have h1 := nodup_lt h.nodup fun f hf => h.lt f (List.mem_append_left _ hf)
  have := h.len
  exact ⟨h1, by omega⟩
/-- at the end the notes are the meets -/
theorem Pend.done {f0 f1 f2 f3 : Nat} {N : List Nat} (g0 : f0 < 16) (g1 : f1 < 16) (g2 : f2 < 16) (g3 : f3 < 16) (h : Pend f0 f1 f2 f3 N []) (f : Nat) : f ∈ N ↔ IsMeet f0 f1 f2 f3 f := by
  have e : N ++ [] = N := List.append_nil N
  constructor
  · intro hf; exact h.meet f (by rw [e]; exact hf)
  rintro ⟨c, h1, h2, rfl⟩
  have q : ∀ {f : Nat}, f < 16 → f &&& 15 = f := fun h => by rw [Nat.and_comm]; exact and15 h
  have H0 := h.h0; have H1 := h.h1; have H2 := h.h2; have H3 := h.h3
  have A1 := h.a1; have A2 := h.a2; have A3 := h.a3
  simp only [e] at H0 H1 H2 H3 A1 A2 A3
  have B1 : ∀ f ∈ N, (f &&& if c.testBit 1 then f1 else 15) ∈ N := fun f hf => by
    split
    · exact A1 f hf
    · rw [q (h.lt f (List.mem_append_left _ hf))]; exact hf
  have B2 : ∀ f ∈ N, (f &&& if c.testBit 2 then f2 else 15) ∈ N := fun f hf => by
    split
    · exact A2 f hf
    · rw [q (h.lt f (List.mem_append_left _ hf))]; exact hf
  have B3 : ∀ f ∈ N, (f &&& if c.testBit 3 then f3 else 15) ∈ N := fun f hf => by
    split
    · exact A3 f hf
    · rw [q (h.lt f (List.mem_append_left _ hf))]; exact hf
  unfold Mine.meet
  by_cases b0 : c.testBit 0 = true
  · rw [if_pos b0, and15 g0]; exact B3 _ (B2 _ (B1 _ H0))
  rw [if_neg b0, show 15 &&& 15 = 15 from rfl]
  by_cases b1 : c.testBit 1 = true
  · rw [if_pos b1, and15 g1]; exact B3 _ (B2 _ H1)
  rw [if_neg b1, show 15 &&& 15 = 15 from rfl]
  by_cases b2 : c.testBit 2 = true
  · rw [if_pos b2, and15 g2]; exact B3 _ H2
  rw [if_neg b2, show 15 &&& 15 = 15 from rfl]
  by_cases b3 : c.testBit 3 = true
  · rw [if_pos b3, and15 g3]; exact H3
  exfalso
  have key : ∀ c : _root_.Fin 16, 1 ≤ c.val → ¬ c.val.testBit 0 = true → ¬ c.val.testBit 1 = true → ¬ c.val.testBit 2 = true → ¬ c.val.testBit 3 = true → False := by decide
  exact key ⟨c, h2⟩ h1 b0 b1 b2 b3
/-- the files that have the rights of a figure -/
noncomputable def having (F : Nat → Nat) (f : Nat) : List Nat := (List.range 4).filter fun i => f &&& F i == f
theorem meet_le {f0 f1 f2 f3 c : Nat} : (c.testBit 0 = true → meet f0 f1 f2 f3 c &&& f0 = meet f0 f1 f2 f3 c) ∧ (c.testBit 1 = true → meet f0 f1 f2 f3 c &&& f1 = meet f0 f1 f2 f3 c) ∧ (c.testBit 2 = true → meet f0 f1 f2 f3 c &&& f2 = meet f0 f1 f2 f3 c) ∧ (c.testBit 3 = true → meet f0 f1 f2 f3 c &&& f3 = meet f0 f1 f2 f3 c) := by
  refine ⟨fun h => ?_, fun h => ?_, fun h => ?_, fun h => ?_⟩ <;>
  · apply Nat.eq_of_testBit_eq; intro i
    rw [Nat.testBit_and, meet_bit, h]
    generalize Nat.testBit 15 i = b; generalize f0.testBit i = b0; generalize f1.testBit i = b1; generalize f2.testBit i = b2; generalize f3.testBit i = b3; generalize c.testBit 0 = c0; generalize c.testBit 1 = c1; generalize c.testBit 2 = c2; generalize c.testBit 3 = c3
    clear h
    revert b b0 b1 b2 b3 c0 c1 c2 c3; decide +kernel
theorem having_ne {f0 f1 f2 f3 f : Nat} (h : IsMeet f0 f1 f2 f3 f) : having (fun i => [f0, f1, f2, f3].getD i 0) f ≠ [] := by
  obtain ⟨c, h1, h2, rfl⟩ := h
  obtain ⟨m0, m1, m2, m3⟩ := @meet_le f0 f1 f2 f3 c
  have key : ∀ c : _root_.Fin 16, 1 ≤ c.val → c.val.testBit 0 = true ∨ c.val.testBit 1 = true ∨ c.val.testBit 2 = true ∨ c.val.testBit 3 = true := by decide
  have get : ∀ i, i < 4 → meet f0 f1 f2 f3 c &&& [f0, f1, f2, f3].getD i 0 = meet f0 f1 f2 f3 c → having (fun i => [f0, f1, f2, f3].getD i 0) (meet f0 f1 f2 f3 c) ≠ [] := fun i hi e => by
    refine List.ne_nil_of_mem (a := i) (List.mem_filter.mpr ⟨List.mem_range.mpr hi, ?_⟩)
    simpa using e
  rcases key ⟨c, h2⟩ h1 with q | q | q | q
  · exact get 0 (by decide) (m0 q)
  · exact get 1 (by decide) (m1 q)
  · exact get 2 (by decide) (m2 q)
  · exact get 3 (by decide) (m3 q)
end
section
open PyProof.Rows.LCg
theorem rulesLcMore : True := by
  k_with_none
  k_with "k_ne" => (refine neN ?_; (try dsimp only); first | exact Nat.ne_of_lt (by with_reducible assumption) | exact Nat.ne_of_gt (by with_reducible assumption) | with_reducible assumption | exact neL_up (by with_reducible assumption) | with_reducible exact neL_13 | with_reducible exact neL_23 | with_reducible exact neL_12 | with_reducible exact neL_31 | with_reducible exact neL_32 | with_reducible exact neL_21 | exact Nat.ne_of_gt (by walk_at "pick") | exact Nat.ne_of_lt (by walk_at "pick") | omega)
  k_with "pick" => first | with_reducible assumption | with_reducible exact j1 (by assumption) | with_reducible exact j2 (by assumption) | with_reducible exact j3 (by assumption) | with_reducible exact j4 (by assumption) | with_reducible exact j5 (by assumption) | with_reducible exact j6 (by assumption) | with_reducible exact j7 (by assumption) | with_reducible exact j8 (by assumption) | with_reducible exact j9 (by assumption) | with_reducible exact j10 (by assumption) | with_reducible exact j11 (by assumption) | with_reducible exact j12 (by assumption) | with_reducible exact j13 (by assumption) | with_reducible exact j14 (by assumption) | with_reducible exact j15 (by assumption)
  k_with "om" => first | walk_at "pick" | with_reducible exact Nat.lt_trans (by assumption) (by walk_at "pick")
  k_with "k_mem" => first | exact List.Mem.head _ | assumption | exact List.mem_append_left _ (by assumption) | exact List.mem_append_right _ (by assumption) | (refine' List.Mem.tail _ ?_; k_extra "k_mem")
  k_with "room" => first | exact rm1 (by assumption) (by decide) | exact rm2 (by assumption) (by decide) | exact rm0 (by assumption) | exact rm3 (by assumption) (by decide) | ktr_room
  k_with "units" => first | exact rm1 (by assumption) (by decide) | exact rm2 (by assumption) (by decide) | exact rm0 (by assumption) | exact rm3 (by assumption) (by decide) | ktr_units
  k_with "lt" => try ((rename ∀ p ∈ (_ : List (Addr × Obj)), @LT.lt Nat _ p.1 _ => q9l9); k_lt q9l9; revert q9l9; intro _)
  k_with "dn" => try dsimp only [List.cons_append, List.nil_append] at ‹News _ _ _ _›
  k_with "dd" => try dsimp only [List.cons_append, List.nil_append] at ‹Obj.IsDictOf _ _ _›
  k_with "ds" => try dsimp only [List.cons_append, List.nil_append] at ‹LexSt _ _ _ _ _›
  exact True.intro
section
variable {prog : Program} {w : World} {A : Around} {s : Shared} {iter elt : Expr} {ifs : List Expr} {scope : Scope} {pos px : Pos} {env : Env} {g : Heap} {L : Addr} {m : Str → Option Value} {cl : List (Str × Addr)} {Q : Value → Shared → Prop} {I d : Addr} {x : Str} {news : Led} {kvs : List (Str × Value)} {ep : Nat} {o oI : Obj} {p : Nat → Bool} {G : Nat → Value → Led → Prop}
theorem LcGo_dk (hn : kvs.length ≤ sizeLine) (hh : A.handled = none) (F : Fr g L s.heap m) (N : News g L s.heap ((I, oI) :: news)) (hI : ∀ q ∈ news, q.1 ≠ I) (hoI : KdkIter oI d 0 kvs.length ep) (ho : KdkAt (PySem.strKind prog w) o kvs ep) (hd : (d, o) ∈ news) (hk : scope.kind = .function) (hx : scope.names.lookup x = some .local)
    (helt : ∀ C i (s : Shared) oC m₁ (X : Led) (Kt : Value → Shared → Prop) (Ks : Shared → Prop), i < kvs.length → Fr g L s.heap m → News g L s.heap ((C, oC) :: (news ++ X)) → NsObj oC m₁ → (∃ k y t, kvs[i]? = some (k, y) ∧ m₁ x = some (.str k t)) → (∀ q ∈ news ++ X, q.1 ≠ C) →
      (p i = true → ∀ y mk h' tk', G i y mk → (∀ q ∈ mk, ∀ r ∈ (C, oC) :: (news ++ X), @LT.lt Nat _ r.1 q.1) → Fr g L h' m → News g L h' ((C, oC) :: (news ++ (mk ++ X))) → Kt y { s with heap := h', toks := tk' }) →
      (p i = false → ∀ h' tk', Fr g L h' m → News g L h' ((C, oC) :: (news ++ X)) → Ks { s with heap := h', toks := tk' }) →
      wpAny (model prog w) A (compTest ifs (compEnvC scope cl C env)) (fun ok s₄ => if ok = true then wpAny (model prog w) A (eval elt (compEnvC scope cl C env)) Kt NoE s₄ else Ks s₄) NoE s)
    (hQ : ∀ D ys made c h' tk', Res p G kvs.length ys made → (∀ q ∈ news, @LT.lt Nat _ q.1 D) → (∀ q ∈ made, @LT.lt Nat _ D q.1) → Fr g L h' m → News g L h' ((D, W.listOf ys.toArray c) :: (news ++ made)) → Q (.ref D) { s with heap := h', toks := tk' }) :
    LcGo prog w A g L m env elt (.Name x px) iter ifs scope cl pos Q (.ref I) s := by
  have htI : d ≠ I := hI _ hd
  refine LcGo_use (J := [(I, oI), (d, o)]) (ia := [I]) (Its := fun i J => CellsP [I, d] (dkSt prog w kvs ep I d i) J) (Bound := fun i m₁ => ∃ v, (∃ k y t, kvs[i]? = some (k, y) ∧ v = .str k t) ∧ m₁ x = some v) hn F N ⟨rfl, fun h hp => ⟨hoI.at (hp _ (.head _)), ho.dictAt (hp _ (.tail _ (.head _)))⟩⟩ (fun q hq => ?_) (fun q hq => .tail _ hq) (fun q hq hm => hI q hq (List.mem_singleton.mp hm))
    (fun C => ci_walks (walks_dk hh htI) (fun i h st => st.live) hk hx) (fun C i s oC m₁ X Kt Ks hi F N hO hB hC hT hF => helt C i s oC m₁ X Kt Ks hi F N hO (by obtain ⟨_, ⟨k, y, t, e, rfl⟩, hm⟩ := hB; exact ⟨k, y, t, e, hm⟩) hC hT hF) hQ
  rcases List.mem_cons.mp hq with rfl | hq
  · exact .head _
  · rw [List.mem_singleton.mp hq]; exact .tail _ hd
variable {z TI TO i1 i2 : Addr} {a b : Str} {pa pb tp : Pos} {kk : Nat} {sx sy : Str} {tx ty : Tok}
theorem LcGo_zs (hn : sx.cps.size ≤ sizeLine) (hh : A.handled = none) (O : ZO z TI TO i1 i2) (hxy : sx.cps.size = sy.cps.size) (F : Fr g L s.heap m) (N : News g L s.heap ([(z, zipObj TI TO), (TI, pairObj (.ref i1) (.ref i2)), (TO, pairObj .none .none), (i1, siObj sx tx), (i2, siObj sy ty)] ++ news)) (hI : ∀ q ∈ news, @LT.lt Nat _ q.1 i1) (hk : scope.kind = .function) (hxa : scope.names.lookup a = some .local) (hxb : scope.names.lookup b = some .local) (hab : ¬ a = b)
    (helt : ∀ C i (s : Shared) oC m₁ (X : Led) (Kt : Value → Shared → Prop) (Ks : Shared → Prop), i < sx.cps.size → Fr g L s.heap m → News g L s.heap ((C, oC) :: (news ++ X)) → NsObj oC m₁ → (∃ c e u v, sx.cps[i]? = some c ∧ sy.cps[i]? = some e ∧ m₁ a = some (.str ⟨#[c]⟩ u) ∧ m₁ b = some (.str ⟨#[e]⟩ v)) → (∀ q ∈ news ++ X, q.1 ≠ C) →
      (p i = true → ∀ y mk h' tk', G i y mk → (∀ q ∈ mk, ∀ r ∈ (C, oC) :: (news ++ X), @LT.lt Nat _ r.1 q.1) → Fr g L h' m → News g L h' ((C, oC) :: (news ++ (mk ++ X))) → Kt y { s with heap := h', toks := tk' }) →
      (p i = false → ∀ h' tk', Fr g L h' m → News g L h' ((C, oC) :: (news ++ X)) → Ks { s with heap := h', toks := tk' }) →
      wpAny (model prog w) A (compTest ifs (compEnvC scope cl C env)) (fun ok s₄ => if ok = true then wpAny (model prog w) A (eval elt (compEnvC scope cl C env)) Kt NoE s₄ else Ks s₄) NoE s)
    (hQ : ∀ D ys made c h' tk', Res p G sx.cps.size ys made → (∀ q ∈ news, @LT.lt Nat _ q.1 D) → (∀ q ∈ made, @LT.lt Nat _ D q.1) → Fr g L h' m → News g L h' ((D, W.listOf ys.toArray c) :: (news ++ made)) → Q (.ref D) { s with heap := h', toks := tk' }) :
    LcGo prog w A g L m env elt (.Tuple [.Name a pa, .Name b pb] kk tp) iter ifs scope cl pos Q (.ref z) s := by
  obtain ⟨o1, o2, o3, o4⟩ := id O
  refine LcGo_use (J := [(z, zipObj TI TO), (TI, pairObj (.ref i1) (.ref i2)), (TO, pairObj .none .none), (i1, siObj sx tx), (i2, siObj sy ty)]) (ia := [z, TO, i1, i2]) (Its := fun i J => CellsP [z, TI, TO, i1, i2] (fun h => IsZip h z TI TO .none ∧ IsPair h TI (.ref i1) (.ref i2) ∧ (∃ a b, IsPair h TO a b) ∧ h.IsStrIter i1 siT sx tx i ∧ h.IsStrIter i2 siT sy ty i) J)
    (Bound := fun i m₁ => ∃ x y, (∃ c e u v, sx.cps[i]? = some c ∧ sy.cps[i]? = some e ∧ #[x, y] = #[Value.str ⟨#[c]⟩ u, .str ⟨#[e]⟩ v]) ∧ m₁ a = some x ∧ m₁ b = some y) hn F N ⟨rfl, fun h hp => ⟨hp _ (.head _), hp _ (.tail _ (.head _)), ⟨_, _, hp _ (.tail _ (.tail _ (.head _)))⟩, ⟨_, hp _ (.tail _ (.tail _ (.tail _ (.head _)))), ?_⟩, ⟨_, hp _ (.tail _ (.tail _ (.tail _ (.tail _ (.head _))))), ?_⟩⟩⟩
    (fun q hq => List.mem_append_left _ hq) (fun q hq => List.mem_append_right _ hq) (fun q hq hm => ?_)
    (fun C => ci_walksT hh (zs_walks hh O hxy) (fun i h st b hb => ?_) (fun i vals h => ?_) hk hxa hxb hab) (fun C i s oC m₁ X Kt Ks hi F N hO hB hC hT hF => helt C i s oC m₁ X Kt Ks hi F N hO (by
      obtain ⟨x, y, ⟨c, e, u, v, h1, h2, h3⟩, hm, hm2⟩ := hB
      simp at h3
      obtain ⟨rfl, rfl⟩ := h3
      exact ⟨c, e, u, v, h1, h2, hm, hm2⟩) hC hT hF) hQ
  · exact ⟨rfl, rfl⟩
  · exact ⟨rfl, rfl⟩
  · have h := hI q hq
    simp only [List.mem_cons, List.not_mem_nil, or_false] at hm
    rcases hm with e | e | e | e <;> rw [e] at h <;> omega
  · obtain ⟨a1, a2, ⟨_, _, a3⟩, ⟨o1, a4, _⟩, ⟨o2, a5, _⟩⟩ := st
    simp only [List.mem_cons, List.not_mem_nil, or_false] at hb
    rcases hb with rfl | rfl | rfl | rfl | rfl
    · exact ⟨_, a1⟩
    · exact ⟨_, a2⟩
    · exact ⟨_, a3⟩
    · exact ⟨_, a4⟩
    · exact ⟨_, a5⟩
  · obtain ⟨c, e, u, v, _, _, rfl⟩ := h
    exact ⟨_, _, rfl⟩
end
theorem Res.strsI {xk : Nat → Str} {p : Nat → Bool} {n : Nat} {ys : List Value} {made : Led} (h : Res p (fun i y mk => mk = [] ∧ ∃ t, y = .str (xk i) t) n ys made) : made = [] ∧ ∃ l : List (Str × Tok), ys = strValues l ∧ l.map (·.1) = ((List.range n).filter p).map xk := by
  induction h with
  | nil => exact ⟨rfl, [], rfl, by simp⟩
  | @skip i ys made hq _ ih =>
    obtain ⟨rfl, l, rfl, e⟩ := ih
    exact ⟨rfl, l, rfl, by rw [e, List.range_succ, List.filter_append, List.filter_cons_of_neg (by rw [hq]; exact Bool.false_ne_true)]; simp⟩
  | @take i ys made y mk hq _ g ih =>
    obtain ⟨rfl, l, rfl, e⟩ := ih
    obtain ⟨rfl, t, rfl⟩ := g
    refine ⟨rfl, l ++ [(xk i, t)], by simp [strValues], ?_⟩
    rw [List.map_append, e, List.range_succ, List.filter_append, List.filter_cons_of_pos (by rw [hq]), List.map_append]
    rfl
theorem Res.bools {b : Nat → Bool} {n : Nat} {ys : List Value} {made : Led} (h : Res (fun _ => true) (fun i y mk => mk = [] ∧ y = .bool (b i)) n ys made) : made = [] ∧ ys = (((List.range n).map b).map Value.bool) := by
  induction h with
  | nil => exact ⟨rfl, rfl⟩
  | skip hq => cases hq
  | @take i ys made y mk hq _ g ih =>
    obtain ⟨rfl, rfl⟩ := ih
    obtain ⟨rfl, rfl⟩ := g
    exact ⟨rfl, by rw [List.range_succ, List.map_append, List.map_append]; rfl⟩
noncomputable def octVals (l : List (Nat × Tok)) : List Value := l.map fun p => .str (octOf p.1) p.2
noncomputable def wordOf : List (Nat × Tok) → Str
  | [] => Str.ofString ""
  | p :: _ => octOf p.1
theorem getAny {w : World} {p : Program} {loose : List Str} {mean : ExcName → Option Value} {mg mb : Str → Option Value} {z : LA} {E : Led} {l : List (Nat × Tok)} (h : LexSt w.params z (octVals l) [] E) (hl : l.length < 1000) :
    ConF PySem.Challenge.rw_un0041_01.row.prog w (hd.heap_39 w.params) p loose mean mg mb 5 103 [.ref z.x] E (fun r E1 => (∃ t, r = .str (wordOf l) t) ∧ LexSt w.params z (octVals l.tail) [] E1) := by
  cases l with
  | nil => exact getE h
  | cons q r =>
    have C := getB (p := p) (loose := loose) (mean := mean) (mg := mg) (mb := mb) (show LexSt w.params z (.str (octOf q.1) q.2 :: octVals r) [] E from h) (by simp [octVals]; simp at hl; omega)
    intro dp un gd cn cs a ccd cl outer A₀ base h₀ L m s R B F X N T hk hd hu ret
    exact C dp un gd cn cs a ccd cl outer A₀ base h₀ L m s R B F X N T hk hd hu fun r E1 h' tk' F' N' off out => ret r E1 h' tk' F' N' off ⟨⟨_, out.1⟩, out.2⟩
end
section
theorem rulesNotL : True := by
  k_with_none
  k_with "k_ne" => (refine neN ?_; (try dsimp only); first | exact Nat.ne_of_lt (by with_reducible assumption) | exact Nat.ne_of_gt (by with_reducible assumption) | with_reducible assumption | exact neL_up (by with_reducible assumption) | with_reducible exact neL_13 | with_reducible exact neL_23 | with_reducible exact neL_12 | with_reducible exact neL_31 | with_reducible exact neL_32 | with_reducible exact neL_21 | exact Nat.ne_of_gt (by walk_at "pick") | exact Nat.ne_of_lt (by walk_at "pick") | omega)
  k_with "pick" => first | with_reducible assumption | with_reducible exact j1 (by assumption) | with_reducible exact j2 (by assumption) | with_reducible exact j3 (by assumption) | with_reducible exact j4 (by assumption) | with_reducible exact j5 (by assumption) | with_reducible exact j6 (by assumption) | with_reducible exact j7 (by assumption) | with_reducible exact j8 (by assumption) | with_reducible exact j9 (by assumption) | with_reducible exact j10 (by assumption) | with_reducible exact j11 (by assumption) | with_reducible exact j12 (by assumption) | with_reducible exact j13 (by assumption) | with_reducible exact j14 (by assumption) | with_reducible exact j15 (by assumption)
  k_with "om" => first | walk_at "pick" | with_reducible exact Nat.lt_trans (by assumption) (by walk_at "pick")
  k_with "k_mem" => first | exact List.Mem.head _ | assumption | exact List.mem_append_left _ (by assumption) | exact List.mem_append_right _ (by assumption) | (refine' List.Mem.tail _ ?_; k_extra "k_mem")
  k_with "room" => first | exact rm1 (by assumption) (by decide) | exact rm2 (by assumption) (by decide) | exact rm0 (by assumption) | exact rm3 (by assumption) (by decide) | ktr_room
  k_with "units" => first | exact rm1 (by assumption) (by decide) | exact rm2 (by assumption) (by decide) | exact rm0 (by assumption) | exact rm3 (by assumption) (by decide) | ktr_units
  k_with "lt" => try ((rename ∀ p ∈ (_ : List (Addr × Obj)), @LT.lt Nat _ p.1 _ => q9l9); k_lt q9l9; revert q9l9; intro _)
  k_with "dn" => try dsimp only [List.cons_append, List.nil_append] at ‹News _ _ _ _›
  k_with "dd" => try dsimp only [List.cons_append, List.nil_append] at ‹Obj.IsDictOf _ _ _›
  k_with "ds" => try dsimp only [List.cons_append, List.nil_append] at ‹LexSt _ _ _ _ _›
  k_with "end 0" => (intro q9g' q9L' q9h' q9off' q9FG' q9F' q9N' q9B' q9X' q9T' q9l0'; (try k_lt q9l0'); (try dsimp only); (try k_lift q9B'); (try k_fold))
  k_with "end 1" => (intro q9g' q9L' q9h' q9tk' q9cells' q9off' q9FG' q9F' q9N' q9Y' q9B' q9X' q9T' q9l0'; (try k_lt q9l0'); k_cells q9Y'; (try dsimp only [List.cons_append, List.nil_append] at q9N'); (try dsimp only); (try k_lift q9B'); (try k_fold))
  k_with "enterF" => (k_dflt (refine' enterF (by k_asm) (by k_asm) (by k_asm) (by k_asm) (by k_asm) (by exact rfl) (by exact rfl) (by assumption) (by k_is) (by k_is) (by walk_at "room") (by first | exact BindsTo.of_eq rfl | exact binds_K (by k_in) rfl (by k_is) rfl rfl rfl) (by exact locs rfl) ?_ (by exact rfl) (by exact rfl) (by exact rfl) (by decide); k_whole; walk_at "end 0"))
  k_with "enterFC" => (k_dflt (refine' enterFC (by k_asm) (by k_asm) (by k_asm) (by k_asm) (by k_asm) (by exact rfl) (by exact rfl) (by assumption) (by k_is) (by k_is) (by walk_at "room") (by first | exact BindsTo.of_eq rfl | exact binds_K (by k_in) rfl (by k_is) rfl rfl rfl) (by exact rfl) (by decide +kernel) ?_ (by exact rfl) (by exact rfl) (by exact rfl); k_whole; walk_at "end 1"))
  k_with "k_del" => first | (refine' Del.head (by k_all)) | (refine' Del.tail (by k_ne) (by walk_at "k_del"))
  k_with "eval ListComp" => (k_here; k_dflt (refine lc_enter (by k_asm) (by with_unfolding_all rfl) (by decide) (by rfl) (by decide) ?_ (by intro _; rfl)))
  k_with "pyIter ref" => (k_here; k_dflt (first | (refine' pyIter_enum_N (by k_asm) (by k_mem) ?_; k_whole) | (refine' pyIter_tupo_N (by k_asm) (by k_asm) (by k_mem) ?_; k_whole; intros; walk_at "lt"; (try k_sweep)) | (refine' pyIter_list_N (by k_asm) (by k_asm) (by exact News.isList (by k_asm) (by k_mem)) ?_; k_whole; intros; walk_at "lt"; (try k_sweep))))
  k_with "exec Assign cons ListComp" => (k_here; k_dflt (refine' lc_assign (by k_asm) (by rfl) (by with_unfolding_all rfl) (by with_unfolding_all rfl) (by decide) (by rfl) (by decide) (by rfl) (by rfl) ?_ (by intro _; rfl)))
  k_with "k_all" => first | exact List.forall_mem_nil _ | exact LexSt.ne (by assumption) (by omega) | exact allNe_of (by assumption) | exact allNe_le (by assumption) (by omega) | exact allNe_gt (by assumption) | exact List.forall_mem_cons.mpr ⟨by k_ne, by k_extra "k_all"⟩
  k_with "subscriptTail" => (k_here; (with_reducible show wpAny _ _ (subscriptTail _ _ (Value.ref _) (Value.int _ _)) _ _ _); k_dflt (refine' itemL_N (by k_asm) (by k_mem) (by assumption) (by assumption) ?_ (by with_unfolding_all rfl); k_whole))
  k_with "binaryOp Add str str" => (k_here; (with_reducible show wpAny _ _ (binaryOp Operator.Add (Value.str _ _) (Value.str _ _)) _ _ _); k_dflt (refine' PyProof.Rows.add_str ?_ (by assumption); k_whole); intros)
  k_with "k_tail" => first | exact TailE.nil | (apply TailE.cons; walk_at "k_tail")
  k_with "k_allgt" => first | exact List.forall_mem_nil _ | (refine' List.forall_mem_cons.mpr ⟨(by ((try dsimp only); first | with_reducible assumption | omega)), (by walk_at "k_allgt")⟩)
  k_with "k_inE" => first | exact fun _ hq => hq | (refine' fun q hq => List.Mem.tail _ (?_ : ∀ q ∈ _, q ∈ _) q hq)
  k_with "exec While Name cons nil" => (k_here; k_dflt (refine wpAny_While ?_))
  k_with "codeAny" => (k_here; (with_reducible show codeAny _ _ (Code.whileLoop _ _ _ _) _ _); refine while_turn ?_; (try k_fold))
  k_with "truthy str" => (k_here; (first | (refine' truthy_yes (by assumption) (by assumption) ?_) | refine truthy_no ?_); intros)
  k_with "call type:int" => (k_here; (with_reducible show wpAny _ _ (call (Value.type "int") [Value.str _ _, Value.int _ _]) _ _ _); k_dflt (refine call_int8 (by assumption) ?_))
  k_with "setItem ref str" => (k_here; k_dflt (refine' dset_new (by k_asm) (by k_asm) (by k_updF) (by k_asm) (by first | exact vn0 | exact vn1 (by assumption) | exact vn2 (by assumption) (by assumption) | exact vn3 (by assumption) (by assumption) (by assumption)) (by exact Nat.le_of_ble_eq_true (by with_unfolding_all rfl)) ?_); intros; walk_at "dn"; walk_at "dd"; (try k_sweep))
  k_with "subscriptTail" => (k_here; (with_reducible show wpAny _ _ (subscriptTail _ _ (Value.ref _) (Value.str _ _)) _ _ _); k_dflt (refine' dget (by k_asm) (by k_mem) (by k_asm) (by first | exact vs0 | exact vs1 (by assumption) | exact vs2 (by assumption) (by assumption) | exact vs3 (by assumption) (by assumption) (by assumption) | assumption) ?_ (by with_unfolding_all rfl); k_whole); intros)
  k_with "binaryOp Mod str int" => (k_here; (refine mod_o (by assumption) ?_); intros)
  k_with "call ref" => (k_here; k_dflt (show wpAny _ _ (call (Value.ref 103) [_]) _ _ _); k_dflt (first | (refine' ConF.useLS (getPath (by assumption) (by assumption)) (by k_asm) (by k_asm) (by k_asm) (by k_asm) (by k_asm) (by exact rfl) (by (first | with_reducible assumption | omega | walk_at "room")) (by (first | with_reducible assumption | omega | walk_at "units")) (by walk_at "k_tail") (by exact LexSt.le (by assumption)) (by walk_at "k_allgt") ?_; k_whole; intros; walk_at "dn"; (try k_sweep)) | (refine' ConF.useLS (getOct (by assumption) (by assumption)) (by k_asm) (by k_asm) (by k_asm) (by k_asm) (by k_asm) (by exact rfl) (by (first | with_reducible assumption | omega | walk_at "room")) (by (first | with_reducible assumption | omega | walk_at "units")) (by walk_at "k_tail") (by exact LexSt.le (by assumption)) (by walk_at "k_allgt") ?_; k_whole; intros; walk_at "dn"; (try k_sweep)) | (refine' ConF.useLS (getE (by assumption)) (by k_asm) (by k_asm) (by k_asm) (by k_asm) (by k_asm) (by exact rfl) (by (first | with_reducible assumption | omega | walk_at "room")) (by (first | with_reducible assumption | omega | walk_at "units")) (by walk_at "k_tail") (by exact LexSt.le (by assumption)) (by walk_at "k_allgt") ?_; k_whole; intros; walk_at "dn"; (try k_sweep)) | (refine' ConF.useLE (getB (by assumption) (by first | decide | assumption | (simp only [List.length_append, List.length_cons, List.length_nil]; omega))) (by k_asm) (by k_asm) (by k_asm) (by k_asm) (by k_asm) (by exact rfl) (by (first | with_reducible assumption | omega | walk_at "room")) (by (first | with_reducible assumption | omega | walk_at "units")) (by walk_at "k_tail") (by exact LexSt.le (by assumption)) (by walk_at "k_allgt") ?_; k_whole; intros; walk_at "dn"; (try k_sweep))))
  k_with "call ref" => (k_here; k_dflt (show wpAny _ _ (call (Value.ref 110) [_, _]) _ _ _); k_dflt (refine' ConF.useLE (pushT (by assumption) (by first | decide | assumption | omega | (simp only [List.length_append, List.length_cons, List.length_nil]; omega))) (by k_asm) (by k_asm) (by k_asm) (by k_asm) (by k_asm) (by exact rfl) (by (first | with_reducible assumption | omega | walk_at "room")) (by (first | with_reducible assumption | omega | walk_at "units")) (by walk_at "k_tail") (by exact LexSt.le (by assumption)) (by walk_at "k_allgt") ?_; k_whole; intros; walk_at "ds"; walk_at "dn"; (try k_sweep)))
  k_with "call ref" => (k_here; k_dflt (show wpAny _ _ (call (Value.ref 75) [Value.int _ _]) _ _ _); k_dflt (refine' ConF.use0S (fm_con _ _ _ _ _ _ (by assumption) _) (by k_asm) (by k_asm) (by k_asm) (by k_asm) (by k_asm) (by exact rfl) (by (first | with_reducible assumption | omega | walk_at "room")) (by (first | with_reducible assumption | omega | walk_at "units")) ?_; k_whole); intros; (try k_sweep))
  k_with "getMethod ref" => (k_here; k_dflt (first | (refine' lex_get (by assumption) (by k_asm) (by k_asm) (by k_asm) (by intro q hq; repeat (first | exact hq | apply List.Mem.tail)) ?_; k_whole) | (refine' lex_push (by assumption) (by k_asm) (by k_asm) (by k_asm) (by intro q hq; repeat (first | exact hq | apply List.Mem.tail)) ?_; k_whole)))
  k_with "pyIter ref" => (k_here; k_dflt (refine' dk_iter (by k_asm) (by k_asm) (by k_mem) (by assumption) (by assumption) ?_; k_whole); intros; walk_at "lt"; (try k_sweep))
  k_with "codeAny" => (k_here; (with_reducible show codeAny _ _ (Code.forLoop _ _ _ _ _) _ _); refine for_turnK ?_; (try k_fold))
  k_with "pyNext ref" => (k_here; k_dflt (first | (refine' dk_next (by k_asm) (by k_asm) (by k_updF) (by assumption) (by assumption) (by k_mem) (by exact rfl) ?_; k_whole; intros; walk_at "dn"; (try k_sweep)) | (refine' dk_stop (by rfl) (by k_asm) (by k_asm) (by walk_at "k_del") (by k_mem) (by assumption) (by assumption) (by k_mem) (by exact rfl) ?_; k_whole; intros; walk_at "dn"; (try k_sweep))))
  k_with "exec For Name Name cons nil" => (k_here; k_dflt (refine wpAny_For ?_ (by intro _; rfl)))
  k_with "eval DictComp" => (k_here; k_dflt (refine dc_enter (by k_asm) (by with_unfolding_all rfl) (by decide) (by rfl) (by decide) ?_ (by intro _; rfl)))
  k_with "call ref" => (k_here; k_dflt (show wpAny _ _ (call (Value.ref 103) [_]) _ _ _); k_dflt (refine' ConF.useLS (getAny (by assumption) (by assumption)) (by k_asm) (by k_asm) (by k_asm) (by k_asm) (by k_asm) (by exact rfl) (by (first | with_reducible assumption | omega | walk_at "room")) (by (first | with_reducible assumption | omega | walk_at "units")) (by walk_at "k_tail") (by exact LexSt.le (by assumption)) (by walk_at "k_allgt") ?_; k_whole; intros; walk_at "dn"; (try k_sweep)))
  k_with "call ref" => (k_here; k_dflt (show wpAny _ _ (call (Value.ref 28) [Value.int _ _]) _ _ _); k_dflt (refine' ConF.use0S (imode_con _ _ _ _ _ _ _ _) (by k_asm) (by k_asm) (by k_asm) (by k_asm) (by k_asm) (by exact rfl) (by (first | with_reducible assumption | omega | walk_at "room")) (by (first | with_reducible assumption | omega | walk_at "units")) ?_; k_whole); intros; (try k_sweep))
  k_with "call ref" => (k_here; k_dflt (show wpAny _ _ (call (Value.ref 216) [_]) _ _ _); k_dflt (refine' ConF.useROS (by assumption) (by k_asm) (by k_asm) (by k_asm) (by k_asm) (by k_asm) (by exact rfl) (by (first | with_reducible assumption | omega | walk_at "room")) (by (first | with_reducible assumption | omega | walk_at "units")) (by intro q hq; rw [List.mem_singleton.mp hq]; k_mem) ?_; k_whole); intros; (try k_sweep))
  k_with "compareOp NotIn str ref" => (k_here; k_dflt (refine' kda_notin (by k_asm) (by k_mem) (by assumption) (by assumption) _ (by assumption) ?_; k_whole))
  k_with "compareOp NotIn bool ref" => (k_here; k_dflt (refine' notin_bools (by k_asm) (by k_mem) ?_; k_whole))
  k_with "call type:zip" => (k_here; (with_reducible show wpAny _ _ (call (Value.type "zip") [Value.str _ _, Value.str _ _]) _ _ _); k_dflt (refine' zip_strs_N (by k_asm) (by k_asm) (by assumption) (by assumption) ?_; k_whole; intros; walk_at "lt"; (try k_sweep)))
  k_with "binaryOp Mod str int" => (k_here; (refine mod_o (by first | assumption | exact land_lt (by assumption)) ?_); intros)
  k_with "binaryOp Add int int" => (k_here; k_dflt (refine' add_perm (by assumption) (by assumption) ?_; k_whole))
  k_with "setItem ref str" => (k_here; k_dflt (refine' dset_new (by k_asm) (by k_asm) (by k_updF) (by k_asm) (by assumption) (by assumption) ?_); intros; walk_at "dn"; (try k_sweep))
  k_with "subscriptTail Name Name ref str" => walk_at "subscriptTail"
  exact True.intro
noncomputable def partsN : Stmt → List Stmt × Scope
  | .FunctionDef _ _ b _ _ _ sc _ _ _ => (b, sc)
  | _ => default
noncomputable def notSt : Stmt := PySem.Challenge.pw_un0041_01.main.body.getD 45 (.Pass ⟨0, 0, 0, 0⟩)
noncomputable def whP : Stmt → Expr × List Stmt × List Stmt
  | .While t b o _ => (t, b, o)
  | _ => default
noncomputable def whN : Expr × List Stmt × List Stmt := whP ((partsN notSt).1.getD 7 (.Pass ⟨0, 0, 0, 0⟩))
theorem conc5 {P : Expr → List Stmt → List Stmt → Scope → Prop} {n a b d r t sc ts bd p te bo oe q} (h : notSt = .FunctionDef n a b d r t sc ts bd p) (hb : b.getD 7 (.Pass ⟨0, 0, 0, 0⟩) = .While te bo oe q) (hp : P te bo oe sc) : P whN.1 whN.2.1 whN.2.2 (partsN notSt).2 := by
  unfold whN
  rw [h]
  show P (whP (b.getD 7 (.Pass ⟨0, 0, 0, 0⟩))).1 (whP (b.getD 7 (.Pass ⟨0, 0, 0, 0⟩))).2.1 (whP (b.getD 7 (.Pass ⟨0, 0, 0, 0⟩))).2.2 sc
  rw [hb]; exact hp
noncomputable def WhGoal (w : World) (A : Around) (L : Addr) (R : Result → Shared → Prop) (s : Shared) (te : Expr) (bo oe : List Stmt) (sc : Scope) : Prop :=
  codeAny (model PySem.Challenge.rw_un0041_01.row.prog w) (A.deeper (envOfC (Str.ofString "_law_noted") sc L 233 (.ref 232))) (.whileLoop te bo oe (envOfC (Str.ofString "_law_noted") sc L 233 (.ref 232))) R s
noncomputable abbrev frmW (z : LA) (hv pv : Option Value) (wv : Value) (dN : Addr) : Str → Option Value := fun y => if y = Str.ofString "word" then some wv else if y = Str.ofString "having" then hv else if y = Str.ofString "path" then pv else if y = Str.ofString "noted" then some (.ref dN) else List.lookup y [(Str.ofString "lexer", Value.ref z.x)]
theorem octOf_len {f : Nat} (hf : f < 16) : (octOf f).length ≠ 0 ∧ (octOf f).length ≤ 1000 := by
  have key : ∀ f : _root_.Fin 16, (octOf f.val).length ≠ 0 ∧ (octOf f.val).length ≤ 1000 := by decide +kernel
  exact key ⟨f, hf⟩
noncomputable def CPok (xs : List Str) : Prop := (∀ x ∈ xs, x.length ≤ 1000) ∧ (∀ x ∈ xs, Txt.startswith x (Str.ofString "/") = true) ∧ (∀ x ∈ xs, (Txt.split x (Str.ofString "/")).length ≤ 1000 ∧ ∀ y ∈ Txt.split x (Str.ofString "/"), y.length ≤ 1000) ∧ fitsL (minOf xs) (maxOf xs) = true
noncomputable abbrev fk (f0 f1 f2 f3 : Nat) : Nat → Nat := fun i => [f0, f1, f2, f3].getD i 0
noncomputable abbrev xk (x0 x1 x2 x3 : Str) : Nat → Str := fun i => [x0, x1, x2, x3].getD i default
noncomputable def comm (x0 x1 x2 x3 : Str) (f0 f1 f2 f3 : Nat) (f : Nat) : Str := commonOf ((having (fk f0 f1 f2 f3) f).map (xk x0 x1 x2 x3))
theorem in_dash {prog : Program} {w : World} {A : Around} {E : Value → Shared → Prop} {s : Shared} {c e : Nat} {u t : Tok} {Q : Value → Shared → Prop} (hc : c = 45 ∨ c = 114 ∨ c = 119) (he : e = 45 ∨ e = 114 ∨ e = 119) (h : Q (.bool (c == 45 || c == e)) s) :
    wpAny (model prog w) A (compareOp .In (.str ⟨#[c]⟩ u) (.str (Str.ofString "-" ++ ⟨#[e]⟩) t)) Q E s := by
  refine in_str ?_
  have : (!(Builtin.Str.occurrences (Str.ofString "-" ++ ⟨#[e]⟩) ⟨#[c]⟩ 0 (Str.ofString "-" ++ ⟨#[e]⟩ : Str).length 1).isEmpty) = (c == 45 || c == e) := by
    rcases hc with rfl | rfl | rfl <;> rcases he with rfl | rfl | rfl <;> decide +kernel
  rw [this]; exact h
theorem octVals_push1 {P : Params} {z : LA} {ql : List (Nat × Tok)} {a : Nat} {t1 : Tok} {cs : List Nat} {E : Led} (h : LexSt P z (octVals ql ++ [.str (octOf a) t1]) cs E) :
    ∃ q', q'.map (·.1) = ql.map (·.1) ++ [a] ∧ LexSt P z (octVals q') cs E :=
  ⟨ql ++ [(a, t1)], by simp, by simpa [octVals] using h⟩
theorem Fr.cong {g h : Heap} {L : Addr} {m m' : Str → Option Value} (F : Fr g L h m) (e : ∀ y, m y = m' y) : Fr g L h m' := (funext e : m = m') ▸ F
theorem for_ind {M : Model} {A : Around} {c : Code} {R : Result → Shared → Prop} {s : Shared} (Inv : Nat → Heap → Nat → Prop) (n : Nat) (h0 : Inv 0 s.heap s.toks)
    (step : ∀ i h tk, i ≤ n → Inv i h tk → (i < n → ∀ h' tk', Inv (i + 1) h' tk' → codeAny M A c R { s with heap := h', toks := tk' }) → codeAny M A c R { s with heap := h, toks := tk }) : codeAny M A c R s := by
  have key : ∀ (k i : Nat) h tk, n - i = k → i ≤ n → Inv i h tk → codeAny M A c R { s with heap := h, toks := tk } := by
    intro k
    induction k with
    | zero => exact fun i h tk hk hi hI => step i h tk hi hI fun h1 => absurd h1 (by omega)
    | succ k ih => exact fun i h tk hk hi hI => step i h tk hi hI fun h1 h' tk' hI' => ih (i + 1) h' tk' (by omega) h1 hI'
  exact key n 0 s.heap s.toks rfl (Nat.zero_le _) h0
theorem noted_turn (w : World) (p : Program) (loose : List Str) (mean : ExcName → Option Value) (mg mb : Str → Option Value) (z : LA) (x0 x1 x2 x3 : Str) (f0 f1 f2 f3 : Nat)
    (g0 : f0 < 16) (g1 : f1 < 16) (g2 : f2 < 16) (g3 : f3 < 16)
    (d01 : x0 ≠ x1) (d02 : x0 ≠ x2) (d03 : x0 ≠ x3) (d12 : x1 ≠ x2) (d13 : x1 ≠ x3) (d23 : x2 ≠ x3)
    (hcp : ∀ f, IsMeet f0 f1 f2 f3 f → CPok ((having (fk f0 f1 f2 f3) f).map (xk x0 x1 x2 x3)))
    (dp un : Nat) (gd : Option (List Code)) (cn : Str) (cs : Scope) (L0 a : Addr) (ccd : Value) (cl : List (Str × Addr)) (outer : List Env) (base g : Heap) (L dF D dN : Addr) (o1 oR oF oD : Obj) (k0 k1 k2 k3 r0 r1 r2 r3 : Tok)
    (B : Below (ktrTop dp un gd cn cs L0 a ccd cl outer) base (envX cn cs L0 a ccd cl :: outer) g) (X : (hd.heap_39 w.params).In g) (T : Top p loose mean mg mb g) (hk : cs.kind = .function) (hd : dp + 10 * 10 < recursionLimit) (hu : un + 100 * 10 < cLine)
    (hF : oF.IsDictOf (PySem.strKind PySem.Challenge.rw_un0041_01.row.prog w) [(x0, .int (modeOf f0) k0), (x1, .int (modeOf f1) k1), (x2, .int (modeOf f2) k2), (x3, .int (modeOf f3) k3)])
    (hD : oD.IsDictOf (PySem.strKind PySem.Challenge.rw_un0041_01.row.prog w) [(x0, .str (rowOf f0) r0), (x1, .str (rowOf f1) r1), (x2, .str (rowOf f2) r2), (x3, .str (rowOf f3) r3)])
    (lo : (dF == sysModules) = false) (loN : (dN == sysModules) = false) (c1 : o1.data = .cell (some (.ref dF))) (c2 : oR.data = .cell (some (.ref D)))
    (l0 : @LT.lt Nat _ z.pb L) (l1 : @LT.lt Nat _ (L + 1 + 1 + 1) dF) (l2 : @LT.lt Nat _ dF D) (l3 : @LT.lt Nat _ D dN)
    (R : Result → Shared → Prop) (s : Shared)
    (Nt : List Nat) (kvs : List (Str × Value)) (pend : List (Nat × Tok)) (hv pv : Option Value) (tw : Tok) (oN oW : Obj) (vW : Option Value) (Et : Led)
    (hP : Pend f0 f1 f2 f3 Nt (pend.map (·.1))) (hV : KV (comm x0 x1 x2 x3 f0 f1 f2 f3) Nt kvs) (hN : oN.IsDictOf (PySem.strKind PySem.Challenge.rw_un0041_01.row.prog w) kvs) (hS : LexSt w.params z (octVals pend.tail) [] Et) (cW : oW.data = .cell vW)
    (F : Fr g L s.heap (frmW z hv pv (.str (wordOf pend) tw) dN))
    (N : News g L s.heap ((dN, oN) :: (D, oD) :: (dF, oF) :: (L + 1 + 1 + 1, oW) :: (L + 1 + 1, oR) :: (L + 1, o1) :: Et))
    (fin : pend = [] → ∀ tk', R (.ok .next) { s with toks := tk' })
    (next : ∀ Nt' kvs' pend' hv' pv' tw' oN' oW' vW' Et' h' tk', 5 * (16 - Nt'.length) + pend'.length < 5 * (16 - Nt.length) + pend.length → Pend f0 f1 f2 f3 Nt' (pend'.map (·.1)) → KV (comm x0 x1 x2 x3 f0 f1 f2 f3) Nt' kvs' → oN'.IsDictOf (PySem.strKind PySem.Challenge.rw_un0041_01.row.prog w) kvs' → LexSt w.params z (octVals pend'.tail) [] Et' → oW'.data = .cell vW' →
      Fr g L h' (frmW z hv' pv' (.str (wordOf pend') tw') dN) → News g L h' ((dN, oN') :: (D, oD) :: (dF, oF) :: (L + 1 + 1 + 1, oW') :: (L + 1 + 1, oR) :: (L + 1, o1) :: Et') →
      WhGoal w (ktrTop dp un gd cn cs L0 a ccd cl outer) L R { s with heap := h', toks := tk' } whN.1 whN.2.1 whN.2.2 (partsN notSt).2) :
    WhGoal w (ktrTop dp un gd cn cs L0 a ccd cl outer) L R s whN.1 whN.2.1 whN.2.2 (partsN notSt).2 := by
  obtain ⟨small1, small2⟩ := hP.small
  have c01 : @LT.lt Nat _ (L + 1) (L + 1 + 1 + 1) := by first | walk_at "om" | omega
  have c02 : @LT.lt Nat _ (L + 1 + 1) (L + 1 + 1 + 1) := by first | walk_at "om" | omega
  have c03 : @LT.lt Nat _ (L + 1 + 1 + 1) dN := by first | walk_at "om" | omega
  have c04 : @LT.lt Nat _ (L + 1) dN := by first | walk_at "om" | omega
  have c05 : @LT.lt Nat _ (L + 1 + 1) dN := by first | walk_at "om" | omega
  have c06 : @LT.lt Nat _ dF dN := by first | walk_at "om" | omega
  have c07 : @LT.lt Nat _ (L + 1 + 1 + 1) D := by first | walk_at "om" | omega
  have p01 : @LT.lt Nat _ z.pb (L + 1) := by first | walk_at "om" | omega
  have p02 : @LT.lt Nat _ z.pb (L + 1 + 1) := by first | walk_at "om" | omega
  have p03 : @LT.lt Nat _ z.pb (L + 1 + 1 + 1) := by first | walk_at "om" | omega
  have p04 : @LT.lt Nat _ z.pb dF := by first | walk_at "om" | omega
  have p05 : @LT.lt Nat _ z.pb D := by first | walk_at "om" | omega
  have p06 : @LT.lt Nat _ z.pb dN := by first | walk_at "om" | omega
  have r05 : dp + 1 + 10 * 5 < recursionLimit := by omega
  have r08 : dp + 1 + 10 * 8 < recursionLimit := by omega
  have r01 : dp + 1 + 10 * 1 < recursionLimit := by omega
  have hcl := cLine_is
  have u05 : un + 3 + 100 * 5 < cLine := by omega
  have u08 : un + 3 + 100 * 8 < cLine := by omega
  have u01 : un + 3 + 100 * 1 < cLine := by omega
  clear hcl
  refine' conc5 ?h ?hb ?_
  case h => exact rfl
  case hb => exact rfl
  unfold WhGoal
  revert X
  k_fill
  intro X
  cases pend with
  | nil =>
    have F0 : Fr g L s.heap (frmW z hv pv (.str (Str.ofString "") tw) dN) := F
    clear F
    iterate 6 walk1
    exact fin rfl _
  | cons pq ql =>
    obtain ⟨f, tf⟩ := pq
    have F0 : Fr g L s.heap (frmW z hv pv (.str (octOf f) tw) dN) := F
    have hS0 : LexSt w.params z (octVals ql) [] Et := hS
    clear F hS
    have hf : f < 16 := hP.lt f (List.mem_append_right _ (.head _))
    have hlen : ql.length < 1000 := by simp at small2; omega
    obtain ⟨ol1, ol2⟩ := octOf_len hf
    have hin := hV.isSome (fun x hx => hP.lt x (List.mem_append_left _ hx)) hf
    by_cases hm : f ∈ Nt
    · rw [decide_eq_true hm] at hin
      iterate  44 walk1
      (rename Fr _ _ _ _ => kF9)
      (rename News _ _ _ _ => kN9)
      refine' next Nt kvs ql hv pv ?tk9 oN _ _ _ _ _ (by simp) (hP.skip hm) hV hN (by assumption) (by assumption) (Fr.cong kF9 ?fe9) kN9
      case fe9 =>
        intro y
        by_cases h1 : y = Str.ofString "word"
        · subst h1; exact rfl
        · simp only [if_neg h1]
    · rw [decide_eq_false hm] at hin
      iterate 38 walk1
      (rename Fr _ _ _ _ => kF9)
      (rename News _ _ _ _ => kN9)
      (rename KdkIter _ _ _ _ _ => kI9)
      (rename KdkAt _ _ _ _ => kA9)
      refine LcGo_dk (p := fun i => f &&& fk f0 f1 f2 f3 i == f) (G := fun i y mk => mk = [] ∧ ∃ t, y = .str (xk x0 x1 x2 x3 i) t) ?hn1 rfl kF9 kN9 ?hI1 kI9 kA9 (by k_mem) rfl rfl ?he1 ?hq1
      case hn1 => rw [sizeLine_eq]; exact Nat.le_of_ble_eq_true rfl
      case hI1 => k_all
      case he1 =>
        clear kF9 kN9 kI9
        intro C i s1 oC m₁ X' Kt Ks hi F2 N2 hO hB hC hT hF9
        obtain ⟨k, y, tk2, hkv, hmx⟩ := hB
        obtain ⟨rfl, hvr, hg⟩ : k = xk x0 x1 x2 x3 i ∧ (∃ tr, valueAt [(x0, Value.str (rowOf f0) r0), (x1, Value.str (rowOf f1) r1), (x2, Value.str (rowOf f2) r2), (x3, Value.str (rowOf f3) r3)] k = some (.str (rowOf (fk f0 f1 f2 f3 i)) tr)) ∧ fk f0 f1 f2 f3 i < 16 := by
          rcases i with _ | _ | _ | _ | i
          · cases hkv; exact ⟨rfl, ⟨_, vs0⟩, g0⟩
          · cases hkv; exact ⟨rfl, ⟨_, vs1 d01⟩, g1⟩
          · cases hkv; exact ⟨rfl, ⟨_, vs2 d02 d12⟩, g2⟩
          · cases hkv; exact ⟨rfl, ⟨_, vs3 d03 d13 d23⟩, g3⟩
          · simp at hi; omega
        generalize xk x0 x1 x2 x3 i = xi at *
        generalize fk f0 f1 f2 f3 i = fi at *
        obtain ⟨tr, hvr⟩ := hvr
        have ax1 := rowOf_ascii hf
        have ax2 := rowOf_ascii hg
        dsimp only [List.cons_append, List.nil_append] at N2
        iterate 16 walk1
        refine' zip_strs_N ?F ?N ?ax ?ay ?_; (case F => k_asm); (case N => k_asm); (case ax => assumption); (case ay => assumption)
        intro z' TI' TO' i1' i2' h' O' F' N' l2'
        refine wpAny_pyIter_zip (N' _ (.head _)).1 ?_
        refine LcGo_zs (p := fun _ => true) (G := fun i y mk => mk = [] ∧ y = .bool (bAt f fi i)) ?hn2 rfl O' ?hxy2 F' N' l2' rfl rfl rfl (by decide) ?he2 ?hq2
        case hn2 => rw [rowOf_size hf, sizeLine_eq]; omega
        case hxy2 => rw [rowOf_size hf, rowOf_size hg]
        case he2 =>
          clear F' N' O'
          intro C2 i2 s2 oC2 m₂ X2 Kt2 Ks2 hi2 F3 N3 hO2 hB2 hC2 hT2 hF2
          obtain ⟨c, e, u, v, hc, he, hm1, hm2⟩ := hB2
          simp only [List.cons_append, List.nil_append, List.append_assoc] at N3
          refine wpAny_tests_nil (ite_pos rfl ?_)
          have k1 := rowOf_signs hf hc
          have k2 := rowOf_signs hg he
          iterate 6 walk1
          refine in_dash k1 k2 ?_
          (rename Fr _ _ _ _ => kF9)
          (rename News _ _ _ _ => kN9)
          refine hT2 rfl _ [] _ _ ⟨rfl, ?_⟩ (by simp) kF9 (fun q hq => kN9 q (by simpa using hq))
          simp only [bAt, hc, he]
        case hq2 =>
          clear F' N' O'
          intro D2 ys made c9 h9 tk9 hR hlt2 _ F3 N3
          rw [rowOf_size hf] at hR
          obtain ⟨rfl, rfl⟩ := hR.bools
          simp only [List.append_nil] at N3
          k_lt hlt2
          refine notin_bools N3 (.head _) ?_
          rw [bAt_all hf hg]
          cases hb : (f &&& fi == f)
          · iterate 2 walk1
            exact hF9 hb _ _ F3 fun q hq => N3 q (.tail _ hq)
          · iterate 3 walk1
            exact hT hb _ [] _ _ ⟨rfl, _, rfl⟩ (by simp) F3 fun q hq => N3 q (.tail _ hq)
      case hq1 =>
        clear kF9 kN9 kI9 kA9
        intro D3 ys made c9 h9 tk9 hR hlt3 _ F3 N3
        obtain ⟨rfl, l, rfl, hl⟩ := hR.strsI
        have hmt := hP.meet f (List.mem_append_right _ (.head _))
        have hne := having_ne hmt
        have hl4 : l.length = (having (fk f0 f1 f2 f3) f).length := by have := congrArg List.length hl; simpa [having] using this
        have hl5 : (having (fk f0 f1 f2 f3) f).length ≤ 4 := List.length_filter_le (fun i => f &&& fk f0 f1 f2 f3 i == f) (List.range 4)
        have hl6 : 0 < (having (fk f0 f1 f2 f3) f).length := List.length_pos_iff.mpr hne
        obtain ⟨q1, q2, q3, q4⟩ := hcp f hmt
        have hcon := commonpath_con w p loose mean mg mb D3 (strValues l) ((having (fk f0 f1 f2 f3) f).map (xk x0 x1 x2 x3)) c9 (hl ▸ strsAre_of_values l) q1 q2 q3 q4 (by simp [strValues]; omega) (by simp [strValues]; omega)
        simp only [List.append_nil, List.cons_append, List.nil_append] at N3
        k_lt hlt3
        refine ⟨_, F3, N3, fun h8 tk8 F8 N8 => ?_⟩
        clear F3 N3
        have hnone := hV.non (fun x hx => hP.lt x (List.mem_append_left _ hx)) hf hm
        have hkl : kvs.length ≤ 1000 := by rw [hV.len]; omega
        iterate 11 walk1
        have hql : (octVals ql).length < 900 := by simp [octVals]; simp at small2; omega
        iterate 6 walk1
        rename_i tA8 hA8 tkA8 hB8 oN9 tkB8 hd9 I9 h9b oI9 ep9 F9 N9 hi9 ha9 l29
        obtain ⟨_, _, _, _, _, _, _, _⟩ := l29
        refine for_ind (fun i h _ => ∃ pv1 oI1 Et1 q1, Fr g L h (frmW z (some (.ref D3)) pv1 (.str (octOf f) tw) dN) ∧ News g L h ((I9, oI1) :: (D3, W.listOf (strValues l).toArray c9) :: (dN, oN9) :: (D, oD) :: (dF, oF) :: (L + 1 + 1 + 1, _) :: (L + 1 + 1, oR) :: (L + 1, o1) :: Et1) ∧
          LexSt w.params z (octVals q1) [] Et1 ∧ q1.map (·.1) = ql.map (·.1) ++ (List.range i).map (fun k => f &&& fk f0 f1 f2 f3 k) ∧ KdkIter oI1 dF i 4 ep9) 4 ⟨pv, oI9, Et, ql, Fr.cong F9 fun y => ?_, N9, hS0, by simp, hi9⟩ ?_
        · by_cases h1 : y = Str.ofString "word"
          · subst h1; exact rfl
          by_cases h2 : y = Str.ofString "having"
          · subst h2; exact rfl
          · simp only [if_neg h1, if_neg h2]
        clear F9 N9 hS0 hi9
        intro i h7 tk7 hi4 hZ9 back
        obtain ⟨pv1, oI1, Et1, q1, F1, N1, hS1, hq1, hi1⟩ := hZ9
        have hlq : q1.length = ql.length + i := by have := congrArg List.length hq1; simpa using this
        refine for_turnK ?_
        (try k_fold)
        by_cases hi4' : i < 4
        · obtain ⟨tr, hkv, hvr, hg⟩ : ∃ tr, [(x0, Value.int (modeOf f0) k0), (x1, .int (modeOf f1) k1), (x2, .int (modeOf f2) k2), (x3, .int (modeOf f3) k3)][i]? = some (xk x0 x1 x2 x3 i, .int (modeOf (fk f0 f1 f2 f3 i)) tr) ∧ valueAt [(x0, Value.int (modeOf f0) k0), (x1, .int (modeOf f1) k1), (x2, .int (modeOf f2) k2), (x3, .int (modeOf f3) k3)] (xk x0 x1 x2 x3 i) = some (.int (modeOf (fk f0 f1 f2 f3 i)) tr) ∧ fk f0 f1 f2 f3 i < 16 := by
            rcases i with _ | _ | _ | _ | i
            · exact ⟨_, rfl, vs0, g0⟩
            · exact ⟨_, rfl, vs1 d01, g1⟩
            · exact ⟨_, rfl, vs2 d02 d12, g2⟩
            · exact ⟨_, rfl, vs3 d03 d13 d23, g3⟩
            · omega
          have hgk : (List.range (i + 1)).map (fun k => f &&& fk f0 f1 f2 f3 k) = (List.range i).map (fun k => f &&& fk f0 f1 f2 f3 k) ++ [f &&& fk f0 f1 f2 f3 i] := by rw [List.range_succ, List.map_append]; rfl
          generalize fk f0 f1 f2 f3 i = fi at *
          generalize xk x0 x1 x2 x3 i = xi at *
          refine dk_next F1 N1 (by k_updF) hi1 ha9 (by k_mem) hkv fun h6 o6 t6 F2 N2 hi2 => ?_
          have hql1 : (octVals q1).length < 1000 := by simp [octVals]; simp at small2; omega
          clear F1 N1 hi1
          iterate 42 walk1
          (rename Fr _ _ _ _ => kF9)
          (rename News _ _ _ _ => kN9)
          (rename LexSt _ _ _ _ _ => kS9)
          obtain ⟨q2, hq2, kS8⟩ := octVals_push1 kS9
          refine back hi4' _ _ ⟨some (.str xi t6), o6, _, q2, Fr.cong kF9 fun y => ?_, kN9, kS8, by rw [hq2, hq1, hgk, List.append_assoc], hi2⟩
          by_cases h1 : y = Str.ofString "word"
          · subst h1; exact rfl
          by_cases h2 : y = Str.ofString "having"
          · subst h2; exact rfl
          by_cases h3 : y = Str.ofString "path"
          · subst h3; exact rfl
          · simp only [if_neg h1, if_neg h2, if_neg h3]
        · obtain rfl : i = 4 := by omega
          refine dk_stop rfl F1 N1 (by walk_at "k_del") (by k_mem) hi1 ha9 (by k_mem) rfl fun h6 F2 N2 => ?_
          clear F1 N1 hi1
          have hlen' : q1.length < 1000 := by simp at small2; omega
          have hq4 : q1.map (·.1) = ql.map (·.1) ++ [f &&& f0, f &&& f1, f &&& f2, f &&& f3] := hq1
          (try dsimp only)
          iterate 11 walk1
          (rename Fr _ _ _ _ => kF9)
          (rename News _ _ _ _ => kN9)
          refine' next (Nt ++ [f]) _ q1 ?hvA9 ?pvA9 ?tkA9 _ _ _ _ _ _ ?msA9 (hq4 ▸ hP.take hm) (hV.snoc) (by assumption) (by assumption) (by assumption) (Fr.cong kF9 ?feA9) (fun q hq => kN9 q (.tail _ hq))
          case msA9 =>
            have := hP.small
            simp only [List.length_append, List.length_cons, List.length_nil]
            have h16 := (hP.take hm).small.1
            simp only [List.length_append, List.length_cons, List.length_nil] at h16
            omega
          case feA9 =>
            intro y
            by_cases h1 : y = Str.ofString "word"
            · subst h1; exact rfl
            by_cases h2 : y = Str.ofString "having"
            · subst h2; exact rfl
            by_cases h3 : y = Str.ofString "path"
            · subst h3; exact rfl
            · simp only [if_neg h1, if_neg h2, if_neg h3]
end
section
theorem rulesNotLp : True := by
  k_with_none
  k_with "k_ne" => (refine neN ?_; (try dsimp only); first | exact Nat.ne_of_lt (by with_reducible assumption) | exact Nat.ne_of_gt (by with_reducible assumption) | with_reducible assumption | exact neL_up (by with_reducible assumption) | with_reducible exact neL_13 | with_reducible exact neL_23 | with_reducible exact neL_12 | with_reducible exact neL_31 | with_reducible exact neL_32 | with_reducible exact neL_21 | exact Nat.ne_of_gt (by walk_at "pick") | exact Nat.ne_of_lt (by walk_at "pick") | omega)
  k_with "pick" => first | with_reducible assumption | with_reducible exact j1 (by assumption) | with_reducible exact j2 (by assumption) | with_reducible exact j3 (by assumption) | with_reducible exact j4 (by assumption) | with_reducible exact j5 (by assumption) | with_reducible exact j6 (by assumption) | with_reducible exact j7 (by assumption) | with_reducible exact j8 (by assumption) | with_reducible exact j9 (by assumption) | with_reducible exact j10 (by assumption) | with_reducible exact j11 (by assumption) | with_reducible exact j12 (by assumption) | with_reducible exact j13 (by assumption) | with_reducible exact j14 (by assumption) | with_reducible exact j15 (by assumption)
  k_with "om" => first | walk_at "pick" | with_reducible exact Nat.lt_trans (by assumption) (by walk_at "pick")
  k_with "k_mem" => first | exact List.Mem.head _ | assumption | exact List.mem_append_left _ (by assumption) | exact List.mem_append_right _ (by assumption) | (refine' List.Mem.tail _ ?_; k_extra "k_mem")
  k_with "room" => first | exact rm1 (by assumption) (by decide) | exact rm2 (by assumption) (by decide) | exact rm0 (by assumption) | exact rm3 (by assumption) (by decide) | ktr_room
  k_with "units" => first | exact rm1 (by assumption) (by decide) | exact rm2 (by assumption) (by decide) | exact rm0 (by assumption) | exact rm3 (by assumption) (by decide) | ktr_units
  k_with "lt" => try ((rename ∀ p ∈ (_ : List (Addr × Obj)), @LT.lt Nat _ p.1 _ => q9l9); k_lt q9l9; revert q9l9; intro _)
  k_with "dn" => try dsimp only [List.cons_append, List.nil_append] at ‹News _ _ _ _›
  k_with "dd" => try dsimp only [List.cons_append, List.nil_append] at ‹Obj.IsDictOf _ _ _›
  k_with "ds" => try dsimp only [List.cons_append, List.nil_append] at ‹LexSt _ _ _ _ _›
  exact True.intro
theorem noted_loop (w : World) (p : Program) (loose : List Str) (mean : ExcName → Option Value) (mg mb : Str → Option Value) (z : LA) (x0 x1 x2 x3 : Str) (f0 f1 f2 f3 : Nat)
    (g0 : f0 < 16) (g1 : f1 < 16) (g2 : f2 < 16) (g3 : f3 < 16)
    (d01 : x0 ≠ x1) (d02 : x0 ≠ x2) (d03 : x0 ≠ x3) (d12 : x1 ≠ x2) (d13 : x1 ≠ x3) (d23 : x2 ≠ x3)
    (hcp : ∀ f, IsMeet f0 f1 f2 f3 f → CPok ((having (fk f0 f1 f2 f3) f).map (xk x0 x1 x2 x3)))
    (dp un : Nat) (gd : Option (List Code)) (cn : Str) (cs : Scope) (L0 a : Addr) (ccd : Value) (cl : List (Str × Addr)) (outer : List Env) (base g : Heap) (L dF D dN : Addr) (o1 oR oF oD : Obj) (k0 k1 k2 k3 r0 r1 r2 r3 : Tok)
    (B : Below (ktrTop dp un gd cn cs L0 a ccd cl outer) base (envX cn cs L0 a ccd cl :: outer) g) (X : (hd.heap_39 w.params).In g) (T : Top p loose mean mg mb g) (hk : cs.kind = .function) (hd : dp + 10 * 10 < recursionLimit) (hu : un + 100 * 10 < cLine)
    (hF : oF.IsDictOf (PySem.strKind PySem.Challenge.rw_un0041_01.row.prog w) [(x0, .int (modeOf f0) k0), (x1, .int (modeOf f1) k1), (x2, .int (modeOf f2) k2), (x3, .int (modeOf f3) k3)])
    (hD : oD.IsDictOf (PySem.strKind PySem.Challenge.rw_un0041_01.row.prog w) [(x0, .str (rowOf f0) r0), (x1, .str (rowOf f1) r1), (x2, .str (rowOf f2) r2), (x3, .str (rowOf f3) r3)])
    (lo : (dF == sysModules) = false) (loN : (dN == sysModules) = false) (c1 : o1.data = .cell (some (.ref dF))) (c2 : oR.data = .cell (some (.ref D)))
    (l0 : @LT.lt Nat _ z.pb L) (l1 : @LT.lt Nat _ (L + 1 + 1 + 1) dF) (l2 : @LT.lt Nat _ dF D) (l3 : @LT.lt Nat _ D dN)
    (R : Result → Shared → Prop) (s0 : Shared)
    (hK : ∀ Nt kvs hv pv tw oN oW vW Et h' tk', Pend f0 f1 f2 f3 Nt [] → KV (comm x0 x1 x2 x3 f0 f1 f2 f3) Nt kvs → oN.IsDictOf (PySem.strKind PySem.Challenge.rw_un0041_01.row.prog w) kvs → LexSt w.params z [] [] Et → oW.data = .cell vW →
      Fr g L h' (frmW z hv pv (.str (Str.ofString "") tw) dN) → News g L h' ((dN, oN) :: (D, oD) :: (dF, oF) :: (L + 1 + 1 + 1, oW) :: (L + 1 + 1, oR) :: (L + 1, o1) :: Et) → R (.ok .next) { s0 with heap := h', toks := tk' })
    (n : Nat) :
    ∀ (Nt : List Nat) (kvs : List (Str × Value)) (pend : List (Nat × Tok)) (hv pv : Option Value) (tw : Tok) (oN oW : Obj) (vW : Option Value) (Et : Led) (h' : Heap) (tk' : Nat), 5 * (16 - Nt.length) + pend.length < n →
      Pend f0 f1 f2 f3 Nt (pend.map (·.1)) → KV (comm x0 x1 x2 x3 f0 f1 f2 f3) Nt kvs → oN.IsDictOf (PySem.strKind PySem.Challenge.rw_un0041_01.row.prog w) kvs → LexSt w.params z (octVals pend.tail) [] Et → oW.data = .cell vW →
      Fr g L h' (frmW z hv pv (.str (wordOf pend) tw) dN) → News g L h' ((dN, oN) :: (D, oD) :: (dF, oF) :: (L + 1 + 1 + 1, oW) :: (L + 1 + 1, oR) :: (L + 1, o1) :: Et) →
      WhGoal w (ktrTop dp un gd cn cs L0 a ccd cl outer) L R { s0 with heap := h', toks := tk' } whN.1 whN.2.1 whN.2.2 (partsN notSt).2 := by
  induction n with
  | zero => intro _ _ _ _ _ _ _ _ _ _ _ _ h; exact absurd h (Nat.not_lt_zero _)
  | succ n ih =>
    intro Nt kvs pend hv pv tw oN oW vW Et h' tk' hn hP hV hN hS cW F N
    refine noted_turn w p loose mean mg mb z x0 x1 x2 x3 f0 f1 f2 f3 g0 g1 g2 g3 d01 d02 d03 d12 d13 d23 hcp dp un gd cn cs L0 a ccd cl outer base g L dF D dN o1 oR oF oD k0 k1 k2 k3 r0 r1 r2 r3 B X T hk hd hu hF hD lo loN c1 c2 l0 l1 l2 l3 R { s0 with heap := h', toks := tk' } Nt kvs pend hv pv tw oN oW vW Et hP hV hN hS cW F N (fun e tk9 => ?_) fun Nt' kvs' pend' hv' pv' tw' oN' oW' vW' Et' h9 tk9 hlt hP' hV' hN' hS' cW' F' N' => ?_
    · subst e
      exact hK Nt kvs hv pv tw oN oW vW Et h' tk9 hP hV hN hS cW F N
    · exact ih Nt' kvs' pend' hv' pv' tw' oN' oW' vW' Et' h9 tk9 (Nat.lt_of_lt_of_le hlt (Nat.le_of_lt_succ hn)) hP' hV' hN' hS' cW' F' N'
end
section
theorem rulesNotB : True := by
  k_with_none
  k_with "k_ne" => (refine neN ?_; (try dsimp only); first | exact Nat.ne_of_lt (by with_reducible assumption) | exact Nat.ne_of_gt (by with_reducible assumption) | with_reducible assumption | exact neL_up (by with_reducible assumption) | with_reducible exact neL_13 | with_reducible exact neL_23 | with_reducible exact neL_12 | with_reducible exact neL_31 | with_reducible exact neL_32 | with_reducible exact neL_21 | exact Nat.ne_of_gt (by walk_at "pick") | exact Nat.ne_of_lt (by walk_at "pick") | omega)
  k_with "pick" => first | with_reducible assumption | with_reducible exact j1 (by assumption) | with_reducible exact j2 (by assumption) | with_reducible exact j3 (by assumption) | with_reducible exact j4 (by assumption) | with_reducible exact j5 (by assumption) | with_reducible exact j6 (by assumption) | with_reducible exact j7 (by assumption) | with_reducible exact j8 (by assumption) | with_reducible exact j9 (by assumption) | with_reducible exact j10 (by assumption) | with_reducible exact j11 (by assumption) | with_reducible exact j12 (by assumption) | with_reducible exact j13 (by assumption) | with_reducible exact j14 (by assumption) | with_reducible exact j15 (by assumption)
  k_with "om" => first | walk_at "pick" | with_reducible exact Nat.lt_trans (by assumption) (by walk_at "pick")
  k_with "k_mem" => first | exact List.Mem.head _ | assumption | exact List.mem_append_left _ (by assumption) | exact List.mem_append_right _ (by assumption) | (refine' List.Mem.tail _ ?_; k_extra "k_mem")
  k_with "room" => first | exact rm1 (by assumption) (by decide) | exact rm2 (by assumption) (by decide) | exact rm0 (by assumption) | exact rm3 (by assumption) (by decide) | ktr_room
  k_with "units" => first | exact rm1 (by assumption) (by decide) | exact rm2 (by assumption) (by decide) | exact rm0 (by assumption) | exact rm3 (by assumption) (by decide) | ktr_units
  k_with "lt" => try ((rename ∀ p ∈ (_ : List (Addr × Obj)), @LT.lt Nat _ p.1 _ => q9l9); k_lt q9l9; revert q9l9; intro _)
  k_with "dn" => try dsimp only [List.cons_append, List.nil_append] at ‹News _ _ _ _›
  k_with "dd" => try dsimp only [List.cons_append, List.nil_append] at ‹Obj.IsDictOf _ _ _›
  k_with "ds" => try dsimp only [List.cons_append, List.nil_append] at ‹LexSt _ _ _ _ _›
  k_with "end 0" => (intro q9g' q9L' q9h' q9off' q9FG' q9F' q9N' q9B' q9X' q9T' q9l0'; (try k_lt q9l0'); (try dsimp only); (try k_lift q9B'); (try k_fold))
  k_with "end 1" => (intro q9g' q9L' q9h' q9tk' q9cells' q9off' q9FG' q9F' q9N' q9Y' q9B' q9X' q9T' q9l0'; (try k_lt q9l0'); k_cells q9Y'; (try dsimp only [List.cons_append, List.nil_append] at q9N'); (try dsimp only); (try k_lift q9B'); (try k_fold))
  k_with "enterF" => (k_dflt (refine' enterF (by k_asm) (by k_asm) (by k_asm) (by k_asm) (by k_asm) (by exact rfl) (by exact rfl) (by assumption) (by k_is) (by k_is) (by walk_at "room") (by first | exact BindsTo.of_eq rfl | exact binds_K (by k_in) rfl (by k_is) rfl rfl rfl) (by exact locs rfl) ?_ (by exact rfl) (by exact rfl) (by exact rfl) (by decide); k_whole; walk_at "end 0"))
  k_with "enterFC" => (k_dflt (refine' enterFC (by k_asm) (by k_asm) (by k_asm) (by k_asm) (by k_asm) (by exact rfl) (by exact rfl) (by assumption) (by k_is) (by k_is) (by walk_at "room") (by first | exact BindsTo.of_eq rfl | exact binds_K (by k_in) rfl (by k_is) rfl rfl rfl) (by exact rfl) (by decide +kernel) ?_ (by exact rfl) (by exact rfl) (by exact rfl); k_whole; walk_at "end 1"))
  k_with "k_del" => first | (refine' Del.head (by k_all)) | (refine' Del.tail (by k_ne) (by walk_at "k_del"))
  k_with "eval ListComp" => (k_here; k_dflt (refine lc_enter (by k_asm) (by with_unfolding_all rfl) (by decide) (by rfl) (by decide) ?_ (by intro _; rfl)))
  k_with "pyIter ref" => (k_here; k_dflt (first | (refine' pyIter_enum_N (by k_asm) (by k_mem) ?_; k_whole) | (refine' pyIter_tupo_N (by k_asm) (by k_asm) (by k_mem) ?_; k_whole; intros; walk_at "lt"; (try k_sweep)) | (refine' pyIter_list_N (by k_asm) (by k_asm) (by exact News.isList (by k_asm) (by k_mem)) ?_; k_whole; intros; walk_at "lt"; (try k_sweep))))
  k_with "exec Assign cons ListComp" => (k_here; k_dflt (refine' lc_assign (by k_asm) (by rfl) (by with_unfolding_all rfl) (by with_unfolding_all rfl) (by decide) (by rfl) (by decide) (by rfl) (by rfl) ?_ (by intro _; rfl)))
  k_with "k_all" => first | exact List.forall_mem_nil _ | exact LexSt.ne (by assumption) (by omega) | exact allNe_of (by assumption) | exact allNe_le (by assumption) (by omega) | exact allNe_gt (by assumption) | exact List.forall_mem_cons.mpr ⟨by k_ne, by k_extra "k_all"⟩
  k_with "subscriptTail" => (k_here; (with_reducible show wpAny _ _ (subscriptTail _ _ (Value.ref _) (Value.int _ _)) _ _ _); k_dflt (refine' itemL_N (by k_asm) (by k_mem) (by assumption) (by assumption) ?_ (by with_unfolding_all rfl); k_whole))
  k_with "binaryOp Add str str" => (k_here; (with_reducible show wpAny _ _ (binaryOp Operator.Add (Value.str _ _) (Value.str _ _)) _ _ _); k_dflt (refine' PyProof.Rows.add_str ?_ (by assumption); k_whole); intros)
  k_with "k_tail" => first | exact TailE.nil | (apply TailE.cons; walk_at "k_tail")
  k_with "k_allgt" => first | exact List.forall_mem_nil _ | (refine' List.forall_mem_cons.mpr ⟨(by ((try dsimp only); first | with_reducible assumption | omega)), (by walk_at "k_allgt")⟩)
  k_with "k_inE" => first | exact fun _ hq => hq | (refine' fun q hq => List.Mem.tail _ (?_ : ∀ q ∈ _, q ∈ _) q hq)
  k_with "exec While Name cons nil" => (k_here; k_dflt (refine wpAny_While ?_))
  k_with "codeAny" => (k_here; (with_reducible show codeAny _ _ (Code.whileLoop _ _ _ _) _ _); refine while_turn ?_; (try k_fold))
  k_with "truthy str" => (k_here; (first | (refine' truthy_yes (by assumption) (by assumption) ?_) | refine truthy_no ?_); intros)
  k_with "call type:int" => (k_here; (with_reducible show wpAny _ _ (call (Value.type "int") [Value.str _ _, Value.int _ _]) _ _ _); k_dflt (refine call_int8 (by assumption) ?_))
  k_with "setItem ref str" => (k_here; k_dflt (refine' dset_new (by k_asm) (by k_asm) (by k_updF) (by k_asm) (by first | exact vn0 | exact vn1 (by assumption) | exact vn2 (by assumption) (by assumption) | exact vn3 (by assumption) (by assumption) (by assumption)) (by exact Nat.le_of_ble_eq_true (by with_unfolding_all rfl)) ?_); intros; walk_at "dn"; walk_at "dd"; (try k_sweep))
  k_with "subscriptTail" => (k_here; (with_reducible show wpAny _ _ (subscriptTail _ _ (Value.ref _) (Value.str _ _)) _ _ _); k_dflt (refine' dget (by k_asm) (by k_mem) (by k_asm) (by first | assumption | exact vs0 | exact vs1 (by assumption) | exact vs2 (by assumption) (by assumption) | exact vs3 (by assumption) (by assumption) (by assumption)) ?_ (by with_unfolding_all rfl); k_whole); intros)
  k_with "binaryOp Mod str int" => (k_here; (refine mod_o (by assumption) ?_); intros)
  k_with "call ref" => (k_here; k_dflt (show wpAny _ _ (call (Value.ref 103) [_]) _ _ _); k_dflt (first | (refine' ConF.useLS (getPath (by assumption) (by assumption)) (by k_asm) (by k_asm) (by k_asm) (by k_asm) (by k_asm) (by exact rfl) (by (first | with_reducible assumption | omega | walk_at "room")) (by (first | with_reducible assumption | omega | walk_at "units")) (by walk_at "k_tail") (by exact LexSt.le (by assumption)) (by walk_at "k_allgt") ?_; k_whole; intros; walk_at "dn"; (try k_sweep)) | (refine' ConF.useLS (getOct (by assumption) (by assumption)) (by k_asm) (by k_asm) (by k_asm) (by k_asm) (by k_asm) (by exact rfl) (by (first | with_reducible assumption | omega | walk_at "room")) (by (first | with_reducible assumption | omega | walk_at "units")) (by walk_at "k_tail") (by exact LexSt.le (by assumption)) (by walk_at "k_allgt") ?_; k_whole; intros; walk_at "dn"; (try k_sweep)) | (refine' ConF.useLS (getE (by assumption)) (by k_asm) (by k_asm) (by k_asm) (by k_asm) (by k_asm) (by exact rfl) (by (first | with_reducible assumption | omega | walk_at "room")) (by (first | with_reducible assumption | omega | walk_at "units")) (by walk_at "k_tail") (by exact LexSt.le (by assumption)) (by walk_at "k_allgt") ?_; k_whole; intros; walk_at "dn"; (try k_sweep)) | (refine' ConF.useLE (getB (by assumption) (by first | decide | assumption | (simp only [List.length_append, List.length_cons, List.length_nil]; omega))) (by k_asm) (by k_asm) (by k_asm) (by k_asm) (by k_asm) (by exact rfl) (by (first | with_reducible assumption | omega | walk_at "room")) (by (first | with_reducible assumption | omega | walk_at "units")) (by walk_at "k_tail") (by exact LexSt.le (by assumption)) (by walk_at "k_allgt") ?_; k_whole; intros; walk_at "dn"; (try k_sweep))))
  k_with "call ref" => (k_here; k_dflt (show wpAny _ _ (call (Value.ref 110) [_, _]) _ _ _); k_dflt (refine' ConF.useLE (pushT (by assumption) (by first | decide | assumption | omega | (simp only [List.length_append, List.length_cons, List.length_nil]; omega))) (by k_asm) (by k_asm) (by k_asm) (by k_asm) (by k_asm) (by exact rfl) (by (first | with_reducible assumption | omega | walk_at "room")) (by (first | with_reducible assumption | omega | walk_at "units")) (by walk_at "k_tail") (by exact LexSt.le (by assumption)) (by walk_at "k_allgt") ?_; k_whole; intros; walk_at "ds"; walk_at "dn"; (try k_sweep)))
  k_with "call ref" => (k_here; k_dflt (show wpAny _ _ (call (Value.ref 75) [Value.int _ _]) _ _ _); k_dflt (refine' ConF.use0S (fm_con _ _ _ _ _ _ (by assumption) _) (by k_asm) (by k_asm) (by k_asm) (by k_asm) (by k_asm) (by exact rfl) (by (first | with_reducible assumption | omega | walk_at "room")) (by (first | with_reducible assumption | omega | walk_at "units")) ?_; k_whole); intros; (try k_sweep))
  k_with "getMethod ref" => (k_here; k_dflt (first | (refine' lex_get (by assumption) (by k_asm) (by k_asm) (by k_asm) (by intro q hq; repeat (first | exact hq | apply List.Mem.tail)) ?_; k_whole) | (refine' lex_push (by assumption) (by k_asm) (by k_asm) (by k_asm) (by intro q hq; repeat (first | exact hq | apply List.Mem.tail)) ?_; k_whole)))
  k_with "pyIter ref" => (k_here; k_dflt (refine' dk_iter (by k_asm) (by k_asm) (by k_mem) (by assumption) (by assumption) ?_; k_whole); intros; walk_at "lt"; (try k_sweep))
  k_with "codeAny" => (k_here; (with_reducible show codeAny _ _ (Code.forLoop _ _ _ _ _) _ _); refine for_turnK ?_; (try k_fold))
  k_with "pyNext ref" => (k_here; k_dflt (first | (refine' dk_next (by k_asm) (by k_asm) (by k_updF) (by assumption) (by assumption) (by k_mem) (by exact rfl) ?_; k_whole; intros; walk_at "dn"; (try k_sweep)) | (refine' dk_stop (by rfl) (by k_asm) (by k_asm) (by walk_at "k_del") (by k_mem) (by assumption) (by assumption) (by k_mem) (by exact rfl) ?_; k_whole; intros; walk_at "dn"; (try k_sweep))))
  k_with "exec For Name Name cons nil" => (k_here; k_dflt (refine wpAny_For ?_ (by intro _; rfl)))
  k_with "eval DictComp" => (k_here; k_dflt (refine dc_enter (by k_asm) (by with_unfolding_all rfl) (by decide) (by rfl) (by decide) ?_ (by intro _; rfl)))
  k_with "call ref" => (k_here; k_dflt (show wpAny _ _ (call (Value.ref 103) [_]) _ _ _); k_dflt (refine' ConF.useLS (getAny (by assumption) (by assumption)) (by k_asm) (by k_asm) (by k_asm) (by k_asm) (by k_asm) (by exact rfl) (by (first | with_reducible assumption | omega | walk_at "room")) (by (first | with_reducible assumption | omega | walk_at "units")) (by walk_at "k_tail") (by exact LexSt.le (by assumption)) (by walk_at "k_allgt") ?_; k_whole; intros; walk_at "dn"; (try k_sweep)))
  k_with "call ref" => (k_here; k_dflt (show wpAny _ _ (call (Value.ref 28) [Value.int _ _]) _ _ _); k_dflt (refine' ConF.use0S (imode_con _ _ _ _ _ _ _ _) (by k_asm) (by k_asm) (by k_asm) (by k_asm) (by k_asm) (by exact rfl) (by (first | with_reducible assumption | omega | walk_at "room")) (by (first | with_reducible assumption | omega | walk_at "units")) ?_; k_whole); intros; (try k_sweep))
  k_with "call ref" => (k_here; k_dflt (show wpAny _ _ (call (Value.ref 216) [_]) _ _ _); k_dflt (refine' ConF.useROS (by assumption) (by k_asm) (by k_asm) (by k_asm) (by k_asm) (by k_asm) (by exact rfl) (by (first | with_reducible assumption | omega | walk_at "room")) (by (first | with_reducible assumption | omega | walk_at "units")) (by intro q hq; rw [List.mem_singleton.mp hq]; k_mem) ?_; k_whole); intros; (try k_sweep))
  k_with "compareOp NotIn str ref" => (k_here; k_dflt (refine' kda_notin (by k_asm) (by k_mem) (by assumption) (by assumption) _ (by assumption) ?_; k_whole))
  k_with "compareOp NotIn bool ref" => (k_here; k_dflt (refine' notin_bools (by k_asm) (by k_mem) ?_; k_whole))
  k_with "call type:zip" => (k_here; (with_reducible show wpAny _ _ (call (Value.type "zip") [Value.str _ _, Value.str _ _]) _ _ _); k_dflt (refine' zip_strs_N (by k_asm) (by k_asm) (by assumption) (by assumption) ?_; k_whole; intros; walk_at "lt"; (try k_sweep)))
  k_with "binaryOp Mod str int" => (k_here; (refine mod_o (by first | assumption | exact land_lt (by assumption)) ?_); intros)
  k_with "binaryOp Add int int" => (k_here; k_dflt (refine' add_perm (by assumption) (by assumption) ?_; k_whole))
  k_with "setItem ref str" => (k_here; k_dflt (refine' dset_new (by k_asm) (by k_asm) (by k_updF) (by k_asm) (by assumption) (by assumption) ?_); intros; walk_at "dn"; (try k_sweep))
  exact True.intro
theorem conc4 {P : List Stmt → Scope → Prop} {st : Stmt} {n a b d r t sc ts bd p s0 s1 s2 s3 rest} (h : st = .FunctionDef n a b d r t sc ts bd p) (hb : b = s0 :: s1 :: s2 :: s3 :: rest) (hp : P rest sc) : P ((partsN st).1.drop 4) (partsN st).2 := by
  subst h; subst hb; exact hp
noncomputable def BackGoal (w : World) (A : Around) (L : Addr) (Q : Flow → Shared → Prop) (E : Value → Shared → Prop) (s : Shared) (rest : List Stmt) (sc : Scope) : Prop :=
  wpAny (model PySem.Challenge.rw_un0041_01.row.prog w) (A.deeper (envOfC (Str.ofString "_law_noted") sc L 233 (.ref 232))) (execs rest (envOfC (Str.ofString "_law_noted") sc L 233 (.ref 232))) Q E s
noncomputable abbrev frmB (z : LA) (x : Str) (t : Tok) : Str → Option Value := fun y => if y = Str.ofString "path" then some (.str x t) else List.lookup y [(Str.ofString "lexer", Value.ref z.x)]
theorem modeOf_inj {f g : Nat} (hf : f < 16) (hg : g < 16) (h : modeOf f = modeOf g) : f = g := by
  have key : ∀ f g : _root_.Fin 16, modeOf f.val = modeOf g.val → f.val = g.val := by decide +kernel
  exact key ⟨f, hf⟩ ⟨g, hg⟩ h
theorem va_row {l l' : List (Str × Value)} {x : Str} {f : Nat} {k : Tok} (hf : f < 16) (h : VA (fun p y => ∃ f t t', p.2 = .int (modeOf f) t ∧ f < 16 ∧ y = .str (rowOf f) t') ((x, .int (modeOf f) k) :: l) l') :
    ∃ t r, l' = (x, .str (rowOf f) t) :: r ∧ VA (fun p y => ∃ f t t', p.2 = .int (modeOf f) t ∧ f < 16 ∧ y = .str (rowOf f) t') l r := by
  obtain ⟨y, r, ⟨g, t, t', h1, h2, rfl⟩, rfl, hr⟩ := va_cons h
  have e : modeOf f = modeOf g := by injection h1
  obtain rfl := modeOf_inj hf h2 e
  exact ⟨t', r, rfl, hr⟩
theorem noted_back (w : World) (p : Program) (loose : List Str) (mean : ExcName → Option Value) (mg mb : Str → Option Value) (z : LA) (El : Led) (x0 x1 x2 x3 : Str) (f0 f1 f2 f3 : Nat)
    (g0 : f0 < 16) (g1 : f1 < 16) (g2 : f2 < 16) (g3 : f3 < 16)
    (d01 : x0 ≠ x1) (d02 : x0 ≠ x2) (d03 : x0 ≠ x3) (d12 : x1 ≠ x2) (d13 : x1 ≠ x3) (d23 : x2 ≠ x3)
    (xp : Str) (dp un : Nat) (gd : Option (List Code)) (cn : Str) (cs : Scope) (L0 a : Addr) (ccd : Value) (cl : List (Str × Addr)) (outer : List Env) (base g : Heap) (L dF : Addr) (o1 o2 o3 oF : Obj) (k0 k1 k2 k3 t0 t1 t2 t3 t : Tok) (s : Shared) (Q : Flow → Shared → Prop) (E : Value → Shared → Prop)
    (B : Below (ktrTop dp un gd cn cs L0 a ccd cl outer) base (envX cn cs L0 a ccd cl :: outer) g) (X : (hd.heap_39 w.params).In g) (T : Top p loose mean mg mb g) (hk : cs.kind = .function) (hd : dp + 10 * 10 < recursionLimit) (hu : un + 100 * 10 < cLine)
    (F : Fr g L s.heap (frmB z xp t)) (N : News g L s.heap ((dF, oF) :: (L + 1 + 1 + 1, o3) :: (L + 1 + 1, o2) :: (L + 1, o1) :: El))
    (hS : LexSt w.params z [.str (octOf f0) t0, .str (octOf f1) t1, .str (octOf f2) t2, .str (octOf f3) t3] [] El)
    (hF : oF.IsDictOf (PySem.strKind PySem.Challenge.rw_un0041_01.row.prog w) [(x0, .int (modeOf f0) k0), (x1, .int (modeOf f1) k1), (x2, .int (modeOf f2) k2), (x3, .int (modeOf f3) k3)])
    (lo : (dF == sysModules) = false) (c1 : o1.data = .cell (some (.ref dF))) (c2 : o2.data = .cell none) (c3 : o3.data = .cell none)
    (hcp : ∀ f, IsMeet f0 f1 f2 f3 f → CPok ((having (fk f0 f1 f2 f3) f).map (xk x0 x1 x2 x3)))
    (hQ : ∀ Nt kvs D' o' E' h' tk' m' news', Pend f0 f1 f2 f3 Nt [] → KV (comm x0 x1 x2 x3 f0 f1 f2 f3) Nt kvs → o'.IsDictOf (PySem.strKind PySem.Challenge.rw_un0041_01.row.prog w) kvs → LexSt w.params z [] [] E' → (D' == sysModules) = false → Fr g L h' m' → News g L h' ((D', o') :: (news' ++ E')) → Q (.ret (.ref D')) { s with heap := h', toks := tk' })
    (l0 : @LT.lt Nat _ z.pb L) (l1 : @LT.lt Nat _ (L + 1) dF) (l2 : @LT.lt Nat _ (L + 1 + 1) dF) (l3 : @LT.lt Nat _ (L + 1 + 1 + 1) dF) (lE : AllLt dF El) :
    BackGoal w (ktrTop dp un gd cn cs L0 a ccd cl outer) L Q E s ((partsN notSt).1.drop 4) (partsN notSt).2 := by
  refine' conc4 ?h ?hb ?_
  case h => exact rfl
  case hb => exact rfl
  unfold BackGoal
  revert X
  k_fill
  intro X
  iterate 5 walk1
  (rename Fr _ _ _ _ => kF9)
  (rename News _ _ _ _ => kN9)
  (rename KdkIter _ _ _ _ _ => kI9)
  (rename KdkAt _ _ _ _ => kA9)
  refine DcGo_dict (P := fun p y => ∃ f t t', p.2 = .int (modeOf f) t ∧ f < 16 ∧ y = .str (rowOf f) t') ?hz1 rfl kF9 kN9 ?hI1 kI9 kA9 (by k_mem) rfl rfl ?he1 ?hq1
  case hz1 => rw [sizeLine_eq]; exact Nat.le_of_ble_eq_true rfl
  case hI1 => k_all
  case he1 =>
    clear kF9 kN9 kI9
    intro C s1 oC m₁ X' k v t9 Kt hkv F2 N2 hO hm hC hT
    obtain ⟨f, tv, rfl, hf16, hva⟩ : ∃ f tv, v = .int (modeOf f) tv ∧ f < 16 ∧ valueAt [(x0, Value.int (modeOf f0) k0), (x1, Value.int (modeOf f1) k1), (x2, Value.int (modeOf f2) k2), (x3, Value.int (modeOf f3) k3)] k = some v := by
      simp only [List.mem_cons, List.not_mem_nil, or_false, Prod.mk.injEq] at hkv
      rcases hkv with ⟨rfl, rfl⟩ | ⟨rfl, rfl⟩ | ⟨rfl, rfl⟩ | ⟨rfl, rfl⟩
      · exact ⟨_, _, rfl, g0, vs0⟩
      · exact ⟨_, _, rfl, g1, vs1 d01⟩
      · exact ⟨_, _, rfl, g2, vs2 d02 d12⟩
      · exact ⟨_, _, rfl, g3, vs3 d03 d13 d23⟩
    dsimp only [List.cons_append, List.nil_append] at N2
    k_steps
    (rename Fr _ _ _ _ => kF9)
    (rename News _ _ _ _ => kN9)
    exact hT _ _ _ ⟨f, tv, _, rfl, hf16, rfl⟩ kF9 kN9
  case hq1 =>
    clear kF9 kN9 kI9
    intro D oD kvs' h9 tk9 hV hD hlt9 F9 N9
    obtain ⟨r0, _, rfl, hV0⟩ := va_row g0 hV
    obtain ⟨r1, _, rfl, hV1⟩ := va_row g1 hV0
    obtain ⟨r2, _, rfl, hV2⟩ := va_row g2 hV1
    obtain ⟨r3, _, rfl, hV3⟩ := va_row g3 hV2
    obtain rfl := va_nil hV3
    clear hV hV0 hV1 hV2 hV3 kA9
    k_lt hlt9
    iterate 8 walk1
    have kS9 : LexSt w.params z (octVals [(f0, t0), (f1, t1), (f2, t2), (f3, t3)]) [] El := hS
    have kL9 : [(f0, t0), (f1, t1), (f2, t2), (f3, t3)].length < 1000 := Nat.le_of_ble_eq_true rfl
    clear hS
    iterate 0 walk1
    iterate 7 walk1
    (rename Fr _ _ _ _ => kF9)
    (rename News _ _ _ _ => kN9)
    show WhGoal w (ktrTop dp un gd cn cs L0 a ccd cl outer) L _ _ whN.1 whN.2.1 whN.2.2 (partsN notSt).2
    refine' noted_loop w p loose mean mg mb z x0 x1 x2 x3 f0 f1 f2 f3 g0 g1 g2 g3 d01 d02 d03 d12 d13 d23 hcp dp un gd cn cs L0 a ccd cl outer base g L dF D _ o1 _ oF oD k0 k1 k2 k3 r0 r1 r2 r3 B X T hk hd hu hF hD lo (by first | assumption | walk_at "om" | omega) c1 (by first | assumption | walk_at "om" | omega) l0 l3 (by first | assumption | walk_at "om" | omega) (by first | assumption | walk_at "om" | omega) _ s ?hK9 _ [] [] [(f0, t0), (f1, t1), (f2, t2), (f3, t3)] none (some (.str xp t)) _ _ _ _ _ _ _ (Nat.lt_succ_self _) (Pend.start g0 g1 g2 g3) KV.nil (by first | assumption | walk_at "om" | omega) (by first | assumption | walk_at "om" | omega) c3 (Fr.cong kF9 ?fc9) kN9
    case fc9 =>
      intro y
      by_cases h1 : y = Str.ofString "word"
      · subst h1; exact rfl
      by_cases h2 : y = Str.ofString "noted"
      · subst h2; exact rfl
      by_cases h4 : y = Str.ofString "having"
      · subst h4; exact rfl
      by_cases h3 : y = Str.ofString "path"
      · subst h3; exact rfl
      · simp only [if_neg h1, if_neg h2, if_neg h3, if_neg h4]
    case hK9 =>
      clear kF9 kN9
      intro Nt kvs hv pv tw oN oW vW Et h8 tk8 hP hV hN hS8 cW F8 N8
      dsimp only
      iterate 3 walk1
      (rename Fr _ _ _ _ => kF9)
      (rename News _ _ _ _ => kN9)
      refine hQ Nt kvs _ oN Et _ _ _ [_, _, _, _, _] hP hV hN hS8 (by assumption) kF9 kN9
end
section
theorem rulesNoted : True := by
  k_with_none
  k_with "k_ne" => (refine neN ?_; (try dsimp only); first | exact Nat.ne_of_lt (by with_reducible assumption) | exact Nat.ne_of_gt (by with_reducible assumption) | with_reducible assumption | exact neL_up (by with_reducible assumption) | with_reducible exact neL_13 | with_reducible exact neL_23 | with_reducible exact neL_12 | with_reducible exact neL_31 | with_reducible exact neL_32 | with_reducible exact neL_21 | exact Nat.ne_of_gt (by walk_at "pick") | exact Nat.ne_of_lt (by walk_at "pick") | omega)
  k_with "pick" => first | with_reducible assumption | with_reducible exact j1 (by assumption) | with_reducible exact j2 (by assumption) | with_reducible exact j3 (by assumption) | with_reducible exact j4 (by assumption) | with_reducible exact j5 (by assumption) | with_reducible exact j6 (by assumption) | with_reducible exact j7 (by assumption) | with_reducible exact j8 (by assumption) | with_reducible exact j9 (by assumption) | with_reducible exact j10 (by assumption) | with_reducible exact j11 (by assumption) | with_reducible exact j12 (by assumption) | with_reducible exact j13 (by assumption) | with_reducible exact j14 (by assumption) | with_reducible exact j15 (by assumption)
  k_with "om" => first | walk_at "pick" | with_reducible exact Nat.lt_trans (by assumption) (by walk_at "pick")
  k_with "k_mem" => first | exact List.Mem.head _ | assumption | exact List.mem_append_left _ (by assumption) | exact List.mem_append_right _ (by assumption) | (refine' List.Mem.tail _ ?_; k_extra "k_mem")
  k_with "room" => first | exact rm1 (by assumption) (by decide) | exact rm2 (by assumption) (by decide) | exact rm0 (by assumption) | exact rm3 (by assumption) (by decide) | ktr_room
  k_with "units" => first | exact rm1 (by assumption) (by decide) | exact rm2 (by assumption) (by decide) | exact rm0 (by assumption) | exact rm3 (by assumption) (by decide) | ktr_units
  k_with "lt" => try ((rename ∀ p ∈ (_ : List (Addr × Obj)), @LT.lt Nat _ p.1 _ => q9l9); k_lt q9l9; revert q9l9; intro _)
  k_with "dn" => try dsimp only [List.cons_append, List.nil_append] at ‹News _ _ _ _›
  k_with "dd" => try dsimp only [List.cons_append, List.nil_append] at ‹Obj.IsDictOf _ _ _›
  k_with "ds" => try dsimp only [List.cons_append, List.nil_append] at ‹LexSt _ _ _ _ _›
  k_with "end 0" => (intro q9g' q9L' q9h' q9off' q9FG' q9F' q9N' q9B' q9X' q9T' q9l0'; (try k_lt q9l0'); (try dsimp only); (try k_lift q9B'); (try k_fold))
  k_with "end 1" => (intro q9g' q9L' q9h' q9tk' q9cells' q9off' q9FG' q9F' q9N' q9Y' q9B' q9X' q9T' q9l0'; (try k_lt q9l0'); k_cells q9Y'; (try dsimp only [List.cons_append, List.nil_append] at q9N'); (try dsimp only); (try k_lift q9B'); (try k_fold))
  k_with "enterF" => (k_dflt (refine' enterF (by k_asm) (by k_asm) (by k_asm) (by k_asm) (by k_asm) (by exact rfl) (by exact rfl) (by assumption) (by k_is) (by k_is) (by walk_at "room") (by first | exact BindsTo.of_eq rfl | exact binds_K (by k_in) rfl (by k_is) rfl rfl rfl) (by exact locs rfl) ?_ (by exact rfl) (by exact rfl) (by exact rfl) (by decide); k_whole; walk_at "end 0"))
  k_with "enterFC" => (k_dflt (refine' enterFC (by k_asm) (by k_asm) (by k_asm) (by k_asm) (by k_asm) (by exact rfl) (by exact rfl) (by assumption) (by k_is) (by k_is) (by walk_at "room") (by first | exact BindsTo.of_eq rfl | exact binds_K (by k_in) rfl (by k_is) rfl rfl rfl) (by exact rfl) (by decide +kernel) ?_ (by exact rfl) (by exact rfl) (by exact rfl); k_whole; walk_at "end 1"))
  k_with "k_del" => first | (refine' Del.head (by k_all)) | (refine' Del.tail (by k_ne) (by walk_at "k_del"))
  k_with "eval ListComp" => (k_here; k_dflt (refine lc_enter (by k_asm) (by with_unfolding_all rfl) (by decide) (by rfl) (by decide) ?_ (by intro _; rfl)))
  k_with "pyIter ref" => (k_here; k_dflt (first | (refine' pyIter_enum_N (by k_asm) (by k_mem) ?_; k_whole) | (refine' pyIter_tupo_N (by k_asm) (by k_asm) (by k_mem) ?_; k_whole; intros; walk_at "lt"; (try k_sweep)) | (refine' pyIter_list_N (by k_asm) (by k_asm) (by exact News.isList (by k_asm) (by k_mem)) ?_; k_whole; intros; walk_at "lt"; (try k_sweep))))
  k_with "exec Assign cons ListComp" => (k_here; k_dflt (refine' lc_assign (by k_asm) (by rfl) (by with_unfolding_all rfl) (by with_unfolding_all rfl) (by decide) (by rfl) (by decide) (by rfl) (by rfl) ?_ (by intro _; rfl)))
  k_with "k_all" => first | exact List.forall_mem_nil _ | exact LexSt.ne (by assumption) (by omega) | exact allNe_of (by assumption) | exact allNe_le (by assumption) (by omega) | exact allNe_gt (by assumption) | exact List.forall_mem_cons.mpr ⟨by k_ne, by k_extra "k_all"⟩
  k_with "subscriptTail" => (k_here; (with_reducible show wpAny _ _ (subscriptTail _ _ (Value.ref _) (Value.int _ _)) _ _ _); k_dflt (refine' itemL_N (by k_asm) (by k_mem) (by assumption) (by assumption) ?_ (by with_unfolding_all rfl); k_whole))
  k_with "binaryOp Add str str" => (k_here; (with_reducible show wpAny _ _ (binaryOp Operator.Add (Value.str _ _) (Value.str _ _)) _ _ _); k_dflt (refine' PyProof.Rows.add_str ?_ (by assumption); k_whole); intros)
  k_with "k_tail" => first | exact TailE.nil | (apply TailE.cons; walk_at "k_tail")
  k_with "k_allgt" => first | exact List.forall_mem_nil _ | (refine' List.forall_mem_cons.mpr ⟨(by ((try dsimp only); first | with_reducible assumption | omega)), (by walk_at "k_allgt")⟩)
  k_with "k_inE" => first | exact fun _ hq => hq | (refine' fun q hq => List.Mem.tail _ (?_ : ∀ q ∈ _, q ∈ _) q hq)
  k_with "exec While Name cons nil" => (k_here; k_dflt (refine wpAny_While ?_))
  k_with "codeAny" => (k_here; (with_reducible show codeAny _ _ (Code.whileLoop _ _ _ _) _ _); refine while_turn ?_; (try k_fold))
  k_with "truthy str" => (k_here; (first | (refine' truthy_yes (by assumption) (by assumption) ?_) | refine truthy_no ?_); intros)
  k_with "call type:int" => (k_here; (with_reducible show wpAny _ _ (call (Value.type "int") [Value.str _ _, Value.int _ _]) _ _ _); k_dflt (refine call_int8 (by assumption) ?_))
  k_with "setItem ref str" => (k_here; k_dflt (refine' dset_new (by k_asm) (by k_asm) (by k_updF) (by k_asm) (by first | exact vn0 | exact vn1 (by assumption) | exact vn2 (by assumption) (by assumption) | exact vn3 (by assumption) (by assumption) (by assumption)) (by exact Nat.le_of_ble_eq_true (by with_unfolding_all rfl)) ?_); intros; walk_at "dn"; walk_at "dd"; (try k_sweep))
  k_with "subscriptTail" => (k_here; (with_reducible show wpAny _ _ (subscriptTail _ _ (Value.ref _) (Value.str _ _)) _ _ _); k_dflt (refine' dget (by k_asm) (by k_mem) (by k_asm) (by first | assumption | exact vs0 | exact vs1 (by assumption) | exact vs2 (by assumption) (by assumption) | exact vs3 (by assumption) (by assumption) (by assumption)) ?_ (by with_unfolding_all rfl); k_whole); intros)
  k_with "binaryOp Mod str int" => (k_here; (refine mod_o (by assumption) ?_); intros)
  k_with "call ref" => (k_here; k_dflt (show wpAny _ _ (call (Value.ref 103) [_]) _ _ _); k_dflt (first | (refine' ConF.useLS (getPath (by assumption) (by assumption)) (by k_asm) (by k_asm) (by k_asm) (by k_asm) (by k_asm) (by exact rfl) (by (first | with_reducible assumption | omega | walk_at "room")) (by (first | with_reducible assumption | omega | walk_at "units")) (by walk_at "k_tail") (by exact LexSt.le (by assumption)) (by walk_at "k_allgt") ?_; k_whole; intros; walk_at "dn"; (try k_sweep)) | (refine' ConF.useLS (getOct (by assumption) (by assumption)) (by k_asm) (by k_asm) (by k_asm) (by k_asm) (by k_asm) (by exact rfl) (by (first | with_reducible assumption | omega | walk_at "room")) (by (first | with_reducible assumption | omega | walk_at "units")) (by walk_at "k_tail") (by exact LexSt.le (by assumption)) (by walk_at "k_allgt") ?_; k_whole; intros; walk_at "dn"; (try k_sweep)) | (refine' ConF.useLS (getE (by assumption)) (by k_asm) (by k_asm) (by k_asm) (by k_asm) (by k_asm) (by exact rfl) (by (first | with_reducible assumption | omega | walk_at "room")) (by (first | with_reducible assumption | omega | walk_at "units")) (by walk_at "k_tail") (by exact LexSt.le (by assumption)) (by walk_at "k_allgt") ?_; k_whole; intros; walk_at "dn"; (try k_sweep)) | (refine' ConF.useLE (getB (by assumption) (by first | decide | assumption | (simp only [List.length_append, List.length_cons, List.length_nil]; omega))) (by k_asm) (by k_asm) (by k_asm) (by k_asm) (by k_asm) (by exact rfl) (by (first | with_reducible assumption | omega | walk_at "room")) (by (first | with_reducible assumption | omega | walk_at "units")) (by walk_at "k_tail") (by exact LexSt.le (by assumption)) (by walk_at "k_allgt") ?_; k_whole; intros; walk_at "dn"; (try k_sweep))))
  k_with "call ref" => (k_here; k_dflt (show wpAny _ _ (call (Value.ref 110) [_, _]) _ _ _); k_dflt (refine' ConF.useLE (pushT (by assumption) (by first | decide | assumption | (simp only [List.length_append, List.length_cons, List.length_nil]; omega))) (by k_asm) (by k_asm) (by k_asm) (by k_asm) (by k_asm) (by exact rfl) (by (first | with_reducible assumption | omega | walk_at "room")) (by (first | with_reducible assumption | omega | walk_at "units")) (by walk_at "k_tail") (by exact LexSt.le (by assumption)) (by walk_at "k_allgt") ?_; k_whole; intros; walk_at "ds"; walk_at "dn"; (try k_sweep)))
  k_with "call ref" => (k_here; k_dflt (show wpAny _ _ (call (Value.ref 75) [Value.int _ _]) _ _ _); k_dflt (refine' ConF.use0S (fm_con _ _ _ _ _ _ (by assumption) _) (by k_asm) (by k_asm) (by k_asm) (by k_asm) (by k_asm) (by exact rfl) (by (first | with_reducible assumption | omega | walk_at "room")) (by (first | with_reducible assumption | omega | walk_at "units")) ?_; k_whole); intros; (try k_sweep))
  k_with "getMethod ref" => (k_here; k_dflt (first | (refine' lex_get (by assumption) (by k_asm) (by k_asm) (by k_asm) (by intro q hq; repeat (first | exact hq | apply List.Mem.tail)) ?_; k_whole) | (refine' lex_push (by assumption) (by k_asm) (by k_asm) (by k_asm) (by intro q hq; repeat (first | exact hq | apply List.Mem.tail)) ?_; k_whole)))
  k_with "pyIter ref" => (k_here; k_dflt (refine' dk_iter (by k_asm) (by k_asm) (by k_mem) (by assumption) (by assumption) ?_; k_whole); intros; walk_at "lt"; (try k_sweep))
  k_with "codeAny" => (k_here; (with_reducible show codeAny _ _ (Code.forLoop _ _ _ _ _) _ _); refine for_turnK ?_; (try k_fold))
  k_with "pyNext ref" => (k_here; k_dflt (first | (refine' dk_next (by k_asm) (by k_asm) (by k_updF) (by assumption) (by assumption) (by k_mem) (by exact rfl) ?_; k_whole; intros; walk_at "dn"; (try k_sweep)) | (refine' dk_stop (by rfl) (by k_asm) (by k_asm) (by walk_at "k_del") (by k_mem) (by assumption) (by assumption) (by k_mem) (by exact rfl) ?_; k_whole; intros; walk_at "dn"; (try k_sweep))))
  k_with "exec For Name Name cons nil" => (k_here; k_dflt (refine wpAny_For ?_ (by intro _; rfl)))
  k_with "eval DictComp" => (k_here; k_dflt (refine dc_enter (by k_asm) (by with_unfolding_all rfl) (by decide) (by rfl) (by decide) ?_ (by intro _; rfl)))
  k_with "subscriptTail Name Name ref str" => walk_at "subscriptTail"
  exact True.intro
theorem four_at {prog : Program} {w : World} {o : Obj} {ep : Nat} {x0 x1 x2 x3 : Str} {f0 f1 f2 f3 i : Nat} {k0 k1 k2 k3 : Tok} (_ : KdkAt (PySem.strKind prog w) o [(x0, .int (modeOf f0) k0), (x1, .int (modeOf f1) k1), (x2, .int (modeOf f2) k2), (x3, .int (modeOf f3) k3)] ep) (g0 : f0 < 16) (g1 : f1 < 16) (g2 : f2 < 16) (g3 : f3 < 16)
    (d01 : x0 ≠ x1) (d02 : x0 ≠ x2) (d03 : x0 ≠ x3) (d12 : x1 ≠ x2) (d13 : x1 ≠ x3) (d23 : x2 ≠ x3) (hi : i < 4) :
    ∃ x f tr, fk f0 f1 f2 f3 i = f ∧ [(x0, Value.int (modeOf f0) k0), (x1, .int (modeOf f1) k1), (x2, .int (modeOf f2) k2), (x3, .int (modeOf f3) k3)][i]? = some (x, .int (modeOf f) tr) ∧ valueAt [(x0, Value.int (modeOf f0) k0), (x1, .int (modeOf f1) k1), (x2, .int (modeOf f2) k2), (x3, .int (modeOf f3) k3)] x = some (.int (modeOf f) tr) ∧ f < 16 := by
  rcases i with _ | _ | _ | _ | i
  · exact ⟨_, _, _, rfl, rfl, vs0, g0⟩
  · exact ⟨_, _, _, rfl, rfl, vs1 d01, g1⟩
  · exact ⟨_, _, _, rfl, rfl, vs2 d02 d12, g2⟩
  · exact ⟨_, _, _, rfl, rfl, vs3 d03 d13 d23, g3⟩
  · omega
theorem one_q {q : List (Nat × Tok)} {a : Nat} {l : List Nat} (e : q.map (·.1) = a :: l) : ∃ t q1, q = (a, t) :: q1 ∧ q1.map (·.1) = l := by
  cases q with
  | nil => exact nomatch e
  | cons x q => exact ⟨x.2, q, congrArg (fun y => (y, x.2) :: q) (List.cons.inj e).1, (List.cons.inj e).2⟩
theorem four_q {P : Params} {z : LA} {cs : List Nat} {E : Led} {q : List (Nat × Tok)} {a b c d : Nat} (h : LexSt P z (octVals q) cs E) (e : q.map (·.1) = [a, b, c, d]) : ∃ t0 t1 t2 t3, LexSt P z [.str (octOf a) t0, .str (octOf b) t1, .str (octOf c) t2, .str (octOf d) t3] cs E := by
  obtain ⟨t0, q0, h0, e0⟩ := one_q e
  obtain ⟨t1, q1, h1, e1⟩ := one_q e0
  obtain ⟨t2, q2, h2, e2⟩ := one_q e1
  obtain ⟨t3, q3, h3, e3⟩ := one_q e2
  rw [h0, h1, h2, h3, List.map_eq_nil_iff.mp e3] at h
  exact ⟨t0, t1, t2, t3, h⟩
noncomputable abbrev frmP (z : LA) (v : Option Value) : Str → Option Value := fun y => if y = Str.ofString "path" then v else List.lookup y [(Str.ofString "lexer", Value.ref z.x)]
theorem look1 {y a : Str} {v : Value} : List.lookup y [(a, v)] = if y = a then some v else none := by
  by_cases h : y = a
  · simp only [List.lookup, h, beq_self_eq_true, if_true]
  · simp only [List.lookup, beq_eq_false_iff_ne.mpr h, if_neg h]
theorem Fr.toP {g h : Heap} {L : Addr} {m : Str → Option Value} {z : LA} {x : Str} {t : Tok} (F : Fr g L h m) (e : m (Str.ofString "path") = some (.str x t)) (e' : ∀ y, y ≠ Str.ofString "path" → m y = List.lookup y [(Str.ofString "lexer", Value.ref z.x)]) : Fr g L h (frmP z (some (.str x t))) :=
  Fr.cong F fun y => by
    by_cases h : y = Str.ofString "path"
    · rw [h, e]; exact rfl
    · rw [e' y h]; exact (if_neg h).symm
noncomputable def PushInv (P : Params) (z : LA) (F : Nat → Nat) (g : Heap) (L I d : Addr) (ep : Nat) (rest : Led) (i : Nat) (h : Heap) : Prop :=
  ∃ x t oI E q, Fr g L h (frmP z (some (.str x t))) ∧ News g L h ((I, oI) :: (rest ++ E)) ∧ LexSt P z (octVals q) [] E ∧ q.map (·.1) = (List.range i).map F ∧ q.length < 1000 ∧ KdkIter oI d i 4 ep
theorem noted_con (w : World) (p : Program) (loose : List Str) (mean : ExcName → Option Value) (mg mb : Str → Option Value) (z : LA) (E : Led) (x0 x1 x2 x3 : Str) (f0 f1 f2 f3 : Nat)
    (hS : LexSt w.params z [] (txt1 x0 f0 (txt1 x1 f1 (txt1 x2 f2 (txt1 x3 f3 [])))) E)
    (g0 : f0 < 16) (g1 : f1 < 16) (g2 : f2 < 16) (g3 : f3 < 16)
    (n0 : x0.length ≠ 0) (n1 : x1.length ≠ 0) (n2 : x2.length ≠ 0) (n3 : x3.length ≠ 0) (m0 : x0.length ≤ 1000) (m1 : x1.length ≤ 1000) (m2 : x2.length ≤ 1000) (m3 : x3.length ≤ 1000)
    (c0 : ∀ c ∈ x0.cps.toList, c ≠ 34 ∧ c ≠ 92) (c1 : ∀ c ∈ x1.cps.toList, c ≠ 34 ∧ c ≠ 92) (c2 : ∀ c ∈ x2.cps.toList, c ≠ 34 ∧ c ≠ 92) (c3 : ∀ c ∈ x3.cps.toList, c ≠ 34 ∧ c ≠ 92)
    (d01 : x0 ≠ x1) (d02 : x0 ≠ x2) (d03 : x0 ≠ x3) (d12 : x1 ≠ x2) (d13 : x1 ≠ x3) (d23 : x2 ≠ x3)
    (hcp : ∀ f, IsMeet f0 f1 f2 f3 f → CPok ((having (fk f0 f1 f2 f3) f).map (xk x0 x1 x2 x3))) :
   ConF PySem.Challenge.rw_un0041_01.row.prog w (hd.heap_39 w.params) p loose mean mg mb 10 233 [.ref z.x] E
    (fun r E1 => ∃ D o Nt kvs E2, r = .ref D ∧ E1 = (D, o) :: E2 ∧ LexSt w.params z [] [] E2 ∧ (D == sysModules) = false ∧ Pend f0 f1 f2 f3 Nt [] ∧ KV (comm x0 x1 x2 x3 f0 f1 f2 f3) Nt kvs ∧ o.IsDictOf (PySem.strKind PySem.Challenge.rw_un0041_01.row.prog w) kvs) := by
  k_fill
  intro dp un gd cn cs a ccd cl outer A₀ base h₀ L m s R B F X N T hk hd hu ret
  walk_at "enterFC"
  have hLz := hS.lt (allLt_of (by assumption : ∀ p ∈ E, p.1 < _))
  iterate 148 walk1
  dsimp only
  iterate 4 walk1
  (rename Fr _ _ _ _ => kF9)
  (rename News _ _ _ _ => kN9)
  (rename LexSt _ _ _ _ _ => kS9)
  (rename KdkIter _ _ _ _ _ => kI9)
  (rename KdkAt _ _ _ _ => kA9)
  refine for_ind (fun i h _ => PushInv w.params z (fk f0 f1 f2 f3) _ _ _ _ _ [_, _, _, _] i h) 4 ⟨_, _, _, _, [], (Fr.toP kF9 rfl fun y h3 => by simp only [if_neg h3, look1]; exact rfl), kN9, kS9, rfl, Nat.le_of_ble_eq_true rfl, kI9⟩ ?_
  clear kF9 kN9 kS9 kI9
  intro i h7 tk7 hi4 hZ9 back
  obtain ⟨xp, tp, oI1, E1, q1, F1, N1, hS1, hq1, hz1, hi1⟩ := hZ9
  dsimp only [List.cons_append, List.nil_append] at N1
  have hlq : (octVals q1).length < 1000 := Nat.lt_of_le_of_lt (Nat.le_of_eq (List.length_map _)) hz1
  refine for_turnK ?_
  (try k_fold)
  by_cases hi4' : i < 4
  · obtain ⟨xi, fi, tr, hfk, hkv, hvr, hg⟩ := four_at kA9 g0 g1 g2 g3 d01 d02 d03 d12 d13 d23 hi4'
    refine dk_next F1 N1 (by k_updF) hi1 kA9 (by k_mem) hkv fun h6 o6 t6 F2 N2 hi2 => ?_
    clear F1 N1 hi1
    iterate 21 walk1
    (rename Fr _ _ _ _ => kF9)
    (rename News _ _ _ _ => kN9)
    (rename LexSt _ _ _ _ _ => kS9)
    obtain ⟨q2, hq2, kS8⟩ := octVals_push1 kS9
    have hq3 : q2.map (·.1) = (List.range (i + 1)).map (fk f0 f1 f2 f3) := by rw [hq2, hq1, List.range_succ, List.map_append, ← hfk]; rfl
    refine back hi4' _ _ ⟨xi, t6, o6, _, q2, (Fr.toP kF9 rfl fun y h3 => by simp only [if_neg h3]), kN9, kS8, hq3, ?hl7, hi2⟩
    case hl7 =>
      have := congrArg List.length hq3
      simp only [List.length_map, List.length_range] at this
      omega
  obtain rfl : i = 4 := by omega
  refine dk_stop rfl F1 N1 (by walk_at "k_del") (by k_mem) hi1 kA9 (by k_mem) rfl fun h6 F2 N2 => ?_
  clear F1 N1 hi1
  obtain ⟨_, _, _, _, kS9⟩ := four_q hS1 hq1
  (try dsimp only)
  iterate 1 walk1
  (rename Fr _ _ _ _ => kF9)
  (rename News _ _ _ _ => kN9)
  (rename Frag.In _ _ => kX9)
  (rename Obj.IsDictOf _ _ [_, _, _, _] => kD9)
  have kE9 := kS9.le
  (try dsimp only)
  show BackGoal w (ktrTop dp un gd cn cs L a ccd cl outer) _ _ _ _ ((partsN notSt).1.drop 4) (partsN notSt).2
  refine' noted_back w p loose mean mg mb z _ x0 x1 x2 x3 f0 f1 f2 f3 g0 g1 g2 g3 d01 d02 d03 d12 d13 d23 _ dp un gd cn cs L a ccd cl outer _ _ _ _ _ _ _ _ _ _ _ _ _ _ _ _ _ _ _ _ (by first | assumption | walk_at "om" | omega) kX9 (by first | assumption | walk_at "om" | omega) hk hd hu kF9 kN9 kS9 kD9 (by first | assumption | walk_at "om" | omega) (by first | assumption | walk_at "om" | omega) (by first | assumption | walk_at "om" | omega) (by first | assumption | walk_at "om" | omega) hcp ?hQ9 ?l09 (by first | assumption | walk_at "om" | omega) (by first | assumption | walk_at "om" | omega) (by first | assumption | walk_at "om" | omega) ?lE9
  case l09 => omega
  case lE9 => exact allLt_of fun p hp => Nat.lt_of_le_of_lt (kE9 p hp) (by omega)
  case hQ9 =>
    clear kF9 kN9
    intro Nt kvs D9 o9 E9 h9 tk9 m9 n9 hP9 hV9 hD9 hS9 lo9 F9 N9
    iterate 1 walk1
    (rename Fr _ _ _ _ => kF8)
    (rename News _ _ _ _ => kN8)
    refine ret _ ((D9, o9) :: E9) _ _ kF8 (fun q hq => kN8 q ?_) (Off.trans (by assumption) (Fr.keep (by k_asm))) ⟨D9, o9, Nt, kvs, E9, rfl, rfl, hS9, lo9, hP9, hV9, hD9⟩
    rcases List.mem_cons.mp hq with rfl | hq
    · exact .head _
    · exact .tail _ (List.mem_append_right _ hq)
end
section
open PyProof.Rows.LCg
theorem rulesRng : True := by
  k_with_none
  k_with "k_ne" => (refine neN ?_; (try dsimp only); first | exact Nat.ne_of_lt (by with_reducible assumption) | exact Nat.ne_of_gt (by with_reducible assumption) | with_reducible assumption | exact neL_up (by with_reducible assumption) | with_reducible exact neL_13 | with_reducible exact neL_23 | with_reducible exact neL_12 | with_reducible exact neL_31 | with_reducible exact neL_32 | with_reducible exact neL_21 | exact Nat.ne_of_gt (by walk_at "pick") | exact Nat.ne_of_lt (by walk_at "pick") | omega)
  k_with "pick" => first | with_reducible assumption | with_reducible exact j1 (by assumption) | with_reducible exact j2 (by assumption) | with_reducible exact j3 (by assumption) | with_reducible exact j4 (by assumption) | with_reducible exact j5 (by assumption) | with_reducible exact j6 (by assumption) | with_reducible exact j7 (by assumption) | with_reducible exact j8 (by assumption) | with_reducible exact j9 (by assumption) | with_reducible exact j10 (by assumption) | with_reducible exact j11 (by assumption) | with_reducible exact j12 (by assumption) | with_reducible exact j13 (by assumption) | with_reducible exact j14 (by assumption) | with_reducible exact j15 (by assumption)
  k_with "om" => first | walk_at "pick" | with_reducible exact Nat.lt_trans (by assumption) (by walk_at "pick")
  k_with "k_mem" => first | exact List.Mem.head _ | assumption | exact List.mem_append_left _ (by assumption) | exact List.mem_append_right _ (by assumption) | (refine' List.Mem.tail _ ?_; k_extra "k_mem")
  k_with "room" => first | exact rm1 (by assumption) (by decide) | exact rm2 (by assumption) (by decide) | exact rm0 (by assumption) | exact rm3 (by assumption) (by decide) | ktr_room
  k_with "units" => first | exact rm1 (by assumption) (by decide) | exact rm2 (by assumption) (by decide) | exact rm0 (by assumption) | exact rm3 (by assumption) (by decide) | ktr_units
  k_with "lt" => try ((rename ∀ p ∈ (_ : List (Addr × Obj)), @LT.lt Nat _ p.1 _ => q9l9); k_lt q9l9; revert q9l9; intro _)
  k_with "dn" => try dsimp only [List.cons_append, List.nil_append] at ‹News _ _ _ _›
  k_with "dd" => try dsimp only [List.cons_append, List.nil_append] at ‹Obj.IsDictOf _ _ _›
  k_with "ds" => try dsimp only [List.cons_append, List.nil_append] at ‹LexSt _ _ _ _ _›
  exact True.intro
/-- a range, and its iterator i steps on -/
noncomputable abbrev rgObj (a b c : Int) (t u v : Tok) : Obj := { cls := .type "range", data := .fields #[.int a t, .int b u, .int c v] }
noncomputable abbrev riO (a n c : Int) (i : Nat) : Obj := { cls := .type "range_iterator", dict := none, data := .fields #[rawInt (a + (i : Nat) * c), rawInt (n - (i : Nat)), rawInt c], slots := #[] }
theorem riO_zero (a n c : Int) : ({ cls := .type "range_iterator", data := .fields #[rawInt a, rawInt n, rawInt c] } : Obj) = riO a n c 0 := by
  show _ = ({ cls := .type "range_iterator", dict := none, data := .fields #[rawInt (a + ((0 : Nat) : Int) * c), rawInt (n - ((0 : Nat) : Int)), rawInt c], slots := #[] } : Obj)
  simp
section
variable {prog : Program} {w : World} {A : Around} {E : Value → Shared → Prop} {s : Shared} {target : Expr} {Kn : Shared → Prop} {Kv : Value → Shared → Prop} {g : Heap} {L I r : Addr} {m : Str → Option Value} {news news' : Led} {a b c n : Int} {i : Nat} {t u v : Tok} {Q : Value → Shared → Prop}
theorem call_rg1 (F : Fr g L s.heap m) (N : News g L s.heap news)
    (h : ∀ r h' tk t1 t3, Fr g L h' m → News g L h' ((r, rgObj 0 b 1 t1 t t3) :: news) → (∀ p ∈ news, @LT.lt Nat _ p.1 r) → Q (.ref r) { s with heap := h', toks := tk }) :
    wpAny (model prog w) A (call (.type "range") [.int b t]) Q E s :=
  call_range_1 (h _ _ _ _ _ (F.push _) (N.push F _ rfl) fun p hp => Heap.lt_size (N p hp).1)
theorem call_rg2 (F : Fr g L s.heap m) (N : News g L s.heap news)
    (h : ∀ r h' tk t3, Fr g L h' m → News g L h' ((r, rgObj a b 1 t u t3) :: news) → (∀ p ∈ news, @LT.lt Nat _ p.1 r) → Q (.ref r) { s with heap := h', toks := tk }) :
    wpAny (model prog w) A (call (.type "range") [.int a t, .int b u]) Q E s :=
  call_range_2 (h _ _ _ _ (F.push _) (N.push F _ rfl) fun p hp => Heap.lt_size (N p hp).1)
theorem rg_iter (F : Fr g L s.heap m) (N : News g L s.heap news) (hp : (r, rgObj a b c t u v) ∈ news) (hs : Builtin.Range.small a b c = true)
    (h : ∀ I h', Fr g L h' m → News g L h' ((I, riO a (Builtin.Range.rangeSize a b c) c 0) :: news) → (∀ p ∈ news, @LT.lt Nat _ p.1 I) → Q (.ref I) { s with heap := h' }) :
    wpAny (model prog w) A (pyIter (.ref r)) Q E s := by
  have e := riO_zero a (Builtin.Range.rangeSize a b c) c
  refine wpAny_pyIter_range (N _ hp).1 hs ?_
  rw [e]
  exact h _ _ (F.push _) (N.push F _ rfl) fun p hp => Heap.lt_size (N p hp).1
theorem rg_next {G : Led} (F : Fr g L s.heap m) (N : News g L s.heap news) (U : Upd I (riO a n c i) (riO a n c (i + 1)) news G) (hi : (i : Int) < n)
    (h : ∀ h' tk' t, Fr g L h' m → News g L h' G → Kv (.int (a + (i : Nat) * c) t) { s with heap := h', toks := tk' }) :
    wpAny (model prog w) A (pyNext (.ref I)) (NextK prog w A (.ref I) target Kn Kv) NoE s := by
  have o := upd_old N U
  refine wpAny_pyNext_range_item o.1 (by omega) fun h' h1 h2 => ?_
  have e1 : a + ((i + 1 : Nat) : Int) * c = a + (i : Nat) * c + c := by push_cast; rw [Int.add_mul, Int.one_mul, Int.add_assoc]
  have e2 : n - ((i + 1 : Nat) : Int) = n - (i : Nat) - 1 := by push_cast; omega
  have h3 : h'.get? I = some (riO a n c (i + 1)) := by
    show h'.get? I = some { cls := .type "range_iterator", dict := none, data := .fields #[rawInt (a + ((i + 1 : Nat) : Int) * c), rawInt (n - ((i + 1 : Nat) : Int)), rawInt c], slots := #[] }
    rw [e1, e2]; exact h1
  obtain ⟨F', N'⟩ := upd_FN F N U h3 fun b x hb e => h2.extBut b x hb e
  show wpAny _ _ (letOwnedTupleGo target (.ref I) (.int _ _)) _ _ _
  unfold letOwnedTupleGo
  cases target <;> exact wpAny_pure (h h' _ _ F' N')
theorem rg_stop (hh : A.handled = none) (F : Fr g L s.heap m) (N : News g L s.heap news) (U : Upd I (riO a n c i) (riO a n c i) news news) (D : Del I news news') (hi : ¬ (i : Int) < n)
    (h : ∀ h', Fr g L h' m → News g L h' news' → Kn { s with heap := h' }) :
    wpAny (model prog w) A (pyNext (.ref I)) (NextK prog w A (.ref I) target Kn Kv) NoE s := by
  have o := upd_old N U
  refine wpAny_pyNext_range_end hh o.1 (by omega) fun h' h2 => ?_
  obtain ⟨F', N'⟩ := del_FN F N D fun b x hb e => h2 b x hb e
  exact h h' F' N'
end
section
variable {prog : Program} {w : World} {A : Around} {s : Shared} {iter elt : Expr} {ifs : List Expr} {scope : Scope} {pos px : Pos} {env : Env} {g : Heap} {L : Addr} {m : Str → Option Value} {cl : List (Str × Addr)} {Q : Value → Shared → Prop} {I : Addr} {x : Str} {news : Led} {n : Nat} {p : Nat → Bool} {G : Nat → Value → Led → Prop}
theorem LcGo_rg (hn : n ≤ sizeLine) (hh : A.handled = none) (F : Fr g L s.heap m) (N : News g L s.heap ((I, riO 0 (n : Int) 1 0) :: news)) (hI : ∀ q ∈ news, q.1 ≠ I) (hk : scope.kind = .function) (hx : scope.names.lookup x = some .local)
    (helt : ∀ C i (s : Shared) oC m₁ (X : Led) (Kt : Value → Shared → Prop) (Ks : Shared → Prop), i < n → Fr g L s.heap m → News g L s.heap ((C, oC) :: (news ++ X)) → NsObj oC m₁ → (∃ t, m₁ x = some (.int (i : Nat) t)) → (∀ q ∈ news ++ X, q.1 ≠ C) →
      (p i = true → ∀ y mk h' tk', G i y mk → (∀ q ∈ mk, ∀ r ∈ (C, oC) :: (news ++ X), @LT.lt Nat _ r.1 q.1) → Fr g L h' m → News g L h' ((C, oC) :: (news ++ (mk ++ X))) → Kt y { s with heap := h', toks := tk' }) →
      (p i = false → ∀ h' tk', Fr g L h' m → News g L h' ((C, oC) :: (news ++ X)) → Ks { s with heap := h', toks := tk' }) →
      wpAny (model prog w) A (compTest ifs (compEnvC scope cl C env)) (fun ok s₄ => if ok = true then wpAny (model prog w) A (eval elt (compEnvC scope cl C env)) Kt NoE s₄ else Ks s₄) NoE s)
    (hQ : ∀ D ys made c h' tk', Res p G n ys made → (∀ q ∈ news, @LT.lt Nat _ q.1 D) → (∀ q ∈ made, @LT.lt Nat _ D q.1) → Fr g L h' m → News g L h' ((D, W.listOf ys.toArray c) :: (news ++ made)) → Q (.ref D) { s with heap := h', toks := tk' }) :
    LcGo prog w A g L m env elt (.Name x px) iter ifs scope cl pos Q (.ref I) s := by
  refine LcGo_use (J := [(I, riO 0 (n : Int) 1 0)]) (ia := [I]) (Its := fun i J => CellsP [I] (fun h => IsRangeIter h I (0 + (i : Nat) * 1) ((n : Int) - (i : Nat)) 1) J) (Bound := fun i m₁ => ∃ v, (∃ t, v = .int (0 + (i : Nat) * 1) t) ∧ m₁ x = some v) hn F N ⟨rfl, fun h hp => hp _ (.head _)⟩ (fun q hq => by rw [List.mem_singleton.mp hq]; exact .head _) (fun q hq => .tail _ hq) (fun q hq hm => hI q hq (List.mem_singleton.mp hm))
    (fun C => ci_walks (Walks.range hh I 0 1 n) (fun i h st b hb => by obtain rfl := List.mem_singleton.mp hb; exact ⟨_, st⟩) hk hx) (fun C i s oC m₁ X Kt Ks hi F N hO hB hC hT hF => helt C i s oC m₁ X Kt Ks hi F N hO (by
      obtain ⟨_, ⟨t, rfl⟩, hm⟩ := hB
      exact ⟨t, by rw [hm, Int.mul_one, Int.zero_add]⟩) hC hT hF) hQ
end
end
section
open PyProof.Rows.LCg
theorem bitAnd_nat (a b : Nat) : Builtin.bitAnd (a : Int) (b : Int) = ((a &&& b : Nat) : Int) := by rw [bitAnd_pp (Int.natCast_nonneg a) (Int.natCast_nonneg b)]; simp
theorem bitAnd_15 (a : Nat) : Builtin.bitAnd (a : Int) 15 = ((a &&& 15 : Nat) : Int) := bitAnd_nat a 15
theorem bitAnd_1 (a : Nat) : Builtin.bitAnd (a : Int) 1 = ((a % 2 : Nat) : Int) := by rw [bitAnd_m1]; push_cast; rfl
section
variable {prog : Program} {w : World} {A : Around} {E : Value → Shared → Prop} {s : Shared} {Q : Value → Shared → Prop} {t u : Tok}
theorem shr_nat {c k : Nat} (h : ∀ t tk, Q (.int ((c / 2 ^ k : Nat) : Int) t) { s with toks := tk }) : wpAny (model prog w) A (binaryOp .RShift (.int (c : Int) t) (.int (k : Int) u)) Q E s :=
  rshift_int (Int.natCast_nonneg k) (by
    have e : (c : Int).fdiv (2 ^ (k : Int).toNat) = ((c / 2 ^ k : Nat) : Int) := by
      rw [Int.toNat_natCast, Int.fdiv_eq_ediv_of_nonneg _ (Int.le_of_lt (Int.pow_pos (by decide)))]
      push_cast; rfl
    rw [e]; exact h _ _)
theorem and_one {a : Nat} (h : ∀ t tk, Q (.int ((a % 2 : Nat) : Int) t) { s with toks := tk }) : wpAny (model prog w) A (binaryOp .BitAnd (.int (a : Int) t) (.int 1 u)) Q E s :=
  and_int (by rw [bitAnd_1]; exact h _ _)
theorem and_nat {a b : Nat} (h : ∀ t tk, Q (.int ((a &&& b : Nat) : Int) t) { s with toks := tk }) : wpAny (model prog w) A (binaryOp .BitAnd (.int (a : Int) t) (.int (b : Int) u)) Q E s :=
  and_int (by rw [bitAnd_nat]; exact h _ _)
theorem iand_nat {a b : Nat} (h : ∀ t tk, Q (.int ((a &&& b : Nat) : Int) t) { s with toks := tk }) : wpAny (model prog w) A (inplaceOp .BitAnd (.int (a : Int) t) (.int (b : Int) u)) Q E s :=
  iand_int (by rw [bitAnd_nat]; exact h _ _)
theorem iand_15 {a : Nat} (h : ∀ t tk, Q (.int ((a &&& 15 : Nat) : Int) t) { s with toks := tk }) : wpAny (model prog w) A (inplaceOp .BitAnd (.int (a : Int) t) (.int 15 u)) Q E s :=
  iand_int (by rw [bitAnd_15]; exact h _ _)
theorem eq_nat {a b : Nat} (h : Q (.bool (a == b)) s) : wpAny (model prog w) A (compareOp .Eq (.int (a : Int) t) (.int (b : Int) u)) Q E s :=
  eq_int (by
    have : ((a : Int) == (b : Int)) = (a == b) := by
      by_cases e : a = b
      · subst e; simp
      · have : ¬ (a : Int) = (b : Int) := fun h => e (Int.ofNat.inj h)
        rw [beq_eq_false_iff_ne.mpr e, beq_eq_false_iff_ne.mpr this]
    rw [this]; exact h)
theorem truthy_bit {c k : Nat} {Q : Bool → Shared → Prop} (h : ∀ tk, Q (c.testBit k) { s with toks := tk }) : wpAny (model prog w) A (truthy (.int ((c / 2 ^ k % 2 : Nat) : Int) t)) Q E s := by
  have e : (((c / 2 ^ k % 2 : Nat) : Int) != 0) = c.testBit k := by
    rw [Nat.testBit_eq_decide_div_mod_eq]
    rcases Nat.mod_two_eq_zero_or_one (c / 2 ^ k) with h | h <;> rw [h] <;> decide
  exact truthy_int (by rw [e]; exact h _)
end
/-- the meets of the first k figures that a choice takes -/
noncomputable def part (F : Nat → Nat) (c : Nat) : Nat → Nat
  | 0 => 15
  | k + 1 => part F c k &&& if c.testBit k then F k else 15
theorem part_4 (f0 f1 f2 f3 c : Nat) : part (fk f0 f1 f2 f3) c 4 = meet f0 f1 f2 f3 c := rfl
theorem part_lt (F : Nat → Nat) (c : Nat) : ∀ k, part F c k < 16
  | 0 => (by decide : (15 : Nat) < 16)
  | k + 1 => land_lt (part_lt F c k)
theorem KV.upd {c : Nat → Str} {N kvs} {f : Nat} {t : Tok} (h : KV c N kvs) (hN : ∀ x ∈ N, x < 16) (hf : f < 16) : KV c N (kvs.map fun kv => if kv.1 = rowOf f then (kv.1, Value.str (c f) t) else kv) := by
  induction h with
  | nil => exact .nil
  | @snoc N kvs x t' h ih =>
    rw [List.map_append]
    have hx := hN x (List.mem_append_right _ (.head _))
    have ih := ih fun y hy => hN y (List.mem_append_left _ hy)
    by_cases e : rowOf x = rowOf f
    · obtain rfl := rowOf_inj hx hf e
      simp only [List.map_cons, List.map_nil, if_true]
      exact ih.snoc
    · simp only [List.map_cons, List.map_nil, if_neg e]
      exact ih.snoc
theorem KV.put {c : Nat → Str} {N kvs} {f : Nat} {t : Tok} (h : KV c N kvs) (hN : ∀ x ∈ N, x < 16) (hd : N.Nodup) (hf : f < 16) :
    ∃ N', KV c N' (stored kvs (rowOf f) (.str (c f) t)) ∧ N'.Nodup ∧ ∀ x, x ∈ N' ↔ x ∈ N ∨ x = f := by
  have hany : kvs.any (fun kv => kv.1 = rowOf f) = true ↔ f ∈ N := by
    have := h.isSome hN hf
    unfold valueAt at this
    rw [Option.isSome_map] at this
    rw [List.any_eq_true, ← decide_eq_true_iff (p := f ∈ N), ← this, List.find?_isSome]
  unfold stored
  by_cases hm : f ∈ N
  · rw [if_pos (hany.mpr hm)]
    exact ⟨N, h.upd hN hf, hd, fun x => ⟨.inl, fun h => h.elim id fun e => e ▸ hm⟩⟩
  · rw [if_neg fun q => hm (hany.mp q)]
    refine ⟨N ++ [f], h.snoc, ?_, fun x => by simp⟩
    rw [List.nodup_append]
    exact ⟨hd, by simp, fun a ha b hb e => hm (by rw [List.mem_singleton.mp hb] at e; exact e ▸ ha)⟩
section
variable {A : Around} {s : Shared}
theorem KV.hits {c c' : Nat → Str} {N N' : List Nat} {kvs kvs' : List (Str × Value)} (h' : KV c' N' kvs') (hN' : ∀ x ∈ N', x < 16) (h : KV c N kvs) (hN : ∀ x ∈ N, x ∈ N') (he : ∀ x ∈ N, c x = c' x) :
    ∀ r, KeqHits A s kvs' r true → KeqHits A s kvs' (kvs ++ r) true := by
  induction h with
  | nil => exact fun r h => h
  | @snoc N kvs x t h ih =>
    intro r hr
    rw [List.append_assoc]
    refine ih (fun y hy => hN y (List.mem_append_left _ hy)) (fun y hy => he y (List.mem_append_left _ hy)) _ ?_
    have hx := hN x (List.mem_append_right _ (.head _))
    obtain ⟨t', e⟩ := h'.som hN' (hN' x hx) hx
    have q := KeqHits.hit e (PySem.SeqAt.EqAt.str_str (A := A) (s := s) (c x) t (c' x) t') hr
    rw [he x (List.mem_append_right _ (.head _)), beq_self_eq_true] at q
    rw [he x (List.mem_append_right _ (.head _))]
    exact q
theorem nodup_len {N N' : List Nat} (h : N.Nodup) (h' : N'.Nodup) (e : ∀ x, x ∈ N ↔ x ∈ N') : N.length = N'.length := by
  have key : ∀ {N N' : List Nat}, N.Nodup → (∀ x, x ∈ N → x ∈ N') → N.length ≤ N'.length := by
    intro N
    induction N with
    | nil => intro N' _ _; exact Nat.zero_le _
    | cons a r ih =>
      intro N' h s
      have ha := s a (.head _)
      have h2 := List.nodup_cons.mp h
      have h3 := ih (N' := N'.erase a) h2.2 fun x hx => by
        have : x ≠ a := fun e => h2.1 (e ▸ hx)
        exact (List.mem_erase_of_ne this).mpr (s x (.tail _ hx))
      have h4 := List.length_erase_of_mem ha
      have h5 := List.length_pos_of_mem ha
      simp only [List.length_cons]
      omega
  exact Nat.le_antisymm (key h fun x => (e x).1) (key h' fun x => (e x).2)
end
section
variable {prog : Program} {w : World} {A : Around} {E : Value → Shared → Prop} {s : Shared} {g : Heap} {L d : Addr} {m : Str → Option Value} {news : Led} {G : Obj → Led} {o : Obj} {kvs : List (Str × Value)} {k : Str} {t : Tok} {v : Value}
theorem dset_any {Q : Unit → Shared → Prop} (F : Fr g L s.heap m) (N : News g L s.heap news) (U : UpdF d o news G) (hd : o.IsDictOf (PySem.strKind prog w) kvs) (hz : kvs.length ≤ 1000)
    (h : ∀ h' o' tk, Fr g L h' m → News g L h' (G o') → o'.IsDictOf (PySem.strKind prog w) (stored kvs k v) → Q () { s with heap := h', toks := tk }) : wpAny (model prog w) A (setItem (.ref d) (.str k t) v) Q E s :=
  kda_set (knd := PySem.strKind prog w) F N U hd (strKind_is _ _ _ _) (by rw [sizeLine_eq]; omega) fun h' o' F' N' hd' => h h' o' _ F' N' hd'
end
theorem Res.vals {v : Nat → Value} {p : Nat → Bool} {n : Nat} {ys : List Value} {made : Led} (h : Res p (fun i y mk => mk = [] ∧ y = v i) n ys made) : made = [] ∧ ys = ((List.range n).filter p).map v := by
  induction h with
  | nil => exact ⟨rfl, rfl⟩
  | @skip i ys made hq _ ih =>
    obtain ⟨rfl, rfl⟩ := ih
    exact ⟨rfl, by rw [List.range_succ, List.filter_append, List.filter_cons_of_neg (by rw [hq]; exact Bool.false_ne_true)]; simp⟩
  | @take i ys made y mk hq _ g ih =>
    obtain ⟨rfl, rfl⟩ := ih
    obtain ⟨rfl, rfl⟩ := g
    refine ⟨rfl, ?_⟩
    rw [List.range_succ, List.filter_append, List.filter_cons_of_pos (by rw [hq]), List.map_append]
    rfl
end
section
theorem rulesLawE : True := by
  k_with_none
  k_with "k_ne" => (refine neN ?_; (try dsimp only); first | exact Nat.ne_of_lt (by with_reducible assumption) | exact Nat.ne_of_gt (by with_reducible assumption) | with_reducible assumption | exact neL_up (by with_reducible assumption) | with_reducible exact neL_13 | with_reducible exact neL_23 | with_reducible exact neL_12 | with_reducible exact neL_31 | with_reducible exact neL_32 | with_reducible exact neL_21 | exact Nat.ne_of_gt (by walk_at "pick") | exact Nat.ne_of_lt (by walk_at "pick") | omega)
  k_with "pick" => first | with_reducible assumption | with_reducible exact j1 (by assumption) | with_reducible exact j2 (by assumption) | with_reducible exact j3 (by assumption) | with_reducible exact j4 (by assumption) | with_reducible exact j5 (by assumption) | with_reducible exact j6 (by assumption) | with_reducible exact j7 (by assumption) | with_reducible exact j8 (by assumption) | with_reducible exact j9 (by assumption) | with_reducible exact j10 (by assumption) | with_reducible exact j11 (by assumption) | with_reducible exact j12 (by assumption) | with_reducible exact j13 (by assumption) | with_reducible exact j14 (by assumption) | with_reducible exact j15 (by assumption)
  k_with "om" => first | walk_at "pick" | with_reducible exact Nat.lt_trans (by assumption) (by walk_at "pick")
  k_with "k_mem" => first | exact List.Mem.head _ | assumption | exact List.mem_append_left _ (by assumption) | exact List.mem_append_right _ (by assumption) | (refine' List.Mem.tail _ ?_; k_extra "k_mem")
  k_with "room" => first | exact rm1 (by assumption) (by decide) | exact rm2 (by assumption) (by decide) | exact rm0 (by assumption) | exact rm3 (by assumption) (by decide) | ktr_room
  k_with "units" => first | exact rm1 (by assumption) (by decide) | exact rm2 (by assumption) (by decide) | exact rm0 (by assumption) | exact rm3 (by assumption) (by decide) | ktr_units
  k_with "lt" => try ((rename ∀ p ∈ (_ : List (Addr × Obj)), @LT.lt Nat _ p.1 _ => q9l9); k_lt q9l9; revert q9l9; intro _)
  k_with "dn" => try dsimp only [List.cons_append, List.nil_append] at ‹News _ _ _ _›
  k_with "dd" => try dsimp only [List.cons_append, List.nil_append] at ‹Obj.IsDictOf _ _ _›
  k_with "ds" => try dsimp only [List.cons_append, List.nil_append] at ‹LexSt _ _ _ _ _›
  k_with "end 0" => (intro q9g' q9L' q9h' q9off' q9FG' q9F' q9N' q9B' q9X' q9T' q9l0'; (try k_lt q9l0'); (try dsimp only); (try k_lift q9B'); (try k_fold))
  k_with "end 1" => (intro q9g' q9L' q9h' q9tk' q9cells' q9off' q9FG' q9F' q9N' q9Y' q9B' q9X' q9T' q9l0'; (try k_lt q9l0'); k_cells q9Y'; (try dsimp only [List.cons_append, List.nil_append] at q9N'); (try dsimp only); (try k_lift q9B'); (try k_fold))
  k_with "enterF" => (k_dflt (refine' enterF (by k_asm) (by k_asm) (by k_asm) (by k_asm) (by k_asm) (by exact rfl) (by exact rfl) (by assumption) (by k_is) (by k_is) (by walk_at "room") (by first | exact BindsTo.of_eq rfl | exact binds_K (by k_in) rfl (by k_is) rfl rfl rfl) (by exact locs rfl) ?_ (by exact rfl) (by exact rfl) (by exact rfl) (by decide); k_whole; walk_at "end 0"))
  k_with "enterFC" => (k_dflt (refine' enterFC (by k_asm) (by k_asm) (by k_asm) (by k_asm) (by k_asm) (by exact rfl) (by exact rfl) (by assumption) (by k_is) (by k_is) (by walk_at "room") (by first | exact BindsTo.of_eq rfl | exact binds_K (by k_in) rfl (by k_is) rfl rfl rfl) (by exact rfl) (by decide +kernel) ?_ (by exact rfl) (by exact rfl) (by exact rfl); k_whole; walk_at "end 1"))
  k_with "k_del" => first | (refine' Del.head (by k_all)) | (refine' Del.tail (by k_ne) (by walk_at "k_del"))
  k_with "eval ListComp" => (k_here; k_dflt (refine lc_enter (by k_asm) (by with_unfolding_all rfl) (by decide) (by rfl) (by decide) ?_ (by intro _; rfl)))
  k_with "pyIter ref" => (k_here; k_dflt (first | (refine' pyIter_enum_N (by k_asm) (by k_mem) ?_; k_whole) | (refine' pyIter_tupo_N (by k_asm) (by k_asm) (by k_mem) ?_; k_whole; intros; walk_at "lt"; (try k_sweep)) | (refine' pyIter_list_N (by k_asm) (by k_asm) (by exact News.isList (by k_asm) (by k_mem)) ?_; k_whole; intros; walk_at "lt"; (try k_sweep))))
  k_with "exec Assign cons ListComp" => (k_here; k_dflt (refine' lc_assign (by k_asm) (by rfl) (by with_unfolding_all rfl) (by with_unfolding_all rfl) (by decide) (by rfl) (by decide) (by rfl) (by rfl) ?_ (by intro _; rfl)))
  k_with "k_all" => first | exact List.forall_mem_nil _ | exact LexSt.ne (by assumption) (by omega) | exact allNe_of (by assumption) | exact allNe_le (by assumption) (by omega) | exact allNe_gt (by assumption) | exact List.forall_mem_cons.mpr ⟨by k_ne, by k_extra "k_all"⟩
  k_with "subscriptTail" => (k_here; (with_reducible show wpAny _ _ (subscriptTail _ _ (Value.ref _) (Value.int _ _)) _ _ _); k_dflt (refine' itemL_N (by k_asm) (by k_mem) (by assumption) (by assumption) ?_ (by with_unfolding_all rfl); k_whole))
  k_with "binaryOp Add str str" => (k_here; (with_reducible show wpAny _ _ (binaryOp Operator.Add (Value.str _ _) (Value.str _ _)) _ _ _); k_dflt (refine' PyProof.Rows.add_str ?_ (by assumption); k_whole); intros)
  k_with "k_tail" => first | exact TailE.nil | (apply TailE.cons; walk_at "k_tail")
  k_with "k_allgt" => first | exact List.forall_mem_nil _ | (refine' List.forall_mem_cons.mpr ⟨(by ((try dsimp only); first | with_reducible assumption | omega)), (by walk_at "k_allgt")⟩)
  k_with "k_inE" => first | exact fun _ hq => hq | (refine' fun q hq => List.Mem.tail _ (?_ : ∀ q ∈ _, q ∈ _) q hq)
  k_with "exec While Name cons nil" => (k_here; k_dflt (refine wpAny_While ?_))
  k_with "codeAny" => (k_here; (with_reducible show codeAny _ _ (Code.whileLoop _ _ _ _) _ _); refine while_turn ?_; (try k_fold))
  k_with "truthy str" => (k_here; (first | (refine' truthy_yes (by assumption) (by assumption) ?_) | refine truthy_no ?_); intros)
  k_with "call type:int" => (k_here; (with_reducible show wpAny _ _ (call (Value.type "int") [Value.str _ _, Value.int _ _]) _ _ _); k_dflt (refine call_int8 (by assumption) ?_))
  k_with "setItem ref str" => (k_here; k_dflt (refine' dset_new (by k_asm) (by k_asm) (by k_updF) (by k_asm) (by first | exact vn0 | exact vn1 (by assumption) | exact vn2 (by assumption) (by assumption) | exact vn3 (by assumption) (by assumption) (by assumption)) (by exact Nat.le_of_ble_eq_true (by with_unfolding_all rfl)) ?_); intros; walk_at "dn"; walk_at "dd"; (try k_sweep))
  k_with "subscriptTail" => (k_here; (with_reducible show wpAny _ _ (subscriptTail _ _ (Value.ref _) (Value.str _ _)) _ _ _); k_dflt (refine' dget (by k_asm) (by k_mem) (by k_asm) (by first | assumption | exact vs0 | exact vs1 (by assumption) | exact vs2 (by assumption) (by assumption) | exact vs3 (by assumption) (by assumption) (by assumption)) ?_ (by with_unfolding_all rfl); k_whole); intros)
  k_with "binaryOp Mod str int" => (k_here; (refine mod_o (by assumption) ?_); intros)
  k_with "call ref" => (k_here; k_dflt (show wpAny _ _ (call (Value.ref 103) [_]) _ _ _); k_dflt (first | (refine' ConF.useLS (getPath (by assumption) (by assumption)) (by k_asm) (by k_asm) (by k_asm) (by k_asm) (by k_asm) (by exact rfl) (by (first | with_reducible assumption | omega | walk_at "room")) (by (first | with_reducible assumption | omega | walk_at "units")) (by walk_at "k_tail") (by exact LexSt.le (by assumption)) (by walk_at "k_allgt") ?_; k_whole; intros; walk_at "dn"; (try k_sweep)) | (refine' ConF.useLS (getOct (by assumption) (by assumption)) (by k_asm) (by k_asm) (by k_asm) (by k_asm) (by k_asm) (by exact rfl) (by (first | with_reducible assumption | omega | walk_at "room")) (by (first | with_reducible assumption | omega | walk_at "units")) (by walk_at "k_tail") (by exact LexSt.le (by assumption)) (by walk_at "k_allgt") ?_; k_whole; intros; walk_at "dn"; (try k_sweep)) | (refine' ConF.useLS (getE (by assumption)) (by k_asm) (by k_asm) (by k_asm) (by k_asm) (by k_asm) (by exact rfl) (by (first | with_reducible assumption | omega | walk_at "room")) (by (first | with_reducible assumption | omega | walk_at "units")) (by walk_at "k_tail") (by exact LexSt.le (by assumption)) (by walk_at "k_allgt") ?_; k_whole; intros; walk_at "dn"; (try k_sweep)) | (refine' ConF.useLE (getB (by assumption) (by first | decide | assumption | (simp only [List.length_append, List.length_cons, List.length_nil]; omega))) (by k_asm) (by k_asm) (by k_asm) (by k_asm) (by k_asm) (by exact rfl) (by (first | with_reducible assumption | omega | walk_at "room")) (by (first | with_reducible assumption | omega | walk_at "units")) (by walk_at "k_tail") (by exact LexSt.le (by assumption)) (by walk_at "k_allgt") ?_; k_whole; intros; walk_at "dn"; (try k_sweep))))
  k_with "call ref" => (k_here; k_dflt (show wpAny _ _ (call (Value.ref 110) [_, _]) _ _ _); k_dflt (refine' ConF.useLE (pushT (by assumption) (by first | decide | assumption | (simp only [List.length_append, List.length_cons, List.length_nil]; omega))) (by k_asm) (by k_asm) (by k_asm) (by k_asm) (by k_asm) (by exact rfl) (by (first | with_reducible assumption | omega | walk_at "room")) (by (first | with_reducible assumption | omega | walk_at "units")) (by walk_at "k_tail") (by exact LexSt.le (by assumption)) (by walk_at "k_allgt") ?_; k_whole; intros; walk_at "ds"; walk_at "dn"; (try k_sweep)))
  k_with "call ref" => (k_here; k_dflt (show wpAny _ _ (call (Value.ref 75) [Value.int _ _]) _ _ _); k_dflt (refine' ConF.use0S (fm_con _ _ _ _ _ _ (by assumption) _) (by k_asm) (by k_asm) (by k_asm) (by k_asm) (by k_asm) (by exact rfl) (by (first | with_reducible assumption | omega | walk_at "room")) (by (first | with_reducible assumption | omega | walk_at "units")) ?_; k_whole); intros; (try k_sweep))
  k_with "getMethod ref" => (k_here; k_dflt (first | (refine' lex_get (by assumption) (by k_asm) (by k_asm) (by k_asm) (by intro q hq; repeat (first | exact hq | apply List.Mem.tail)) ?_; k_whole) | (refine' lex_push (by assumption) (by k_asm) (by k_asm) (by k_asm) (by intro q hq; repeat (first | exact hq | apply List.Mem.tail)) ?_; k_whole)))
  k_with "pyIter ref" => (k_here; k_dflt (refine' dk_iter (by k_asm) (by k_asm) (by k_mem) (by assumption) (by assumption) ?_; k_whole); intros; walk_at "lt"; (try k_sweep))
  k_with "codeAny" => (k_here; (with_reducible show codeAny _ _ (Code.forLoop _ _ _ _ _) _ _); refine for_turnK ?_; (try k_fold))
  k_with "pyNext ref" => (k_here; k_dflt (first | (refine' dk_next (by k_asm) (by k_asm) (by k_updF) (by assumption) (by assumption) (by k_mem) (by exact rfl) ?_; k_whole; intros; walk_at "dn"; (try k_sweep)) | (refine' dk_stop (by rfl) (by k_asm) (by k_asm) (by walk_at "k_del") (by k_mem) (by assumption) (by assumption) (by k_mem) (by exact rfl) ?_; k_whole; intros; walk_at "dn"; (try k_sweep))))
  k_with "exec For Name Name cons nil" => (k_here; k_dflt (refine wpAny_For ?_ (by intro _; rfl)))
  k_with "eval DictComp" => (k_here; k_dflt (refine dc_enter (by k_asm) (by with_unfolding_all rfl) (by decide) (by rfl) (by decide) ?_ (by intro _; rfl)))
  k_with "call type:range" => (k_here; k_dflt (first | (refine' call_rg1 (by k_asm) (by k_asm) ?_; k_whole; intros; walk_at "lt"; (try k_sweep)) | (refine' call_rg2 (by k_asm) (by k_asm) ?_; k_whole; intros; walk_at "lt"; (try k_sweep))))
  k_with "pyIter ref" => (k_here; k_dflt (refine' rg_iter (by k_asm) (by k_asm) (by exact List.Mem.head _) (by decide +kernel) ?_; k_whole; intros; walk_at "lt"; (try k_sweep)))
  k_with "exec For Name Call cons nil" => (k_here; k_dflt (refine wpAny_For ?_ (by intro _; rfl)))
  k_with "binaryOp RShift int int" => (k_here; k_dflt (refine shr_nat ?_); intros)
  k_with "binaryOp BitAnd int int" => (k_here; k_dflt (first | (with_reducible refine and_one ?_) | (with_reducible refine and_nat ?_)); intros)
  k_with "inplaceOp BitAnd int int" => (k_here; k_dflt (first | (with_reducible refine iand_15 ?_) | (with_reducible refine iand_nat ?_)); intros)
  k_with "compareOp Eq int int" => (k_here; k_dflt (refine eq_nat ?_))
  k_with "truthy int" => (k_here; k_dflt (refine truthy_bit ?_); intros)
  k_with "setItem ref str" => (k_here; k_dflt (refine' dset_any (by k_asm) (by k_asm) (by k_updF) (by k_asm) (by assumption) ?_); intros; walk_at "dn"; (try k_sweep))
  k_with "call ref" => (k_here; k_dflt (show wpAny _ _ (call (Value.ref 240) [Value.int _ _]) _ _ _); k_dflt (refine' ConF.use0S (row_con _ _ _ _ _ _ (by assumption) _) (by k_asm) (by k_asm) (by k_asm) (by k_asm) (by k_asm) (by exact rfl) (by (first | with_reducible assumption | omega | walk_at "room")) (by (first | with_reducible assumption | omega | walk_at "units")) ?_; k_whole); intros; (try k_sweep))
  k_with "call ref" => (k_here; k_dflt (show wpAny _ _ (call (Value.ref 245) [_]) _ _ _); k_dflt (refine' ConF.useROS (by assumption) (by k_asm) (by k_asm) (by k_asm) (by k_asm) (by k_asm) (by exact rfl) (by (first | with_reducible assumption | omega | walk_at "room")) (by (first | with_reducible assumption | omega | walk_at "units")) (by first | assumption | (intro q hq; simp only [List.mem_cons, List.not_mem_nil, or_false] at hq; rcases hq with rfl | rfl | rfl | rfl | rfl <;> k_mem)) ?_; k_whole); intros; (try k_sweep))
  k_with "loadName" => (k_here; k_dflt (refine' loadX_C (by k_asm) (by exact rfl) (by k_mem) (by assumption) ?_ (by exact rfl) (by exact rfl); k_whole))
  k_with "subscriptTail Name Name ref int" => (k_here; k_dflt (refine' itemL_N (by k_asm) (by k_mem) (by assumption) (by assumption) ?_ (by with_unfolding_all rfl); k_whole))
  exact True.intro
noncomputable def lawSt : Stmt := PySem.Challenge.pw_un0041_01.main.body.getD 48 (.Pass ⟨0, 0, 0, 0⟩)
noncomputable def nthP (k : Nat) : List Stmt × Scope := ((partsN lawSt).1.drop k, (partsN lawSt).2)
theorem concL {P : List Stmt → Scope → Prop} {k : Nat} {rest : List Stmt} {n a b d r t sc ts bd p} (h : lawSt = .FunctionDef n a b d r t sc ts bd p) (hb : b.drop k = rest) (hp : P rest sc) : P (nthP k).1 (nthP k).2 := by
  unfold nthP
  rw [h]
  show P (b.drop k) sc
  rw [hb]; exact hp
noncomputable def LawGoal (w : World) (L fa : Addr) (cd : Value) (Q : Flow → Shared → Prop) (E : Value → Shared → Prop) (s : Shared) (rest : List Stmt) (sc : Scope) : Prop :=
  wpAny (model PySem.Challenge.rw_un0041_01.row.prog w) (callerA.deeper (envOfC (Str.ofString "law") sc L fa cd)) (execs rest (envOfC (Str.ofString "law") sc L fa cd)) Q E s
noncomputable abbrev frmE (m0 : Str → Option Value) (dN : Addr) : Str → Option Value := fun y => if y = Str.ofString "noted" then some (.ref dN) else m0 y
noncomputable abbrev frmD (m0 : Str → Option Value) (dN dD : Addr) (chv kv : Option Value) : Str → Option Value := fun y => if y = Str.ofString "k" then kv else if y = Str.ofString "choice" then chv else if y = Str.ofString "due" then some (.ref dD) else if y = Str.ofString "noted" then some (.ref dN) else m0 y
noncomputable abbrev Rk (R0 R1 R2 R3 : Addr) : Nat → Addr := fun i => [R0, R1, R2, R3].getD i 0
noncomputable abbrev rowK (s0 s1 s2 s3 : List Str) : Nat → List Str := fun i => [s0, s1, s2, s3].getD i []
noncomputable def abv (s0 s1 s2 s3 : List Str) (f0 f1 f2 f3 : Nat) (f : Nat) : Str := aboveOf ((having (fk f0 f1 f2 f3) f).map (rowK s0 s1 s2 s3))
theorem law_end (w : World) (p : Program) (loose : List Str) (mean : ExcName → Option Value) (mg mb : Str → Option Value) (f0 f1 f2 f3 : Nat) (g0 : f0 < 16) (g1 : f1 < 16) (g2 : f2 < 16) (g3 : f3 < 16)
    (s0 s1 s2 s3 : List Str) (sm0 : Small s0) (sm1 : Small s1) (sm2 : Small s2) (sm3 : Small s3) (cm : Nat → Str) (hcm : ∀ f, IsMeet f0 f1 f2 f3 f → cm f = abv s0 s1 s2 s3 f0 f1 f2 f3 f)
    (base g : Heap) (L fa : Addr) (cd : Value) (dN dR R0 R1 R2 R3 dG : Addr) (oN oc og oR : Obj) (PS : Array Value) (l0 l1 l2 l3 : List (Str × Tok)) (e0 e1 e2 e3 cR cG : Nat) (u0 u1 u2 u3 : Tok) (m0 : Str → Option Value) (s : Shared) (Q : Flow → Shared → Prop) (E : Value → Shared → Prop)
    (B : Below callerA base [] g) (X : (hd.heap_39 w.params).In g) (T : Top p loose mean mg mb g)
    (F : Fr g L s.heap (frmE m0 dN))
    (N : News g L s.heap ((dN, oN) :: (dR, W.listOf #[.ref R0, .ref R1, .ref R2, .ref R3] cR) :: (R0, W.listOf (strValues l0).toArray e0) :: (R1, W.listOf (strValues l1).toArray e1) :: (R2, W.listOf (strValues l2).toArray e2) :: (R3, W.listOf (strValues l3).toArray e3) :: (dG, W.listOf #[.int (f0 : Int) u0, .int (f1 : Int) u1, .int (f2 : Int) u2, .int (f3 : Int) u3] cG) :: (L + 1 + 1 + 1, oc) :: (L + 1 + 1, og) :: (L + 1, oR) :: (218, tabObj PS) :: []))
    (q0 : l0.map (·.1) = s0) (q1 : l1.map (·.1) = s1) (q2 : l2.map (·.1) = s2) (q3 : l3.map (·.1) = s3)
    (Nt : List Nat) (kvs : List (Str × Value)) (hP : Pend f0 f1 f2 f3 Nt []) (hV : KV cm Nt kvs) (hN : oN.IsDictOf (PySem.strKind PySem.Challenge.rw_un0041_01.row.prog w) kvs) (loN : (dN == sysModules) = false)
    (a218 : @LT.lt Nat _ 218 L) (a0 : @LT.lt Nat _ dN (L + 1 + 1 + 1) ∨ @LT.lt Nat _ (L + 1 + 1 + 1) dN) (a1 : @LT.lt Nat _ (L + 1 + 1 + 1) dR) (a2 : @LT.lt Nat _ (L + 1 + 1 + 1) R0) (a3 : @LT.lt Nat _ (L + 1 + 1 + 1) R1) (a4 : @LT.lt Nat _ (L + 1 + 1 + 1) R2) (a5 : @LT.lt Nat _ (L + 1 + 1 + 1) R3) (a6 : @LT.lt Nat _ (L + 1 + 1 + 1) dG)
    (c1 : oR.data = .cell (some (.ref dR))) (c2 : og.data = .cell (some (.ref dG))) (vc : Option Value) (c3 : oc.data = .cell vc)
    (hQ : ∀ h' tk' m' news', Fr g L h' m' → News g L h' news' → GrownAt 218 h' → Q (.ret (.bool true)) { s with heap := h', toks := tk' }) :
    LawGoal w L fa cd Q E s (nthP 6).1 (nthP 6).2 := by
  refine' concL ?h ?hb ?_
  case h => exact rfl
  case hb => exact rfl
  unfold LawGoal
  revert X
  k_fill
  intro X
  have hdep : callerA.depth + 1 + 10 * 20 < recursionLimit := by decide +kernel
  have hun : callerA.units + 3 + 100 * 20 < cLine := by decide +kernel
  iterate 16 walk1
  rename_i dD _ oD1 loD hsD _ _ _ lt1 _ rr _ _ t3r lt2 I1 h1 F1 N1 lt3
  have n00 : @Ne Nat dN (L + 1 + 1 + 1) := by first | walk_at "om" | omega
  have n01 : @LT.lt Nat _ (L + 1 + 1 + 1) dD := by first | walk_at "om" | omega
  have n02 : @LT.lt Nat _ (L + 1 + 1 + 1) rr := by first | walk_at "om" | omega
  have n03 : @LT.lt Nat _ (L + 1 + 1 + 1) I1 := by first | walk_at "om" | omega
  have n04 : @LT.lt Nat _ 218 (L + 1 + 1 + 1) := by first | walk_at "om" | omega
  have e15 : Builtin.Range.rangeSize 1 16 1 = 15 := by decide +kernel
  rw [e15] at N1
  refine for_ind (fun i h _ => ∃ chv kv oD oc' vc' Nd kd, Fr g L h (frmD m0 dN dD chv kv) ∧ News g L h ((I1, riO 1 15 1 i) :: (rr, rgObj 1 16 1 _ _ _) :: (dD, oD) :: (dN, oN) :: (dR, W.listOf #[.ref R0, .ref R1, .ref R2, .ref R3] cR) :: (R0, W.listOf (strValues l0).toArray e0) :: (R1, W.listOf (strValues l1).toArray e1) :: (R2, W.listOf (strValues l2).toArray e2) :: (R3, W.listOf (strValues l3).toArray e3) :: (dG, W.listOf #[.int (f0 : Int) u0, .int (f1 : Int) u1, .int (f2 : Int) u2, .int (f3 : Int) u3] cG) :: (L + 1 + 1 + 1, oc') :: (L + 1 + 1, og) :: (L + 1, oR) :: (218, tabObj PS) :: []) ∧
    oc'.data = .cell vc' ∧ oD.IsDictOf (PySem.strKind PySem.Challenge.rw_un0041_01.row.prog w) kd ∧ KV (abv s0 s1 s2 s3 f0 f1 f2 f3) Nd kd ∧ Nd.Nodup ∧ ∀ x, x ∈ Nd ↔ ∃ c, 1 ≤ c ∧ c < i + 1 ∧ x = meet f0 f1 f2 f3 c) 15 ⟨m0 (Str.ofString "choice"), m0 (Str.ofString "k"), _, _, _, [], _, Fr.cong F1 fun y => ?_, N1, c3, hsD, .nil, List.nodup_nil, fun x => ⟨(fun h => nomatch h), fun ⟨c, h1, h2, _⟩ => absurd h1 (by omega)⟩⟩ ?_
  · by_cases h1 : y = Str.ofString "k"
    · subst h1; exact rfl
    by_cases h2 : y = Str.ofString "choice"
    · subst h2; exact rfl
    · simp only [if_neg h1, if_neg h2]
  clear F1 N1
  intro i h8 tk8 hi hZ9 back
  obtain ⟨chv, kv, oD, oc', vc', Nd, kd, F1, N1, cc1, hD1, hV1, nd1, hm1⟩ := hZ9
  refine for_turnK ?_
  by_cases hi15 : i < 15
  · refine rg_next F1 N1 (by k_upd) (by omega) fun h7 tk7 t7 F2 N2 => ?_
    rw [show (1 : Int) + (i : Nat) * 1 = ((i + 1 : Nat) : Int) by push_cast; omega]
    iterate 17 walk1
    rename_i h6 tk6 h5 oc1 cd1 r2 h4 tk4 t21 t23 lt4 I2 h3' F3 N3 lt5
    have e4 : Builtin.Range.rangeSize 0 4 1 = 4 := by decide +kernel
    rw [e4] at N3
    refine for_ind (fun k h _ => ∃ kv1 oc2 tc2, Fr g L h (frmD m0 dN dD (some (.int ((i + 1 : Nat) : Int) t7)) kv1) ∧ News g L h ((I2, riO 0 4 1 k) :: (r2, rgObj 0 4 1 _ _ _) :: (I1, riO 1 15 1 (i + 1)) :: (rr, rgObj 1 16 1 _ _ _) :: (dD, oD) :: (dN, oN) :: (dR, W.listOf #[.ref R0, .ref R1, .ref R2, .ref R3] cR) :: (R0, W.listOf (strValues l0).toArray e0) :: (R1, W.listOf (strValues l1).toArray e1) :: (R2, W.listOf (strValues l2).toArray e2) :: (R3, W.listOf (strValues l3).toArray e3) :: (dG, W.listOf #[.int (f0 : Int) u0, .int (f1 : Int) u1, .int (f2 : Int) u2, .int (f3 : Int) u3] cG) :: (L + 1 + 1 + 1, oc2) :: (L + 1 + 1, og) :: (L + 1, oR) :: (218, tabObj PS) :: []) ∧
      oc2.data = .cell (some (.int ((part (fk f0 f1 f2 f3) (i + 1) k : Nat) : Int) tc2))) 4 ⟨kv, _, _, Fr.cong F3 fun y => ?_, N3, cd1⟩ ?_
    · by_cases h1 : y = Str.ofString "k"
      · subst h1; exact rfl
      by_cases h2 : y = Str.ofString "choice"
      · subst h2; exact rfl
      · simp only [if_neg h1, if_neg h2]
    clear F3 N3
    intro k h2 tk2 hk4 hZ8 back2
    obtain ⟨kv1, oc2, tc2, F3, N3, cc2⟩ := hZ8
    refine for_turnK ?_
    by_cases hk4' : k < 4
    · refine rg_next F3 N3 (by k_upd) (by omega) fun h1' tk1 t1 F4 N4 => ?_
      rw [show (0 : Int) + (k : Nat) * 1 = ((k : Nat) : Int) by push_cast; omega]
      obtain ⟨uk, hG⟩ : ∃ u, [Value.int (f0 : Int) u0, .int (f1 : Int) u1, .int (f2 : Int) u2, .int (f3 : Int) u3][k]? = some (.int ((fk f0 f1 f2 f3 k : Nat) : Int) u) := by
        rcases k with _ | _ | _ | _ | k
        · exact ⟨_, rfl⟩
        · exact ⟨_, rfl⟩
        · exact ⟨_, rfl⟩
        · exact ⟨_, rfl⟩
        · omega
      have hz7 : [Value.int (f0 : Int) u0, .int (f1 : Int) u1, .int (f2 : Int) u2, .int (f3 : Int) u3].length ≤ 100000 := Nat.le_of_ble_eq_true rfl
      iterate 16 walk1
      cases hb7 : (i + 1).testBit k
      · have ep : part (fk f0 f1 f2 f3) (i + 1) (k + 1) = part (fk f0 f1 f2 f3) (i + 1) k &&& 15 := by
          show part (fk f0 f1 f2 f3) (i + 1) k &&& (if (i + 1).testBit k then fk f0 f1 f2 f3 k else 15) = _
          rw [hb7]; rfl
        iterate 5 walk1
        (rename Fr _ _ _ _ => kF9)
        (rename News _ _ _ _ => kN9)
        refine back2 hk4' _ _ ⟨some (.int ((k : Nat) : Int) t1), _, _, Fr.cong kF9 fun y => ?_, kN9, by rw [ep]; assumption⟩
        by_cases h1 : y = Str.ofString "k"
        · subst h1; exact rfl
        · simp only [if_neg h1]
      · have ep : part (fk f0 f1 f2 f3) (i + 1) (k + 1) = part (fk f0 f1 f2 f3) (i + 1) k &&& fk f0 f1 f2 f3 k := by
          show part (fk f0 f1 f2 f3) (i + 1) k &&& (if (i + 1).testBit k then fk f0 f1 f2 f3 k else 15) = _
          rw [hb7]; rfl
        iterate 8 walk1
        (rename Fr _ _ _ _ => kF9)
        (rename News _ _ _ _ => kN9)
        refine back2 hk4' _ _ ⟨some (.int ((k : Nat) : Int) t1), _, _, Fr.cong kF9 fun y => ?_, kN9, by rw [ep]; assumption⟩
        by_cases h1 : y = Str.ofString "k"
        · subst h1; exact rfl
        · simp only [if_neg h1]
    · obtain rfl : k = 4 := by omega
      refine rg_stop rfl F3 N3 (by k_upd) (by walk_at "k_del") (by decide) fun h1' F4 N4 => ?_
      have hmt : IsMeet f0 f1 f2 f3 (meet f0 f1 f2 f3 (i + 1)) := ⟨i + 1, by omega, by omega, rfl⟩
      rw [part_4] at cc2
      have hfe : ∀ x, x ∈ Nd ∨ x = meet f0 f1 f2 f3 (i + 1) ↔ ∃ c, 1 ≤ c ∧ c < i + 1 + 1 ∧ x = meet f0 f1 f2 f3 c := fun x => by
        rw [hm1]
        constructor
        · rintro (⟨c, h1, h2, h3⟩ | h)
          · exact ⟨c, h1, by omega, h3⟩
          · exact ⟨i + 1, by omega, by omega, h⟩
        · rintro ⟨c, h1, h2, h3⟩
          by_cases h4 : c = i + 1
          · exact .inr (h4 ▸ h3)
          · exact .inl ⟨c, h1, by omega, h3⟩
      have hf : meet f0 f1 f2 f3 (i + 1) < 16 := part_4 f0 f1 f2 f3 (i + 1) ▸ part_lt _ _ 4
      have hNd : ∀ x ∈ Nd, x < 16 := fun x hx => by
        obtain ⟨c, _, _, rfl⟩ := (hm1 x).mp hx
        exact part_4 f0 f1 f2 f3 c ▸ part_lt _ _ 4
      generalize meet f0 f1 f2 f3 (i + 1) = f at *
      clear back2 F3 N3
      iterate 16 walk1
      rename_i tkA hA r3 hB tkB tB1 tB3 lt6 I3 hC F5 N5 lt7
      have e4' : Builtin.Range.rangeSize 0 4 1 = ((4 : Nat) : Int) := by decide +kernel
      rw [e4'] at N5
      have hz8 : [Value.ref R0, .ref R1, .ref R2, .ref R3].length ≤ 100000 := Nat.le_of_ble_eq_true rfl
      have hz7 : [Value.int (f0 : Int) u0, .int (f1 : Int) u1, .int (f2 : Int) u2, .int (f3 : Int) u3].length ≤ 100000 := Nat.le_of_ble_eq_true rfl
      refine LcGo_rg (n := 4) (p := fun j => f &&& fk f0 f1 f2 f3 j == f) (G := fun j y mk => mk = [] ∧ y = .ref (Rk R0 R1 R2 R3 j)) ?hn9 rfl F5 N5 ?hI9 rfl rfl ?he9 ?hq9
      case hn9 => rw [sizeLine_eq]; omega
      case hI9 => k_all
      case he9 =>
        clear F5 N5
        intro C j s1 oC m₁ X' Kt Ks hj F2' N2' hO hB' hC' hT hF9
        obtain ⟨tj, hmj⟩ := hB'
        obtain ⟨⟨uk, hG⟩, hR⟩ : (∃ u, [Value.int (f0 : Int) u0, .int (f1 : Int) u1, .int (f2 : Int) u2, .int (f3 : Int) u3][j]? = some (.int ((fk f0 f1 f2 f3 j : Nat) : Int) u)) ∧ [Value.ref R0, .ref R1, .ref R2, .ref R3][j]? = some (.ref (Rk R0 R1 R2 R3 j)) := by
          rcases j with _ | _ | _ | _ | j
          · exact ⟨⟨_, rfl⟩, rfl⟩
          · exact ⟨⟨_, rfl⟩, rfl⟩
          · exact ⟨⟨_, rfl⟩, rfl⟩
          · exact ⟨⟨_, rfl⟩, rfl⟩
          · omega
        dsimp only [List.cons_append, List.nil_append] at N2'
        generalize fk f0 f1 f2 f3 j = fj at *
        generalize Rk R0 R1 R2 R3 j = Rj at *
        iterate 10 walk1
        rw [Nat.and_comm] at hT hF9
        iterate 2 walk1
        cases hb8 : (fj &&& f == f)
        · iterate 1 walk1
          (rename Fr _ _ _ _ => kF9)
          (rename News _ _ _ _ => kN9)
          exact hF9 hb8 _ _ kF9 kN9
        · iterate 5 walk1
          (rename Fr _ _ _ _ => kF9)
          (rename News _ _ _ _ => kN9)
          exact hT hb8 _ [] _ _ ⟨rfl, rfl⟩ (by simp) kF9 kN9
      case hq9 =>
        clear F5 N5
        intro D8 ys made c8 h9 tk9 hR8 hlt8 _ F6 N6
        obtain ⟨rfl, rfl⟩ := hR8.vals
        have hne := having_ne hmt
        obtain ⟨ps, hps⟩ : ∃ ps, ps = (having (fk f0 f1 f2 f3) f).map (fun j => (Rk R0 R1 R2 R3 j, rowK s0 s1 s2 s3 j)) := ⟨_, rfl⟩
        have hys : ((List.range 4).filter fun j => f &&& fk f0 f1 f2 f3 j == f).map (fun j => Value.ref (Rk R0 R1 R2 R3 j)) = ps.map (fun p : Addr × List Str => Value.ref p.1) := by rw [hps, List.map_map]; rfl
        have hps2 : aboveOf (ps.map (·.2)) = abv s0 s1 s2 s3 f0 f1 f2 f3 f := by rw [hps, List.map_map]; rfl
        have hl5 : (having (fk f0 f1 f2 f3) f).length ≤ 4 := List.length_filter_le (fun i => f &&& fk f0 f1 f2 f3 i == f) (List.range 4)
        have hpsm : ∀ p ∈ ps, ∃ j, j < 4 ∧ p = (Rk R0 R1 R2 R3 j, rowK s0 s1 s2 s3 j) := fun p hp => by
          rw [hps] at hp
          obtain ⟨j, hj, rfl⟩ := List.mem_map.mp hp
          exact ⟨j, List.mem_range.mp (List.mem_filter.mp hj).1, rfl⟩
        have hcon := above_con w p loose mean mg mb D8 ps [(R0, W.listOf (strValues l0).toArray e0), (R1, W.listOf (strValues l1).toArray e1), (R2, W.listOf (strValues l2).toArray e2), (R3, W.listOf (strValues l3).toArray e3)] c8
          (by rw [hps]; exact fun h => hne (List.map_eq_nil_iff.mp h)) (fun p hp => by
            obtain ⟨j, hj, rfl⟩ := hpsm p hp
            rcases j with _ | _ | _ | _ | j
            · exact ⟨l0, e0, by simp, q0⟩
            · exact ⟨l1, e1, by simp, q1⟩
            · exact ⟨l2, e2, by simp, q2⟩
            · exact ⟨l3, e3, by simp, q3⟩
            · omega) (fun p hp => by
            obtain ⟨j, hj, rfl⟩ := hpsm p hp
            rcases j with _ | _ | _ | _ | j
            · exact sm0
            · exact sm1
            · exact sm2
            · exact sm3
            · omega) (by rw [hps, List.length_map]; omega)
        rw [hys] at N6
        rw [hps2] at hcon
        simp only [List.append_nil] at N6
        clear hys hps hps2 hpsm
        k_lt hlt8
        have hkl : kd.length ≤ 1000 := by
          rw [hV1.len]
          have := nodup_lt nd1 hNd
          omega
        iterate 2 walk1
        refine' ConF.useRO hcon ?B ?F ?X ?N ?T ?hk ?hd ?hu ?h0 ?hE ?_
        case B => k_asm
        case F => k_asm
        case X => k_asm
        case N => k_asm
        case T => k_asm
        case hk => exact rfl
        case hd => omega
        case hu => omega
        case h0 =>
          intro q hq
          simp only [List.mem_cons, List.not_mem_nil, or_false] at hq ⊢
          rcases hq with h | h | h | h | h <;> simp only [h, true_or, or_true]
        case hE => exact fun _ _ h => h.1
        intro r' h' tk' F' N' out'; obtain ⟨_, t9', out9'⟩ := out'; subst out9'
        iterate 11 walk1
        (rename Fr _ _ _ _ => kF9)
        (rename News _ _ _ _ => kN9)
        obtain ⟨Nd', hV2, nd2, hm2⟩ := hV1.put (t := t9') hNd nd1 hf
        refine back hi15 _ _ ⟨some (.int ((i + 1 : Nat) : Int) t7), kv1, _, _, _, Nd', _, Fr.cong kF9 fun y => rfl, (fun q hq => kN9 q (.tail _ (.tail _ (.tail _ hq)))), cc2, by assumption, hV2, nd2, fun x => (hm2 x).trans (hfe x)⟩
  · obtain rfl : i = 15 := by omega
    refine rg_stop rfl F1 N1 (by k_upd) (by walk_at "k_del") (by decide) fun h7 F2 N2 => ?_
    have loD' : (dD == sysModules) = false := loD
    iterate 6 walk1
    (rename Fr _ _ _ _ => kF9)
    (rename News _ _ _ _ => kN9)
    have hmd : ∀ x, x ∈ Nd ↔ x ∈ Nt := fun x => (hm1 x).trans (hP.done g0 g1 g2 g3 x).symm
    have hN16 : ∀ x ∈ Nd, x < 16 := fun x hx => hP.lt x (List.mem_append_left _ ((hmd x).mp hx))
    have hlen : kvs.length = kd.length := by
      rw [hV.len, hV1.len]
      exact nodup_len hP.nodup nd1 fun x => (hmd x).symm
    refine keq_eq (knd := PySem.strKind PySem.Challenge.rw_un0041_01.row.prog w) (ka := kvs) (kb := kd) (r := true) loN loD' (Heap.dictOf_iff.mpr ⟨oN, (kN9 (dN, oN) (by k_mem)).1, hN⟩) (Heap.dictOf_iff.mpr ⟨oD, (kN9 (dD, oD) (by k_mem)).1, hD1⟩) ?hu9 (fun _ => ?hh9) ?_
    case hu9 => show callerA.units + 3 < cLine; omega
    case hh9 =>
      refine List.append_nil kvs ▸ KV.hits hV1 hN16 hV (fun x hx => (hmd x).mpr hx) (fun x hx => hcm x ((hP.done g0 g1 g2 g3 x).mp hx)) [] .nil
    rw [hlen, beq_self_eq_true, Bool.and_true]
    exact hQ _ _ _ _ kF9 kN9 (GrownAt.of kN9 (ps := PS) (by k_mem))
end
section
theorem rulesLaw5 : True := by
  k_with_none
  k_with "k_ne" => (refine neN ?_; (try dsimp only); first | exact Nat.ne_of_lt (by with_reducible assumption) | exact Nat.ne_of_gt (by with_reducible assumption) | with_reducible assumption | exact neL_up (by with_reducible assumption) | with_reducible exact neL_13 | with_reducible exact neL_23 | with_reducible exact neL_12 | with_reducible exact neL_31 | with_reducible exact neL_32 | with_reducible exact neL_21 | exact Nat.ne_of_gt (by walk_at "pick") | exact Nat.ne_of_lt (by walk_at "pick") | omega)
  k_with "pick" => first | with_reducible assumption | with_reducible exact j1 (by assumption) | with_reducible exact j2 (by assumption) | with_reducible exact j3 (by assumption) | with_reducible exact j4 (by assumption) | with_reducible exact j5 (by assumption) | with_reducible exact j6 (by assumption) | with_reducible exact j7 (by assumption) | with_reducible exact j8 (by assumption) | with_reducible exact j9 (by assumption) | with_reducible exact j10 (by assumption) | with_reducible exact j11 (by assumption) | with_reducible exact j12 (by assumption) | with_reducible exact j13 (by assumption) | with_reducible exact j14 (by assumption) | with_reducible exact j15 (by assumption)
  k_with "om" => first | walk_at "pick" | with_reducible exact Nat.lt_trans (by assumption) (by walk_at "pick")
  k_with "k_mem" => first | exact List.Mem.head _ | assumption | exact List.mem_append_left _ (by assumption) | exact List.mem_append_right _ (by assumption) | (refine' List.Mem.tail _ ?_; k_extra "k_mem")
  k_with "room" => first | exact rm1 (by assumption) (by decide) | exact rm2 (by assumption) (by decide) | exact rm0 (by assumption) | exact rm3 (by assumption) (by decide) | ktr_room
  k_with "units" => first | exact rm1 (by assumption) (by decide) | exact rm2 (by assumption) (by decide) | exact rm0 (by assumption) | exact rm3 (by assumption) (by decide) | ktr_units
  k_with "lt" => try ((rename ∀ p ∈ (_ : List (Addr × Obj)), @LT.lt Nat _ p.1 _ => q9l9); k_lt q9l9; revert q9l9; intro _)
  k_with "dn" => try dsimp only [List.cons_append, List.nil_append] at ‹News _ _ _ _›
  k_with "dd" => try dsimp only [List.cons_append, List.nil_append] at ‹Obj.IsDictOf _ _ _›
  k_with "ds" => try dsimp only [List.cons_append, List.nil_append] at ‹LexSt _ _ _ _ _›
  k_with "end 0" => (intro q9g' q9L' q9h' q9off' q9FG' q9F' q9N' q9B' q9X' q9T' q9l0'; (try k_lt q9l0'); (try dsimp only); (try k_lift q9B'); (try k_fold))
  k_with "end 1" => (intro q9g' q9L' q9h' q9tk' q9cells' q9off' q9FG' q9F' q9N' q9Y' q9B' q9X' q9T' q9l0'; (try k_lt q9l0'); k_cells q9Y'; (try dsimp only [List.cons_append, List.nil_append] at q9N'); (try dsimp only); (try k_lift q9B'); (try k_fold))
  k_with "enterF" => (k_dflt (refine' enterF (by k_asm) (by k_asm) (by k_asm) (by k_asm) (by k_asm) (by exact rfl) (by exact rfl) (by assumption) (by k_is) (by k_is) (by walk_at "room") (by first | exact BindsTo.of_eq rfl | exact binds_K (by k_in) rfl (by k_is) rfl rfl rfl) (by exact locs rfl) ?_ (by exact rfl) (by exact rfl) (by exact rfl) (by decide); k_whole; walk_at "end 0"))
  k_with "enterFC" => (k_dflt (refine' enterFC (by k_asm) (by k_asm) (by k_asm) (by k_asm) (by k_asm) (by exact rfl) (by exact rfl) (by assumption) (by k_is) (by k_is) (by walk_at "room") (by first | exact BindsTo.of_eq rfl | exact binds_K (by k_in) rfl (by k_is) rfl rfl rfl) (by exact rfl) (by decide +kernel) ?_ (by exact rfl) (by exact rfl) (by exact rfl); k_whole; walk_at "end 1"))
  k_with "k_del" => first | (refine' Del.head (by k_all)) | (refine' Del.tail (by k_ne) (by walk_at "k_del"))
  k_with "eval ListComp" => (k_here; k_dflt (refine lc_enter (by k_asm) (by with_unfolding_all rfl) (by decide) (by rfl) (by decide) ?_ (by intro _; rfl)))
  k_with "pyIter ref" => (k_here; k_dflt (first | (refine' pyIter_enum_N (by k_asm) (by k_mem) ?_; k_whole) | (refine' pyIter_tupo_N (by k_asm) (by k_asm) (by k_mem) ?_; k_whole; intros; walk_at "lt"; (try k_sweep)) | (refine' pyIter_list_N (by k_asm) (by k_asm) (by exact News.isList (by k_asm) (by k_mem)) ?_; k_whole; intros; walk_at "lt"; (try k_sweep))))
  k_with "exec Assign cons ListComp" => (k_here; k_dflt (refine' lc_assign (by k_asm) (by rfl) (by with_unfolding_all rfl) (by with_unfolding_all rfl) (by decide) (by rfl) (by decide) (by rfl) (by rfl) ?_ (by intro _; rfl)))
  k_with "k_all" => first | exact List.forall_mem_nil _ | exact LexSt.ne (by assumption) (by omega) | exact allNe_of (by assumption) | exact allNe_le (by assumption) (by omega) | exact allNe_gt (by assumption) | exact List.forall_mem_cons.mpr ⟨by k_ne, by k_extra "k_all"⟩
  k_with "subscriptTail" => (k_here; (with_reducible show wpAny _ _ (subscriptTail _ _ (Value.ref _) (Value.int _ _)) _ _ _); k_dflt (refine' itemL_N (by k_asm) (by k_mem) (by assumption) (by assumption) ?_ (by with_unfolding_all rfl); k_whole))
  k_with "binaryOp Add str str" => (k_here; (with_reducible show wpAny _ _ (binaryOp Operator.Add (Value.str _ _) (Value.str _ _)) _ _ _); k_dflt (refine' PyProof.Rows.add_str ?_ (by assumption); k_whole); intros)
  k_with "k_tail" => first | exact TailE.nil | (apply TailE.cons; walk_at "k_tail")
  k_with "k_allgt" => first | exact List.forall_mem_nil _ | (refine' List.forall_mem_cons.mpr ⟨(by ((try dsimp only); first | with_reducible assumption | omega)), (by walk_at "k_allgt")⟩)
  k_with "k_inE" => first | exact fun _ hq => hq | (refine' fun q hq => List.Mem.tail _ (?_ : ∀ q ∈ _, q ∈ _) q hq)
  k_with "exec While Name cons nil" => (k_here; k_dflt (refine wpAny_While ?_))
  k_with "codeAny" => (k_here; (with_reducible show codeAny _ _ (Code.whileLoop _ _ _ _) _ _); refine while_turn ?_; (try k_fold))
  k_with "truthy str" => (k_here; (first | (refine' truthy_yes (by assumption) (by assumption) ?_) | refine truthy_no ?_); intros)
  k_with "call type:int" => (k_here; (with_reducible show wpAny _ _ (call (Value.type "int") [Value.str _ _, Value.int _ _]) _ _ _); k_dflt (refine call_int8 (by assumption) ?_))
  k_with "setItem ref str" => (k_here; k_dflt (refine' dset_new (by k_asm) (by k_asm) (by k_updF) (by k_asm) (by first | exact vn0 | exact vn1 (by assumption) | exact vn2 (by assumption) (by assumption) | exact vn3 (by assumption) (by assumption) (by assumption)) (by exact Nat.le_of_ble_eq_true (by with_unfolding_all rfl)) ?_); intros; walk_at "dn"; walk_at "dd"; (try k_sweep))
  k_with "subscriptTail" => (k_here; (with_reducible show wpAny _ _ (subscriptTail _ _ (Value.ref _) (Value.str _ _)) _ _ _); k_dflt (refine' dget (by k_asm) (by k_mem) (by k_asm) (by first | assumption | exact vs0 | exact vs1 (by assumption) | exact vs2 (by assumption) (by assumption) | exact vs3 (by assumption) (by assumption) (by assumption)) ?_ (by with_unfolding_all rfl); k_whole); intros)
  k_with "binaryOp Mod str int" => (k_here; (refine mod_o (by assumption) ?_); intros)
  k_with "call ref" => (k_here; k_dflt (show wpAny _ _ (call (Value.ref 103) [_]) _ _ _); k_dflt (first | (refine' ConF.useLS (getPath (by assumption) (by assumption)) (by k_asm) (by k_asm) (by k_asm) (by k_asm) (by k_asm) (by exact rfl) (by (first | with_reducible assumption | omega | walk_at "room")) (by (first | with_reducible assumption | omega | walk_at "units")) (by walk_at "k_tail") (by exact LexSt.le (by assumption)) (by walk_at "k_allgt") ?_; k_whole; intros; walk_at "dn"; (try k_sweep)) | (refine' ConF.useLS (getOct (by assumption) (by assumption)) (by k_asm) (by k_asm) (by k_asm) (by k_asm) (by k_asm) (by exact rfl) (by (first | with_reducible assumption | omega | walk_at "room")) (by (first | with_reducible assumption | omega | walk_at "units")) (by walk_at "k_tail") (by exact LexSt.le (by assumption)) (by walk_at "k_allgt") ?_; k_whole; intros; walk_at "dn"; (try k_sweep)) | (refine' ConF.useLS (getE (by assumption)) (by k_asm) (by k_asm) (by k_asm) (by k_asm) (by k_asm) (by exact rfl) (by (first | with_reducible assumption | omega | walk_at "room")) (by (first | with_reducible assumption | omega | walk_at "units")) (by walk_at "k_tail") (by exact LexSt.le (by assumption)) (by walk_at "k_allgt") ?_; k_whole; intros; walk_at "dn"; (try k_sweep)) | (refine' ConF.useLE (getB (by assumption) (by first | decide | assumption | (simp only [List.length_append, List.length_cons, List.length_nil]; omega))) (by k_asm) (by k_asm) (by k_asm) (by k_asm) (by k_asm) (by exact rfl) (by (first | with_reducible assumption | omega | walk_at "room")) (by (first | with_reducible assumption | omega | walk_at "units")) (by walk_at "k_tail") (by exact LexSt.le (by assumption)) (by walk_at "k_allgt") ?_; k_whole; intros; walk_at "dn"; (try k_sweep))))
  k_with "call ref" => (k_here; k_dflt (show wpAny _ _ (call (Value.ref 110) [_, _]) _ _ _); k_dflt (refine' ConF.useLE (pushT (by assumption) (by first | decide | assumption | (simp only [List.length_append, List.length_cons, List.length_nil]; omega))) (by k_asm) (by k_asm) (by k_asm) (by k_asm) (by k_asm) (by exact rfl) (by (first | with_reducible assumption | omega | walk_at "room")) (by (first | with_reducible assumption | omega | walk_at "units")) (by walk_at "k_tail") (by exact LexSt.le (by assumption)) (by walk_at "k_allgt") ?_; k_whole; intros; walk_at "ds"; walk_at "dn"; (try k_sweep)))
  k_with "call ref" => (k_here; k_dflt (show wpAny _ _ (call (Value.ref 75) [Value.int _ _]) _ _ _); k_dflt (refine' ConF.use0S (fm_con _ _ _ _ _ _ (by assumption) _) (by k_asm) (by k_asm) (by k_asm) (by k_asm) (by k_asm) (by exact rfl) (by (first | with_reducible assumption | omega | walk_at "room")) (by (first | with_reducible assumption | omega | walk_at "units")) ?_; k_whole); intros; (try k_sweep))
  k_with "getMethod ref" => (k_here; k_dflt (first | (refine' lex_get (by assumption) (by k_asm) (by k_asm) (by k_asm) (by intro q hq; repeat (first | exact hq | apply List.Mem.tail)) ?_; k_whole) | (refine' lex_push (by assumption) (by k_asm) (by k_asm) (by k_asm) (by intro q hq; repeat (first | exact hq | apply List.Mem.tail)) ?_; k_whole)))
  k_with "pyIter ref" => (k_here; k_dflt (refine' dk_iter (by k_asm) (by k_asm) (by k_mem) (by assumption) (by assumption) ?_; k_whole); intros; walk_at "lt"; (try k_sweep))
  k_with "codeAny" => (k_here; (with_reducible show codeAny _ _ (Code.forLoop _ _ _ _ _) _ _); refine for_turnK ?_; (try k_fold))
  k_with "pyNext ref" => (k_here; k_dflt (first | (refine' dk_next (by k_asm) (by k_asm) (by k_updF) (by assumption) (by assumption) (by k_mem) (by exact rfl) ?_; k_whole; intros; walk_at "dn"; (try k_sweep)) | (refine' dk_stop (by rfl) (by k_asm) (by k_asm) (by walk_at "k_del") (by k_mem) (by assumption) (by assumption) (by k_mem) (by exact rfl) ?_; k_whole; intros; walk_at "dn"; (try k_sweep))))
  k_with "exec For Name Name cons nil" => (k_here; k_dflt (refine wpAny_For ?_ (by intro _; rfl)))
  k_with "eval DictComp" => (k_here; k_dflt (refine dc_enter (by k_asm) (by with_unfolding_all rfl) (by decide) (by rfl) (by decide) ?_ (by intro _; rfl)))
  exact True.intro
theorem lex_ge {P : Params} {z : LA} {q : Array Value} {qn : Nat} {ln : Int} {lt : Tok} {left : Array Value} {n : Nat} (hz : z.Ok) : ∀ p ∈ lexLed P z q qn ln lt left n, @LE.le Nat _ z.cc p.1 := by
  obtain ⟨h1, h2, h3, h4, h5, h6, h7, h8, h9, h10, -⟩ := hz
  have e0 : @LE.le Nat _ z.cc z.cc := Nat.le_refl _
  have e1 : @LE.le Nat _ z.cc z.lf := Nat.le_of_lt h2
  have e2 : @LE.le Nat _ z.cc z.d1 := Nat.le_trans e1 (Nat.le_of_lt h3)
  have e3 : @LE.le Nat _ z.cc z.x1 := Nat.le_trans e2 (Nat.le_of_lt h4)
  have e4 : @LE.le Nat _ z.cc z.pb1 := Nat.le_trans e3 (Nat.le_of_lt h5)
  have e5 : @LE.le Nat _ z.cc z.c := Nat.le_trans e4 (Nat.le_of_lt h6)
  have e6 : @LE.le Nat _ z.cc z.f := Nat.le_trans e5 (Nat.le_of_lt h7)
  have e7 : @LE.le Nat _ z.cc z.d := Nat.le_trans e6 (Nat.le_of_lt h8)
  have e8 : @LE.le Nat _ z.cc z.x := Nat.le_trans e7 (Nat.le_of_lt h9)
  have e9 : @LE.le Nat _ z.cc z.pb := Nat.le_trans e8 (Nat.le_of_lt h10)
  intro p hp
  simp only [List.mem_cons, List.not_mem_nil, or_false] at hp
  rcases hp with rfl | rfl | rfl | rfl | rfl | rfl | rfl | rfl | rfl | rfl <;> assumption
theorem mem_swap1 {α : Type} {q t a1 a2 a3 a4 a5 a6 a7 a8 a9 : α} (h : q ∈ [a1, a2, a3, a4, a5, a6, a7, a8, a9, t]) : q ∈ [t] ++ [a1, a2, a3, a4, a5, a6, a7, a8, a9] := by
  simp only [List.mem_append, List.mem_cons, List.not_mem_nil, or_false] at h ⊢
  grind
theorem law_5 (w : World) (p : Program) (loose : List Str) (mean : ExcName → Option Value) (mg mb : Str → Option Value) (x0 x1 x2 x3 : Str) (f0 f1 f2 f3 : Nat) (g0 : f0 < 16) (g1 : f1 < 16) (g2 : f2 < 16) (g3 : f3 < 16)
    (n0 : x0.length ≠ 0) (n1 : x1.length ≠ 0) (n2 : x2.length ≠ 0) (n3 : x3.length ≠ 0) (m0' : x0.length ≤ 1000) (m1 : x1.length ≤ 1000) (m2 : x2.length ≤ 1000) (m3 : x3.length ≤ 1000)
    (k0 : ∀ c ∈ x0.cps.toList, c ≠ 34 ∧ c ≠ 92) (k1 : ∀ c ∈ x1.cps.toList, c ≠ 34 ∧ c ≠ 92) (k2 : ∀ c ∈ x2.cps.toList, c ≠ 34 ∧ c ≠ 92) (k3 : ∀ c ∈ x3.cps.toList, c ≠ 34 ∧ c ≠ 92)
    (d01 : x0 ≠ x1) (d02 : x0 ≠ x2) (d03 : x0 ≠ x3) (d12 : x1 ≠ x2) (d13 : x1 ≠ x3) (d23 : x2 ≠ x3)
    (hcp : ∀ f, IsMeet f0 f1 f2 f3 f → CPok ((having (fk f0 f1 f2 f3) f).map (xk x0 x1 x2 x3)))
    (s0 s1 s2 s3 : List Str) (sm0 : Small s0) (sm1 : Small s1) (sm2 : Small s2) (sm3 : Small s3) (hcm : ∀ f, IsMeet f0 f1 f2 f3 f → comm x0 x1 x2 x3 f0 f1 f2 f3 f = abv s0 s1 s2 s3 f0 f1 f2 f3 f)
    (TX : Str) (tt : Tok) (htx : TX.cps.toList = txt1 x0 f0 (txt1 x1 f1 (txt1 x2 f2 (txt1 x3 f3 [])))) (hsz : TX.cps.size < 10000)
    (base g : Heap) (L fa : Addr) (cd : Value) (dR R0 R1 R2 R3 dG : Addr) (oc og oR : Obj) (l0 l1 l2 l3 : List (Str × Tok)) (e0 e1 e2 e3 cR cG : Nat) (u0 u1 u2 u3 : Tok) (m0 : Str → Option Value) (s : Shared) (Q : Flow → Shared → Prop) (E : Value → Shared → Prop)
    (B : Below callerA base [] g) (X : (hd.heap_39 w.params).In g) (T : Top p loose mean mg mb g)
    (F : Fr g L s.heap (fun y => if y = Str.ofString "text" then some (.str TX tt) else m0 y))
    (N : News g L s.heap ((218, tabObj #[]) :: (dR, W.listOf #[.ref R0, .ref R1, .ref R2, .ref R3] cR) :: (R0, W.listOf (strValues l0).toArray e0) :: (R1, W.listOf (strValues l1).toArray e1) :: (R2, W.listOf (strValues l2).toArray e2) :: (R3, W.listOf (strValues l3).toArray e3) :: (dG, W.listOf #[.int (f0 : Int) u0, .int (f1 : Int) u1, .int (f2 : Int) u2, .int (f3 : Int) u3] cG) :: (L + 1 + 1 + 1, oc) :: (L + 1 + 1, og) :: (L + 1, oR) :: []))
    (q0 : l0.map (·.1) = s0) (q1 : l1.map (·.1) = s1) (q2 : l2.map (·.1) = s2) (q3 : l3.map (·.1) = s3)
    (a218 : @LT.lt Nat _ 218 L) (a1 : @LT.lt Nat _ (L + 1 + 1 + 1) dR) (a2 : @LT.lt Nat _ (L + 1 + 1 + 1) R0) (a3 : @LT.lt Nat _ (L + 1 + 1 + 1) R1) (a4 : @LT.lt Nat _ (L + 1 + 1 + 1) R2) (a5 : @LT.lt Nat _ (L + 1 + 1 + 1) R3) (a6 : @LT.lt Nat _ (L + 1 + 1 + 1) dG)
    (c1 : oR.data = .cell (some (.ref dR))) (c2 : og.data = .cell (some (.ref dG))) (vc : Option Value) (c3 : oc.data = .cell vc)
    (hQ : ∀ h' tk' m' news', Fr g L h' m' → News g L h' news' → GrownAt 218 h' → Q (.ret (.bool true)) { s with heap := h', toks := tk' }) :
    LawGoal w L fa cd Q E s (nthP 5).1 (nthP 5).2 := by
  refine' concL ?h ?hb ?_
  case h => exact rfl
  case hb => exact rfl
  unfold LawGoal
  revert X
  k_fill
  intro X
  have hdep : callerA.depth + 1 + 10 * 20 < recursionLimit := by decide +kernel
  have hun : callerA.units + 3 + 100 * 20 < cLine := by decide +kernel
  iterate 13 walk1
  refine' ConF.use (rest := []) (lexer_conR _ ?hr9 w p loose mean mg mb TX tt ?hz9) B F X N T rfl ?hd9 ?hu9 (fun q hq => hq) (fun q hq => nomatch hq) (fun q hq => nomatch hq) ?_
  case hr9 => k_all
  case hz9 => rw [sizeLine_eq]; omega
  case hd9 => omega
  case hu9 => omega
  clear F N
  intro r E1 h1 tk1 F1 N1 out
  obtain ⟨z, lt, vs, n, hz, rfl, rfl, hal, hch⟩ := out
  rw [List.append_nil] at N1
  iterate 2 walk1
  have hS : LexSt w.params z [] (txt1 x0 f0 (txt1 x1 f1 (txt1 x2 f2 (txt1 x3 f3 [])))) (lexLed w.params z #[] 0 1 lt vs.toArray n) := ⟨hz, by rw [← htx, Array.length_toList]; exact hsz, 0, 1, lt, n, vs, rfl, htx ▸ hch⟩
  have hge : ∀ q ∈ lexLed w.params z #[] 0 1 lt vs.toArray n, @LE.le Nat _ z.cc q.1 := lex_ge hz
  have hlo : ∀ q ∈ tabLed z.c ++ ((dR, W.listOf #[.ref R0, .ref R1, .ref R2, .ref R3] cR) :: (R0, W.listOf (strValues l0).toArray e0) :: (R1, W.listOf (strValues l1).toArray e1) :: (R2, W.listOf (strValues l2).toArray e2) :: (R3, W.listOf (strValues l3).toArray e3) :: (dG, W.listOf #[.int (f0 : Int) u0, .int (f1 : Int) u1, .int (f2 : Int) u2, .int (f3 : Int) u3] cG) :: (L + 1 + 1 + 1, oc) :: (L + 1 + 1, og) :: (L + 1, oR) :: []), @LT.lt Nat _ q.1 z.cc := fun q hq => by
    rcases List.mem_append.mp hq with hq | hq
    · rw [List.mem_singleton.mp hq]; exact hz.1
    · exact allLt_mem hal hq
  refine' ConF.use (rest := tabLed z.c ++ _) (noted_con w p loose mean mg mb z _ x0 x1 x2 x3 f0 f1 f2 f3 hS g0 g1 g2 g3 n0 n1 n2 n3 m0' m1 m2 m3 k0 k1 k2 k3 d01 d02 d03 d12 d13 d23 hcp) B F1 X N1 T rfl ?hd8 ?hu8 (fun q hq => List.mem_append_left _ hq) (fun q hq => List.mem_append_right _ hq) ?hdis ?_
  case hd8 => omega
  case hu8 => omega
  case hdis =>
    intro q hq hm
    obtain ⟨q', hq', e⟩ := List.mem_map.mp hm
    have h1 := hlo q hq
    have h2 := hge q' hq'
    rw [e] at h2
    omega
  clear N1 F1
  intro r E1 h2 tk2 F2 N2 out
  obtain ⟨dN, oN, Nt, kvs, E2, rfl, rfl, hS2, loN, hP, hV, hN⟩ := out
  have N3 : News g L h2 ((dN, oN) :: (dR, W.listOf #[.ref R0, .ref R1, .ref R2, .ref R3] cR) :: (R0, W.listOf (strValues l0).toArray e0) :: (R1, W.listOf (strValues l1).toArray e1) :: (R2, W.listOf (strValues l2).toArray e2) :: (R3, W.listOf (strValues l3).toArray e3) :: (dG, W.listOf #[.int (f0 : Int) u0, .int (f1 : Int) u1, .int (f2 : Int) u2, .int (f3 : Int) u3] cG) :: (L + 1 + 1 + 1, oc) :: (L + 1 + 1, og) :: (L + 1, oR) :: (218, tabObj (#[] ++ #[rawInt 206, rawInt 4, Value.ref z.c])) :: []) := fun q hq => N2 q (by
    rcases List.mem_cons.mp hq with rfl | hq
    · exact .head _
    · exact List.mem_append_right _ (mem_swap1 hq))
  have a0 : @LT.lt Nat _ dN (L + 1 + 1 + 1) ∨ @LT.lt Nat _ (L + 1 + 1 + 1) dN := by
    rcases Nat.lt_trichotomy dN (L + 1 + 1 + 1) with h | h | h
    · exact .inl h
    · exfalso
      have h1 := (N3 (dN, oN) (.head _)).1
      have h2 := (N3 (L + 1 + 1 + 1, oc) (by k_mem)).1
      dsimp only at h1 h2
      rw [h] at h1
      have h3 : oN = oc := Option.some.inj (h1.symm.trans h2)
      obtain ⟨es, ep, _, hd1, _⟩ := hN
      rw [h3, c3] at hd1
      exact nomatch hd1
    · exact .inr h
  clear N2 hlo hge hal hS hch
  iterate 1 walk1
  (rename Fr _ _ _ _ => kF9)
  (rename News _ _ _ _ => kN9)
  show LawGoal w L fa cd _ _ _ (nthP 6).1 (nthP 6).2
  refine law_end w p loose mean mg mb f0 f1 f2 f3 g0 g1 g2 g3 s0 s1 s2 s3 sm0 sm1 sm2 sm3 (comm x0 x1 x2 x3 f0 f1 f2 f3) hcm base g L fa cd dN dR R0 R1 R2 R3 dG oN oc og oR _ l0 l1 l2 l3 e0 e1 e2 e3 cR cG u0 u1 u2 u3 (fun y => if y = Str.ofString "text" then some (.str TX tt) else m0 y) _ _ _ B X T kF9 kN9 q0 q1 q2 q3 Nt kvs hP hV hN loN a218 a0 a1 a2 a3 a4 a5 a6 c1 c2 vc c3 fun h' tk' m' news' F' N' => hQ h' tk' m' news' F' N'
end
section
open PyProof.Rows.LCg
theorem rulesLcMore2 : True := by
  k_with_none
  k_with "k_ne" => (refine neN ?_; (try dsimp only); first | exact Nat.ne_of_lt (by with_reducible assumption) | exact Nat.ne_of_gt (by with_reducible assumption) | with_reducible assumption | exact neL_up (by with_reducible assumption) | with_reducible exact neL_13 | with_reducible exact neL_23 | with_reducible exact neL_12 | with_reducible exact neL_31 | with_reducible exact neL_32 | with_reducible exact neL_21 | exact Nat.ne_of_gt (by walk_at "pick") | exact Nat.ne_of_lt (by walk_at "pick") | omega)
  k_with "pick" => first | with_reducible assumption | with_reducible exact j1 (by assumption) | with_reducible exact j2 (by assumption) | with_reducible exact j3 (by assumption) | with_reducible exact j4 (by assumption) | with_reducible exact j5 (by assumption) | with_reducible exact j6 (by assumption) | with_reducible exact j7 (by assumption) | with_reducible exact j8 (by assumption) | with_reducible exact j9 (by assumption) | with_reducible exact j10 (by assumption) | with_reducible exact j11 (by assumption) | with_reducible exact j12 (by assumption) | with_reducible exact j13 (by assumption) | with_reducible exact j14 (by assumption) | with_reducible exact j15 (by assumption)
  k_with "om" => first | walk_at "pick" | with_reducible exact Nat.lt_trans (by assumption) (by walk_at "pick")
  k_with "k_mem" => first | exact List.Mem.head _ | assumption | exact List.mem_append_left _ (by assumption) | exact List.mem_append_right _ (by assumption) | (refine' List.Mem.tail _ ?_; k_extra "k_mem")
  k_with "room" => first | exact rm1 (by assumption) (by decide) | exact rm2 (by assumption) (by decide) | exact rm0 (by assumption) | exact rm3 (by assumption) (by decide) | ktr_room
  k_with "units" => first | exact rm1 (by assumption) (by decide) | exact rm2 (by assumption) (by decide) | exact rm0 (by assumption) | exact rm3 (by assumption) (by decide) | ktr_units
  k_with "lt" => try ((rename ∀ p ∈ (_ : List (Addr × Obj)), @LT.lt Nat _ p.1 _ => q9l9); k_lt q9l9; revert q9l9; intro _)
  k_with "dn" => try dsimp only [List.cons_append, List.nil_append] at ‹News _ _ _ _›
  k_with "dd" => try dsimp only [List.cons_append, List.nil_append] at ‹Obj.IsDictOf _ _ _›
  k_with "ds" => try dsimp only [List.cons_append, List.nil_append] at ‹LexSt _ _ _ _ _›
  exact True.intro
section
variable {prog : Program} {w : World} {A : Around} {E : Value → Shared → Prop} {s : Shared} {g : Heap} {L : Addr} {m : Str → Option Value} {news : Led}
theorem zip_lists_N {l1 l2 : Addr} {xs ys : Array Value} {c1 c2 : Nat} {Q : Value → Shared → Prop} (F : Fr g L s.heap m) (N : News g L s.heap news) (h1 : (l1, W.listOf xs c1) ∈ news) (h2 : (l2, W.listOf ys c2) ∈ news)
    (h : ∀ z TI TO i1 i2 h', ZO z TI TO i1 i2 → Fr g L h' m → News g L h' ([(z, zipObj TI TO), (TI, pairObj (.ref i1) (.ref i2)), (TO, pairObj .none .none), (i1, liObj l1 0), (i2, liObj l2 0)] ++ news) → (∀ p ∈ news, @LT.lt Nat _ p.1 i1) → Q (.ref z) { s with heap := h' }) :
    wpAny (model prog w) A (call (.type "zip") [.ref l1, .ref l2]) Q E s := by
  refine callType_new PySem.F.called_zip (by decide) (PySem.F.typeCall_zip_2 _ _) (PySem.F.newCall_zip_2 _ _) (fun obj => PySem.F.args_object_init_3 obj _ _) PySem.F.entry_zip_new (meets_zip_new l1 l2 xs ys) ⟨News.isList N h1, News.isList N h2, ?_⟩
  unfold zipH5 zipH4 zipH3 zipH2 zipH1
  have N1 := N.push F (liObj l1 0) rfl
  have F1 := F.push (liObj l1 0)
  have z1 : (s.heap.push (liObj l1 0)).objs.size = s.heap.objs.size + 1 := Heap.size_push ..
  generalize s.heap.push (liObj l1 0) = H1 at *
  have N2 := N1.push F1 (liObj l2 0) rfl
  have F2 := F1.push (liObj l2 0)
  have z2 : (H1.push (liObj l2 0)).objs.size = s.heap.objs.size + 2 := by rw [Heap.size_push, z1]
  generalize H1.push (liObj l2 0) = H2 at *
  have N3 := N2.push F2 (pairObj (.ref s.heap.objs.size) (.ref H1.objs.size)) rfl
  have F3 := F2.push (pairObj (.ref s.heap.objs.size) (.ref H1.objs.size))
  have z3 : (H2.push (pairObj (.ref s.heap.objs.size) (.ref H1.objs.size))).objs.size = s.heap.objs.size + 3 := by rw [Heap.size_push, z2]
  generalize H2.push (pairObj (.ref s.heap.objs.size) (.ref H1.objs.size)) = H3 at *
  have N4 := N3.push F3 (pairObj .none .none) rfl
  have F4 := F3.push (pairObj .none .none)
  have z4 : (H3.push (pairObj .none .none)).objs.size = s.heap.objs.size + 4 := by rw [Heap.size_push, z3]
  generalize H3.push (pairObj .none .none) = H4 at *
  have N5 := N4.push F4 (zipObj H2.objs.size H3.objs.size) rfl
  have F5 := F4.push (zipObj H2.objs.size H3.objs.size)
  refine ⟨⟨_, (N5 _ (.head _)).1, rfl⟩, h H4.objs.size H2.objs.size H3.objs.size s.heap.objs.size H1.objs.size _ ⟨by omega, by omega, by omega, by omega⟩ F5 (fun p hp => N5 p ?_) fun p hp => Heap.lt_size (N p hp).1⟩
  simp only [List.mem_append, List.mem_cons, List.not_mem_nil, or_false] at hp ⊢
  grind
end
section
variable {prog : Program} {w : World} {A : Around} {s : Shared} {iter elt : Expr} {ifs : List Expr} {scope : Scope} {pos px : Pos} {env : Env} {g : Heap} {L : Addr} {m : Str → Option Value} {cl : List (Str × Addr)} {Q : Value → Shared → Prop} {news : Led} {p : Nat → Bool} {G : Nat → Value → Led → Prop}
  {z TI TO i1 i2 e it l l1 l2 : Addr} {a b : Str} {pa pb tp : Pos} {kk : Nat} {xs ys items : Array Value} {c c1 c2 : Nat}
theorem LcGo_zl (hn : xs.size ≤ sizeLine) (hh : A.handled = none) (O : ZO z TI TO i1 i2) (hxy : xs.size = ys.size) (F : Fr g L s.heap m) (N : News g L s.heap ([(z, zipObj TI TO), (TI, pairObj (.ref i1) (.ref i2)), (TO, pairObj .none .none), (i1, liObj l1 0), (i2, liObj l2 0)] ++ news)) (hI : ∀ q ∈ news, @LT.lt Nat _ q.1 i1) (h1 : (l1, W.listOf xs c1) ∈ news) (h2 : (l2, W.listOf ys c2) ∈ news) (hk : scope.kind = .function) (hxa : scope.names.lookup a = some .local) (hxb : scope.names.lookup b = some .local) (hab : ¬ a = b)
    (helt : ∀ C i (s : Shared) oC m₁ (X : Led) (Kt : Value → Shared → Prop) (Ks : Shared → Prop), i < xs.size → Fr g L s.heap m → News g L s.heap ((C, oC) :: (news ++ X)) → NsObj oC m₁ → (∃ x y, xs[i]? = some x ∧ ys[i]? = some y ∧ m₁ a = some x ∧ m₁ b = some y) → (∀ q ∈ news ++ X, q.1 ≠ C) →
      (p i = true → ∀ y mk h' tk', G i y mk → (∀ q ∈ mk, ∀ r ∈ (C, oC) :: (news ++ X), @LT.lt Nat _ r.1 q.1) → Fr g L h' m → News g L h' ((C, oC) :: (news ++ (mk ++ X))) → Kt y { s with heap := h', toks := tk' }) →
      (p i = false → ∀ h' tk', Fr g L h' m → News g L h' ((C, oC) :: (news ++ X)) → Ks { s with heap := h', toks := tk' }) →
      wpAny (model prog w) A (compTest ifs (compEnvC scope cl C env)) (fun ok s₄ => if ok = true then wpAny (model prog w) A (eval elt (compEnvC scope cl C env)) Kt NoE s₄ else Ks s₄) NoE s)
    (hQ : ∀ D ys made c h' tk', Res p G xs.size ys made → (∀ q ∈ news, @LT.lt Nat _ q.1 D) → (∀ q ∈ made, @LT.lt Nat _ D q.1) → Fr g L h' m → News g L h' ((D, W.listOf ys.toArray c) :: (news ++ made)) → Q (.ref D) { s with heap := h', toks := tk' }) :
    LcGo prog w A g L m env elt (.Tuple [.Name a pa, .Name b pb] kk tp) iter ifs scope cl pos Q (.ref z) s := by
  obtain ⟨o1, o2, o3, o4⟩ := id O
  have b1 := hI _ h1
  have b2 := hI _ h2
  dsimp only at b1 b2
  have D : ZipApart z TI TO i1 i2 l1 l2 := by
    constructor <;> (first | exact Nat.ne_of_lt (by omega) | exact Nat.ne_of_gt (by omega))
  have e3 : min xs.size ys.size = xs.size := by rw [hxy]; exact Nat.min_self _
  have Wk := WalksT.zip2 (prog := prog) (w := w) (A := A) hh z TI TO i1 i2 l1 l2 D xs ys
  rw [e3] at Wk
  refine LcGo_use (J := [(z, zipObj TI TO), (TI, pairObj (.ref i1) (.ref i2)), (TO, pairObj .none .none), (i1, liObj l1 0), (i2, liObj l2 0), (l1, W.listOf xs c1), (l2, W.listOf ys c2)]) (ia := [z, TO, i1, i2]) (Its := fun i J => CellsP [z, TI, TO, i1, i2, l1, l2] (fun h => IsZip h z TI TO .none ∧ IsPair h TI (.ref i1) (.ref i2) ∧ (∃ a b, IsPair h TO a b) ∧ h.IsListIter i1 l1 i ∧ h.IsListIter i2 l2 i ∧ h.IsList l1 xs ∧ h.IsList l2 ys) J)
    (Bound := fun i m₁ => ∃ x y, (∃ x' y', xs[i]? = some x' ∧ ys[i]? = some y' ∧ #[x, y] = #[x', y']) ∧ m₁ a = some x ∧ m₁ b = some y) hn F N ⟨rfl, fun h hp => ⟨hp _ (.head _), hp _ (.tail _ (.head _)), ⟨_, _, hp _ (.tail _ (.tail _ (.head _)))⟩, ⟨_, hp _ (.tail _ (.tail _ (.tail _ (.head _)))), rfl, rfl⟩, ⟨_, hp _ (.tail _ (.tail _ (.tail _ (.tail _ (.head _))))), rfl, rfl⟩, ⟨_, hp _ (.tail _ (.tail _ (.tail _ (.tail _ (.tail _ (.head _)))))), rfl, _, rfl⟩, ⟨_, hp _ (.tail _ (.tail _ (.tail _ (.tail _ (.tail _ (.tail _ (.head _))))))), rfl, _, rfl⟩⟩⟩
    (fun q hq => ?_) (fun q hq => List.mem_append_right _ hq) (fun q hq hm => ?_)
    (fun C => ci_walksT hh Wk (fun i h st b hb => ?_) (fun i vals h => ?_) hk hxa hxb hab) (fun C i s oC m₁ X Kt Ks hi F N hO hB hC hT hF => helt C i s oC m₁ X Kt Ks hi F N hO (by
      obtain ⟨x, y, ⟨c, e, h1, h2, h3⟩, hm, hm2⟩ := hB
      simp at h3
      obtain ⟨rfl, rfl⟩ := h3
      exact ⟨_, _, h1, h2, hm, hm2⟩) hC hT hF) hQ
  · simp only [List.mem_cons, List.not_mem_nil, or_false, List.mem_append] at hq ⊢
    rcases hq with h | h | h | h | h | rfl | rfl
    · exact .inl (.inl h)
    · exact .inl (.inr (.inl h))
    · exact .inl (.inr (.inr (.inl h)))
    · exact .inl (.inr (.inr (.inr (.inl h))))
    · exact .inl (.inr (.inr (.inr (.inr h))))
    · exact .inr h1
    · exact .inr h2
  · have h := hI q hq
    simp only [List.mem_cons, List.not_mem_nil, or_false] at hm
    rcases hm with e | e | e | e <;> rw [e] at h <;> omega
  · obtain ⟨a1, a2, ⟨_, _, a3⟩, ⟨p1, a4, _⟩, ⟨p2, a5, _⟩, ⟨p3, a6, _⟩, ⟨p4, a7, _⟩⟩ := st
    simp only [List.mem_cons, List.not_mem_nil, or_false] at hb
    rcases hb with rfl | rfl | rfl | rfl | rfl | rfl | rfl
    · exact ⟨_, a1⟩
    · exact ⟨_, a2⟩
    · exact ⟨_, a3⟩
    · exact ⟨_, a4⟩
    · exact ⟨_, a5⟩
    · exact ⟨_, a6⟩
    · exact ⟨_, a7⟩
  · obtain ⟨c, e, _, _, rfl⟩ := h
    exact ⟨_, _, rfl⟩
theorem LcGo_ens (hn : items.size ≤ sizeLine) (hh : A.handled = none) (O : @LT.lt Nat _ it e) (F : Fr g L s.heap m) (N : News g L s.heap ((e, enRec it ((0 : Nat) : Int) .none) :: (it, liObj l 0) :: news)) (hI : ∀ q ∈ news, @LT.lt Nat _ q.1 it) (h1 : (l, W.listOf items c) ∈ news) (hk : scope.kind = .function) (hxa : scope.names.lookup a = some .local) (hxb : scope.names.lookup b = some .local) (hab : ¬ a = b)
    (helt : ∀ C i (s : Shared) oC m₁ (X : Led) (Kt : Value → Shared → Prop) (Ks : Shared → Prop), i < items.size → Fr g L s.heap m → News g L s.heap ((C, oC) :: (news ++ X)) → NsObj oC m₁ → (∃ t y, items[i]? = some y ∧ m₁ a = some (.int (i : Nat) t) ∧ m₁ b = some y) → (∀ q ∈ news ++ X, q.1 ≠ C) →
      (p i = true → ∀ y mk h' tk', G i y mk → (∀ q ∈ mk, ∀ r ∈ (C, oC) :: (news ++ X), @LT.lt Nat _ r.1 q.1) → Fr g L h' m → News g L h' ((C, oC) :: (news ++ (mk ++ X))) → Kt y { s with heap := h', toks := tk' }) →
      (p i = false → ∀ h' tk', Fr g L h' m → News g L h' ((C, oC) :: (news ++ X)) → Ks { s with heap := h', toks := tk' }) →
      wpAny (model prog w) A (compTest ifs (compEnvC scope cl C env)) (fun ok s₄ => if ok = true then wpAny (model prog w) A (eval elt (compEnvC scope cl C env)) Kt NoE s₄ else Ks s₄) NoE s)
    (hQ : ∀ D ys made c h' tk', Res p G items.size ys made → (∀ q ∈ news, @LT.lt Nat _ q.1 D) → (∀ q ∈ made, @LT.lt Nat _ D q.1) → Fr g L h' m → News g L h' ((D, W.listOf ys.toArray c) :: (news ++ made)) → Q (.ref D) { s with heap := h', toks := tk' }) :
    LcGo prog w A g L m env elt (.Tuple [.Name a pa, .Name b pb] kk tp) iter ifs scope cl pos Q (.ref e) s := by
  have b1 := hI _ h1
  dsimp only at b1
  have Wk := WalksT.enumerate (prog := prog) (w := w) (A := A) hh e it l (Nat.ne_of_gt O) (Nat.ne_of_lt (by omega)) (Nat.ne_of_lt b1) items
  refine LcGo_use (J := [(e, enRec it ((0 : Nat) : Int) .none), (it, liObj l 0), (l, W.listOf items c)]) (ia := [e, it]) (Its := fun i J => CellsP [e, it, l] (fun h => (∃ old, IsEnum h e it i old) ∧ h.IsListIter it l i ∧ h.IsList l items) J)
    (Bound := fun i m₁ => ∃ x y, (∃ t x', items[i]? = some x' ∧ #[x, y] = #[.int i t, x']) ∧ m₁ a = some x ∧ m₁ b = some y) hn F N ⟨rfl, fun h hp => ⟨⟨_, hp _ (.head _)⟩, ⟨_, hp _ (.tail _ (.head _)), rfl, rfl⟩, ⟨_, hp _ (.tail _ (.tail _ (.head _))), rfl, _, rfl⟩⟩⟩
    (fun q hq => ?_) (fun q hq => .tail _ (.tail _ hq)) (fun q hq hm => ?_)
    (fun C => ci_walksT hh Wk (fun i h st b hb => ?_) (fun i vals h => ?_) hk hxa hxb hab) (fun C i s oC m₁ X Kt Ks hi F N hO hB hC hT hF => helt C i s oC m₁ X Kt Ks hi F N hO (by
      obtain ⟨x, y, ⟨t, e, h1, h3⟩, hm, hm2⟩ := hB
      simp at h3
      obtain ⟨rfl, rfl⟩ := h3
      exact ⟨_, _, h1, hm, hm2⟩) hC hT hF) hQ
  · simp only [List.mem_cons, List.not_mem_nil, or_false] at hq ⊢
    rcases hq with h | h | rfl
    · exact .inl h
    · exact .inr (.inl h)
    · exact .inr (.inr h1)
  · have h := hI q hq
    simp only [List.mem_cons, List.not_mem_nil, or_false] at hm
    rcases hm with e | e <;> rw [e] at h <;> omega
  · obtain ⟨⟨_, a1⟩, ⟨p1, a4, _⟩, ⟨p3, a6, _⟩⟩ := st
    simp only [List.mem_cons, List.not_mem_nil, or_false] at hb
    rcases hb with rfl | rfl | rfl
    · exact ⟨_, a1⟩
    · exact ⟨_, a4⟩
    · exact ⟨_, a6⟩
  · obtain ⟨c, e, _, rfl⟩ := h
    exact ⟨_, _, rfl⟩
end
end
section
theorem rulesMode3 : True := by
  k_with_none
  k_with "k_ne" => (refine neN ?_; (try dsimp only); first | exact Nat.ne_of_lt (by with_reducible assumption) | exact Nat.ne_of_gt (by with_reducible assumption) | with_reducible assumption | exact neL_up (by with_reducible assumption) | with_reducible exact neL_13 | with_reducible exact neL_23 | with_reducible exact neL_12 | with_reducible exact neL_31 | with_reducible exact neL_32 | with_reducible exact neL_21 | exact Nat.ne_of_gt (by walk_at "pick") | exact Nat.ne_of_lt (by walk_at "pick") | omega)
  k_with "pick" => first | with_reducible assumption | with_reducible exact j1 (by assumption) | with_reducible exact j2 (by assumption) | with_reducible exact j3 (by assumption) | with_reducible exact j4 (by assumption) | with_reducible exact j5 (by assumption) | with_reducible exact j6 (by assumption) | with_reducible exact j7 (by assumption) | with_reducible exact j8 (by assumption) | with_reducible exact j9 (by assumption) | with_reducible exact j10 (by assumption) | with_reducible exact j11 (by assumption) | with_reducible exact j12 (by assumption) | with_reducible exact j13 (by assumption) | with_reducible exact j14 (by assumption) | with_reducible exact j15 (by assumption)
  k_with "om" => first | walk_at "pick" | with_reducible exact Nat.lt_trans (by assumption) (by walk_at "pick")
  k_with "k_mem" => first | exact List.Mem.head _ | assumption | exact List.mem_append_left _ (by assumption) | exact List.mem_append_right _ (by assumption) | (refine' List.Mem.tail _ ?_; k_extra "k_mem")
  k_with "room" => first | exact rm1 (by assumption) (by decide) | exact rm2 (by assumption) (by decide) | exact rm0 (by assumption) | exact rm3 (by assumption) (by decide) | ktr_room
  k_with "units" => first | exact rm1 (by assumption) (by decide) | exact rm2 (by assumption) (by decide) | exact rm0 (by assumption) | exact rm3 (by assumption) (by decide) | ktr_units
  k_with "lt" => try ((rename ∀ p ∈ (_ : List (Addr × Obj)), @LT.lt Nat _ p.1 _ => q9l9); k_lt q9l9; revert q9l9; intro _)
  k_with "dn" => try dsimp only [List.cons_append, List.nil_append] at ‹News _ _ _ _›
  k_with "dd" => try dsimp only [List.cons_append, List.nil_append] at ‹Obj.IsDictOf _ _ _›
  k_with "ds" => try dsimp only [List.cons_append, List.nil_append] at ‹LexSt _ _ _ _ _›
  k_with "end 0" => (intro q9g' q9L' q9h' q9off' q9FG' q9F' q9N' q9B' q9X' q9T' q9l0'; (try k_lt q9l0'); (try dsimp only); (try k_lift q9B'); (try k_fold))
  k_with "end 1" => (intro q9g' q9L' q9h' q9tk' q9cells' q9off' q9FG' q9F' q9N' q9Y' q9B' q9X' q9T' q9l0'; (try k_lt q9l0'); k_cells q9Y'; (try dsimp only [List.cons_append, List.nil_append] at q9N'); (try dsimp only); (try k_lift q9B'); (try k_fold))
  k_with "enterF" => (k_dflt (refine' enterF (by k_asm) (by k_asm) (by k_asm) (by k_asm) (by k_asm) (by exact rfl) (by exact rfl) (by assumption) (by k_is) (by k_is) (by walk_at "room") (by first | exact BindsTo.of_eq rfl | exact binds_K (by k_in) rfl (by k_is) rfl rfl rfl) (by exact locs rfl) ?_ (by exact rfl) (by exact rfl) (by exact rfl) (by decide); k_whole; walk_at "end 0"))
  k_with "enterFC" => (k_dflt (refine' enterFC (by k_asm) (by k_asm) (by k_asm) (by k_asm) (by k_asm) (by exact rfl) (by exact rfl) (by assumption) (by k_is) (by k_is) (by walk_at "room") (by first | exact BindsTo.of_eq rfl | exact binds_K (by k_in) rfl (by k_is) rfl rfl rfl) (by exact rfl) (by decide +kernel) ?_ (by exact rfl) (by exact rfl) (by exact rfl); k_whole; walk_at "end 1"))
  k_with "k_del" => first | (refine' Del.head (by k_all)) | (refine' Del.tail (by k_ne) (by walk_at "k_del"))
  k_with "eval ListComp" => (k_here; k_dflt (refine lc_enter (by k_asm) (by with_unfolding_all rfl) (by decide) (by rfl) (by decide) ?_ (by intro _; rfl)))
  k_with "k_all" => first | exact List.forall_mem_nil _ | exact LexSt.ne (by assumption) (by omega) | exact allNe_of (by assumption) | exact allNe_le (by assumption) (by omega) | exact allNe_gt (by assumption) | exact List.forall_mem_cons.mpr ⟨by k_ne, by k_extra "k_all"⟩
  k_with "binaryOp RShift int int" => (k_here; k_dflt (refine shr_nat ?_); intros)
  k_with "binaryOp BitAnd int int" => (k_here; k_dflt (first | (with_reducible refine and_one ?_) | (with_reducible refine and_nat ?_)); intros)
  k_with "truthy int" => (k_here; k_dflt (refine truthy_bit ?_); intros)
  k_with "loadName" => (k_here; k_dflt (refine' loadX_C (by k_asm) (by exact rfl) (by k_mem) (by assumption) ?_ (by exact rfl) (by exact rfl); k_whole))
  k_with "call type:enumerate" => (k_here; k_dflt (refine' enum_list_N (by k_asm) (by k_asm) (by exact News.isList (by k_asm) (by k_mem)) ?_; k_whole); intros; walk_at "lt"; (try k_sweep))
  k_with "call builtin:sum" => (k_here; (with_reducible show wpAny _ _ (call (Value.builtin "sum") [Value.ref _]) _ _ _); k_dflt (refine' LSm.sum_ints (by k_asm) (by k_asm) (by rfl) (by exact News.isList (by k_asm) (by k_mem)) (by assumption) ?_; k_whole; intros; (try k_sweep)))
  exact True.intro
noncomputable def rights (t0 t1 t2 t3 : Tok) : Array Value := #[.int 256 t0, .int 128 t1, .int 32 t2, .int 2 t3]
noncomputable def rightN (i : Nat) : Int := [(256 : Int), 128, 32, 2].getD i 0
theorem ints_map {v : Nat → Value} {n : Nat → Int} : ∀ l : List Nat, (∀ i ∈ l, ∃ t, v i = .int (n i) t) → IntsAre (l.map v) (l.map n)
  | [], _ => .nil
  | i :: l, h => by
    obtain ⟨t, e⟩ := h i (.head _)
    rw [List.map_cons, List.map_cons, e]
    exact .cons _ _ (ints_map l fun j hj => h j (.tail _ hj))
theorem ints_rights (t0 t1 t2 t3 : Tok) (p : Nat → Bool) : IntsAre (((List.range 4).filter p).map fun i => (rights t0 t1 t2 t3).toList.getD i .none) (((List.range 4).filter p).map rightN) := by
  refine ints_map _ fun i hi => ?_
  have h4 := List.mem_range.mp (List.mem_filter.mp hi).1
  rcases i with _ | _ | _ | _ | i
  · exact ⟨t0, rfl⟩
  · exact ⟨t1, rfl⟩
  · exact ⟨t2, rfl⟩
  · exact ⟨t3, rfl⟩
  · omega
theorem mode_sum {f : Nat} (hf : f < 16) : (32768 : Int) + (((List.range 4).filter fun i => f.testBit i).map rightN).sum = modeOf f := by
  have key : ∀ f : _root_.Fin 16, (32768 : Int) + (((List.range 4).filter fun i => f.val.testBit i).map rightN).sum = modeOf f.val := by decide +kernel
  exact key ⟨f, hf⟩
theorem mode_con (w : World) (p : Program) (loose : List Str) (mean : ExcName → Option Value) (mg mb : Str → Option Value) {f : Nat} (hf : f < 16) (tf : Tok) :
   ConF PySem.Challenge.rw_un0041_01.row.prog w (hd.heap_39 w.params) p loose mean mg mb 5 228 [.int (f : Int) tf] [] 
    (fun r E1 => E1 = [] ∧ ∃ t, r = .int (modeOf f) t) := by
  k_fill
  intro dp un gd cn cs a ccd cl outer A₀ base h₀ L m s R B F X N T hk hd hu ret
  walk_at "enterFC"
  iterate 26 walk1
  rename_i o9 d9 l9 h9a lt9a e9 it9 h9 F9 N9 O9 lt9
  obtain ⟨t0, t1, t2, t3, N9⟩ : ∃ t0 t1 t2 t3, News _ _ _ ((e9, enRec it9 ((0 : Nat) : Int) .none) :: (it9, liObj l9 0) :: (l9, W.listOf (rights t0 t1 t2 t3) 0) :: _) := ⟨_, _, _, _, N9⟩
  refine wpAny_pyIter_enum (N9 _ (.head _)).1 ?_
  refine LcGo_ens (items := rights t0 t1 t2 t3) (p := fun i => f.testBit i) (G := fun i y mk => mk = [] ∧ y = (rights t0 t1 t2 t3).toList.getD i .none) ?hn1 rfl O9 F9 N9 ?hI1 (.head _) rfl rfl rfl (by decide) ?he1 ?hq1
  case hn1 => rw [sizeLine_eq]; exact Nat.le_of_ble_eq_true rfl
  case hI1 =>
    intro q hq
    simp only [List.mem_cons, List.not_mem_nil, or_false] at hq
    rcases hq with rfl | rfl <;> (dsimp only; omega)
  case he1 =>
    clear F9 N9 lt9 O9
    intro C i s1 oC m₁ X' Kt Ks hi F2 N2 hO hB hC hT hF9
    obtain ⟨tk9, v, hv, hm1, hm2⟩ := hB
    dsimp only [List.cons_append, List.nil_append] at N2
    have hi4 : i < 4 := hi
    obtain rfl : v = (rights t0 t1 t2 t3).toList.getD i .none := by
      rcases i with _ | _ | _ | _ | i
      · cases hv; rfl
      · cases hv; rfl
      · cases hv; rfl
      · cases hv; rfl
      · omega
    iterate 10 walk1
    cases hb : f.testBit i
    · iterate 1 walk1
      (rename Fr _ _ _ _ => kF9)
      (rename News _ _ _ _ => kN9)
      exact hF9 hb _ _ kF9 kN9
    · iterate 2 walk1
      (rename Fr _ _ _ _ => kF9)
      (rename News _ _ _ _ => kN9)
      exact hT hb _ [] _ _ ⟨rfl, rfl⟩ (by simp) kF9 kN9
  case hq1 =>
    clear F9 N9
    intro D ys made c8 h8 tk8 hR hlt hmade F2 N2
    obtain ⟨rfl, rfl⟩ := hR.vals
    have hi9 := ints_rights t0 t1 t2 t3 fun i => f.testBit i
    simp only [List.append_nil] at N2
    iterate 3 walk1
    k_steps
    exact ret _ [] _ _ (by k_asm) (fun p hp => nomatch hp) (Off.trans (by assumption) (Fr.keep (by k_asm))) ⟨rfl, _, congrArg (Value.int · _) (mode_sum hf)⟩
end
section
theorem rulesLaw4 : True := by
  k_with_none
  k_with "k_ne" => (refine neN ?_; (try dsimp only); first | exact Nat.ne_of_lt (by with_reducible assumption) | exact Nat.ne_of_gt (by with_reducible assumption) | with_reducible assumption | exact neL_up (by with_reducible assumption) | with_reducible exact neL_13 | with_reducible exact neL_23 | with_reducible exact neL_12 | with_reducible exact neL_31 | with_reducible exact neL_32 | with_reducible exact neL_21 | exact Nat.ne_of_gt (by walk_at "pick") | exact Nat.ne_of_lt (by walk_at "pick") | omega)
  k_with "pick" => first | with_reducible assumption | with_reducible exact j1 (by assumption) | with_reducible exact j2 (by assumption) | with_reducible exact j3 (by assumption) | with_reducible exact j4 (by assumption) | with_reducible exact j5 (by assumption) | with_reducible exact j6 (by assumption) | with_reducible exact j7 (by assumption) | with_reducible exact j8 (by assumption) | with_reducible exact j9 (by assumption) | with_reducible exact j10 (by assumption) | with_reducible exact j11 (by assumption) | with_reducible exact j12 (by assumption) | with_reducible exact j13 (by assumption) | with_reducible exact j14 (by assumption) | with_reducible exact j15 (by assumption)
  k_with "om" => first | walk_at "pick" | with_reducible exact Nat.lt_trans (by assumption) (by walk_at "pick")
  k_with "k_mem" => first | exact List.Mem.head _ | assumption | exact List.mem_append_left _ (by assumption) | exact List.mem_append_right _ (by assumption) | (refine' List.Mem.tail _ ?_; k_extra "k_mem")
  k_with "room" => first | exact rm1 (by assumption) (by decide) | exact rm2 (by assumption) (by decide) | exact rm0 (by assumption) | exact rm3 (by assumption) (by decide) | ktr_room
  k_with "units" => first | exact rm1 (by assumption) (by decide) | exact rm2 (by assumption) (by decide) | exact rm0 (by assumption) | exact rm3 (by assumption) (by decide) | ktr_units
  k_with "lt" => try ((rename ∀ p ∈ (_ : List (Addr × Obj)), @LT.lt Nat _ p.1 _ => q9l9); k_lt q9l9; revert q9l9; intro _)
  k_with "dn" => try dsimp only [List.cons_append, List.nil_append] at ‹News _ _ _ _›
  k_with "dd" => try dsimp only [List.cons_append, List.nil_append] at ‹Obj.IsDictOf _ _ _›
  k_with "ds" => try dsimp only [List.cons_append, List.nil_append] at ‹LexSt _ _ _ _ _›
  k_with "end 0" => (intro q9g' q9L' q9h' q9off' q9FG' q9F' q9N' q9B' q9X' q9T' q9l0'; (try k_lt q9l0'); (try dsimp only); (try k_lift q9B'); (try k_fold))
  k_with "end 1" => (intro q9g' q9L' q9h' q9tk' q9cells' q9off' q9FG' q9F' q9N' q9Y' q9B' q9X' q9T' q9l0'; (try k_lt q9l0'); k_cells q9Y'; (try dsimp only [List.cons_append, List.nil_append] at q9N'); (try dsimp only); (try k_lift q9B'); (try k_fold))
  k_with "enterF" => (k_dflt (refine' enterF (by k_asm) (by k_asm) (by k_asm) (by k_asm) (by k_asm) (by exact rfl) (by exact rfl) (by assumption) (by k_is) (by k_is) (by walk_at "room") (by first | exact BindsTo.of_eq rfl | exact binds_K (by k_in) rfl (by k_is) rfl rfl rfl) (by exact locs rfl) ?_ (by exact rfl) (by exact rfl) (by exact rfl) (by decide); k_whole; walk_at "end 0"))
  k_with "enterFC" => (k_dflt (refine' enterFC (by k_asm) (by k_asm) (by k_asm) (by k_asm) (by k_asm) (by exact rfl) (by exact rfl) (by assumption) (by k_is) (by k_is) (by walk_at "room") (by first | exact BindsTo.of_eq rfl | exact binds_K (by k_in) rfl (by k_is) rfl rfl rfl) (by exact rfl) (by decide +kernel) ?_ (by exact rfl) (by exact rfl) (by exact rfl); k_whole; walk_at "end 1"))
  k_with "k_del" => first | (refine' Del.head (by k_all)) | (refine' Del.tail (by k_ne) (by walk_at "k_del"))
  k_with "eval ListComp" => (k_here; k_dflt (refine lc_enter (by k_asm) (by with_unfolding_all rfl) (by decide) (by rfl) (by decide) ?_ (by intro _; rfl)))
  k_with "pyIter ref" => (k_here; k_dflt (first | (refine' pyIter_enum_N (by k_asm) (by k_mem) ?_; k_whole) | (refine' pyIter_tupo_N (by k_asm) (by k_asm) (by k_mem) ?_; k_whole; intros; walk_at "lt"; (try k_sweep)) | (refine' pyIter_list_N (by k_asm) (by k_asm) (by exact News.isList (by k_asm) (by k_mem)) ?_; k_whole; intros; walk_at "lt"; (try k_sweep))))
  k_with "exec Assign cons ListComp" => (k_here; k_dflt (refine' lc_assign (by k_asm) (by rfl) (by with_unfolding_all rfl) (by with_unfolding_all rfl) (by decide) (by rfl) (by decide) (by rfl) (by rfl) ?_ (by intro _; rfl)))
  k_with "k_all" => first | exact List.forall_mem_nil _ | exact LexSt.ne (by assumption) (by omega) | exact allNe_of (by assumption) | exact allNe_le (by assumption) (by omega) | exact allNe_gt (by assumption) | exact List.forall_mem_cons.mpr ⟨by k_ne, by k_extra "k_all"⟩
  k_with "subscriptTail" => (k_here; (with_reducible show wpAny _ _ (subscriptTail _ _ (Value.ref _) (Value.int _ _)) _ _ _); k_dflt (refine' itemL_N (by k_asm) (by k_mem) (by assumption) (by assumption) ?_ (by with_unfolding_all rfl); k_whole))
  k_with "binaryOp Add str str" => (k_here; (with_reducible show wpAny _ _ (binaryOp Operator.Add (Value.str _ _) (Value.str _ _)) _ _ _); k_dflt (refine' PyProof.Rows.add_str ?_ (by assumption); k_whole); intros)
  k_with "k_tail" => first | exact TailE.nil | (apply TailE.cons; walk_at "k_tail")
  k_with "k_allgt" => first | exact List.forall_mem_nil _ | (refine' List.forall_mem_cons.mpr ⟨(by ((try dsimp only); first | with_reducible assumption | omega)), (by walk_at "k_allgt")⟩)
  k_with "k_inE" => first | exact fun _ hq => hq | (refine' fun q hq => List.Mem.tail _ (?_ : ∀ q ∈ _, q ∈ _) q hq)
  k_with "exec While Name cons nil" => (k_here; k_dflt (refine wpAny_While ?_))
  k_with "codeAny" => (k_here; (with_reducible show codeAny _ _ (Code.whileLoop _ _ _ _) _ _); refine while_turn ?_; (try k_fold))
  k_with "truthy str" => (k_here; (first | (refine' truthy_yes (by assumption) (by assumption) ?_) | refine truthy_no ?_); intros)
  k_with "call type:int" => (k_here; (with_reducible show wpAny _ _ (call (Value.type "int") [Value.str _ _, Value.int _ _]) _ _ _); k_dflt (refine call_int8 (by assumption) ?_))
  k_with "setItem ref str" => (k_here; k_dflt (refine' dset_new (by k_asm) (by k_asm) (by k_updF) (by k_asm) (by first | exact vn0 | exact vn1 (by assumption) | exact vn2 (by assumption) (by assumption) | exact vn3 (by assumption) (by assumption) (by assumption)) (by exact Nat.le_of_ble_eq_true (by with_unfolding_all rfl)) ?_); intros; walk_at "dn"; walk_at "dd"; (try k_sweep))
  k_with "subscriptTail" => (k_here; (with_reducible show wpAny _ _ (subscriptTail _ _ (Value.ref _) (Value.str _ _)) _ _ _); k_dflt (refine' dget (by k_asm) (by k_mem) (by k_asm) (by first | assumption | exact vs0 | exact vs1 (by assumption) | exact vs2 (by assumption) (by assumption) | exact vs3 (by assumption) (by assumption) (by assumption)) ?_ (by with_unfolding_all rfl); k_whole); intros)
  k_with "binaryOp Mod str int" => (k_here; (refine mod_o (by assumption) ?_); intros)
  k_with "call ref" => (k_here; k_dflt (show wpAny _ _ (call (Value.ref 103) [_]) _ _ _); k_dflt (first | (refine' ConF.useLS (getPath (by assumption) (by assumption)) (by k_asm) (by k_asm) (by k_asm) (by k_asm) (by k_asm) (by exact rfl) (by (first | with_reducible assumption | omega | walk_at "room")) (by (first | with_reducible assumption | omega | walk_at "units")) (by walk_at "k_tail") (by exact LexSt.le (by assumption)) (by walk_at "k_allgt") ?_; k_whole; intros; walk_at "dn"; (try k_sweep)) | (refine' ConF.useLS (getOct (by assumption) (by assumption)) (by k_asm) (by k_asm) (by k_asm) (by k_asm) (by k_asm) (by exact rfl) (by (first | with_reducible assumption | omega | walk_at "room")) (by (first | with_reducible assumption | omega | walk_at "units")) (by walk_at "k_tail") (by exact LexSt.le (by assumption)) (by walk_at "k_allgt") ?_; k_whole; intros; walk_at "dn"; (try k_sweep)) | (refine' ConF.useLS (getE (by assumption)) (by k_asm) (by k_asm) (by k_asm) (by k_asm) (by k_asm) (by exact rfl) (by (first | with_reducible assumption | omega | walk_at "room")) (by (first | with_reducible assumption | omega | walk_at "units")) (by walk_at "k_tail") (by exact LexSt.le (by assumption)) (by walk_at "k_allgt") ?_; k_whole; intros; walk_at "dn"; (try k_sweep)) | (refine' ConF.useLE (getB (by assumption) (by first | decide | assumption | (simp only [List.length_append, List.length_cons, List.length_nil]; omega))) (by k_asm) (by k_asm) (by k_asm) (by k_asm) (by k_asm) (by exact rfl) (by (first | with_reducible assumption | omega | walk_at "room")) (by (first | with_reducible assumption | omega | walk_at "units")) (by walk_at "k_tail") (by exact LexSt.le (by assumption)) (by walk_at "k_allgt") ?_; k_whole; intros; walk_at "dn"; (try k_sweep))))
  k_with "call ref" => (k_here; k_dflt (show wpAny _ _ (call (Value.ref 110) [_, _]) _ _ _); k_dflt (refine' ConF.useLE (pushT (by assumption) (by first | decide | assumption | (simp only [List.length_append, List.length_cons, List.length_nil]; omega))) (by k_asm) (by k_asm) (by k_asm) (by k_asm) (by k_asm) (by exact rfl) (by (first | with_reducible assumption | omega | walk_at "room")) (by (first | with_reducible assumption | omega | walk_at "units")) (by walk_at "k_tail") (by exact LexSt.le (by assumption)) (by walk_at "k_allgt") ?_; k_whole; intros; walk_at "ds"; walk_at "dn"; (try k_sweep)))
  k_with "call ref" => (k_here; k_dflt (show wpAny _ _ (call (Value.ref 75) [Value.int _ _]) _ _ _); k_dflt (refine' ConF.use0S (fm_con _ _ _ _ _ _ (by assumption) _) (by k_asm) (by k_asm) (by k_asm) (by k_asm) (by k_asm) (by exact rfl) (by (first | with_reducible assumption | omega | walk_at "room")) (by (first | with_reducible assumption | omega | walk_at "units")) ?_; k_whole); intros; (try k_sweep))
  k_with "getMethod ref" => (k_here; k_dflt (first | (refine' lex_get (by assumption) (by k_asm) (by k_asm) (by k_asm) (by intro q hq; repeat (first | exact hq | apply List.Mem.tail)) ?_; k_whole) | (refine' lex_push (by assumption) (by k_asm) (by k_asm) (by k_asm) (by intro q hq; repeat (first | exact hq | apply List.Mem.tail)) ?_; k_whole)))
  k_with "pyIter ref" => (k_here; k_dflt (refine' dk_iter (by k_asm) (by k_asm) (by k_mem) (by assumption) (by assumption) ?_; k_whole); intros; walk_at "lt"; (try k_sweep))
  k_with "codeAny" => (k_here; (with_reducible show codeAny _ _ (Code.forLoop _ _ _ _ _) _ _); refine for_turnK ?_; (try k_fold))
  k_with "pyNext ref" => (k_here; k_dflt (first | (refine' dk_next (by k_asm) (by k_asm) (by k_updF) (by assumption) (by assumption) (by k_mem) (by exact rfl) ?_; k_whole; intros; walk_at "dn"; (try k_sweep)) | (refine' dk_stop (by rfl) (by k_asm) (by k_asm) (by walk_at "k_del") (by k_mem) (by assumption) (by assumption) (by k_mem) (by exact rfl) ?_; k_whole; intros; walk_at "dn"; (try k_sweep))))
  k_with "exec For Name Name cons nil" => (k_here; k_dflt (refine wpAny_For ?_ (by intro _; rfl)))
  k_with "eval DictComp" => (k_here; k_dflt (refine dc_enter (by k_asm) (by with_unfolding_all rfl) (by decide) (by rfl) (by decide) ?_ (by intro _; rfl)))
  k_with "call type:zip" => (k_here; k_dflt (refine' zip_lists_N (by k_asm) (by k_asm) (by k_mem) (by k_mem) ?_))
  k_with "call ref" => (k_here; k_dflt (show wpAny _ _ (call (Value.ref 228) [Value.int _ _]) _ _ _); k_dflt (refine' ConF.use0S (mode_con _ _ _ _ _ _ (by assumption) _) (by k_asm) (by k_asm) (by k_asm) (by k_asm) (by k_asm) (by exact rfl) (by omega) (by omega) ?_; k_whole); intros; (try k_sweep))
  k_with "binaryOp Mod str int" => (k_here; (refine mod_line (by assumption) ?_); intros)
  k_with "call builtin:str.join" => (k_here; (with_reducible show wpAny _ _ (call (Value.builtin "str.join") [Value.str _ _, Value.ref _]) _ _ _); k_dflt (refine' join_Nl (by k_asm) (by k_mem) (by assumption) ?_; k_whole); intros)
  exact True.intro
noncomputable def lineOf (x : Str) (f : Nat) : Str := (Str.ofString "\"" ++ x) ++ (Str.ofString "\" " ++ octOf f ++ Str.ofString "\n")
theorem lineOf_fits {x : Str} {f : Nat} (hx : x.length ≤ 1000) (hf : f < 16) : (Str.ofString "\"").length + x.length ≤ sizeLine ∧ (Str.ofString "\"" ++ x).length + (Str.ofString "\" " ++ octOf f ++ Str.ofString "\n").length ≤ sizeLine := by
  have h1 : (Str.ofString "\"").length = 1 := by decide +kernel
  have h2 : (Str.ofString "\" ").length = 2 := by decide +kernel
  have h3 : (Str.ofString "\n").length = 1 := by decide +kernel
  have h4 := (octOf_len hf).2
  simp only [PySem.Str.length_append]
  rw [sizeLine_eq]
  omega
theorem lineOf_len {x : Str} {f : Nat} (hx : x.length ≤ 1000) (hf : f < 16) : (lineOf x f).length ≤ 2010 := by
  have h1 : (Str.ofString "\"").length = 1 := by decide +kernel
  have h2 : (Str.ofString "\" ").length = 2 := by decide +kernel
  have h3 : (Str.ofString "\n").length = 1 := by decide +kernel
  have h4 := (octOf_len hf).2
  unfold lineOf
  simp only [PySem.Str.length_append]
  omega
theorem line_txt {x : Str} {f : Nat} {rest : List Nat} : (lineOf x f).cps.toList ++ rest = txt1 x f rest := by
  have h1 : (Str.ofString "\"").cps = #[34] := by decide +kernel
  have h2 : (Str.ofString "\" ").cps = #[34, 32] := by decide +kernel
  have h3 : (Str.ofString "\n").cps = #[10] := by decide +kernel
  unfold lineOf txt1 txt2
  simp [PySem.Str.cps_append, h1, h2, h3]
theorem join4 (a b c d : Str) : (Txt.join (Str.ofString "") [a, b, c, d]).cps.toList = a.cps.toList ++ (b.cps.toList ++ (c.cps.toList ++ (d.cps.toList ++ []))) := by
  have h : (Str.ofString "").cps = #[] := by decide +kernel
  have e : (Txt.join (Str.ofString "") [a, b, c, d]).cps = a.cps ++ (Str.ofString "").cps ++ b.cps ++ (Str.ofString "").cps ++ c.cps ++ (Str.ofString "").cps ++ d.cps := rfl
  rw [e, h]
  simp
theorem law_4 (w : World) (p : Program) (loose : List Str) (mean : ExcName → Option Value) (mg mb : Str → Option Value) (x0 x1 x2 x3 : Str) (f0 f1 f2 f3 : Nat) (g0 : f0 < 16) (g1 : f1 < 16) (g2 : f2 < 16) (g3 : f3 < 16)
    (n0 : x0.length ≠ 0) (n1 : x1.length ≠ 0) (n2 : x2.length ≠ 0) (n3 : x3.length ≠ 0) (m0' : x0.length ≤ 1000) (m1 : x1.length ≤ 1000) (m2 : x2.length ≤ 1000) (m3 : x3.length ≤ 1000)
    (k0 : ∀ c ∈ x0.cps.toList, c ≠ 34 ∧ c ≠ 92) (k1 : ∀ c ∈ x1.cps.toList, c ≠ 34 ∧ c ≠ 92) (k2 : ∀ c ∈ x2.cps.toList, c ≠ 34 ∧ c ≠ 92) (k3 : ∀ c ∈ x3.cps.toList, c ≠ 34 ∧ c ≠ 92)
    (d01 : x0 ≠ x1) (d02 : x0 ≠ x2) (d03 : x0 ≠ x3) (d12 : x1 ≠ x2) (d13 : x1 ≠ x3) (d23 : x2 ≠ x3)
    (hcp : ∀ f, IsMeet f0 f1 f2 f3 f → CPok ((having (fk f0 f1 f2 f3) f).map (xk x0 x1 x2 x3)))
    (s0 s1 s2 s3 : List Str) (sm0 : Small s0) (sm1 : Small s1) (sm2 : Small s2) (sm3 : Small s3) (hcm : ∀ f, IsMeet f0 f1 f2 f3 f → comm x0 x1 x2 x3 f0 f1 f2 f3 f = abv s0 s1 s2 s3 f0 f1 f2 f3 f)
    (base g : Heap) (L fa : Addr) (cd : Value) (dP dR R0 R1 R2 R3 dG : Addr) (cP : Nat) (v0 v1 v2 v3 : Tok) (oc og oR : Obj) (l0 l1 l2 l3 : List (Str × Tok)) (e0 e1 e2 e3 cR cG : Nat) (u0 u1 u2 u3 : Tok) (m0 : Str → Option Value) (s : Shared) (Q : Flow → Shared → Prop) (E : Value → Shared → Prop)
    (B : Below callerA base [] g) (X : (hd.heap_39 w.params).In g) (T : Top p loose mean mg mb g)
    (F : Fr g L s.heap (fun y => if y = Str.ofString "paths" then some (.ref dP) else m0 y))
    (N : News g L s.heap ((218, tabObj #[]) :: (dP, W.listOf #[.str x0 v0, .str x1 v1, .str x2 v2, .str x3 v3] cP) :: (dR, W.listOf #[.ref R0, .ref R1, .ref R2, .ref R3] cR) :: (R0, W.listOf (strValues l0).toArray e0) :: (R1, W.listOf (strValues l1).toArray e1) :: (R2, W.listOf (strValues l2).toArray e2) :: (R3, W.listOf (strValues l3).toArray e3) :: (dG, W.listOf #[.int (f0 : Int) u0, .int (f1 : Int) u1, .int (f2 : Int) u2, .int (f3 : Int) u3] cG) :: (L + 1 + 1 + 1, oc) :: (L + 1 + 1, og) :: (L + 1, oR) :: []))
    (q0 : l0.map (·.1) = s0) (q1 : l1.map (·.1) = s1) (q2 : l2.map (·.1) = s2) (q3 : l3.map (·.1) = s3)
    (a218 : @LT.lt Nat _ 218 L) (a1 : @LT.lt Nat _ (L + 1 + 1 + 1) dR) (a2 : @LT.lt Nat _ (L + 1 + 1 + 1) R0) (a3 : @LT.lt Nat _ (L + 1 + 1 + 1) R1) (a4 : @LT.lt Nat _ (L + 1 + 1 + 1) R2) (a5 : @LT.lt Nat _ (L + 1 + 1 + 1) R3) (a6 : @LT.lt Nat _ (L + 1 + 1 + 1) dG)
    (c1 : oR.data = .cell (some (.ref dR))) (c2 : og.data = .cell (some (.ref dG))) (vc : Option Value) (c3 : oc.data = .cell vc)
    (hQ : ∀ h' tk' m' news', Fr g L h' m' → News g L h' news' → GrownAt 218 h' → Q (.ret (.bool true)) { s with heap := h', toks := tk' }) :
    LawGoal w L fa cd Q E s (nthP 4).1 (nthP 4).2 := by
  refine' concL ?h ?hb ?_
  case h => exact rfl
  case hb => exact rfl
  unfold LawGoal
  revert X
  k_fill
  intro X
  have hdep : callerA.depth + 1 + 10 * 20 < recursionLimit := by decide +kernel
  have hun : callerA.units + 3 + 100 * 20 < cLine := by decide +kernel
  iterate 16 walk1
  refine zip_lists_N (xs := #[.str x0 v0, .str x1 v1, .str x2 v2, .str x3 v3]) (ys := #[.int (f0 : Int) u0, .int (f1 : Int) u1, .int (f2 : Int) u2, .int (f3 : Int) u3]) F N (by k_mem) (by k_mem) fun z TI TO i1 i2 h1 O F1 N1 lt1 => ?_
  refine wpAny_pyIter_zip (N1 _ (.head _)).1 ?_
  refine LcGo_zl (xs := #[.str x0 v0, .str x1 v1, .str x2 v2, .str x3 v3]) (ys := #[.int (f0 : Int) u0, .int (f1 : Int) u1, .int (f2 : Int) u2, .int (f3 : Int) u3]) (p := fun _ => true) (G := fun i y mk => mk = [] ∧ ∃ t, y = .str (lineOf (xk x0 x1 x2 x3 i) (fk f0 f1 f2 f3 i)) t) ?hn1 rfl O rfl F1 N1 lt1 (by k_mem) (by k_mem) rfl rfl rfl (by decide) ?he1 ?hq1
  case hn1 => rw [sizeLine_eq]; exact Nat.le_of_ble_eq_true rfl
  case he1 =>
    clear F1 N1 lt1 O
    intro C i s1 oC m₁ X' Kt Ks hi F2 N2 hO hB hC hT hF9
    obtain ⟨x, y, hx, hy, hm1, hm2⟩ := hB
    obtain ⟨⟨vt, rfl⟩, ⟨ut, rfl⟩, hxl, hf⟩ : (∃ t, x = .str (xk x0 x1 x2 x3 i) t) ∧ (∃ t, y = .int ((fk f0 f1 f2 f3 i : Nat) : Int) t) ∧ (xk x0 x1 x2 x3 i).length ≤ 1000 ∧ fk f0 f1 f2 f3 i < 16 := by
      rcases i with _ | _ | _ | _ | i
      · cases hx; cases hy; exact ⟨⟨_, rfl⟩, ⟨_, rfl⟩, m0', g0⟩
      · cases hx; cases hy; exact ⟨⟨_, rfl⟩, ⟨_, rfl⟩, m1, g1⟩
      · cases hx; cases hy; exact ⟨⟨_, rfl⟩, ⟨_, rfl⟩, m2, g2⟩
      · cases hx; cases hy; exact ⟨⟨_, rfl⟩, ⟨_, rfl⟩, m3, g3⟩
      · simp at hi; omega
    dsimp only [List.cons_append, List.nil_append] at N2
    generalize xk x0 x1 x2 x3 i = xi at *
    generalize fk f0 f1 f2 f3 i = fi at *
    obtain ⟨z1, z2⟩ := lineOf_fits hxl hf
    refine wpAny_tests_nil (ite_pos rfl ?_)
    iterate 18 walk1
    (rename Fr _ _ _ _ => kF9)
    (rename News _ _ _ _ => kN9)
    exact hT rfl _ [] _ _ ⟨rfl, _, rfl⟩ (by simp) kF9 kN9
  case hq1 =>
    clear F1 N1 lt1 O
    intro D ys made c9 h9 tk9 hR hlt _ F2 N2
    obtain ⟨rfl, l, rfl, hl⟩ := hR.strsI
    have hl : l.map (·.1) = [lineOf x0 f0, lineOf x1 f1, lineOf x2 f2, lineOf x3 f3] := hl
    have hok : ((l.map (·.1)).map (·.length)).sum + (l.map (·.1)).length * (Str.ofString "").length ≤ 16777216 := by
      rw [hl]
      have h1 := lineOf_len m0' g0
      have h2 := lineOf_len m1 g1
      have h3 := lineOf_len m2 g2
      have h4 := lineOf_len m3 g3
      have h5 : (Str.ofString "").length = 0 := by decide +kernel
      rw [h5]
      simp only [List.map_cons, List.map_nil, List.sum_cons, List.sum_nil]
      omega
    simp only [List.append_nil] at N2
    k_lt hlt
    iterate 3 walk1
    (rename Fr _ _ _ _ => kF9)
    (rename News _ _ _ _ => kN9)
    have e4 := (join4 (lineOf x0 f0) (lineOf x1 f1) (lineOf x2 f2) (lineOf x3 f3)).trans (by rw [line_txt, line_txt, line_txt, line_txt])
    rw [hl] at kF9
    show LawGoal w L fa cd _ _ _ (nthP 5).1 (nthP 5).2
    refine law_5 w p loose mean mg mb x0 x1 x2 x3 f0 f1 f2 f3 g0 g1 g2 g3 n0 n1 n2 n3 m0' m1 m2 m3 k0 k1 k2 k3 d01 d02 d03 d12 d13 d23 hcp s0 s1 s2 s3 sm0 sm1 sm2 sm3 hcm _ _ e4 ?hz4 base g L fa cd dR R0 R1 R2 R3 dG oc og oR l0 l1 l2 l3 e0 e1 e2 e3 cR cG u0 u1 u2 u3 (fun y => if y = Str.ofString "paths" then some (.ref dP) else m0 y) _ _ _ B X T kF9 ?hN4 q0 q1 q2 q3 a218 a1 a2 a3 a4 a5 a6 c1 c2 vc c3 fun h' tk' m' news' F' N' => hQ h' tk' m' news' F' N'
    case hN4 =>
      intro q hq
      refine kN9 q (.tail _ ?_)
      rcases List.mem_cons.mp hq with rfl | hq
      · exact .head _
      · exact .tail _ (.tail _ hq)
    case hz4 =>
      have h1 := lineOf_len m0' g0
      have h2 := lineOf_len m1 g1
      have h3 := lineOf_len m2 g2
      have h4 := lineOf_len m3 g3
      have h5 := congrArg List.length (join4 (lineOf x0 f0) (lineOf x1 f1) (lineOf x2 f2) (lineOf x3 f3))
      simp only [List.length_append, Array.length_toList, List.length_nil] at h5
      unfold PySem.Str.length at h1 h2 h3 h4
      rw [h5]
      omega
end
section
theorem rulesLaw3T : True := by
  k_with_none
  k_with "k_ne" => (refine neN ?_; (try dsimp only); first | exact Nat.ne_of_lt (by with_reducible assumption) | exact Nat.ne_of_gt (by with_reducible assumption) | with_reducible assumption | exact neL_up (by with_reducible assumption) | with_reducible exact neL_13 | with_reducible exact neL_23 | with_reducible exact neL_12 | with_reducible exact neL_31 | with_reducible exact neL_32 | with_reducible exact neL_21 | exact Nat.ne_of_gt (by walk_at "pick") | exact Nat.ne_of_lt (by walk_at "pick") | omega)
  k_with "pick" => first | with_reducible assumption | with_reducible exact j1 (by assumption) | with_reducible exact j2 (by assumption) | with_reducible exact j3 (by assumption) | with_reducible exact j4 (by assumption) | with_reducible exact j5 (by assumption) | with_reducible exact j6 (by assumption) | with_reducible exact j7 (by assumption) | with_reducible exact j8 (by assumption) | with_reducible exact j9 (by assumption) | with_reducible exact j10 (by assumption) | with_reducible exact j11 (by assumption) | with_reducible exact j12 (by assumption) | with_reducible exact j13 (by assumption) | with_reducible exact j14 (by assumption) | with_reducible exact j15 (by assumption)
  k_with "om" => first | walk_at "pick" | with_reducible exact Nat.lt_trans (by assumption) (by walk_at "pick")
  k_with "k_mem" => first | exact List.Mem.head _ | assumption | exact List.mem_append_left _ (by assumption) | exact List.mem_append_right _ (by assumption) | (refine' List.Mem.tail _ ?_; k_extra "k_mem")
  k_with "room" => first | exact rm1 (by assumption) (by decide) | exact rm2 (by assumption) (by decide) | exact rm0 (by assumption) | exact rm3 (by assumption) (by decide) | ktr_room
  k_with "units" => first | exact rm1 (by assumption) (by decide) | exact rm2 (by assumption) (by decide) | exact rm0 (by assumption) | exact rm3 (by assumption) (by decide) | ktr_units
  k_with "lt" => try ((rename ∀ p ∈ (_ : List (Addr × Obj)), @LT.lt Nat _ p.1 _ => q9l9); k_lt q9l9; revert q9l9; intro _)
  k_with "dn" => try dsimp only [List.cons_append, List.nil_append] at ‹News _ _ _ _›
  k_with "dd" => try dsimp only [List.cons_append, List.nil_append] at ‹Obj.IsDictOf _ _ _›
  k_with "ds" => try dsimp only [List.cons_append, List.nil_append] at ‹LexSt _ _ _ _ _›
  exact True.intro
theorem map_two {l : List (Str × Tok)} {a b : Str} (h : l.map (·.1) = [a, b]) : ∃ t u, l = [(a, t), (b, u)] := by
  rcases l with _ | ⟨⟨x, t⟩, _ | ⟨⟨y, u⟩, _ | ⟨c, l⟩⟩⟩
  · exact nomatch h
  · exact nomatch h
  · obtain ⟨h1, h2⟩ := List.cons.inj h
    obtain ⟨h2, _⟩ := List.cons.inj h2
    exact ⟨t, u, by rw [← h1, ← h2]⟩
  · exact nomatch h
theorem map_three {l : List (Str × Tok)} {a b c : Str} (h : l.map (·.1) = [a, b, c]) : ∃ t u v, l = [(a, t), (b, u), (c, v)] := by
  rcases l with _ | ⟨⟨x, t⟩, l⟩
  · exact nomatch h
  · obtain ⟨h1, h2⟩ := List.cons.inj h
    obtain ⟨u, v, h3⟩ := map_two h2
    exact ⟨t, u, v, by rw [h3]; exact congrArg (fun z => (z, t) :: _) h1⟩
theorem map_four {l : List (Str × Tok)} {a b c d : Str} (h : l.map (·.1) = [a, b, c, d]) : ∃ t u v y, l = [(a, t), (b, u), (c, v), (d, y)] := by
  rcases l with _ | ⟨⟨x, t⟩, l⟩
  · exact nomatch h
  · obtain ⟨h1, h2⟩ := List.cons.inj h
    obtain ⟨u, v, y, h3⟩ := map_three h2
    exact ⟨t, u, v, y, by rw [h3]; exact congrArg (fun z => (z, t) :: _) h1⟩
noncomputable def baseR : Nat → List Str
  | 0 => [Str.ofString "a"]
  | 1 => [Str.ofString "a", Str.ofString "b"]
  | 2 => [Str.ofString "a", Str.ofString "b c"]
  | _ => [Str.ofString "d"]
noncomputable def dig (k : Nat) : Str := ⟨#[48 + k]⟩
noncomputable def rowStr (r k : Nat) : List Str := baseR r ++ [dig k]
noncomputable def pathStr (r k : Nat) : Str := (Str.ofString "/" ++ Txt.join (Str.ofString "/") (baseR r)) ++ (Str.ofString "/" ++ dig k)
theorem slice_init {prog : Program} {w : World} {A : Around} {E : Value → Shared → Prop} {s : Shared} {g : Heap} {L a : Addr} {m : Str → Option Value} {news : Led} {lb : List (Str × Tok)} {x : Str × Tok} {c : Nat} {u : Tok} {value slice : Expr} {Q : Value → Shared → Prop} (F : Fr g L s.heap m) (N : News g L s.heap news) (hm : (a, W.listOf (strValues (lb ++ [x])).toArray c) ∈ news) (hz : lb.length ≤ 1000)
    (h : ∀ D h', Fr g L h' m → News g L h' ((D, W.listOf (strValues lb).toArray 0) :: news) → (∀ p ∈ news, p.1 < D) → Q (.ref D) { s with heap := h' })
    (hs : subscripted slice false (.ref a) (.ref s.heap.objs.size) = operate [.ref s.heap.objs.size, .ref a] (getItem (.ref a) (.ref s.heap.objs.size))) (ht : ∀ r, letTemporaryGo value (.ref a) r = pure ()) :
    wpAny (model prog w) A (subscriptTail value slice (.ref a) (.ref s.heap.objs.size)) Q E { s with heap := s.heap.push { cls := .type "slice", data := .fields #[.none, .int (-1) u, .none] } } := by
  have hsz : (strValues (lb ++ [x])).toArray.size = lb.length + 1 := by simp [strValues]
  refine kmk_slice F N (its := (strValues (lb ++ [x])).toArray) ⟨_, (N _ hm).1, rfl, _, rfl⟩ .none (.int _ _) (fun D h' F' N' l0 => h D h' F' ?_ l0) hs ht (by rw [hsz, sizeLine_eq]; omega)
  have e : slicePick (strValues (lb ++ [x])).toArray none (some (-1)) none = (strValues lb).toArray := by
    have h1 : clipAt (lb.length + 1) (-((1 : Nat) : Int)) = lb.length + 1 - 1 := clipAt_neg _ 1 (Nat.le_refl _)
    rw [slicePick_plain]
    simp only [Option.elim, hsz]
    rw [show (-1 : Int) = -((1 : Nat) : Int) from rfl, h1]
    simp [strValues]
  rw [← e]; exact N'
theorem last_N {prog : Program} {w : World} {A : Around} {E : Value → Shared → Prop} {s : Shared} {g : Heap} {L a : Addr} {news : Led} {lb : List (Str × Tok)} {x : Str × Tok} {c : Nat} {u : Tok} {value slice : Expr} {Q : Value → Shared → Prop} (N : News g L s.heap news) (hm : (a, W.listOf (strValues (lb ++ [x])).toArray c) ∈ news) (h : Q (.str x.1 x.2) s)
    (hs : subscripted slice false (.ref a) (.int (-1) u) = operate [.ref a, .int (-1) u] (getItem (.ref a) (.int (-1) u))) :
    wpAny (model prog w) A (subscriptTail value slice (.ref a) (.int (-1) u)) Q E s := by
  have hsz : (strValues (lb ++ [x])).toArray.size = lb.length + 1 := by simp [strValues]
  refine tail_any (Heap.IsList.typeIs ⟨_, (N _ hm).1, rfl, _, rfl⟩) slot_list_getitem.lookup (wpAny_getItem_list_neg (s := s) ⟨_, (N _ hm).1, rfl, _, rfl⟩ (by decide) (by rw [hsz]; omega) (by decide) ?_ h) hs
  have e : (-1 + (((strValues (lb ++ [x])).toArray.size : Nat) : Int)).toNat = lb.length := by rw [hsz]; omega
  rw [e]
  simp [strValues]
theorem base_fits : ∀ r, r < 4 → (Str.ofString "/").length + (Txt.join (Str.ofString "/") (baseR r)).length ≤ sizeLine ∧ ((baseR r).map (·.length)).sum + (baseR r).length * (Str.ofString "/").length ≤ 16777216 ∧
    (Str.ofString "/" ++ Txt.join (Str.ofString "/") (baseR r)).length ≤ 1000 ∧ Txt.endswith (Str.ofString "/" ++ Txt.join (Str.ofString "/") (baseR r)) (Str.ofString "/") = false ∧ (Str.ofString "/" ++ Txt.join (Str.ofString "/") (baseR r)).length ≠ 0 ∧ (baseR r).length ≤ 1000 := by
  have key : ∀ r : _root_.Fin 4, (Str.ofString "/").length + (Txt.join (Str.ofString "/") (baseR r.val)).length ≤ sizeLine ∧ ((baseR r.val).map (·.length)).sum + (baseR r.val).length * (Str.ofString "/").length ≤ 16777216 ∧
    (Str.ofString "/" ++ Txt.join (Str.ofString "/") (baseR r.val)).length ≤ 1000 ∧ Txt.endswith (Str.ofString "/" ++ Txt.join (Str.ofString "/") (baseR r.val)) (Str.ofString "/") = false ∧ (Str.ofString "/" ++ Txt.join (Str.ofString "/") (baseR r.val)).length ≠ 0 ∧ (baseR r.val).length ≤ 1000 := by rw [sizeLine_eq]; decide +kernel
  exact fun r h => key ⟨r, h⟩
theorem dig_fits : ∀ k, k < 4 → (dig k).length ≤ 1000 ∧ Txt.startswith (dig k) (Str.ofString "/") = false := by
  have key : ∀ k : _root_.Fin 4, (dig k.val).length ≤ 1000 ∧ Txt.startswith (dig k.val) (Str.ofString "/") = false := by decide +kernel
  exact fun r h => key ⟨r, h⟩
end
section
noncomputable def cpokB (xs : List Str) : Bool := xs.all (fun x => decide (x.length ≤ 1000) && Txt.startswith x (Str.ofString "/") && decide ((Txt.split x (Str.ofString "/")).length ≤ 1000) && (Txt.split x (Str.ofString "/")).all fun y => decide (y.length ≤ 1000)) && fitsL (minOf xs) (maxOf xs)
theorem cpok_of {xs : List Str} (h : cpokB xs = true) : CPok xs := by
  unfold cpokB at h
  rw [Bool.and_eq_true, List.all_eq_true] at h
  obtain ⟨h1, h2⟩ := h
  have q : ∀ x ∈ xs, x.length ≤ 1000 ∧ Txt.startswith x (Str.ofString "/") = true ∧ (Txt.split x (Str.ofString "/")).length ≤ 1000 ∧ ∀ y ∈ Txt.split x (Str.ofString "/"), y.length ≤ 1000 := fun x hx => by
    have := h1 x hx
    simp only [Bool.and_eq_true, decide_eq_true_eq, List.all_eq_true] at this
    exact ⟨this.1.1.1, this.1.1.2, this.1.2, this.2⟩
  exact ⟨fun x hx => (q x hx).1, fun x hx => (q x hx).2.1, fun x hx => (q x hx).2.2, h2⟩
noncomputable def pathsOf (ps : List (Nat × Nat)) : List Str := ps.map fun p => pathStr p.1 p.2
noncomputable def rowsOf (ps : List (Nat × Nat)) : List (List Str) := ps.map fun p => rowStr p.1 p.2
noncomputable def chk (ps : List (Nat × Nat)) : Bool := ps.isEmpty || (cpokB (pathsOf ps) && commonOf (pathsOf ps) == aboveOf (rowsOf ps))
noncomputable def allP : List Nat → List (List (Nat × Nat))
  | [] => [[]]
  | k :: ks => allP ks ++ (List.range 4).flatMap fun r => (allP ks).map ((r, k) :: ·)
theorem big : (allP [0, 1, 2, 3]).all chk = true := by decide +kernel
theorem mem_allP {p : Nat → Bool} {r : Nat → Nat} : ∀ {ks : List Nat}, (∀ k ∈ ks, r k < 4) → ((ks.filter p).map fun i => (r i, i)) ∈ allP ks
  | [], _ => .head _
  | k :: ks, h => by
    have ih := mem_allP (p := p) (r := r) (ks := ks) fun x hx => h x (.tail _ hx)
    unfold allP
    rw [List.mem_append]
    by_cases hk : p k = true
    · right
      rw [List.filter_cons_of_pos hk, List.map_cons]
      exact List.mem_flatMap.mpr ⟨r k, List.mem_range.mpr (h k (.head _)), List.mem_map.mpr ⟨_, ih, rfl⟩⟩
    · left
      rw [List.filter_cons_of_neg hk]
      exact ih
theorem path_facts : ∀ r i, r < 4 → i < 4 → (pathStr r i).length ≠ 0 ∧ (pathStr r i).length ≤ 1000 ∧ ∀ c ∈ (pathStr r i).cps.toList, c ≠ 34 ∧ c ≠ 92 := by
  have key : ∀ r i : _root_.Fin 4, (pathStr r.val i.val).length ≠ 0 ∧ (pathStr r.val i.val).length ≤ 1000 ∧ ∀ c ∈ (pathStr r.val i.val).cps.toList, c ≠ 34 ∧ c ≠ 92 := by decide +kernel
  exact fun r i h h' => key ⟨r, h⟩ ⟨i, h'⟩
theorem path_ne : ∀ r r' i i', r < 4 → r' < 4 → i < 4 → i' < 4 → i ≠ i' → pathStr r i ≠ pathStr r' i' := by
  have key : ∀ r r' i i' : _root_.Fin 4, i.val ≠ i'.val → pathStr r.val i.val ≠ pathStr r'.val i'.val := by decide +kernel
  exact fun r r' i i' h1 h2 h3 h4 => key ⟨r, h1⟩ ⟨r', h2⟩ ⟨i, h3⟩ ⟨i', h4⟩
theorem row_small : ∀ r i, r < 4 → i < 4 → Small (rowStr r i) := by
  have key : ∀ r i : _root_.Fin 4, (rowStr r.val i.val).length ≤ 1000 ∧ ∀ y ∈ rowStr r.val i.val, y.length ≤ 1000 := by decide +kernel
  exact fun r i h h' => key ⟨r, h⟩ ⟨i, h'⟩
theorem have_facts {r0 r1 r2 r3 f0 f1 f2 f3 f : Nat} (h0 : r0 < 4) (h1 : r1 < 4) (h2 : r2 < 4) (h3 : r3 < 4) (hm : IsMeet f0 f1 f2 f3 f) :
    CPok ((having (fk f0 f1 f2 f3) f).map (xk (pathStr r0 0) (pathStr r1 1) (pathStr r2 2) (pathStr r3 3))) ∧ comm (pathStr r0 0) (pathStr r1 1) (pathStr r2 2) (pathStr r3 3) f0 f1 f2 f3 f = abv (rowStr r0 0) (rowStr r1 1) (rowStr r2 2) (rowStr r3 3) f0 f1 f2 f3 f := by
  have hr : ∀ k ∈ List.range 4, [r0, r1, r2, r3].getD k 0 < 4 := fun k hk => by
    have := List.mem_range.mp hk
    rcases k with _ | _ | _ | _ | k
    · exact h0
    · exact h1
    · exact h2
    · exact h3
    · omega
  obtain ⟨ps, hps⟩ : ∃ ps, ps = (having (fk f0 f1 f2 f3) f).map fun i => ([r0, r1, r2, r3].getD i 0, i) := ⟨_, rfl⟩
  have hmem : ps ∈ allP [0, 1, 2, 3] := hps ▸ mem_allP (p := fun i => f &&& fk f0 f1 f2 f3 i == f) (r := fun i => [r0, r1, r2, r3].getD i 0) (ks := List.range 4) hr
  have hc := List.all_eq_true.mp big ps hmem
  have hlt : ∀ i ∈ having (fk f0 f1 f2 f3) f, i < 4 := fun i hi => List.mem_range.mp (List.mem_filter.mp hi).1
  have e1 : (having (fk f0 f1 f2 f3) f).map (xk (pathStr r0 0) (pathStr r1 1) (pathStr r2 2) (pathStr r3 3)) = pathsOf ps := by
    rw [hps]; unfold pathsOf; rw [List.map_map]
    refine List.map_congr_left fun i hi => ?_
    have := hlt i hi
    rcases i with _ | _ | _ | _ | i
    · rfl
    · rfl
    · rfl
    · rfl
    · omega
  have e2 : (having (fk f0 f1 f2 f3) f).map (rowK (rowStr r0 0) (rowStr r1 1) (rowStr r2 2) (rowStr r3 3)) = rowsOf ps := by
    rw [hps]; unfold rowsOf; rw [List.map_map]
    refine List.map_congr_left fun i hi => ?_
    have := hlt i hi
    rcases i with _ | _ | _ | _ | i
    · rfl
    · rfl
    · rfl
    · rfl
    · omega
  have hne : ps.isEmpty = false := by
    rw [hps]
    have := having_ne hm
    cases e : having (fk f0 f1 f2 f3) f with
    | nil => exact absurd e this
    | cons a b => rfl
  unfold chk at hc
  rw [hne, Bool.false_or, Bool.and_eq_true] at hc
  refine ⟨e1 ▸ cpok_of hc.1, ?_⟩
  show commonOf _ = aboveOf _
  rw [e1, e2]
  exact eq_of_beq hc.2
end
section
theorem rulesLaw3 : True := by
  k_with_none
  k_with "k_ne" => (refine neN ?_; (try dsimp only); first | exact Nat.ne_of_lt (by with_reducible assumption) | exact Nat.ne_of_gt (by with_reducible assumption) | with_reducible assumption | exact neL_up (by with_reducible assumption) | with_reducible exact neL_13 | with_reducible exact neL_23 | with_reducible exact neL_12 | with_reducible exact neL_31 | with_reducible exact neL_32 | with_reducible exact neL_21 | exact Nat.ne_of_gt (by walk_at "pick") | exact Nat.ne_of_lt (by walk_at "pick") | omega)
  k_with "pick" => first | with_reducible assumption | with_reducible exact j1 (by assumption) | with_reducible exact j2 (by assumption) | with_reducible exact j3 (by assumption) | with_reducible exact j4 (by assumption) | with_reducible exact j5 (by assumption) | with_reducible exact j6 (by assumption) | with_reducible exact j7 (by assumption) | with_reducible exact j8 (by assumption) | with_reducible exact j9 (by assumption) | with_reducible exact j10 (by assumption) | with_reducible exact j11 (by assumption) | with_reducible exact j12 (by assumption) | with_reducible exact j13 (by assumption) | with_reducible exact j14 (by assumption) | with_reducible exact j15 (by assumption)
  k_with "om" => first | walk_at "pick" | with_reducible exact Nat.lt_trans (by assumption) (by walk_at "pick")
  k_with "k_mem" => first | exact List.Mem.head _ | assumption | exact List.mem_append_left _ (by assumption) | exact List.mem_append_right _ (by assumption) | (refine' List.Mem.tail _ ?_; k_extra "k_mem")
  k_with "room" => first | exact rm1 (by assumption) (by decide) | exact rm2 (by assumption) (by decide) | exact rm0 (by assumption) | exact rm3 (by assumption) (by decide) | ktr_room
  k_with "units" => first | exact rm1 (by assumption) (by decide) | exact rm2 (by assumption) (by decide) | exact rm0 (by assumption) | exact rm3 (by assumption) (by decide) | ktr_units
  k_with "lt" => try ((rename ∀ p ∈ (_ : List (Addr × Obj)), @LT.lt Nat _ p.1 _ => q9l9); k_lt q9l9; revert q9l9; intro _)
  k_with "dn" => try dsimp only [List.cons_append, List.nil_append] at ‹News _ _ _ _›
  k_with "dd" => try dsimp only [List.cons_append, List.nil_append] at ‹Obj.IsDictOf _ _ _›
  k_with "ds" => try dsimp only [List.cons_append, List.nil_append] at ‹LexSt _ _ _ _ _›
  k_with "end 0" => (intro q9g' q9L' q9h' q9off' q9FG' q9F' q9N' q9B' q9X' q9T' q9l0'; (try k_lt q9l0'); (try dsimp only); (try k_lift q9B'); (try k_fold))
  k_with "end 1" => (intro q9g' q9L' q9h' q9tk' q9cells' q9off' q9FG' q9F' q9N' q9Y' q9B' q9X' q9T' q9l0'; (try k_lt q9l0'); k_cells q9Y'; (try dsimp only [List.cons_append, List.nil_append] at q9N'); (try dsimp only); (try k_lift q9B'); (try k_fold))
  k_with "enterF" => (k_dflt (refine' enterF (by k_asm) (by k_asm) (by k_asm) (by k_asm) (by k_asm) (by exact rfl) (by exact rfl) (by assumption) (by k_is) (by k_is) (by walk_at "room") (by first | exact BindsTo.of_eq rfl | exact binds_K (by k_in) rfl (by k_is) rfl rfl rfl) (by exact locs rfl) ?_ (by exact rfl) (by exact rfl) (by exact rfl) (by decide); k_whole; walk_at "end 0"))
  k_with "enterFC" => (k_dflt (refine' enterFC (by k_asm) (by k_asm) (by k_asm) (by k_asm) (by k_asm) (by exact rfl) (by exact rfl) (by assumption) (by k_is) (by k_is) (by walk_at "room") (by first | exact BindsTo.of_eq rfl | exact binds_K (by k_in) rfl (by k_is) rfl rfl rfl) (by exact rfl) (by decide +kernel) ?_ (by exact rfl) (by exact rfl) (by exact rfl); k_whole; walk_at "end 1"))
  k_with "k_del" => first | (refine' Del.head (by k_all)) | (refine' Del.tail (by k_ne) (by walk_at "k_del"))
  k_with "eval ListComp" => (k_here; k_dflt (refine lc_enter (by k_asm) (by with_unfolding_all rfl) (by decide) (by rfl) (by decide) ?_ (by intro _; rfl)))
  k_with "pyIter ref" => (k_here; k_dflt (first | (refine' pyIter_enum_N (by k_asm) (by k_mem) ?_; k_whole) | (refine' pyIter_tupo_N (by k_asm) (by k_asm) (by k_mem) ?_; k_whole; intros; walk_at "lt"; (try k_sweep)) | (refine' pyIter_list_N (by k_asm) (by k_asm) (by exact News.isList (by k_asm) (by k_mem)) ?_; k_whole; intros; walk_at "lt"; (try k_sweep))))
  k_with "exec Assign cons ListComp" => (k_here; k_dflt (refine' lc_assign (by k_asm) (by rfl) (by with_unfolding_all rfl) (by with_unfolding_all rfl) (by decide) (by rfl) (by decide) (by rfl) (by rfl) ?_ (by intro _; rfl)))
  k_with "k_all" => first | exact List.forall_mem_nil _ | exact LexSt.ne (by assumption) (by omega) | exact allNe_of (by assumption) | exact allNe_le (by assumption) (by omega) | exact allNe_gt (by assumption) | exact List.forall_mem_cons.mpr ⟨by k_ne, by k_extra "k_all"⟩
  k_with "subscriptTail" => (k_here; (with_reducible show wpAny _ _ (subscriptTail _ _ (Value.ref _) (Value.int _ _)) _ _ _); k_dflt (refine' itemL_N (by k_asm) (by k_mem) (by assumption) (by assumption) ?_ (by with_unfolding_all rfl); k_whole))
  k_with "binaryOp Add str str" => (k_here; (with_reducible show wpAny _ _ (binaryOp Operator.Add (Value.str _ _) (Value.str _ _)) _ _ _); k_dflt (refine' PyProof.Rows.add_str ?_ (by assumption); k_whole); intros)
  k_with "k_tail" => first | exact TailE.nil | (apply TailE.cons; walk_at "k_tail")
  k_with "k_allgt" => first | exact List.forall_mem_nil _ | (refine' List.forall_mem_cons.mpr ⟨(by ((try dsimp only); first | with_reducible assumption | omega)), (by walk_at "k_allgt")⟩)
  k_with "k_inE" => first | exact fun _ hq => hq | (refine' fun q hq => List.Mem.tail _ (?_ : ∀ q ∈ _, q ∈ _) q hq)
  k_with "exec While Name cons nil" => (k_here; k_dflt (refine wpAny_While ?_))
  k_with "codeAny" => (k_here; (with_reducible show codeAny _ _ (Code.whileLoop _ _ _ _) _ _); refine while_turn ?_; (try k_fold))
  k_with "truthy str" => (k_here; (first | (refine' truthy_yes (by assumption) (by assumption) ?_) | refine truthy_no ?_); intros)
  k_with "call type:int" => (k_here; (with_reducible show wpAny _ _ (call (Value.type "int") [Value.str _ _, Value.int _ _]) _ _ _); k_dflt (refine call_int8 (by assumption) ?_))
  k_with "setItem ref str" => (k_here; k_dflt (refine' dset_new (by k_asm) (by k_asm) (by k_updF) (by k_asm) (by first | exact vn0 | exact vn1 (by assumption) | exact vn2 (by assumption) (by assumption) | exact vn3 (by assumption) (by assumption) (by assumption)) (by exact Nat.le_of_ble_eq_true (by with_unfolding_all rfl)) ?_); intros; walk_at "dn"; walk_at "dd"; (try k_sweep))
  k_with "subscriptTail" => (k_here; (with_reducible show wpAny _ _ (subscriptTail _ _ (Value.ref _) (Value.str _ _)) _ _ _); k_dflt (refine' dget (by k_asm) (by k_mem) (by k_asm) (by first | assumption | exact vs0 | exact vs1 (by assumption) | exact vs2 (by assumption) (by assumption) | exact vs3 (by assumption) (by assumption) (by assumption)) ?_ (by with_unfolding_all rfl); k_whole); intros)
  k_with "binaryOp Mod str int" => (k_here; (refine mod_o (by assumption) ?_); intros)
  k_with "call ref" => (k_here; k_dflt (show wpAny _ _ (call (Value.ref 103) [_]) _ _ _); k_dflt (first | (refine' ConF.useLS (getPath (by assumption) (by assumption)) (by k_asm) (by k_asm) (by k_asm) (by k_asm) (by k_asm) (by exact rfl) (by (first | with_reducible assumption | omega | walk_at "room")) (by (first | with_reducible assumption | omega | walk_at "units")) (by walk_at "k_tail") (by exact LexSt.le (by assumption)) (by walk_at "k_allgt") ?_; k_whole; intros; walk_at "dn"; (try k_sweep)) | (refine' ConF.useLS (getOct (by assumption) (by assumption)) (by k_asm) (by k_asm) (by k_asm) (by k_asm) (by k_asm) (by exact rfl) (by (first | with_reducible assumption | omega | walk_at "room")) (by (first | with_reducible assumption | omega | walk_at "units")) (by walk_at "k_tail") (by exact LexSt.le (by assumption)) (by walk_at "k_allgt") ?_; k_whole; intros; walk_at "dn"; (try k_sweep)) | (refine' ConF.useLS (getE (by assumption)) (by k_asm) (by k_asm) (by k_asm) (by k_asm) (by k_asm) (by exact rfl) (by (first | with_reducible assumption | omega | walk_at "room")) (by (first | with_reducible assumption | omega | walk_at "units")) (by walk_at "k_tail") (by exact LexSt.le (by assumption)) (by walk_at "k_allgt") ?_; k_whole; intros; walk_at "dn"; (try k_sweep)) | (refine' ConF.useLE (getB (by assumption) (by first | decide | assumption | (simp only [List.length_append, List.length_cons, List.length_nil]; omega))) (by k_asm) (by k_asm) (by k_asm) (by k_asm) (by k_asm) (by exact rfl) (by (first | with_reducible assumption | omega | walk_at "room")) (by (first | with_reducible assumption | omega | walk_at "units")) (by walk_at "k_tail") (by exact LexSt.le (by assumption)) (by walk_at "k_allgt") ?_; k_whole; intros; walk_at "dn"; (try k_sweep))))
  k_with "call ref" => (k_here; k_dflt (show wpAny _ _ (call (Value.ref 110) [_, _]) _ _ _); k_dflt (refine' ConF.useLE (pushT (by assumption) (by first | decide | assumption | (simp only [List.length_append, List.length_cons, List.length_nil]; omega))) (by k_asm) (by k_asm) (by k_asm) (by k_asm) (by k_asm) (by exact rfl) (by (first | with_reducible assumption | omega | walk_at "room")) (by (first | with_reducible assumption | omega | walk_at "units")) (by walk_at "k_tail") (by exact LexSt.le (by assumption)) (by walk_at "k_allgt") ?_; k_whole; intros; walk_at "ds"; walk_at "dn"; (try k_sweep)))
  k_with "call ref" => (k_here; k_dflt (show wpAny _ _ (call (Value.ref 75) [Value.int _ _]) _ _ _); k_dflt (refine' ConF.use0S (fm_con _ _ _ _ _ _ (by assumption) _) (by k_asm) (by k_asm) (by k_asm) (by k_asm) (by k_asm) (by exact rfl) (by (first | with_reducible assumption | omega | walk_at "room")) (by (first | with_reducible assumption | omega | walk_at "units")) ?_; k_whole); intros; (try k_sweep))
  k_with "getMethod ref" => (k_here; k_dflt (first | (refine' lex_get (by assumption) (by k_asm) (by k_asm) (by k_asm) (by intro q hq; repeat (first | exact hq | apply List.Mem.tail)) ?_; k_whole) | (refine' lex_push (by assumption) (by k_asm) (by k_asm) (by k_asm) (by intro q hq; repeat (first | exact hq | apply List.Mem.tail)) ?_; k_whole)))
  k_with "pyIter ref" => (k_here; k_dflt (refine' dk_iter (by k_asm) (by k_asm) (by k_mem) (by assumption) (by assumption) ?_; k_whole); intros; walk_at "lt"; (try k_sweep))
  k_with "codeAny" => (k_here; (with_reducible show codeAny _ _ (Code.forLoop _ _ _ _ _) _ _); refine for_turnK ?_; (try k_fold))
  k_with "pyNext ref" => (k_here; k_dflt (first | (refine' dk_next (by k_asm) (by k_asm) (by k_updF) (by assumption) (by assumption) (by k_mem) (by exact rfl) ?_; k_whole; intros; walk_at "dn"; (try k_sweep)) | (refine' dk_stop (by rfl) (by k_asm) (by k_asm) (by walk_at "k_del") (by k_mem) (by assumption) (by assumption) (by k_mem) (by exact rfl) ?_; k_whole; intros; walk_at "dn"; (try k_sweep))))
  k_with "exec For Name Name cons nil" => (k_here; k_dflt (refine wpAny_For ?_ (by intro _; rfl)))
  k_with "eval DictComp" => (k_here; k_dflt (refine dc_enter (by k_asm) (by with_unfolding_all rfl) (by decide) (by rfl) (by decide) ?_ (by intro _; rfl)))
  k_with "call builtin:str.join" => (k_here; (with_reducible show wpAny _ _ (call (Value.builtin "str.join") [Value.str _ _, Value.ref _]) _ _ _); k_dflt (refine' join_Nl (by k_asm) (by k_mem) (by assumption) ?_; k_whole); intros)
  k_with "subscriptTail" => (k_here; (with_reducible show wpAny _ _ (subscriptTail _ _ (Value.ref _) (Value.ref _)) _ _ _); k_dflt (refine' slice_init (by k_asm) (by k_asm) (by k_mem) (by assumption) ?_ (by with_unfolding_all rfl) (by intro _; with_unfolding_all rfl); k_whole); intros; walk_at "lt"; (try k_sweep))
  k_with "subscriptTail" => (k_here; (with_reducible show wpAny _ _ (subscriptTail _ _ (Value.ref _) (Value.int _ _)) _ _ _); k_dflt (refine' last_N (by k_asm) (by k_mem) ?_ (by with_unfolding_all rfl); k_whole))
  k_with "pyIter ref" => (k_here; k_dflt (refine' pyIter_list_N (by k_asm) (by k_asm) (by exact News.isList (by k_asm) (by k_mem)) ?_; k_whole; intros; walk_at "lt"; (try k_sweep)))
  k_with "call ref" => (k_here; k_dflt (show wpAny _ _ (call (Value.ref 211) [Value.str _ _, Value.str _ _]) _ _ _); k_dflt (refine' ConF.use0S (join_con _ _ _ _ _ _ _ _ _ _ (by assumption) (by assumption) (by assumption) (by assumption) (by assumption)) (by k_asm) (by k_asm) (by k_asm) (by k_asm) (by k_asm) (by exact rfl) (by omega) (by omega) ?_; k_whole); intros; (try k_sweep))
  k_with "subscriptTail Name UnaryOp ref int" => (k_here; k_dflt (refine' last_N (by k_asm) (by k_mem) ?_ (by with_unfolding_all rfl); k_whole))
  k_with "subscriptTail Name Slice ref ref" => walk_at "subscriptTail"
  exact True.intro
theorem law_3 (w : World) (p : Program) (loose : List Str) (mean : ExcName → Option Value) (mg mb : Str → Option Value) (r0 r1 r2 r3 : Nat) (h0 : r0 < 4) (h1 : r1 < 4) (h2 : r2 < 4) (h3 : r3 < 4) (f0 f1 f2 f3 : Nat) (g0 : f0 < 16) (g1 : f1 < 16) (g2 : f2 < 16) (g3 : f3 < 16)
    (base g : Heap) (L fa : Addr) (cd : Value) (dR R0 R1 R2 R3 dG : Addr) (oc og oR : Obj) (l0 l1 l2 l3 : List (Str × Tok)) (e0 e1 e2 e3 cR cG : Nat) (u0 u1 u2 u3 : Tok) (m0 : Str → Option Value) (s : Shared) (Q : Flow → Shared → Prop) (E : Value → Shared → Prop)
    (B : Below callerA base [] g) (X : (hd.heap_39 w.params).In g) (T : Top p loose mean mg mb g)
    (F : Fr g L s.heap m0)
    (N : News g L s.heap ((218, tabObj #[]) :: (dR, W.listOf #[.ref R0, .ref R1, .ref R2, .ref R3] cR) :: (R0, W.listOf (strValues l0).toArray e0) :: (R1, W.listOf (strValues l1).toArray e1) :: (R2, W.listOf (strValues l2).toArray e2) :: (R3, W.listOf (strValues l3).toArray e3) :: (dG, W.listOf #[.int (f0 : Int) u0, .int (f1 : Int) u1, .int (f2 : Int) u2, .int (f3 : Int) u3] cG) :: (L + 1 + 1 + 1, oc) :: (L + 1 + 1, og) :: (L + 1, oR) :: []))
    (q0 : l0.map (·.1) = rowStr r0 0) (q1 : l1.map (·.1) = rowStr r1 1) (q2 : l2.map (·.1) = rowStr r2 2) (q3 : l3.map (·.1) = rowStr r3 3)
    (a218 : @LT.lt Nat _ 218 L) (a1 : @LT.lt Nat _ (L + 1 + 1 + 1) dR) (a2 : @LT.lt Nat _ (L + 1 + 1 + 1) R0) (a3 : @LT.lt Nat _ (L + 1 + 1 + 1) R1) (a4 : @LT.lt Nat _ (L + 1 + 1 + 1) R2) (a5 : @LT.lt Nat _ (L + 1 + 1 + 1) R3) (a6 : @LT.lt Nat _ (L + 1 + 1 + 1) dG)
    (c1 : oR.data = .cell (some (.ref dR))) (c2 : og.data = .cell (some (.ref dG))) (vc : Option Value) (c3 : oc.data = .cell vc)
    (hQ : ∀ h' tk' m' news', Fr g L h' m' → News g L h' news' → GrownAt 218 h' → Q (.ret (.bool true)) { s with heap := h', toks := tk' }) :
    LawGoal w L fa cd Q E s (nthP 3).1 (nthP 3).2 := by
  refine' concL ?h ?hb ?_
  case h => exact rfl
  case hb => exact rfl
  unfold LawGoal
  revert X
  k_fill
  intro X
  have hdep : callerA.depth + 1 + 10 * 20 < recursionLimit := by decide +kernel
  have hun : callerA.units + 3 + 100 * 20 < cLine := by decide +kernel
  iterate 4 walk1
  rename_i I1 h1' F1 N1 lt1
  refine LcGo_list (items := #[.ref R0, .ref R1, .ref R2, .ref R3]) (p := fun _ => true) (G := fun i y mk => mk = [] ∧ ∃ t, y = .str (pathStr ([r0, r1, r2, r3].getD i 0) i) t) ?hn1 rfl F1 N1 ?hI1 (by k_mem) rfl rfl ?he1 ?hq1
  case hn1 => rw [sizeLine_eq]; exact Nat.le_of_ble_eq_true rfl
  case hI1 => k_all
  case he1 =>
    clear F1 N1
    intro C i s1 oC m₁ X' Kt Ks hi F2 N2 hO hB hC hT hF9
    obtain ⟨v, hv, hm⟩ := hB
    dsimp only [List.cons_append, List.nil_append] at N2
    have hi4 : i < 4 := hi
    obtain ⟨Rr, li, ei, rfl, hmem, hli, hr⟩ : ∃ Rr li ei, v = .ref Rr ∧ News g L s1.heap [(Rr, W.listOf (strValues li).toArray ei)] ∧ li.map (·.1) = rowStr ([r0, r1, r2, r3].getD i 0) i ∧ [r0, r1, r2, r3].getD i 0 < 4 := by
      rcases i with _ | _ | _ | _ | i
      · cases hv; exact ⟨R0, l0, e0, rfl, fun q hq => N2 q (by rw [List.mem_singleton.mp hq]; exact .tail _ (.tail _ (.tail _ (.head _)))), q0, h0⟩
      · cases hv; exact ⟨R1, l1, e1, rfl, fun q hq => N2 q (by rw [List.mem_singleton.mp hq]; exact .tail _ (.tail _ (.tail _ (.tail _ (.head _))))), q1, h1⟩
      · cases hv; exact ⟨R2, l2, e2, rfl, fun q hq => N2 q (by rw [List.mem_singleton.mp hq]; exact .tail _ (.tail _ (.tail _ (.tail _ (.tail _ (.head _)))))), q2, h2⟩
      · cases hv; exact ⟨R3, l3, e3, rfl, fun q hq => N2 q (by rw [List.mem_singleton.mp hq]; exact .tail _ (.tail _ (.tail _ (.tail _ (.tail _ (.tail _ (.head _))))))), q3, h3⟩
      · omega
    generalize [r0, r1, r2, r3].getD i 0 = r at *
    refine wpAny_tests_nil (ite_pos rfl ?_)
    obtain ⟨lb, td, rfl, hlb⟩ : ∃ lb td, li = lb ++ [(dig i, td)] ∧ lb.map (·.1) = baseR r := by
      obtain ⟨la, lc, rfl, h1, h2⟩ := List.map_eq_append_iff.mp (show li.map (·.1) = baseR r ++ [dig i] from hli)
      obtain ⟨⟨x, t⟩, l', rfl, h3, h4⟩ := List.map_eq_cons_iff.mp h2
      obtain rfl := List.map_eq_nil_iff.mp h4
      exact ⟨la, t, by rw [← h3], h1⟩
    obtain ⟨b1, b2, b3, b4, b5, b6⟩ := base_fits r hr
    obtain ⟨j1, j2⟩ := dig_fits i hi4
    have b7 : lb.length ≤ 1000 := by rw [← hlb, List.length_map] at b6; exact b6
    have hpath : pathStr r i = (Str.ofString "/" ++ Txt.join (Str.ofString "/") (baseR r)) ++ (Str.ofString "/" ++ dig i) := rfl
    rw [← hlb] at b1 b2 b3 b4 b5 hpath
    rw [hpath] at hT
    generalize dig i = di at *
    have N3 : News g L s1.heap ((Rr, W.listOf (strValues (lb ++ [(di, td)])).toArray ei) :: _) := fun q hq => (List.mem_cons.mp hq).elim (fun h => hmem q (by rw [h]; exact .head _)) fun h => N2 q h
    clear N2 hmem hli hlb hpath b6
    iterate 35 walk1
    (rename Fr _ _ _ _ => kF9)
    (rename News _ _ _ _ => kN9)
    exact hT rfl _ [] _ _ ⟨rfl, _, rfl⟩ (by simp) kF9 (fun q hq => kN9 q (.tail _ (.tail _ hq)))
  case hq1 =>
    clear F1 N1 lt1
    intro D ys made c9 h9 tk9 hR hlt _ F2 N2
    obtain ⟨rfl, l, rfl, hl⟩ := hR.strsI
    obtain ⟨v0, v1, v2, v3, rfl⟩ := map_four (show l.map (·.1) = [pathStr r0 0, pathStr r1 1, pathStr r2 2, pathStr r3 3] from hl)
    simp only [List.append_nil] at N2
    refine ⟨_, F2, N2, fun hh2 tk2 F3 N3 => ?_⟩
    clear F2 N2
    show LawGoal w L fa cd _ _ _ (nthP 4).1 (nthP 4).2
    obtain ⟨n0, m0', k0⟩ := path_facts r0 0 h0 (by decide)
    obtain ⟨n1, m1, k1⟩ := path_facts r1 1 h1 (by decide)
    obtain ⟨n2, m2, k2⟩ := path_facts r2 2 h2 (by decide)
    obtain ⟨n3, m3, k3⟩ := path_facts r3 3 h3 (by decide)
    refine law_4 w p loose mean mg mb (pathStr r0 0) (pathStr r1 1) (pathStr r2 2) (pathStr r3 3) f0 f1 f2 f3 g0 g1 g2 g3 n0 n1 n2 n3 m0' m1 m2 m3 k0 k1 k2 k3 (path_ne _ _ _ _ h0 h1 (by decide) (by decide) (by decide)) (path_ne _ _ _ _ h0 h2 (by decide) (by decide) (by decide)) (path_ne _ _ _ _ h0 h3 (by decide) (by decide) (by decide)) (path_ne _ _ _ _ h1 h2 (by decide) (by decide) (by decide)) (path_ne _ _ _ _ h1 h3 (by decide) (by decide) (by decide)) (path_ne _ _ _ _ h2 h3 (by decide) (by decide) (by decide))
      (fun f hf => (have_facts h0 h1 h2 h3 hf).1) (rowStr r0 0) (rowStr r1 1) (rowStr r2 2) (rowStr r3 3) (row_small _ _ h0 (by decide)) (row_small _ _ h1 (by decide)) (row_small _ _ h2 (by decide)) (row_small _ _ h3 (by decide)) (fun f hf => (have_facts h0 h1 h2 h3 hf).2)
      base g L fa cd D dR R0 R1 R2 R3 dG c9 v0 v1 v2 v3 oc og oR l0 l1 l2 l3 e0 e1 e2 e3 cR cG u0 u1 u2 u3 m0 _ _ _ B X T F3 ?hN4 q0 q1 q2 q3 a218 a1 a2 a3 a4 a5 a6 c1 c2 vc c3 fun h' tk' m' news' F' N' => hQ h' tk' m' news' F' N'
    case hN4 =>
      intro q hq
      refine N3 q ?_
      rcases List.mem_cons.mp hq with rfl | hq
      · exact .tail _ (.head _)
      · rcases List.mem_cons.mp hq with rfl | hq
        · exact .head _
        · exact .tail _ (.tail _ hq)
end
section
open PyProof.Rows.LCg
theorem rulesLaw2T : True := by
  k_with_none
  k_with "k_ne" => (refine neN ?_; (try dsimp only); first | exact Nat.ne_of_lt (by with_reducible assumption) | exact Nat.ne_of_gt (by with_reducible assumption) | with_reducible assumption | exact neL_up (by with_reducible assumption) | with_reducible exact neL_13 | with_reducible exact neL_23 | with_reducible exact neL_12 | with_reducible exact neL_31 | with_reducible exact neL_32 | with_reducible exact neL_21 | exact Nat.ne_of_gt (by walk_at "pick") | exact Nat.ne_of_lt (by walk_at "pick") | omega)
  k_with "pick" => first | with_reducible assumption | with_reducible exact j1 (by assumption) | with_reducible exact j2 (by assumption) | with_reducible exact j3 (by assumption) | with_reducible exact j4 (by assumption) | with_reducible exact j5 (by assumption) | with_reducible exact j6 (by assumption) | with_reducible exact j7 (by assumption) | with_reducible exact j8 (by assumption) | with_reducible exact j9 (by assumption) | with_reducible exact j10 (by assumption) | with_reducible exact j11 (by assumption) | with_reducible exact j12 (by assumption) | with_reducible exact j13 (by assumption) | with_reducible exact j14 (by assumption) | with_reducible exact j15 (by assumption)
  k_with "om" => first | walk_at "pick" | with_reducible exact Nat.lt_trans (by assumption) (by walk_at "pick")
  k_with "k_mem" => first | exact List.Mem.head _ | assumption | exact List.mem_append_left _ (by assumption) | exact List.mem_append_right _ (by assumption) | (refine' List.Mem.tail _ ?_; k_extra "k_mem")
  k_with "room" => first | exact rm1 (by assumption) (by decide) | exact rm2 (by assumption) (by decide) | exact rm0 (by assumption) | exact rm3 (by assumption) (by decide) | ktr_room
  k_with "units" => first | exact rm1 (by assumption) (by decide) | exact rm2 (by assumption) (by decide) | exact rm0 (by assumption) | exact rm3 (by assumption) (by decide) | ktr_units
  k_with "lt" => try ((rename ∀ p ∈ (_ : List (Addr × Obj)), @LT.lt Nat _ p.1 _ => q9l9); k_lt q9l9; revert q9l9; intro _)
  k_with "dn" => try dsimp only [List.cons_append, List.nil_append] at ‹News _ _ _ _›
  k_with "dd" => try dsimp only [List.cons_append, List.nil_append] at ‹Obj.IsDictOf _ _ _›
  k_with "ds" => try dsimp only [List.cons_append, List.nil_append] at ‹LexSt _ _ _ _ _›
  exact True.intro
theorem Res.succ {G : Nat → Value → Led → Prop} {n : Nat} {ys : List Value} {made : Led} (h : Res (fun _ => true) G (n + 1) ys made) : ∃ ys' made' y mk, ys = ys' ++ [y] ∧ made = mk ++ made' ∧ Res (fun _ => true) G n ys' made' ∧ G n y mk := by
  cases h with
  | skip h _ => cases h
  | take _ h g => exact ⟨_, _, _, _, rfl, rfl, h, g⟩
theorem Res.four {G : Nat → Value → Led → Prop} {ys : List Value} {made : Led} (h : Res (fun _ => true) G 4 ys made) : ∃ y0 y1 y2 y3 n0 n1 n2 n3, ys = [y0, y1, y2, y3] ∧ made = n3 ++ (n2 ++ (n1 ++ (n0 ++ []))) ∧ G 0 y0 n0 ∧ G 1 y1 n1 ∧ G 2 y2 n2 ∧ G 3 y3 n3 := by
  obtain ⟨_, _, y3, n3, rfl, rfl, h, g3⟩ := h.succ
  obtain ⟨_, _, y2, n2, rfl, rfl, h, g2⟩ := h.succ
  obtain ⟨_, _, y1, n1, rfl, rfl, h, g1⟩ := h.succ
  obtain ⟨_, _, y0, n0, rfl, rfl, h, g0⟩ := h.succ
  cases h
  exact ⟨y0, y1, y2, y3, n0, n1, n2, n3, rfl, rfl, g0, g1, g2, g3⟩
section
variable {prog : Program} {w : World} {A : Around} {E : Value → Shared → Prop} {s : Shared} {Q : Value → Shared → Prop} {t u : Tok}
theorem floordiv_4 {a : Nat} (ha : a < 64) (h : ∀ t tk, Q (.int ((a / 4 : Nat) : Int) t) { s with toks := tk }) : wpAny (model prog w) A (binaryOp .FloorDiv (.int (a : Int) t) (.int 4 u)) Q E s :=
  floordiv_int (by decide) (by
    have e : (a : Int).fdiv 4 = ((a / 4 : Nat) : Int) := by rw [Int.fdiv_eq_ediv_of_nonneg _ (by decide)]; push_cast; rfl
    rw [e]; exact h _ _) (Or.inl (PyProof.noPylong_small (by omega)))
theorem mod_4 {a : Nat} (h : ∀ t tk, Q (.int ((a % 4 : Nat) : Int) t) { s with toks := tk }) : wpAny (model prog w) A (binaryOp .Mod (.int (a : Int) t) (.int 4 u)) Q E s :=
  mod_int (by decide) (by
    have e : (a : Int).fmod 4 = ((a % 4 : Nat) : Int) := by rw [Int.fmod_eq_emod_of_nonneg _ (by decide)]; push_cast; rfl
    rw [e]; exact h _ _)
end
end
section
theorem rulesLaw2 : True := by
  k_with_none
  k_with "k_ne" => (refine neN ?_; (try dsimp only); first | exact Nat.ne_of_lt (by with_reducible assumption) | exact Nat.ne_of_gt (by with_reducible assumption) | with_reducible assumption | exact neL_up (by with_reducible assumption) | with_reducible exact neL_13 | with_reducible exact neL_23 | with_reducible exact neL_12 | with_reducible exact neL_31 | with_reducible exact neL_32 | with_reducible exact neL_21 | exact Nat.ne_of_gt (by walk_at "pick") | exact Nat.ne_of_lt (by walk_at "pick") | omega)
  k_with "pick" => first | with_reducible assumption | with_reducible exact j1 (by assumption) | with_reducible exact j2 (by assumption) | with_reducible exact j3 (by assumption) | with_reducible exact j4 (by assumption) | with_reducible exact j5 (by assumption) | with_reducible exact j6 (by assumption) | with_reducible exact j7 (by assumption) | with_reducible exact j8 (by assumption) | with_reducible exact j9 (by assumption) | with_reducible exact j10 (by assumption) | with_reducible exact j11 (by assumption) | with_reducible exact j12 (by assumption) | with_reducible exact j13 (by assumption) | with_reducible exact j14 (by assumption) | with_reducible exact j15 (by assumption)
  k_with "om" => first | walk_at "pick" | with_reducible exact Nat.lt_trans (by assumption) (by walk_at "pick")
  k_with "k_mem" => first | exact List.Mem.head _ | assumption | exact List.mem_append_left _ (by assumption) | exact List.mem_append_right _ (by assumption) | (refine' List.Mem.tail _ ?_; k_extra "k_mem")
  k_with "room" => first | exact rm1 (by assumption) (by decide) | exact rm2 (by assumption) (by decide) | exact rm0 (by assumption) | exact rm3 (by assumption) (by decide) | ktr_room
  k_with "units" => first | exact rm1 (by assumption) (by decide) | exact rm2 (by assumption) (by decide) | exact rm0 (by assumption) | exact rm3 (by assumption) (by decide) | ktr_units
  k_with "lt" => try ((rename ∀ p ∈ (_ : List (Addr × Obj)), @LT.lt Nat _ p.1 _ => q9l9); k_lt q9l9; revert q9l9; intro _)
  k_with "dn" => try dsimp only [List.cons_append, List.nil_append] at ‹News _ _ _ _›
  k_with "dd" => try dsimp only [List.cons_append, List.nil_append] at ‹Obj.IsDictOf _ _ _›
  k_with "ds" => try dsimp only [List.cons_append, List.nil_append] at ‹LexSt _ _ _ _ _›
  k_with "end 0" => (intro q9g' q9L' q9h' q9off' q9FG' q9F' q9N' q9B' q9X' q9T' q9l0'; (try k_lt q9l0'); (try dsimp only); (try k_lift q9B'); (try k_fold))
  k_with "end 1" => (intro q9g' q9L' q9h' q9tk' q9cells' q9off' q9FG' q9F' q9N' q9Y' q9B' q9X' q9T' q9l0'; (try k_lt q9l0'); k_cells q9Y'; (try dsimp only [List.cons_append, List.nil_append] at q9N'); (try dsimp only); (try k_lift q9B'); (try k_fold))
  k_with "enterF" => (k_dflt (refine' enterF (by k_asm) (by k_asm) (by k_asm) (by k_asm) (by k_asm) (by exact rfl) (by exact rfl) (by assumption) (by k_is) (by k_is) (by walk_at "room") (by first | exact BindsTo.of_eq rfl | exact binds_K (by k_in) rfl (by k_is) rfl rfl rfl) (by exact locs rfl) ?_ (by exact rfl) (by exact rfl) (by exact rfl) (by decide); k_whole; walk_at "end 0"))
  k_with "enterFC" => (k_dflt (refine' enterFC (by k_asm) (by k_asm) (by k_asm) (by k_asm) (by k_asm) (by exact rfl) (by exact rfl) (by assumption) (by k_is) (by k_is) (by walk_at "room") (by first | exact BindsTo.of_eq rfl | exact binds_K (by k_in) rfl (by k_is) rfl rfl rfl) (by exact rfl) (by decide +kernel) ?_ (by exact rfl) (by exact rfl) (by exact rfl); k_whole; walk_at "end 1"))
  k_with "k_del" => first | (refine' Del.head (by k_all)) | (refine' Del.tail (by k_ne) (by walk_at "k_del"))
  k_with "eval ListComp" => (k_here; k_dflt (refine lc_enter (by k_asm) (by with_unfolding_all rfl) (by decide) (by rfl) (by decide) ?_ (by intro _; rfl)))
  k_with "pyIter ref" => (k_here; k_dflt (first | (refine' pyIter_enum_N (by k_asm) (by k_mem) ?_; k_whole) | (refine' pyIter_tupo_N (by k_asm) (by k_asm) (by k_mem) ?_; k_whole; intros; walk_at "lt"; (try k_sweep)) | (refine' pyIter_list_N (by k_asm) (by k_asm) (by exact News.isList (by k_asm) (by k_mem)) ?_; k_whole; intros; walk_at "lt"; (try k_sweep))))
  k_with "exec Assign cons ListComp" => (k_here; k_dflt (refine' lc_assign (by k_asm) (by rfl) (by with_unfolding_all rfl) (by with_unfolding_all rfl) (by decide) (by rfl) (by decide) (by rfl) (by rfl) ?_ (by intro _; rfl)))
  k_with "k_all" => first | exact List.forall_mem_nil _ | exact LexSt.ne (by assumption) (by omega) | exact allNe_of (by assumption) | exact allNe_le (by assumption) (by omega) | exact allNe_gt (by assumption) | exact List.forall_mem_cons.mpr ⟨by k_ne, by k_extra "k_all"⟩
  k_with "subscriptTail" => (k_here; (with_reducible show wpAny _ _ (subscriptTail _ _ (Value.ref _) (Value.int _ _)) _ _ _); k_dflt (refine' itemL_N (by k_asm) (by k_mem) (by assumption) (by assumption) ?_ (by with_unfolding_all rfl); k_whole))
  k_with "binaryOp Add str str" => (k_here; (with_reducible show wpAny _ _ (binaryOp Operator.Add (Value.str _ _) (Value.str _ _)) _ _ _); k_dflt (refine' PyProof.Rows.add_str ?_ (by assumption); k_whole); intros)
  k_with "k_tail" => first | exact TailE.nil | (apply TailE.cons; walk_at "k_tail")
  k_with "k_allgt" => first | exact List.forall_mem_nil _ | (refine' List.forall_mem_cons.mpr ⟨(by ((try dsimp only); first | with_reducible assumption | omega)), (by walk_at "k_allgt")⟩)
  k_with "k_inE" => first | exact fun _ hq => hq | (refine' fun q hq => List.Mem.tail _ (?_ : ∀ q ∈ _, q ∈ _) q hq)
  k_with "exec While Name cons nil" => (k_here; k_dflt (refine wpAny_While ?_))
  k_with "codeAny" => (k_here; (with_reducible show codeAny _ _ (Code.whileLoop _ _ _ _) _ _); refine while_turn ?_; (try k_fold))
  k_with "truthy str" => (k_here; (first | (refine' truthy_yes (by assumption) (by assumption) ?_) | refine truthy_no ?_); intros)
  k_with "call type:int" => (k_here; (with_reducible show wpAny _ _ (call (Value.type "int") [Value.str _ _, Value.int _ _]) _ _ _); k_dflt (refine call_int8 (by assumption) ?_))
  k_with "setItem ref str" => (k_here; k_dflt (refine' dset_new (by k_asm) (by k_asm) (by k_updF) (by k_asm) (by first | exact vn0 | exact vn1 (by assumption) | exact vn2 (by assumption) (by assumption) | exact vn3 (by assumption) (by assumption) (by assumption)) (by exact Nat.le_of_ble_eq_true (by with_unfolding_all rfl)) ?_); intros; walk_at "dn"; walk_at "dd"; (try k_sweep))
  k_with "subscriptTail" => (k_here; (with_reducible show wpAny _ _ (subscriptTail _ _ (Value.ref _) (Value.str _ _)) _ _ _); k_dflt (refine' dget (by k_asm) (by k_mem) (by k_asm) (by first | assumption | exact vs0 | exact vs1 (by assumption) | exact vs2 (by assumption) (by assumption) | exact vs3 (by assumption) (by assumption) (by assumption)) ?_ (by with_unfolding_all rfl); k_whole); intros)
  k_with "binaryOp Mod str int" => (k_here; (refine mod_o (by assumption) ?_); intros)
  k_with "call ref" => (k_here; k_dflt (show wpAny _ _ (call (Value.ref 103) [_]) _ _ _); k_dflt (first | (refine' ConF.useLS (getPath (by assumption) (by assumption)) (by k_asm) (by k_asm) (by k_asm) (by k_asm) (by k_asm) (by exact rfl) (by (first | with_reducible assumption | omega | walk_at "room")) (by (first | with_reducible assumption | omega | walk_at "units")) (by walk_at "k_tail") (by exact LexSt.le (by assumption)) (by walk_at "k_allgt") ?_; k_whole; intros; walk_at "dn"; (try k_sweep)) | (refine' ConF.useLS (getOct (by assumption) (by assumption)) (by k_asm) (by k_asm) (by k_asm) (by k_asm) (by k_asm) (by exact rfl) (by (first | with_reducible assumption | omega | walk_at "room")) (by (first | with_reducible assumption | omega | walk_at "units")) (by walk_at "k_tail") (by exact LexSt.le (by assumption)) (by walk_at "k_allgt") ?_; k_whole; intros; walk_at "dn"; (try k_sweep)) | (refine' ConF.useLS (getE (by assumption)) (by k_asm) (by k_asm) (by k_asm) (by k_asm) (by k_asm) (by exact rfl) (by (first | with_reducible assumption | omega | walk_at "room")) (by (first | with_reducible assumption | omega | walk_at "units")) (by walk_at "k_tail") (by exact LexSt.le (by assumption)) (by walk_at "k_allgt") ?_; k_whole; intros; walk_at "dn"; (try k_sweep)) | (refine' ConF.useLE (getB (by assumption) (by first | decide | assumption | (simp only [List.length_append, List.length_cons, List.length_nil]; omega))) (by k_asm) (by k_asm) (by k_asm) (by k_asm) (by k_asm) (by exact rfl) (by (first | with_reducible assumption | omega | walk_at "room")) (by (first | with_reducible assumption | omega | walk_at "units")) (by walk_at "k_tail") (by exact LexSt.le (by assumption)) (by walk_at "k_allgt") ?_; k_whole; intros; walk_at "dn"; (try k_sweep))))
  k_with "call ref" => (k_here; k_dflt (show wpAny _ _ (call (Value.ref 110) [_, _]) _ _ _); k_dflt (refine' ConF.useLE (pushT (by assumption) (by first | decide | assumption | (simp only [List.length_append, List.length_cons, List.length_nil]; omega))) (by k_asm) (by k_asm) (by k_asm) (by k_asm) (by k_asm) (by exact rfl) (by (first | with_reducible assumption | omega | walk_at "room")) (by (first | with_reducible assumption | omega | walk_at "units")) (by walk_at "k_tail") (by exact LexSt.le (by assumption)) (by walk_at "k_allgt") ?_; k_whole; intros; walk_at "ds"; walk_at "dn"; (try k_sweep)))
  k_with "call ref" => (k_here; k_dflt (show wpAny _ _ (call (Value.ref 75) [Value.int _ _]) _ _ _); k_dflt (refine' ConF.use0S (fm_con _ _ _ _ _ _ (by assumption) _) (by k_asm) (by k_asm) (by k_asm) (by k_asm) (by k_asm) (by exact rfl) (by (first | with_reducible assumption | omega | walk_at "room")) (by (first | with_reducible assumption | omega | walk_at "units")) ?_; k_whole); intros; (try k_sweep))
  k_with "getMethod ref" => (k_here; k_dflt (first | (refine' lex_get (by assumption) (by k_asm) (by k_asm) (by k_asm) (by intro q hq; repeat (first | exact hq | apply List.Mem.tail)) ?_; k_whole) | (refine' lex_push (by assumption) (by k_asm) (by k_asm) (by k_asm) (by intro q hq; repeat (first | exact hq | apply List.Mem.tail)) ?_; k_whole)))
  k_with "pyIter ref" => (k_here; k_dflt (refine' dk_iter (by k_asm) (by k_asm) (by k_mem) (by assumption) (by assumption) ?_; k_whole); intros; walk_at "lt"; (try k_sweep))
  k_with "codeAny" => (k_here; (with_reducible show codeAny _ _ (Code.forLoop _ _ _ _ _) _ _); refine for_turnK ?_; (try k_fold))
  k_with "pyNext ref" => (k_here; k_dflt (first | (refine' dk_next (by k_asm) (by k_asm) (by k_updF) (by assumption) (by assumption) (by k_mem) (by exact rfl) ?_; k_whole; intros; walk_at "dn"; (try k_sweep)) | (refine' dk_stop (by rfl) (by k_asm) (by k_asm) (by walk_at "k_del") (by k_mem) (by assumption) (by assumption) (by k_mem) (by exact rfl) ?_; k_whole; intros; walk_at "dn"; (try k_sweep))))
  k_with "exec For Name Name cons nil" => (k_here; k_dflt (refine wpAny_For ?_ (by intro _; rfl)))
  k_with "eval DictComp" => (k_here; k_dflt (refine dc_enter (by k_asm) (by with_unfolding_all rfl) (by decide) (by rfl) (by decide) ?_ (by intro _; rfl)))
  k_with "call builtin:str.join" => (k_here; (with_reducible show wpAny _ _ (call (Value.builtin "str.join") [Value.str _ _, Value.ref _]) _ _ _); k_dflt (refine' join_Nl (by k_asm) (by k_mem) (by assumption) ?_; k_whole); intros)
  k_with "subscriptTail" => (k_here; (with_reducible show wpAny _ _ (subscriptTail _ _ (Value.ref _) (Value.ref _)) _ _ _); k_dflt (refine' slice_init (by k_asm) (by k_asm) (by k_mem) (by assumption) ?_ (by with_unfolding_all rfl) (by intro _; with_unfolding_all rfl); k_whole); intros; walk_at "lt"; (try k_sweep))
  k_with "subscriptTail" => (k_here; (with_reducible show wpAny _ _ (subscriptTail _ _ (Value.ref _) (Value.int _ _)) _ _ _); k_dflt (refine' last_N (by k_asm) (by k_mem) ?_ (by with_unfolding_all rfl); k_whole))
  k_with "pyIter ref" => (k_here; k_dflt (refine' pyIter_list_N (by k_asm) (by k_asm) (by exact News.isList (by k_asm) (by k_mem)) ?_; k_whole; intros; walk_at "lt"; (try k_sweep)))
  k_with "call ref" => (k_here; k_dflt (show wpAny _ _ (call (Value.ref 211) [Value.str _ _, Value.str _ _]) _ _ _); k_dflt (refine' ConF.use0S (join_con _ _ _ _ _ _ _ _ _ _ (by assumption) (by assumption) (by assumption) (by assumption) (by assumption)) (by k_asm) (by k_asm) (by k_asm) (by k_asm) (by k_asm) (by exact rfl) (by omega) (by omega) ?_; k_whole); intros; (try k_sweep))
  k_with "subscriptTail Name UnaryOp ref int" => (k_here; k_dflt (refine' last_N (by k_asm) (by k_mem) ?_ (by with_unfolding_all rfl); k_whole))
  k_with "binaryOp FloorDiv int int" => (k_here; (with_reducible refine floordiv_4 (by assumption) ?_); intros)
  k_with "binaryOp Mod int int" => (k_here; (with_reducible refine mod_4 ?_); intros)
  exact True.intro
theorem law_2 (w : World) (p : Program) (loose : List Str) (mean : ExcName → Option Value) (mg mb : Str → Option Value) (b0 b1 b2 b3 : Nat) (h0 : b0 < 64) (h1 : b1 < 64) (h2 : b2 < 64) (h3 : b3 < 64)
    (base g : Heap) (L fa : Addr) (cd : Value) (dA dR R0 R1 R2 R3 : Addr) (oc og oR : Obj) (l0 l1 l2 l3 : List (Str × Tok)) (e0 e1 e2 e3 cA cR : Nat) (u0 u1 u2 u3 : Tok) (m0 : Str → Option Value) (s : Shared) (Q : Flow → Shared → Prop) (E : Value → Shared → Prop)
    (B : Below callerA base [] g) (X : (hd.heap_39 w.params).In g) (T : Top p loose mean mg mb g)
    (F : Fr g L s.heap (fun y => if y = Str.ofString "numbers" then some (.ref dA) else m0 y))
    (N : News g L s.heap ((dA, W.listOf #[.int (b0 : Int) u0, .int (b1 : Int) u1, .int (b2 : Int) u2, .int (b3 : Int) u3] cA) :: (218, tabObj #[]) :: (dR, W.listOf #[.ref R0, .ref R1, .ref R2, .ref R3] cR) :: (R0, W.listOf (strValues l0).toArray e0) :: (R1, W.listOf (strValues l1).toArray e1) :: (R2, W.listOf (strValues l2).toArray e2) :: (R3, W.listOf (strValues l3).toArray e3) :: (L + 1 + 1 + 1, oc) :: (L + 1 + 1, og) :: (L + 1, oR) :: []))
    (q0 : l0.map (·.1) = rowStr (b0 % 4) 0) (q1 : l1.map (·.1) = rowStr (b1 % 4) 1) (q2 : l2.map (·.1) = rowStr (b2 % 4) 2) (q3 : l3.map (·.1) = rowStr (b3 % 4) 3)
    (a218 : @LT.lt Nat _ 218 L) (a1 : @LT.lt Nat _ (L + 1 + 1 + 1) dR) (a2 : @LT.lt Nat _ (L + 1 + 1 + 1) R0) (a3 : @LT.lt Nat _ (L + 1 + 1 + 1) R1) (a4 : @LT.lt Nat _ (L + 1 + 1 + 1) R2) (a5 : @LT.lt Nat _ (L + 1 + 1 + 1) R3) (a6 : @LT.lt Nat _ (L + 1 + 1 + 1) dA)
    (c1 : oR.data = .cell (some (.ref dR))) (vg : Option Value) (c2 : og.data = .cell vg) (vc : Option Value) (c3 : oc.data = .cell vc)
    (hQ : ∀ h' tk' m' news', Fr g L h' m' → News g L h' news' → GrownAt 218 h' → Q (.ret (.bool true)) { s with heap := h', toks := tk' }) :
    LawGoal w L fa cd Q E s (nthP 2).1 (nthP 2).2 := by
  refine' concL ?h ?hb ?_
  case h => exact rfl
  case hb => exact rfl
  unfold LawGoal
  revert X
  k_fill
  intro X
  have hdep : callerA.depth + 1 + 10 * 20 < recursionLimit := by decide +kernel
  have hun : callerA.units + 3 + 100 * 20 < cLine := by decide +kernel
  iterate 5 walk1
  rename_i I1 h1' F1 N1 lt1
  refine LcGo_list (items := #[.int (b0 : Int) u0, .int (b1 : Int) u1, .int (b2 : Int) u2, .int (b3 : Int) u3]) (p := fun _ => true) (G := fun i y mk => mk = [] ∧ ∃ t, y = .int (([b0, b1, b2, b3].getD i 0 / 4 : Nat) : Int) t) ?hn1 rfl F1 N1 ?hI1 (by k_mem) rfl rfl ?he1 ?hq1
  case hn1 => rw [sizeLine_eq]; exact Nat.le_of_ble_eq_true rfl
  case hI1 => k_all
  case he1 =>
    clear F1 N1
    intro C i s1 oC m₁ X' Kt Ks hi F2 N2 hO hB hC hT hF9
    obtain ⟨v, hv, hm⟩ := hB
    dsimp only [List.cons_append, List.nil_append] at N2
    obtain ⟨⟨t, rfl⟩, hb⟩ : (∃ t, v = .int (([b0, b1, b2, b3].getD i 0 : Nat) : Int) t) ∧ [b0, b1, b2, b3].getD i 0 < 64 := by
      rcases i with _ | _ | _ | _ | i
      · cases hv; exact ⟨⟨_, rfl⟩, h0⟩
      · cases hv; exact ⟨⟨_, rfl⟩, h1⟩
      · cases hv; exact ⟨⟨_, rfl⟩, h2⟩
      · cases hv; exact ⟨⟨_, rfl⟩, h3⟩
      · simp at hi; omega
    generalize [b0, b1, b2, b3].getD i 0 = b at *
    refine wpAny_tests_nil (ite_pos rfl ?_)
    iterate 4 walk1
    (rename Fr _ _ _ _ => kF9)
    (rename News _ _ _ _ => kN9)
    exact hT rfl _ [] _ _ ⟨rfl, _, rfl⟩ (by simp) kF9 kN9
  case hq1 =>
    clear F1 N1 lt1
    intro D ys made c9 h9 tk9 hR hlt _ F2 N2
    obtain ⟨y0, y1, y2, y3, n0, n1, n2, n3, rfl, rfl, ⟨rfl, v0, rfl⟩, ⟨rfl, v1, rfl⟩, ⟨rfl, v2, rfl⟩, ⟨rfl, v3, rfl⟩⟩ := hR.four
    simp only [List.append_nil] at N2
    k_lt hlt
    iterate 1 walk1
    (rename Fr _ _ _ _ => kF9)
    (rename News _ _ _ _ => kN9)
    show LawGoal w L fa cd _ _ _ (nthP 3).1 (nthP 3).2
    have gd : ∀ b, b < 64 → b / 4 < 16 := fun b h => by omega
    have gm : ∀ b, b % 4 < 4 := fun b => Nat.mod_lt _ (by decide)
    refine law_3 w p loose mean mg mb (b0 % 4) (b1 % 4) (b2 % 4) (b3 % 4) (gm _) (gm _) (gm _) (gm _) (b0 / 4) (b1 / 4) (b2 / 4) (b3 / 4) (gd _ h0) (gd _ h1) (gd _ h2) (gd _ h3) base g L fa cd dR R0 R1 R2 R3 D oc _ oR l0 l1 l2 l3 e0 e1 e2 e3 cR c9 v0 v1 v2 v3 _ _ _ _ B X T kF9 ?hN4 q0 q1 q2 q3 a218 a1 a2 a3 a4 a5 (by first | assumption | walk_at "om" | omega) c1 (by first | assumption | walk_at "om" | omega) vc c3 fun h' tk' m' news' F' N' => hQ h' tk' m' news' F' N'
    case hN4 =>
      intro q hq
      refine kN9 q ?_
      rcases List.mem_cons.mp hq with rfl | hq
      · exact .tail _ (.tail _ (.head _))
      rcases List.mem_cons.mp hq with rfl | hq
      · exact .tail _ (.tail _ (.tail _ (.head _)))
      rcases List.mem_cons.mp hq with rfl | hq
      · exact .tail _ (.tail _ (.tail _ (.tail _ (.head _))))
      rcases List.mem_cons.mp hq with rfl | hq
      · exact .tail _ (.tail _ (.tail _ (.tail _ (.tail _ (.head _)))))
      rcases List.mem_cons.mp hq with rfl | hq
      · exact .tail _ (.tail _ (.tail _ (.tail _ (.tail _ (.tail _ (.head _))))))
      rcases List.mem_cons.mp hq with rfl | hq
      · exact .tail _ (.tail _ (.tail _ (.tail _ (.tail _ (.tail _ (.tail _ (.head _)))))))
      rcases List.mem_cons.mp hq with rfl | hq
      · exact .head _
      · exact .tail _ (.tail _ (.tail _ (.tail _ (.tail _ (.tail _ (.tail _ (.tail _ hq)))))))
end
section
open PyProof.Rows.LCg
theorem rulesLaw1T : True := by
  k_with_none
  k_with "k_ne" => (refine neN ?_; (try dsimp only); first | exact Nat.ne_of_lt (by with_reducible assumption) | exact Nat.ne_of_gt (by with_reducible assumption) | with_reducible assumption | exact neL_up (by with_reducible assumption) | with_reducible exact neL_13 | with_reducible exact neL_23 | with_reducible exact neL_12 | with_reducible exact neL_31 | with_reducible exact neL_32 | with_reducible exact neL_21 | exact Nat.ne_of_gt (by walk_at "pick") | exact Nat.ne_of_lt (by walk_at "pick") | omega)
  k_with "pick" => first | with_reducible assumption | with_reducible exact j1 (by assumption) | with_reducible exact j2 (by assumption) | with_reducible exact j3 (by assumption) | with_reducible exact j4 (by assumption) | with_reducible exact j5 (by assumption) | with_reducible exact j6 (by assumption) | with_reducible exact j7 (by assumption) | with_reducible exact j8 (by assumption) | with_reducible exact j9 (by assumption) | with_reducible exact j10 (by assumption) | with_reducible exact j11 (by assumption) | with_reducible exact j12 (by assumption) | with_reducible exact j13 (by assumption) | with_reducible exact j14 (by assumption) | with_reducible exact j15 (by assumption)
  k_with "om" => first | walk_at "pick" | with_reducible exact Nat.lt_trans (by assumption) (by walk_at "pick")
  k_with "k_mem" => first | exact List.Mem.head _ | assumption | exact List.mem_append_left _ (by assumption) | exact List.mem_append_right _ (by assumption) | (refine' List.Mem.tail _ ?_; k_extra "k_mem")
  k_with "room" => first | exact rm1 (by assumption) (by decide) | exact rm2 (by assumption) (by decide) | exact rm0 (by assumption) | exact rm3 (by assumption) (by decide) | ktr_room
  k_with "units" => first | exact rm1 (by assumption) (by decide) | exact rm2 (by assumption) (by decide) | exact rm0 (by assumption) | exact rm3 (by assumption) (by decide) | ktr_units
  k_with "lt" => try ((rename ∀ p ∈ (_ : List (Addr × Obj)), @LT.lt Nat _ p.1 _ => q9l9); k_lt q9l9; revert q9l9; intro _)
  k_with "dn" => try dsimp only [List.cons_append, List.nil_append] at ‹News _ _ _ _›
  k_with "dd" => try dsimp only [List.cons_append, List.nil_append] at ‹Obj.IsDictOf _ _ _›
  k_with "ds" => try dsimp only [List.cons_append, List.nil_append] at ‹LexSt _ _ _ _ _›
  exact True.intro
theorem dig_eq : ∀ i, i < 4 → Str.ofString (toString ((i : Nat) : Int)) = dig i := by
  have key : ∀ i : _root_.Fin 4, Str.ofString (toString ((i.val : Nat) : Int)) = dig i.val := by decide +kernel
  exact fun i h => key ⟨i, h⟩
theorem mem_move7 {α : Type} {q d c a1 a2 a3 a4 a5 a6 : α} {E X : List α} (h : q ∈ c :: (E ++ ([d] ++ X))) : q ∈ d :: a1 :: a2 :: a3 :: a4 :: a5 :: a6 :: c :: (E ++ X) := by
  simp only [List.mem_append, List.mem_cons, List.not_mem_nil, or_false] at h ⊢
  grind
end
section
theorem rulesLaw1 : True := by
  k_with_none
  k_with "k_ne" => (refine neN ?_; (try dsimp only); first | exact Nat.ne_of_lt (by with_reducible assumption) | exact Nat.ne_of_gt (by with_reducible assumption) | with_reducible assumption | exact neL_up (by with_reducible assumption) | with_reducible exact neL_13 | with_reducible exact neL_23 | with_reducible exact neL_12 | with_reducible exact neL_31 | with_reducible exact neL_32 | with_reducible exact neL_21 | exact Nat.ne_of_gt (by walk_at "pick") | exact Nat.ne_of_lt (by walk_at "pick") | omega)
  k_with "pick" => first | with_reducible assumption | with_reducible exact j1 (by assumption) | with_reducible exact j2 (by assumption) | with_reducible exact j3 (by assumption) | with_reducible exact j4 (by assumption) | with_reducible exact j5 (by assumption) | with_reducible exact j6 (by assumption) | with_reducible exact j7 (by assumption) | with_reducible exact j8 (by assumption) | with_reducible exact j9 (by assumption) | with_reducible exact j10 (by assumption) | with_reducible exact j11 (by assumption) | with_reducible exact j12 (by assumption) | with_reducible exact j13 (by assumption) | with_reducible exact j14 (by assumption) | with_reducible exact j15 (by assumption)
  k_with "om" => first | walk_at "pick" | with_reducible exact Nat.lt_trans (by assumption) (by walk_at "pick")
  k_with "k_mem" => first | exact List.Mem.head _ | assumption | exact List.mem_append_left _ (by assumption) | exact List.mem_append_right _ (by assumption) | (refine' List.Mem.tail _ ?_; k_extra "k_mem")
  k_with "room" => first | exact rm1 (by assumption) (by decide) | exact rm2 (by assumption) (by decide) | exact rm0 (by assumption) | exact rm3 (by assumption) (by decide) | ktr_room
  k_with "units" => first | exact rm1 (by assumption) (by decide) | exact rm2 (by assumption) (by decide) | exact rm0 (by assumption) | exact rm3 (by assumption) (by decide) | ktr_units
  k_with "lt" => try ((rename ∀ p ∈ (_ : List (Addr × Obj)), @LT.lt Nat _ p.1 _ => q9l9); k_lt q9l9; revert q9l9; intro _)
  k_with "dn" => try dsimp only [List.cons_append, List.nil_append] at ‹News _ _ _ _›
  k_with "dd" => try dsimp only [List.cons_append, List.nil_append] at ‹Obj.IsDictOf _ _ _›
  k_with "ds" => try dsimp only [List.cons_append, List.nil_append] at ‹LexSt _ _ _ _ _›
  k_with "end 0" => (intro q9g' q9L' q9h' q9off' q9FG' q9F' q9N' q9B' q9X' q9T' q9l0'; (try k_lt q9l0'); (try dsimp only); (try k_lift q9B'); (try k_fold))
  k_with "end 1" => (intro q9g' q9L' q9h' q9tk' q9cells' q9off' q9FG' q9F' q9N' q9Y' q9B' q9X' q9T' q9l0'; (try k_lt q9l0'); k_cells q9Y'; (try dsimp only [List.cons_append, List.nil_append] at q9N'); (try dsimp only); (try k_lift q9B'); (try k_fold))
  k_with "enterF" => (k_dflt (refine' enterF (by k_asm) (by k_asm) (by k_asm) (by k_asm) (by k_asm) (by exact rfl) (by exact rfl) (by assumption) (by k_is) (by k_is) (by walk_at "room") (by first | exact BindsTo.of_eq rfl | exact binds_K (by k_in) rfl (by k_is) rfl rfl rfl) (by exact locs rfl) ?_ (by exact rfl) (by exact rfl) (by exact rfl) (by decide); k_whole; walk_at "end 0"))
  k_with "enterFC" => (k_dflt (refine' enterFC (by k_asm) (by k_asm) (by k_asm) (by k_asm) (by k_asm) (by exact rfl) (by exact rfl) (by assumption) (by k_is) (by k_is) (by walk_at "room") (by first | exact BindsTo.of_eq rfl | exact binds_K (by k_in) rfl (by k_is) rfl rfl rfl) (by exact rfl) (by decide +kernel) ?_ (by exact rfl) (by exact rfl) (by exact rfl); k_whole; walk_at "end 1"))
  k_with "k_del" => first | (refine' Del.head (by k_all)) | (refine' Del.tail (by k_ne) (by walk_at "k_del"))
  k_with "eval ListComp" => (k_here; k_dflt (refine lc_enter (by k_asm) (by with_unfolding_all rfl) (by decide) (by rfl) (by decide) ?_ (by intro _; rfl)))
  k_with "pyIter ref" => (k_here; k_dflt (first | (refine' pyIter_enum_N (by k_asm) (by k_mem) ?_; k_whole) | (refine' pyIter_tupo_N (by k_asm) (by k_asm) (by k_mem) ?_; k_whole; intros; walk_at "lt"; (try k_sweep)) | (refine' pyIter_list_N (by k_asm) (by k_asm) (by exact News.isList (by k_asm) (by k_mem)) ?_; k_whole; intros; walk_at "lt"; (try k_sweep))))
  k_with "exec Assign cons ListComp" => (k_here; k_dflt (refine' lc_assign (by k_asm) (by rfl) (by with_unfolding_all rfl) (by with_unfolding_all rfl) (by decide) (by rfl) (by decide) (by rfl) (by rfl) ?_ (by intro _; rfl)))
  k_with "k_all" => first | exact List.forall_mem_nil _ | exact LexSt.ne (by assumption) (by omega) | exact allNe_of (by assumption) | exact allNe_le (by assumption) (by omega) | exact allNe_gt (by assumption) | exact List.forall_mem_cons.mpr ⟨by k_ne, by k_extra "k_all"⟩
  k_with "subscriptTail" => (k_here; (with_reducible show wpAny _ _ (subscriptTail _ _ (Value.ref _) (Value.int _ _)) _ _ _); k_dflt (refine' itemL_N (by k_asm) (by k_mem) (by assumption) (by assumption) ?_ (by with_unfolding_all rfl); k_whole))
  k_with "binaryOp Add str str" => (k_here; (with_reducible show wpAny _ _ (binaryOp Operator.Add (Value.str _ _) (Value.str _ _)) _ _ _); k_dflt (refine' PyProof.Rows.add_str ?_ (by assumption); k_whole); intros)
  k_with "k_tail" => first | exact TailE.nil | (apply TailE.cons; walk_at "k_tail")
  k_with "k_allgt" => first | exact List.forall_mem_nil _ | (refine' List.forall_mem_cons.mpr ⟨(by ((try dsimp only); first | with_reducible assumption | omega)), (by walk_at "k_allgt")⟩)
  k_with "k_inE" => first | exact fun _ hq => hq | (refine' fun q hq => List.Mem.tail _ (?_ : ∀ q ∈ _, q ∈ _) q hq)
  k_with "exec While Name cons nil" => (k_here; k_dflt (refine wpAny_While ?_))
  k_with "codeAny" => (k_here; (with_reducible show codeAny _ _ (Code.whileLoop _ _ _ _) _ _); refine while_turn ?_; (try k_fold))
  k_with "truthy str" => (k_here; (first | (refine' truthy_yes (by assumption) (by assumption) ?_) | refine truthy_no ?_); intros)
  k_with "call type:int" => (k_here; (with_reducible show wpAny _ _ (call (Value.type "int") [Value.str _ _, Value.int _ _]) _ _ _); k_dflt (refine call_int8 (by assumption) ?_))
  k_with "setItem ref str" => (k_here; k_dflt (refine' dset_new (by k_asm) (by k_asm) (by k_updF) (by k_asm) (by first | exact vn0 | exact vn1 (by assumption) | exact vn2 (by assumption) (by assumption) | exact vn3 (by assumption) (by assumption) (by assumption)) (by exact Nat.le_of_ble_eq_true (by with_unfolding_all rfl)) ?_); intros; walk_at "dn"; walk_at "dd"; (try k_sweep))
  k_with "subscriptTail" => (k_here; (with_reducible show wpAny _ _ (subscriptTail _ _ (Value.ref _) (Value.str _ _)) _ _ _); k_dflt (refine' dget (by k_asm) (by k_mem) (by k_asm) (by first | assumption | exact vs0 | exact vs1 (by assumption) | exact vs2 (by assumption) (by assumption) | exact vs3 (by assumption) (by assumption) (by assumption)) ?_ (by with_unfolding_all rfl); k_whole); intros)
  k_with "binaryOp Mod str int" => (k_here; (refine mod_o (by assumption) ?_); intros)
  k_with "call ref" => (k_here; k_dflt (show wpAny _ _ (call (Value.ref 103) [_]) _ _ _); k_dflt (first | (refine' ConF.useLS (getPath (by assumption) (by assumption)) (by k_asm) (by k_asm) (by k_asm) (by k_asm) (by k_asm) (by exact rfl) (by (first | with_reducible assumption | omega | walk_at "room")) (by (first | with_reducible assumption | omega | walk_at "units")) (by walk_at "k_tail") (by exact LexSt.le (by assumption)) (by walk_at "k_allgt") ?_; k_whole; intros; walk_at "dn"; (try k_sweep)) | (refine' ConF.useLS (getOct (by assumption) (by assumption)) (by k_asm) (by k_asm) (by k_asm) (by k_asm) (by k_asm) (by exact rfl) (by (first | with_reducible assumption | omega | walk_at "room")) (by (first | with_reducible assumption | omega | walk_at "units")) (by walk_at "k_tail") (by exact LexSt.le (by assumption)) (by walk_at "k_allgt") ?_; k_whole; intros; walk_at "dn"; (try k_sweep)) | (refine' ConF.useLS (getE (by assumption)) (by k_asm) (by k_asm) (by k_asm) (by k_asm) (by k_asm) (by exact rfl) (by (first | with_reducible assumption | omega | walk_at "room")) (by (first | with_reducible assumption | omega | walk_at "units")) (by walk_at "k_tail") (by exact LexSt.le (by assumption)) (by walk_at "k_allgt") ?_; k_whole; intros; walk_at "dn"; (try k_sweep)) | (refine' ConF.useLE (getB (by assumption) (by first | decide | assumption | (simp only [List.length_append, List.length_cons, List.length_nil]; omega))) (by k_asm) (by k_asm) (by k_asm) (by k_asm) (by k_asm) (by exact rfl) (by (first | with_reducible assumption | omega | walk_at "room")) (by (first | with_reducible assumption | omega | walk_at "units")) (by walk_at "k_tail") (by exact LexSt.le (by assumption)) (by walk_at "k_allgt") ?_; k_whole; intros; walk_at "dn"; (try k_sweep))))
  k_with "call ref" => (k_here; k_dflt (show wpAny _ _ (call (Value.ref 110) [_, _]) _ _ _); k_dflt (refine' ConF.useLE (pushT (by assumption) (by first | decide | assumption | (simp only [List.length_append, List.length_cons, List.length_nil]; omega))) (by k_asm) (by k_asm) (by k_asm) (by k_asm) (by k_asm) (by exact rfl) (by (first | with_reducible assumption | omega | walk_at "room")) (by (first | with_reducible assumption | omega | walk_at "units")) (by walk_at "k_tail") (by exact LexSt.le (by assumption)) (by walk_at "k_allgt") ?_; k_whole; intros; walk_at "ds"; walk_at "dn"; (try k_sweep)))
  k_with "call ref" => (k_here; k_dflt (show wpAny _ _ (call (Value.ref 75) [Value.int _ _]) _ _ _); k_dflt (refine' ConF.use0S (fm_con _ _ _ _ _ _ (by assumption) _) (by k_asm) (by k_asm) (by k_asm) (by k_asm) (by k_asm) (by exact rfl) (by (first | with_reducible assumption | omega | walk_at "room")) (by (first | with_reducible assumption | omega | walk_at "units")) ?_; k_whole); intros; (try k_sweep))
  k_with "getMethod ref" => (k_here; k_dflt (first | (refine' lex_get (by assumption) (by k_asm) (by k_asm) (by k_asm) (by intro q hq; repeat (first | exact hq | apply List.Mem.tail)) ?_; k_whole) | (refine' lex_push (by assumption) (by k_asm) (by k_asm) (by k_asm) (by intro q hq; repeat (first | exact hq | apply List.Mem.tail)) ?_; k_whole)))
  k_with "pyIter ref" => (k_here; k_dflt (refine' dk_iter (by k_asm) (by k_asm) (by k_mem) (by assumption) (by assumption) ?_; k_whole); intros; walk_at "lt"; (try k_sweep))
  k_with "codeAny" => (k_here; (with_reducible show codeAny _ _ (Code.forLoop _ _ _ _ _) _ _); refine for_turnK ?_; (try k_fold))
  k_with "pyNext ref" => (k_here; k_dflt (first | (refine' dk_next (by k_asm) (by k_asm) (by k_updF) (by assumption) (by assumption) (by k_mem) (by exact rfl) ?_; k_whole; intros; walk_at "dn"; (try k_sweep)) | (refine' dk_stop (by rfl) (by k_asm) (by k_asm) (by walk_at "k_del") (by k_mem) (by assumption) (by assumption) (by k_mem) (by exact rfl) ?_; k_whole; intros; walk_at "dn"; (try k_sweep))))
  k_with "exec For Name Name cons nil" => (k_here; k_dflt (refine wpAny_For ?_ (by intro _; rfl)))
  k_with "eval DictComp" => (k_here; k_dflt (refine dc_enter (by k_asm) (by with_unfolding_all rfl) (by decide) (by rfl) (by decide) ?_ (by intro _; rfl)))
  k_with "call builtin:str.join" => (k_here; (with_reducible show wpAny _ _ (call (Value.builtin "str.join") [Value.str _ _, Value.ref _]) _ _ _); k_dflt (refine' join_Nl (by k_asm) (by k_mem) (by assumption) ?_; k_whole); intros)
  k_with "subscriptTail" => (k_here; (with_reducible show wpAny _ _ (subscriptTail _ _ (Value.ref _) (Value.ref _)) _ _ _); k_dflt (refine' slice_init (by k_asm) (by k_asm) (by k_mem) (by assumption) ?_ (by with_unfolding_all rfl) (by intro _; with_unfolding_all rfl); k_whole); intros; walk_at "lt"; (try k_sweep))
  k_with "subscriptTail" => (k_here; (with_reducible show wpAny _ _ (subscriptTail _ _ (Value.ref _) (Value.int _ _)) _ _ _); k_dflt (refine' last_N (by k_asm) (by k_mem) ?_ (by with_unfolding_all rfl); k_whole))
  k_with "pyIter ref" => (k_here; k_dflt (refine' pyIter_list_N (by k_asm) (by k_asm) (by exact News.isList (by k_asm) (by k_mem)) ?_; k_whole; intros; walk_at "lt"; (try k_sweep)))
  k_with "call ref" => (k_here; k_dflt (show wpAny _ _ (call (Value.ref 211) [Value.str _ _, Value.str _ _]) _ _ _); k_dflt (refine' ConF.use0S (join_con _ _ _ _ _ _ _ _ _ _ (by assumption) (by assumption) (by assumption) (by assumption) (by assumption)) (by k_asm) (by k_asm) (by k_asm) (by k_asm) (by k_asm) (by exact rfl) (by omega) (by omega) ?_; k_whole); intros; (try k_sweep))
  k_with "subscriptTail Name UnaryOp ref int" => (k_here; k_dflt (refine' last_N (by k_asm) (by k_mem) ?_ (by with_unfolding_all rfl); k_whole))
  k_with "binaryOp FloorDiv int int" => (k_here; (with_reducible refine floordiv_4 (by assumption) ?_); intros)
  k_with "binaryOp Mod int int" => (k_here; (with_reducible refine mod_4 ?_); intros)
  k_with "call type:enumerate" => (k_here; k_dflt (refine' enum_list_N (by k_asm) (by k_asm) (by exact News.isList (by k_asm) (by k_mem)) ?_; k_whole); intros; walk_at "lt"; (try k_sweep))
  k_with "subscriptTail List BinOp ref int" => (k_here; k_dflt (refine' itemL_N (by k_asm) (by exact List.Mem.head _) (by exact rfl) (by exact Nat.le_of_ble_eq_true rfl) ?_ (by with_unfolding_all rfl); k_whole))
  exact True.intro
theorem law_1 (w : World) (p : Program) (loose : List Str) (mean : ExcName → Option Value) (mg mb : Str → Option Value) (b0 b1 b2 b3 : Nat) (h0 : b0 < 64) (h1 : b1 < 64) (h2 : b2 < 64) (h3 : b3 < 64)
    (base g : Heap) (L fa : Addr) (cd : Value) (dA : Addr) (oc og oR : Obj) (cA : Nat) (u0 u1 u2 u3 : Tok) (m0 : Str → Option Value) (s : Shared) (Q : Flow → Shared → Prop) (E : Value → Shared → Prop)
    (B : Below callerA base [] g) (X : (hd.heap_39 w.params).In g) (T : Top p loose mean mg mb g)
    (F : Fr g L s.heap (fun y => if y = Str.ofString "numbers" then some (.ref dA) else m0 y))
    (N : News g L s.heap ((dA, W.listOf #[.int (b0 : Int) u0, .int (b1 : Int) u1, .int (b2 : Int) u2, .int (b3 : Int) u3] cA) :: (218, tabObj #[]) :: (L + 1 + 1 + 1, oc) :: (L + 1 + 1, og) :: (L + 1, oR) :: []))
    (a218 : @LT.lt Nat _ 218 L) (a6 : @LT.lt Nat _ (L + 1 + 1 + 1) dA)
    (vR : Option Value) (c1 : oR.data = .cell vR) (vg : Option Value) (c2 : og.data = .cell vg) (vc : Option Value) (c3 : oc.data = .cell vc)
    (hQ : ∀ h' tk' m' news', Fr g L h' m' → News g L h' news' → GrownAt 218 h' → Q (.ret (.bool true)) { s with heap := h', toks := tk' }) :
    LawGoal w L fa cd Q E s (nthP 1).1 (nthP 1).2 := by
  refine' concL ?h ?hb ?_
  case h => exact rfl
  case hb => exact rfl
  unfold LawGoal
  revert X
  k_fill
  intro X
  have hdep : callerA.depth + 1 + 10 * 20 < recursionLimit := by decide +kernel
  have hun : callerA.units + 3 + 100 * 20 < cLine := by decide +kernel
  iterate 1 walk1
  refine wpAny_Assign_Name ?_
  iterate 8 walk1
  rename_i e1 it1 h1' F1 N1 O1 lt1
  refine wpAny_pyIter_enum (N1 _ (.head _)).1 ?_
  refine LcGo_ens (items := #[.int (b0 : Int) u0, .int (b1 : Int) u1, .int (b2 : Int) u2, .int (b3 : Int) u3]) (p := fun _ => true) (G := fun i y mk => ∃ D l n, y = .ref D ∧ mk = [(D, W.listOf (strValues l).toArray n)] ∧ l.map (·.1) = rowStr ([b0, b1, b2, b3].getD i 0 % 4) i) ?hn1 rfl O1 F1 N1 ?hI1 (.head _) rfl rfl rfl (by decide) ?he1 ?hq1
  case hn1 => rw [sizeLine_eq]; exact Nat.le_of_ble_eq_true rfl
  case hI1 =>
    intro q hq
    simp only [List.mem_cons, List.not_mem_nil, or_false] at hq
    rcases hq with rfl | rfl | rfl | rfl | rfl <;> (dsimp only; omega)
  case he1 =>
    clear F1 N1 lt1 O1
    intro C i s1 oC m₁ X' Kt Ks hi F2 N2 hO hB hC hT hF9
    obtain ⟨tk9, v, hv, hm1, hm2⟩ := hB
    dsimp only [List.cons_append, List.nil_append] at N2
    have hi4 : i < 4 := hi
    obtain ⟨⟨t, rfl⟩, hb⟩ : (∃ t, v = .int (([b0, b1, b2, b3].getD i 0 : Nat) : Int) t) ∧ [b0, b1, b2, b3].getD i 0 < 64 := by
      rcases i with _ | _ | _ | _ | i
      · cases hv; exact ⟨⟨_, rfl⟩, h0⟩
      · cases hv; exact ⟨⟨_, rfl⟩, h1⟩
      · cases hv; exact ⟨⟨_, rfl⟩, h2⟩
      · cases hv; exact ⟨⟨_, rfl⟩, h3⟩
      · omega
    generalize [b0, b1, b2, b3].getD i 0 = b at *
    refine wpAny_tests_nil ?_
    rw [if_pos rfl]
    iterate 37 walk1
    have hr4 : b % 4 < 4 := Nat.mod_lt _ (by decide)
    generalize b % 4 = r at *
    rcases r with _ | _ | _ | _ | r
    · refine' itemL_N ?N ?m ?x ?z ?_ ?hs; (case N => k_asm); (case m => exact List.Mem.head _); (case x => exact rfl); (case z => exact Nat.le_of_ble_eq_true rfl); (case hs => with_unfolding_all rfl)
      iterate 12 walk1
      rename_i D9 h9 F9 N9 l9
      obtain ⟨t09, t19, n9, N10⟩ : ∃ t09 t19 n9, News g L h9 ((D9, W.listOf #[.str (Str.ofString "a") t09, .str (Str.ofString (toString ((i : Nat) : Int))) t19] n9) :: _) := ⟨_, _, _, N9⟩
      refine hT rfl _ [(D9, W.listOf #[Value.str (Str.ofString "a") t09, Value.str (Str.ofString (toString ((i : Nat) : Int))) t19] n9)] _ _ ⟨D9, [(Str.ofString "a", t09), (Str.ofString (toString ((i : Nat) : Int)), t19)], n9, rfl, rfl, ?_⟩ (fun q hq r hr => ?_) F9 (fun q hq => N10 q (mem_move7 hq))
      · show [Str.ofString "a", Str.ofString (toString ((i : Nat) : Int))] = _
        rw [dig_eq i hi4]; rfl
      · rw [List.mem_singleton.mp hq]
        refine allLt_mem ?_ hr
        exact l9.2.2.2.2.2.2
    · refine' itemL_N ?N ?m ?x ?z ?_ ?hs; (case N => k_asm); (case m => exact List.Mem.head _); (case x => exact rfl); (case z => exact Nat.le_of_ble_eq_true rfl); (case hs => with_unfolding_all rfl)
      iterate 12 walk1
      rename_i D9 h9 F9 N9 l9
      obtain ⟨t09, t19, t29, n9, N10⟩ : ∃ t09 t19 t29 n9, News g L h9 ((D9, W.listOf #[.str (Str.ofString "a") t09, .str (Str.ofString "b") t19, .str (Str.ofString (toString ((i : Nat) : Int))) t29] n9) :: _) := ⟨_, _, _, _, N9⟩
      refine hT rfl _ [(D9, W.listOf #[Value.str (Str.ofString "a") t09, Value.str (Str.ofString "b") t19, Value.str (Str.ofString (toString ((i : Nat) : Int))) t29] n9)] _ _ ⟨D9, [(Str.ofString "a", t09), (Str.ofString "b", t19), (Str.ofString (toString ((i : Nat) : Int)), t29)], n9, rfl, rfl, ?_⟩ (fun q hq r hr => ?_) F9 (fun q hq => N10 q (mem_move7 hq))
      · show [Str.ofString "a", Str.ofString "b", Str.ofString (toString ((i : Nat) : Int))] = _
        rw [dig_eq i hi4]; rfl
      · rw [List.mem_singleton.mp hq]
        refine allLt_mem ?_ hr
        exact l9.2.2.2.2.2.2
    · refine' itemL_N ?N ?m ?x ?z ?_ ?hs; (case N => k_asm); (case m => exact List.Mem.head _); (case x => exact rfl); (case z => exact Nat.le_of_ble_eq_true rfl); (case hs => with_unfolding_all rfl)
      iterate 12 walk1
      rename_i D9 h9 F9 N9 l9
      obtain ⟨t09, t19, t29, n9, N10⟩ : ∃ t09 t19 t29 n9, News g L h9 ((D9, W.listOf #[.str (Str.ofString "a") t09, .str (Str.ofString "b c") t19, .str (Str.ofString (toString ((i : Nat) : Int))) t29] n9) :: _) := ⟨_, _, _, _, N9⟩
      refine hT rfl _ [(D9, W.listOf #[Value.str (Str.ofString "a") t09, Value.str (Str.ofString "b c") t19, Value.str (Str.ofString (toString ((i : Nat) : Int))) t29] n9)] _ _ ⟨D9, [(Str.ofString "a", t09), (Str.ofString "b c", t19), (Str.ofString (toString ((i : Nat) : Int)), t29)], n9, rfl, rfl, ?_⟩ (fun q hq r hr => ?_) F9 (fun q hq => N10 q (mem_move7 hq))
      · show [Str.ofString "a", Str.ofString "b c", Str.ofString (toString ((i : Nat) : Int))] = _
        rw [dig_eq i hi4]; rfl
      · rw [List.mem_singleton.mp hq]
        refine allLt_mem ?_ hr
        exact l9.2.2.2.2.2.2
    · refine' itemL_N ?N ?m ?x ?z ?_ ?hs; (case N => k_asm); (case m => exact List.Mem.head _); (case x => exact rfl); (case z => exact Nat.le_of_ble_eq_true rfl); (case hs => with_unfolding_all rfl)
      iterate 12 walk1
      rename_i D9 h9 F9 N9 l9
      obtain ⟨t09, t19, n9, N10⟩ : ∃ t09 t19 n9, News g L h9 ((D9, W.listOf #[.str (Str.ofString "d") t09, .str (Str.ofString (toString ((i : Nat) : Int))) t19] n9) :: _) := ⟨_, _, _, N9⟩
      refine hT rfl _ [(D9, W.listOf #[Value.str (Str.ofString "d") t09, Value.str (Str.ofString (toString ((i : Nat) : Int))) t19] n9)] _ _ ⟨D9, [(Str.ofString "d", t09), (Str.ofString (toString ((i : Nat) : Int)), t19)], n9, rfl, rfl, ?_⟩ (fun q hq r hr => ?_) F9 (fun q hq => N10 q (mem_move7 hq))
      · show [Str.ofString "d", Str.ofString (toString ((i : Nat) : Int))] = _
        rw [dig_eq i hi4]; rfl
      · rw [List.mem_singleton.mp hq]
        refine allLt_mem ?_ hr
        exact l9.2.2.2.2.2.2
    · omega
  case hq1 =>
    clear F1 N1
    intro D ys made c9 h9 tk9 hR hlt hmade F2 N2
    obtain ⟨y0, y1, y2, y3, n0, n1, n2, n3, rfl, rfl, ⟨R0, l0, e0, rfl, rfl, q0⟩, ⟨R1, l1, e1, rfl, rfl, q1⟩, ⟨R2, l2, e2, rfl, rfl, q2⟩, ⟨R3, l3, e3, rfl, rfl, q3⟩⟩ := hR.four
    have z3 := hmade _ (.head _)
    have z2 := hmade _ (.tail _ (.head _))
    have z1 := hmade _ (.tail _ (.tail _ (.head _)))
    have z0 := hmade _ (.tail _ (.tail _ (.tail _ (.head _))))
    simp only [List.append_nil, List.cons_append, List.nil_append] at N2
    dsimp only at z0 z1 z2 z3
    clear hmade hR
    k_lt hlt
    iterate 1 walk1
    (rename Fr _ _ _ _ => kF9)
    (rename News _ _ _ _ => kN9)
    show LawGoal w L fa cd _ _ _ (nthP 2).1 (nthP 2).2
    refine law_2 w p loose mean mg mb b0 b1 b2 b3 h0 h1 h2 h3 base g L fa cd dA D R0 R1 R2 R3 oc og _ l0 l1 l2 l3 e0 e1 e2 e3 cA c9 u0 u1 u2 u3 m0 _ _ _ B X T kF9 ?hN4 q0 q1 q2 q3 a218 ?z1 ?z2 ?z3 ?z4 ?z5 a6 (by assumption) vg c2 vc c3 fun h' tk' m' news' F' N' => hQ h' tk' m' news' F' N'
    case z1 => first | assumption | omega
    case z2 => omega
    case z3 => omega
    case z4 => omega
    case z5 => omega
    case hN4 =>
      intro q hq
      refine kN9 q ?_
      simp only [List.mem_cons, List.not_mem_nil, or_false] at hq ⊢
      grind
end
section
open PyProof.Rows.LCg
theorem rulesLaw0T : True := by
  k_with_none
  k_with "k_ne" => (refine neN ?_; (try dsimp only); first | exact Nat.ne_of_lt (by with_reducible assumption) | exact Nat.ne_of_gt (by with_reducible assumption) | with_reducible assumption | exact neL_up (by with_reducible assumption) | with_reducible exact neL_13 | with_reducible exact neL_23 | with_reducible exact neL_12 | with_reducible exact neL_31 | with_reducible exact neL_32 | with_reducible exact neL_21 | exact Nat.ne_of_gt (by walk_at "pick") | exact Nat.ne_of_lt (by walk_at "pick") | omega)
  k_with "pick" => first | with_reducible assumption | with_reducible exact j1 (by assumption) | with_reducible exact j2 (by assumption) | with_reducible exact j3 (by assumption) | with_reducible exact j4 (by assumption) | with_reducible exact j5 (by assumption) | with_reducible exact j6 (by assumption) | with_reducible exact j7 (by assumption) | with_reducible exact j8 (by assumption) | with_reducible exact j9 (by assumption) | with_reducible exact j10 (by assumption) | with_reducible exact j11 (by assumption) | with_reducible exact j12 (by assumption) | with_reducible exact j13 (by assumption) | with_reducible exact j14 (by assumption) | with_reducible exact j15 (by assumption)
  k_with "om" => first | walk_at "pick" | with_reducible exact Nat.lt_trans (by assumption) (by walk_at "pick")
  k_with "k_mem" => first | exact List.Mem.head _ | assumption | exact List.mem_append_left _ (by assumption) | exact List.mem_append_right _ (by assumption) | (refine' List.Mem.tail _ ?_; k_extra "k_mem")
  k_with "room" => first | exact rm1 (by assumption) (by decide) | exact rm2 (by assumption) (by decide) | exact rm0 (by assumption) | exact rm3 (by assumption) (by decide) | ktr_room
  k_with "units" => first | exact rm1 (by assumption) (by decide) | exact rm2 (by assumption) (by decide) | exact rm0 (by assumption) | exact rm3 (by assumption) (by decide) | ktr_units
  k_with "lt" => try ((rename ∀ p ∈ (_ : List (Addr × Obj)), @LT.lt Nat _ p.1 _ => q9l9); k_lt q9l9; revert q9l9; intro _)
  k_with "dn" => try dsimp only [List.cons_append, List.nil_append] at ‹News _ _ _ _›
  k_with "dd" => try dsimp only [List.cons_append, List.nil_append] at ‹Obj.IsDictOf _ _ _›
  k_with "ds" => try dsimp only [List.cons_append, List.nil_append] at ‹LexSt _ _ _ _ _›
  exact True.intro
section
variable {prog : Program} {w : World} {A : Around} {E : Value → Shared → Prop} {s : Shared} {Q : Value → Shared → Prop} {t u : Tok}
theorem mod_64 {a : Int} (h : ∀ t tk, Q (.int (((a % 64).toNat : Nat) : Int) t) { s with toks := tk }) : wpAny (model prog w) A (binaryOp .Mod (.int a t) (.int 64 u)) Q E s :=
  mod_int (by decide) (by
    have e : a.fmod 64 = (((a % 64).toNat : Nat) : Int) := by
      rw [Int.fmod_eq_emod_of_nonneg _ (by decide), Int.toNat_of_nonneg (Int.emod_nonneg _ (by decide))]
    rw [e]; exact h _ _)
end
noncomputable def intVals (l : List (Nat × Tok)) : List Value := l.map fun p => .int (p.1 : Int) p.2
theorem Res.ints64 {n : Nat} {ys : List Value} {made : Led} (h : Res (fun _ => true) (fun _ y mk => mk = [] ∧ ∃ (b : Nat) (t : Tok), y = .int (b : Int) t ∧ b < 64) n ys made) : made = [] ∧ ∃ l : List (Nat × Tok), ys = intVals l ∧ (∀ p ∈ l, p.1 < 64) ∧ l.length = n := by
  induction h with
  | nil => exact ⟨rfl, [], rfl, (fun _ h => nomatch h), rfl⟩
  | skip hq => cases hq
  | @take i ys made y mk hq _ g ih =>
    obtain ⟨rfl, l, rfl, h1, h2⟩ := ih
    obtain ⟨rfl, b, t, rfl, hb⟩ := g
    refine ⟨rfl, l ++ [(b, t)], by simp [intVals], fun p hp => ?_, by simp [h2]⟩
    rcases List.mem_append.mp hp with hp | hp
    · exact h1 p hp
    · rw [List.mem_singleton.mp hp]; exact hb
theorem len_two {α : Type} {l : List α} (h : l.length = 2) : ∃ a b, l = [a, b] := by
  rcases l with _ | ⟨a, _ | ⟨b, _ | ⟨c, l⟩⟩⟩
  · cases h
  · cases h
  · exact ⟨a, b, rfl⟩
  · cases h
theorem len_three {α : Type} {l : List α} (h : l.length = 3) : ∃ a b c, l = [a, b, c] := by
  rcases l with _ | ⟨a, l⟩
  · cases h
  · obtain ⟨b, c, rfl⟩ := len_two (show l.length = 2 by simpa using h)
    exact ⟨a, b, c, rfl⟩
theorem four_of {l : List (Nat × Tok)} {n : Nat} {t0 t1 t2 t3 : Tok} (h : ∀ p ∈ l, p.1 < 64) (hn : l.length = min 4 n) :
    ∃ b0 b1 b2 b3 u0 u1 u2 u3, b0 < 64 ∧ b1 < 64 ∧ b2 < 64 ∧ b3 < 64 ∧ intVals l ++ [Value.int 13 t0, .int 39 t1, .int 62 t2, .int 27 t3].drop n = [.int ((b0 : Nat) : Int) u0, .int ((b1 : Nat) : Int) u1, .int ((b2 : Nat) : Int) u2, .int ((b3 : Nat) : Int) u3] := by
  rcases n with _ | _ | _ | _ | n
  · obtain rfl := List.eq_nil_of_length_eq_zero hn
    exact ⟨13, 39, 62, 27, t0, t1, t2, t3, by decide, by decide, by decide, by decide, rfl⟩
  · obtain ⟨a, rfl⟩ := List.length_eq_one_iff.mp (show l.length = 1 from hn)
    exact ⟨a.1, 39, 62, 27, a.2, t1, t2, t3, h _ (.head _), by decide, by decide, by decide, rfl⟩
  · obtain ⟨a, b, rfl⟩ := len_two (show l.length = 2 from hn)
    exact ⟨a.1, b.1, 62, 27, a.2, b.2, t2, t3, h _ (.head _), h _ (.tail _ (.head _)), by decide, by decide, rfl⟩
  · obtain ⟨a, b, c, rfl⟩ := len_three (show l.length = 3 from hn)
    exact ⟨a.1, b.1, c.1, 27, a.2, b.2, c.2, t3, h _ (.head _), h _ (.tail _ (.head _)), h _ (.tail _ (.tail _ (.head _))), by decide, rfl⟩
  · have hn4 : l.length = 4 := by omega
    rcases l with _ | ⟨a, l⟩
    · cases hn4
    obtain ⟨b, c, d, rfl⟩ := len_three (show l.length = 3 by simpa using hn4)
    refine ⟨a.1, b.1, c.1, d.1, a.2, b.2, c.2, d.2, h _ (.head _), h _ (.tail _ (.head _)), h _ (.tail _ (.tail _ (.head _))), h _ (.tail _ (.tail _ (.tail _ (.head _)))), ?_⟩
    rw [List.drop_eq_nil_of_le (by simp)]
    rfl
theorem intsAre_mem : ∀ {vs : List Value} {ns : List Int}, IntsAre vs ns → ∀ v ∈ vs, ∃ (n : Int) (t : Tok), v = .int n t
  | _, _, .nil, _, h => nomatch h
  | _, _, .cons n t r, v, h => by
    rcases List.mem_cons.mp h with rfl | h
    · exact ⟨n, t, rfl⟩
    · exact intsAre_mem r v h
end
section
theorem rulesLaw0 : True := by
  k_with_none
  k_with "k_ne" => (refine neN ?_; (try dsimp only); first | exact Nat.ne_of_lt (by with_reducible assumption) | exact Nat.ne_of_gt (by with_reducible assumption) | with_reducible assumption | exact neL_up (by with_reducible assumption) | with_reducible exact neL_13 | with_reducible exact neL_23 | with_reducible exact neL_12 | with_reducible exact neL_31 | with_reducible exact neL_32 | with_reducible exact neL_21 | exact Nat.ne_of_gt (by walk_at "pick") | exact Nat.ne_of_lt (by walk_at "pick") | omega)
  k_with "pick" => first | with_reducible assumption | with_reducible exact j1 (by assumption) | with_reducible exact j2 (by assumption) | with_reducible exact j3 (by assumption) | with_reducible exact j4 (by assumption) | with_reducible exact j5 (by assumption) | with_reducible exact j6 (by assumption) | with_reducible exact j7 (by assumption) | with_reducible exact j8 (by assumption) | with_reducible exact j9 (by assumption) | with_reducible exact j10 (by assumption) | with_reducible exact j11 (by assumption) | with_reducible exact j12 (by assumption) | with_reducible exact j13 (by assumption) | with_reducible exact j14 (by assumption) | with_reducible exact j15 (by assumption)
  k_with "om" => first | walk_at "pick" | with_reducible exact Nat.lt_trans (by assumption) (by walk_at "pick")
  k_with "k_mem" => first | exact List.Mem.head _ | assumption | exact List.mem_append_left _ (by assumption) | exact List.mem_append_right _ (by assumption) | (refine' List.Mem.tail _ ?_; k_extra "k_mem")
  k_with "room" => first | exact rm1 (by assumption) (by decide) | exact rm2 (by assumption) (by decide) | exact rm0 (by assumption) | exact rm3 (by assumption) (by decide) | ktr_room
  k_with "units" => first | exact rm1 (by assumption) (by decide) | exact rm2 (by assumption) (by decide) | exact rm0 (by assumption) | exact rm3 (by assumption) (by decide) | ktr_units
  k_with "lt" => try ((rename ∀ p ∈ (_ : List (Addr × Obj)), @LT.lt Nat _ p.1 _ => q9l9); k_lt q9l9; revert q9l9; intro _)
  k_with "dn" => try dsimp only [List.cons_append, List.nil_append] at ‹News _ _ _ _›
  k_with "dd" => try dsimp only [List.cons_append, List.nil_append] at ‹Obj.IsDictOf _ _ _›
  k_with "ds" => try dsimp only [List.cons_append, List.nil_append] at ‹LexSt _ _ _ _ _›
  k_with "end 0" => (intro q9g' q9L' q9h' q9off' q9FG' q9F' q9N' q9B' q9X' q9T' q9l0'; (try k_lt q9l0'); (try dsimp only); (try k_lift q9B'); (try k_fold))
  k_with "end 1" => (intro q9g' q9L' q9h' q9tk' q9cells' q9off' q9FG' q9F' q9N' q9Y' q9B' q9X' q9T' q9l0'; (try k_lt q9l0'); k_cells q9Y'; (try dsimp only [List.cons_append, List.nil_append] at q9N'); (try dsimp only); (try k_lift q9B'); (try k_fold))
  k_with "enterF" => (k_dflt (refine' enterF (by k_asm) (by k_asm) (by k_asm) (by k_asm) (by k_asm) (by exact rfl) (by exact rfl) (by assumption) (by k_is) (by k_is) (by walk_at "room") (by first | exact BindsTo.of_eq rfl | exact binds_K (by k_in) rfl (by k_is) rfl rfl rfl) (by exact locs rfl) ?_ (by exact rfl) (by exact rfl) (by exact rfl) (by decide); k_whole; walk_at "end 0"))
  k_with "enterFC" => (k_dflt (refine' enterFC (by k_asm) (by k_asm) (by k_asm) (by k_asm) (by k_asm) (by exact rfl) (by exact rfl) (by assumption) (by k_is) (by k_is) (by walk_at "room") (by first | exact BindsTo.of_eq rfl | exact binds_K (by k_in) rfl (by k_is) rfl rfl rfl) (by exact rfl) (by decide +kernel) ?_ (by exact rfl) (by exact rfl) (by exact rfl); k_whole; walk_at "end 1"))
  k_with "k_del" => first | (refine' Del.head (by k_all)) | (refine' Del.tail (by k_ne) (by walk_at "k_del"))
  k_with "eval ListComp" => (k_here; k_dflt (refine lc_enter (by k_asm) (by with_unfolding_all rfl) (by decide) (by rfl) (by decide) ?_ (by intro _; rfl)))
  k_with "pyIter ref" => (k_here; k_dflt (first | (refine' pyIter_enum_N (by k_asm) (by k_mem) ?_; k_whole) | (refine' pyIter_tupo_N (by k_asm) (by k_asm) (by k_mem) ?_; k_whole; intros; walk_at "lt"; (try k_sweep)) | (refine' pyIter_list_N (by k_asm) (by k_asm) (by exact News.isList (by k_asm) (by k_mem)) ?_; k_whole; intros; walk_at "lt"; (try k_sweep))))
  k_with "exec Assign cons ListComp" => (k_here; k_dflt (refine' lc_assign (by k_asm) (by rfl) (by with_unfolding_all rfl) (by with_unfolding_all rfl) (by decide) (by rfl) (by decide) (by rfl) (by rfl) ?_ (by intro _; rfl)))
  k_with "k_all" => first | exact List.forall_mem_nil _ | exact LexSt.ne (by assumption) (by omega) | exact allNe_of (by assumption) | exact allNe_le (by assumption) (by omega) | exact allNe_gt (by assumption) | exact List.forall_mem_cons.mpr ⟨by k_ne, by k_extra "k_all"⟩
  k_with "subscriptTail" => (k_here; (with_reducible show wpAny _ _ (subscriptTail _ _ (Value.ref _) (Value.int _ _)) _ _ _); k_dflt (refine' itemL_N (by k_asm) (by k_mem) (by assumption) (by assumption) ?_ (by with_unfolding_all rfl); k_whole))
  k_with "binaryOp Add str str" => (k_here; (with_reducible show wpAny _ _ (binaryOp Operator.Add (Value.str _ _) (Value.str _ _)) _ _ _); k_dflt (refine' PyProof.Rows.add_str ?_ (by assumption); k_whole); intros)
  k_with "k_tail" => first | exact TailE.nil | (apply TailE.cons; walk_at "k_tail")
  k_with "k_allgt" => first | exact List.forall_mem_nil _ | (refine' List.forall_mem_cons.mpr ⟨(by ((try dsimp only); first | with_reducible assumption | omega)), (by walk_at "k_allgt")⟩)
  k_with "k_inE" => first | exact fun _ hq => hq | (refine' fun q hq => List.Mem.tail _ (?_ : ∀ q ∈ _, q ∈ _) q hq)
  k_with "exec While Name cons nil" => (k_here; k_dflt (refine wpAny_While ?_))
  k_with "codeAny" => (k_here; (with_reducible show codeAny _ _ (Code.whileLoop _ _ _ _) _ _); refine while_turn ?_; (try k_fold))
  k_with "truthy str" => (k_here; (first | (refine' truthy_yes (by assumption) (by assumption) ?_) | refine truthy_no ?_); intros)
  k_with "call type:int" => (k_here; (with_reducible show wpAny _ _ (call (Value.type "int") [Value.str _ _, Value.int _ _]) _ _ _); k_dflt (refine call_int8 (by assumption) ?_))
  k_with "setItem ref str" => (k_here; k_dflt (refine' dset_new (by k_asm) (by k_asm) (by k_updF) (by k_asm) (by first | exact vn0 | exact vn1 (by assumption) | exact vn2 (by assumption) (by assumption) | exact vn3 (by assumption) (by assumption) (by assumption)) (by exact Nat.le_of_ble_eq_true (by with_unfolding_all rfl)) ?_); intros; walk_at "dn"; walk_at "dd"; (try k_sweep))
  k_with "subscriptTail" => (k_here; (with_reducible show wpAny _ _ (subscriptTail _ _ (Value.ref _) (Value.str _ _)) _ _ _); k_dflt (refine' dget (by k_asm) (by k_mem) (by k_asm) (by first | assumption | exact vs0 | exact vs1 (by assumption) | exact vs2 (by assumption) (by assumption) | exact vs3 (by assumption) (by assumption) (by assumption)) ?_ (by with_unfolding_all rfl); k_whole); intros)
  k_with "binaryOp Mod str int" => (k_here; (refine mod_o (by assumption) ?_); intros)
  k_with "call ref" => (k_here; k_dflt (show wpAny _ _ (call (Value.ref 103) [_]) _ _ _); k_dflt (first | (refine' ConF.useLS (getPath (by assumption) (by assumption)) (by k_asm) (by k_asm) (by k_asm) (by k_asm) (by k_asm) (by exact rfl) (by (first | with_reducible assumption | omega | walk_at "room")) (by (first | with_reducible assumption | omega | walk_at "units")) (by walk_at "k_tail") (by exact LexSt.le (by assumption)) (by walk_at "k_allgt") ?_; k_whole; intros; walk_at "dn"; (try k_sweep)) | (refine' ConF.useLS (getOct (by assumption) (by assumption)) (by k_asm) (by k_asm) (by k_asm) (by k_asm) (by k_asm) (by exact rfl) (by (first | with_reducible assumption | omega | walk_at "room")) (by (first | with_reducible assumption | omega | walk_at "units")) (by walk_at "k_tail") (by exact LexSt.le (by assumption)) (by walk_at "k_allgt") ?_; k_whole; intros; walk_at "dn"; (try k_sweep)) | (refine' ConF.useLS (getE (by assumption)) (by k_asm) (by k_asm) (by k_asm) (by k_asm) (by k_asm) (by exact rfl) (by (first | with_reducible assumption | omega | walk_at "room")) (by (first | with_reducible assumption | omega | walk_at "units")) (by walk_at "k_tail") (by exact LexSt.le (by assumption)) (by walk_at "k_allgt") ?_; k_whole; intros; walk_at "dn"; (try k_sweep)) | (refine' ConF.useLE (getB (by assumption) (by first | decide | assumption | (simp only [List.length_append, List.length_cons, List.length_nil]; omega))) (by k_asm) (by k_asm) (by k_asm) (by k_asm) (by k_asm) (by exact rfl) (by (first | with_reducible assumption | omega | walk_at "room")) (by (first | with_reducible assumption | omega | walk_at "units")) (by walk_at "k_tail") (by exact LexSt.le (by assumption)) (by walk_at "k_allgt") ?_; k_whole; intros; walk_at "dn"; (try k_sweep))))
  k_with "call ref" => (k_here; k_dflt (show wpAny _ _ (call (Value.ref 110) [_, _]) _ _ _); k_dflt (refine' ConF.useLE (pushT (by assumption) (by first | decide | assumption | (simp only [List.length_append, List.length_cons, List.length_nil]; omega))) (by k_asm) (by k_asm) (by k_asm) (by k_asm) (by k_asm) (by exact rfl) (by (first | with_reducible assumption | omega | walk_at "room")) (by (first | with_reducible assumption | omega | walk_at "units")) (by walk_at "k_tail") (by exact LexSt.le (by assumption)) (by walk_at "k_allgt") ?_; k_whole; intros; walk_at "ds"; walk_at "dn"; (try k_sweep)))
  k_with "call ref" => (k_here; k_dflt (show wpAny _ _ (call (Value.ref 75) [Value.int _ _]) _ _ _); k_dflt (refine' ConF.use0S (fm_con _ _ _ _ _ _ (by assumption) _) (by k_asm) (by k_asm) (by k_asm) (by k_asm) (by k_asm) (by exact rfl) (by (first | with_reducible assumption | omega | walk_at "room")) (by (first | with_reducible assumption | omega | walk_at "units")) ?_; k_whole); intros; (try k_sweep))
  k_with "getMethod ref" => (k_here; k_dflt (first | (refine' lex_get (by assumption) (by k_asm) (by k_asm) (by k_asm) (by intro q hq; repeat (first | exact hq | apply List.Mem.tail)) ?_; k_whole) | (refine' lex_push (by assumption) (by k_asm) (by k_asm) (by k_asm) (by intro q hq; repeat (first | exact hq | apply List.Mem.tail)) ?_; k_whole)))
  k_with "pyIter ref" => (k_here; k_dflt (refine' dk_iter (by k_asm) (by k_asm) (by k_mem) (by assumption) (by assumption) ?_; k_whole); intros; walk_at "lt"; (try k_sweep))
  k_with "codeAny" => (k_here; (with_reducible show codeAny _ _ (Code.forLoop _ _ _ _ _) _ _); refine for_turnK ?_; (try k_fold))
  k_with "pyNext ref" => (k_here; k_dflt (first | (refine' dk_next (by k_asm) (by k_asm) (by k_updF) (by assumption) (by assumption) (by k_mem) (by exact rfl) ?_; k_whole; intros; walk_at "dn"; (try k_sweep)) | (refine' dk_stop (by rfl) (by k_asm) (by k_asm) (by walk_at "k_del") (by k_mem) (by assumption) (by assumption) (by k_mem) (by exact rfl) ?_; k_whole; intros; walk_at "dn"; (try k_sweep))))
  k_with "exec For Name Name cons nil" => (k_here; k_dflt (refine wpAny_For ?_ (by intro _; rfl)))
  k_with "eval DictComp" => (k_here; k_dflt (refine dc_enter (by k_asm) (by with_unfolding_all rfl) (by decide) (by rfl) (by decide) ?_ (by intro _; rfl)))
  k_with "call builtin:str.join" => (k_here; (with_reducible show wpAny _ _ (call (Value.builtin "str.join") [Value.str _ _, Value.ref _]) _ _ _); k_dflt (refine' join_Nl (by k_asm) (by k_mem) (by assumption) ?_; k_whole); intros)
  k_with "subscriptTail" => (k_here; (with_reducible show wpAny _ _ (subscriptTail _ _ (Value.ref _) (Value.ref _)) _ _ _); k_dflt (refine' slice_init (by k_asm) (by k_asm) (by k_mem) (by assumption) ?_ (by with_unfolding_all rfl) (by intro _; with_unfolding_all rfl); k_whole); intros; walk_at "lt"; (try k_sweep))
  k_with "subscriptTail" => (k_here; (with_reducible show wpAny _ _ (subscriptTail _ _ (Value.ref _) (Value.int _ _)) _ _ _); k_dflt (refine' last_N (by k_asm) (by k_mem) ?_ (by with_unfolding_all rfl); k_whole))
  k_with "pyIter ref" => (k_here; k_dflt (refine' pyIter_list_N (by k_asm) (by k_asm) (by exact News.isList (by k_asm) (by k_mem)) ?_; k_whole; intros; walk_at "lt"; (try k_sweep)))
  k_with "call ref" => (k_here; k_dflt (show wpAny _ _ (call (Value.ref 211) [Value.str _ _, Value.str _ _]) _ _ _); k_dflt (refine' ConF.use0S (join_con _ _ _ _ _ _ _ _ _ _ (by assumption) (by assumption) (by assumption) (by assumption) (by assumption)) (by k_asm) (by k_asm) (by k_asm) (by k_asm) (by k_asm) (by exact rfl) (by omega) (by omega) ?_; k_whole); intros; (try k_sweep))
  k_with "subscriptTail Name UnaryOp ref int" => (k_here; k_dflt (refine' last_N (by k_asm) (by k_mem) ?_ (by with_unfolding_all rfl); k_whole))
  k_with "binaryOp FloorDiv int int" => (k_here; (with_reducible refine floordiv_4 (by assumption) ?_); intros)
  k_with "binaryOp Mod int int" => (k_here; (with_reducible refine mod_4 ?_); intros)
  k_with "binaryOp Mod int int" => (k_here; (with_reducible refine mod_64 ?_); intros)
  k_with "call builtin:len" => (k_here; (with_unfolding_all refine' len_ints_fit (by is_list) (by l_ints) (by l_fit) ?_; k_whole); (try simp only [List.length_append, List.length_cons, List.length_nil, Nat.zero_add]))
  k_with "subscriptTail Name Name ref str" => walk_at "subscriptTail"
  exact True.intro
theorem law_holds : PySem.Challenge.rw_un0041_01.Holds := by
  refine holds_law said fun said' => ?_
  refine holds_open (q := hdView) (loose := hdLoose) (Xt := hdXt) (XP := XL hdView []) (Yf := hkH.obs) (Ya := hkH.val) (YP := hkH.says) (N := 3632) left hkH.of hkH.keeps (fun s e => xl_of s (Bool.and_eq_true_iff.mp e).1) XL.keeps (by rfl) (by rfl) (by rfl) (fun s e => recFacts_of (Bool.and_eq_true_iff.mp e).2) (by rfl) said' (by decide +kernel) ⟨rfl, rfl, rfl, rfl, rfl, by decide +kernel⟩ ?hw ?hc
  case hw => w_witness2
  delta hkH
  k_go0
  rename_i ob3 ob2 ob1 dt3 dt2 dt1 X0 X9 T9 K9 F9 N9 l09
  iterate 13 walk1
  rename_i D1 ws1 h1 hI1 hC1 hL1 lt1 I1 h2 F1 N1 lt2
  rename IntsAre _ (List.take _ _) => hI9
  have hlen9 := hI9.length
  refine LcGo_list (items := ws1.toArray) (p := fun _ => true) (G := fun _ y mk => mk = [] ∧ ∃ (b : Nat) (t : Tok), y = .int (b : Int) t ∧ b < 64) ?hn1 rfl F1 N1 ?hI1 (by k_mem) rfl rfl ?he1 ?hq1
  case hn1 => rw [sizeLine_eq, List.size_toArray, hlen9]; omega
  case hI1 => k_all
  case he1 =>
    clear F1 N1
    intro C i s1 oC m₁ X' Kt Ks hi F2 N2 hO hB hC hT hF9
    obtain ⟨v, hv, hm⟩ := hB
    dsimp only [List.cons_append, List.nil_append] at N2
    obtain ⟨nn, tt, rfl⟩ : ∃ (n : Int) (t : Tok), v = .int n t := intsAre_mem hI9 v (by
      have := List.mem_of_getElem? (show ws1[i]? = some v by simpa using hv)
      exact this)
    refine wpAny_tests_nil ?_
    rw [if_pos rfl]
    iterate 4 walk1
    (rename Fr _ _ _ _ => kF9)
    (rename News _ _ _ _ => kN9)
    exact hT rfl _ [] _ _ ⟨rfl, _, _, rfl, by omega⟩ (by simp) kF9 kN9
  case hq1 =>
    clear F1 N1
    intro D ys made c9 h9 tk9 hR hlt _ F2 N2
    obtain ⟨rfl, l, rfl, hl64, hll⟩ := hR.ints64
    rw [List.size_toArray, hlen9] at hll
    simp only [List.append_nil] at N2
    clear hR
    k_lt hlt
    iterate 23 walk1
    (rename Fr _ _ _ _ => kF9)
    (rename News _ _ _ _ => kN9)
    refine kba_turn (value' := PySem.Expr.Name (PySem.Str.ofString "_") ⟨0, 0, 0, 0⟩) (fun _ => rfl) ?_
    k_dflt (refine' kmk_slice ?F9 ?N9 ?hl9 ?pl9 ?pu9 ?_ ?hs9 ?ht9 ?hz9)
    case F9 => exact kF9
    case N9 => exact kN9
    case hl9 => exact News.isList kN9 (List.Mem.head _)
    case pl9 => exact .int _ _
    case pu9 => exact .none
    case hs9 => with_unfolding_all rfl
    case ht9 => intro _; with_unfolding_all rfl
    case hz9 => rw [sizeLine_eq]; exact Nat.le_of_ble_eq_true rfl
    intro D2 h2 F3 N3 lt3
    rw [slicePick_from'] at N3
    dsimp only at N3
    clear kF9 kN9
    rw [List.length_take] at hll
    obtain ⟨b0, b1, b2, b3, u0, u1, u2, u3, g0, g1, g2, g3, heq⟩ := four_of (t0 := tk9) (t1 := tk9 + 1) (t2 := tk9 + 1 + 1) (t3 := tk9 + 1 + 1 + 1) hl64 hll
    k_dflt (refine' kmk_add_lit ?F9b ?N9b ?a9 ?b9 ?e9 ?_ ?z9b)
    case F9b => exact F3
    case N9b => exact N3
    case a9 => exact News.isList N3 (.tail _ (.tail _ (.head _)))
    case b9 => exact News.isList N3 (.head _)
    case e9 => exact heq
    case z9b =>
      have := congrArg List.length heq
      rw [List.length_append] at this
      rw [sizeLine_eq]
      simp only [List.toList_toArray]
      rw [this]
      exact Nat.le_of_ble_eq_true rfl
    intro D3 h3 F4 N4 lt4
    clear F3 N3
    k_lt lt4
    iterate 1 walk1
    (rename Fr _ _ _ _ => kF9)
    (rename News _ _ _ _ => kN9)
    show LawGoal _ _ _ _ _ _ _ (nthP 1).1 (nthP 1).2
    refine' law_1 _ _ _ _ _ _ b0 b1 b2 b3 g0 g1 g2 g3 _ _ _ _ _ D3 ob3 ob2 ob1 0 u0 u1 u2 u3 _ _ _ _ (by first | assumption | walk_at "om" | omega) (by first | assumption | walk_at "om" | omega) (by first | assumption | walk_at "om" | omega) kF9 ?hN9 (by first | assumption | walk_at "om" | omega) (by first | assumption | walk_at "om" | omega) _ dt1 _ dt2 _ dt3 ?hQ9
    case hN9 =>
      intro q hq
      refine kN9 q ?_
      rcases List.mem_cons.mp hq with rfl | hq
      · exact .head _
      rcases List.mem_cons.mp hq with rfl | hq
      · exact .tail _ (.tail _ (.tail _ (.tail _ (.tail _ (.tail _ (.tail _ (.tail _ (.head _))))))))
      rcases List.mem_cons.mp hq with rfl | hq
      · exact .tail _ (.tail _ (.tail _ (.tail _ (.tail _ (.head _)))))
      rcases List.mem_cons.mp hq with rfl | hq
      · exact .tail _ (.tail _ (.tail _ (.tail _ (.tail _ (.tail _ (.head _))))))
      rcases List.mem_cons.mp hq with rfl | hq
      · exact .tail _ (.tail _ (.tail _ (.tail _ (.tail _ (.tail _ (.tail _ (.head _)))))))
      exact nomatch hq
    case hQ9 =>
      clear kF9 kN9
      intro h8 tk8 m8 n8 F8 N8 G8
      dsimp only
      iterate 1 walk1
      case refine_2 => exact ⟨G8, trivial⟩
      refine goodW_bool (by assumption) (by assumption) (raisesW_false ?_) ?_
      · wrow_none_raised
      · wrow_post
end
end Mine
theorem PySem.Challenge.cw_un0041_01_holds : PySem.Challenge.rw_un0041_01.Holds :=
  Mine.law_holds
