import PyProof.Rows.All
import Wide.All
import OpenK.AllK
import Wide.FinOn
import PySem.Challenge.RW_nq0247_01
set_option Elab.async false
set_option compiler.extract_closed false
set_option maxRecDepth 100000
set_option maxHeartbeats 8000000
set_option linter.unusedVariables false
set_option linter.unusedSimpArgs false

namespace Mine

section
theorem om_le {x c d : Nat} (h : x ≤ c) (e : Nat.ble c d = true) : x ≤ d := Nat.le_trans h (Nat.le_of_ble_eq_true e)
theorem om_lt {x c d : Nat} (h : x ≤ c) (e : Nat.ble (c + 1) d = true) : x < d := Nat.lt_of_le_of_lt h (Nat.le_of_ble_eq_true e)
theorem om_ltle {x c d : Nat} (h : x < c) (e : Nat.ble c (d + 1) = true) : x ≤ d := Nat.le_of_lt_succ (Nat.lt_of_lt_of_le h (Nat.le_of_ble_eq_true e))
theorem om_ltlt {x c d : Nat} (h : x < c) (e : Nat.ble c d = true) : x < d := Nat.lt_of_lt_of_le h (Nat.le_of_ble_eq_true e)
theorem om_45 {x : Nat} (h : x = 4 ∨ x = 5) : x ≤ 5 := by omega
theorem om_45' {x d : Nat} (h : x = 4 ∨ x = 5) (e : Nat.ble d 4 = true) : d ≤ x := Nat.le_trans (Nat.le_of_ble_eq_true e) (by omega)
theorem om_g1 {x c d : Nat} (h : x = c) (e : Nat.ble d c = true) : d ≤ x := h ▸ Nat.le_of_ble_eq_true e
theorem om_g2 {x c d : Nat} (h : x = c) (e : Nat.ble (d + 1) c = true) : d < x := h ▸ Nat.le_of_ble_eq_true e
theorem om_s1 {k n m : Nat} (h : k + (n + 1) = m) : k < m := by omega
theorem om_s1e {k n m a : Nat} (h : k + (n + 1) = m) (e : a = m) : k < a := by omega
theorem om_s3 {k n m : Nat} (h : k + (n + 1) = m) : k + 1 + n = m := by omega
theorem om_s5 {k n m : Nat} (h : k + (n + 1) ≤ m) : k + 1 + n ≤ m := by omega
theorem om_s6 {k n m : Nat} (h : k + (n + 1) ≤ m) : k < m := by omega
theorem om_s7 {k n m : Nat} (h : k + (n + 1) ≤ m) : k + n ≤ m := by omega
theorem om_c {a b n : Nat} (e : Nat.ble a b = true) : 0 + a ≤ n + b := Nat.le_trans (Nat.le_of_eq (Nat.zero_add a)) (Nat.le_trans (Nat.le_of_ble_eq_true e) (Nat.le_add_left b n))
theorem om_e1 {a b x : Nat} (h : a = b) (h2 : x < b) : x < a := h ▸ h2
theorem om_e2 {a b x : Nat} (h : b = a) (h2 : x < b) : x < a := h ▸ h2
theorem om_e3 {a b x : Nat} (h : a = b) (h2 : b ≤ x) : a ≤ x := h ▸ h2
theorem om_e4 {a b x : Nat} (h : b = a) (h2 : b ≤ x) : a ≤ x := h ▸ h2
theorem om_k1 {k i L : Nat} (h : k + i = L) (h2 : i < L) : k - 1 + (i + 1) = L := by omega
theorem om_k2 {k i L : Nat} (h : k + i = L) (h2 : i < L) : k - 1 < k := by omega
theorem om_k3 {k i L : Nat} (h : k + i = L) (h2 : L ≤ i) : i = L := by omega
theorem om_k4 {k i L : Nat} (h : k + i = L) (h2 : ¬ i < L) : i = L := by omega
theorem om_n1 {i j : Nat} (h : (i : Int) = (j : Int)) : i = j := Int.ofNat.inj h
theorem om_n2 {i j : Nat} (h : (j : Int) = (i : Int)) : i = j := (Int.ofNat.inj h).symm
theorem om_u {a b c : Nat} (h : a + b < c) : a < c := Nat.lt_of_le_of_lt (Nat.le_add_right a b) h
theorem om_i63 {x c : Nat} (h : x ≤ c) (e : Nat.ble c 9223372036854775807 = true) : (x : Int) < 2 ^ 63 := by
  have := Nat.le_trans h (Nat.le_of_ble_eq_true e)
  omega
theorem om_r1 (a b : Nat) : a + 1 + b = a + (b + 1) := by omega
theorem om_k5 {k i L : Nat} (h : k + i = L) (h2 : i < L) : k = k - 1 + 1 := by omega
theorem om_a1 {a b c d : Nat} (h : a ≤ c) (h2 : b ≤ d) (e : c + d = n) : a + b ≤ n := e ▸ Nat.add_le_add h h2
theorem om_m1 {a b c : Nat} (h : b ≤ c) : min a b ≤ c := Nat.le_trans (Nat.min_le_right a b) h
theorem om_m2 {a b c : Nat} (h : a ≤ c) : min a b ≤ c := Nat.le_trans (Nat.min_le_left a b) h
theorem om_e5 {a b : Nat} (h : a = b) (h2 : b = 4 ∨ b = 5) : a ≤ 5 := h ▸ om_45 h2
theorem om_e6 {a b : Nat} (h : b = a) (h2 : b = 4 ∨ b = 5) : a ≤ 5 := h ▸ om_45 h2
theorem om_t1 {k n m c d : Nat} (h : k + (n + 1) = m) (h2 : m ≤ c) (e : Nat.ble c d = true) : k < d := Nat.lt_of_lt_of_le (om_s1 h) (om_le h2 e)
theorem om_t2 {x a c d : Nat} (h : x < a) (h2 : a < c) (e : Nat.ble c d = true) : x < d := Nat.lt_trans h (om_ltlt h2 e)
theorem om_t3 {x a c d : Nat} (h : x < a) (h2 : a ≤ c) (e : Nat.ble c d = true) : x < d := Nat.lt_of_lt_of_le h (om_le h2 e)
theorem om_s2 {k n m : Nat} (h : k + (n + 1) = m) : k ≤ m := Nat.le_of_lt (om_s1 h)
theorem om_s8 {k n c d : Nat} (h : k + (n + 1) ≤ c) (e : Nat.ble c d = true) : k < d := om_ltlt (om_s6 h) e
theorem om_s9 {k n c d : Nat} (h : k + (n + 1) ≤ c) (e : Nat.ble c (d + 1) = true) : k ≤ d := om_ltle (om_s6 h) e
theorem om_r2 (a b : Nat) : a + (b + 1) = a + 1 + b := (om_r1 a b).symm
end

local macro_rules | `(tactic| walk_at "ol") => `(tactic| first
  | assumption
  | (apply om_45; assumption)
  | (apply om_e5; assumption; assumption)
  | (apply om_e6; assumption; assumption)
  | (apply om_e3; assumption; assumption)
  | (apply om_e4; assumption; assumption)
  | (apply Nat.le_trans; assumption; assumption)
  | (apply Nat.le_of_eq; assumption))
local macro_rules | `(tactic| walk_at "om") => `(tactic| first
  | (with_reducible first
    | assumption
    | (apply om_s1; assumption)
    | (apply om_s3; assumption)
    | exact Nat.zero_add _
    | (apply om_c; decide)
    | (apply om_n1; assumption)
    | (apply om_n2; assumption)
    | (apply om_s2; assumption)
    | (apply om_le; walk_at "ol"; decide)
    | (apply om_lt; walk_at "ol"; decide)
    | (apply om_ltlt; assumption; decide)
    | (apply om_ltle; assumption; decide)
    | (apply om_45'; assumption; decide)
    | (apply om_g1; assumption; decide)
    | (apply om_g2; assumption; decide)
    | (apply om_e1; assumption; assumption)
    | (apply om_e2; assumption; assumption)
    | (apply om_t1; assumption; walk_at "ol"; decide)
    | (apply om_t2; assumption; assumption; decide)
    | (apply om_t3; assumption; assumption; decide)
    | (apply om_s1e; assumption; assumption)
    | (apply om_s5; assumption)
    | (apply om_s7; assumption)
    | (apply om_s8; assumption; decide)
    | (apply om_s9; assumption; decide)
    | (apply om_k1; assumption; assumption)
    | (apply om_k2; assumption; assumption)
    | (apply om_k3; assumption; assumption)
    | (apply om_k4; assumption; assumption)
    | (apply om_k5; assumption; assumption)
    | (apply om_u; assumption)
    | exact om_r1 _ _
    | exact om_r2 _ _
    | (apply om_i63; walk_at "ol"; decide)
    | exact Int.natCast_nonneg _
    | (apply om_a1; assumption; assumption; decide)
    | (apply om_m1; assumption)
    | (apply om_m2; assumption)
    | (apply Eq.symm; assumption))
  | decide
  | omega)

section
set_option genInjectivity false
set_option genSizeOf false
inductive C4 (a1 a2 a3 a4 : Prop) : Prop
  | mk : a1 → a2 → a3 → a4 → C4 a1 a2 a3 a4
inductive C5 (a1 a2 a3 a4 a5 : Prop) : Prop
  | mk : a1 → a2 → a3 → a4 → a5 → C5 a1 a2 a3 a4 a5
inductive C6 (a1 a2 a3 a4 a5 a6 : Prop) : Prop
  | mk : a1 → a2 → a3 → a4 → a5 → a6 → C6 a1 a2 a3 a4 a5 a6
inductive C7 (a1 a2 a3 a4 a5 a6 a7 : Prop) : Prop
  | mk : a1 → a2 → a3 → a4 → a5 → a6 → a7 → C7 a1 a2 a3 a4 a5 a6 a7
inductive C8 (a1 a2 a3 a4 a5 a6 a7 a8 : Prop) : Prop
  | mk : a1 → a2 → a3 → a4 → a5 → a6 → a7 → a8 → C8 a1 a2 a3 a4 a5 a6 a7 a8
inductive C9 (a1 a2 a3 a4 a5 a6 a7 a8 a9 : Prop) : Prop
  | mk : a1 → a2 → a3 → a4 → a5 → a6 → a7 → a8 → a9 → C9 a1 a2 a3 a4 a5 a6 a7 a8 a9
inductive C10 (a1 a2 a3 a4 a5 a6 a7 a8 a9 a10 : Prop) : Prop
  | mk : a1 → a2 → a3 → a4 → a5 → a6 → a7 → a8 → a9 → a10 → C10 a1 a2 a3 a4 a5 a6 a7 a8 a9 a10
inductive C11 (a1 a2 a3 a4 a5 a6 a7 a8 a9 a10 a11 : Prop) : Prop
  | mk : a1 → a2 → a3 → a4 → a5 → a6 → a7 → a8 → a9 → a10 → a11 → C11 a1 a2 a3 a4 a5 a6 a7 a8 a9 a10 a11
inductive C12 (a1 a2 a3 a4 a5 a6 a7 a8 a9 a10 a11 a12 : Prop) : Prop
  | mk : a1 → a2 → a3 → a4 → a5 → a6 → a7 → a8 → a9 → a10 → a11 → a12 → C12 a1 a2 a3 a4 a5 a6 a7 a8 a9 a10 a11 a12
inductive C13 (a1 a2 a3 a4 a5 a6 a7 a8 a9 a10 a11 a12 a13 : Prop) : Prop
  | mk : a1 → a2 → a3 → a4 → a5 → a6 → a7 → a8 → a9 → a10 → a11 → a12 → a13 → C13 a1 a2 a3 a4 a5 a6 a7 a8 a9 a10 a11 a12 a13
inductive C14 (a1 a2 a3 a4 a5 a6 a7 a8 a9 a10 a11 a12 a13 a14 : Prop) : Prop
  | mk : a1 → a2 → a3 → a4 → a5 → a6 → a7 → a8 → a9 → a10 → a11 → a12 → a13 → a14 → C14 a1 a2 a3 a4 a5 a6 a7 a8 a9 a10 a11 a12 a13 a14
end

section
open PySem PySem.W PyProof PyProof.Rows PySem.Calls PySem.Spec
/- statements of the text, by their places -/
noncomputable def stA (p : Program) (i : Nat) : Stmt := (p.main.body[i]?).getD (.Pass ⟨0, 0, 0, 0⟩)
noncomputable def stB (s : Stmt) (j : Nat) : Stmt := match s with
  | .ClassDef _ _ _ body .. => (body[j]?).getD s
  | _ => s
noncomputable def fnO (s : Stmt) (q : Str) (dv pm : Value) (cd bn : Addr) : Obj := match s with
  | .FunctionDef name args body _ _ _ scope _ _ _ => { cls := .type "function", data := .func { name := name, qualname := q, params := args, body := .stmts body, scope := scope, globals := 3, closure := [], defaults := dv, kwdefaults := .none, pyModule := pm, code := .ref cd, builtins := bn } }
  | _ => default
noncomputable abbrev S (x : String) : Str := Str.ofString x
noncomputable abbrev st (x : String) (t : Tok) : Value := .str (S x) t
noncomputable abbrev en (P : Params) (x : String) (t : Tok) (v : Value) : DictEntry := { hash := PyData.keyHash P (S x), key := .str (S x) t, val := v }
noncomputable abbrev tu (vs : Array Value) : Obj := { cls := .type "tuple", data := .seq vs }
/- what the top leaves in the heap -/
noncomputable def KK (p : Program) (P : Params) : Frag := [
  (2, { cls := .none, data := .dict #[] }),
  (3, { cls := .type "dict", data := .dict #[en P "__name__" 165 (st "law_nq0247_01" 514), en P "__doc__" 166 (.none), en P "__package__" 167 (.none), en P "__loader__" 168 (.builtin "__main__.__loader__#opaque"), en P "__spec__" 169 (.none), en P "__annotations__" 170 (.ref 6), en P "__builtins__" 171 (.ref 4), en P "__file__" 173 (st "/claim/cut.py" 172), en P "__cached__" 174 (.none), en P "_wall" 193 (.ref 21), en P "heappush" 203 (.ref 28), en P "heappop" 212 (.ref 35), en P "heapify" 221 (.ref 42), en P "_siftdown" 233 (.ref 49), en P "_siftup" 246 (.ref 56), en P "_NODE_OUT" 251 (.int (-1) 250), en P "_NODE_DONE" 254 (.int (-2) 253), en P "_NodeInfo" 291 (.ref 75), en P "CycleError" 309 (.ref 90), en P "TopologicalSorter" 428 (.ref 172), en P "S_IFMT" 437 (.ref 183), en P "S_IFDIR" 439 (.int 16384 438), en P "S_IFCHR" 441 (.int 8192 440), en P "S_IFBLK" 443 (.int 24576 442), en P "S_IFREG" 445 (.int 32768 444), en P "S_IFIFO" 447 (.int 4096 446), en P "S_IFLNK" 449 (.int 40960 448), en P "S_IFSOCK" 451 (.int 49152 450), en P "S_ISUID" 453 (.int 2048 452), en P "S_ISGID" 455 (.int 1024 454), en P "S_ISVTX" 457 (.int 512 456), en P "S_IRUSR" 459 (.int 256 458), en P "S_IWUSR" 461 (.int 128 460), en P "S_IXUSR" 463 (.int 64 462), en P "S_IRGRP" 465 (.int 32 464), en P "S_IWGRP" 467 (.int 16 466), en P "S_IXGRP" 469 (.int 8 468), en P "S_IROTH" 471 (.int 4 470), en P "S_IWOTH" 473 (.int 2 472), en P "S_IXOTH" 475 (.int 1 474), en P "_filemode_table" 501 (.ref 216), en P "filemode" 513 (.ref 223), en P "_law_modes" 526 (.ref 230), en P "_law_keys" 532 (.ref 235), en P "_law_listed" 538 (.ref 240), en P "_law_ahead" 544 (.ref 245), en P "_law_served" 556 (.ref 252), en P "law" 562 (.ref 257)] 48 }),
  (15, tu #[]),
  (17, tu #[st "k" 190]),
  (18, tu #[]),
  (20, { cls := .type "code", data := .fields #[st "_wall" 187, st "_wall" 188, st "/claim/cut.py" 189, .int 1 0, .int 1 0, .int 0 0, .int 0 0, .int 3 0, .ref 15, .bool true, .int 181 0, .ref 16, .none, .ref 17, .ref 18, .ref 19, .int 191 0, .int 1 0, st "/claim/cut.py" 192] }),
  (21, fnO (stA p 0) (S "_wall") (.none) (st "__main__" 164) 20 0),
  (22, tu #[]),
  (24, tu #[st "heap" 199, st "item" 200]),
  (25, tu #[]),
  (27, { cls := .type "code", data := .fields #[st "heappush" 196, st "heappush" 197, st "/claim/cut.py" 198, .int 5 0, .int 2 0, .int 0 0, .int 0 0, .int 3 0, .ref 22, .bool true, .int 181 0, .ref 23, .none, .ref 24, .ref 25, .ref 26, .int 201 0, .int 5 0, st "/claim/cut.py" 202] }),
  (28, fnO (stA p 2) (S "heappush") (.none) (st "cpy313.heapq" 194) 27 0),
  (29, tu #[]),
  (31, tu #[st "heap" 207, st "lastelt" 208, st "returnitem" 209]),
  (32, tu #[]),
  (34, { cls := .type "code", data := .fields #[st "heappop" 204, st "heappop" 205, st "/claim/cut.py" 206, .int 8 0, .int 1 0, .int 0 0, .int 0 0, .int 3 0, .ref 29, .bool true, .int 181 0, .ref 30, .none, .ref 31, .ref 32, .ref 33, .int 210 0, .int 8 0, st "/claim/cut.py" 211] }),
  (35, fnO (stA p 3) (S "heappop") (.none) (st "cpy313.heapq" 194) 34 0),
  (36, tu #[]),
  (38, tu #[st "x" 216, st "n" 217, st "i" 218]),
  (39, tu #[]),
  (41, { cls := .type "code", data := .fields #[st "heapify" 213, st "heapify" 214, st "/claim/cut.py" 215, .int 16 0, .int 1 0, .int 0 0, .int 0 0, .int 3 0, .ref 36, .bool true, .int 181 0, .ref 37, .none, .ref 38, .ref 39, .ref 40, .int 219 0, .int 16 0, st "/claim/cut.py" 220] }),
  (42, fnO (stA p 4) (S "heapify") (.none) (st "cpy313.heapq" 194) 41 0),
  (43, tu #[]),
  (45, tu #[st "heap" 225, st "startpos" 226, st "pos" 227, st "newitem" 228, st "parentpos" 229, st "parent" 230]),
  (46, tu #[]),
  (48, { cls := .type "code", data := .fields #[st "_siftdown" 222, st "_siftdown" 223, st "/claim/cut.py" 224, .int 20 0, .int 3 0, .int 0 0, .int 0 0, .int 3 0, .ref 43, .bool true, .int 181 0, .ref 44, .none, .ref 45, .ref 46, .ref 47, .int 231 0, .int 20 0, st "/claim/cut.py" 232] }),
  (49, fnO (stA p 5) (S "_siftdown") (.none) (st "cpy313.heapq" 194) 48 0),
  (50, tu #[]),
  (52, tu #[st "heap" 237, st "pos" 238, st "endpos" 239, st "startpos" 240, st "newitem" 241, st "childpos" 242, st "rightpos" 243]),
  (53, tu #[]),
  (55, { cls := .type "code", data := .fields #[st "_siftup" 234, st "_siftup" 235, st "/claim/cut.py" 236, .int 31 0, .int 2 0, .int 0 0, .int 0 0, .int 3 0, .ref 50, .bool true, .int 181 0, .ref 51, .none, .ref 52, .ref 53, .ref 54, .int 244 0, .int 31 0, st "/claim/cut.py" 245] }),
  (56, fnO (stA p 6) (S "_siftup") (.none) (st "cpy313.heapq" 194) 55 0),
  (64, tu #[st "node" 267, st "npredecessors" 268, st "successors" 269]),
  (65, tu #[]),
  (67, tu #[st "self" 274, st "node" 275]),
  (68, tu #[]),
  (70, { cls := .type "code", data := .fields #[st "__init__" 271, st "_NodeInfo.__init__" 272, st "/claim/cut.py" 273, .int 51 0, .int 2 0, .int 0 0, .int 0 0, .int 3 0, .ref 65, .bool true, .int 181 0, .ref 66, .none, .ref 67, .ref 68, .ref 69, .int 276 0, .int 51 0, st "/claim/cut.py" 277] }),
  (71, fnO (stB (stA p 10) 1) (S "_NodeInfo.__init__") (.none) (st "cpy313.graphlib" 247) 70 0),
  (72, tu #[st "node" 279, st "npredecessors" 280, st "successors" 281]),
  (74, { cls := .type "dict", data := .dict #[en P "__module__" 262 (st "cpy313.graphlib" 247), en P "__firstlineno__" 266 (.int 48 265), en P "__slots__" 270 (.ref 64), en P "__init__" 278 (.ref 71), en P "__static_attributes__" 282 (.ref 72), en P "node" 284 (.ref 76), en P "npredecessors" 286 (.ref 77), en P "successors" 288 (.ref 78), en P "__doc__" 289 (.none)] 5 }),
  (75, { cls := .type "type", data := .cls { name := S "_NodeInfo", bases := [.type "object"], mro := [.ref 75, .type "object"], ns := 74, qualname := S "_NodeInfo", hasDict := false, slotNames := [S "node", S "npredecessors", S "successors"] }, slots := #[none, none, some (st "_NodeInfo" 255), some (st "_NodeInfo" 263), some (.builtin "object.__new__"), some (.bool false)] }),
  (76, { cls := .type "member_descriptor", data := .fields #[st "node" 283, .ref 75, .builtin "proto.slot", .builtin "proto.slot#set", .int 2 0] }),
  (77, { cls := .type "member_descriptor", data := .fields #[st "npredecessors" 285, .ref 75, .builtin "proto.slot", .builtin "proto.slot#set", .int 1 0] }),
  (78, { cls := .type "member_descriptor", data := .fields #[st "successors" 287, .ref 75, .builtin "proto.slot", .builtin "proto.slot#set", .int 0 0] }),
  (81, tu #[.type "ValueError"]),
  (88, tu #[]),
  (89, { cls := .type "dict", data := .dict #[en P "__module__" 299 (st "cpy313.graphlib" 247), en P "__firstlineno__" 303 (.int 55 302), en P "__static_attributes__" 304 (.ref 88), en P "__weakref__" 306 (.ref 91), en P "__doc__" 307 (.none)] 3 }),
  (90, { cls := .type "type", data := .cls { name := S "CycleError", bases := [.type "ValueError"], mro := [.ref 90, .type "ValueError", .type "Exception", .type "BaseException", .type "object"], ns := 89, qualname := S "CycleError" }, slots := #[some (.ref 81), none, some (st "CycleError" 292), some (st "CycleError" 300), some (.builtin "ValueError.__new__"), some (.bool true)] }),
  (91, { cls := .type "getset_descriptor", data := .fields #[st "__weakref__" 305, .ref 90, .builtin "ExceptionGroup.__weakref__", .none] }),
  (101, tu #[.none]),
  (102, tu #[]),
  (104, tu #[st "self" 325, st "graph" 326, st "node" 327, st "predecessors" 328]),
  (105, tu #[]),
  (107, { cls := .type "code", data := .fields #[st "__init__" 322, st "TopologicalSorter.__init__" 323, st "/claim/cut.py" 324, .int 59 0, .int 2 0, .int 0 0, .int 0 0, .int 3 0, .ref 102, .bool true, .int 181 0, .ref 103, .none, .ref 104, .ref 105, .ref 106, .int 329 0, .int 59 0, st "/claim/cut.py" 330] }),
  (108, fnO (stB (stA p 12) 0) (S "TopologicalSorter.__init__") (.ref 101) (st "cpy313.graphlib" 247) 107 0),
  (109, tu #[]),
  (111, tu #[st "self" 335, st "node" 336, st "result" 337]),
  (112, tu #[]),
  (114, { cls := .type "code", data := .fields #[st "_get_nodeinfo" 332, st "TopologicalSorter._get_nodeinfo" 333, st "/claim/cut.py" 334, .int 68 0, .int 2 0, .int 0 0, .int 0 0, .int 3 0, .ref 109, .bool true, .int 181 0, .ref 110, .none, .ref 111, .ref 112, .ref 113, .int 338 0, .int 68 0, st "/claim/cut.py" 339] }),
  (115, fnO (stB (stA p 12) 1) (S "TopologicalSorter._get_nodeinfo") (.none) (st "cpy313.graphlib" 247) 114 0),
  (116, tu #[]),
  (118, tu #[st "self" 344, st "node" 345, st "predecessors" 346, st "nodeinfo" 347, st "pred" 348, st "pred_info" 349]),
  (119, tu #[]),
  (121, { cls := .type "code", data := .fields #[st "add" 341, st "TopologicalSorter.add" 342, st "/claim/cut.py" 343, .int 73 0, .int 2 0, .int 0 0, .int 0 0, .int 7 0, .ref 116, .bool true, .int 181 0, .ref 117, .none, .ref 118, .ref 119, .ref 120, .int 350 0, .int 73 0, st "/claim/cut.py" 351] }),
  (122, fnO (stB (stA p 12) 2) (S "TopologicalSorter.add") (.none) (st "cpy313.graphlib" 247) 121 0),
  (123, tu #[]),
  (126, { cls := .type "code", data := .fields #[st "prepare" 353, st "TopologicalSorter.prepare" 354, st "/claim/cut.py" 355, .int 82 0, .int 1 0, .int 0 0, .int 0 0, .int 3 0, .ref 123, .bool true, .int 181 0, .ref 124, .none, .none, .none, .ref 125, .int 356 0, .int 82 0, st "/claim/cut.py" 357] }),
  (127, fnO (stB (stA p 12) 3) (S "TopologicalSorter.prepare") (.none) (st "cpy313.graphlib" 247) 126 0),
  (128, tu #[]),
  (130, tu #[st "self" 362, st "result" 363, st "n2i" 364, st "node" 365]),
  (131, tu #[]),
  (133, { cls := .type "code", data := .fields #[st "get_ready" 359, st "TopologicalSorter.get_ready" 360, st "/claim/cut.py" 361, .int 90 0, .int 1 0, .int 0 0, .int 0 0, .int 3 0, .ref 128, .bool true, .int 181 0, .ref 129, .none, .ref 130, .ref 131, .ref 132, .int 366 0, .int 90 0, st "/claim/cut.py" 367] }),
  (134, fnO (stB (stA p 12) 4) (S "TopologicalSorter.get_ready") (.none) (st "cpy313.graphlib" 247) 133 0),
  (135, tu #[]),
  (137, tu #[st "self" 372]),
  (138, tu #[]),
  (140, { cls := .type "code", data := .fields #[st "is_active" 369, st "TopologicalSorter.is_active" 370, st "/claim/cut.py" 371, .int 101 0, .int 1 0, .int 0 0, .int 0 0, .int 3 0, .ref 135, .bool true, .int 181 0, .ref 136, .none, .ref 137, .ref 138, .ref 139, .int 373 0, .int 101 0, st "/claim/cut.py" 374] }),
  (141, fnO (stB (stA p 12) 5) (S "TopologicalSorter.is_active") (.none) (st "cpy313.graphlib" 247) 140 0),
  (142, tu #[]),
  (144, tu #[st "self" 379]),
  (145, tu #[]),
  (147, { cls := .type "code", data := .fields #[st "__bool__" 376, st "TopologicalSorter.__bool__" 377, st "/claim/cut.py" 378, .int 106 0, .int 1 0, .int 0 0, .int 0 0, .int 3 0, .ref 142, .bool true, .int 181 0, .ref 143, .none, .ref 144, .ref 145, .ref 146, .int 380 0, .int 106 0, st "/claim/cut.py" 381] }),
  (148, fnO (stB (stA p 12) 6) (S "TopologicalSorter.__bool__") (.none) (st "cpy313.graphlib" 247) 147 0),
  (149, tu #[]),
  (151, tu #[st "self" 386, st "nodes" 387, st "n2i" 388, st "node" 389, st "nodeinfo" 390, st "stat" 391, st "successor" 392, st "successor_info" 393]),
  (152, tu #[]),
  (154, { cls := .type "code", data := .fields #[st "done" 383, st "TopologicalSorter.done" 384, st "/claim/cut.py" 385, .int 109 0, .int 1 0, .int 0 0, .int 0 0, .int 7 0, .ref 149, .bool true, .int 181 0, .ref 150, .none, .ref 151, .ref 152, .ref 153, .int 394 0, .int 109 0, st "/claim/cut.py" 395] }),
  (155, fnO (stB (stA p 12) 7) (S "TopologicalSorter.done") (.none) (st "cpy313.graphlib" 247) 154 0),
  (156, tu #[]),
  (158, tu #[st "self" 400, st "n2i" 401, st "stack" 402, st "itstack" 403, st "seen" 404, st "node2stacki" 405, st "node" 406]),
  (159, tu #[]),
  (161, { cls := .type "code", data := .fields #[st "_find_cycle" 397, st "TopologicalSorter._find_cycle" 398, st "/claim/cut.py" 399, .int 132 0, .int 1 0, .int 0 0, .int 0 0, .int 3 0, .ref 156, .bool true, .int 181 0, .ref 157, .none, .ref 158, .ref 159, .ref 160, .int 407 0, .int 132 0, st "/claim/cut.py" 408] }),
  (162, fnO (stB (stA p 12) 8) (S "TopologicalSorter._find_cycle") (.none) (st "cpy313.graphlib" 247) 161 0),
  (163, tu #[]),
  (165, tu #[st "self" 413]),
  (166, tu #[]),
  (168, { cls := .type "code", data := .fields #[st "static_order" 410, st "TopologicalSorter.static_order" 411, st "/claim/cut.py" 412, .int 161 0, .int 1 0, .int 0 0, .int 0 0, .int 3 0, .ref 163, .bool true, .int 181 0, .ref 164, .none, .ref 165, .ref 166, .ref 167, .int 414 0, .int 161 0, st "/claim/cut.py" 415] }),
  (169, fnO (stB (stA p 12) 9) (S "TopologicalSorter.static_order") (.none) (st "cpy313.graphlib" 247) 168 0),
  (170, tu #[st "_nfinished" 417, st "_node2info" 418, st "_npassedout" 419, st "_ready_nodes" 420]),
  (171, { cls := .type "dict", data := .dict #[en P "__module__" 317 (st "cpy313.graphlib" 247), en P "__firstlineno__" 321 (.int 57 320), en P "__init__" 331 (.ref 108), en P "_get_nodeinfo" 340 (.ref 115), en P "add" 352 (.ref 122), en P "prepare" 358 (.ref 127), en P "get_ready" 368 (.ref 134), en P "is_active" 375 (.ref 141), en P "__bool__" 382 (.ref 148), en P "done" 396 (.ref 155), en P "_find_cycle" 409 (.ref 162), en P "static_order" 416 (.ref 169), en P "__static_attributes__" 421 (.ref 170), en P "__dict__" 423 (.ref 173), en P "__weakref__" 425 (.ref 174), en P "__doc__" 426 (.none)] 4 }),
  (172, { cls := .type "type", data := .cls { name := S "TopologicalSorter", bases := [.type "object"], mro := [.ref 172, .type "object"], ns := 171, qualname := S "TopologicalSorter" }, slots := #[none, none, some (st "TopologicalSorter" 310), some (st "TopologicalSorter" 318), some (.builtin "object.__new__"), some (.bool true)] }),
  (173, { cls := .type "getset_descriptor", data := .fields #[st "__dict__" 422, .ref 172, .builtin "function.__dict__", .builtin "function.__dict__#set"] }),
  (174, { cls := .type "getset_descriptor", data := .fields #[st "__weakref__" 424, .ref 172, .builtin "ExceptionGroup.__weakref__", .none] }),
  (177, tu #[]),
  (179, tu #[st "mode" 434]),
  (180, tu #[]),
  (182, { cls := .type "code", data := .fields #[st "S_IFMT" 431, st "S_IFMT" 432, st "/claim/cut.py" 433, .int 164 0, .int 1 0, .int 0 0, .int 0 0, .int 3 0, .ref 177, .bool true, .int 181 0, .ref 178, .none, .ref 179, .ref 180, .ref 181, .int 435 0, .int 164 0, st "/claim/cut.py" 436] }),
  (183, fnO (stA p 14) (S "S_IFMT") (.none) (st "cpy313.stat" 429) 182 0),
  (184, tu #[.int 40960 448, st "l" 476]),
  (185, tu #[.int 49152 450, st "s" 477]),
  (186, tu #[.int 32768 444, st "-" 478]),
  (187, tu #[.int 24576 442, st "b" 479]),
  (188, tu #[.int 16384 438, st "d" 480]),
  (189, tu #[.int 8192 440, st "c" 481]),
  (190, tu #[.int 4096 446, st "p" 482]),
  (191, tu #[.ref 184, .ref 185, .ref 186, .ref 187, .ref 188, .ref 189, .ref 190]),
  (192, tu #[.int 256 458, st "r" 483]),
  (193, tu #[.ref 192]),
  (194, tu #[.int 128 460, st "w" 484]),
  (195, tu #[.ref 194]),
  (196, tu #[.int 2112 485, st "s" 486]),
  (197, tu #[.int 2048 452, st "S" 487]),
  (198, tu #[.int 64 462, st "x" 488]),
  (199, tu #[.ref 196, .ref 197, .ref 198]),
  (200, tu #[.int 32 464, st "r" 489]),
  (201, tu #[.ref 200]),
  (202, tu #[.int 16 466, st "w" 490]),
  (203, tu #[.ref 202]),
  (204, tu #[.int 1032 491, st "s" 492]),
  (205, tu #[.int 1024 454, st "S" 493]),
  (206, tu #[.int 8 468, st "x" 494]),
  (207, tu #[.ref 204, .ref 205, .ref 206]),
  (208, tu #[.int 4 470, st "r" 495]),
  (209, tu #[.ref 208]),
  (210, tu #[.int 2 472, st "w" 496]),
  (211, tu #[.ref 210]),
  (212, tu #[.int 513 497, st "t" 498]),
  (213, tu #[.int 512 456, st "T" 499]),
  (214, tu #[.int 1 474, st "x" 500]),
  (215, tu #[.ref 212, .ref 213, .ref 214]),
  (216, tu #[.ref 191, .ref 193, .ref 195, .ref 199, .ref 201, .ref 203, .ref 207, .ref 209, .ref 211, .ref 215]),
  (217, tu #[]),
  (219, tu #[st "mode" 505, st "perm" 506, st "index" 507, st "table" 508, st "bit" 509, st "char" 510]),
  (220, tu #[]),
  (222, { cls := .type "code", data := .fields #[st "filemode" 502, st "filemode" 503, st "/claim/cut.py" 504, .int 186 0, .int 1 0, .int 0 0, .int 0 0, .int 3 0, .ref 217, .bool true, .int 181 0, .ref 218, .none, .ref 219, .ref 220, .ref 221, .int 511 0, .int 186 0, st "/claim/cut.py" 512] }),
  (223, fnO (stA p 35) (S "filemode") (.none) (st "cpy313.stat" 429) 222 0),
  (224, tu #[]),
  (226, tu #[st "numbers" 519, st "modes" 520, st "k" 521, st "rights" 522, st "other" 523]),
  (227, tu #[]),
  (229, { cls := .type "code", data := .fields #[st "_law_modes" 516, st "_law_modes" 517, st "/claim/cut.py" 518, .int 204 0, .int 1 0, .int 0 0, .int 0 0, .int 3 0, .ref 224, .bool true, .int 181 0, .ref 225, .none, .ref 226, .ref 227, .ref 228, .int 524 0, .int 204 0, st "/claim/cut.py" 525] }),
  (230, fnO (stA p 37) (S "_law_modes") (.none) (st "law_nq0247_01" 514) 229 0),
  (231, tu #[]),
  (234, { cls := .type "code", data := .fields #[st "_law_keys" 527, st "_law_keys" 528, st "/claim/cut.py" 529, .int 213 0, .int 2 0, .int 0 0, .int 0 0, .int 3 0, .ref 231, .bool true, .int 181 0, .ref 232, .none, .none, .none, .ref 233, .int 530 0, .int 213 0, st "/claim/cut.py" 531] }),
  (235, fnO (stA p 38) (S "_law_keys") (.none) (st "law_nq0247_01" 514) 234 0),
  (236, tu #[]),
  (239, { cls := .type "code", data := .fields #[st "_law_listed" 533, st "_law_listed" 534, st "/claim/cut.py" 535, .int 215 0, .int 2 0, .int 0 0, .int 0 0, .int 3 0, .ref 236, .bool true, .int 181 0, .ref 237, .none, .none, .none, .ref 238, .int 536 0, .int 215 0, st "/claim/cut.py" 537] }),
  (240, fnO (stA p 39) (S "_law_listed") (.none) (st "law_nq0247_01" 514) 239 0),
  (241, tu #[]),
  (244, { cls := .type "code", data := .fields #[st "_law_ahead" 539, st "_law_ahead" 540, st "/claim/cut.py" 541, .int 219 0, .int 2 0, .int 0 0, .int 0 0, .int 3 0, .ref 241, .bool true, .int 181 0, .ref 242, .none, .none, .none, .ref 243, .int 542 0, .int 219 0, st "/claim/cut.py" 543] }),
  (245, fnO (stA p 40) (S "_law_ahead") (.none) (st "law_nq0247_01" 514) 244 0),
  (246, tu #[]),
  (248, tu #[st "keys" 548, st "ahead" 549, st "sorter" 550, st "k" 551, st "heap" 552, st "row" 553]),
  (249, tu #[]),
  (251, { cls := .type "code", data := .fields #[st "_law_served" 545, st "_law_served" 546, st "/claim/cut.py" 547, .int 224 0, .int 2 0, .int 0 0, .int 0 0, .int 3 0, .ref 246, .bool true, .int 181 0, .ref 247, .none, .ref 248, .ref 249, .ref 250, .int 554 0, .int 224 0, st "/claim/cut.py" 555] }),
  (252, fnO (stA p 41) (S "_law_served") (.none) (st "law_nq0247_01" 514) 251 0),
  (253, tu #[]),
  (256, { cls := .type "code", data := .fields #[st "law" 557, st "law" 558, st "/claim/cut.py" 559, .int 236 0, .int 1 0, .int 0 0, .int 0 0, .int 3 0, .ref 253, .bool true, .int 181 0, .ref 254, .none, .none, .none, .ref 255, .int 560 0, .int 236 0, st "/claim/cut.py" 561] }),
  (257, fnO (stA p 42) (S "law") (.none) (st "law_nq0247_01" 514) 256 0)]
noncomputable def KA : List Addr := [2, 3, 15, 17, 18, 20, 21, 22, 24, 25, 27, 28, 29, 31, 32, 34, 35, 36, 38, 39, 41, 42, 43, 45, 46, 48, 49, 50, 52, 53, 55, 56, 64, 65, 67, 68, 70, 71, 72, 74, 75, 76, 77, 78, 81, 88, 89, 90, 91, 101, 102, 104, 105, 107, 108, 109, 111, 112, 114, 115, 116, 118, 119, 121, 122, 123, 126, 127, 128, 130, 131, 133, 134, 135, 137, 138, 140, 141, 142, 144, 145, 147, 148, 149, 151, 152, 154, 155, 156, 158, 159, 161, 162, 163, 165, 166, 168, 169, 170, 171, 172, 173, 174, 177, 179, 180, 182, 183, 184, 185, 186, 187, 188, 189, 190, 191, 192, 193, 194, 195, 196, 197, 198, 199, 200, 201, 202, 203, 204, 205, 206, 207, 208, 209, 210, 211, 212, 213, 214, 215, 216, 217, 219, 220, 222, 223, 224, 226, 227, 229, 230, 231, 234, 235, 236, 239, 240, 241, 244, 245, 246, 248, 249, 251, 252, 253, 256, 257]
noncomputable abbrev pg : Program := PySem.Challenge.pw_nq0247_01
noncomputable def qv (p : Program) : Program := view p [42]
noncomputable def lo (p : Program) : List Str := p.boundNames.filter fun n => !(n == S "law")
noncomputable def s0 (w : World) (os : OsState) : Shared := ⟨boot_heap w.params, Array.mk [], boot_drawn, boot_toks, os⟩
noncomputable def yF (s : Shared) : List (Option Obj) := KA.map s.heap.get?
noncomputable def yA (w : World) : List (Option Obj) := (KK pg w.params).map fun p => some p.2
theorem top_opening : opening pg = plainProg pg.main.scope.names := by kernel_rfl
theorem top_fence (s : Shared) : fenceModules? pg s = some s := by kernel_rfl
theorem top_boot (w : World) : ∃ s, fencedOpening treeTable pg w 4000 = some s ∧ s = s0 w s.os := by
  obtain ⟨s, hs, hv⟩ := Option.map_eq_some_iff.mp (boot_open (p := pg) (N := 4000) top_opening (by decide) top_fence w)
  refine ⟨s, hs, ?_⟩
  obtain ⟨a, b, c, d, f⟩ := s
  simp only [Prod.mk.injEq] at hv
  obtain ⟨rfl, rfl, rfl, rfl⟩ := hv
  rfl
/- the top's run, by the kernel -/
theorem top_from (w : World) (os : OsState) : (topFrom treeTable pg w 4000 (s0 w os)).map (fun s => (openSeen (qv pg) (lo pg) (importedModules pg.main.body) (fun _ => true) true s, yF s)) = some (openGood (qv pg) (lo pg), yA w) := by
  unfold topFrom
  rw [PySem.W.Fast.te14082659384304107361, PySem.W.Fast.te14364793385576792824, PySem.W.Fast.te4187177175401517315, PySem.W.Fast.te5923862056798008813]
  kernel_rfl
theorem top_ends {w : World} {s : Shared} (hs : fencedOpening treeTable pg w 4000 = some s) : openEnds treeTable pg w 4000 = topFrom treeTable pg w 4000 s := by
  unfold openEnds
  rw [hs]
  rfl
theorem top_left : LeftO pg (qv pg) (lo pg) (fun _ => true) yF yA 4000 := fun w => by
  obtain ⟨s, hs, e⟩ := top_boot w
  rw [top_ends hs, e]
  exact top_from w s.os
theorem ka_is (P : Params) : KA = (KK pg P).map (·.1) := by kernel_rfl
/- the head: what is left is the call -/
theorem head {d : DefRec} {kwd : List (Str × PySem.Expr)} (hdef : defOf (qv pg) (S "law") = some (d, kwd)) (hp : pg.theDef (S "law") = some (d.params, d.body, d.scope)) (hk : kwWritten? d.params.kwonlyargs d.params.kw_defaults = some kwd)
    (call : WalkO (qv pg) (lo pg) (fun _ _ => True) (fun w h => (KK pg w.params).In h) PySem.Challenge.rw_nq0247_01.row.toRowW d kwd fun f vs => PySem.call f vs) : PySem.Challenge.rw_nq0247_01.Holds := by
  w_on
  refine holds_law (by kernel_rfl) fun said => ?_
  refine PySem.W.holds_open (q := qv pg) (loose := lo pg) (Xt := fun _ => true) (XP := fun _ _ => True) (Yf := yF) (Ya := yA) (YP := fun w h => (KK pg w.params).In h) (N := 4000)
    top_left (fun w s e => InK.of (K := KK pg) ka_is w s e) (fun w h h' x k => InK.keeps (K := KK pg) w h h' x k) (fun _ _ => trivial) (fun _ _ _ _ _ => trivial) hdef hp hk (fun s _ => recFacts_nil rfl) (by rfl) (by assumption) (by decide +kernel) ⟨rfl, rfl, rfl, rfl, rfl, by decide +kernel⟩ ?hw call
  w_witness2
end

section
open PySem PySem.W PyProof.Rows PySem.Calls


/- values without tokens; tuples whole, mutable things by their place -/
inductive V where
  | none
  | bool (b : Bool)
  | int (i : Int)
  | str (s : Str)
  | tup (l : List V)
  | ref (a : Addr)
  | val (v : Value)
  | rng (n : Nat)
  | mw (it : Addr)

/- things that never change -/
noncomputable def Imm (o : Obj) : Prop := (∃ xs n, o = seqObj "tuple" xs n) ∨ ∃ vs, o.data = .fields vs ∧ (o.cls = .type "range" ∨ o.cls = .type "method-wrapper")

mutual
inductive VR (h : Heap) : V → Value → Prop
  | none : VR h .none .none
  | bool (b : Bool) : VR h (.bool b) (.bool b)
  | int (i : Int) (t : Tok) : VR h (.int i) (.int i t)
  | str (s : Str) (t : Tok) : VR h (.str s) (.str s t)
  | tup {l : List V} {a : Addr} {xs : Array Value} {n : Nat} : h.get? a = some (seqObj "tuple" xs n) → VRs h l xs.toList → VR h (.tup l) (.ref a)
  | ref (a : Addr) : VR h (.ref a) (.ref a)
  | val (v : Value) : VR h (.val v) v
  | mw {it m : Addr} : h.get? m = some { cls := .type "method-wrapper", data := .fields #[.builtin "list_iterator.__next__", .ref it] } → VR h (.mw it) (.ref m)
  | rng {n : Nat} {r : Addr} {t u v : Tok} : IsRange h r 0 n 1 t u v → VR h (.rng n) (.ref r)
inductive VRs (h : Heap) : List V → List Value → Prop
  | nil : VRs h [] []
  | cons {v : V} {a : Value} {vs : List V} {as : List Value} : VR h v a → VRs h vs as → VRs h (v :: vs) (a :: as)
end

noncomputable def ImmK (h h' : Heap) : Prop := ∀ b o, h.get? b = some o → Imm o → h'.get? b = some o
theorem ImmK.refl (h : Heap) : ImmK h h := fun _ _ e _ => e
theorem ImmK.trans {h h' h'' : Heap} (x : ImmK h h') (y : ImmK h' h'') : ImmK h h'' := fun b o e i => y b o (x b o e i) i

theorem VR.mono {h h' : Heap} (k : ImmK h h') {v : V} {a : Value} (x : VR h v a) : VR h' v a :=
  VR.rec (motive_1 := fun v a _ => VR h' v a) (motive_2 := fun v a _ => VRs h' v a) .none .bool .int .str (fun e _ r => .tup (k _ _ e (.inl ⟨_, _, rfl⟩)) r) .ref .val (fun e => .mw (k _ _ e (.inr ⟨_, rfl, .inr rfl⟩))) (fun e => .rng (k _ _ e (.inr ⟨_, rfl, .inl rfl⟩))) .nil (fun _ _ p r => .cons p r) x
theorem VRs.ind {h : Heap} {M : List V → List Value → Prop} (n : M [] []) (c : ∀ {v a vs as}, VR h v a → VRs h vs as → M vs as → M (v :: vs) (a :: as)) {vs : List V} {as : List Value} (x : VRs h vs as) : M vs as :=
  VRs.rec (motive_1 := fun _ _ _ => True) (motive_2 := fun v a _ => M v a) trivial (fun _ => trivial) (fun _ _ => trivial) (fun _ _ => trivial) (fun _ _ _ => trivial) (fun _ => trivial) (fun _ => trivial) (fun _ => trivial) (fun _ => trivial) n (fun p r _ q => c p r q) x
theorem VRs.mono {h h' : Heap} (k : ImmK h h') {v : List V} {a : List Value} (x : VRs h v a) : VRs h' v a := x.ind .nil fun p _ r => .cons (p.mono k) r
theorem VRs.inv0 {h : Heap} {l : List Value} (x : VRs h [] l) : l = [] := by cases x; rfl
theorem VRs.inv {h : Heap} {v : V} {vs : List V} {l : List Value} (x : VRs h (v :: vs) l) : ∃ a as, l = a :: as ∧ VR h v a ∧ VRs h vs as := by cases x with | cons p r => exact ⟨_, _, rfl, p, r⟩
theorem VR.inv_int {h : Heap} {i : Int} {a : Value} (x : VR h (.int i) a) : ∃ t, a = .int i t := by cases x; exact ⟨_, rfl⟩
theorem VR.inv_str {h : Heap} {i : Str} {a : Value} (x : VR h (.str i) a) : ∃ t, a = .str i t := by cases x; exact ⟨_, rfl⟩
theorem VRs.length {h : Heap} {v : List V} {a : List Value} (x : VRs h v a) : v.length = a.length := x.ind (M := fun v a => v.length = a.length) rfl fun _ _ r => congrArg Nat.succ r
theorem VRs.get {h : Heap} {v : List V} {a : List Value} (x : VRs h v a) : ∀ {i : Nat} {u : V}, v[i]? = some u → ∃ y, a[i]? = some y ∧ VR h u y :=
  x.ind (M := fun v a => ∀ {i : Nat} {u : V}, v[i]? = some u → ∃ y, a[i]? = some y ∧ VR h u y) (fun e => nomatch e) fun p _ r i _ e => by
    cases i with
    | zero => cases e; exact ⟨_, rfl, p⟩
    | succ i => exact r e
theorem VRs.app {h : Heap} {v v' : List V} {a a' : List Value} (x : VRs h v a) (y : VRs h v' a') : VRs h (v ++ v') (a ++ a') := x.ind (M := fun v a => VRs h (v ++ v') (a ++ a')) y fun p _ r => .cons p r
theorem VRs.set {h : Heap} {v : List V} {a : List Value} (x : VRs h v a) (i : Nat) {u : V} {y : Value} (q : VR h u y) : VRs h (v.set i u) (a.set i y) :=
  x.ind (M := fun v a => ∀ i : Nat, VRs h (v.set i u) (a.set i y)) (fun _ => .nil) (fun p r s i => Nat.casesOn (motive := fun i => VRs h ((_ :: _ : List V).set i u) ((_ :: _ : List Value).set i y)) i (.cons q r) fun i => .cons p (s i)) i
theorem VRs.take {h : Heap} {v : List V} {a : List Value} (x : VRs h v a) : ∀ n : Nat, VRs h (v.take n) (a.take n) :=
  x.ind (M := fun v a => ∀ n : Nat, VRs h (v.take n) (a.take n)) (fun n => by simp only [List.take_nil]; exact .nil) fun p _ s i => Nat.casesOn (motive := fun i => VRs h ((_ :: _ : List V).take i) ((_ :: _ : List Value).take i)) i .nil fun i => .cons p (s i)
theorem VRs.drop {h : Heap} {v : List V} {a : List Value} (x : VRs h v a) : ∀ n : Nat, VRs h (v.drop n) (a.drop n) :=
  x.ind (M := fun v a => ∀ n : Nat, VRs h (v.drop n) (a.drop n)) (fun n => by simp only [List.drop_nil]; exact .nil) fun p r s i => Nat.casesOn (motive := fun i => VRs h ((_ :: _ : List V).drop i) ((_ :: _ : List Value).drop i)) i (.cons p r) fun i => s i

/- the things that a call of the law makes -/
inductive O where
  | list (vs : List V)
  | dict (kvs : List (Int × V)) (ep : Nat)
  | sdict (fs : List (Str × V))
  | set (ks : List Int)
  | inst (C dx : Addr) (vs : List (Option V))
  | liter (l : Addr) (i : Nat)

noncomputable abbrev Hp := Addr → Option O
noncomputable def upd (σ : Hp) (a : Addr) (o : O) : Hp := fun b => if b = a then some o else σ b
theorem upd_self (σ : Hp) (a : Addr) (o : O) : upd σ a o a = some o := if_pos rfl
theorem upd_ne (σ : Hp) {a b : Addr} (o : O) (h : b ≠ a) : upd σ a o b = σ b := if_neg h
end

section
open PySem PySem.W PyProof.Rows PySem.Calls

/- what lies below: a heap that stays, and the frames that are open -/
structure Base where
  h : Heap
  fr : List Env
noncomputable abbrev Base.get? (b : Base) (a : Addr) : Option Obj := b.h.get? a
noncomputable def isD (o : Obj) : Prop := ∃ es n, o.data = .dict es n
/- an object but for a dict's slots -/
inductive Sm (o : Obj) : Obj → Prop
  | same : Sm o o
  | slots (d : isD o) (sl : Array (Option Value)) : Sm o { o with slots := sl }
theorem Sm.trans {o p q : Obj} : Sm o p → Sm p q → Sm o q
  | .same, y => y
  | .slots d sl, .same => .slots d sl
  | .slots d sl, .slots _ sl' => .slots d sl'
theorem Sm.data {o p : Obj} : Sm o p → p.data = o.data
  | .same => rfl
  | .slots _ _ => rfl
/- a thing is still there -/
noncomputable def Kp (h : Heap) (b : Addr) (o : Obj) : Prop := ∃ o', h.get? b = some o' ∧ Sm o o'
theorem Kp.of {h : Heap} {b : Addr} {o : Obj} (e : h.get? b = some o) : Kp h b o := ⟨o, e, .same⟩
theorem Kp.then {h h' : Heap} {b : Addr} {o : Obj} (k : Kp h b o) (f : ∀ o', h.get? b = some o' → Kp h' b o') : Kp h' b o := by
  obtain ⟨o1, e1, s1⟩ := k
  obtain ⟨o2, e2, s2⟩ := f o1 e1
  exact ⟨o2, e2, s1.trans s2⟩
theorem Kp.exact {h : Heap} {b : Addr} {o : Obj} (k : Kp h b o) (nd : ¬ isD o) : h.get? b = some o := by
  obtain ⟨o', e, s⟩ := k
  cases s with
  | same => exact e
  | slots d sl => exact absurd d nd
theorem Kp.has {h : Heap} {b : Addr} {o : Obj} (k : Kp h b o) : ∃ o', h.get? b = some o' := let ⟨o', e, _⟩ := k; ⟨o', e⟩
theorem not_isD_fields {o : Obj} {vs : Array Value} (h : o.data = .fields vs) : ¬ isD o := by rintro ⟨es, n, e⟩; rw [h] at e; cases e
theorem not_isD_cell {o : Obj} {v : Option Value} (h : o.data = .cell v) : ¬ isD o := by rintro ⟨es, n, e⟩; rw [h] at e; cases e
theorem not_isD_seq {o : Obj} {xs : Array Value} {n : Nat} (h : o.data = .seq xs n) : ¬ isD o := by rintro ⟨es, m, e⟩; rw [h] at e; cases e
/- int keyed entries, in order -/
noncomputable def KVR (h : Heap) : List (Int × V) → List (Int × Value) → Prop
  | [], [] => True
  | (k, v) :: r, (k', a) :: r' => k = k' ∧ VR h v a ∧ KVR h r r'
  | _, _ => False
noncomputable def SVR (h : Heap) : List (Str × V) → List (Str × Value) → Prop
  | [], [] => True
  | (k, v) :: r, (k', a) :: r' => k = k' ∧ VR h v a ∧ SVR h r r'
  | _, _ => False
inductive OVR (h : Heap) : List (Option V) → List (Option Value) → Prop
  | nil : OVR h [] []
  | no {r : List (Option V)} {r' : List (Option Value)} : OVR h r r' → OVR h (none :: r) (none :: r')
  | yes {v : V} {a : Value} {r : List (Option V)} {r' : List (Option Value)} : VR h v a → OVR h r r' → OVR h (some v :: r) (some a :: r')
theorem KVR.mono {h h' : Heap} (k : ImmK h h') : ∀ {l : List (Int × V)} {r : List (Int × Value)}, KVR h l r → KVR h' l r
  | [], [], _ => trivial
  | (_, _) :: _, (_, _) :: _, ⟨a, b, c⟩ => ⟨a, b.mono k, KVR.mono k c⟩
theorem SVR.mono {h h' : Heap} (k : ImmK h h') : ∀ {l : List (Str × V)} {r : List (Str × Value)}, SVR h l r → SVR h' l r
  | [], [], _ => trivial
  | (_, _) :: _, (_, _) :: _, ⟨a, b, c⟩ => ⟨a, b.mono k, SVR.mono k c⟩
theorem OVR.mono {h h' : Heap} (k : ImmK h h') {l : List (Option V)} {r : List (Option Value)} (x : OVR h l r) : OVR h' l r :=
  OVR.rec (motive := fun l r _ => OVR h' l r) .nil (fun _ c => .no c) (fun b _ c => .yes (b.mono k) c) x

/- attributes, in order -/
inductive SE (h : Heap) : List (Str × V) → List DictEntry → Prop
  | nil : SE h [] []
  | cons {x : Str} {v : V} {hash : Int} {t : Tok} {a : Value} {r : List (Str × V)} {r' : List DictEntry} : VR h v a → SE h r r' → SE h ((x, v) :: r) (⟨hash, .str x t, a⟩ :: r')
theorem SE.mono {h h' : Heap} (k : ImmK h h') {l : List (Str × V)} {r : List DictEntry} (x : SE h l r) : SE h' l r :=
  SE.rec (motive := fun l r _ => SE h' l r) .nil (fun b _ c => .cons (b.mono k) c) x

section
variable (w : World)

/- what lies at a place of the heap -/
noncomputable def OR (h : Heap) (a : Addr) : O → Prop
  | .list vs => ∃ (xs : Array Value) (n : Nat), h.get? a = some (listOf xs n) ∧ VRs h vs xs.toList
  | .dict kvs ep => ∃ ps, h.DictAt (intKind pg w) a ps ep ∧ KVR h kvs ps
  | .sdict fs => ∃ (es : List DictEntry) (n : Nat), h.get? a = some (dictOf es n) ∧ SE h fs es
  | .set ks => ∃ S n, h.SetOf (intKind pg w) a S n ∧ n = ks.length ∧ ∀ k, S k = ks.contains k
  | .inst C dx vs => ∃ sl : List (Option Value), h.get? a = some { cls := .ref C, dict := some dx, data := .plain, slots := sl.toArray } ∧ OVR h vs sl
  | .liter l i => h.IsListIter a l i

variable {w}
theorem OR.move {h h' : Heap} {a : Addr} {o : O} (x : OR w h a o) (k : ImmK h h') (e : ∀ ob, h.get? a = some ob → h'.get? a = some ob) : OR w h' a o := by
  cases o with
  | list vs => obtain ⟨xs, n, p, q⟩ := x; exact ⟨xs, n, e _ p, q.mono k⟩
  | dict kvs ep =>
    obtain ⟨ps, ⟨ob, es, p1, p2⟩, q⟩ := x
    exact ⟨ps, ⟨ob, es, e _ p1, p2⟩, q.mono k⟩
  | sdict fs =>
    obtain ⟨es, n, p0, q⟩ := x
    exact ⟨es, n, e _ p0, q.mono k⟩
  | set ks =>
    obtain ⟨S, n, p, q⟩ := x
    obtain ⟨ob, es, ep, t, p1, p2⟩ := p
    exact ⟨S, n, ⟨ob, es, ep, t, e _ p1, p2⟩, q⟩
  | inst C dx vs => obtain ⟨sl, p, q⟩ := x; exact ⟨sl, e _ p, q.mono k⟩
  | liter l i => obtain ⟨ob, p, q⟩ := x; exact ⟨ob, e _ p, q⟩
theorem OR.has {h : Heap} {a : Addr} {o : O} (x : OR w h a o) : ∃ ob, h.get? a = some ob := by
  cases o with
  | list vs => obtain ⟨xs, n, p, q⟩ := x; exact ⟨_, p⟩
  | dict kvs ep => obtain ⟨ps, ⟨ob, es, p1, p2⟩, q⟩ := x; exact ⟨_, p1⟩
  | sdict fs => obtain ⟨es, n, p0, q⟩ := x; exact ⟨_, p0⟩
  | set ks => obtain ⟨S, n, ⟨ob, es, ep, t, p1, p2⟩, q⟩ := x; exact ⟨_, p1⟩
  | inst C dx vs => obtain ⟨sl, p, q⟩ := x; exact ⟨_, p⟩
  | liter l i => obtain ⟨ob, p, q⟩ := x; exact ⟨_, p⟩
end

noncomputable abbrev Loc := List (Str × V)
noncomputable def setL (x : Str) (v : V) : Loc → Loc
  | [] => [(x, v)]
  | (y, u) :: r => if x == y then (y, v) :: r else (y, u) :: setL x v r
theorem setL_self (x : Str) (v : V) : ∀ l : Loc, (setL x v l).lookup x = some v
  | [] => by simp [setL]
  | (y, u) :: r => by
    unfold setL
    split
    · rename_i h; simp only [List.lookup_cons, h]
    · rename_i h
      have h' : (x == y) = false := by simpa using h
      simp only [List.lookup_cons, h']; exact setL_self x v r
theorem setL_ne {x y : Str} (v : V) (hn : y ≠ x) : ∀ l : Loc, (setL x v l).lookup y = l.lookup y
  | [] => by
    have : (y == x) = false := by simpa using hn
    show List.lookup y ((x, v) :: []) = _
    rw [List.lookup_cons, this]
  | (z, u) :: r => by
    unfold setL
    split
    · rename_i h
      have e : x = z := by simpa using h
      subst e
      have : (y == x) = false := by simpa using hn
      rw [List.lookup_cons, List.lookup_cons, this]
    · rw [List.lookup_cons, List.lookup_cons]
      split
      · rfl
      · exact setL_ne v hn r

/- the places that a frame reads its names at; those that it writes -/
noncomputable def reach (env : Env) (b : Addr) : Prop := b = env.locals ∨ ∃ x, env.cells.lookup x = some b
noncomputable def own (env : Env) (b : Addr) : Prop := b = env.locals ∨ (env.locals < b ∧ ∃ x, env.cells.lookup x = some b)
theorem own.reach {env : Env} {b : Addr} (h : own env b) : reach env b := h.imp id fun x => x.2

structure Rep (w : World) (hb : Base) (σ : Hp) (h : Heap) : Prop where
  obj : ∀ a o, σ a = some o → OR w h a o
  base : ∀ b ob, hb.get? b = some ob → h.get? b = some ob
  apart : ∀ b ob, hb.get? b = some ob → σ b = none
  fr : ∀ e ∈ hb.fr, e.scope.kind ≠ .module ∧ ∃ L, e.frame = some L ∧ σ L = none ∧ hb.get? L = none ∧ ∃ o, h.get? L = some o ∧ isD o

structure FrR (hb : Base) (env : Env) (loc : Loc) (σ : Hp) (h : Heap) : Prop where
  ns : ∃ m, h.Ns env.locals m ∧ ∀ x v, env.kindOf x = some .local → loc.lookup x = some v → ∃ a, m x = some a ∧ VR h v a
  cells : ∀ x c, env.cells.lookup x = some c → ∃ ov, h.IsCell c ov ∧ ∀ v, loc.lookup x = some v → ∃ a, ov = some a ∧ VR h v a
  lns : σ env.locals = none ∧ hb.get? env.locals = none
  cns : ∀ x c, env.cells.lookup x = some c → σ c = none ∧ hb.get? c = none ∧ c ≠ env.locals
  cnd : ∀ x y c, env.cells.lookup x = some c → env.cells.lookup y = some c → x = y
  ckind : ∀ x c, env.cells.lookup x = some c → env.kindOf x ≠ some .local

structure St (ow : Addr → Prop) (σ σ' : Hp) (h h' : Heap) : Prop where
  imm : ImmK h h'
  keep : ∀ b o, h.get? b = some o → σ b = none → ¬ ow b → Kp h' b o ∧ σ' b = none

theorem St.refl (ow : Addr → Prop) (σ : Hp) (h : Heap) : St ow σ σ h h := ⟨ImmK.refl h, fun _ _ e q _ => ⟨.of e, q⟩⟩
theorem St.trans {ow : Addr → Prop} {σ σ₁ σ₂ : Hp} {h h₁ h₂ : Heap} (x : St ow σ σ₁ h h₁) (y : St ow σ₁ σ₂ h₁ h₂) : St ow σ σ₂ h h₂ :=
  ⟨x.imm.trans y.imm, fun b o e q n => by
    obtain ⟨⟨o1, e1, s1⟩, q1⟩ := x.keep b o e q n
    obtain ⟨⟨o2, e2, s2⟩, q2⟩ := y.keep b o1 e1 q1 n
    exact ⟨⟨o2, e2, s1.trans s2⟩, q2⟩⟩
/- the open frames are still there -/
theorem fr_keep {hb : Base} {σ σ' : Hp} {h h' : Heap} (f : ∀ e ∈ hb.fr, e.scope.kind ≠ .module ∧ ∃ L, e.frame = some L ∧ σ L = none ∧ hb.get? L = none ∧ ∃ o, h.get? L = some o ∧ isD o)
    (k : ∀ L o, σ L = none → hb.get? L = none → h.get? L = some o → isD o → σ' L = none ∧ ∃ o', h'.get? L = some o' ∧ isD o') :
    ∀ e ∈ hb.fr, e.scope.kind ≠ .module ∧ ∃ L, e.frame = some L ∧ σ' L = none ∧ hb.get? L = none ∧ ∃ o, h'.get? L = some o ∧ isD o := fun e he => by
  obtain ⟨hk, L, hf, hs, hn, o, ho, hd⟩ := f e he
  obtain ⟨hs', o', ho', hd'⟩ := k L o hs hn ho hd
  exact ⟨hk, L, hf, hs', hn, o', ho', hd'⟩
theorem St.wide {ow ow' : Addr → Prop} {σ σ' : Hp} {h h' : Heap} (x : St ow σ σ' h h') (k : ∀ b, ow b → ow' b) : St ow' σ σ' h h' :=
  ⟨x.imm, fun b o e q n => x.keep b o e q fun z => n (k b z)⟩

theorem FrR.has {hb : Base} {env : Env} {loc : Loc} {σ : Hp} {h : Heap} (F : FrR hb env loc σ h) {b : Addr} (o : reach env b) : ∃ ob, h.get? b = some ob := by
  rcases o with rfl | ⟨x, hx⟩
  · obtain ⟨m, ⟨ob, _, _, e, _⟩, _⟩ := F.ns; exact ⟨ob, e⟩
  · obtain ⟨ov, ⟨ob, e, _⟩, _⟩ := F.cells x b hx; exact ⟨ob, e⟩
theorem FrR.out {hb : Base} {env : Env} {loc : Loc} {σ : Hp} {h : Heap} (F : FrR hb env loc σ h) {b : Addr} (o : reach env b) : σ b = none ∧ hb.get? b = none := by
  rcases o with rfl | ⟨x, hx⟩
  · exact F.lns
  · exact ⟨(F.cns x b hx).1, (F.cns x b hx).2.1⟩
theorem FrR.move {hb : Base} {env : Env} {loc : Loc} {σ σ' : Hp} {h h' : Heap} (F : FrR hb env loc σ h) (k : ImmK h h') (e : ∀ b ob, reach env b → h.get? b = some ob → Kp h' b ob ∧ σ' b = none) : FrR hb env loc σ' h' where
  ns := by
    obtain ⟨m, ⟨o, es, ep, ho, hd, r⟩, q⟩ := F.ns
    obtain ⟨o', ho', s'⟩ := (e _ _ (.inl rfl) ho).1
    exact ⟨m, ⟨o', es, ep, ho', s'.data.trans hd, r⟩, fun x v hk hl => let ⟨a, p, z⟩ := q x v hk hl; ⟨a, p, z.mono k⟩⟩
  cells := fun x c hx => by
    obtain ⟨ov, ⟨o, ho, r⟩, q⟩ := F.cells x c hx
    obtain ⟨o', ho', s'⟩ := (e _ _ (.inr ⟨x, hx⟩) ho).1
    exact ⟨ov, ⟨o', ho', s'.data.trans r⟩, fun v hl => let ⟨a, p, z⟩ := q v hl; ⟨a, p, z.mono k⟩⟩
  lns := by
    obtain ⟨ob, ho⟩ := F.has (b := env.locals) (.inl rfl)
    exact ⟨(e _ _ (.inl rfl) ho).2, F.lns.2⟩
  cns := fun x c hx => by
    obtain ⟨ob, ho⟩ := F.has (b := c) (.inr ⟨x, hx⟩)
    exact ⟨(e _ _ (.inr ⟨x, hx⟩) ho).2, (F.cns x c hx).2⟩
  cnd := F.cnd
  ckind := F.ckind
theorem FrR.stay {hb : Base} {env : Env} {loc : Loc} {σ σ' : Hp} {h h' : Heap} (F : FrR hb env loc σ h) (s : St (fun _ => False) σ σ' h h') : FrR hb env loc σ' h' :=
  F.move s.imm fun b ob o e => s.keep b ob e (F.out o).1 id

section
variable (w : World) (hb : Base)

/- a tree run in a frame: from a known state it comes to one that Q knows -/
noncomputable def Tr {α β : Type} (A : Around) (env : Env) (Rel : Heap → β → α → Prop) (t : Sem α) (σ : Hp) (loc : Loc) (Q : β → Hp → Loc → Prop) : Prop :=
  ∀ (s : Shared) (P : α → Shared → Prop) (E : Value → Shared → Prop), Rep w hb σ s.heap → FrR hb env loc σ s.heap →
    (∀ b a σ' loc' h' tk', Q b σ' loc' → Rep w hb σ' h' → FrR hb env loc' σ' h' → Rel h' b a → St (own env) σ σ' s.heap h' → P a { s with heap := h', toks := tk' }) →
    wpAny (model pg w) A t P E s

/- an operation upon values: no frame -/
noncomputable def Op {γ α β : Type} (A : Around) (In : Heap → γ → Prop) (t : γ → Sem α) (Rel : Heap → β → α → Prop) (σ : Hp) (Q : β → Hp → Prop) : Prop :=
  ∀ (x : γ) (s : Shared) (P : α → Shared → Prop) (E : Value → Shared → Prop), In s.heap x → Rep w hb σ s.heap →
    (∀ b a σ' h' tk', Q b σ' → Rep w hb σ' h' → Rel h' b a → St (fun _ => False) σ σ' s.heap h' → P a { s with heap := h', toks := tk' }) →
    wpAny (model pg w) A (t x) P E s

noncomputable abbrev Ev (A : Around) (env : Env) (t : Sem Value) := Tr w hb A env VR t
noncomputable abbrev EvB (A : Around) (env : Env) (t : Sem Bool) := Tr w hb A env (fun _ (b c : Bool) => b = c) t
noncomputable abbrev EvL (A : Around) (env : Env) (t : Sem (List Value)) := Tr w hb A env VRs t
noncomputable abbrev EvU (A : Around) (env : Env) (t : Sem Unit) := Tr w hb A env (fun _ (_ _ : Unit) => True) t
noncomputable abbrev Op1 (A : Around) (u : V) (t : Value → Sem Value) := Op w hb A (fun h a => VR h u a) t VR
noncomputable abbrev Op2 (A : Around) (u v : V) (t : Value → Value → Sem Value) := Op w hb A (fun h (p : Value × Value) => VR h u p.1 ∧ VR h v p.2) (fun p => t p.1 p.2) VR
noncomputable abbrev OpN (A : Around) (vs : List V) (t : List Value → Sem Value) := Op w hb A (fun h as => VRs h vs as) t VR
noncomputable abbrev OpB (A : Around) (u : V) (t : Value → Sem Bool) := Op w hb A (fun h a => VR h u a) t (fun _ (b c : Bool) => b = c)

inductive Fl where
  | next | brk | cont
  | ret (v : V)
inductive FlR (h : Heap) : Fl → Flow → Prop
  | next : FlR h .next .next
  | brk : FlR h .brk .brk
  | cont : FlR h .cont .cont
  | ret {v : V} {a : Value} : VR h v a → FlR h (.ret v) (.ret a)
noncomputable abbrev Ex (A : Around) (env : Env) (t : Sem Flow) := Tr w hb A env FlR t

variable {w hb}
theorem Tr.mono {α β : Type} {A : Around} {env : Env} {Rel : Heap → β → α → Prop} {t : Sem α} {σ : Hp} {loc : Loc} {Q Q' : β → Hp → Loc → Prop} (h : Tr w hb A env Rel t σ loc Q) (k : ∀ b σ' loc', Q b σ' loc' → Q' b σ' loc') :
    Tr w hb A env Rel t σ loc Q' := fun s P E R F H => h s P E R F fun b a σ' loc' h' tk' q => H b a σ' loc' h' tk' (k _ _ _ q)
/- an operation within a frame -/
theorem Op.run {γ α β : Type} {A : Around} {env : Env} {In : Heap → γ → Prop} {t : γ → Sem α} {Rel : Heap → β → α → Prop} {σ : Hp} {loc : Loc} {Q : β → Hp → Prop} (h : Op w hb A In t Rel σ Q) {x : γ} {s : Shared} {P : α → Shared → Prop} {E : Value → Shared → Prop}
    (I : In s.heap x) (R : Rep w hb σ s.heap) (F : FrR hb env loc σ s.heap) (H : ∀ b a σ' h' tk', Q b σ' → Rep w hb σ' h' → FrR hb env loc σ' h' → Rel h' b a → St (own env) σ σ' s.heap h' → P a { s with heap := h', toks := tk' }) :
    wpAny (model pg w) A (t x) P E s := h x s P E I R fun b a σ' h' tk' q R' r S => H b a σ' h' tk' q R' (F.stay S) r (S.wide fun _ z => z.elim)
/- no heap is touched -/
theorem St.same {ow : Addr → Prop} {σ : Hp} {h : Heap} : St ow σ σ h h := St.refl ow σ h
/- one thing is changed -/
theorem Rep.turn {σ : Hp} {h h' : Heap} {a : Addr} {o o' : O} (R : Rep w hb σ h) (ho : σ a = some o) (ni : ∀ ob, h.get? a = some ob → ¬ Imm ob) (hs : Heap.SameBut a h h') (hn : OR w h' a o') :
    Rep w hb (upd σ a o') h' ∧ St (fun _ => False) σ (upd σ a o') h h' := by
  have im : ImmK h h' := fun b ob e i => by
    by_cases hb' : b = a
    · subst hb'; exact absurd i (ni ob e)
    · exact (hs.2 b hb').trans e
  refine ⟨⟨fun b p e => ?_, fun b ob e => ?_, fun b ob e => ?_, fr_keep R.fr fun L o s _ e d => ?_⟩, im, fun b ob e q _ => ?_⟩
  · by_cases hb' : b = a
    · subst hb'; rw [upd_self] at e; cases e; exact hn
    · rw [upd_ne _ _ hb'] at e
      exact (R.obj b p e).move im fun ob z => (hs.2 b hb').trans z
  · have : b ≠ a := fun z => by subst z; rw [R.apart b ob e] at ho; cases ho
    exact (hs.2 b this).trans (R.base b ob e)
  · have : b ≠ a := fun z => by subst z; rw [R.apart b ob e] at ho; cases ho
    rw [upd_ne _ _ this]; exact R.apart b ob e
  · have : L ≠ a := fun z => by subst z; rw [s] at ho; cases ho
    exact ⟨by rw [upd_ne _ _ this]; exact s, o, (hs.2 L this).trans e, d⟩
  · have : b ≠ a := fun z => by subst z; rw [q] at ho; cases ho
    exact ⟨.of ((hs.2 b this).trans e), by rw [upd_ne _ _ this]; exact q⟩
/- all old things stay -/
theorem Rep.grow {σ : Hp} {h h' : Heap} (R : Rep w hb σ h) (keep : ∀ b o, h.get? b = some o → h'.get? b = some o) : Rep w hb σ h' ∧ St (fun _ => False) σ σ h h' :=
  have im : ImmK h h' := fun b o e _ => keep b o e
  ⟨⟨fun b p e => (R.obj b p e).move im fun ob z => keep b ob z, fun b o e => keep b o (R.base b o e), R.apart, fr_keep R.fr fun L o s _ e d => ⟨s, o, keep L o e, d⟩⟩, im, fun b o e q _ => ⟨.of (keep b o e), q⟩⟩
/- a thing is made: it is new -/
theorem Rep.push {σ : Hp} {h : Heap} {ob : Obj} (R : Rep w hb σ h) : Rep w hb σ (h.push ob) ∧ St (fun _ => False) σ σ h (h.push ob) := R.grow fun _ _ e => Heap.get?_push_of_some _ e
theorem Rep.none_of {σ : Hp} {h : Heap} (R : Rep w hb σ h) {a : Addr} (e : h.get? a = none) : σ a = none := by
  cases q : σ a with
  | none => rfl
  | some o => obtain ⟨ob, z⟩ := (R.obj a o q).has; rw [e] at z; cases z
theorem get?_size (h : Heap) : h.get? h.objs.size = none := by
  cases q : h.get? h.objs.size with
  | none => rfl
  | some o => exact absurd (Heap.lt_size q) (Nat.lt_irrefl _)
theorem Rep.make {σ : Hp} {h : Heap} {ob : Obj} {o : O} (R : Rep w hb σ h) (hf : ob.isFreed = false) (hn : OR w (h.push ob) h.objs.size o) :
    Rep w hb (upd σ h.objs.size o) (h.push ob) ∧ St (fun _ => False) σ (upd σ h.objs.size o) h (h.push ob) := by
  have ⟨R', S⟩ := R.push (ob := ob)
  have z := get?_size h
  refine ⟨⟨fun b p e => ?_, R'.base, fun b ob' e => ?_, fr_keep R.fr fun L o' s _ e d => ⟨?_, o', Heap.get?_push_of_some _ e, d⟩⟩, S.imm, fun b ob' e q _ => ⟨.of (Heap.get?_push_of_some _ e), ?_⟩⟩
  · by_cases hb' : b = h.objs.size
    · subst hb'; rw [upd_self] at e; cases e; exact hn
    · rw [upd_ne _ _ hb'] at e; exact R'.obj b p e
  · have : b ≠ h.objs.size := fun y => by have := R.base b ob' e; rw [y, z] at this; cases this
    rw [upd_ne _ _ this]; exact R.apart b ob' e
  · have : L ≠ h.objs.size := fun y => by rw [y, z] at e; cases e
    rw [upd_ne _ _ this]; exact s
  · have : b ≠ h.objs.size := fun y => by rw [y, z] at e; cases e
    rw [upd_ne _ _ this]; exact q
end
end

section
open PySem PySem.W PyProof.Rows PySem.Calls

noncomputable abbrev KF (w : World) : Frag := KK pg w.params

structure Bs (w : World) (hb : Heap) : Prop where
  X : (KF w).In hb
  T : ∃ loose mean mg mb, Top (qv pg) loose mean mg mb hb

/- a global of the text -/
noncomputable def GN (w : World) (x : Str) (v : Value) : Prop := nsIn (KF w) mainGlobals x = some (some v)
/- a built-in's name -/
noncomputable def BN (w : World) (x : Str) (v : Value) : Prop := nsIn (KF w) mainGlobals x = some none ∧ bootBuiltins x = some v ∧ x ≠ "__name__"

section
variable {w : World} {hb : Base} {A : Around} {env : Env} {σ : Hp} {loc : Loc}

theorem Rep.glob (B : Bs w hb.h) {h : Heap} (R : Rep w hb σ h) {x : Str} {v : Value} (e : GN w x v) : ∃ mg, h.Ns mainGlobals mg ∧ mg x = some v := by
  obtain ⟨loose, mean, mg, mb, T⟩ := B.T
  exact ⟨mg, T.g.keeps R.base, mg_of B.X T.g e⟩
theorem Rep.boot (B : Bs w hb.h) {h : Heap} (R : Rep w hb σ h) {x : Str} {v : Value} (e : BN w x v) : ∃ mg mb, h.Ns mainGlobals mg ∧ mg x = none ∧ h.Ns builtinsNs mb ∧ mb x = some v := by
  obtain ⟨loose, mean, mg, mb, T⟩ := B.T
  exact ⟨mg, mb, T.g.keeps R.base, mg_none_of B.X T.g e.1, T.b.keeps R.base, (T.builtins x e.2.2).trans e.2.1⟩
theorem Rep.nolimit (B : Bs w hb.h) {h : Heap} (R : Rep w hb σ h) : h.NoLimit := by
  obtain ⟨loose, mean, mg, mb, T⟩ := B.T
  exact T.nolimit.keeps R.base
theorem Rep.inK (B : Bs w hb.h) {h : Heap} (R : Rep w hb σ h) : (KF w).In h := fun a o e => R.base a o (B.X a o e)

theorem Ev_local {x : Str} {pos : Pos} {v : V} {Q : V → Hp → Loc → Prop} (hl : env.kindOf x = some .local) (e : loc.lookup x = some v) (h : Q v σ loc) (hk : env.scope.kind = .function := by rfl) (hd : (x == ("__debug__" : Str)) = false := by decide) :
    Ev w hb A env (eval (.Name x pos) env) σ loc Q := fun s P E R F H => by
  obtain ⟨m, hn, q⟩ := F.ns
  obtain ⟨a, ha, r⟩ := q x v hl e
  exact wpAny_Name (wpAny_loadName_local hk hl hn ha (H _ _ _ _ s.heap s.toks h R F r St.same)) hd
theorem Ev_cell {x : Str} {c : Addr} {pos : Pos} {v : V} {Q : V → Hp → Loc → Prop} (hl : env.kindOf x = some .cell) (hc : env.cells.lookup x = some c) (e : loc.lookup x = some v) (h : Q v σ loc) (hk : env.scope.kind = .function := by rfl) (hd : (x == ("__debug__" : Str)) = false := by decide) :
    Ev w hb A env (eval (.Name x pos) env) σ loc Q := fun s P E R F H => by
  obtain ⟨ov, hv, q⟩ := F.cells x c hc
  obtain ⟨a, rfl, r⟩ := q v e
  exact wpAny_Name (wpAny_loadName_cell hk hl hc hv (H _ _ _ _ s.heap s.toks h R F r St.same)) hd
theorem Ev_glob (B : Bs w hb.h) {x : Str} {pos : Pos} {v : V} {a : Value} {Q : V → Hp → Loc → Prop} (g : GN w x a) (hr : ∀ h, (KF w).In h → VR h v a) (h : Q v σ loc) (hx : env.kindOf x = some .globalImplicit) (hg : env.globals = mainGlobals := by rfl)
    (hk : env.scope.kind = .function := by rfl) (hd : (x == ("__debug__" : Str)) = false := by decide) : Ev w hb A env (eval (.Name x pos) env) σ loc Q := fun s P E R F H => by
  obtain ⟨mg, h1, h2⟩ := R.glob B g
  exact Name_function_global hk hx (loadGlobal_global (by rw [hg]; exact h1) h2 (H _ _ _ _ s.heap s.toks h R F (hr _ (R.inK B)) St.same)) hd
theorem Ev_gval (B : Bs w hb.h) {x : Str} {pos : Pos} {a : Value} {Q : V → Hp → Loc → Prop} (g : GN w x a) (h : Q (.val a) σ loc) (hx : env.kindOf x = some .globalImplicit) (hg : env.globals = mainGlobals := by rfl)
    (hk : env.scope.kind = .function := by rfl) (hd : (x == ("__debug__" : Str)) = false := by decide) : Ev w hb A env (eval (.Name x pos) env) σ loc Q := Ev_glob B g (fun _ _ => .val a) h hx hg hk hd
theorem Ev_boot (B : Bs w hb.h) {x : Str} {pos : Pos} {a : Value} {Q : V → Hp → Loc → Prop} (g : BN w x a) (h : Q (.val a) σ loc) (hx : env.kindOf x = some .globalImplicit) (hg : env.globals = mainGlobals := by rfl) (hbn : env.builtins = builtinsNs := by rfl)
    (hk : env.scope.kind = .function := by rfl) (hd : (x == ("__debug__" : Str)) = false := by decide) : Ev w hb A env (eval (.Name x pos) env) σ loc Q := fun s P E R F H => by
  obtain ⟨mg, mb, h1, h2, h3, h4⟩ := R.boot B g
  exact Name_function_global hk hx (loadGlobal_builtin (by rw [hg]; exact h1) h2 (by rw [hbn]; exact h3) h4 (H _ _ _ _ s.heap s.toks h R F (.val a) St.same)) hd

theorem Ev_int {i : Int} {k : Nat} {pos : Pos} {Q : V → Hp → Loc → Prop} (h : Q (.int i) σ loc) : Ev w hb A env (eval (.Constant (.int i) k pos) env) σ loc Q := fun s P E R F H =>
  wpAny_Constant_int (H _ _ _ _ s.heap _ h R F (.int i _) St.same)
theorem Ev_str {x : Str} {k : Nat} {pos : Pos} {Q : V → Hp → Loc → Prop} (h : Q (.str x) σ loc) : Ev w hb A env (eval (.Constant (.str x) k pos) env) σ loc Q := fun s P E R F H =>
  wpAny_Constant_str (H _ _ _ _ s.heap _ h R F (.str x _) St.same)
theorem Ev_none {k : Nat} {pos : Pos} {Q : V → Hp → Loc → Prop} (h : Q .none σ loc) : Ev w hb A env (eval (.Constant .none k pos) env) σ loc Q := fun s P E R F H =>
  wpAny_Constant_none (H _ _ _ _ s.heap s.toks h R F .none St.same)
theorem Ev_bool {b : Bool} {k : Nat} {pos : Pos} {Q : V → Hp → Loc → Prop} (h : Q (.bool b) σ loc) : Ev w hb A env (eval (.Constant (.bool b) k pos) env) σ loc Q := fun s P E R F H =>
  wpAny_Constant_bool (H _ _ _ _ s.heap s.toks h R F (.bool b) St.same)

theorem Ev_BinOp {l r : Expr} {op : Operator} {pos : Pos} {Q : V → Hp → Loc → Prop}
    (h : Ev w hb A env (eval l env) σ loc fun u σ₁ loc₁ => Ev w hb A env (eval r env) σ₁ loc₁ fun v σ₂ loc₂ => Op2 w hb A u v (fun a b => binaryOp op a b) σ₂ fun x σ₃ => Q x σ₃ loc₂) :
    Ev w hb A env (eval (.BinOp l op r pos) env) σ loc Q := fun s P E R F H =>
  wpAny_BinOp (h s _ _ R F fun u a σ₁ loc₁ h₁ t₁ q R₁ F₁ ra S₁ => q _ _ _ R₁ F₁ fun v b σ₂ loc₂ h₂ t₂ q₂ R₂ F₂ rb S₂ =>
    q₂.run (x := (a, b)) (s := { s with heap := h₂, toks := t₂ }) ⟨ra.mono S₂.imm, rb⟩ R₂ F₂ fun x c σ₃ h₃ t₃ q₃ R₃ F₃ rc S₃ => H _ _ _ _ _ _ q₃ R₃ F₃ rc (S₁.trans (S₂.trans S₃)))
theorem Ev_Compare1 {l r : Expr} {op : CmpOp} {pos : Pos} {Q : V → Hp → Loc → Prop}
    (h : Ev w hb A env (eval l env) σ loc fun u σ₁ loc₁ => Ev w hb A env (eval r env) σ₁ loc₁ fun v σ₂ loc₂ => Op2 w hb A u v (fun a b => compareOp op a b) σ₂ fun x σ₃ => Q x σ₃ loc₂)
    (hm : behindInMarks op r = false := by with_unfolding_all rfl) :
    Ev w hb A env (eval (.Compare l [op] [r] pos) env) σ loc Q := fun s P E R F H =>
  wpAny_Compare1 (h s _ _ R F fun u a σ₁ loc₁ h₁ t₁ q R₁ F₁ ra S₁ => q _ _ _ R₁ F₁ fun v b σ₂ loc₂ h₂ t₂ q₂ R₂ F₂ rb S₂ =>
    q₂.run (x := (a, b)) (s := { s with heap := h₂, toks := t₂ }) ⟨ra.mono S₂.imm, rb⟩ R₂ F₂ fun x c σ₃ h₃ t₃ q₃ R₃ F₃ rc S₃ => H _ _ _ _ _ _ q₃ R₃ F₃ rc (S₁.trans (S₂.trans S₃))) hm

/- truth of a value -/
theorem OpB_bool {b : Bool} {Q : Bool → Hp → Prop} (h : Q b σ) : OpB w hb A (.bool b) truthy σ Q := fun x s P E I R H => by
  cases I; exact wpAny_truthy_bool (H _ _ _ s.heap s.toks h R rfl St.same)

theorem EvB_Compare1 {l r : Expr} {op : CmpOp} {pos : Pos} {wh : Sem Value} {Q : Bool → Hp → Loc → Prop}
    (h : Ev w hb A env (eval l env) σ loc fun u σ₁ loc₁ => Ev w hb A env (eval r env) σ₁ loc₁ fun v σ₂ loc₂ => Op2 w hb A u v (fun a b => compareOp op a b) σ₂ fun x σ₃ => ∃ b, x = .bool b ∧ Q b σ₃ loc₂)
    (hm : behindInMarks op r = false := by with_unfolding_all rfl) :
    EvB w hb A env (isTrue (.Compare l [op] [r] pos) env wh) σ loc Q := fun s P E R F H =>
  wpAny_isTrue_Compare1 (h s _ _ R F fun u a σ₁ loc₁ h₁ t₁ q R₁ F₁ ra S₁ => q _ _ _ R₁ F₁ fun v b σ₂ loc₂ h₂ t₂ q₂ R₂ F₂ rb S₂ =>
    q₂.run (x := (a, b)) (s := { s with heap := h₂, toks := t₂ }) ⟨ra.mono S₂.imm, rb⟩ R₂ F₂ fun x c σ₃ h₃ t₃ q₃ R₃ F₃ rc S₃ => by
      obtain ⟨d, rfl, q₄⟩ := q₃
      cases rc
      exact wpAny_truthy_bool (H _ _ _ _ _ _ q₄ R₃ F₃ rfl (S₁.trans (S₂.trans S₃)))) hm
theorem EvB_Not {x : Expr} {pos : Pos} {wh : Sem Value} {Q : Bool → Hp → Loc → Prop} (h : EvB w hb A env (isTrue x env (eval x env)) σ loc fun b σ₁ loc₁ => Q (!b) σ₁ loc₁) :
    EvB w hb A env (isTrue (.UnaryOp .Not x pos) env wh) σ loc Q := fun s P E R F H =>
  wpAny_isTrue_Not (h s _ _ R F fun b c σ₁ loc₁ h₁ t₁ q R₁ F₁ rb S₁ => by subst rb; exact H _ _ _ _ _ _ q R₁ F₁ rfl S₁)
theorem EvB_And2 {x y : Expr} {pos : Pos} {wh : Sem Value} {Q : Bool → Hp → Loc → Prop}
    (h : EvB w hb A env (isTrue x env (eval x env)) σ loc fun b σ₁ loc₁ => match b with | true => EvB w hb A env (isTrue y env (eval y env)) σ₁ loc₁ Q | false => Q false σ₁ loc₁) :
    EvB w hb A env (isTrue (.BoolOp .And [x, y] pos) env wh) σ loc Q := fun s P E R F H =>
  wpAny_isTrue_BoolOp (wpAny_allTrue_And_cons (h s _ _ R F fun b c σ₁ loc₁ h₁ t₁ q R₁ F₁ rb S₁ => by
    subst rb
    cases b with
    | false => exact H _ _ _ _ _ _ q R₁ F₁ rfl S₁
    | true =>
      exact wpAny_allTrue_And_cons (q _ _ _ R₁ F₁ fun b c σ₂ loc₂ h₂ t₂ q₂ R₂ F₂ rb S₂ => by
        subst rb
        cases b with
        | false => exact H _ _ _ _ _ _ q₂ R₂ F₂ rfl (S₁.trans S₂)
        | true => exact wpAny_allTrue_And_nil (H _ _ _ _ _ _ q₂ R₂ F₂ rfl (S₁.trans S₂)))))
/- truth of any other expression -/
theorem EvB_value {e : Expr} {wh : Sem Value} {Q : Bool → Hp → Loc → Prop} (h : Ev w hb A env wh σ loc fun v σ₁ loc₁ => OpB w hb A v truthy σ₁ fun b σ₂ => Q b σ₂ loc₁)
    (he : isTrue e env wh = (do let v ← wh; standAt e.pos; holding [v] (truthy v)) := by rfl) : EvB w hb A env (isTrue e env wh) σ loc Q := fun s P E R F H =>
  wpAny_isTrue_value (h s _ _ R F fun v a σ₁ loc₁ h₁ t₁ q R₁ F₁ ra S₁ => q.run (s := { s with heap := h₁, toks := t₁ }) ra R₁ F₁ fun b c σ₂ h₂ t₂ q₂ R₂ F₂ rb S₂ => H _ _ _ _ _ _ q₂ R₂ F₂ rb (S₁.trans S₂)) he

/- argument lists -/
theorem EvL_nil {pos : Pos} {Q : List V → Hp → Loc → Prop} (h : Q [] σ loc) : EvL w hb A env (spliced (backTo pos (starEach [] env))) σ loc Q := fun s P E R F H =>
  wpAny_items_nil (H _ _ _ _ s.heap s.toks h R F .nil St.same)
theorem EvL_cons {pos : Pos} {e : Expr} {rest : List Expr} {Q : List V → Hp → Loc → Prop}
    (h : Ev w hb A env (eval e env) σ loc fun v σ₁ loc₁ => EvL w hb A env (spliced (backTo pos (starEach rest env))) σ₁ loc₁ fun vs σ₂ loc₂ => Q (v :: vs) σ₂ loc₂)
    (he : starEach (e :: rest) env = (false, eval e env) :: starEach rest env := by rfl) : EvL w hb A env (spliced (backTo pos (starEach (e :: rest) env))) σ loc Q := fun s P E R F H =>
  wpAny_items_cons (h s _ _ R F fun v a σ₁ loc₁ h₁ t₁ q R₁ F₁ ra S₁ => q _ _ _ R₁ F₁ fun vs as σ₂ loc₂ h₂ t₂ q₂ R₂ F₂ rs S₂ => H _ _ _ _ _ _ q₂ R₂ F₂ (.cons (ra.mono S₂.imm) rs) (S₁.trans S₂)) he

/- displays -/
theorem Ev_Tuple {elts : List Expr} {k : Nat} {pos : Pos} {Q : V → Hp → Loc → Prop} (h : EvL w hb A env (spliced (backTo pos (starEach elts env))) σ loc fun vs σ₁ loc₁ => vs.length ≤ sizeLine ∧ Q (.tup vs) σ₁ loc₁) :
    Ev w hb A env (eval (.Tuple elts k pos) env) σ loc Q := fun s P E R F H =>
  wpAny_Tuple (h s _ _ R F fun vs as σ₁ loc₁ h₁ t₁ q R₁ F₁ ra S₁ => by
    refine ⟨by rw [← ra.length]; exact q.1, ?_⟩
    have ⟨R₂, S₂⟩ := R₁.push (ob := seqObj "tuple" as.toArray 0)
    exact H _ _ _ _ _ _ q.2 R₂ (F₁.stay S₂) (.tup (Heap.get?_push_size _ rfl) (by simpa using ra.mono S₂.imm)) (S₁.trans (S₂.wide fun _ z => z.elim)))
theorem Ev_List {elts : List Expr} {pos : Pos} {Q : V → Hp → Loc → Prop} (h : EvL w hb A env (spliced (backTo pos (starEach elts env))) σ loc fun vs σ₁ loc₁ => vs.length ≤ sizeLine ∧ ∀ a, σ₁ a = none → hb.get? a = none → Q (.ref a) (upd σ₁ a (.list vs)) loc₁) :
    Ev w hb A env (eval (.List elts pos) env) σ loc Q := fun s P E R F H =>
  wpAny_List (h s _ _ R F fun vs as σ₁ loc₁ h₁ t₁ q R₁ F₁ ra S₁ => by
    refine ⟨by rw [← ra.length]; exact q.1, ?_⟩
    have z := get?_size h₁
    have ⟨_, S₀⟩ := R₁.push (ob := listOf as.toArray 0)
    have ⟨R₂, S₂⟩ := R₁.make (ob := listOf as.toArray 0) (o := .list vs) rfl ⟨_, _, Heap.get?_push_size _ rfl, by simpa using ra.mono S₀.imm⟩
    refine H _ _ _ _ _ _ (q.2 h₁.objs.size (R₁.none_of z) ?_) R₂ (F₁.stay S₂) (.ref _) (S₁.trans (S₂.wide fun _ z => z.elim))
    cases e : hb.get? h₁.objs.size with
    | none => rfl
    | some o => have := R₁.base _ _ e; rw [z] at this; cases this)
end
end

section
open PySem PySem.W PyProof.Rows PySem.Calls

theorem not_imm_dict {o : Obj} {es : Array DictEntry} {ep : Nat} (h : o.data = .dict es ep) : ¬ Imm o := by
  rintro (⟨xs, n, rfl⟩ | ⟨vs, e, _⟩)
  · cases h
  · rw [h] at e; cases e
theorem not_imm_cell {o : Obj} {v : Option Value} (h : o.data = .cell v) : ¬ Imm o := by
  rintro (⟨xs, n, rfl⟩ | ⟨vs, e, _⟩)
  · cases h
  · rw [h] at e; cases e
theorem not_imm_list (xs : Array Value) (n : Nat) : ¬ Imm (listOf xs n) := by
  rintro (⟨ys, m, e⟩ | ⟨vs, e, _⟩)
  · have z : Value.type "list" = Value.type "tuple" := congrArg Obj.cls e; exact absurd z (by decide)
  · cases e

section
variable {w : World} {hb : Base} {A : Around} {env : Env} {σ : Hp} {loc : Loc}

/- the frame's own place is changed -/
theorem own_turn {h h' : Heap} {c : Addr} (R : Rep w hb σ h) (F : FrR hb env loc σ h) (oc : own env c) (hs : Heap.SameBut c h h') (ni : ∀ ob, h.get? c = some ob → ¬ Imm ob) (hD : ∀ ob, h.get? c = some ob → isD ob → ∃ ob', h'.get? c = some ob' ∧ isD ob') :
    Rep w hb σ h' ∧ St (own env) σ σ h h' := by
  have im : ImmK h h' := fun b ob e i => by
    by_cases z : b = c
    · subst z; exact absurd i (ni ob e)
    · exact (hs.2 b z).trans e
  have hc := F.out oc.reach
  refine ⟨⟨fun b p e => (R.obj b p e).move im fun ob z => (hs.2 b fun q => by subst q; rw [hc.1] at e; cases e).trans z, fun b ob e => (hs.2 b fun q => by subst q; rw [hc.2] at e; cases e).trans (R.base b ob e), R.apart, fr_keep R.fr fun L o s _ e d => ⟨s, ?_⟩⟩, im, fun b o e q n => ⟨.of ((hs.2 b fun z => n (z ▸ oc)).trans e), q⟩⟩
  by_cases z : L = c
  · subst z; exact hD o e d
  · exact ⟨o, (hs.2 L z).trans e, d⟩

theorem store_local {x : Str} {v : V} {a : Value} {s : Shared} {P : Unit → Shared → Prop} {E : Value → Shared → Prop} (R : Rep w hb σ s.heap) (F : FrR hb env loc σ s.heap) (ra : VR s.heap v a) (hl : env.kindOf x = some .local)
    (H : ∀ h' tk', Rep w hb σ h' → FrR hb env (setL x v loc) σ h' → St (own env) σ σ s.heap h' → P () { s with heap := h', toks := tk' })
    (hp : (env.scope.kind == .class || (env.scope.kind == .module && env.locals != env.globals)) = false := by rfl) : wpAny (model pg w) A (storeName env x a) P E s := by
  obtain ⟨m, hn, q⟩ := F.ns
  refine wpAny_storeName_local hl hn (fun h' hn' hs => ?_) hp
  obtain ⟨R', S⟩ := own_turn R F (.inl rfl) hs (fun ob e => by
    obtain ⟨o, es, ep, ho, hd, _⟩ := hn
    rw [ho] at e; cases e; exact not_imm_dict hd) (fun _ _ _ => by
    obtain ⟨o, es, ep, ho, hd, _⟩ := hn'
    exact ⟨o, ho, es, ep, hd⟩)
  refine H h' _ R' ⟨⟨_, hn', fun y u hk hy => ?_⟩, fun y c hc => ?_, F.lns, F.cns, F.cnd, F.ckind⟩ S
  · by_cases hy' : y = x
    · subst hy'
      rw [setL_self] at hy
      cases hy
      exact ⟨a, by simp, ra.mono S.imm⟩
    · rw [setL_ne v hy'] at hy
      obtain ⟨b, hb', rb⟩ := q y u hk hy
      exact ⟨b, by simp [hy', hb'], rb.mono S.imm⟩
  · obtain ⟨ov, hcell, qc⟩ := F.cells y c hc
    refine ⟨ov, hcell.sameBut hs (F.cns y c hc).2.2, fun u hu => ?_⟩
    have hy' : y ≠ x := fun z => by subst z; exact F.ckind y c hc hl
    rw [setL_ne v hy'] at hu
    obtain ⟨b, hb', rb⟩ := qc u hu
    exact ⟨b, hb', rb.mono S.imm⟩
theorem store_cell {x : Str} {c : Addr} {v : V} {a : Value} {s : Shared} {P : Unit → Shared → Prop} {E : Value → Shared → Prop} (R : Rep w hb σ s.heap) (F : FrR hb env loc σ s.heap) (ra : VR s.heap v a) (hl : env.kindOf x = some .cell) (hc : env.cells.lookup x = some c) (hlt : env.locals < c)
    (H : ∀ h' tk', Rep w hb σ h' → FrR hb env (setL x v loc) σ h' → St (own env) σ σ s.heap h' → P () { s with heap := h', toks := tk' })
    (hk : env.scope.kind = .function := by rfl) : wpAny (model pg w) A (storeName env x a) P E s := by
  obtain ⟨ov, hcell, qc⟩ := F.cells x c hc
  refine wpAny_storeName_cell hk hl hc hcell fun h' hcell' hs => ?_
  obtain ⟨R', S⟩ := own_turn R F (.inr ⟨hlt, x, hc⟩) hs (fun ob e => by
    obtain ⟨o, ho, hd⟩ := hcell
    rw [ho] at e; cases e; exact not_imm_cell hd) (fun ob e d => by
    obtain ⟨o, ho, hd⟩ := hcell
    rw [ho] at e; cases e; exact absurd d (not_isD_cell hd))
  obtain ⟨m, hn, q⟩ := F.ns
  refine H h' _ R' ⟨⟨m, hn.sameBut hs fun z => (F.cns x c hc).2.2 z.symm, fun y u hk hy => ?_⟩, fun y d hd => ?_, F.lns, F.cns, F.cnd, F.ckind⟩ S
  · have hy' : y ≠ x := fun z => by subst z; rw [hl] at hk; cases hk
    rw [setL_ne v hy'] at hy
    obtain ⟨b, hb', rb⟩ := q y u hk hy
    exact ⟨b, hb', rb.mono S.imm⟩
  · by_cases hy' : y = x
    · subst hy'
      rw [hc] at hd; cases hd
      refine ⟨_, hcell', fun u hu => ?_⟩
      rw [setL_self] at hu
      cases hu
      exact ⟨a, rfl, ra.mono S.imm⟩
    · obtain ⟨ov', hcell'', qc'⟩ := F.cells y d hd
      have hdc : d ≠ c := fun z => hy' (F.cnd y x c (z ▸ hd) hc)
      refine ⟨ov', hcell''.sameBut hs hdc, fun u hu => ?_⟩
      rw [setL_ne v hy'] at hu
      obtain ⟨b, hb', rb⟩ := qc' u hu
      exact ⟨b, hb', rb.mono S.imm⟩

/- a value goes to a target -/
noncomputable def As (w : World) (hb : Base) (A : Around) (env : Env) (t : Expr) (v : V) (σ : Hp) (loc : Loc) (Q : Hp → Loc → Prop) : Prop :=
  ∀ (a : Value) (s : Shared) (P : Unit → Shared → Prop) (E : Value → Shared → Prop), VR s.heap v a → Rep w hb σ s.heap → FrR hb env loc σ s.heap →
    (∀ σ' loc' h' tk', Q σ' loc' → Rep w hb σ' h' → FrR hb env loc' σ' h' → St (own env) σ σ' s.heap h' → P () { s with heap := h', toks := tk' }) → wpAny (model pg w) A (assign t env a) P E s
theorem As_local {x : Str} {pos : Pos} {v : V} {Q : Hp → Loc → Prop} (hl : env.kindOf x = some .local) (h : Q σ (setL x v loc))
    (hp : (env.scope.kind == .class || (env.scope.kind == .module && env.locals != env.globals)) = false := by rfl) : As w hb A env (.Name x pos) v σ loc Q := fun a s P E ra R F H =>
  wpAny_assign_Name (store_local R F ra hl (fun h' tk' R' F' S => H _ _ _ _ h R' F' S) hp)
theorem As_cell {x : Str} {c : Addr} {pos : Pos} {v : V} {Q : Hp → Loc → Prop} (hl : env.kindOf x = some .cell) (hc : env.cells.lookup x = some c) (hlt : env.locals < c) (h : Q σ (setL x v loc))
    (hk : env.scope.kind = .function := by rfl) : As w hb A env (.Name x pos) v σ loc Q := fun a s P E ra R F H =>
  wpAny_assign_Name (store_cell R F ra hl hc hlt (fun h' tk' R' F' S => H _ _ _ _ h R' F' S) hk)

theorem Ex_nil {R : Fl → Hp → Loc → Prop} (h : R .next σ loc) : Ex w hb A env (execs [] env) σ loc R := fun s P E Rp F H =>
  wpAny_execs_nil (H _ _ _ _ s.heap s.toks h Rp F .next St.same)
/- the rest behind a statement -/
noncomputable def Then (w : World) (hb : Base) (A : Around) (env : Env) (rest : List Stmt) (R : Fl → Hp → Loc → Prop) : Fl → Hp → Loc → Prop
  | .next, σ, loc => Ex w hb A env (execs rest env) σ loc R
  | .brk, σ, loc => R .brk σ loc
  | .cont, σ, loc => R .cont σ loc
  | .ret v, σ, loc => R (.ret v) σ loc
theorem Ex_cons {st : Stmt} {rest : List Stmt} {R : Fl → Hp → Loc → Prop} (h : Ex w hb A env (exec st env) σ loc (Then w hb A env rest R)) : Ex w hb A env (execs (st :: rest) env) σ loc R := fun s P E Rp F H =>
  wpAny_execs_cons (h s _ _ Rp F fun f g σ₁ loc₁ h₁ t₁ q R₁ F₁ rf S₁ => by
    cases rf with
    | next => exact q _ _ _ R₁ F₁ fun f g σ₂ loc₂ h₂ t₂ q₂ R₂ F₂ rg S₂ => H _ _ _ _ _ _ q₂ R₂ F₂ rg (S₁.trans S₂)
    | brk => exact H _ _ _ _ _ _ q R₁ F₁ .brk S₁
    | cont => exact H _ _ _ _ _ _ q R₁ F₁ .cont S₁
    | ret ra => exact H _ _ _ _ _ _ q R₁ F₁ (.ret ra) S₁)
theorem Then_next {rest : List Stmt} {R : Fl → Hp → Loc → Prop} (h : Ex w hb A env (execs rest env) σ loc R) : Then w hb A env rest R .next σ loc := h
theorem Then_brk {rest : List Stmt} {R : Fl → Hp → Loc → Prop} (h : R .brk σ loc) : Then w hb A env rest R .brk σ loc := h
theorem Then_cont {rest : List Stmt} {R : Fl → Hp → Loc → Prop} (h : R .cont σ loc) : Then w hb A env rest R .cont σ loc := h
theorem Then_ret {rest : List Stmt} {R : Fl → Hp → Loc → Prop} {v : V} (h : R (.ret v) σ loc) : Then w hb A env rest R (.ret v) σ loc := h
theorem Ex_assign {t value : Expr} {pos : Pos} {R : Fl → Hp → Loc → Prop} (h : Ev w hb A env (eval value env) σ loc fun v σ₁ loc₁ => As w hb A env t v σ₁ loc₁ fun σ₂ loc₂ => R .next σ₂ loc₂)
    (hs : swapsWithSole [t] value pos.line env = pure false := by rfl) (he : (assignEach [t] env).map (·.2) = [assign t env] := by rfl) (hw : swappedStores [t] value env = pure none := by rfl) :
    Ex w hb A env (exec (.Assign [t] value pos) env) σ loc R := fun s P E Rp F H => by
  refine wpAny_Assign_stores (h s _ _ Rp F fun v a σ₁ loc₁ h₁ t₁ q R₁ F₁ ra S₁ => ?_) hs hw
  rw [he]
  exact (q _ _ _ _ ra R₁ F₁ fun σ₂ loc₂ h₂ t₂ q₂ R₂ F₂ S₂ => H _ _ _ _ _ _ q₂ R₂ F₂ .next (S₁.trans S₂))
theorem Ex_expr {e : Expr} {pos : Pos} {R : Fl → Hp → Loc → Prop} (h : Ev w hb A env (eval e env) σ loc fun _ σ₁ loc₁ => R .next σ₁ loc₁)
    (hi : interactive env = false := by rfl) (hs : swapsWith e none pos.line env = pure false := by rfl) : Ex w hb A env (exec (.Expr e pos) env) σ loc R := fun s P E Rp F H =>
  wpAny_Expr_any (h s _ _ Rp F fun v a σ₁ loc₁ h₁ t₁ q R₁ F₁ ra S₁ => H _ _ _ _ _ _ q R₁ F₁ .next S₁) hi hs
theorem Ex_if {test : Expr} {body orelse : List Stmt} {pos : Pos} {R : Fl → Hp → Loc → Prop}
    (h : EvB w hb A env (isTrue test env (eval test env)) σ loc fun b σ₁ loc₁ => match b with | true => Ex w hb A env (execs body env) σ₁ loc₁ R | false => Ex w hb A env (execs orelse env) σ₁ loc₁ R) :
    Ex w hb A env (exec (.If test body orelse pos) env) σ loc R := fun s P E Rp F H =>
  wpAny_If (h s _ _ Rp F fun b c σ₁ loc₁ h₁ t₁ q R₁ F₁ rb S₁ => by
    subst rb
    cases b with
    | true => exact q _ _ _ R₁ F₁ fun f g σ₂ loc₂ h₂ t₂ q₂ R₂ F₂ rg S₂ => H _ _ _ _ _ _ q₂ R₂ F₂ rg (S₁.trans S₂)
    | false => exact q _ _ _ R₁ F₁ fun f g σ₂ loc₂ h₂ t₂ q₂ R₂ F₂ rg S₂ => H _ _ _ _ _ _ q₂ R₂ F₂ rg (S₁.trans S₂))
theorem Ex_return {e : Expr} {pos : Pos} {R : Fl → Hp → Loc → Prop} (h : Ev w hb A env (eval e env) σ loc fun v σ₁ loc₁ => R (.ret v) σ₁ loc₁) : Ex w hb A env (exec (.Return (some e) pos) env) σ loc R := fun s P E Rp F H =>
  wpAny_Return_some (h s _ _ Rp F fun v a σ₁ loc₁ h₁ t₁ q R₁ F₁ ra S₁ => H _ _ _ _ _ _ q R₁ F₁ (.ret ra) S₁)
theorem Ex_break {pos : Pos} {R : Fl → Hp → Loc → Prop} (h : R .brk σ loc) : Ex w hb A env (exec (.Break pos) env) σ loc R := fun s P E Rp F H =>
  wpAny_Break (H _ _ _ _ s.heap s.toks h Rp F .brk St.same)
theorem Ex_continue {pos : Pos} {R : Fl → Hp → Loc → Prop} (h : R .cont σ loc) : Ex w hb A env (exec (.Continue pos) env) σ loc R := fun s P E Rp F H =>
  wpAny_Continue (H _ _ _ _ s.heap s.toks h Rp F .cont St.same)

/- a turn's end within a loop -/
noncomputable def Turn (N : Hp → Loc → Prop) (R : Fl → Hp → Loc → Prop) : Fl → Hp → Loc → Prop
  | .next, σ, loc => N σ loc
  | .cont, σ, loc => N σ loc
  | .brk, σ, loc => R .next σ loc
  | .ret v, σ, loc => R (.ret v) σ loc
theorem Turn_next {N : Hp → Loc → Prop} {R : Fl → Hp → Loc → Prop} (h : N σ loc) : Turn N R .next σ loc := h
theorem Turn_cont {N : Hp → Loc → Prop} {R : Fl → Hp → Loc → Prop} (h : N σ loc) : Turn N R .cont σ loc := h
theorem Turn_brk {N : Hp → Loc → Prop} {R : Fl → Hp → Loc → Prop} (h : R .next σ loc) : Turn N R .brk σ loc := h
theorem Turn_ret {N : Hp → Loc → Prop} {R : Fl → Hp → Loc → Prop} {v : V} (h : R (.ret v) σ loc) : Turn N R (.ret v) σ loc := h
noncomputable abbrev WhI (w : World) (hb : Base) (env : Env) (σ : Hp) (I : Nat → Hp → Loc → Prop) (s : Shared) (k : Nat) (s' : Shared) : Prop :=
  ∃ σ' loc' h' tk', C5 (s' = { s with heap := h', toks := tk' }) (I k σ' loc') (Rep w hb σ' h') (FrR hb env loc' σ' h') (St (own env) σ σ' s.heap h')
theorem Ex_while {test : Expr} {body orelse : List Stmt} {pos : Pos} {R : Fl → Hp → Loc → Prop} (I : Nat → Hp → Loc → Prop)
    (turn : ∀ n σ loc, I n σ loc → EvB w hb A env (isTrue test env (eval test env)) σ loc fun b σ₁ loc₁ => match b with
      | true => Ex w hb A env (execs body env) σ₁ loc₁ (Turn (fun σ₂ loc₂ => ∃ m, m < n ∧ I m σ₂ loc₂) R)
      | false => Ex w hb A env (execs orelse env) σ₁ loc₁ R) (n : Nat) (h : I n σ loc) :
    Ex w hb A env (exec (.While test body orelse pos) env) σ loc R := fun s P E Rp F H => by
  refine wpAny_While (codeAny_whileLoop (WhI w hb env σ I s) ?_ n ⟨σ, loc, s.heap, s.toks, rfl, h, Rp, F, St.same⟩)
  rintro k s' ⟨σ', loc', h', tk', rfl, hI, R', F', S'⟩
  refine turn k σ' loc' hI _ _ _ R' F' fun b c σ₁ loc₁ h₁ t₁ q R₁ F₁ rb S₁ => ?_
  subst rb
  cases b with
  | true =>
    refine q _ _ _ R₁ F₁ fun f g σ₂ loc₂ h₂ t₂ q₂ R₂ F₂ rg S₂ => ?_
    cases rg with
    | next => obtain ⟨m, hm, hI'⟩ := q₂; exact ⟨m, hm, _, _, _, _, rfl, hI', R₂, F₂, S'.trans (S₁.trans S₂)⟩
    | cont => obtain ⟨m, hm, hI'⟩ := q₂; exact ⟨m, hm, _, _, _, _, rfl, hI', R₂, F₂, S'.trans (S₁.trans S₂)⟩
    | brk => exact H _ _ _ _ _ _ q₂ R₂ F₂ .next (S'.trans (S₁.trans S₂))
    | ret ra => exact H _ _ _ _ _ _ q₂ R₂ F₂ (.ret ra) (S'.trans (S₁.trans S₂))
  | false => exact q _ _ _ R₁ F₁ fun f g σ₂ loc₂ h₂ t₂ q₂ R₂ F₂ rg S₂ => H _ _ _ _ _ _ q₂ R₂ F₂ rg (S'.trans (S₁.trans S₂))
end
end

section
open PySem PySem.W PyProof.Rows PySem.Calls

/- room for n more frames -/
structure Rm (hb : Base) (n : Nat) (A : Around) : Prop where
  hand : A.handled = none
  frames : A.frames = some hb.fr
  depth : A.depth + n < recursionLimit
  units : A.units + 10 * n < cLine
theorem Rm.deeper {hb : Base} {n : Nat} {A : Around} {env : Env} (r : Rm hb (n + 1) A) : Rm ⟨hb.h, env :: hb.fr⟩ n (A.deeper env) :=
  ⟨r.hand, by show A.frames.map _ = _; rw [r.frames]; rfl, by have := r.depth; show A.depth + 1 + n < _; walk_at "om", by have := r.units; show A.units + 3 + 10 * n < _; walk_at "om"⟩
theorem Rm.less {hb : Base} {n m : Nat} {A : Around} (r : Rm hb n A) (h : m ≤ n) : Rm hb m A := ⟨r.hand, r.frames, by have := r.depth; walk_at "om", by have := r.units; walk_at "om"⟩

theorem SVR.keys {h : Heap} : ∀ {l : List (Str × V)} {r : List (Str × Value)}, SVR h l r → l.map (·.1) = r.map (·.1)
  | [], [], _ => rfl
  | (_, _) :: _, (_, _) :: _, ⟨a, _, c⟩ => by simp only [List.map_cons, a, c.keys]
theorem SVR.look {h : Heap} {x : Str} {v : V} : ∀ {l : List (Str × V)} {r : List (Str × Value)}, SVR h l r → l.lookup x = some v → ∃ a, r.lookup x = some a ∧ VR h v a
  | [], [], _, e => by simp at e
  | (k, u) :: l, (k', a) :: r, ⟨hk, hv, c⟩, e => by
    subst hk
    rw [List.lookup_cons] at e ⊢
    split at e
    · cases e; exact ⟨a, rfl, hv⟩
    · exact c.look e
theorem SVR.zip {h : Heap} : ∀ (ns : List Str) {vs : List V} {as : List Value}, VRs h vs as → SVR h (ns.zip vs) (ns.zip as)
  | [], _, _, _ => by simp only [List.zip_nil_left]; trivial
  | n :: ns, _, _, .nil => by simp only [List.zip_nil_right]; trivial
  | n :: ns, _, _, .cons p r => ⟨rfl, p, SVR.zip ns r⟩

theorem bindL_look {kindOf : Str → Option NameKind} {x : Str} (hk : kindOf x = some .local) : ∀ (bs : List (Str × Value)) (m : Str → Option Value), (bs.map (·.1)).Nodup → bindL kindOf bs m x = (bs.lookup x).or (m x)
  | [], _, _ => rfl
  | (n, v) :: r, m, nd => by
    rw [List.map_cons, List.nodup_cons] at nd
    show bindL kindOf r (if kindOf n = some .local then fun y => if y = n then some v else m y else m) x = _
    rw [bindL_look hk r _ nd.2, List.lookup_cons]
    by_cases h : x = n
    · subst h
      have : r.lookup x = none := by
        rw [List.lookup_eq_none_iff]
        intro p hp
        have : x ≠ p.1 := fun z => nd.1 (by rw [z]; exact List.mem_map.mpr ⟨p, hp, rfl⟩)
        simpa using this
      simp [this, hk]
    · have e : (x == n) = false := by simpa using h
      rw [e]
      split
      · simp [h]
      · rfl
theorem bindC_look {kindOf : Str → Option NameKind} {x : Str} (hk : kindOf x ≠ some .local) : ∀ (bs : List (Str × Value)) (m : Str → Option Value), (bs.map (·.1)).Nodup → bindC kindOf bs m x = (bs.lookup x).or (m x)
  | [], _, _ => rfl
  | (n, v) :: r, m, nd => by
    rw [List.map_cons, List.nodup_cons] at nd
    show bindC kindOf r (if kindOf n = some .local then m else fun y => if y = n then some v else m y) x = _
    rw [bindC_look hk r _ nd.2, List.lookup_cons]
    by_cases h : x = n
    · subst h
      have : r.lookup x = none := by
        rw [List.lookup_eq_none_iff]
        intro p hp
        have : x ≠ p.1 := fun z => nd.1 (by rw [z]; exact List.mem_map.mpr ⟨p, hp, rfl⟩)
        simpa using this
      simp [this, hk]
    · have e : (x == n) = false := by simpa using h
      rw [e]
      split
      · rfl
      · simp [h]

theorem cellsFrom_mem : ∀ (names : List (Str × NameKind)) (n : Nat) (acc : List (Str × Addr)) (x : Str) (c : Addr), (x, c) ∈ cellsFrom n names acc → (x, c) ∈ acc ∨ (n ≤ c ∧ (x, NameKind.cell) ∈ names)
  | [], n, acc, x, c, h => .inl h
  | (y, k) :: r, n, acc, x, c, h => by
    unfold cellsFrom at h
    split at h
    · rename_i hk
      have hk' : k = .cell := by simpa using hk
      rcases cellsFrom_mem r _ _ x c h with h | h
      · rcases List.mem_cons.mp h with h | h
        · cases h; subst hk'; exact .inr ⟨Nat.le_refl _, .head _⟩
        · exact .inl h
      · exact .inr ⟨by walk_at "om", .tail _ h.2⟩
    · rcases cellsFrom_mem r _ _ x c h with h | h
      · exact .inl h
      · exact .inr ⟨h.1, .tail _ h.2⟩
theorem names_inj {names : List (Str × NameKind)} (nd : (names.map (·.1)).Nodup) : ∀ {x : Str} {k k' : NameKind}, (x, k) ∈ names → (x, k') ∈ names → k = k' := by
  induction names with
  | nil => intro x k k' h; cases h
  | cons p r ih =>
    rw [List.map_cons, List.nodup_cons] at nd
    intro x k k' h h'
    rcases List.mem_cons.mp h with h | h <;> rcases List.mem_cons.mp h' with h' | h'
    · rw [← h] at h'; cases h'; rfl
    · exact absurd (by rw [← h]; exact List.mem_map.mpr ⟨_, h', rfl⟩) nd.1
    · exact absurd (by rw [← h']; exact List.mem_map.mpr ⟨_, h, rfl⟩) nd.1
    · exact ih nd.2 h h'
/- what a call hands back -/
noncomputable def Ret (Q : V → Hp → Prop) : Fl → Hp → Loc → Prop
  | .next, σ, _ => Q .none σ
  | .ret v, σ, _ => Q v σ
  | .brk, _, _ => False
  | .cont, _, _ => False

theorem Ret_next {Q : V → Hp → Prop} {σ : Hp} {loc : Loc} (h : Q .none σ) : Ret Q .next σ loc := h
theorem Ret_ret {Q : V → Hp → Prop} {σ : Hp} {loc : Loc} {v : V} (h : Q v σ) : Ret Q (.ret v) σ loc := h
theorem of_len0 {P : List Value → Prop} (h : P []) (as : List Value) (e : as.length = 0) : P as := List.length_eq_zero_iff.mp e ▸ h
theorem of_lenS {n : Nat} {P : List Value → Prop} (h : ∀ a as, as.length = n → P (a :: as)) : ∀ as : List Value, as.length = n + 1 → P as
  | [], e => absurd e (Nat.succ_ne_zero n).symm
  | a :: as, e => h a as (Nat.succ.inj e)
theorem of_len1 {P : List Value → Prop} (h : ∀ a, P [a]) : ∀ as : List Value, as.length = 1 → P as := of_lenS fun a => of_len0 (P := fun l => P (a :: l)) (h a)
theorem of_len2 {P : List Value → Prop} (h : ∀ a b, P [a, b]) : ∀ as : List Value, as.length = 2 → P as := of_lenS fun a => of_len1 (P := fun l => P (a :: l)) (h a)
theorem of_len3 {P : List Value → Prop} (h : ∀ a b c, P [a, b, c]) : ∀ as : List Value, as.length = 3 → P as := of_lenS fun a => of_len2 (P := fun l => P (a :: l)) (h a)
section
variable {w : World} {hb : Base} {A : Around} {σ : Hp}

/- the frame of a call, as it is entered -/
theorem frame_in {fd : FuncData} {f : Addr} {s s₁ : Shared} {bs : List (Str × Value)} {l : Loc} (R : Rep w hb σ s.heap) (hx : SVR s.heap l bs) (nd : (bs.map (·.1)).Nodup) (nds : (fd.scope.names.map (·.1)).Nodup)
    (x : InCallC s (callEnvC fd s.heap.objs.size f).locals (bindL (callEnvC fd s.heap.objs.size f).kindOf bs fun _ => none) (callEnvC fd s.heap.objs.size f).cells (bindC (callEnvC fd s.heap.objs.size f).kindOf bs fun _ => none) s₁)
    (hk : fd.scope.kind = .function) : Rep w ⟨hb.h, callEnvC fd s.heap.objs.size f :: hb.fr⟩ σ s₁.heap ∧ FrR ⟨hb.h, callEnvC fd s.heap.objs.size f :: hb.fr⟩ (callEnvC fd s.heap.objs.size f) l σ s₁.heap ∧ ImmK s.heap s₁.heap := by
  have im : ImmK s.heap s₁.heap := fun b o e _ => x.toInCall.keep b o e
  have none_hb : ∀ c, s.heap.get? c = none → σ c = none ∧ hb.get? c = none := fun c e => ⟨R.none_of e, by
    cases q : hb.get? c with
    | none => rfl
    | some o => have := R.base _ _ q; rw [e] at this; cases this⟩
  have R' : Rep w ⟨hb.h, callEnvC fd s.heap.objs.size f :: hb.fr⟩ σ s₁.heap := ⟨fun b p e => (R.obj b p e).move im fun ob z => x.toInCall.keep b ob z, fun b o e => x.toInCall.keep b o (R.base b o e), R.apart, fun e he => by
    rcases List.mem_cons.mp he with rfl | he
    · obtain ⟨o, es, ep, ho, hd, _⟩ := x.toInCall.ns
      have z := none_hb _ (get?_size s.heap)
      exact ⟨by show fd.scope.kind ≠ .module; rw [hk]; decide, s.heap.objs.size, rfl, z.1, z.2, o, ho, es, ep, hd⟩
    · obtain ⟨k, L, hf, hs, hn, o, ho, hd⟩ := R.fr e he
      exact ⟨k, L, hf, hs, hn, o, x.toInCall.keep _ _ ho, hd⟩⟩
  have big : ∀ y c, (callEnvC fd s.heap.objs.size f).cells.lookup y = some c → s.heap.objs.size < c := fun y c h => x.above y c (mem_of_lookup h)
  have kinds : ∀ y c, (callEnvC fd s.heap.objs.size f).cells.lookup y = some c → (callEnvC fd s.heap.objs.size f).kindOf y ≠ some .local := fun y c hc hl => by
    have hm : (y, c) ∈ cellsFrom (s.heap.objs.size + 1) fd.scope.names [] := mem_of_lookup hc
    rcases cellsFrom_mem _ _ _ _ _ hm with q | q
    · cases q
    · have hl' : fd.scope.names.lookup y = some .local := hl
      exact absurd (names_inj nds q.2 (mem_of_lookup hl')) (by decide)
  refine ⟨R', ⟨⟨_, x.toInCall.ns, fun y v hk hy => ?_⟩, fun y c hc => ⟨_, x.cell y c hc, fun v hy => ?_⟩, none_hb _ (get?_size _), fun y c hc => ?_, fun y z c hy hz => ?_, kinds⟩, im⟩
  · obtain ⟨a, ha, ra⟩ := hx.look hy
    exact ⟨a, by rw [bindL_look hk _ _ nd, ha]; rfl, ra.mono im⟩
  · obtain ⟨a, ha, ra⟩ := hx.look hy
    exact ⟨a, by rw [bindC_look (kinds y c hc) _ _ nd, ha]; rfl, ra.mono im⟩
  · have h1 := big y c hc
    have := none_hb c (Heap.get?_none_of_le (Nat.le_of_lt h1))
    exact ⟨this.1, this.2, Nat.ne_of_gt h1⟩
  · exact name_of_addr x.apart (mem_of_lookup hy) (mem_of_lookup hz)
theorem Base.back {b b' : Base} (hh : b'.h = b.h) {a : Addr} (h : b'.get? a = none) : b.get? a = none := by
  show b.h.get? a = none
  rw [← hh]; exact h
theorem Rep.back {e : Env} {h : Heap} (R : Rep w ⟨hb.h, e :: hb.fr⟩ σ h) : Rep w hb σ h := ⟨R.obj, R.base, R.apart, fun x hx => R.fr x (List.mem_cons_of_mem _ hx)⟩
theorem leave_St {σ' : Hp} {fd : FuncData} {f : Addr} {s : Shared} {h₁ h' : Heap} (keep : ∀ b o, s.heap.get? b = some o → h₁.get? b = some o) (big : ∀ y c, (callEnvC fd s.heap.objs.size f).cells.lookup y = some c → s.heap.objs.size < c)
    (S : St (own (callEnvC fd s.heap.objs.size f)) σ σ' h₁ h') : St (fun _ => False) σ σ' s.heap h' := by
  refine ⟨fun b o e i => S.imm b o (keep b o e) i, fun b o e q _ => S.keep b o (keep b o e) q ?_⟩
  have lt := Heap.lt_size e
  rintro (rfl | ⟨_, y, hy⟩)
  · exact Nat.lt_irrefl _ lt
  · exact Nat.lt_irrefl _ (Nat.lt_trans (big y b hy) lt)

theorem call_fn (B : Bs w hb.h) {n : Nat} {f : Addr} {o : Obj} {fd : FuncData} {body : List Stmt} {names : List Str} {vs : List V} {Q : V → Hp → Prop} (rm : Rm hb (n + 1) A)
    (hf : (KF w).lookup f = some o) (hd : o.data = .func fd) (hcd : codeIn (KF w) fd.code fd.qualname = true) (hbody : fd.body = .stmts body) (hclo : fd.closure = [])
    (hbind : ∀ as : List Value, as.length = vs.length → bindArgs fd ⟨as, []⟩ = pure (names.zip as)) (hnl : names.length = vs.length)
    (hkind : (names.all fun y => fd.scope.names.lookup y == some .local || fd.scope.names.lookup y == some .cell) = true) (nd : names.Nodup) (nds : (fd.scope.names.map (·.1)).Nodup)
    (h : ∀ (hb' : Base) L A', hb'.h = hb.h → hb'.fr = callEnvC fd L f :: hb.fr → Bs w hb'.h → Rm hb' n A' → Ex w hb' A' (callEnvC fd L f) (execs body (callEnvC fd L f)) σ (names.zip vs) (Ret Q))
    (hco : fd.scope.isCoroutine = false := by rfl) (hgen : fd.scope.isGenerator = false := by rfl) (hk : fd.scope.kind = .function := by rfl) :
    OpN w hb A vs (fun as => call (.ref f) as) σ Q := fun as s P E I R H => by
  refine wpAny_call ?_
  have hlen : as.length = vs.length := I.length.symm
  have hn' : (names.zip as).map (·.1) = names := by
    rw [List.map_fst_zip]; walk_at "om"
  have hkd : ((names.zip as).all fun y => fd.scope.names.lookup y.1 == some .local || fd.scope.names.lookup y.1 == some .cell) = true := by
    rw [List.all_eq_true] at hkind ⊢
    intro p hp
    exact hkind p.1 (by rw [← hn']; exact List.mem_map_of_mem hp)
  refine codeAny_call_cells (body := body) (binds := names.zip as) (by have := rm.depth; walk_at "om") (R.base _ _ (B.X _ _ hf)) hd (R.nolimit B) (codeRec_of (R.inK B) hcd) hbody (hbind as hlen) hclo (kindsX hkd _) (fun s₁ x => ?_) hco hgen hk
  obtain ⟨R₁, F₁, im⟩ := frame_in (f := f) R (SVR.zip names I) (by rw [hn']; exact nd) nds x hk
  have keep := x.toInCall.keep
  have big : ∀ y c, (callEnvC fd s.heap.objs.size f).cells.lookup y = some c → s.heap.objs.size < c := fun y c h => x.above y c (mem_of_lookup h)
  obtain ⟨h₁, tk₁, rfl⟩ := x.toInCall.same
  refine h ⟨hb.h, callEnvC fd s.heap.objs.size f :: hb.fr⟩ s.heap.objs.size _ rfl rfl B rm.deeper _ _ _ R₁ F₁ fun fl g σ' loc' h' tk' q R' F' rf S => ?_
  cases rf with
  | next => exact H _ _ _ _ _ q R'.back .none (leave_St keep big S)
  | ret ra => exact H _ _ _ _ _ q R'.back ra (leave_St keep big S)
  | brk => exact q.elim
  | cont => exact q.elim
end
end

section
open PySem PySem.W PyProof.Rows PySem.Calls PySem.Spec
open PySem.AutoSeq1 (wpAny_loadPart')
open PySem.MeetsSeq PySem.MeetsSeq2 PySem.MeetsSeq3 PySem.SeqRoads2

/- two values by < -/
noncomputable def LtAt (A : Around) (u v : Value) (b : Bool) : Prop := ∀ (prog : Program) (w : World) (E : Value → Shared → Prop) (Q : Value → Shared → Prop) (s : Shared), Q (.bool b) s → wpAny (model prog w) A (richCompare .Lt u v) Q E s
theorem tuple2_lt (l b : Addr) (x0 x1 y0 y1 : Value) (n n2 : Nat) (e0 e1 b0 b1 : Bool) :
    Meets (Builtin.«tuple.__lt__» ⟨[.ref l, .ref b], []⟩)
      (fun A R s => s.heap.get? l = some (seqObj "tuple" #[x0, x1] n) ∧ s.heap.get? b = some (seqObj "tuple" #[y0, y1] n2) ∧
        PySem.SeqAt.EqAt A.in1 s x0 y0 e0 ∧ PySem.SeqAt.EqAt A.in1 s x1 y1 e1 ∧ LtAt A.in1 x0 y0 b0 ∧ LtAt A.in1 x1 y1 b1 ∧
        R (.ok (.ret (.bool (if e0 then (if e1 then false else b1) else b0)))) s) :=
  .of_wp fun prog w A R s h => by
    obtain ⟨hp, g, d, tk, os⟩ := s; obtain ⟨hl, hb, q0, q1, r0, r1, h⟩ := h
    have f2 := AutoSeq1.sub_tuple_tuple
    wp_walk using wpAny_loadPart' hl, wpAny_loadPart' hb, wpAny_forIn_list _ (fun rest b s' => b.1 = none ∧ s' = ⟨hp, g, d, tk, os⟩ ∧ (rest = [(x0, y0), (x1, y1)] ∨ (rest = [(x1, y1)] ∧ e0 = true) ∨ (rest = [] ∧ e0 = true ∧ e1 = true))) _
    case turn =>
      rintro ⟨y, x⟩ rest b s' ⟨hb', rfl, hz⟩
      rcases hz with hz | ⟨hz, rfl⟩ | ⟨hz, _⟩
      · injection hz with h1 h2
        injection h1 with h3 h4
        subst h2 h3 h4
        refine wpAny_bind (q0 prog w _ _ ?_)
        cases e0 with
        | true => wp_walk; exact ⟨rfl, rfl, .inr (.inl ⟨rfl, rfl⟩)⟩
        | false =>
          refine wpAny_bind (wpAny_rule (wpAny_bind (r0 prog w _ _ _ ?_)))
          wp_walk
          exact ⟨_, rfl, by simpa using h⟩
      · injection hz with h1 h2
        injection h1 with h3 h4
        subst h2 h3 h4
        refine wpAny_bind (q1 prog w _ _ ?_)
        cases e1 with
        | true => wp_walk; exact ⟨rfl, rfl, .inr (.inr ⟨rfl, rfl, rfl⟩)⟩
        | false =>
          refine wpAny_bind (wpAny_rule (wpAny_bind (r1 prog w _ _ _ ?_)))
          wp_walk
          exact ⟨_, rfl, by simpa using h⟩
      · cases hz
    case fin =>
      rintro ⟨b1, b2⟩ s' ⟨hb', rfl, hz⟩
      simp only at hb'
      subst hb'
      rcases hz with hz | ⟨hz, _⟩ | ⟨hz, rfl, rfl⟩
      · cases hz
      · cases hz
      wp_walk
      exact ⟨_, rfl, by simpa [Builtin.Tuple.tupleCompareSizes] using h⟩
    case h =>
      exact ⟨rfl, rfl, .inl rfl⟩

section
variable {w : World} {hb : Base} {A : Around} {env : Env} {σ : Hp} {loc : Loc}

theorem Op_add {a b : Int} {Q : V → Hp → Prop} (h : Q (.int (a + b)) σ) : Op2 w hb A (.int a) (.int b) (fun x y => binaryOp .Add x y) σ Q := fun p s P E I R H => by
  obtain ⟨x, y⟩ := p; obtain ⟨h1, h2⟩ := I; cases h1; cases h2
  exact add_int (H _ _ _ s.heap _ h R (.int _ _) St.same)
theorem Op_sub {a b : Int} {Q : V → Hp → Prop} (h : Q (.int (a - b)) σ) : Op2 w hb A (.int a) (.int b) (fun x y => binaryOp .Sub x y) σ Q := fun p s P E I R H => by
  obtain ⟨x, y⟩ := p; obtain ⟨h1, h2⟩ := I; cases h1; cases h2
  exact sub_int (H _ _ _ s.heap _ h R (.int _ _) St.same)
theorem Op_mul {a b : Int} {Q : V → Hp → Prop} (hm : IntMulOk a b) (h : Q (.int (a * b)) σ) : Op2 w hb A (.int a) (.int b) (fun x y => binaryOp .Mult x y) σ Q := fun p s P E I R H => by
  obtain ⟨x, y⟩ := p; obtain ⟨h1, h2⟩ := I; cases h1; cases h2
  exact mul_int (H _ _ _ s.heap _ h R (.int _ _) St.same) hm
theorem Op_mod {a b : Int} {Q : V → Hp → Prop} (hb' : b ≠ 0) (h : Q (.int (a.fmod b)) σ) : Op2 w hb A (.int a) (.int b) (fun x y => binaryOp .Mod x y) σ Q := fun p s P E I R H => by
  obtain ⟨x, y⟩ := p; obtain ⟨h1, h2⟩ := I; cases h1; cases h2
  exact mod_int' hb' (H _ _ _ s.heap _ h R (.int _ _) St.same)
theorem Op_div {a b : Int} {Q : V → Hp → Prop} (hb' : b ≠ 0) (hp : Builtin.divisionGoesByPylong a b = false) (h : Q (.int (a.fdiv b)) σ) : Op2 w hb A (.int a) (.int b) (fun x y => binaryOp .FloorDiv x y) σ Q := fun p s P E I R H => by
  obtain ⟨x, y⟩ := p; obtain ⟨h1, h2⟩ := I; cases h1; cases h2
  exact floordiv_int hb' (H _ _ _ s.heap _ h R (.int _ _) St.same) (.inl hp)
theorem Op_shr {a b : Int} {Q : V → Hp → Prop} (hn : 0 ≤ b) (h : Q (.int (a.fdiv (2 ^ b.toNat))) σ) : Op2 w hb A (.int a) (.int b) (fun x y => binaryOp .RShift x y) σ Q := fun p s P E I R H => by
  obtain ⟨x, y⟩ := p; obtain ⟨h1, h2⟩ := I; cases h1; cases h2
  exact rshift_int hn (H _ _ _ s.heap _ h R (.int _ _) St.same)
theorem Op_pow {a b : Int} {Q : V → Hp → Prop} (hn : 0 ≤ b) (hsz : (Builtin.Int.intBits a : Int) * b ≤ 2 ^ 27) (h : Q (.int (a ^ b.toNat)) σ) : Op2 w hb A (.int a) (.int b) (fun x y => binaryOp .Pow x y) σ Q := fun p s P E I R H => by
  obtain ⟨x, y⟩ := p; obtain ⟨h1, h2⟩ := I; cases h1; cases h2
  exact pow_int hn hsz (H _ _ _ s.heap _ h R (.int _ _) St.same)
theorem Op_or {a b : Int} {Q : V → Hp → Prop} (h : Q (.int (Builtin.bitOr a b)) σ) : Op2 w hb A (.int a) (.int b) (fun x y => binaryOp .BitOr x y) σ Q := fun p s P E I R H => by
  obtain ⟨x, y⟩ := p; obtain ⟨h1, h2⟩ := I; cases h1; cases h2
  exact or_int (H _ _ _ s.heap _ h R (.int _ _) St.same)
theorem Op_and {a b : Int} {Q : V → Hp → Prop} (h : Q (.int (Builtin.bitAnd a b)) σ) : Op2 w hb A (.int a) (.int b) (fun x y => binaryOp .BitAnd x y) σ Q := fun p s P E I R H => by
  obtain ⟨x, y⟩ := p; obtain ⟨h1, h2⟩ := I; cases h1; cases h2
  exact and_int (H _ _ _ s.heap _ h R (.int _ _) St.same)
theorem Op_lt {a b : Int} {Q : V → Hp → Prop} (h : Q (.bool (decide (a < b))) σ) : Op2 w hb A (.int a) (.int b) (fun x y => compareOp .Lt x y) σ Q := fun p s P E I R H => by
  obtain ⟨x, y⟩ := p; obtain ⟨h1, h2⟩ := I; cases h1; cases h2
  exact lt_int (H _ _ _ s.heap s.toks h R (.bool _) St.same)
theorem Op_gt {a b : Int} {Q : V → Hp → Prop} (h : Q (.bool (decide (a > b))) σ) : Op2 w hb A (.int a) (.int b) (fun x y => compareOp .Gt x y) σ Q := fun p s P E I R H => by
  obtain ⟨x, y⟩ := p; obtain ⟨h1, h2⟩ := I; cases h1; cases h2
  exact gt_int (H _ _ _ s.heap s.toks h R (.bool _) St.same)
theorem Op_eq {a b : Int} {Q : V → Hp → Prop} (h : Q (.bool (a == b)) σ) : Op2 w hb A (.int a) (.int b) (fun x y => compareOp .Eq x y) σ Q := fun p s P E I R H => by
  obtain ⟨x, y⟩ := p; obtain ⟨h1, h2⟩ := I; cases h1; cases h2
  exact eq_int (H _ _ _ s.heap s.toks h R (.bool _) St.same)
theorem Op_ne {a b : Int} {Q : V → Hp → Prop} (h : Q (.bool (a != b)) σ) : Op2 w hb A (.int a) (.int b) (fun x y => compareOp .NotEq x y) σ Q := fun p s P E I R H => by
  obtain ⟨x, y⟩ := p; obtain ⟨h1, h2⟩ := I; cases h1; cases h2
  exact ne_int (H _ _ _ s.heap s.toks h R (.bool _) St.same)
theorem Op_isNone {v : V} {b : Bool} {Q : V → Hp → Prop} (hv : ∀ h a, VR h v a → (a == Value.none) = b) (h : Q (.bool b) σ) : Op2 w hb A v .none (fun x y => compareOp .Is x y) σ Q := fun p s P E I R H => by
  obtain ⟨x, y⟩ := p; obtain ⟨h1, h2⟩ := I; cases h2
  exact is_none (by rw [hv _ _ h1]; exact H _ _ _ s.heap s.toks h R (.bool _) St.same)
theorem Op_isNotNone {v : V} {b : Bool} {Q : V → Hp → Prop} (hv : ∀ h a, VR h v a → (a == Value.none) = b) (h : Q (.bool (!b)) σ) : Op2 w hb A v .none (fun x y => compareOp .IsNot x y) σ Q := fun p s P E I R H => by
  obtain ⟨x, y⟩ := p; obtain ⟨h1, h2⟩ := I; cases h2
  exact isNot_none (by rw [hv _ _ h1]; exact H _ _ _ s.heap s.toks h R (.bool _) St.same)

/- the order of the keys -/
noncomputable def keyLt (x : Str × Int) (y : Str × Int) : Bool := if x.1 = y.1 then decide (x.2 < y.2) else decide (x.1.cps.toList < y.1.cps.toList)
noncomputable def keyV (x : Str × Int) : V := .tup [.str x.1, .int x.2]
theorem VR.tup2 {h : Heap} {u v : V} {a : Value} (r : VR h (.tup [u, v]) a) : ∃ b x y n, a = .ref b ∧ h.get? b = some (seqObj "tuple" #[x, y] n) ∧ VR h u x ∧ VR h v y := by
  cases r with
  | tup e r =>
    rename_i b xs n
    obtain ⟨l⟩ := xs
    cases r with
    | cons p r => cases r with
      | cons q r => cases r with
        | nil => exact ⟨_, _, _, _, rfl, e, p, q⟩
theorem Op_lt_key {x y : Str × Int} {n : Nat} {Q : V → Hp → Prop} (rm : Rm hb n A) (h : Q (.bool (keyLt x y)) σ) : Op2 w hb A (keyV x) (keyV y) (fun a b => compareOp .Lt a b) σ Q := fun p s P E I R H => by
  obtain ⟨a, b⟩ := p; obtain ⟨h1, h2⟩ := I
  obtain ⟨a', p0, p1, n1, rfl, ea, ra0, ra1⟩ := VR.tup2 h1
  obtain ⟨b', q0, q1, n2, rfl, eb, rb0, rb1⟩ := VR.tup2 h2
  cases ra0; cases ra1; cases rb0; cases rb1
  rename_i t1 t2 t3 t4
  show wpAny _ _ (richCompare .Lt (.ref a') (.ref b')) _ _ _
  refine richCompare_meets_room ⟨_, ea, rfl⟩ ⟨_, eb, rfl⟩ PySem.F.slot_tuple_lt PySem.F.entry_tuple_lt (PySem.F.args_tuple_lt_2 _ _)
    (tuple2_lt a' b' (.str x.1 t1) (.int x.2 t2) (.str y.1 t3) (.int y.2 t4) n1 n2 (decide (x.1 = y.1)) (x.2 == y.2) (decide (x.1.cps.toList < y.1.cps.toList)) (decide (x.2 < y.2))) ?_ (by have := rm.units; walk_at "om")
  refine ⟨ea, eb, fun _ _ _ _ q => wpAny_eqBool_str q, fun _ _ _ _ q => wpAny_eqBool_int q, fun prog w _ Q s q => by exact lt_str (by simpa using q), fun _ _ _ _ _ q => lt_int q, ?_⟩
  have e : (if decide (x.1 = y.1) = true then (if (x.2 == y.2) = true then false else decide (x.2 < y.2)) else decide (x.1.cps.toList < y.1.cps.toList)) = keyLt x y := by
    unfold keyLt
    by_cases z : x.1 = y.1
    · by_cases z2 : x.2 = y.2
      · simp [z, z2]
      · simp [z, z2]
    · simp [z]
  rw [e]
  exact ⟨by simp, H _ _ _ s.heap s.toks h R (.bool _) St.same⟩

/- an item -/
noncomputable abbrev Sub (w : World) (hb : Base) (A : Around) (value slice : Expr) (u v : V) (σ : Hp) (Q : V → Hp → Prop) : Prop := Op2 w hb A u v (fun o i => subscriptTail value slice o i) σ Q
theorem Ev_Sub {value slice : Expr} {pos : Pos} {Q : V → Hp → Loc → Prop}
    (h : Ev w hb A env (eval value env) σ loc fun u σ₁ loc₁ => Ev w hb A env (eval slice env) σ₁ loc₁ fun v σ₂ loc₂ => Sub w hb A value slice u v σ₂ fun x σ₃ => Q x σ₃ loc₂) :
    Ev w hb A env (eval (.Subscript value slice pos) env) σ loc Q := fun s P E R F H =>
  Subscript_ (h s _ _ R F fun u a σ₁ loc₁ h₁ t₁ q R₁ F₁ ra S₁ => q _ _ _ R₁ F₁ fun v b σ₂ loc₂ h₂ t₂ q₂ R₂ F₂ rb S₂ =>
    Op.run q₂ (x := (a, b)) (s := { s with heap := h₂, toks := t₂ }) ⟨ra.mono S₂.imm, rb⟩ R₂ F₂ fun x c σ₃ h₃ t₃ q₃ R₃ F₃ rc S₃ => H _ _ _ _ _ _ q₃ R₃ F₃ rc (S₁.trans (S₂.trans S₃)))
theorem Sub_list {value slice : Expr} {a : Addr} {vs : List V} {k : Int} {x : V} {Q : V → Hp → Prop} (e : σ a = some (.list vs)) (h0 : 0 ≤ k) (hx : vs[k.toNat]? = some x) (h : Q x σ) (hfit : k < 2 ^ 63 := by omega)
    (hs : ∀ o i, subscripted slice false o i = operate [o, i] (getItem o i) := by intro _ _; with_unfolding_all rfl) : Sub w hb A value slice (.ref a) (.int k) σ Q := fun p s P E I R H => by
  obtain ⟨y, z⟩ := p; obtain ⟨h1, h2⟩ := I; cases h1; cases h2
  obtain ⟨xs, n, ea, rs⟩ := R.obj a _ e
  obtain ⟨y, hy, ry⟩ := rs.get hx
  have hL : s.heap.IsList a xs := PySem.IsL.isList ea
  exact tail_any hL.typeIs PySem.F.slot_list_getitem.lookup (wpAny_getItem_list hL h0 hfit (by rw [← Array.getElem?_toList]; exact hy) (H _ _ _ s.heap s.toks h R ry St.same)) (hs _ _)
theorem Sub_listN {value slice : Expr} {a : Addr} {vs : List V} {k : Int} {x : V} {Q : V → Hp → Prop} (e : σ a = some (.list vs)) (h0 : k < 0) (h1 : -(vs.length : Int) ≤ k) (hx : vs[(k + vs.length).toNat]? = some x) (h : Q x σ) (hfit : -(2 ^ 63) ≤ k := by omega)
    (hs : ∀ o i, subscripted slice false o i = operate [o, i] (getItem o i) := by intro _ _; with_unfolding_all rfl) : Sub w hb A value slice (.ref a) (.int k) σ Q := fun p s P E I R H => by
  obtain ⟨y, z⟩ := p; obtain ⟨r1, r2⟩ := I; cases r1; cases r2
  obtain ⟨xs, n, ea, rs⟩ := R.obj a _ e
  obtain ⟨y, hy, ry⟩ := rs.get hx
  have hl : vs.length = xs.size := by rw [rs.length, Array.length_toList]
  have hL : s.heap.IsList a xs := PySem.IsL.isList ea
  exact tail_any hL.typeIs PySem.F.slot_list_getitem.lookup (wpAny_getItem_list_neg hL h0 (by rw [← hl]; exact h1) hfit (by rw [← Array.getElem?_toList, ← hl]; exact hy) (H _ _ _ s.heap s.toks h R ry St.same)) (hs _ _)
theorem Sub_tup {value slice : Expr} {vs : List V} {k : Int} {x : V} {Q : V → Hp → Prop} (h0 : 0 ≤ k) (hx : vs[k.toNat]? = some x) (h : Q x σ) (hfit : k < 2 ^ 63 := by omega)
    (hs : ∀ o i, subscripted slice false o i = operate [o, i] (getItem o i) := by intro _ _; with_unfolding_all rfl) : Sub w hb A value slice (.tup vs) (.int k) σ Q := fun p s P E I R H => by
  obtain ⟨y, z⟩ := p; obtain ⟨h1, h2⟩ := I; cases h2
  cases h1 with
  | tup ea rs =>
    rename_i b xs n
    obtain ⟨y, hy, ry⟩ := rs.get hx
    have ht : IsTup s.heap b xs := ⟨_, ea, rfl, n, rfl⟩
    have hlt : k.toNat < xs.size := by
      have := (List.getElem?_eq_some_iff.mp hy).1
      simpa using this
    have hj : seqIndex? k xs.size = some k.toNat := by
      unfold seqIndex?
      have : ¬ k < 0 := by walk_at "om"
      have h2 : k < (xs.size : Int) := by walk_at "om"
      simp [this, h2]
      first | walk_at "om" | (intro; walk_at "om") | skip
    exact tail_any ht.typeIs PySem.F.slot_tuple_getitem.lookup (PyProof.Rows.getItem_tuple ht (by walk_at "om") hfit hj (by rw [← Array.getElem?_toList]; exact hy) (H _ _ _ s.heap s.toks h R ry St.same)) (hs _ _)
end
end

section
open PySem PySem.W PyProof.Rows PySem.Calls PySem.Spec

section
variable {w : World} {hb : Base} {A : Around} {env : Env} {σ : Hp} {loc : Loc}

/- what may be called by its name -/
noncomputable def Calls (w : World) (f : V) : Prop := (∃ id, f = .val (.builtin id)) ∨ (∃ T, f = .val (.type T)) ∨ ∃ a o fd, f = .val (.ref a) ∧ (KF w).lookup a = some o ∧ o.data = .func fd
noncomputable def vOf : V → Value
  | .val v => v
  | _ => .none
theorem Ev_call (B : Bs w hb.h) {func e : Expr} {rest : List Expr} {pos : Pos} {Q : V → Hp → Loc → Prop}
    (h : Ev w hb A env (eval func env) σ loc fun f σ₁ loc₁ => Calls w f ∧ EvL w hb A env (spliced (backTo pos (starEach (e :: rest) env))) σ₁ loc₁ fun vs σ₂ loc₂ => OpN w hb A vs (fun as => call (vOf f) as) σ₂ fun x σ₃ => Q x σ₃ loc₂)
    (he : eval (.Call func (e :: rest) [] pos) env = (do callWith pos (← eval func env) [] (backTo pos (starEach (e :: rest) env)) (backToKw pos (keywordEach [] env))) := by rfl)
    (hst : starEach (e :: rest) env = (false, eval e env) :: starEach rest env := by rfl) (hplain : (backTo pos (starEach rest env)).any (·.1) = false := by rfl) :
    Ev w hb A env (eval (.Call func (e :: rest) [] pos) env) σ loc Q := fun s P E R F H => by
  refine Call_ (h s _ _ R F fun f a σ₁ loc₁ h₁ t₁ q R₁ F₁ ra S₁ => ?_) he
  obtain ⟨cf, q⟩ := q
  rcases cf with ⟨id, rfl⟩ | ⟨T, rfl⟩ | ⟨c, o, fd, rfl, hc, hd⟩
  · cases ra
    exact callWith_builtin1 (q _ _ _ R₁ F₁ fun vs as σ₂ loc₂ h₂ t₂ q₂ R₂ F₂ rs S₂ => Op.run q₂ (x := as) (s := { s with heap := h₂, toks := t₂ }) rs R₂ F₂ fun x c σ₃ h₃ t₃ q₃ R₃ F₃ rc S₃ => H _ _ _ _ _ _ q₃ R₃ F₃ rc (S₁.trans (S₂.trans S₃))) hst hplain
  · cases ra
    exact callWith_type1 (q _ _ _ R₁ F₁ fun vs as σ₂ loc₂ h₂ t₂ q₂ R₂ F₂ rs S₂ => Op.run q₂ (x := as) (s := { s with heap := h₂, toks := t₂ }) rs R₂ F₂ fun x c σ₃ h₃ t₃ q₃ R₃ F₃ rc S₃ => H _ _ _ _ _ _ q₃ R₃ F₃ rc (S₁.trans (S₂.trans S₃))) hst hplain
  · cases ra
    exact callWith_def (o := o) hd (q _ _ _ R₁ F₁ fun vs as σ₂ loc₂ h₂ t₂ q₂ R₂ F₂ rs S₂ => ⟨R₂.base _ _ (B.X _ _ hc), Op.run q₂ (x := as) (s := { s with heap := h₂, toks := t₂ }) rs R₂ F₂ fun x c σ₃ h₃ t₃ q₃ R₃ F₃ rc S₃ => H _ _ _ _ _ _ q₃ R₃ F₃ rc (S₁.trans (S₂.trans S₃))⟩) hst

/- a method of a built-in type -/
noncomputable def Meth (w : World) (hb : Base) (A : Around) (u : V) (σ : Hp) (name : Str) (id : String) : Prop :=
  ∀ (a : Value) (s : Shared) (pl : Sem Bool) (P : Value × List Value → Shared → Prop) (E : Value → Shared → Prop), VR s.heap u a → Rep w hb σ s.heap → P (.builtin id, [a]) s → wpAny (model pg w) A (getMethod a name pl) P E s
theorem Ev_meth1 {o e : Expr} {rest : List Expr} {name : Str} {apos pos : Pos} {pl : Sem Bool} {Q : V → Hp → Loc → Prop}
    (h : Ev w hb A env (eval o env) σ loc fun u σ₁ loc₁ => ∃ id, Meth w hb A u σ₁ name id ∧ EvL w hb A env (spliced (backTo pos (starEach (e :: rest) env))) σ₁ loc₁ fun vs σ₂ loc₂ => OpN w hb A (u :: vs) (fun as => call (.builtin id) as) σ₂ fun x σ₃ => Q x σ₃ loc₂)
    (he : eval (.Call (.Attribute o name apos) (e :: rest) [] pos) env = (do
      let ov ← eval o env
      standAt apos.atName
      let (f, first) ← holding [ov] (getMethod ov name pl)
      callWith pos f first (backTo pos (starEach (e :: rest) env)) []) := by rfl)
    (hst : starEach (e :: rest) env = (false, eval e env) :: starEach rest env := by rfl) (hplain : (backTo pos (starEach rest env)).any (·.1) = false := by rfl) :
    Ev w hb A env (eval (.Call (.Attribute o name apos) (e :: rest) [] pos) env) σ loc Q := fun s P E R F H => by
  refine MethodCall_ (h s _ _ R F fun u a σ₁ loc₁ h₁ t₁ q R₁ F₁ ra S₁ => ?_) he
  obtain ⟨id, hm, q⟩ := q
  refine hm a _ pl _ _ ra R₁ (callWith_method1 (q _ _ _ R₁ F₁ fun vs as σ₂ loc₂ h₂ t₂ q₂ R₂ F₂ rs S₂ => ?_) hst hplain)
  exact Op.run q₂ (x := a :: as) (s := { s with heap := h₂, toks := t₂ }) (.cons (ra.mono S₂.imm) rs) R₂ F₂ fun x c σ₃ h₃ t₃ q₃ R₃ F₃ rc S₃ => H _ _ _ _ _ _ q₃ R₃ F₃ rc (S₁.trans (S₂.trans S₃))
theorem Ev_meth0 {o : Expr} {name : Str} {apos pos : Pos} {pl : Sem Bool} {Q : V → Hp → Loc → Prop}
    (h : Ev w hb A env (eval o env) σ loc fun u σ₁ loc₁ => ∃ id, Meth w hb A u σ₁ name id ∧ OpN w hb A [u] (fun as => call (.builtin id) as) σ₁ fun x σ₃ => Q x σ₃ loc₁)
    (he : eval (.Call (.Attribute o name apos) [] [] pos) env = (do
      let ov ← eval o env
      standAt apos.atName
      let (f, first) ← holding [ov] (getMethod ov name pl)
      callWith pos f first (backTo pos (starEach [] env)) []) := by rfl) :
    Ev w hb A env (eval (.Call (.Attribute o name apos) [] [] pos) env) σ loc Q := fun s P E R F H => by
  refine MethodCall_ (h s _ _ R F fun u a σ₁ loc₁ h₁ t₁ q R₁ F₁ ra S₁ => ?_) he
  obtain ⟨id, hm, q⟩ := q
  refine hm a _ pl _ _ ra R₁ (callWith_method0 ?_)
  exact Op.run q (x := [a]) (s := { s with heap := h₁, toks := t₁ }) (.cons ra .nil) R₁ F₁ fun x c σ₃ h₃ t₃ q₃ R₃ F₃ rc S₃ => H _ _ _ _ _ _ q₃ R₃ F₃ rc (S₁.trans S₃)
theorem Meth_list {a : Addr} {vs : List V} {name : Str} {id : String} (e : σ a = some (.list vs)) (slot : Slot "list" name id) (hty : typeOf (.builtin id) = pure (.type "method_descriptor")) : Meth w hb A (.ref a) σ name id := fun b s pl P E ra R h => by
  cases ra
  obtain ⟨xs, n, ea, rs⟩ := R.obj a _ e
  exact getMethod_builtin ⟨_, ea, rfl⟩ PySem.F.plainAttrs_list slot hty (fun a e => by cases e; exact ⟨_, ea, rfl⟩) h
theorem Meth_append {a : Addr} {vs : List V} (e : σ a = some (.list vs)) : Meth w hb A (.ref a) σ (Str.ofString "append") "list.append" := Meth_list e PySem.F.slot_list_append PySem.F.type_list_append
theorem Meth_pop {a : Addr} {vs : List V} (e : σ a = some (.list vs)) : Meth w hb A (.ref a) σ (Str.ofString "pop") "list.pop" := Meth_list e PySem.F.slot_list_pop PySem.F.type_list_pop

theorem VRs.toArr {h : Heap} {vs : List V} {l : List Value} (r : VRs h vs l) : VRs h vs l.toArray.toList := r
theorem Op_len {a : Addr} {vs : List V} {Q : V → Hp → Prop} (e : σ a = some (.list vs)) (hz : (vs.length : Int) < 2 ^ 63) (h : Q (.int vs.length) σ) : OpN w hb A [.ref a] (fun as => call (vOf (.val (.builtin "len"))) as) σ Q := fun x s P E I R H => by
  cases I with
  | cons p r => cases p; cases r
                obtain ⟨xs, n, ea, rs⟩ := R.obj a _ e
                have hl : vs.length = xs.size := by rw [rs.length, Array.length_toList]
                have hL : s.heap.IsList a xs := PySem.IsL.isList ea
                exact call_len_list hL (by rw [← hl]; exact hz) (by rw [← hl]; exact H _ _ _ s.heap _ h R (.int _ _) St.same)
theorem OpB_list {a : Addr} {vs : List V} {Q : Bool → Hp → Prop} (e : σ a = some (.list vs)) (hz : (vs.length : Int) < 2 ^ 63) (h : Q (!vs.isEmpty) σ) : OpB w hb A (.ref a) truthy σ Q := fun x s P E I R H => by
  cases I
  obtain ⟨xs, n, ea, rs⟩ := R.obj a _ e
  have hl : vs.length = xs.size := by rw [rs.length, Array.length_toList]
  have hL : s.heap.IsList a xs := PySem.IsL.isList ea
  have he : (!xs.isEmpty) = !vs.isEmpty := by
    cases vs with
    | nil => have : xs.size = 0 := by rw [← hl]; rfl
             simp [Array.isEmpty, this]
    | cons v vs => have : xs.size ≠ 0 := by rw [← hl]; simp
                   simp [Array.isEmpty, this]
  exact wpAny_truthy_list hL (by rw [← hl]; exact hz) (by rw [he]; exact H _ _ _ s.heap _ h R rfl St.same)
theorem Op_append {a : Addr} {vs : List V} {v : V} {Q : V → Hp → Prop} (e : σ a = some (.list vs)) (hz : vs.length ≤ sizeLine) (h : Q .none (upd σ a (.list (vs ++ [v])))) : OpN w hb A [.ref a, v] (fun as => call (.builtin "list.append") as) σ Q := fun x s P E I R H => by
  cases I with
  | cons p r => cases p; cases r with
    | cons q r => cases r
                  obtain ⟨xs, n, ea, rs⟩ := R.obj a _ e
                  have hl : vs.length = xs.size := by rw [rs.length, Array.length_toList]
                  refine append_at ea (fun h' hs eh => ?_) (by rw [← hl]; exact hz)
                  have im : ImmK s.heap h' := fun b ob z i => (hs.2 b (fun y => by subst y; rw [ea] at z; cases z; exact absurd i (not_imm_list _ _))).trans z
                  obtain ⟨R', S⟩ := R.turn (o' := .list (vs ++ [v])) e (fun ob z => by rw [ea] at z; cases z; exact not_imm_list _ _) hs ⟨_, _, eh, by
                    rw [Array.toList_push]
                    exact (rs.mono im).app (.cons (q.mono im) .nil)⟩
                  exact H _ _ _ _ _ h R' .none S
theorem Op_pop {a : Addr} {vs : List V} {v : V} {Q : V → Hp → Prop} (e : σ a = some (.list (vs ++ [v]))) (hz : (vs ++ [v]).length ≤ sizeLine) (h : Q v (upd σ a (.list vs))) : OpN w hb A [.ref a] (fun as => call (.builtin "list.pop") as) σ Q := fun x s P E I R H => by
  cases I with
  | cons p r =>
    cases p; cases r
    obtain ⟨xs, n, ea, rs⟩ := R.obj a _ e
    have hl : (vs ++ [v]).length = xs.size := by rw [rs.length, Array.length_toList]
    have hn : (vs ++ [v])[vs.length]? = some v := by simp
    obtain ⟨y, hy, ry⟩ := rs.get hn
    have hk : xs.size - 1 = vs.length := by rw [← hl]; simp
    have hy' : xs[xs.size - 1]? = some y := by rw [hk, ← Array.getElem?_toList]; exact hy
    refine call_meets PySem.F.slot_list_pop ⟨_, ea, rfl⟩ PySem.F.entry_list_pop (PySem.F.args_list_pop_1 _) (PySem.MeetsSeq.list_pop_last a xs n y hy' (by rw [← hl]; exact hz)) ⟨ea, ?_⟩
    have hs : Heap.SameBut a s.heap (s.heap.update a (Obj.mapSeq fun xs' => xs'.eraseIdxIfInBounds (xs.size - 1))) := Heap.SameBut.update ..
    have im : ImmK s.heap (s.heap.update a (Obj.mapSeq fun xs' => xs'.eraseIdxIfInBounds (xs.size - 1))) := fun b ob z i => (hs.2 b (fun y => by subst y; rw [ea] at z; cases z; exact absurd i (not_imm_list _ _))).trans z
    have q := PySem.IsL.update ea (fun xs' => xs'.eraseIdxIfInBounds (xs.size - 1))
    have er : (xs.eraseIdxIfInBounds (xs.size - 1)).toList = xs.toList.take vs.length := by
      have hlt : xs.size - 1 < xs.size := by rw [hk]; rw [← hl]; simp
      unfold Array.eraseIdxIfInBounds
      rw [dif_pos hlt, Array.toList_eraseIdx, hk, List.eraseIdx_eq_take_drop_succ]
      have : List.drop (vs.length + 1) xs.toList = [] := by
        apply List.drop_of_length_le
        rw [Array.length_toList, ← hl]; simp
      rw [this, List.append_nil]
    obtain ⟨R', S⟩ := R.turn (o' := .list vs) e (fun ob z => by rw [ea] at z; cases z; exact not_imm_list _ _) hs ⟨_, _, q, by
      rw [er]
      have := (rs.mono im).take vs.length
      rwa [List.take_left'] at this
      rfl⟩
    exact H _ _ _ _ _ h R' (ry.mono im) S

/- a store into a list -/
noncomputable abbrev OpS (w : World) (hb : Base) (A : Around) (o i v : V) := Op w hb A (fun h (p : Value × Value × Value) => VR h o p.1 ∧ VR h i p.2.1 ∧ VR h v p.2.2) (fun p => setItem p.1 p.2.1 p.2.2) (fun _ (_ _ : Unit) => True)
theorem As_Sub {o i : Expr} {pos : Pos} {v : V} {Q : Hp → Loc → Prop}
    (h : Ev w hb A env (eval o env) σ loc fun u σ₁ loc₁ => Ev w hb A env (eval i env) σ₁ loc₁ fun k σ₂ loc₂ => OpS w hb A u k v σ₂ fun _ σ₃ => Q σ₃ loc₂) : As w hb A env (.Subscript o i pos) v σ loc Q := fun a s P E ra R F H => by
  rw [assign_Subscript]
  refine wpAny_bind (wpAny_holding (h s _ _ R F fun u b σ₁ loc₁ h₁ t₁ q R₁ F₁ rb S₁ => wpAny_bind (wpAny_holding (q _ _ _ R₁ F₁ fun k c σ₂ loc₂ h₂ t₂ q₂ R₂ F₂ rc S₂ => wpAny_bind (wpAny_standAt (wpAny_bind (wpAny_holding ?_)))))))
  exact Op.run q₂ (x := (b, c, a)) (s := { s with heap := h₂, toks := t₂ }) ⟨rb.mono S₂.imm, rc, ra.mono (S₁.imm.trans S₂.imm)⟩ R₂ F₂ fun x d σ₃ h₃ t₃ q₃ R₃ F₃ rd S₃ => wpAny_release (H _ _ _ _ q₃ R₃ F₃ (S₁.trans (S₂.trans S₃)))
theorem OpS_list {a : Addr} {vs : List V} {v : V} {k : Int} {Q : Unit → Hp → Prop} (e : σ a = some (.list vs)) (h0 : 0 ≤ k) (hk : k < vs.length) (h : Q () (upd σ a (.list (vs.set k.toNat v)))) (hfit : k < 2 ^ 63 := by omega) : OpS w hb A (.ref a) (.int k) v σ Q := fun p s P E I R H => by
  obtain ⟨x, y, z⟩ := p; obtain ⟨h1, h2, h3⟩ := I; cases h1; cases h2
  obtain ⟨xs, n, ea, rs⟩ := R.obj a _ e
  have hl : vs.length = xs.size := by rw [rs.length, Array.length_toList]
  refine ki_setAt ea h0 hfit (by rw [← hl]; exact hk) ?_
  have hs : Heap.SameBut a s.heap (s.heap.update a (Obj.mapSeq (·.setIfInBounds k.toNat z))) := Heap.SameBut.update ..
  have im : ImmK s.heap (s.heap.update a (Obj.mapSeq (·.setIfInBounds k.toNat z))) := fun b ob z i => (hs.2 b (fun y => by subst y; rw [ea] at z; cases z; exact absurd i (not_imm_list _ _))).trans z
  have q := PySem.IsL.update ea (·.setIfInBounds k.toNat z)
  obtain ⟨R', S⟩ := R.turn (o' := .list (vs.set k.toNat v)) e (fun ob z => by rw [ea] at z; cases z; exact not_imm_list _ _) hs ⟨_, _, q, by
    rw [Array.toList_setIfInBounds]
    exact (rs.mono im).set _ (h3.mono im)⟩
  exact H () _ _ _ _ h R' trivial S
theorem Sub_at {value slice : Expr} {a : Addr} {vs : List V} {k : Nat} {x : V} {Q : V → Hp → Prop} (e : σ a = some (.list vs)) (hx : vs[k]? = some x) (hz : k < 2 ^ 62) (h : Q x σ)
    (hs : ∀ o i, subscripted slice false o i = operate [o, i] (getItem o i) := by intro _ _; with_unfolding_all rfl) : Sub w hb A value slice (.ref a) (.int (k : Nat)) σ Q := Sub_list e (by walk_at "om") (by simpa using hx) h (by walk_at "om") hs
theorem OpS_at {a : Addr} {vs : List V} {v : V} {k : Nat} {Q : Unit → Hp → Prop} (e : σ a = some (.list vs)) (hk : k < vs.length) (hz : k < 2 ^ 62) (h : Q () (upd σ a (.list (vs.set k v)))) : OpS w hb A (.ref a) (.int (k : Nat)) v σ Q :=
  OpS_list e (by walk_at "om") (by walk_at "om") (by simpa using h) (by walk_at "om")
end
end

section
open PySem PySem.W PyProof.Rows PySem.Calls PySem.Spec

noncomputable def ExtW (ws : List Addr) (h h' : Heap) : Prop := ∀ b o, b ∉ ws → h.get? b = some o → h'.get? b = some o

/- an iterator at I: it hands out the items, one after the other, and writes at ws alone -/
structure Wk (w : World) (hb : Base) (A : Around) (I : Addr) (ws : List Addr) (C : Hp → Prop) (items : List V) (T : Nat → Heap → Prop) : Prop where
  item : ∀ (i : Nat) (u : V) (σ : Hp) (s : Shared) (P : Option Value → Shared → Prop) (E : Value → Shared → Prop), items[i]? = some u → T i s.heap → Rep w hb σ s.heap → C σ →
    (∀ x h' tk', VR h' u x → T (i + 1) h' → ExtW ws s.heap h' → P (some x) { s with heap := h', toks := tk' }) → wpAny (model pg w) A (pyNext (.ref I)) P E s
  done : ∀ (σ : Hp) (s : Shared) (P : Option Value → Shared → Prop) (E : Value → Shared → Prop), T items.length s.heap → Rep w hb σ s.heap → C σ →
    (∀ h' tk', ExtW ws s.heap h' → P none { s with heap := h', toks := tk' }) → wpAny (model pg w) A (pyNext (.ref I)) P E s
  frame : ∀ i h h', T i h → (∀ b ∈ ws, ∀ o, h.get? b = some o → h'.get? b = some o) → ImmK h h' → T i h'
  has : ∀ i h, T i h → ∀ b ∈ ws, ∃ o, h.get? b = some o ∧ ¬ Imm o ∧ ¬ isD o
  self : ∀ (i : Nat) (s : Shared) (P : Value → Shared → Prop) (E : Value → Shared → Prop), T i s.heap → P (.ref I) s → wpAny (model pg w) A (pyIter (.ref I)) P E s
  lets : ∀ (i : Nat) (s : Shared) (t : Expr) (v : Value) (P : Unit → Shared → Prop) (E : Value → Shared → Prop), T i s.heap → P () s → wpAny (model pg w) A (letOwnedTupleGo t (.ref I) v) P E s

/- what a value hands out when it is gone through -/
noncomputable def Src (w : World) (hb : Base) (A : Around) (v : V) (σ : Hp) (C : Hp → Prop) (items : List V) : Prop :=
  ∀ (a : Value) (s : Shared) (P : Value → Shared → Prop) (E : Value → Shared → Prop), VR s.heap v a → Rep w hb σ s.heap →
    (∀ I ws T h' tk', Wk w hb A I ws C items T → T 0 h' → (∀ b o, s.heap.get? b = some o → h'.get? b = some o) → (∀ b ∈ ws, s.heap.get? b = none) → P (.ref I) { s with heap := h', toks := tk' }) → wpAny (model pg w) A (pyIter a) P E s

section
variable {w : World} {hb : Base} {A : Around} {env : Env} {σ : Hp} {loc : Loc}

theorem letGo_of {I : Addr} {s : Shared} {o : Obj} {c : String} {vs : Array Value} {t : Expr} {v : Value} {P : Unit → Shared → Prop} {E : Value → Shared → Prop} (ho : s.heap.get? I = some o) (hc : o.cls = .type c)
    (hn : (["enumerate", "zip", "dict_itemiterator", "dict_reverseitemiterator", "odict_iterator", "itertools.zip_longest", "itertools.pairwise"] : List String).contains c = false) (h : P () s) : wpAny (model pg w) A (letOwnedTupleGo t (.ref I) v) P E s := by
  unfold letOwnedTupleGo
  cases t <;> first
    | exact wpAny_pure h
    | (cases v <;> first
        | exact wpAny_pure h
        | (refine wpAny_bind (wpAny_load ho ?_)
           rw [hc]
           cases hd : o.data <;> first
             | exact wpAny_pure h
             | (simp only [hn, Bool.false_and]; exact wpAny_pure h)))

theorem src_list {a : Addr} {vs : List V} {n : Nat} (rm : Rm hb n A) (e : σ a = some (.list vs)) : Src w hb A (.ref a) σ (fun σ' => σ' a = some (.list vs)) vs := fun b s P E ra R H => by
  cases ra
  obtain ⟨xs, n, ea, rs⟩ := R.obj a _ e
  refine wpAny_pyIter_list (PySem.IsL.isList ea) ?_
  refine H _ [s.heap.objs.size] (fun i h => h.IsListIter s.heap.objs.size a i) _ s.toks ⟨?_, ?_, ?_, ?_, ?_, ?_⟩ ⟨_, Heap.get?_push_size _ rfl, rfl, rfl⟩ (fun b o e => Heap.get?_push_of_some _ e) (fun b hb' => by simp at hb'; subst hb'; exact get?_size _)
  · intro i u σ' s' P E hu hT R' hC H'
    obtain ⟨ys, m, eb, rs'⟩ := R'.obj a _ hC
    obtain ⟨y, hy, ry⟩ := rs'.get hu
    refine wpAny_pyNext_list_item hT (PySem.IsL.isList eb) (x := y) (by rw [← Array.getElem?_toList]; exact hy) fun h' hT' hs => ?_
    have ex : ExtW [s.heap.objs.size] s'.heap h' := fun b o hb' e => hs.extBut b o (fun z => hb' (by simp [z])) e
    refine H' y h' s'.toks (ry.mono fun b o e i => ex b o (fun z => ?_) e) hT' ex
    simp at z
    subst z
    obtain ⟨o', ho', hc', hd'⟩ := hT
    rw [ho'] at e; cases e
    rcases i with ⟨_, _, rfl⟩ | ⟨_, _, i | i⟩
    · exact absurd hd' (by simp [seqObj])
    · rw [hc'] at i; exact absurd i (by decide)
    · rw [hc'] at i; exact absurd i (by decide)
  · intro σ' s' P E hT R' hC H'
    obtain ⟨ys, m, eb, rs'⟩ := R'.obj a _ hC
    refine wpAny_pyNext_list_end rm.hand hT (PySem.IsL.isList eb) (by
      have : vs.length = ys.size := by rw [rs'.length, Array.length_toList]
      rw [this]; simp) fun h' hs => H' h' s'.toks fun b o hb' e => hs b o (fun z => hb' (by simp [z])) e
  · rintro i h h' ⟨o, ho, r⟩ hk _
    exact ⟨o, hk _ (by simp) o ho, r⟩
  · rintro i h ⟨o, ho, hc, hd⟩ b hb'
    simp at hb'; subst hb'
    refine ⟨o, ho, ?_, not_isD_fields hd⟩
    rintro (⟨_, _, rfl⟩ | ⟨_, _, i | i⟩)
    · exact absurd hd (by simp [seqObj])
    · rw [hc] at i; exact absurd i (by decide)
    · rw [hc] at i; exact absurd i (by decide)
  · intro i s' P E hT h
    exact wpAny_pyIter_listiter hT h
  · rintro i s' t v P E ⟨o, ho, hc, hd⟩ h
    exact letGo_of (vs := #[]) ho hc (by decide) h

theorem not_imm_fields {o : Obj} {c : String} {vs : Array Value} (hc : o.cls = .type c) (hd : o.data = .fields vs) (h1 : c ≠ "range") (h2 : c ≠ "method-wrapper") : ¬ Imm o := by
  rintro (⟨_, _, rfl⟩ | ⟨_, _, i | i⟩)
  · exact absurd hd (by simp)
  · rw [hc] at i; exact h1 (by injection i)
  · rw [hc] at i; exact h2 (by injection i)
theorem imm_of_ext {I : Addr} {h h' : Heap} {o : Obj} (ho : h.get? I = some o) (ni : ¬ Imm o) (ex : ExtW [I] h h') : ImmK h h' := fun b o' e i => by
  refine ex b o' (fun z => ?_) e
  simp at z
  subst z
  rw [ho] at e; cases e
  exact ni i
theorem src_tup {vs : List V} {n : Nat} (rm : Rm hb n A) : Src w hb A (.tup vs) σ (fun _ => True) vs := fun b s P E ra R H => by
  cases ra with
  | tup ea rs =>
    rename_i a xs m
    have ht : s.heap.IsTuple a xs := ⟨_, ea, rfl, m, rfl⟩
    have hne : a ≠ s.heap.objs.size := fun z => by rw [z, get?_size] at ea; cases ea
    refine wpAny_pyIter_tuple ht ?_
    refine H _ [s.heap.objs.size] (fun i h => h.IsTupleIter s.heap.objs.size a i ∧ h.get? a = some (seqObj "tuple" xs m) ∧ VRs h vs xs.toList) _ s.toks ⟨?_, ?_, ?_, ?_, ?_, ?_⟩ ⟨⟨_, Heap.get?_push_size _ rfl, rfl, rfl⟩, Heap.get?_push_of_some _ ea, rs.mono fun _ _ e _ => Heap.get?_push_of_some _ e⟩ (fun b o e => Heap.get?_push_of_some _ e) (fun b hb' => by simp at hb'; subst hb'; exact get?_size _)
    · rintro i u σ' s' P E hu ⟨hT, ea', rs'⟩ R' hC H'
      obtain ⟨y, hy, ry⟩ := rs'.get hu
      refine wpAny_pyNext_tuple_item hT ⟨_, ea', rfl, m, rfl⟩ (x := y) (by rw [← Array.getElem?_toList]; exact hy) fun h' hT' hs => ?_
      have ex : ExtW [s.heap.objs.size] s'.heap h' := fun b o hb' e => hs.extBut b o (fun z => hb' (by simp [z])) e
      obtain ⟨o', ho', hc', hd'⟩ := hT
      have im := imm_of_ext ho' (not_imm_fields hc' hd' (by decide) (by decide)) ex
      exact H' y h' s'.toks (ry.mono im) ⟨hT', ex _ _ (by simpa using hne) ea', rs'.mono im⟩ ex
    · rintro σ' s' P E ⟨hT, ea', rs'⟩ R' hC H'
      refine wpAny_pyNext_tuple_end rm.hand hT ⟨_, ea', rfl, m, rfl⟩ (by
        have : vs.length = xs.size := by rw [rs'.length, Array.length_toList]
        rw [this]; simp) fun h' hs => H' h' s'.toks fun b o hb' e => hs b o (fun z => hb' (by simp [z])) e
    · rintro i h h' ⟨⟨o, ho, r⟩, ea', rs'⟩ hk im
      exact ⟨⟨o, hk _ (by simp) o ho, r⟩, im _ _ ea' (.inl ⟨_, _, rfl⟩), rs'.mono im⟩
    · rintro i h ⟨⟨o, ho, hc, hd⟩, _⟩ b hb'
      simp at hb'; subst hb'
      exact ⟨o, ho, not_imm_fields hc hd (by decide) (by decide), not_isD_fields hd⟩
    · rintro i s' P E ⟨hT, _⟩ h
      refine wpAny_pyIter_slot hT.typeIs PySem.F.slot_tuple_iterator_iter (wpAny_call_entry PySem.F.slot_tuple_iterator_iter hT.typeIs PySem.F.entry_tuple_iterator_iter ?_ (PySem.F.args_tuple_iterator_iter_1 _))
      exact wpAny_pure ⟨_, rfl, "tuple_iterator", _, hT.typeIs, PySem.F.slot_tuple_iterator_next.lookup, h⟩
    · rintro i s' t v P E ⟨⟨o, ho, hc, hd⟩, _⟩ h
      exact letGo_of (vs := #[]) ho hc (by decide) h
/- a range's numbers, up or down -/
theorem wk_range {I : Addr} {n m : Nat} (rm : Rm hb n A) (a c : Int) : Wk w hb A I [I] (fun _ => True) ((List.range m).map fun i => .int (a + (i : Nat) * c)) (fun i h => IsRangeIter h I (a + (i : Nat) * c) ((m : Int) - (i : Nat)) c) := by
  refine ⟨?_, ?_, ?_, ?_, ?_, ?_⟩
  · intro i u σ' s' P E hu hT R' hC H'
    rw [List.getElem?_map] at hu
    have hi : i < m := by
      cases q : (List.range m)[i]? with
      | none => rw [q] at hu; cases hu
      | some j => exact by simpa using (List.getElem?_eq_some_iff.mp q).1
    rw [List.getElem?_range hi] at hu
    cases hu
    refine wpAny_pyNext_range_item hT (by walk_at "om") fun h' hT' hs => ?_
    have ex : ExtW [I] s'.heap h' := fun b o hb' e => hs.extBut b o (fun z => hb' (by simp [z])) e
    refine H' _ h' _ (.int _ _) ?_ ex
    have e1 : a + (i : Nat) * c + c = a + ((i + 1 : Nat) : Int) * c := by rw [Int.natCast_add, Int.add_mul]; walk_at "om"
    have e2 : (m : Int) - (i : Nat) - 1 = (m : Int) - ((i + 1 : Nat) : Int) := by walk_at "om"
    rw [e1, e2] at hT'
    exact hT'
  · intro σ' s' P E hT R' hC H'
    refine wpAny_pyNext_range_end rm.hand hT (by simp) fun h' hs => H' h' s'.toks fun b o hb' e => hs b o (fun z => hb' (by simp [z])) e
  · intro i h h' hT hk _
    exact hk _ (by simp) _ hT
  · intro i h hT b hb'
    simp at hb'; subst hb'
    exact ⟨_, hT, not_imm_fields rfl rfl (by decide) (by decide), not_isD_fields rfl⟩
  · intro i s' P E hT h
    have hty : s'.TypeIs (.ref I) "range_iterator" := ⟨_, hT, rfl⟩
    refine wpAny_pyIter_slot hty PySem.F.slot_range_iterator_iter (wpAny_call_entry PySem.F.slot_range_iterator_iter hty PySem.F.entry_range_iterator_iter ?_ (PySem.F.args_range_iterator_iter_1 _))
    exact wpAny_pure ⟨_, rfl, "range_iterator", _, hty, PySem.F.slot_range_iterator_next.lookup, h⟩
  · intro i s' t v P E hT h
    exact letGo_of (vs := #[]) hT rfl (by decide) h
theorem src_rng {m n : Nat} (rm : Rm hb n A) (hz : m < 2 ^ 60) : Src w hb A (.rng m) σ (fun _ => True) ((List.range m).map fun i => .int (i : Nat)) := fun b s P E ra R H => by
  cases ra with
  | rng er =>
    refine wpAny_pyIter_range er (small_one (by walk_at "om") (by walk_at "om") (by walk_at "om") (by walk_at "om")) ?_
    have e : (List.range m).map (fun i => V.int (i : Nat)) = (List.range m).map (fun i => V.int (0 + (i : Nat) * 1)) := by simp
    rw [e] at H
    refine H _ [s.heap.objs.size] _ _ s.toks (wk_range rm 0 1) ?_ (fun b o e => Heap.get?_push_of_some _ e) (fun b hb' => by simp at hb'; subst hb'; exact get?_size _)
    have e2 : Builtin.Range.rangeSize 0 m 1 = (m : Int) - ((0 : Nat) : Int) := by
      rw [rangeSize_one]; split <;> walk_at "om"
    rw [e2]
    simpa [IsRangeIter, rawInt] using Heap.get?_push_size s.heap (o := { cls := .type "range_iterator", data := .fields #[rawInt 0, rawInt ((m : Int) - ((0 : Nat) : Int)), rawInt 1] }) rfl
theorem Op_range {m : Nat} {Q : V → Hp → Prop} (h : Q (.rng m) σ) : OpN w hb A [.int (m : Nat)] (fun as => call (vOf (.val (.type "range"))) as) σ Q := fun x s P E I R H => by
  cases I with
  | cons p r =>
    cases p; cases r
    rename_i t
    have ⟨R', S⟩ := R.push (ob := { cls := .type "range", data := .fields #[.int 0 s.toks, .int m t, .int 1 (s.toks + 1)] })
    exact call_range_1 (H _ _ _ _ _ h R' (.rng (IsRange.new ..)) S)

/- an expression is reckoned and then gone through -/
noncomputable def It (w : World) (hb : Base) (A : Around) (env : Env) (iter : Expr) (σ : Hp) (loc : Loc) (K : (Hp → Prop) → List V → Hp → Loc → Prop) : Prop :=
  ∀ (s : Shared) (P : Value → Shared → Prop) (E : Value → Shared → Prop), Rep w hb σ s.heap → FrR hb env loc σ s.heap →
    (∀ C items σ' loc' I ws T h' tk', K C items σ' loc' → C σ' → Wk w hb A I ws C items T → T 0 h' → Rep w hb σ' h' → FrR hb env loc' σ' h' → St (own env) σ σ' s.heap h' → (∀ b ∈ ws, σ' b = none ∧ hb.get? b = none ∧ ¬ reach env b) → (∀ b o, s.heap.get? b = some o → σ b = none → ¬ own env b → b ∉ ws) →
      P (.ref I) { s with heap := h', toks := tk' }) → wpAny (model pg w) A (eval iter env) (fun x s₁ => wpAny (model pg w) A (pyIter x) P E s₁) E s
theorem It_src {iter : Expr} {K : (Hp → Prop) → List V → Hp → Loc → Prop} (h : Ev w hb A env (eval iter env) σ loc fun v σ₁ loc₁ => ∃ C items, Src w hb A v σ₁ C items ∧ C σ₁ ∧ K C items σ₁ loc₁) : It w hb A env iter σ loc K := fun s P E R F H =>
  h s _ _ R F fun v a σ₁ loc₁ h₁ t₁ q R₁ F₁ ra S₁ => by
    obtain ⟨C, items, hs, hC, hK⟩ := q
    refine hs _ _ _ _ ra R₁ fun I ws T h₂ t₂ W hT keep hw => ?_
    have im : ImmK h₁ h₂ := fun b o e _ => keep b o e
    have ⟨R₂, S₂⟩ := R₁.grow keep
    refine H _ _ _ _ _ _ _ _ _ hK hC W hT R₂ (F₁.stay S₂) (S₁.trans (S₂.wide fun _ z => z.elim)) (fun b hb' => ?_) fun b o e q no hb' => ?_
    · have z : h₁.get? b = none := hw b hb'
      refine ⟨R₁.none_of z, ?_, fun o => by obtain ⟨ob, e⟩ := F₁.has o; rw [e] at z; cases z⟩
      cases q : hb.get? b with
      | none => rfl
      | some o => have := R₁.base b o q; rw [this] at z; cases z
    · have z : h₁.get? b = none := hw b hb'
      obtain ⟨o', this⟩ := (S₁.keep b o e q no).1.has; rw [this] at z; cases z

/- the iterator moves on: nothing else does -/
theorem ext_step {ws : List Addr} {h h' : Heap} (R : Rep w hb σ h) (F : FrR hb env loc σ h) (hw : ∀ b ∈ ws, σ b = none ∧ hb.get? b = none ∧ ¬ reach env b) (hi : ∀ b ∈ ws, ∃ o, h.get? b = some o ∧ ¬ Imm o ∧ ¬ isD o) (ex : ExtW ws h h') :
    Rep w hb σ h' ∧ FrR hb env loc σ h' ∧ ImmK h h' := by
  have im : ImmK h h' := fun b o e i => ex b o (fun z => by obtain ⟨o', e', ni, _⟩ := hi b z; rw [e] at e'; cases e'; exact ni i) e
  refine ⟨⟨fun b p e => (R.obj b p e).move im fun ob z => ex b ob (fun q => by rw [(hw b q).1] at e; cases e) z, fun b o e => ex b o (fun q => by rw [(hw b q).2.1] at e; cases e) (R.base b o e), R.apart, fr_keep R.fr fun L o s _ e d => ⟨s, o, ex L o (fun q => by obtain ⟨o', e', _, nd⟩ := hi L q; rw [e] at e'; cases e'; exact nd d) e, d⟩⟩, F.move im fun b ob o e => ⟨.of (ex b ob (fun q => (hw b q).2.2 o) e), (F.out o).1⟩, im⟩

/- the turns of a for -/
noncomputable def ForGo (w : World) (hb : Base) (A : Around) (env : Env) (target : Expr) (body orelse : List Stmt) (C : Hp → Prop) (R : Fl → Hp → Loc → Prop) : List V → Hp → Loc → Prop
  | [], σ, loc => Ex w hb A env (execs orelse env) σ loc R
  | v :: vs, σ, loc => As w hb A env target v σ loc fun σ₁ loc₁ => Ex w hb A env (execs body env) σ₁ loc₁ (Turn (fun σ₂ loc₂ => C σ₂ ∧ ForGo w hb A env target body orelse C R vs σ₂ loc₂) R)
noncomputable abbrev ForI (w : World) (hb : Base) (A : Around) (env : Env) (σ : Hp) (target : Expr) (body orelse : List Stmt) (C : Hp → Prop) (R : Fl → Hp → Loc → Prop) (ws : List Addr) (items : List V) (T : Nat → Heap → Prop) (s : Shared) (k : Nat) (s' : Shared) : Prop :=
  ∃ i σ' loc' h' tk', C9 (s' = { s with heap := h', toks := tk' }) (k + i = items.length) (ForGo w hb A env target body orelse C R (items.drop i) σ' loc') (C σ') (T i h') (Rep w hb σ' h') (FrR hb env loc' σ' h') (St (own env) σ σ' s.heap h') (∀ b ∈ ws, σ' b = none)
theorem Ex_for {target iter : Expr} {body orelse : List Stmt} {pos : Pos} {R : Fl → Hp → Loc → Prop} (h : It w hb A env iter σ loc fun C items σ₁ loc₁ => ForGo w hb A env target body orelse C R items σ₁ loc₁)
    (hs : ∀ x, foldedSetIterable iter env x = pure x := by intro _; rfl) : Ex w hb A env (exec (.For target iter body orelse pos) env) σ loc R := fun s P E Rp F H => by
  refine wpAny_For (h s _ _ Rp F fun C items σ₁ loc₁ I ws T h₁ t₁ hG hC W hT R₁ F₁ S₁ hw ho => ?_) hs
  refine codeAny_forLoop_any (ForI w hb A env σ target body orelse C R ws items T s)
    ?_ items.length ⟨0, σ₁, loc₁, h₁, t₁, rfl, by walk_at "om", by simpa using hG, hC, hT, R₁, F₁, S₁, fun b hb' => (hw b hb').1⟩
  rintro k s' ⟨i, σ', loc', h', tk', rfl, hk, hG', hC', hT', R', F', S', hn⟩
  have hw' : ∀ b ∈ ws, σ' b = none ∧ hb.get? b = none ∧ ¬ reach env b := fun b hb' => ⟨hn b hb', (hw b hb').2⟩
  cases hi : items[i]? with
  | none =>
    have hlen : i = items.length := by
      have := List.getElem?_eq_none_iff.mp hi
      walk_at "om"
    subst hlen
    refine W.done σ' _ _ _ hT' R' hC' fun h₂ t₂ ex => ?_
    obtain ⟨R₂, F₂, im⟩ := ext_step R' F' hw' (W.has _ _ hT') ex
    rw [List.drop_length] at hG'
    refine hG' _ _ _ R₂ F₂ fun f g σ₃ loc₃ h₃ t₃ q R₃ F₃ rg S₃ => H _ _ _ _ _ _ q R₃ F₃ rg ⟨S'.imm.trans (im.trans S₃.imm), fun b o e q no => ?_⟩
    have z := S'.keep b o e q no
    refine ⟨z.1.then fun o' e' => (S₃.keep b o' (ex b o' (ho b o e q no) e') z.2 no).1, ?_⟩
    obtain ⟨o', e'⟩ := z.1.has
    exact (S₃.keep b o' (ex b o' (ho b o e q no) e') z.2 no).2
  | some u =>
    refine W.item i u σ' _ _ _ hi hT' R' hC' fun x h₂ t₂ rx hT₂ ex => ?_
    obtain ⟨R₂, F₂, im⟩ := ext_step R' F' hw' (W.has _ _ hT') ex
    refine W.lets (i + 1) _ _ _ _ _ hT₂ ?_
    have hlt := (List.getElem?_eq_some_iff.mp hi).1
    have hd : items.drop i = u :: items.drop (i + 1) := by
      rw [List.drop_eq_getElem_cons hlt]
      congr 1
      exact (List.getElem?_eq_some_iff.mp hi).2
    rw [hd] at hG'
    refine hG' _ _ _ _ rx R₂ F₂ fun σ₃ loc₃ h₃ t₃ q R₃ F₃ S₃ => ?_
    refine q _ _ _ R₃ F₃ fun f g σ₄ loc₄ h₄ t₄ q₄ R₄ F₄ rg S₄ => ?_
    have S34 := S₃.trans S₄
    have St' : St (own env) σ σ₄ s.heap h₄ := ⟨S'.imm.trans (im.trans S34.imm), fun b o e q no => by
      have z := S'.keep b o e q no
      refine ⟨z.1.then fun o' e' => (S34.keep b o' (ex b o' (ho b o e q no) e') z.2 no).1, ?_⟩
      obtain ⟨o', e'⟩ := z.1.has
      exact (S34.keep b o' (ex b o' (ho b o e q no) e') z.2 no).2⟩
    have kw : ∀ b ∈ ws, ∀ o, h₂.get? b = some o → h₄.get? b = some o ∧ σ₄ b = none := fun b hb' o e => by
      obtain ⟨o', e', _, nd⟩ := W.has _ _ hT₂ b hb'
      rw [e] at e'; cases e'
      have z := S34.keep b o e (hn b hb') fun z => (hw b hb').2.2 z.reach
      exact ⟨z.1.exact nd, z.2⟩
    have next : (fun σ₂ loc₂ => C σ₂ ∧ ForGo w hb A env target body orelse C R (items.drop (i + 1)) σ₂ loc₂) σ₄ loc₄ → ∃ m, m < k ∧ ForI w hb A env σ target body orelse C R ws items T s m { s with heap := h₄, toks := t₄ } := fun z =>
      ⟨k - 1, by walk_at "om", i + 1, σ₄, loc₄, h₄, t₄, rfl, by walk_at "om", z.2, z.1, W.frame _ _ _ hT₂ (fun b hb' o e => (kw b hb' o e).1) S34.imm, R₄, F₄, St', fun b hb' => by
        obtain ⟨o, e, _⟩ := W.has _ _ hT₂ b hb'
        exact (kw b hb' o e).2⟩
    cases rg with
    | next => exact next q₄
    | cont => exact next q₄
    | brk => exact H _ _ _ _ _ _ q₄ R₄ F₄ .next St'
    | ret ra => exact H _ _ _ _ _ _ q₄ R₄ F₄ (.ret ra) St'
end
end

section
open PySem PySem.W PyProof.Rows PySem.Calls PySem.Spec

/- the cells that a comprehension takes from its frame -/
noncomputable def clo (scope : Scope) (env : Env) : List (Str × Addr) := (scope.names.filterMap fun p => if p.2 == .free then (env.cells.lookup p.1).map (p.1, ·) else none).reverse
noncomputable def cEnv (scope : Scope) (L : Addr) (env : Env) : Env := compEnvC scope (cellsFrom (L + 1) scope.names (clo scope env)) L env
/- what it knows of the names -/
noncomputable def cloc (scope : Scope) (loc : Loc) : Loc := loc.filter fun p => scope.names.lookup p.1 == some .free

theorem cloc_look {scope : Scope} {x : Str} {v : V} : ∀ {loc : Loc}, (cloc scope loc).lookup x = some v → scope.names.lookup x = some .free ∧ loc.lookup x = some v
  | [], h => by simp [cloc] at h
  | (y, u) :: r, h => by
    unfold cloc at h
    rw [List.filter_cons] at h
    split at h
    · rename_i hy
      rw [List.lookup_cons] at h ⊢
      split at h
      · rename_i hxy
        have : x = y := by simpa using hxy
        subst this
        exact ⟨by simpa using hy, h⟩
      · rename_i hxy
        exact cloc_look h
    · rename_i hy
      have z := cloc_look (loc := r) h
      refine ⟨z.1, ?_⟩
      rw [List.lookup_cons]
      have hxy : (x == y) = false := by
        cases q : x == y with
        | false => rfl
        | true =>
          have : x = y := by simpa using q
          subst this
          exact absurd (by simp [z.1]) hy
      rw [hxy]; exact z.2
theorem clo_mem {scope : Scope} {env : Env} {x : Str} {c : Addr} (h : (x, c) ∈ clo scope env) : env.cells.lookup x = some c ∧ (x, NameKind.free) ∈ scope.names := by
  unfold clo at h
  rw [List.mem_reverse, List.mem_filterMap] at h
  obtain ⟨⟨n, k⟩, hm, hk⟩ := h
  dsimp only at hk
  split at hk
  · rename_i hf
    obtain ⟨d, hd, e⟩ := Option.map_eq_some_iff.mp hk
    cases e
    have : k = .free := by simpa using hf
    subst this
    exact ⟨hd, hm⟩
  · cases hk
theorem cellsFrom_ne : ∀ (names : List (Str × NameKind)) (n : Nat) (acc : List (Str × Addr)), (∀ p ∈ acc, p.2 < n) → acc.Pairwise (fun p q => p.2 ≠ q.2) → (cellsFrom n names acc).Pairwise (fun p q => p.2 ≠ q.2)
  | [], _, _, _, h => h
  | (y, k) :: r, n, acc, hlt, h => by
    unfold cellsFrom
    split
    · refine cellsFrom_ne r _ _ (fun p hp => ?_) (List.Pairwise.cons (fun q hq => ?_) h)
      · rcases List.mem_cons.mp hp with rfl | hp
        · exact Nat.lt_succ_self _
        · exact Nat.lt_succ_of_lt (hlt p hp)
      · exact Nat.ne_of_gt (hlt q hq)
    · exact cellsFrom_ne r _ _ hlt h
theorem pushCells_size : ∀ (names : List (Str × NameKind)) (h : Heap), h.objs.size ≤ (pushCells h names).objs.size
  | [], _ => Nat.le_refl _
  | (_, k) :: r, h => by
    unfold pushCells
    split
    · exact Nat.le_trans (by rw [Heap.size_push]; exact Nat.le_succ _) (pushCells_size r _)
    · exact pushCells_size r h
/- every new cell is there, empty -/
theorem cellsFrom_is : ∀ (names : List (Str × NameKind)) (h : Heap) (acc : List (Str × Addr)) (x : Str) (c : Addr), (x, c) ∈ cellsFrom h.objs.size names acc → (x, c) ∈ acc ∨ ((pushCells h names).IsCell c none ∧ h.objs.size ≤ c)
  | [], h, acc, x, c, hm => .inl hm
  | (y, k) :: r, h, acc, x, c, hm => by
    unfold cellsFrom at hm
    unfold pushCells
    split at hm
    · rename_i hk
      rw [if_pos hk]
      have e : h.objs.size + 1 = (h.push { cls := .type "cell", data := .cell none }).objs.size := by rw [Heap.size_push]
      rw [e] at hm
      rcases cellsFrom_is r _ _ x c hm with hm | hm
      · rcases List.mem_cons.mp hm with hm | hm
        · cases hm
          exact .inr ⟨⟨_, pushCells_keeps _ _ _ _ (Heap.get?_push_size _ rfl), rfl⟩, Nat.le_refl _⟩
        · exact .inl hm
      · refine .inr ⟨hm.1, ?_⟩
        have := hm.2
        rw [Heap.size_push] at this
        walk_at "om"
    · rename_i hk
      rw [if_neg hk]
      exact cellsFrom_is r h acc x c hm

section
variable {w : World} {hb : Base} {A : Around} {env : Env} {σ : Hp} {loc : Loc}

theorem newEnv_comp {scope : Scope} {s : Shared} {P : Env → Shared → Prop} {E : Value → Shared → Prop}
    (h : P { newEnv scope s.heap.objs.size env.globals (cellsFrom (s.heap.objs.size + 1) scope.names (clo scope env)) env.qual none .none (some env) builtinsNs with } { s with heap := pushCells (s.heap.push { cls := .type "dict", data := .dict #[] }) scope.names }) :
    wpAny (model pg w) A (newFunctionEnv scope env.globals (clo scope env) [] env.qual none .none (some env)) P E s := by
  simp only [newFunctionEnv, Option.isSome_some, if_true]
  refine wpAny_bind (wpAny_alloc ?_)
  refine wpAny_bind (wpAny_layCells _ (fun name kind cells => by cases hkc : kind == NameKind.cell <;> simp [hkc]) _ _ _ _ ?_)
  rw [Heap.size_push]
  refine wpAny_bind ?_
  rw [List.forIn_nil]
  exact wpAny_pure (wpAny_pure h)

/- the frame of a comprehension, as it is entered -/
theorem cframe_in {scope : Scope} {h : Heap} (R : Rep w hb σ h) (F : FrR hb env loc σ h) (nd : (scope.names.map (·.1)).Nodup) :
    Rep w hb σ (pushCells (h.push { cls := .type "dict", data := .dict #[] }) scope.names) ∧ FrR hb (cEnv scope h.objs.size env) (cloc scope loc) σ (pushCells (h.push { cls := .type "dict", data := .dict #[] }) scope.names) ∧
      (∀ b o, h.get? b = some o → (pushCells (h.push { cls := .type "dict", data := .dict #[] }) scope.names).get? b = some o) := by
  have keep : ∀ b o, h.get? b = some o → (pushCells (h.push { cls := .type "dict", data := .dict #[] }) scope.names).get? b = some o := fun b o e => pushCells_keeps _ _ b o (Heap.get?_push_of_some _ e)
  have im : ImmK h (pushCells (h.push { cls := .type "dict", data := .dict #[] }) scope.names) := fun b o e _ => keep b o e
  have none_hb : ∀ c, h.objs.size ≤ c → σ c = none ∧ hb.get? c = none := fun c le => by
    have e : h.get? c = none := Heap.get?_none_of_le le
    exact ⟨R.none_of e, by
      cases q : hb.get? c with
      | none => rfl
      | some o => have := R.base _ _ q; rw [e] at this; cases this⟩
  have cases_ : ∀ x c, (cEnv scope h.objs.size env).cells.lookup x = some c → (env.cells.lookup x = some c ∧ (x, NameKind.free) ∈ scope.names) ∨ (h.objs.size < c ∧ (x, NameKind.cell) ∈ scope.names ∧ (pushCells (h.push { cls := .type "dict", data := .dict #[] }) scope.names).IsCell c none) := fun x c hx => by
    have hm : (x, c) ∈ cellsFrom (h.objs.size + 1) scope.names (clo scope env) := mem_of_lookup hx
    have hm' : (x, c) ∈ cellsFrom (h.push { cls := .type "dict", data := .dict #[] }).objs.size scope.names (clo scope env) := by rw [Heap.size_push]; exact hm
    rcases cellsFrom_mem _ _ _ _ _ hm with q | q
    · exact .inl (clo_mem q)
    · rcases cellsFrom_is _ _ _ _ _ hm' with q' | q'
      · exact .inl (clo_mem q')
      · exact .inr ⟨by walk_at "om", q.2, q'.1⟩
  refine ⟨(R.grow keep).1, ⟨⟨fun _ => none, ?_, fun x v hk hy => ?_⟩, fun x c hx => ?_, none_hb _ (Nat.le_refl _), fun x c hx => ?_, fun x y c hx hy => ?_, fun x c hx hk => ?_⟩, keep⟩
  · exact (Heap.Ns.new h (.type "dict")).keeps (pushCells_keeps _ _)
  · exfalso
    obtain ⟨hf, _⟩ := cloc_look hy
    have hk' : List.lookup x (scope.names.map fun (n, k) => if (k == NameKind.free && env.scope.kind == .function && env.kindOf n == some .cell) then (n, NameKind.cell) else (n, k)) = some .local := hk
    have : (x, NameKind.local) ∈ scope.names := by
      have hm := mem_of_lookup hk'
      obtain ⟨⟨n, k⟩, hm, e⟩ := List.mem_map.mp hm
      dsimp only at e
      split at e
      · cases e
      · cases e; exact hm
    exact absurd (names_inj nd this (mem_of_lookup hf)) (by decide)
  · rcases cases_ x c hx with ⟨q, _⟩ | ⟨q, hm, hc⟩
    · obtain ⟨ov, hcell, qc⟩ := F.cells x c q
      refine ⟨ov, hcell.keeps keep, fun v hy => ?_⟩
      obtain ⟨hf, hl⟩ := cloc_look hy
      obtain ⟨a, ha, ra⟩ := qc v hl
      exact ⟨a, ha, ra.mono im⟩
    · refine ⟨none, hc, fun v hy => ?_⟩
      obtain ⟨hf, hl⟩ := cloc_look hy
      exact absurd (names_inj nd hm (mem_of_lookup hf)) (by decide)
  · rcases cases_ x c hx with ⟨q, _⟩ | ⟨q, hm, hc⟩
    · have z := F.cns x c q
      obtain ⟨ob, e⟩ := F.has (b := c) (.inr ⟨x, q⟩)
      exact ⟨z.1, z.2.1, Nat.ne_of_lt (Heap.lt_size e)⟩
    · have z := none_hb c (Nat.le_of_lt q)
      exact ⟨z.1, z.2, Nat.ne_of_gt q⟩
  · have pw : (clo scope env).Pairwise fun p q => p.2 ≠ q.2 := by
      unfold clo
      rw [List.pairwise_reverse, List.pairwise_filterMap]
      have nd' : scope.names.Pairwise fun p q => p.1 ≠ q.1 := by
        have := nd
        unfold List.Nodup at this
        rw [List.pairwise_map] at this
        exact this
      refine nd'.imp fun {p q} hpq b hb' b' hb'' e => hpq ?_
      split at hb'
      · split at hb''
        · obtain ⟨d, hd, e1⟩ := Option.map_eq_some_iff.mp hb'
          obtain ⟨d', hd', e2⟩ := Option.map_eq_some_iff.mp hb''
          subst e1 e2
          dsimp only at e
          subst e
          exact F.cnd _ _ _ hd hd'
        · cases hb''
      · cases hb'
    have lt : ∀ p ∈ clo scope env, p.2 < h.objs.size + 1 := fun p hp => by
      obtain ⟨q, _⟩ := clo_mem (x := p.1) (c := p.2) hp
      obtain ⟨ob, e⟩ := F.has (b := p.2) (.inr ⟨p.1, q⟩)
      exact Nat.lt_succ_of_lt (Heap.lt_size e)
    exact name_of_addr (cellsFrom_ne scope.names (h.objs.size + 1) (clo scope env) lt pw) (mem_of_lookup hx) (mem_of_lookup hy)
  · have hk' : List.lookup x (scope.names.map fun (n, k) => if (k == NameKind.free && env.scope.kind == .function && env.kindOf n == some .cell) then (n, NameKind.cell) else (n, k)) = some .local := hk
    have : (x, NameKind.local) ∈ scope.names := by
      have hm := mem_of_lookup hk'
      obtain ⟨⟨n, k⟩, hm, e⟩ := List.mem_map.mp hm
      dsimp only at e
      split at e
      · cases e
      · cases e; exact hm
    rcases cases_ x c hx with ⟨_, q⟩ | ⟨_, q, _⟩
    · exact absurd (names_inj nd this q) (by decide)
    · exact absurd (names_inj nd this q) (by decide)

/- the tests of a comprehension's clause -/
noncomputable def Tests (w : World) (hb : Base) (A : Around) (env : Env) (ifs : List Expr) (σ : Hp) (loc : Loc) (Q : Bool → Hp → Loc → Prop) : Prop := match ifs with
  | [] => Q true σ loc
  | [c] => EvB w hb A env (isTrue c env (eval c env)) σ loc Q
  | _ => False
theorem tests_run {ifs : List Expr} {s : Shared} {P : Bool → Shared → Prop} {E : Value → Shared → Prop} {Q : Bool → Hp → Loc → Prop} (h : Tests w hb A env ifs σ loc Q) (R : Rep w hb σ s.heap) (F : FrR hb env loc σ s.heap)
    (H : ∀ b σ' loc' h' tk', Q b σ' loc' → Rep w hb σ' h' → FrR hb env loc' σ' h' → St (own env) σ σ' s.heap h' → P b { s with heap := h', toks := tk' }) :
    wpAny (model pg w) A (forIn ifs true fun c r => if r = true then do let ok ← isTrue c env (eval c env); pure (ForInStep.yield ok) else pure (ForInStep.yield r)) P E s := by
  match ifs, h with
  | [], h => rw [List.forIn_nil]; exact wpAny_pure (H _ _ _ s.heap s.toks h R F St.same)
  | [c], h =>
    rw [List.forIn_cons]
    refine wpAny_bind ?_
    rw [if_pos rfl]
    refine wpAny_bind (h s _ _ R F fun b c σ' loc' h' tk' q R' F' rb S => ?_)
    subst rb
    refine wpAny_pure ?_
    show wpAny _ _ (forIn [] _ _) _ _ _
    rw [List.forIn_nil]
    exact wpAny_pure (H _ _ _ _ _ q R' F' S)
/- the turns of a comprehension -/
noncomputable def CompGo (w : World) (hb : Base) (A : Around) (env : Env) (target : Expr) (ifs : List Expr) (elt : Expr) (C : Hp → Prop) (K : List V → Hp → Prop) : List V → List V → Hp → Loc → Prop
  | [], acc, σ, _ => K acc σ
  | v :: vs, acc, σ, loc => As w hb A env target v σ loc fun σ₁ loc₁ => Tests w hb A env ifs σ₁ loc₁ fun b σ₂ loc₂ => match b with
    | true => Ev w hb A env (eval elt env) σ₂ loc₂ fun y σ₃ loc₃ => C σ₃ ∧ CompGo w hb A env target ifs elt C K vs (acc ++ [y]) σ₃ loc₃
    | false => C σ₂ ∧ CompGo w hb A env target ifs elt C K vs acc σ₂ loc₂

noncomputable abbrev CompI (w : World) (hb : Base) (A : Around) (σ : Hp) (cenv : Env) (target elt : Expr) (ifs : List Expr) (D : Addr) (ws : List Addr) (C : Hp → Prop) (K : List V → Hp → Prop) (items : List V) (T : Nat → Heap → Prop) (s : Shared) (k : Nat) (s' : Shared) : Prop :=
  ∃ i acc σ' loc' h' tk' xs n, C14 (s' = { s with heap := h', toks := tk' }) (k + i = items.length) (CompGo w hb A cenv target ifs elt C K (items.drop i) acc σ' loc') (acc.length ≤ i) (C σ') (T i h') (Rep w hb σ' h') (FrR hb cenv loc' σ' h') (h'.get? D = some (listOf xs n)) (VRs h' acc xs.toList) (σ' D = none) (ImmK s.heap h') (∀ b o, s.heap.get? b = some o → σ b = none → ¬ own cenv b → b ∉ ws → b ≠ D → Kp h' b o ∧ σ' b = none) (∀ b ∈ ws, σ' b = none)
theorem compLoop_go {cenv : Env} {target iter elt : Expr} {ifs : List Expr} {scope : Scope} {pos : Pos} {I D : Addr} {ws : List Addr} {C : Hp → Prop} {K : List V → Hp → Prop} {items : List V} {T : Nat → Heap → Prop} {s : Shared} {R : Result → Shared → Prop}
    (W : Wk w hb A I ws C items T) (hT : T 0 s.heap) (Rp : Rep w hb σ s.heap) (F : FrR hb cenv loc σ s.heap) (hC : C σ) (hG : CompGo w hb A cenv target ifs elt C K items [] σ loc) (hsz : items.length ≤ 1000)
    (hw : ∀ b ∈ ws, σ b = none ∧ hb.get? b = none ∧ ¬ reach cenv b) (hD : s.heap.get? D = some (listOf #[] 0)) (hDs : σ D = none ∧ ¬ reach cenv D ∧ D ∉ ws) (hDb : hb.get? D = none)
    (H : ∀ acc σ' loc' h' tk' xs n, K acc σ' → acc.length ≤ items.length → Rep w hb σ' h' → FrR hb cenv loc' σ' h' → h'.get? D = some (listOf xs n) → VRs h' acc xs.toList → σ' D = none → ImmK s.heap h' →
      (∀ b o, s.heap.get? b = some o → σ b = none → ¬ own cenv b → b ∉ ws → b ≠ D → Kp h' b o ∧ σ' b = none) → R (.ok .next) { s with heap := h', toks := tk' }) :
    codeAny (model pg w) A (.compLoop (.ListComp elt [⟨target, iter, ifs, 0⟩] scope pos) 0 (.ref I) (.ref D) cenv) R s := by
  refine codeAny_loop rfl (CompI w hb A σ cenv target elt ifs D ws C K items T s) ?_ items.length
    ⟨0, [], σ, loc, s.heap, s.toks, #[], 0, rfl, by walk_at "om", by simpa using hG, Nat.le_refl _, hC, hT, Rp, F, hD, .nil, hDs.1, ImmK.refl _, fun b o e q _ _ _ => ⟨.of e, q⟩, fun b hb' => (hw b hb').1⟩
  rintro k s' ⟨i, acc, σ', loc', h', tk', xs, n, rfl, hk, hG', hai, hC', hT', R', F', hD', ra, hDn, im', keep', hn⟩
  show wpAny _ A ((compTurn (.ListComp elt [⟨target, iter, ifs, 0⟩] scope pos) 0 (.ref I) (.ref D) cenv).onRaise (fun x => do noteFrame x cenv; theTreesLotGoes x)) _ _ _
  refine wpAny_noted ?_
  rw [compTurn_list]
  refine wpAny_bind (wpAny_standAt (wpAny_bind ?_))
  have hw' : ∀ b ∈ ws, σ' b = none ∧ hb.get? b = none ∧ ¬ reach cenv b := fun b hb' => ⟨hn b hb', (hw b hb').2⟩
  cases hi : items[i]? with
  | none =>
    have hlen : i = items.length := by
      have := List.getElem?_eq_none_iff.mp hi
      walk_at "om"
    subst hlen
    refine W.done σ' _ _ _ hT' R' hC' fun h₂ t₂ ex => wpAny_pure ?_
    obtain ⟨R₂, F₂, im⟩ := ext_step R' F' hw' (W.has _ _ hT') ex
    rw [List.drop_length] at hG'
    exact H acc σ' loc' h₂ t₂ xs n hG' hai R₂ F₂ (ex _ _ hDs.2.2 hD') (ra.mono im) hDn (im'.trans im) fun b o e q no nw nD => ⟨(keep' b o e q no nw nD).1.then fun o' e' => .of (ex b o' nw e'), (keep' b o e q no nw nD).2⟩
  | some u =>
    refine W.item i u σ' _ _ _ hi hT' R' hC' fun x h₂ t₂ rx hT₂ ex => ?_
    obtain ⟨R₂, F₂, im⟩ := ext_step R' F' hw' (W.has _ _ hT') ex
    refine wpAny_bind (W.lets (i + 1) _ _ _ _ _ hT₂ ?_)
    have hlt := (List.getElem?_eq_some_iff.mp hi).1
    have hd : items.drop i = u :: items.drop (i + 1) := by
      rw [List.drop_eq_getElem_cons hlt]
      congr 1
      exact (List.getElem?_eq_some_iff.mp hi).2
    rw [hd] at hG'
    refine wpAny_bind (hG' _ _ _ _ rx R₂ F₂ fun σ₃ loc₃ h₃ t₃ q₃ R₃ F₃ S₃ => ?_)
    refine wpAny_bind (tests_run (s := { s with heap := h₃, toks := t₃ }) q₃ R₃ F₃ fun b σ₄ loc₄ h₄ t₄ q₄ R₄ F₄ S₄ => ?_)
    have S34 := S₃.trans S₄
    have hD₂ : h₂.get? D = some (listOf xs n) := ex _ _ hDs.2.2 hD'
    have no : ¬ own cenv D := fun z => hDs.2.1 z.reach
    have kw : ∀ b ∈ ws, ∀ o, h₂.get? b = some o → h₄.get? b = some o ∧ σ₄ b = none := fun b hb' o e => by
      obtain ⟨o', e', _, nd⟩ := W.has _ _ hT₂ b hb'
      rw [e] at e'; cases e'
      have z := S34.keep b o e (hn b hb') fun z => (hw b hb').2.2 z.reach
      exact ⟨z.1.exact nd, z.2⟩
    have keep₄ : ∀ b o, s.heap.get? b = some o → σ b = none → ¬ own cenv b → b ∉ ws → b ≠ D → Kp h₄ b o ∧ σ₄ b = none := fun b o e q no nw nD => by
      have z := keep' b o e q no nw nD
      refine ⟨z.1.then fun o' e' => (S34.keep b o' (ex b o' nw e') z.2 no).1, ?_⟩
      obtain ⟨o', e'⟩ := z.1.has
      exact (S34.keep b o' (ex b o' nw e') z.2 no).2
    have im₄ : ImmK s.heap h₄ := im'.trans (im.trans S34.imm)
    cases b with
    | false =>
      refine wpAny_pure ⟨rfl, k - 1, by walk_at "om", i + 1, acc, σ₄, loc₄, h₄, t₄, xs, n, rfl, by walk_at "om", q₄.2, by walk_at "om", q₄.1, W.frame _ _ _ hT₂ (fun b hb' o e => (kw b hb' o e).1) S34.imm, R₄, F₄, (S34.keep D _ hD₂ hDn no).1.exact (not_isD_seq rfl), (ra.mono im).mono S34.imm, (S34.keep D _ hD₂ hDn no).2, im₄, keep₄, fun b hb' => ?_⟩
      obtain ⟨o, e, _⟩ := W.has _ _ hT₂ b hb'
      exact (kw b hb' o e).2
    | true =>
      refine wpAny_bind (wpAny_bind (q₄ { s with heap := h₄, toks := t₄ } _ _ R₄ F₄ fun y a σ₅ loc₅ h₅ t₅ q₅ R₅ F₅ ry S₅ => ?_))
      have S35 := S34.trans S₅
      have hD₅' := S35.keep D _ hD₂ hDn no
      have hD₅ : h₅.get? D = some (listOf xs n) ∧ σ₅ D = none := ⟨hD₅'.1.exact (not_isD_seq rfl), hD₅'.2⟩
      have ra₅ : VRs h₅ acc xs.toList := (ra.mono im).mono S35.imm
      refine wpAny_bind (append_at (s := { s with heap := h₅, toks := t₅ }) hD₅.1 (fun h₆ hs eD => ?_) ?_)
      · have im₆ : ImmK h₅ h₆ := fun b ob z i => (hs.2 b (fun y => by subst y; rw [hD₅.1] at z; cases z; exact absurd i (not_imm_list _ _))).trans z
        have R₆ : Rep w hb σ₅ h₆ := ⟨fun b p e => (R₅.obj b p e).move im₆ fun ob z => (hs.2 b fun q => by subst q; rw [hD₅.2] at e; cases e).trans z, fun b o e => (hs.2 b fun q => by
            subst q; rw [hDb] at e; cases e).trans (R₅.base b o e), R₅.apart, fr_keep R₅.fr fun L o s _ e d => ⟨s, o, (hs.2 L fun q => by subst q; rw [hD₅.1] at e; cases e; exact not_isD_seq rfl d).trans e, d⟩⟩
        have F₆ : FrR hb cenv loc₅ σ₅ h₆ := F₅.move im₆ fun b ob o e => ⟨.of ((hs.2 b fun q => by subst q; exact hDs.2.1 o).trans e), (F₅.out o).1⟩
        have kw₆ : ∀ b ∈ ws, ∀ o, h₂.get? b = some o → h₆.get? b = some o ∧ σ₅ b = none := fun b hb' o e => by
          obtain ⟨o', e', _, nd⟩ := W.has _ _ hT₂ b hb'
          rw [e] at e'; cases e'
          have z := S35.keep b o e (hn b hb') fun z => (hw b hb').2.2 z.reach
          exact ⟨(hs.2 b fun q => by subst q; exact hDs.2.2 hb').trans (z.1.exact nd), z.2⟩
        refine wpAny_pure (wpAny_pure ⟨rfl, k - 1, by walk_at "om", i + 1, acc ++ [y], σ₅, loc₅, h₆, t₅, _, _, rfl, by walk_at "om", q₅.2, by simp; walk_at "om", q₅.1, W.frame _ _ _ hT₂ (fun b hb' o e => (kw₆ b hb' o e).1) (S35.imm.trans im₆), R₆, F₆, eD, ?_, hD₅.2, im₄.trans (S₅.imm.trans im₆), fun b o e q no' nw nD => ?_, fun b hb' => ?_⟩)
        · rw [Array.toList_push]
          exact (ra₅.mono im₆).app (.cons (ry.mono im₆) .nil)
        · have z := keep₄ b o e q no' nw nD
          refine ⟨z.1.then fun o' e' => (S₅.keep b o' e' z.2 no').1.then fun o'' e'' => .of ((hs.2 b nD).trans e''), ?_⟩
          obtain ⟨o', e'⟩ := z.1.has
          exact (S₅.keep b o' e' z.2 no').2
        · obtain ⟨o, e, _⟩ := W.has _ _ hT₂ b hb'
          exact (kw₆ b hb' o e).2
      · have hl : acc.length = xs.size := by rw [ra₅.length, Array.length_toList]
        show xs.size ≤ sizeLine
        rw [← hl, sizeLine]
        walk_at "om"

/- a comprehension's whole run, up to its list -/
theorem comp_core {target iter elt : Expr} {ifs : List Expr} {scope : Scope} {pos : Pos} {Z : Value → Addr → Result → Shared → Prop} {s : Shared} {E : Value → Shared → Prop} {K : Loc → List V → Hp → Prop}
    (h : It w hb A env iter σ loc fun C items σ₁ loc₁ => items.length ≤ 1000 ∧ ∀ L, CompGo w hb A (cEnv scope L env) target ifs elt C (K loc₁) items [] σ₁ (cloc scope loc₁))
    (nd : (scope.names.map (·.1)).Nodup) (R : Rep w hb σ s.heap) (F : FrR hb env loc σ s.heap)
    (H : ∀ acc loc₁ σ' D C m h' tk', K loc₁ acc σ' → acc.length ≤ 1000 → σ' D = none → hb.get? D = none → Rep w hb (upd σ' D (.list acc)) h' → FrR hb env loc₁ (upd σ' D (.list acc)) h' → St (own env) σ (upd σ' D (.list acc)) s.heap h' →
      h'.Ns C m → upd σ' D (.list acc) C = none → hb.get? C = none → ¬ reach env C → (∀ b o, s.heap.get? b = some o → σ b = none → ¬ own env b → b ≠ C) → (∀ e ∈ hb.fr, e.frame ≠ some C) → Z (.ref D) C (.ok .next) { s with heap := h', toks := tk' }) :
    wpAny (model pg w) A (eval iter env) (fun x s₁ => wpAny (model pg w) A (pyIter x) (fun it s₂ => wpAny (model pg w) A (newList []) (fun acc s₃ =>
      wpAny (model pg w) A (newFunctionEnv scope env.globals (clo scope env) [] env.qual none .none (some env)) (fun cenv s₄ =>
        codeAny (model pg w) A (.compStart (.ListComp elt [⟨target, iter, ifs, 0⟩] scope pos) 0 it acc { cenv with scope := relabel scope env }) (Z acc cenv.locals) s₄) E s₃) E s₂) E s₁) E s := by
  refine h s _ _ R F fun C items σ₁ loc₁ I ws T h₁ t₁ hK hC W hT R₁ F₁ S₁ hw ho => ?_
  obtain ⟨hsz, hK⟩ := hK
  refine wpAny_newObj_type (newEnv_comp ?_)
  have ⟨R₂, S₂⟩ := R₁.push (ob := listOf #[] 0)
  have F₂ := F₁.stay S₂
  obtain ⟨R₃, F₃, keep₃⟩ := cframe_in (scope := scope) R₂ F₂ nd
  have hDsz : h₁.objs.size < (h₁.push (listOf #[] 0)).objs.size := by rw [Heap.size_push]; exact Nat.lt_succ_self _
  have nD := get?_size h₁
  have none_of : ∀ c, h₁.get? c = none → σ₁ c = none ∧ hb.get? c = none ∧ ¬ reach env c := fun c e => by
    refine ⟨R₁.none_of e, ?_, fun o => by obtain ⟨ob, e'⟩ := F₁.has o; rw [e] at e'; cases e'⟩
    cases q : hb.get? c with
    | none => rfl
    | some o => have := R₁.base _ _ q; rw [e] at this; cases this
  have nC : h₁.get? (h₁.push (listOf #[] 0)).objs.size = none := Heap.get?_none_of_le (Nat.le_of_lt hDsz)
  have hwlt : ∀ b ∈ ws, b < h₁.objs.size := fun b hb' => by obtain ⟨o, e, _⟩ := W.has _ _ hT b hb'; exact Heap.lt_size e
  -- what the comprehension's frame reaches: its own new places, or the frame's cells
  have creach : ∀ b, reach (cEnv scope (h₁.push (listOf #[] 0)).objs.size env) b → (h₁.push (listOf #[] 0)).objs.size ≤ b ∨ reach env b := fun b o => by
    rcases o with rfl | ⟨x, hx⟩
    · exact .inl (Nat.le_refl _)
    · rcases cellsFrom_mem _ _ _ _ _ (mem_of_lookup hx) with q | q
      · exact .inr (.inr ⟨x, (clo_mem q).1⟩)
      · exact .inl (by walk_at "om")
  have loop : ∀ s₅ : Shared, s₅ = { s with heap := pushCells ((h₁.push (listOf #[] 0)).push { cls := .type "dict", data := .dict #[] }) scope.names, toks := t₁ } →
      codeAny (model pg w) A (.compLoop (.ListComp elt [⟨target, iter, ifs, 0⟩] scope pos) 0 (.ref I) (.ref h₁.objs.size) (cEnv scope (h₁.push (listOf #[] 0)).objs.size env)) (Z (.ref h₁.objs.size) (h₁.push (listOf #[] 0)).objs.size) s₅ := by
    rintro s₅ rfl
    refine compLoop_go W (W.frame _ _ _ hT (fun b _ o e => keep₃ b o (Heap.get?_push_of_some _ e)) fun b o e _ => keep₃ b o (Heap.get?_push_of_some _ e)) R₃ F₃ hC (hK _) hsz (fun b hb' => ⟨(hw b hb').1, (hw b hb').2.1, fun o => ?_⟩) (keep₃ _ _ (Heap.get?_push_size _ rfl)) ⟨(none_of _ nD).1, fun o => ?_, fun hm => Nat.lt_irrefl _ (hwlt _ hm)⟩ (none_of _ nD).2.1 ?_
    · rcases creach b o with q | q
      · exact absurd (Nat.lt_trans hDsz (Nat.lt_of_le_of_lt q (hwlt b hb'))) (Nat.lt_irrefl _)
      · exact (hw b hb').2.2 q
    · rcases creach _ o with q | q
      · walk_at "om"
      · exact (none_of _ nD).2.2 q
    intro acc σ' loc' h' tk' xs n hk hal R' F' eD ra sD im keep
    have keep' : ∀ b o, h₁.get? b = some o → σ₁ b = none → b ∉ ws → Kp h' b o ∧ σ' b = none := fun b o e q nw => by
      have lt := Heap.lt_size e
      refine keep b o (keep₃ b o (Heap.get?_push_of_some _ e)) q (fun z => ?_) nw (Nat.ne_of_lt lt)
      rcases z with rfl | ⟨z, _⟩
      · exact absurd (Nat.lt_trans hDsz lt) (Nat.lt_irrefl _)
      · exact absurd (Nat.lt_trans hDsz (Nat.lt_trans z lt)) (Nat.lt_irrefl _)
    obtain ⟨m, hm, _⟩ := F'.ns
    have R₆ : Rep w hb (upd σ' h₁.objs.size (.list acc)) h' := by
      refine ⟨fun b p e => ?_, R'.base, fun b o e => ?_, fr_keep R'.fr fun L o s _ e d => ⟨?_, o, e, d⟩⟩
      · by_cases z : b = h₁.objs.size
        · subst z; rw [upd_self] at e; cases e; exact ⟨xs, n, eD, ra⟩
        · rw [upd_ne _ _ z] at e; exact R'.obj b p e
      · have : b ≠ h₁.objs.size := fun z => by have := R₁.base b o e; rw [z, nD] at this; cases this
        rw [upd_ne _ _ this]; exact R'.apart b o e
      · have : L ≠ h₁.objs.size := fun z => by subst z; rw [eD] at e; cases e; exact not_isD_seq rfl d
        rw [upd_ne _ _ this]; exact s
    have im1 : ImmK h₁ h' := fun b o e i => im b o (keep₃ b o (Heap.get?_push_of_some _ e)) i
    have F₆ : FrR hb env loc₁ (upd σ' h₁.objs.size (.list acc)) h' := F₁.move im1 fun b ob o e => by
      have z := keep' b ob e (F₁.out o).1 fun hm => (hw b hm).2.2 o
      have : b ≠ h₁.objs.size := fun q => by rw [q, nD] at e; cases e
      exact ⟨z.1, by rw [upd_ne _ _ this]; exact z.2⟩
    have S₆ : St (own env) σ (upd σ' h₁.objs.size (.list acc)) s.heap h' := ⟨S₁.imm.trans im1, fun b o e q no => by
      have z := S₁.keep b o e q no
      obtain ⟨o1, e1⟩ := z.1.has
      have z' := keep' b o1 e1 z.2 (ho b o e q no)
      have : b ≠ h₁.objs.size := fun q => by rw [q, nD] at e1; cases e1
      exact ⟨z.1.then fun o' e' => (keep' b o' e' z.2 (ho b o e q no)).1, by rw [upd_ne _ _ this]; exact z'.2⟩⟩
    have sC : σ' (h₁.push (listOf #[] 0)).objs.size = none := F'.lns.1
    refine H acc loc₁ σ' _ _ m h' tk' hk (Nat.le_trans hal hsz) sD (none_of _ nD).2.1 R₆ F₆ S₆ hm ?_ (none_of _ nC).2.1 (none_of _ nC).2.2 (fun b o e q no z => ?_) fun e he z => ?_
    · rw [upd_ne _ _ (Nat.ne_of_gt hDsz)]; exact sC
    · obtain ⟨o', this⟩ := (S₁.keep b o e q no).1.has
      rw [z, nC] at this; cases this
    · obtain ⟨_, L, hf, _, _, o, ho, _⟩ := R₁.fr e he
      rw [z] at hf; cases hf
      rw [nC] at ho; cases ho
  exact codeAny_compStart_list (loop _ rfl) (W.self 0 _ _ _ (W.frame _ _ _ hT (fun b _ o e => keep₃ b o (Heap.get?_push_of_some _ e)) fun b o e _ => keep₃ b o (Heap.get?_push_of_some _ e)) (loop _ rfl))

theorem same_step {C : Addr} {m : Str → Option Value} {h h' : Heap} (R : Rep w hb σ h) (F : FrR hb env loc σ h) (hm : h.Ns C m) (h1 : σ C = none) (h2 : hb.get? C = none) (h3 : ¬ reach env C) (h4 : ∀ e ∈ hb.fr, e.frame ≠ some C) (hs : Heap.SameBut C h h') :
    Rep w hb σ h' ∧ FrR hb env loc σ h' ∧ ImmK h h' := by
  obtain ⟨o, es, ep, ho, hd, _⟩ := hm
  have im : ImmK h h' := fun b ob e i => (hs.2 b fun z => by subst z; rw [ho] at e; cases e; exact not_imm_dict hd i).trans e
  refine ⟨⟨fun b p e => (R.obj b p e).move im fun ob z => (hs.2 b fun q => by subst q; rw [h1] at e; cases e).trans z, fun b o e => (hs.2 b fun q => by subst q; rw [h2] at e; cases e).trans (R.base b o e), R.apart, fun e he => ?_⟩, F.move im fun b ob o e => ⟨.of ((hs.2 b fun q => by subst q; exact h3 o).trans e), (F.out o).1⟩, im⟩
  obtain ⟨hk, L, hf, hs', hn, o', ho', hd'⟩ := R.fr e he
  exact ⟨hk, L, hf, hs', hn, o', (hs.2 L fun q => h4 e he (by rw [hf, q])).trans ho', hd'⟩

theorem Ev_ListComp {target iter elt : Expr} {ifs : List Expr} {scope : Scope} {pos : Pos} {Q : V → Hp → Loc → Prop}
    (h : It w hb A env iter σ loc fun C items σ₁ loc₁ => items.length ≤ 1000 ∧ ∀ L, CompGo w hb A (cEnv scope L env) target ifs elt C (fun acc σ₂ => ∀ D, σ₂ D = none → hb.get? D = none → acc.length ≤ 1000 → Q (.ref D) (upd σ₂ D (.list acc)) loc₁) items [] σ₁ (cloc scope loc₁))
    (nd : (scope.names.map (·.1)).Nodup) (hclos : closureFor scope env = pure (clo scope env)) (hkind : scope.kind = .function)
    (hnames : ∀ x ∈ scope.names, x.2 = .local → scope.names.lookup x.1 = some .local) (hs : ∀ x, foldedSetIterable iter env x = pure x := by intro _; rfl) :
    Ev w hb A env (eval (.ListComp elt [⟨target, iter, ifs, 0⟩] scope pos) env) σ loc Q := fun s P E R F H => by
  rw [eval_ListComp]
  refine wpAny_comprehension_free (use := none) rfl hs hclos hkind hnames (comp_core (K := fun loc₁ acc σ₂ => ∀ D, σ₂ D = none → hb.get? D = none → acc.length ≤ 1000 → Q (.ref D) (upd σ₂ D (.list acc)) loc₁) (Z := fun acc C => compPost (model pg w) A E none P acc C) h nd R F ?_)
  intro acc loc₁ σ' D C m h' tk' hk hal sD bD R' F' S' hm c1 c2 c3 c4 c5
  refine ⟨m, hm, fun h'' hs'' => ?_⟩
  obtain ⟨R₂, F₂, im⟩ := same_step R' F' hm c1 c2 c3 c5 hs''
  exact H _ _ _ _ h'' tk' (hk D sD bD hal) R₂ F₂ (.ref D) ⟨S'.imm.trans im, fun b o e q no => ⟨(S'.keep b o e q no).1.then fun o' e' => .of ((hs''.2 b (c4 b o e q no)).trans e'), (S'.keep b o e q no).2⟩⟩
/- an assignment that takes the list before the comprehension's names go -/
theorem Ex_assign_comp {target iter elt : Expr} {ifs : List Expr} {scope : Scope} {pos spos py : Pos} {y : Str} {R : Fl → Hp → Loc → Prop}
    (h : It w hb A env iter σ loc fun C items σ₁ loc₁ => items.length ≤ 1000 ∧ ∀ L, CompGo w hb A (cEnv scope L env) target ifs elt C (fun acc σ₂ => ∀ D, σ₂ D = none → hb.get? D = none → acc.length ≤ 1000 → As w hb A env (.Name y py) (.ref D) (upd σ₂ D (.list acc)) loc₁ fun σ₃ loc₃ => R .next σ₃ loc₃) items [] σ₁ (cloc scope loc₁))
    (hsw : swapsWith (.ListComp elt [⟨target, iter, ifs, 0⟩] scope pos) (some (.Name y py)) spos.line env = pure true)
    (nd : (scope.names.map (·.1)).Nodup) (hclos : closureFor scope env = pure (clo scope env)) (hkind : scope.kind = .function)
    (hnames : ∀ x ∈ scope.names, x.2 = .local → scope.names.lookup x.1 = some .local) (hs : ∀ x, foldedSetIterable iter env x = pure x := by intro _; rfl) :
    Ex w hb A env (exec (.Assign [.Name y py] (.ListComp elt [⟨target, iter, ifs, 0⟩] scope pos) spos) env) σ loc R := fun s P E Rp F H => by
  rw [exec_Assign_Name_used _ _ _ _ hsw]
  refine wpAny_bind (wpAny_standAt (wpAny_bind ?_))
  show wpAny _ A (do let _ ← comprehension (.ListComp elt [⟨target, iter, ifs, 0⟩] scope pos) scope env _ (newList []) false (eval iter env) (some (assign (.Name y py) env))) _ _ s
  refine wpAny_bind (wpAny_mono (wpAny_comprehension_free (use := some (assign (.Name y py) env)) (Q := fun _ s' => P .next s') rfl hs hclos hkind hnames
    (comp_core (K := fun loc₁ acc σ₂ => ∀ D, σ₂ D = none → hb.get? D = none → acc.length ≤ 1000 → As w hb A env (.Name y py) (.ref D) (upd σ₂ D (.list acc)) loc₁ fun σ₃ loc₃ => R .next σ₃ loc₃) (Z := fun acc C => compPost (model pg w) A E (some (assign (.Name y py) env)) (fun _ s' => P .next s') acc C) h nd Rp F ?_)) (fun _ s' hq => wpAny_pure (wpAny_pure hq)) fun _ _ e => e)
  intro acc loc₁ σ' D C m h' tk' hk hal sD bD R' F' S' hm c1 c2 c3 c4 c5
  show wpAny _ A (assign (.Name y py) env (.ref D)) _ _ _
  refine hk D sD bD hal _ _ _ _ (.ref D) R' F' fun σ₃ loc₃ h₃ t₃ q R₃ F₃ S₃ => ?_
  obtain ⟨oC, es, ep, hoC, hdC⟩ := hm
  have kC := S₃.keep C _ hoC c1 fun z => c3 z.reach
  obtain ⟨oC', eC', sC'⟩ := kC.1
  have hm₃ : h₃.Ns C m := ⟨oC', es, ep, eC', sC'.data.trans hdC.1, hdC.2⟩
  refine ⟨m, hm₃, fun h'' hs'' => ?_⟩
  obtain ⟨R₂, F₂, im⟩ := same_step R₃ F₃ hm₃ kC.2 c2 c3 c5 hs''
  have S4 := S'.trans S₃
  exact H _ _ _ _ h'' t₃ q R₂ F₂ .next ⟨S4.imm.trans im, fun b o e q no => ⟨(S4.keep b o e q no).1.then fun o' e' => .of ((hs''.2 b (c4 b o e q no)).trans e'), (S4.keep b o e q no).2⟩⟩
end
end

section
open PySem PySem.W PyProof.Rows PySem.Calls PySem.Spec
open PySem.AutoSeq1 (wpAny_loadPart')

theorem sub_ri_reversed : isSubtype (.type "range_iterator") (.type "reversed") = pure false := by rw [isSubtype_type]; kernel_rfl
noncomputable abbrev revIt : Obj := { cls := .type "range_iterator", data := .fields #[rawInt 1, rawInt 2, rawInt (-1)] }
section
variable {prog : Program} {w : World} {A : Around} {E : Value → Shared → Prop} {s : Shared}
theorem call_range_reversed {r : Addr} {t u v : Tok} {Q : Value → Shared → Prop} (hr : IsRange s.heap r 0 2 1 t u v)
    (h : Q (.ref s.heap.objs.size) { s with heap := s.heap.push revIt }) : wpAny (model prog w) A (call (.builtin "range.__reversed__") [.ref r]) Q E s := by
  refine wpAny_call_entry F.slot_range_reversed ⟨_, hr, rfl⟩ F.entry_range_reversed ?_ (F.args_range_reversed_1 _)
  unfold Builtin.«range.__reversed__»
  refine wpAny_bind (wpAny_of_eq (a := Value.ref r) rfl ?_)
  unfold Builtin.Range.rangeFields
  refine wpAny_bind ?_
  refine wpAny_bind (wpAny_field hr rfl (x := .int 0 t) rfl ?_)
  refine wpAny_bind (m := asInt? (.int 0 t)) (wpAny_of_eq (a := some 0) rfl ?_)
  refine wpAny_bind (wpAny_field hr rfl (x := .int 2 u) rfl ?_)
  refine wpAny_bind (m := asInt? (.int 2 u)) (wpAny_of_eq (a := some 2) rfl ?_)
  refine wpAny_bind (wpAny_field hr rfl (x := .int 1 v) rfl ?_)
  refine wpAny_bind (m := asInt? (.int 1 v)) (wpAny_of_eq (a := some 1) rfl ?_)
  refine wpAny_pure ?_
  show wpAny _ _ (newFields "range_iterator" [rawInt 1, rawInt 2, rawInt (-1)] >>= fun x => ret x) _ _ _
  exact wpAny_bind (wpAny_newObj_type (wpAny_pure ⟨_, rfl, h⟩))
theorem code_reversed_rng {r : Addr} {t u v : Tok} {Q₁ : Value → Shared → Prop} (hr : IsRange s.heap r 0 2 1 t u v)
    (h : Q₁ (.ref s.heap.objs.size) { s with heap := s.heap.push revIt }) :
    codeAny (model prog w) A (.call (.builtin "reversed.__new__") ⟨[.type "reversed", .ref r], []⟩) (wants Q₁ E) s := by
  have hT : s.TypeIs (.ref r) "range" := ⟨_, hr, rfl⟩
  refine codeAny_of_tree ?_
  show wpAny _ A.in1 (do checkBuiltinCall "reversed.__new__" ⟨[.type "reversed", .ref r], []⟩; again (.builtin "reversed.__new__" ⟨[.type "reversed", .ref r], []⟩)) _ _ s
  refine wpAny_bind (wpAny_of_eq (F.newCall_reversed_1 _) (wpAny_pure ⟨plainId_quiet F.plain_reversed_new _, codeAny_builtin F.entry_reversed_new ?_⟩))
  rw [Around.under_plainId F.plain_reversed_new _]
  unfold Builtin.«reversed.__new__»
  refine wpAny_bind (wpAny_of_eq (newClass_reversed _) ?_)
  try dsimp only
  refine wpAny_bind (wpAny_of_eq (a := ()) (by first | rfl | kernel_rfl) ?_)
  refine wpAny_bind (wpAny_of_eq (a := ()) (by first | rfl | kernel_rfl) ?_)
  try dsimp only
  refine wpAny_bind (wpAny_specialOf hT F.slot_range_reversed.lookup ?_)
  try dsimp only
  refine wpAny_bind (wpAny_of_eq (F.slot_range_reversed.bind _) ?_)
  try dsimp only
  first
  | rw [if_neg (show ¬ ((Value.builtin "range.__reversed__" == Value.none) = true) from Bool.false_ne_true)]
  | (show wpAny _ _ (if (Value.builtin "range.__reversed__" == Value.none) = true then _ else _) _ _ _; rw [if_neg (show ¬ ((Value.builtin "range.__reversed__" == Value.none) = true) from Bool.false_ne_true)])
  refine wpAny_bind (wpAny_rule ?_)
  refine wpAny_bind (m := runValue (.call (.builtin "range.__reversed__") ⟨[.ref r], []⟩)) (show wpAny _ _ (call (.builtin "range.__reversed__") [.ref r]) _ _ _ from call_range_reversed hr ?_)
  first
  | exact wpAny_pure h
  | exact wpAny_bind (wpAny_pure (wpAny_pure h))
theorem call_reversed_rng {r : Addr} {t u v : Tok} {Q : Value → Shared → Prop} (hr : IsRange s.heap r 0 2 1 t u v)
    (h : Q (.ref s.heap.objs.size) { s with heap := s.heap.push revIt }) : wpAny (model prog w) A (call (.type "reversed") [.ref r]) Q E s := by
  refine callType_other (U := "range_iterator") (Q₁ := fun obj s₁ => obj = .ref s.heap.objs.size ∧ s₁ = { s with heap := s.heap.push revIt }) (by decide +kernel) F.create_reversed ⟨_, _, F.mro_reversed⟩ F.made_reversed sub_ri_reversed (F.typeCall_reversed_1 _) (code_reversed_rng hr ⟨rfl, rfl⟩) ?_
  rintro obj s₁ ⟨rfl, rfl⟩
  exact ⟨⟨_, Heap.get?_push_size _ rfl, rfl⟩, h⟩
end

section
variable {w : World} {hb : Base} {A : Around} {env : Env} {σ : Hp} {loc : Loc}
/- reversed(range(..)) gone through: two numbers -/
theorem It_reversed (B : Bs w hb.h) {n : Nat} (rm : Rm hb n A) {e : Expr} {pos p1 : Pos} {K : (Hp → Prop) → List V → Hp → Loc → Prop} (g : BN w (Str.ofString "reversed") (.type "reversed"))
    (h : Ev w hb A env (eval e env) σ loc fun v σ₁ loc₁ => v = .rng 2 ∧ K (fun _ => True) [.int 1, .int 0] σ₁ loc₁)
    (hx : env.kindOf (Str.ofString "reversed") = some .globalImplicit) (hg : env.globals = mainGlobals := by rfl) (hbn : env.builtins = builtinsNs := by rfl) (hk : env.scope.kind = .function := by rfl)
    (he : eval (.Call (.Name (Str.ofString "reversed") p1) [e] [] pos) env = (do callWith pos (← eval (.Name (Str.ofString "reversed") p1) env) [] (backTo pos (starEach [e] env)) (backToKw pos (keywordEach [] env))) := by rfl)
    (hst : starEach [e] env = (false, eval e env) :: starEach [] env := by rfl) : It w hb A env (.Call (.Name (Str.ofString "reversed") p1) [e] [] pos) σ loc K := fun s P E R F H => by
  obtain ⟨mg, mb, g1, g2, g3, g4⟩ := R.boot B g
  refine Call_ (Name_function_global hk hx (loadGlobal_builtin (by rw [hg]; exact g1) g2 (by rw [hbn]; exact g3) g4 (callWith_type1 (wpAny_items_cons (h s _ _ R F fun v a σ₁ loc₁ h₁ t₁ q R₁ F₁ ra S₁ => ?_) hst) hst))) he
  obtain ⟨rfl, hK⟩ := q
  refine wpAny_items_nil ?_
  cases ra with
  | rng er =>
    refine call_reversed_rng er ?_
    have ⟨R₂, S₂⟩ := R₁.push (ob := revIt)
    have F₂ := F₁.stay S₂
    have hit : IsRangeIter (h₁.push revIt) h₁.objs.size 1 2 (-1) := Heap.get?_push_size _ rfl
    have W := wk_range (w := w) (hb := hb) (I := h₁.objs.size) (m := 2) rm 1 (-1)
    have ei : (List.range 2).map (fun i => V.int (1 + (i : Nat) * (-1))) = [.int 1, .int 0] := rfl
    rw [ei] at W
    refine W.self 0 _ _ _ hit ?_
    have z := get?_size h₁
    refine H _ _ _ _ _ _ _ _ _ hK trivial W hit R₂ F₂ (S₁.trans (S₂.wide fun _ z => z.elim)) (fun b hb' => ?_) fun b o e q no hb' => ?_
    · simp at hb'; subst hb'
      refine ⟨R₁.none_of z, ?_, fun o => by obtain ⟨ob, e⟩ := F₁.has o; rw [z] at e; cases e⟩
      cases q : hb.get? h₁.objs.size with
      | none => rfl
      | some o => have := R₁.base _ o q; rw [this] at z; cases z
    · simp at hb'; subst hb'
      obtain ⟨o', this⟩ := (S₁.keep _ o e q no).1.has; rw [this] at z; cases z
end
end

section
open PySem PySem.W PyProof.Rows PySem.Calls PySem.Spec

theorem upd_upd (σ : Hp) (a : Addr) (o o' : O) : upd (upd σ a o) a o' = upd σ a o' := by
  funext b; unfold upd; split <;> rfl

section
variable {α : Type} (lt : α → α → Bool)
noncomputable def sdF (new : α) (start : Nat) : Nat → Nat → List α → List α
  | 0, pos, l => l.set pos new
  | f + 1, pos, l => if start < pos then (match l[(pos - 1) / 2]? with
      | some p => if lt new p then sdF new start f ((pos - 1) / 2) (l.set pos p) else l.set pos new
      | none => l) else l.set pos new
end

end
local macro_rules | `(tactic| walk_at "lk") => `(tactic| first | with_reducible assumption | rfl | exact setL_self _ _ _ | (refine (setL_ne _ ?_ _).trans ?_; decide; walk_at "lk"))
section
open PySem PySem.W PyProof.Rows PySem.Calls PySem.Spec
theorem sdF_len {α : Type} (lt : α → α → Bool) (new : α) (start : Nat) : ∀ (f pos : Nat) (l : List α), (sdF lt new start f pos l).length = l.length
  | 0, pos, l => by simp [sdF]
  | f + 1, pos, l => by
    unfold sdF
    split
    · split
      · split
        · rw [sdF_len lt new start f, List.length_set]
        · simp
      · rfl
    · simp
theorem sdF_fuel {α : Type} (lt : α → α → Bool) (new : α) (start : Nat) : ∀ (f g pos : Nat) (l : List α), pos ≤ f → pos ≤ g → sdF lt new start f pos l = sdF lt new start g pos l
  | 0, 0, _, _, _, _ => rfl
  | 0, g + 1, pos, l, h, _ => by
    obtain rfl : pos = 0 := by walk_at "om"
    simp [sdF]
  | f + 1, 0, pos, l, _, h => by
    obtain rfl : pos = 0 := by walk_at "om"
    simp [sdF]
  | f + 1, g + 1, pos, l, h1, h2 => by
    unfold sdF
    split
    · split
      · split
        · exact sdF_fuel lt new start f g _ _ (by walk_at "om") (by walk_at "om")
        · rfl
      · rfl
    · rfl

section
variable {w : World} {hb : Base} {A : Around} {σ : Hp}
noncomputable abbrev SdR (σ : Hp) (l : Addr) (ks : List (Str × Int)) (start pos : Nat) (x : Str × Int) (fl : Fl) (σ' : Hp) (loc' : Loc) : Prop := ∃ (n : Nat) (ks' : List (Str × Int)), C8 (fl = Fl.next) (σ' = upd σ l (.list (ks'.map keyV))) (ks'.set n x = sdF keyLt x start pos pos ks) (n < ks'.length) (ks'.length = ks.length) (loc'.lookup (S "heap") = some (.ref l)) (loc'.lookup (S "pos") = some (.int n)) (loc'.lookup (S "newitem") = some (keyV x))
noncomputable abbrev SdW (σ : Hp) (l : Addr) (ks : List (Str × Int)) (start pos : Nat) (x : Str × Int) (n : Nat) (σ' : Hp) (loc' : Loc) : Prop := ∃ ks', C8 (σ' = upd σ l (.list (ks'.map keyV))) (ks'.length = ks.length) (n < ks.length) (sdF keyLt x start n n ks' = sdF keyLt x start pos pos ks) (loc'.lookup (S "heap") = some (.ref l)) (loc'.lookup (S "startpos") = some (.int start)) (loc'.lookup (S "pos") = some (.int n)) (loc'.lookup (S "newitem") = some (keyV x))
theorem sd_call (B : Bs w hb.h) {n : Nat} (rm : Rm hb (n + 1) A) {l : Addr} {ks : List (Str × Int)} {start pos : Nat} {x : Str × Int} {Q : V → Hp → Prop} (e : σ l = some (.list (ks.map keyV))) (hx : ks[pos]? = some x) (hz : ks.length < 1000)
    (h : Q .none (upd σ l (.list ((sdF keyLt x start pos pos ks).map keyV)))) :
    OpN w hb A [.ref l, .int start, .int pos] (fun as => call (.ref 49) as) σ Q := by
  have hpos : pos < ks.length := (List.getElem?_eq_some_iff.mp hx).1
  refine call_fn B (n := n) (names := [Str.ofString "heap", Str.ofString "startpos", Str.ofString "pos"]) rm rfl rfl rfl rfl rfl ?_ rfl rfl (by decide) (by decide) ?_
  · exact of_len3 fun _ _ _ => rfl
  intro hb L A' hh hfr B rm'
  refine Ex_cons (Ex_assign (Ev_Sub (Ev_local rfl rfl (Ev_local rfl rfl (Sub_at e (x := keyV x) (by simp [hx]) (by walk_at "om") (As_local rfl ?_))))))
  refine Ex_cons (Tr.mono (Ex_while (R := SdR σ l ks start pos x)
    (SdW σ l ks start pos x) ?_ pos ?_) ?_)
  rotate_left 2
  · rintro fl σ' loc' ⟨n, ks', rfl, rfl, hf, hn, hl, l1, l3, l4⟩
    refine Ex_cons (Ex_assign (Ev_local rfl l4 (As_Sub (Ev_local rfl l1 (Ev_local rfl l3 (OpS_at (upd_self _ _ _) (by simpa using hn) (by walk_at "om") ?_))))))
    rw [upd_upd, ← List.map_set, hf]
    exact Ex_nil h
  · rintro n σ' loc' ⟨ks', rfl, hl, hn, hf, l1, l2, l3, l4⟩
    refine EvB_Compare1 (Ev_local rfl l3 (Ev_local rfl l2 (Op_gt ⟨_, rfl, ?_⟩)))
    by_cases hgt : start < n
    · have hd : decide ((n : Int) > (start : Int)) = true := by simpa using hgt
      rw [hd]
      obtain ⟨p, hp⟩ : ∃ p, ks'[(n - 1) / 2]? = some p := ⟨_, List.getElem?_eq_getElem (by walk_at "om")⟩
      have hpp : ((n : Int) - 1).fdiv (2 ^ (1 : Int).toNat) = ((n - 1) / 2 : Nat) := by
        have : (2 : Int) ^ (1 : Int).toNat = 2 := rfl
        rw [this, Int.fdiv_eq_ediv_of_nonneg _ (by walk_at "om")]
        walk_at "om"
      have hs : sdF keyLt x start n n ks' = if keyLt x p then sdF keyLt x start ((n - 1) / 2) ((n - 1) / 2) (ks'.set n p) else ks'.set n x := by
        obtain ⟨m, rfl⟩ : ∃ m, n = m + 1 := ⟨n - 1, by walk_at "om"⟩
        rw [sdF, if_pos hgt, hp]
        simp only
        rw [sdF_fuel keyLt x start m ((m + 1 - 1) / 2) _ _ (by walk_at "om") (by walk_at "om")]
      refine Ex_cons (Ex_assign (Ev_BinOp (Ev_BinOp (Ev_local rfl l3 (Ev_int (Op_sub (Ev_int (Op_shr (by walk_at "om") (As_local rfl ?_)))))))))
      rw [hpp]
      have hpn : (n - 1) / 2 < n := by walk_at "om"
      generalize (n - 1) / 2 = pp at hp hs hpn ⊢
      have hpl : pp < ks.length := by rw [← hl]; exact (List.getElem?_eq_some_iff.mp hp).1
      refine Ex_cons (Ex_assign (Ev_Sub (Ev_local rfl (by walk_at "lk") (Ev_local rfl (by walk_at "lk") (Sub_at (upd_self _ _ _) (x := keyV p) (by simp [hp]) (by walk_at "om") (As_local rfl ?_))))))
      refine Ex_cons (Ex_if (EvB_Compare1 (Ev_local rfl (v := keyV x) (by walk_at "lk") (Ev_local rfl (v := keyV p) (by walk_at "lk") (Op_lt_key rm' ⟨_, rfl, ?_⟩)))))
      cases hk : keyLt x p with
      | true =>
        rw [hk, if_pos rfl] at hs
        refine Ex_cons (Ex_assign (Ev_local rfl (by walk_at "lk") (As_Sub (Ev_local rfl (v := .ref l) (by walk_at "lk") (Ev_local rfl (v := .int n) (by walk_at "lk") (OpS_at (upd_self _ _ _) (by simp; walk_at "om") (by walk_at "om") ?_))))))
        rw [upd_upd]
        refine Ex_cons (Ex_assign (Ev_local rfl (v := .int pp) (by walk_at "lk") (As_local rfl ?_)))
        exact Ex_cons (Ex_continue ⟨pp, hpn, ks'.set n p, by rw [List.map_set], by simp [hl], hpl, by rw [← hs]; exact hf, by walk_at "lk", by walk_at "lk", by walk_at "lk", by walk_at "lk"⟩)
      | false =>
        rw [hk, if_neg Bool.false_ne_true] at hs
        exact Ex_nil (Ex_cons (Ex_break ⟨n, ks', rfl, rfl, hs.symm.trans hf, by walk_at "om", hl, by walk_at "lk", by walk_at "lk", by walk_at "lk"⟩))
    · have hd : decide ((n : Int) > (start : Int)) = false := by simpa using hgt
      rw [hd]
      refine Ex_nil ⟨n, ks', rfl, rfl, ?_, by walk_at "om", hl, l1, l3, l4⟩
      rw [← hf]
      cases n with
      | zero => simp [sdF]
      | succ n => rw [sdF, if_neg hgt]
  · refine ⟨ks, ?_, rfl, hpos, rfl, by walk_at "lk", by walk_at "lk", by walk_at "lk", by walk_at "lk"⟩
    funext b
    by_cases hb' : b = l
    · subst hb'; rw [upd_self]; exact e
    · rw [upd_ne _ _ hb']
end
end

section
open PySem PySem.W PyProof.Rows PySem.Calls PySem.Spec

theorem gn_heappush (w : World) : GN w (S "heappush") (.ref 28) := by unfold GN; kernel_rfl
theorem gn_heappop (w : World) : GN w (S "heappop") (.ref 35) := by unfold GN; kernel_rfl
theorem gn_heapify (w : World) : GN w (S "heapify") (.ref 42) := by unfold GN; kernel_rfl
theorem gn_siftdown (w : World) : GN w (S "_siftdown") (.ref 49) := by unfold GN; kernel_rfl
theorem gn_siftup (w : World) : GN w (S "_siftup") (.ref 56) := by unfold GN; kernel_rfl
theorem bn_len (w : World) : BN w (S "len") (.builtin "len") := ⟨by kernel_rfl, by kernel_rfl, by decide⟩
theorem bn_range (w : World) : BN w (S "range") (.type "range") := ⟨by kernel_rfl, by kernel_rfl, by decide⟩
theorem bn_reversed (w : World) : BN w (S "reversed") (.type "reversed") := ⟨by kernel_rfl, by kernel_rfl, by decide⟩

section
variable {α : Type} (lt : α → α → Bool)
noncomputable def suF : Nat → Nat → List α → List α × Nat
  | 0, pos, l => (l, pos)
  | f + 1, pos, l => match l[2 * pos + 1]? with
    | none => (l, pos)
    | some c => match l[2 * pos + 2]? with
      | none => suF f (2 * pos + 1) (l.set pos c)
      | some r => if lt c r then suF f (2 * pos + 1) (l.set pos c) else suF f (2 * pos + 2) (l.set pos r)
noncomputable def siftup (l : List α) (pos : Nat) : List α := match l[pos]? with
  | none => l
  | some x => let r := suF lt l.length pos l; sdF lt x pos r.2 r.2 (r.1.set r.2 x)
theorem suF_spec : ∀ (f pos : Nat) (l : List α), pos < l.length → (suF lt f pos l).1.length = l.length ∧ (suF lt f pos l).2 < l.length ∧ pos ≤ (suF lt f pos l).2
  | 0, pos, l, h => ⟨rfl, h, Nat.le_refl _⟩
  | f + 1, pos, l, h => by
    unfold suF
    split
    · exact ⟨rfl, h, Nat.le_refl _⟩
    · rename_i c hc
      have hc' := (List.getElem?_eq_some_iff.mp hc).1
      have a := suF_spec f (2 * pos + 1) (l.set pos c) (by simpa using hc')
      simp only [List.length_set] at a
      split
      · exact ⟨a.1, a.2.1, by walk_at "om"⟩
      · rename_i r hr
        have hr' := (List.getElem?_eq_some_iff.mp hr).1
        have b := suF_spec f (2 * pos + 2) (l.set pos r) (by simpa using hr')
        simp only [List.length_set] at b
        split
        · exact ⟨a.1, a.2.1, by walk_at "om"⟩
        · exact ⟨b.1, b.2.1, by walk_at "om"⟩
theorem suF_fuel : ∀ (f g pos : Nat) (l : List α), l.length ≤ pos + f → l.length ≤ pos + g → suF lt f pos l = suF lt g pos l
  | 0, 0, _, _, _, _ => rfl
  | 0, g + 1, pos, l, h, _ => by
    have : l[2 * pos + 1]? = none := List.getElem?_eq_none (by walk_at "om")
    simp [suF, this]
  | f + 1, 0, pos, l, _, h => by
    have : l[2 * pos + 1]? = none := List.getElem?_eq_none (by walk_at "om")
    simp [suF, this]
  | f + 1, g + 1, pos, l, h1, h2 => by
    unfold suF
    split
    · rfl
    · rename_i c hc
      have hc' := (List.getElem?_eq_some_iff.mp hc).1
      split
      · exact suF_fuel f g _ _ (by simp; walk_at "om") (by simp; walk_at "om")
      · split
        · exact suF_fuel f g _ _ (by simp; walk_at "om") (by simp; walk_at "om")
        · exact suF_fuel f g _ _ (by simp; walk_at "om") (by simp; walk_at "om")
end

section
variable {w : World} {hb : Base} {A : Around} {σ : Hp}
theorem upd_same {l : Addr} {o : O} (e : σ l = some o) : σ = upd σ l o := by
  funext b
  by_cases hb' : b = l
  · subst hb'; rw [upd_self]; exact e
  · rw [upd_ne _ _ hb']
theorem calls_fn {a : Addr} {o : Obj} {fd : FuncData} (h : (KF w).lookup a = some o) (hd : o.data = .func fd) : Calls w (.val (.ref a)) := .inr (.inr ⟨a, o, fd, rfl, h, hd⟩)
theorem calls_bi {id : String} : Calls w (.val (.builtin id)) := .inl ⟨id, rfl⟩
theorem calls_ty {T : String} : Calls w (.val (.type T)) := .inr (.inl ⟨T, rfl⟩)

noncomputable abbrev SuR (σ : Hp) (l : Addr) (ks : List (Str × Int)) (pos : Nat) (x : Str × Int) (fl : Fl) (σ' : Hp) (loc' : Loc) : Prop := ∃ (p : Nat) (ks' : List (Str × Int)), C8 (fl = Fl.next) (σ' = upd σ l (.list (ks'.map keyV))) ((ks', p) = suF keyLt ks.length pos ks) (ks'.length = ks.length) (loc'.lookup (S "heap") = some (.ref l)) (loc'.lookup (S "pos") = some (.int p)) (loc'.lookup (S "startpos") = some (.int pos)) (loc'.lookup (S "newitem") = some (keyV x))
noncomputable abbrev SuW (σ : Hp) (l : Addr) (ks : List (Str × Int)) (pos : Nat) (x : Str × Int) (m : Nat) (σ' : Hp) (loc' : Loc) : Prop := ∃ (p : Nat) (ks' : List (Str × Int)), C11 (σ' = upd σ l (.list (ks'.map keyV))) (ks'.length = ks.length) (p < ks.length) (m + p = ks.length) (suF keyLt m p ks' = suF keyLt ks.length pos ks) (loc'.lookup (S "heap") = some (.ref l)) (loc'.lookup (S "startpos") = some (.int pos)) (loc'.lookup (S "pos") = some (.int p)) (loc'.lookup (S "newitem") = some (keyV x)) (loc'.lookup (S "endpos") = some (.int ks.length)) (loc'.lookup (S "childpos") = some (.int (2 * p + 1 : Nat)))
theorem su_call (B : Bs w hb.h) {n : Nat} (rm : Rm hb (n + 2) A) {l : Addr} {ks : List (Str × Int)} {pos : Nat} {Q : V → Hp → Prop} (e : σ l = some (.list (ks.map keyV))) (hpos : pos < ks.length) (hz : ks.length < 1000)
    (h : Q .none (upd σ l (.list ((siftup keyLt ks pos).map keyV)))) :
    OpN w hb A [.ref l, .int pos] (fun as => call (.ref 56) as) σ Q := by
  obtain ⟨x, hx⟩ : ∃ x, ks[pos]? = some x := ⟨_, List.getElem?_eq_getElem hpos⟩
  have hsu : siftup keyLt ks pos = sdF keyLt x pos (suF keyLt ks.length pos ks).2 (suF keyLt ks.length pos ks).2 ((suF keyLt ks.length pos ks).1.set (suF keyLt ks.length pos ks).2 x) := by
    unfold siftup; rw [hx]
  refine call_fn B (n := n + 1) (names := [S "heap", S "pos"]) rm rfl rfl rfl rfl rfl ?_ rfl rfl (by decide) (by decide) ?_
  · exact of_len2 fun _ _ => rfl
  intro hb L A' hh hfr B rm'
  refine Ex_cons (Ex_assign (Ev_call B (Ev_boot B (bn_len w) ⟨calls_bi, EvL_cons (Ev_local rfl rfl (EvL_nil (Op_len e (by simp; walk_at "om") (As_local rfl ?_))))⟩ rfl)))
  refine Ex_cons (Ex_assign (Ev_local rfl (by walk_at "lk") (As_local rfl ?_)))
  refine Ex_cons (Ex_assign (Ev_Sub (Ev_local rfl (by walk_at "lk") (Ev_local rfl (v := .int pos) (by walk_at "lk") (Sub_at e (x := keyV x) (by simp [hx]) (by walk_at "om") (As_local rfl ?_))))))
  refine Ex_cons (Ex_assign (Ev_BinOp (Ev_BinOp (Ev_int (Ev_local rfl (v := .int pos) (by walk_at "lk") (Op_mul ?_ (Ev_int (Op_add (As_local rfl ?_)))))))))
  · exact IntMulOk.of_left (by decide)
  refine Ex_cons (Tr.mono (Ex_while (R := SuR σ l ks pos x)
    (SuW σ l ks pos x) ?_ (ks.length - pos) ?_) ?_)
  rotate_left 2
  · rintro fl σ' loc' ⟨p, ks', rfl, rfl, hf, hl, l1, l2, l3, l4⟩
    have hp := suF_spec keyLt ks.length pos ks hpos
    rw [← hf] at hp hsu
    simp only at hp hsu
    refine Ex_cons (Ex_assign (Ev_local rfl l4 (As_Sub (Ev_local rfl l1 (Ev_local rfl l2 (OpS_at (upd_self _ _ _) (by simp; walk_at "om") (by walk_at "om") ?_))))))
    rw [upd_upd, ← List.map_set]
    refine Ex_cons (Ex_expr (Ev_call B (Ev_glob B (gn_siftdown w) (fun _ _ => .val _) ⟨calls_fn rfl rfl, EvL_cons (Ev_local rfl l1 (EvL_cons (Ev_local rfl l3 (EvL_cons (Ev_local rfl l2 (EvL_nil ?_))))))⟩ rfl)))
    refine sd_call B rm' (upd_self _ _ _) (x := x) (by rw [List.getElem?_set_self (by walk_at "om")]) (by simp; walk_at "om") ?_
    rw [upd_upd, ← hsu]
    exact Ex_nil h
  · rintro m σ' loc' ⟨p, ks', rfl, hl, hp, hm, hf, l1, l2, l3, l4, l5, l6⟩
    refine EvB_Compare1 (Ev_local rfl l6 (Ev_local rfl l5 (Op_lt ⟨_, rfl, ?_⟩)))
    by_cases hc : 2 * p + 1 < ks.length
    · have hd : decide (((2 * p + 1 : Nat) : Int) < (ks.length : Int)) = true := by simp; walk_at "om"
      rw [hd]
      obtain ⟨c, hc1⟩ : ∃ c, ks'[2 * p + 1]? = some c := ⟨_, List.getElem?_eq_getElem (by walk_at "om")⟩
      obtain ⟨m', rfl⟩ : ∃ m', m = m' + 1 := ⟨m - 1, by walk_at "om"⟩
      refine Ex_cons (Ex_assign (Ev_BinOp (Ev_local rfl l6 (Ev_int (Op_add (As_local rfl ?_))))))
      have hr : ((2 * p + 1 : Nat) : Int) + 1 = ((2 * p + 2 : Nat) : Int) := by walk_at "om"
      rw [hr]
      refine Ex_cons (Tr.mono (Ex_if (R := fun fl σ'' loc'' => ∃ (q : Nat) (y : Str × Int), C12 (fl = .next) (σ'' = upd σ l (.list (ks'.map keyV))) (ks'[q]? = some y) (suF keyLt (m' + 1) p ks' = suF keyLt m' q (ks'.set p y)) (p < q) (q < ks.length) (loc''.lookup (S "heap") = some (.ref l)) (loc''.lookup (S "startpos") = some (.int pos)) (loc''.lookup (S "pos") = some (.int p)) (loc''.lookup (S "newitem") = some (keyV x)) (loc''.lookup (S "endpos") = some (.int ks.length)) (loc''.lookup (S "childpos") = some (.int q))) (EvB_And2 (EvB_Compare1 (Ev_local rfl (v := .int (2 * p + 2 : Nat)) (by walk_at "lk") (Ev_local rfl (v := .int ks.length) (by walk_at "lk") (Op_lt ⟨_, rfl, ?_⟩)))))) ?_)
      · by_cases hr1 : 2 * p + 2 < ks.length
        · have hd : decide (((2 * p + 2 : Nat) : Int) < (ks.length : Int)) = true := by simp; walk_at "om"
          rw [hd]
          obtain ⟨r, hr2⟩ : ∃ r, ks'[2 * p + 2]? = some r := ⟨_, List.getElem?_eq_getElem (by walk_at "om")⟩
          refine EvB_Not (EvB_Compare1 (Ev_Sub (Ev_local rfl (v := .ref l) (by walk_at "lk") (Ev_local rfl (v := .int (2 * p + 1 : Nat)) (by walk_at "lk") (Sub_at (upd_self _ _ _) (x := keyV c) (by simp [hc1]) (by walk_at "om") (Ev_Sub (Ev_local rfl (v := .ref l) (by walk_at "lk") (Ev_local rfl (v := .int (2 * p + 2 : Nat)) (by walk_at "lk") (Sub_at (upd_self _ _ _) (x := keyV r) (by simp [hr2]) (by walk_at "om") (Op_lt_key rm' ⟨_, rfl, ?_⟩))))))))))
          cases hk : keyLt c r with
          | true => exact Ex_nil ⟨2 * p + 1, c, rfl, rfl, hc1, by rw [suF, hc1]; simp only [hr2, hk]; rfl, by walk_at "om", hc, by walk_at "lk", by walk_at "lk", by walk_at "lk", by walk_at "lk", by walk_at "lk", by walk_at "lk"⟩
          | false =>
            refine Ex_cons (Ex_assign (Ev_local rfl (v := .int (2 * p + 2 : Nat)) (by walk_at "lk") (As_local rfl (Ex_nil ⟨2 * p + 2, r, rfl, rfl, hr2, ?_, by walk_at "om", hr1, by walk_at "lk", by walk_at "lk", by walk_at "lk", by walk_at "lk", by walk_at "lk", by walk_at "lk"⟩))))
            rw [suF, hc1]; simp only [hr2, hk]; rfl
        · have hd : decide (((2 * p + 2 : Nat) : Int) < (ks.length : Int)) = false := by simp; walk_at "om"
          rw [hd]
          have hr2 : ks'[2 * p + 2]? = none := List.getElem?_eq_none (by walk_at "om")
          exact Ex_nil ⟨2 * p + 1, c, rfl, rfl, hc1, by rw [suF, hc1]; simp only [hr2], by walk_at "om", hc, by walk_at "lk", by walk_at "lk", by walk_at "lk", by walk_at "lk", by walk_at "lk", by walk_at "lk"⟩
      · rintro fl σ'' loc'' ⟨q, y, rfl, rfl, hq, hsu', hpq, hql, l1, l2, l3, l4, l5, l6⟩
        refine Ex_cons (Ex_assign (Ev_Sub (Ev_local rfl l1 (Ev_local rfl l6 (Sub_at (upd_self _ _ _) (x := keyV y) (by simp [hq]) (by walk_at "om") (As_Sub (Ev_local rfl l1 (Ev_local rfl l3 (OpS_at (upd_self _ _ _) (by simp; walk_at "om") (by walk_at "om") ?_)))))))))
        rw [upd_upd, ← List.map_set]
        refine Ex_cons (Ex_assign (Ev_local rfl l6 (As_local rfl ?_)))
        refine Ex_cons (Ex_assign (Ev_BinOp (Ev_BinOp (Ev_int (Ev_local rfl (v := .int q) (by walk_at "lk") (Op_mul (IntMulOk.of_left (by decide)) (Ev_int (Op_add (As_local rfl ?_)))))))))
        refine Ex_nil ⟨ks.length - q, by walk_at "om", q, ks'.set p y, rfl, by simp [hl], hql, by walk_at "om", ?_, by walk_at "lk", by walk_at "lk", by walk_at "lk", by walk_at "lk", by walk_at "lk", ?_⟩
        · rw [← hf, hsu']
          exact suF_fuel _ _ _ _ _ (by simp; walk_at "om") (by simp; walk_at "om")
        · rw [setL_self]; congr 2
    · have hd : decide (((2 * p + 1 : Nat) : Int) < (ks.length : Int)) = false := by simp; walk_at "om"
      rw [hd]
      refine Ex_nil ⟨p, ks', rfl, rfl, ?_, hl, l1, l3, l2, l4⟩
      rw [← hf]
      have : ks'[2 * p + 1]? = none := List.getElem?_eq_none (by walk_at "om")
      cases m with
      | zero => rfl
      | succ m => rw [suF, this]
  · refine ⟨pos, ks, upd_same e, rfl, hpos, by walk_at "om", suF_fuel _ _ _ _ _ (by walk_at "om") (by walk_at "om"), by walk_at "lk", by walk_at "lk", by walk_at "lk", by walk_at "lk", ?_, ?_⟩
    · refine (setL_ne _ (by decide) _).trans ((setL_ne _ (by decide) _).trans ((setL_ne _ (by decide) _).trans ?_))
      rw [setL_self]; simp
    · rw [setL_self]; congr 2
end
end

section
open PySem PySem.W PyProof PyProof.Rows PySem.Calls PySem.Spec

theorem ints_of {h : Heap} : ∀ {ns : List Int} {l : List Value}, VRs h (ns.map .int) l → IntsAre l ns
  | [], _, x => x.inv0 ▸ .nil
  | n :: ns, _, x => by
    obtain ⟨a, as, rfl, p, r⟩ := x.inv
    obtain ⟨t, rfl⟩ := p.inv_int
    exact .cons n t (ints_of r)
theorem of_ints {h : Heap} : ∀ {ns : List Int} {l : List Value}, IntsAre l ns → VRs h (ns.map .int) l
  | _, _, .nil => .nil
  | _, _, .cons n t r => .cons (.int n t) (of_ints r)

section
variable {w : World} {hb : Base} {A : Around} {env : Env} {σ : Hp} {loc : Loc}

noncomputable def slObj (vl vr : Value) : Obj := { cls := .type "slice", data := .fields #[vl, vr, .none] }
/- a slice of a value -/
noncomputable def SlOp (w : World) (hb : Base) (A : Around) (value slice : Expr) (u : V) (l r : Option Int) (σ : Hp) (Q : V → Hp → Prop) : Prop :=
  ∀ (o vl vr : Value) (s : Shared) (P : Value → Shared → Prop) (E : Value → Shared → Prop), VR s.heap u o → IsPart vl l → IsPart vr r → Rep w hb σ s.heap →
    (∀ x a σ' h' tk', Q x σ' → Rep w hb σ' h' → VR h' x a → St (fun _ => False) σ σ' s.heap h' → P a { s with heap := h', toks := tk' }) →
    wpAny (model pg w) A (subscriptTail value slice o (.ref s.heap.objs.size)) P E { s with heap := s.heap.push (slObj vl vr) }

theorem SlOp.run {value slice : Expr} {u : V} {l r : Option Int} {Q : V → Hp → Prop} (h : SlOp w hb A value slice u l r σ Q) {o vl vr : Value} {s : Shared} {P : Value → Shared → Prop} {E : Value → Shared → Prop} (h1 : VR s.heap u o) (h2 : IsPart vl l) (h3 : IsPart vr r) (R : Rep w hb σ s.heap) (F : FrR hb env loc σ s.heap)
    (H : ∀ b a σ' h' tk', Q b σ' → Rep w hb σ' h' → FrR hb env loc σ' h' → VR h' b a → St (own env) σ σ' s.heap h' → P a { s with heap := h', toks := tk' }) :
    wpAny (model pg w) A (subscriptTail value slice o (.ref s.heap.objs.size)) P E { s with heap := s.heap.push (slObj vl vr) } :=
  h o vl vr s P E h1 h2 h3 R fun b a σ' h' tk' q R' r S => H b a σ' h' tk' q R' (F.stay S) r (S.wide fun _ z => z.elim)
theorem Ev_from {value lo : Expr} {p pos : Pos} {Q : V → Hp → Loc → Prop}
    (h : Ev w hb A env (eval value env) σ loc fun u σ₁ loc₁ => Ev w hb A env (eval lo env) σ₁ loc₁ fun v σ₂ loc₂ => ∃ i, v = .int i ∧ SlOp w hb A value (.Slice (some lo) none none p) u (some i) none σ₂ fun x σ₃ => Q x σ₃ loc₂) :
    Ev w hb A env (eval (.Subscript value (.Slice (some lo) none none p) pos) env) σ loc Q := fun s P E R F H =>
  Subscript_ (h s _ _ R F fun u a σ₁ loc₁ h₁ t₁ q R₁ F₁ ra S₁ => wpAny_Slice (q _ _ _ R₁ F₁ fun v b σ₂ loc₂ h₂ t₂ q₂ R₂ F₂ rb S₂ => by
    obtain ⟨i, rfl, q₂⟩ := q₂
    cases rb
    refine wpAny_pure (wpAny_pure ?_)
    exact SlOp.run q₂ (s := { s with heap := h₂, toks := t₂ }) (ra.mono S₂.imm) (.int _ _) .none R₂ F₂ fun x c σ₃ h₃ t₃ q₃ R₃ F₃ rc S₃ => H _ _ _ _ _ _ q₃ R₃ F₃ rc (S₁.trans (S₂.trans S₃))))
theorem Ev_upto {value hi : Expr} {p pos : Pos} {Q : V → Hp → Loc → Prop}
    (h : Ev w hb A env (eval value env) σ loc fun u σ₁ loc₁ => Ev w hb A env (eval hi env) σ₁ loc₁ fun v σ₂ loc₂ => ∃ i, v = .int i ∧ SlOp w hb A value (.Slice none (some hi) none p) u none (some i) σ₂ fun x σ₃ => Q x σ₃ loc₂) :
    Ev w hb A env (eval (.Subscript value (.Slice none (some hi) none p) pos) env) σ loc Q := fun s P E R F H =>
  Subscript_ (h s _ _ R F fun u a σ₁ loc₁ h₁ t₁ q R₁ F₁ ra S₁ => wpAny_Slice (wpAny_pure (q _ _ _ R₁ F₁ fun v b σ₂ loc₂ h₂ t₂ q₂ R₂ F₂ rb S₂ => by
    obtain ⟨i, rfl, q₂⟩ := q₂
    cases rb
    refine wpAny_pure ?_
    exact SlOp.run q₂ (s := { s with heap := h₂, toks := t₂ }) (ra.mono S₂.imm) .none (.int _ _) R₂ F₂ fun x c σ₃ h₃ t₃ q₃ R₃ F₃ rc S₃ => H _ _ _ _ _ _ q₃ R₃ F₃ rc (S₁.trans (S₂.trans S₃)))))

theorem fresh_hb {h : Heap} (R : Rep w hb σ h) {a : Addr} (e : h.get? a = none) : hb.get? a = none := by
  cases q : hb.get? a with
  | none => rfl
  | some o => have := R.base _ _ q; rw [e] at this; cases this
/- a list is made -/
theorem Rep.newList {h : Heap} {xs : List Value} {vs : List V} (R : Rep w hb σ h) (r : VRs h vs xs) :
    σ h.objs.size = none ∧ hb.get? h.objs.size = none ∧ Rep w hb (upd σ h.objs.size (.list vs)) (h.push (listOf xs.toArray 0)) ∧ St (fun _ => False) σ (upd σ h.objs.size (.list vs)) h (h.push (listOf xs.toArray 0)) := by
  have z := get?_size h
  have ⟨_, S₀⟩ := R.push (ob := listOf xs.toArray 0)
  exact ⟨R.none_of z, fresh_hb R z, R.make (ob := listOf xs.toArray 0) (o := .list vs) rfl ⟨_, _, Heap.get?_push_size _ rfl, by simpa using r.mono S₀.imm⟩⟩

theorem sl_list {value slice : Expr} {a : Addr} {vs : List V} {l r : Option Int} {res : List V} {Q : V → Hp → Prop} (e : σ a = some (.list vs)) (hz : vs.length ≤ 1000)
    (hp : ∀ xs : Array Value, xs.size = vs.length → ∃ ys : List Value, slicePick xs l r none = ys.toArray ∧ ∀ h, VRs h vs xs.toList → VRs h res ys)
    (h : ∀ D, σ D = none → hb.get? D = none → Q (.ref D) (upd σ D (.list res)))
    (hs : ∀ o i, subscripted slice false o i = operate [i, o] (getItem o i)) : SlOp w hb A value slice (.ref a) l r σ Q := fun o vl vr s P E ro hl hr R H => by
  cases ro
  have ⟨R₁, S₁⟩ := R.push (ob := slObj vl vr)
  obtain ⟨xs, n, ea, rs⟩ := R₁.obj a _ e
  have hL : (s.heap.push (slObj vl vr)).IsList a xs := PySem.IsL.isList ea
  have hsz : xs.size = vs.length := by rw [rs.length, Array.length_toList]
  obtain ⟨ys, ey, ry⟩ := hp xs hsz
  have hs' : (s.heap.push (slObj vl vr)).IsSliceOf s.heap.objs.size vl vr .none := Heap.IsSliceOf.new ..
  refine tail_any (s := { s with heap := s.heap.push (slObj vl vr) }) (Heap.IsList.typeIs (s := { s with heap := s.heap.push (slObj vl vr) }) hL) list_getitem_lookup (wpAny_getItem_list_slice (s := { s with heap := s.heap.push (slObj vl vr) }) hL hs' hl hr .none (by simp) ?_ (by rw [hsz, sizeLine]; walk_at "om")) (hs _ _)
  rw [ey]
  obtain ⟨d1, d2, R₂, S₂⟩ := R₁.newList (ry _ rs)
  exact H _ _ _ _ _ (h _ d1 d2) R₂ (.ref _) (S₁.trans S₂)
theorem Sl_from {value lo : Expr} {p : Pos} {a : Addr} {vs : List V} {k : Nat} {Q : V → Hp → Prop} (e : σ a = some (.list vs)) (hz : vs.length ≤ 1000) (h : ∀ D, σ D = none → hb.get? D = none → Q (.ref D) (upd σ D (.list (vs.drop k)))) :
    SlOp w hb A value (.Slice (some lo) none none p) (.ref a) (some (k : Nat)) none σ Q :=
  sl_list e hz (fun xs _ => ⟨_, slicePick_from' xs k, fun h r => r.drop k⟩) h fun _ _ => by with_unfolding_all rfl
theorem Sl_upto {value hi : Expr} {p : Pos} {a : Addr} {vs : List V} {k : Nat} {Q : V → Hp → Prop} (e : σ a = some (.list vs)) (hz : vs.length ≤ 1000) (h : ∀ D, σ D = none → hb.get? D = none → Q (.ref D) (upd σ D (.list (vs.take k)))) :
    SlOp w hb A value (.Slice none (some hi) none p) (.ref a) none (some (k : Nat)) σ Q :=
  sl_list e hz (fun xs _ => ⟨_, slicePick_upto' xs k, fun h r => r.take k⟩) h fun _ _ => by with_unfolding_all rfl

theorem keptRep {h : Heap} : KeptH (fun h' => Rep w hb σ h' ∧ St (fun _ => False) σ σ h h') := fun h' ob ⟨R, S⟩ => ⟨R.push.1, S.trans R.push.2⟩
theorem Sl_sfrom {value lo : Expr} {p : Pos} {x : Str} {k : Nat} {Q : V → Hp → Prop} (hk : k ≤ x.length) (hz : x.length ≤ 1000) (h : Q (.str ⟨(x.cps.toList.drop k).toArray⟩) σ) :
    SlOp w hb A value (.Slice (some lo) none none p) (.str x) (some (k : Nat)) none σ Q := fun o vl vr s P E ro hl hr R H => by
  cases ro; cases hl; cases hr
  have e : Txt.slice x (some (k : Int)) none = ⟨(x.cps.toList.drop k).toArray⟩ := by
    have := slice_closes_from (x := x) (i := k) ⟨by walk_at "om", by simpa [Str.length] using hk⟩
    rw [eq_of_beq this]
    congr 2
    first | (rw [List.take_of_length_le (by simp)]; simp) | (rw [List.take_of_length_le (by simp; walk_at "om")]; simp)
  obtain ⟨T, id, h1, h2, h3⟩ := SBH.sliceItem_sn (A := A) (E := E) (Q := P) (prog := pg) (w := w) (x := x) (i := k) (keptRep (w := w) (hb := hb) (σ := σ) (h := s.heap)) (s := s) ⟨R, St.refl _ _ _⟩ (fun h' t' k' hh => by
    rw [e]; exact H _ _ _ _ _ h hh.1 (.str _ _) hh.2) (by rw [sizeLine]; walk_at "om")
  exact tail_any h2 h1 h3 (by with_unfolding_all rfl)
theorem Sl_supto {value hi : Expr} {p : Pos} {x : Str} {k : Nat} {Q : V → Hp → Prop} (hk : k ≤ x.length) (hz : x.length ≤ 1000) (h : Q (.str ⟨(x.cps.toList.take k).toArray⟩) σ) :
    SlOp w hb A value (.Slice none (some hi) none p) (.str x) none (some (k : Nat)) σ Q := fun o vl vr s P E ro hl hr R H => by
  cases ro; cases hl; cases hr
  have e : Txt.slice x none (some (k : Int)) = ⟨(x.cps.toList.take k).toArray⟩ := by
    have := slice_closes_to (x := x) (j := k) ⟨by walk_at "om", by simpa [Str.length] using hk⟩
    rw [eq_of_beq this]
    simp
  obtain ⟨T, id, h1, h2, h3⟩ := SBH.sliceItem_ns (A := A) (E := E) (Q := P) (prog := pg) (w := w) (x := x) (j := k) (keptRep (w := w) (hb := hb) (σ := σ) (h := s.heap)) (s := s) ⟨R, St.refl _ _ _⟩ (fun h' t' k' hh => by
    rw [e]; exact H _ _ _ _ _ h hh.1 (.str _ _) hh.2) (by rw [sizeLine]; walk_at "om")
  exact tail_any h2 h1 h3 (by with_unfolding_all rfl)

theorem Op_addS {x y : Str} {Q : V → Hp → Prop} (hz : x.length + y.length ≤ 1000) (h : Q (.str (x ++ y)) σ) : Op2 w hb A (.str x) (.str y) (fun a b => binaryOp .Add a b) σ Q := fun p s P E I R H => by
  obtain ⟨a, b⟩ := p; obtain ⟨h1, h2⟩ := I; cases h1; cases h2
  exact PyProof.Rows.add_str (fun t' tk => H _ _ _ s.heap _ h R (.str _ _) St.same) (by rw [sizeLine]; walk_at "om")
theorem Op_addL {a b : Addr} {vs us : List V} {Q : V → Hp → Prop} (e1 : σ a = some (.list vs)) (e2 : σ b = some (.list us)) (hz : vs.length + us.length ≤ 1000) (h : ∀ D, σ D = none → hb.get? D = none → Q (.ref D) (upd σ D (.list (vs ++ us)))) :
    Op2 w hb A (.ref a) (.ref b) (fun x y => binaryOp .Add x y) σ Q := fun p s P E I R H => by
  obtain ⟨x, y⟩ := p; obtain ⟨h1, h2⟩ := I; cases h1; cases h2
  obtain ⟨xs, n, ea, rs⟩ := R.obj a _ e1
  obtain ⟨ys, m, eb, rt⟩ := R.obj b _ e2
  have l1 : vs.length = xs.size := by rw [rs.length, Array.length_toList]
  have l2 : us.length = ys.size := by rw [rt.length, Array.length_toList]
  refine concat_meets ⟨_, ea, rfl⟩ ⟨_, eb, rfl⟩ noFill_list_add seq_list_add PySem.F.slot_list_add PySem.F.entry_list_add (PySem.F.args_list_add_2 _ _) (list_addW a b xs ys n m none none #[] #[] (by rw [sizeLine]; walk_at "om")) ⟨ea, eb, ?_⟩
  have ee : xs ++ ys = (xs.toList ++ ys.toList).toArray := by simp
  rw [ee]
  obtain ⟨d1, d2, R₂, S₂⟩ := R.newList (rs.app rt)
  exact H _ _ _ _ _ (h _ d1 d2) R₂ (.ref _) S₂

theorem Op_in {a : Addr} {ns : List Int} {k : Int} {Q : V → Hp → Prop} (e : σ a = some (.list (ns.map .int))) (h : Q (.bool (ns.contains k)) σ) : Op2 w hb A (.int k) (.ref a) (fun x y => compareOp .In x y) σ Q := fun p s P E I R H => by
  obtain ⟨x, y⟩ := p; obtain ⟨h1, h2⟩ := I; cases h1; cases h2
  obtain ⟨xs, n, ea, rs⟩ := R.obj a _ e
  have hc : ns.any (· == k) = ns.contains k := by
    rw [List.contains_eq_any_beq]; congr 1; funext x; exact Bool.beq_comm
  exact in_list_ints (vs := xs.toList) (PySem.IsL.isList ea) (ints_of rs) (by rw [hc]; exact H _ _ _ s.heap _ h R (.bool _) St.same)
theorem Meth_index {a : Addr} {vs : List V} (e : σ a = some (.list vs)) : Meth w hb A (.ref a) σ (Str.ofString "index") "list.index" := Meth_list e PySem.F.slot_list_index PySem.F.type_list_index
theorem Op_index {a : Addr} {ns : List Int} {k : Int} {j : Nat} {Q : V → Hp → Prop} (e : σ a = some (.list (ns.map .int))) (hj : ns[j]? = some k) (hno : ∀ i, i < j → ns[i]? ≠ some k) (hz : j < 1000) (h : Q (.int (j : Nat)) σ) :
    OpN w hb A [.ref a, .int k] (fun as => call (.builtin "list.index") as) σ Q := fun x s P E I R H => by
  cases I with
  | cons p r => cases p; cases r with
    | cons q r =>
      cases q; cases r
      rename_i t
      obtain ⟨xs, n, ea, rs⟩ := R.obj a _ e
      have hi := ints_of rs
      have hat : ∀ i (hi' : i < xs.size), ∃ u, xs[i] = .int (ns.getD i 0) u ∧ i < ns.length := fun i hi' => by
        have hl : ns.length = xs.size := by have := rs.length; simpa using this
        have hg : (ns.map V.int)[i]? = some (.int (ns.getD i 0)) := by
          rw [List.getElem?_map, List.getElem?_eq_getElem (by walk_at "om"), List.getD_eq_getElem?_getD, List.getElem?_eq_getElem (by walk_at "om")]; rfl
        obtain ⟨y, hy, ry⟩ := rs.get hg
        cases ry
        rename_i u
        refine ⟨u, ?_, by walk_at "om"⟩
        rw [Array.getElem?_toList, Array.getElem?_eq_getElem hi'] at hy
        exact (Option.some.injEq _ _).mp hy
      have hjl : j < ns.length := (List.getElem?_eq_some_iff.mp hj).1
      have hl : ns.length = xs.size := by have := rs.length; simpa using this
      refine call_meets PySem.F.slot_list_index ⟨_, ea, rfl⟩ PySem.F.entry_list_index (PySem.F.args_list_index_2 _ _) (PySem.MeetsSeq.list_index a xs n (.int k t) (isInt k) (fun y hy => eq_isInt k t hi y (by simpa using hy)) j (by walk_at "om") (by walk_at "om") ?_ ?_) ⟨ea, ?_⟩
      · obtain ⟨u, hu, _⟩ := hat j (by walk_at "om")
        rw [hu]
        have : ns.getD j 0 = k := by rw [List.getD_eq_getElem?_getD, hj]; rfl
        simp [isInt, hj]
      · intro m hm hmj
        obtain ⟨u, hu, hml⟩ := hat m hm
        rw [hu]
        have := hno m hmj
        rw [List.getElem?_eq_getElem hml] at this
        have h2 : ns.getD m 0 = ns[m] := by rw [List.getD_eq_getElem?_getD, List.getElem?_eq_getElem hml]; rfl
        simp only [isInt, h2, beq_eq_false_iff_ne]
        exact fun z => this (by rw [z])
      · exact H _ _ _ s.heap _ h R (.int _ _) St.same
theorem Op_int {k : Int} {Q : V → Hp → Prop} (h : Q (.int k) σ) : OpN w hb A [.int k] (fun as => call (vOf (.val (.type "int"))) as) σ Q := fun x s P E I R H => by
  cases I with
  | cons p r => cases p; cases r; exact call_int_int (H _ _ _ s.heap s.toks h R (.int _ _) St.same)
end
end

section
open PySem PySem.W PyProof PyProof.Rows PySem.Calls PySem.Spec
open PySem.AutoSeq1 (wpAny_loadPart')

section
variable {prog : Program} {w : World} {A : Around} {E : Value → Shared → Prop} {s : Shared}
theorem nextOf_tuple_item {it t : Addr} {i : Nat} {items} {x : Value} {Q : Value → Shared → Prop} (hit : s.heap.IsTupleIter it t i) (ht : s.heap.IsTuple t items) (hx : items[i]? = some x)
    (hQ : ∀ h', h'.IsTupleIter it t (i + 1) → Heap.SameBut it s.heap h' → Q x { s with heap := h' }) : wpAny (model prog w) A (Builtin.SmallTypes.nextOf (.ref it)) Q E s := by
  obtain ⟨o, ho, hc, hd⟩ := id hit
  obtain ⟨ol, hol, _, nl, hdl⟩ := ht
  unfold Builtin.SmallTypes.nextOf
  refine wpAny_bind (wpAny_callSpecial?_slot (name := Str.ofString "__next__") hit.typeIs F.slot_tuple_iterator_next
    (wpAny_call_entry F.slot_tuple_iterator_next hit.typeIs F.entry_tuple_iterator_next ?_ (F.args_tuple_iterator_next_1 _)))
  show wpAny _ _ (field (.ref it) 0 >>= _) _ _ s
  refine wpAny_bind (wpAny_field ho hd (x := .ref t) rfl ?_)
  show wpAny _ _ (if (Value.ref t == Value.none) = true then _ else _) _ _ s
  rw [if_neg (show ¬ ((Value.ref t == Value.none) = true) from Bool.false_ne_true)]
  show wpAny _ _ (field (.ref it) 1 >>= _) _ _ s
  refine wpAny_bind (wpAny_field ho hd (x := .int i 0) rfl ?_)
  show wpAny _ _ (seqItems? (.ref t) >>= _) _ _ s
  refine wpAny_bind (wpAny_seqItems hol hdl ?_)
  simp only [Int.toNat_natCast, hx]
  refine wpAny_bind (wpAny_setField ho hd (by simp) (wpAny_pure ⟨x, rfl, wpAny_pure (hQ _ ?_ (Heap.SameBut.update ..))⟩))
  exact ⟨_, Heap.get?_update_self _ ho (Obj.isFreed_of_fields (Obj.data_mapFields hd _)), (Obj.cls_mapFields ..).trans hc, by
    rw [Obj.data_mapFields hd]; simp [rawInt]⟩
theorem nextOf_tuple_end {it t : Addr} {i : Nat} {items} {Q : Value → Shared → Prop} (hh : A.handled = none) (hit : s.heap.IsTupleIter it t i) (ht : s.heap.IsTuple t items) (hx : items[i]? = none)
    (hE : ∀ h' e, Heap.ExtBut it s.heap h' → (∃ o, h'.get? e = some o ∧ o.cls = .type "StopIteration") → E (.ref e) { s with heap := h' }) : wpAny (model prog w) A (Builtin.SmallTypes.nextOf (.ref it)) Q E s := by
  obtain ⟨o, ho, hc, hd⟩ := id hit
  obtain ⟨ol, hol, _, nl, hdl⟩ := ht
  unfold Builtin.SmallTypes.nextOf
  refine wpAny_bind (wpAny_callSpecial?_slot (name := Str.ofString "__next__") hit.typeIs F.slot_tuple_iterator_next
    (wpAny_call_entry F.slot_tuple_iterator_next hit.typeIs F.entry_tuple_iterator_next ?_ (F.args_tuple_iterator_next_1 _)))
  show wpAny _ _ (field (.ref it) 0 >>= _) _ _ s
  refine wpAny_bind (wpAny_field ho hd (x := .ref t) rfl ?_)
  show wpAny _ _ (if (Value.ref t == Value.none) = true then _ else _) _ _ s
  rw [if_neg (show ¬ ((Value.ref t == Value.none) = true) from Bool.false_ne_true)]
  show wpAny _ _ (field (.ref it) 1 >>= _) _ _ s
  refine wpAny_bind (wpAny_field ho hd (x := .int i 0) rfl ?_)
  show wpAny _ _ (seqItems? (.ref t) >>= _) _ _ s
  refine wpAny_bind (wpAny_seqItems hol hdl ?_)
  simp only [Int.toNat_natCast, hx]
  refine wpAny_bind (wpAny_rule (wpAny_bind (wpAny_setField ho hd (by simp) ?_)))
  show wpAny _ _ (newExc (.type "StopIteration") [] >>= _) _ _ _
  refine wpAny_bind ?_
  simp only [newExc, newTuple]
  refine wpAny_bind (wpAny_newObj_type ?_ (by size_fits))
  refine wpAny_bind (m := firstArgMember _ _) (wpAny_of_eq (a := Value.none) (by first | rfl | (simp only [firstArgMember]; rfl)) ?_)
  refine wpAny_newObj_type ?_ (by size_fits)
  simp only [raiseNew]
  refine wpAny_bind (wpAny_handled ?_)
  first | rw [show A.in1.handled = none from hh] | rw [hh]
  refine wpAny_bind (wpAny_pure (wpAny_throw ?_))
  exact hE _ _ (((Heap.SameBut.update ..).extBut.push _).push _) ⟨_, Heap.get?_push_size _ rfl, rfl⟩
end
theorem draws_tuple {prog : Program} {w : World} {A : Around} (hh : A.handled = none) (it l : Addr) (hne : l ≠ it) (items : Array Value) :
    Draws prog w A it [it, l] items.size (fun i v => items[i]? = some v) (fun i h => h.IsTupleIter it l i ∧ h.IsTuple l items) where
  live := fun _ _ st => let ⟨o, ho, _⟩ := st.1; ⟨o, ho⟩
  frame := fun _ _ _ st hk => by
    obtain ⟨⟨o, ho, r⟩, ⟨ob, e, q⟩⟩ := st
    exact ⟨⟨o, hk it (by simp) o ho, r⟩, ⟨ob, hk l (by simp) ob e, q⟩⟩
  item := fun i s Q E hi st hQ => by
    refine nextOf_tuple_item st.1 st.2 (x := items[i]) (by simp [hi]) fun h' hit' hs' => ?_
    obtain ⟨ob, e, q⟩ := st.2
    exact hQ _ h' s.toks (by simp [hi]) ⟨hit', ⟨ob, (hs'.2 l hne).trans e, q⟩⟩ hs'
  done := fun s Q E st hE => nextOf_tuple_end hh st.1 st.2 (by simp) hE

theorem meets_enum_tup (l : Addr) (items : Array Value) (n : Nat) :
    Meets (Builtin.«enumerate.__new__» ⟨[.type "enumerate", .ref l], []⟩) (fun _ R s => s.heap.get? l = some { cls := .type "tuple", dict := none, data := .seq items n, slots := #[] } ∧
      R (.ok (.ret (.ref (s.heap.push { cls := .type "tuple_iterator", data := .fields #[.ref l, .int 0 0] }).objs.size)))
        { s with heap := (s.heap.push { cls := .type "tuple_iterator", data := .fields #[.ref l, .int 0 0] }).push { cls := .type "enumerate", data := .fields #[.none, .bool false, .ref s.heap.objs.size, rawInt 0, .none, .none] } }) :=
  .of_wp fun prog w A R s h => by
    obtain ⟨hp, g, d, tk, os⟩ := s; obtain ⟨hl, h⟩ := h
    have hsub := sub_enumerate
    have hL : Heap.IsTuple (Shared.heap ⟨hp, g, d, tk, os⟩) l items := ⟨_, hl, rfl, n, rfl⟩
    wp_walk using wpAny_loadPart' hl
    refine wpAny_stack_any fun st => wpAny_pure ?_
    split
    · rename_i c _ _ _ _ _
      cases (c == Value.type "enumerate")
      · wp_walk using wpAny_loadPart' hl, wpAny_pyIter_tuple hL
        exact ⟨_, rfl, h⟩
      · wp_walk using wpAny_loadPart' hl, wpAny_pyIter_tuple hL
        exact ⟨_, rfl, h⟩
    · wp_walk using wpAny_loadPart' hl, wpAny_pyIter_tuple hL
      exact ⟨_, rfl, h⟩
theorem call_enum_tup {prog : Program} {w : World} {A : Around} {E : Value → Shared → Prop} {s : Shared} {l : Addr} {items : Array Value} {n : Nat} {Q : Value → Shared → Prop} (hl : s.heap.get? l = some (seqObj "tuple" items n))
    (h : ∀ h', IsEnum h' (s.heap.objs.size + 1) s.heap.objs.size 0 .none → h'.IsTupleIter s.heap.objs.size l 0 → h'.objs.size = s.heap.objs.size + 2 →
      (∀ b o, s.heap.get? b = some o → h'.get? b = some o) → Q (.ref (s.heap.objs.size + 1)) { s with heap := h' }) :
    wpAny (model prog w) A (call (.type "enumerate") [.ref l]) Q E s := by
  refine callType_new F.called_enumerate (by decide) (F.typeCall_enumerate_1 _) (F.newCall_enumerate_1 _) (fun obj => F.args_object_init_2 obj _) F.entry_enumerate_new
    (meets_enum_tup l items n) ⟨hl, ?_⟩
  have hz : (s.heap.push { cls := .type "tuple_iterator", data := .fields #[.ref l, .int 0 0] }).objs.size = s.heap.objs.size + 1 := Heap.size_push ..
  show _ ∧ _
  rw [hz]
  have he : IsEnum ((s.heap.push { cls := .type "tuple_iterator", data := .fields #[.ref l, .int 0 0] }).push
      { cls := .type "enumerate", data := .fields #[.none, .bool false, .ref s.heap.objs.size, rawInt 0, .none, .none] }) (s.heap.objs.size + 1) s.heap.objs.size 0 .none := by
    have := Heap.get?_push_size (s.heap.push { cls := .type "tuple_iterator", data := .fields #[.ref l, .int 0 0] })
      (o := { cls := .type "enumerate", data := .fields #[.none, .bool false, .ref s.heap.objs.size, rawInt 0, .none, .none] }) rfl
    rw [hz] at this; exact this
  refine ⟨⟨_, he, rfl⟩, h _ he ⟨_, Heap.get?_push_of_some _ (Heap.get?_push_size _ rfl), rfl, rfl⟩ (by rw [Heap.size_push, hz]) fun b o x => Heap.get?_push_of_some _ (Heap.get?_push_of_some _ x)⟩

/- the pairs that enumerate hands out -/
noncomputable def enumV : Nat → List V → List V
  | _, [] => []
  | i, v :: vs => .tup [.int (i : Nat), v] :: enumV (i + 1) vs
theorem enumV_len : ∀ (k : Nat) (vs : List V), (enumV k vs).length = vs.length
  | _, [] => rfl
  | k, v :: vs => congrArg Nat.succ (enumV_len (k + 1) vs)
theorem enumV_get : ∀ (k : Nat) (vs : List V) (i : Nat) (v : V), vs[i]? = some v → (enumV k vs)[i]? = some (.tup [.int ((k + i : Nat) : Int), v])
  | k, v :: vs, 0, u, h => by simp at h; subst h; rfl
  | k, v :: vs, i + 1, u, h => by
    have := enumV_get (k + 1) vs i u (by simpa using h)
    rw [show k + 1 + i = k + (i + 1) by walk_at "om"] at this
    simpa [enumV] using this

section
variable {w : World} {hb : Base} {A : Around} {env : Env} {σ : Hp} {loc : Loc}

/- a pair is taken apart -/
theorem As_pair {n : Nat} (rm : Rm hb n A) {t1 t2 : Expr} {k : Nat} {pos : Pos} {u v : V} {Q : Hp → Loc → Prop} (h : As w hb A env t1 u σ loc fun σ₁ loc₁ => As w hb A env t2 v σ₁ loc₁ Q)
    (he : assignEach [t1, t2] env = [(false, assign t1 env), (false, assign t2 env)] := by rfl) : As w hb A env (.Tuple [t1, t2] k pos) (.tup [u, v]) σ loc Q := fun a s P E ra R F H => by
  obtain ⟨b, x, y, m, rfl, eb, rx, ry⟩ := VR.tup2 ra
  refine assign_Tuple_tuple (items := #[x, y]) rm.hand ⟨_, eb, rfl, m, rfl⟩ (by rw [he]; rfl) (by rw [he]; rfl) fun h' hk => ?_
  have keep : ∀ b o, s.heap.get? b = some o → h'.get? b = some o := fun b o e => hk b o (Nat.ne_of_lt (Heap.lt_size e)) e
  have im : ImmK s.heap h' := fun b o e _ => keep b o e
  have ⟨R', S⟩ := R.grow keep
  rw [he]
  show wpAny _ _ (do holding [y] (assign t1 env x); (do holding [] (assign t2 env y); pure ())) _ _ _
  refine wpAny_bind (wpAny_holding (h x _ _ _ (rx.mono im) R' (F.stay S) fun σ₁ loc₁ h₁ t₁ q R₁ F₁ S₁ => wpAny_bind (wpAny_holding (q y _ _ _ ((ry.mono im).mono S₁.imm) R₁ F₁ fun σ₂ loc₂ h₂ t₂ q₂ R₂ F₂ S₂ => wpAny_pure ?_))))
  exact H _ _ _ _ q₂ R₂ F₂ ((S.wide fun _ z => z.elim).trans (S₁.trans S₂))

noncomputable abbrev EnT (z l : Addr) (xs : Array Value) (i : Nat) (h : Heap) : Prop := (∃ old, IsEnum h (z + 1) z ((i : Nat) : Int) old) ∧ h.IsTupleIter z l i ∧ h.IsTuple l xs
noncomputable abbrev EnI (w : World) (hb : Base) (A : Around) (env : Env) (σ : Hp) (elts : List Expr) (k : Nat) (tp : Pos) (body orelse : List Stmt) (R : Fl → Hp → Loc → Prop) (h₁ : Heap) (l : Addr) (vs : List V) (xs : Array Value) (s : Shared) (kk : Nat) (s' : Shared) : Prop :=
  ∃ i σ' loc' h' tk', C9 (s' = { s with heap := h', toks := tk' }) (kk + i = vs.length) (ForGo w hb A env (.Tuple elts k tp) body orelse (fun _ => True) R ((enumV 0 vs).drop i) σ' loc') (EnT h₁.objs.size l xs i h') (Rep w hb σ' h') (FrR hb env loc' σ' h') (St (own env) σ σ' s.heap h') (∀ b ∈ [h₁.objs.size + 1, h₁.objs.size], σ' b = none) (ImmK h₁ h')
theorem Ex_for_enum (B : Bs w hb.h) {n : Nat} (rm : Rm hb n A) {e : Expr} {elts : List Expr} {k : Nat} {tp cpos p1 pos : Pos} {body orelse : List Stmt} {R : Fl → Hp → Loc → Prop} (g : BN w (Str.ofString "enumerate") (.type "enumerate"))
    (h : Ev w hb A env (eval e env) σ loc fun v σ₁ loc₁ => ∃ vs, v = .tup vs ∧ ForGo w hb A env (.Tuple elts k tp) body orelse (fun _ => True) R (enumV 0 vs) σ₁ loc₁)
    (hx : env.kindOf (Str.ofString "enumerate") = some .globalImplicit) (hg : env.globals = mainGlobals := by rfl) (hbn : env.builtins = builtinsNs := by rfl) (hk : env.scope.kind = .function := by rfl)
    (he : eval (.Call (.Name (Str.ofString "enumerate") p1) [e] [] cpos) env = (do callWith cpos (← eval (.Name (Str.ofString "enumerate") p1) env) [] (backTo cpos (starEach [e] env)) (backToKw cpos (keywordEach [] env))) := by rfl)
    (hst : starEach [e] env = (false, eval e env) :: starEach [] env := by rfl) (hs : ∀ x, foldedSetIterable (.Call (.Name (Str.ofString "enumerate") p1) [e] [] cpos) env x = pure x := by intro _; rfl) :
    Ex w hb A env (exec (.For (.Tuple elts k tp) (.Call (.Name (Str.ofString "enumerate") p1) [e] [] cpos) body orelse pos) env) σ loc R := fun s P E Rp F H => by
  obtain ⟨mg, mb, g1, g2, g3, g4⟩ := Rp.boot B g
  refine wpAny_For (Call_ (Name_function_global hk hx (loadGlobal_builtin (by rw [hg]; exact g1) g2 (by rw [hbn]; exact g3) g4 (callWith_type1 (wpAny_items_cons (h s _ _ Rp F fun v a σ₁ loc₁ h₁ t₁ q R₁ F₁ ra S₁ => ?_) hst) hst))) he) hs
  obtain ⟨vs, rfl, hG⟩ := q
  refine wpAny_items_nil ?_
  cases ra with
  | tup ea rs =>
    rename_i l xs m
    refine call_enum_tup (s := { s with heap := h₁, toks := t₁ }) ea fun h₂ hen hit hsz keep => ?_
    have z := get?_size h₁
    have z' : h₁.get? (h₁.objs.size + 1) = none := Heap.get?_none_of_le (Nat.le_succ _)
    have hlt : l < h₁.objs.size := Heap.lt_size ea
    have hl1 : l ≠ h₁.objs.size := Nat.ne_of_lt hlt
    have hl2 : l ≠ h₁.objs.size + 1 := Nat.ne_of_lt (Nat.lt_succ_of_lt hlt)
    have hef : h₁.objs.size + 1 ∉ [h₁.objs.size, l] := by
      intro hm
      rcases List.mem_cons.mp hm with hm | hm
      · exact Nat.succ_ne_self _ hm
      · rw [List.mem_singleton] at hm; exact hl2 hm.symm
    have Dr := draws_tuple (prog := pg) (w := w) (A := A.in1) rm.hand h₁.objs.size l hl1 xs
    have W := WalksT.enumerateD Dr (h₁.objs.size + 1) (Nat.succ_ne_self _) hef (by simp)
    have im : ImmK h₁ h₂ := fun b o e _ => keep b o e
    have ⟨R₂, S₂⟩ := R₁.grow keep
    have F₂ := F₁.stay S₂
    have hvl : vs.length = xs.size := by rw [rs.length, Array.length_toList]
    have hT0 : EnT h₁.objs.size l xs 0 h₂ := ⟨⟨_, hen⟩, hit, ⟨_, keep _ _ ea, rfl, m, rfl⟩⟩
    refine W.self 0 _ _ _ hT0 ?_
    have none_ : ∀ b, h₁.get? b = none → σ₁ b = none ∧ hb.get? b = none ∧ ¬ reach env b := fun b e => ⟨R₁.none_of e, fresh_hb R₁ e, fun o => by obtain ⟨ob, e'⟩ := F₁.has o; rw [e] at e'; cases e'⟩
    have hw : ∀ b ∈ [h₁.objs.size + 1, h₁.objs.size], h₁.get? b = none := fun b hb' => by
      simp at hb'
      rcases hb' with rfl | rfl
      · exact z'
      · exact z
    have ho : ∀ b o, s.heap.get? b = some o → σ b = none → ¬ own env b → b ∉ [h₁.objs.size + 1, h₁.objs.size] := fun b o e q no hm => by
      obtain ⟨o', this⟩ := (S₁.keep b o e q no).1.has; rw [hw b hm] at this; cases this
    have hwi : ∀ i h, EnT h₁.objs.size l xs i h → ∀ b ∈ [h₁.objs.size + 1, h₁.objs.size], ∃ o, h.get? b = some o ∧ ¬ Imm o ∧ ¬ isD o := by
      rintro i h ⟨⟨old, e1⟩, ⟨o, e2, c2, d2⟩, _⟩ b hb'
      simp at hb'
      rcases hb' with rfl | rfl
      · exact ⟨_, e1, not_imm_fields rfl rfl (by decide) (by decide), not_isD_fields rfl⟩
      · exact ⟨_, e2, not_imm_fields c2 d2 (by decide) (by decide), not_isD_fields d2⟩
    refine codeAny_forLoop_any (EnI w hb A env σ elts k tp body orelse R h₁ l vs xs s)
      ?_ vs.length ⟨0, σ₁, loc₁, h₂, t₁, rfl, by walk_at "om", by simpa using hG, hT0, R₂, F₂, S₁.trans (S₂.wide fun _ z => z.elim), fun b hb' => (none_ b (hw b hb')).1, im⟩
    rintro kk s' ⟨i, σ', loc', h', tk', rfl, hkk, hG', hT', R', F', S', hn, im'⟩
    have hw' : ∀ b ∈ [h₁.objs.size + 1, h₁.objs.size], σ' b = none ∧ hb.get? b = none ∧ ¬ reach env b := fun b hb' => ⟨hn b hb', (none_ b (hw b hb')).2⟩
    by_cases hi : i < vs.length
    · obtain ⟨u, hu⟩ : ∃ u, vs[i]? = some u := ⟨_, List.getElem?_eq_getElem hi⟩
      obtain ⟨⟨old, hIs⟩, hT2⟩ := id hT'
      refine wpAny_pyNext_enum_itemD (s := { s with heap := h', toks := tk' }) Dr hIs hT2 (by walk_at "om") (Nat.succ_ne_self _) hef fun x h₃ tt hx' hOut hSt hTup hsz₃ hkeep0 => ?_
      have hkeep : ∀ b o, b ∉ [h₁.objs.size + 1, h₁.objs.size] → h'.get? b = some o → h₃.get? b = some o := fun b o nb e => hkeep0 b o (fun q => nb (by simp [q])) (fun q => nb (by simp [q])) e
      have helt : h₁.objs.size + 1 < h'.objs.size := Heap.lt_size hIs
      have hilt : h₁.objs.size < h'.objs.size := Nat.lt_of_succ_lt helt
      have hMid : (∃ x, IsEnumOut h₃ (h₁.objs.size + 1) h₁.objs.size ((i : Int) + 1) x h'.objs.size) ∧ (h₃.IsTupleIter h₁.objs.size l (i + 1) ∧ h₃.IsTuple l xs) ∧ h'.objs.size ≠ h₁.objs.size + 1 ∧ h'.objs.size ≠ h₁.objs.size := ⟨⟨_, hOut⟩, hSt, Nat.ne_of_gt helt, Nat.ne_of_gt hilt⟩
      have ex : ExtW [h₁.objs.size + 1, h₁.objs.size] h' h₃ := fun b o nb e => hkeep b o nb e
      obtain ⟨R₃, F₃, im₃⟩ := ext_step R' F' hw' (hwi _ _ hT') ex
      have imT : ImmK h₁ h₃ := im'.trans im₃
      obtain ⟨y, hy, ry⟩ := (rs.mono imT).get hu
      have hyx : y = x := by
        rw [Array.getElem?_toList] at hy
        exact (Option.some.injEq _ _).mp (hy.symm.trans hx')
      subst hyx
      refine W.go elts k tp i h'.objs.size _ _ _ hMid fun h₄ hT₄ hkeep₄ => ?_
      have hTw := W.apart _ _ _ hMid
      have hMidhas : ∀ b ∈ [h₁.objs.size + 1, h₁.objs.size], ∃ o, h₃.get? b = some o ∧ ¬ Imm o ∧ ¬ isD o := by
        obtain ⟨⟨x', e1⟩, ⟨⟨o, e2, c2, d2⟩, _⟩, _⟩ := hMid
        intro b hb'
        simp at hb'
        rcases hb' with rfl | rfl
        · exact ⟨_, e1, not_imm_fields rfl rfl (by decide) (by decide), not_isD_fields rfl⟩
        · exact ⟨_, e2, not_imm_fields c2 d2 (by decide) (by decide), not_isD_fields d2⟩
      obtain ⟨R₄, F₄, im₄⟩ := ext_step R₃ F₃ hw' hMidhas (fun b o nb e => hkeep₄ b o nb e)
      have hd : (enumV 0 vs).drop i = .tup [.int (i : Nat), u] :: (enumV 0 vs).drop (i + 1) := by
        rw [List.drop_eq_getElem_cons (by rw [enumV_len]; exact hi)]
        congr 1
        have := enumV_get 0 vs i u hu
        rw [List.getElem?_eq_getElem (by rw [enumV_len]; exact hi)] at this
        simpa using this
      rw [hd] at hG'
      -- the pair itself is a tuple, made just now
      have ra : VR h₄ (.tup [.int (i : Nat), u]) (.ref h'.objs.size) :=
        .tup (xs := #[.int i tt, y]) (n := 0) (im₄ _ _ hTup (.inl ⟨_, _, rfl⟩)) (.cons (.int _ _) (.cons (ry.mono im₄) .nil))
      refine hG' _ _ _ _ ra R₄ F₄ fun σ₅ loc₅ h₅ t₅ q R₅ F₅ S₅ => ?_
      refine q _ _ _ R₅ F₅ fun f gg σ₆ loc₆ h₆ t₆ q₆ R₆ F₆ rg S₆ => ?_
      have S56 := S₅.trans S₆
      have ex24 : ExtW [h₁.objs.size + 1, h₁.objs.size] h' h₄ := fun b o nb e => hkeep₄ b o nb (hkeep b o nb e)
      have St' : St (own env) σ σ₆ s.heap h₆ := ⟨S'.imm.trans (im₃.trans (im₄.trans S56.imm)), fun b o e q no => by
        have z := S'.keep b o e q no
        refine ⟨z.1.then fun o' e' => (S56.keep b o' (ex24 b o' (ho b o e q no) e') z.2 no).1, ?_⟩
        obtain ⟨o', e'⟩ := z.1.has
        exact (S56.keep b o' (ex24 b o' (ho b o e q no) e') z.2 no).2⟩
      have kw : ∀ b ∈ [h₁.objs.size + 1, h₁.objs.size], ∀ o, h₄.get? b = some o → h₆.get? b = some o ∧ σ₆ b = none := fun b hb' o e => by
        obtain ⟨o', e', _, nd⟩ := hwi _ _ hT₄ b hb'
        rw [e] at e'; cases e'
        have z := S56.keep b o e (hn b hb') fun z => (hw' b hb').2.2 z.reach
        exact ⟨z.1.exact nd, z.2⟩
      have next : (fun σ₂ loc₂ => True ∧ ForGo w hb A env (.Tuple elts k tp) body orelse (fun _ => True) R ((enumV 0 vs).drop (i + 1)) σ₂ loc₂) σ₆ loc₆ → _ := fun zz =>
        (⟨kk - 1, by walk_at "om", i + 1, σ₆, loc₆, h₆, t₆, rfl, by walk_at "om", zz.2, W.frame _ _ _ hT₄ (fun b hb' o e => by
            simp only [List.mem_cons, List.not_mem_nil, or_false] at hb'
            rcases hb' with rfl | rfl | rfl
            · exact (kw _ (by simp) o e).1
            · exact (kw _ (by simp) o e).1
            · obtain ⟨ol, hol, _⟩ := hT₄.2.2
              rw [hol] at e; cases e
              have h0 := (imT.trans im₄) _ _ ea (.inl ⟨_, _, rfl⟩)
              rw [hol] at h0; cases h0
              exact S56.imm _ _ hol (.inl ⟨_, _, rfl⟩)), R₆, F₆, St', fun b hb' => by
          obtain ⟨o, e, _⟩ := hwi _ _ hT₄ b hb'
          exact (kw b hb' o e).2, imT.trans (im₄.trans S56.imm)⟩ : ∃ m, m < kk ∧ EnI w hb A env σ elts k tp body orelse R h₁ l vs xs s m { s with heap := h₆, toks := t₆ })
      cases rg with
      | next => exact next q₆
      | cont => exact next q₆
      | brk => exact H _ _ _ _ _ _ q₆ R₆ F₆ .next St'
      | ret ra => exact H _ _ _ _ _ _ q₆ R₆ F₆ (.ret ra) St'
    · have hlen : i = vs.length := by walk_at "om"
      subst hlen
      refine W.done _ _ _ (by rw [← hvl]; exact hT') fun h₃ t₃ hkeep => ?_
      obtain ⟨R₃, F₃, im₃⟩ := ext_step R' F' hw' (hwi _ _ hT') (fun b o nb e => hkeep b o nb e)
      rw [show vs.length = (enumV 0 vs).length from (enumV_len _ _).symm, List.drop_length] at hG'
      refine hG' _ _ _ R₃ F₃ fun f g σ₄ loc₄ h₄ t₄ q R₄ F₄ rg S₄ => H _ _ _ _ _ _ q R₄ F₄ rg ⟨S'.imm.trans (im₃.trans S₄.imm), fun b o e q no => ?_⟩
      have z := S'.keep b o e q no
      refine ⟨z.1.then fun o' e' => (S₄.keep b o' (hkeep b o' (ho b o e q no) e') z.2 no).1, ?_⟩
      obtain ⟨o', e'⟩ := z.1.has
      exact (S₄.keep b o' (hkeep b o' (ho b o e q no) e') z.2 no).2
end
end

section
open PySem PySem.W PyProof PyProof.Rows PySem.Calls PySem.Spec

section
variable {w : World} {hb : Base} {A : Around} {env : Env} {σ : Hp} {loc : Loc}
/- all old things stay, and a new one stands at the old end -/
theorem Rep.newAt {h h' : Heap} {o : O} {D : Addr} (R : Rep w hb σ h) (keep : ∀ b o, h.get? b = some o → h'.get? b = some o) (hD : h.get? D = none) (hn : OR w h' D o) :
    σ D = none ∧ hb.get? D = none ∧ Rep w hb (upd σ D o) h' ∧ St (fun _ => False) σ (upd σ D o) h h' := by
  obtain ⟨R', S⟩ := R.grow keep
  refine ⟨R.none_of hD, fresh_hb R hD, ⟨fun b p e => ?_, R'.base, fun b ob e => ?_, fr_keep R.fr fun L o' s _ e d => ⟨?_, o', keep L o' e, d⟩⟩, S.imm, fun b ob e q _ => ⟨.of (keep b ob e), ?_⟩⟩
  · by_cases hb' : b = D
    · subst hb'; rw [upd_self] at e; cases e; exact hn
    · rw [upd_ne _ _ hb'] at e; exact R'.obj b p e
  · have : b ≠ D := fun y => by have := R.base b ob e; rw [y, hD] at this; cases this
    rw [upd_ne _ _ this]; exact R.apart b ob e
  · have : L ≠ D := fun y => by rw [y, hD] at e; cases e
    rw [upd_ne _ _ this]; exact s
  · have : b ≠ D := fun y => by rw [y, hD] at e; cases e
    rw [upd_ne _ _ this]; exact q
theorem Op_sum {n : Nat} (rm : Rm hb n A) {a : Addr} {ns : List Int} {Q : V → Hp → Prop} (e : σ a = some (.list (ns.map .int))) (h : Q (.int ns.sum) σ) : OpN w hb A [.ref a] (fun as => call (vOf (.val (.builtin "sum"))) as) σ Q := fun x s P E I R H => by
  cases I with
  | cons p r =>
    cases p; cases r
    obtain ⟨xs, m, ea, rs⟩ := R.obj a _ e
    have hi := ints_of rs
    obtain ⟨ys, hy⟩ := hi.allInts.items
    have hy' : xs = intItems ys := by simpa using hy
    have hn : ns = ys.toList.map (·.1) := by
      have h1 := hi.numsOf
      rw [hy', nums_intItems] at h1
      exact h1.symm
    refine sum_intListG (xs := ys) rm.hand (by rw [← hy']; exact PySem.IsL.isList ea) fun h' tk t' hk => ?_
    obtain ⟨R', S⟩ := R.grow hk
    have hs : preSum (numAt ys) ys.size = ns.sum := by rw [preSum_eq, hn, List.take_of_length_le (by simp)]
    rw [hs]
    exact H _ _ _ _ _ h R' (.int _ _) S
theorem Op_listrng {n m : Nat} (rm : Rm hb n A) {Q : V → Hp → Prop} (hz : m ≤ 1000) (h : ∀ D, σ D = none → hb.get? D = none → Q (.ref D) (upd σ D (.list ((List.range m).map fun i => .int (i : Nat))))) : OpN w hb A [.rng m] (fun as => call (vOf (.val (.type "list"))) as) σ Q := fun x s P E I R H => by
  cases I with
  | cons p r =>
    cases r
    cases p with
    | rng er =>
      refine call_list_range (n := m) rm.hand er (small_one (by walk_at "om") (by walk_at "om") (by walk_at "om") (by walk_at "om")) (by rw [rangeSize_one]; split <;> walk_at "om") (by walk_at "om") fun h' tk acc c keep eD hI => ?_
      have hv : VRs h' ((List.range m).map fun i => V.int (i : Nat)) acc.toList := by
        have : IntsAre acc.toList ((List.range m).map fun i => ((i : Nat) : Int)) := by
          obtain ⟨h1, h2⟩ := hI
          have gen : ∀ (l : List Value) (k : Nat), (∀ j v, l[j]? = some v → ∃ t, v = Value.int ((k + j : Nat) : Int) t) → IntsAre l ((List.range' k l.length).map fun i => ((i : Nat) : Int)) := by
            intro l
            induction l with
            | nil => intro k _; exact .nil
            | cons v l ih =>
              intro k hk
              obtain ⟨t, ht⟩ := hk 0 v rfl
              subst ht
              refine .cons _ t ?_
              have := ih (k + 1) fun j v hv => by
                obtain ⟨t, ht⟩ := hk (j + 1) v (by simpa using hv)
                exact ⟨t, by rw [ht]; congr 2; walk_at "om"⟩
              simpa using this
          have := gen acc.toList 0 fun j v hv => by
            obtain ⟨t, ht⟩ := h2 j v (by rw [← Array.getElem?_toList]; exact hv)
            exact ⟨t, by rw [ht]; simp⟩
          rw [Array.length_toList, h1, ← List.range_eq_range'] at this
          exact this
        have := of_ints (h := h') this
        rw [List.map_map] at this
        exact this
      obtain ⟨d1, d2, R', S⟩ := R.newAt (o := .list ((List.range m).map fun i => .int (i : Nat))) keep (get?_size s.heap) ⟨acc, c, eD, hv⟩
      exact H _ _ _ _ _ (h _ d1 d2) R' (.ref _) S

theorem Meth_join {x : Str} : Meth w hb A (.str x) σ (Str.ofString "join") "str.join" := fun b s pl P E ra R h => by
  cases ra
  exact getMethod_builtin (typeIs_str _ _ _) PySem.F.plainAttrs_str PySem.F.slot_str_join PySem.F.type_str_join (fun a e => by cases e) h
theorem strs_of {h : Heap} : ∀ {ss : List Str} {l : List Value}, VRs h (ss.map .str) l → ∃ ps : List (Str × Tok), l = strValues ps ∧ ps.map (·.1) = ss
  | [], _, x => ⟨[], x.inv0, rfl⟩
  | x :: ss, _, z => by
    obtain ⟨a, as, rfl, p, r⟩ := z.inv
    obtain ⟨t, rfl⟩ := p.inv_str
    obtain ⟨ps, h1, h2⟩ := strs_of r
    exact ⟨(x, t) :: ps, by simp [strValues] at h1 ⊢; exact h1, by simp [h2]⟩
theorem Op_join {a : Addr} {ss : List Str} {Q : V → Hp → Prop} (e : σ a = some (.list (ss.map .str))) (htl : Builtin.Str.tooLong (ss.toArray.foldl (· + ·.length + (S "").length) 0) = false) (hz : (Txt.join (S "") ss).length ≤ 1000) (h : Q (.str (Txt.join (S "") ss)) σ) :
    OpN w hb A [.str (S ""), .ref a] (fun as => call (.builtin "str.join") as) σ Q := fun x s P E I R H => by
  cases I with
  | cons p r => cases p; cases r with
    | cons q r =>
      cases q; cases r
      obtain ⟨xs, m, ea, rs⟩ := R.obj a _ e
      obtain ⟨ps, h1, h2⟩ := strs_of rs
      have hx : xs = (strValues ps).toArray := by rw [← h1]
      subst hx
      refine call_meets PySem.F.slot_str_join (typeIs_str _ _ _) PySem.F.entry_str_join (PySem.F.args_str_join_2 _ _) (meets_str_join_list (S "") _ a ps (by rw [h2]; exact htl)) ⟨PySem.IsL.isList ea, ?_⟩
      refine post_join ps ⟨by rw [h2, sizeLine]; walk_at "om", fun t' k => ?_⟩
      rw [h2]
      exact H _ _ _ s.heap _ h R (.str _ _) St.same
end
end

section
open PySem PySem.W PyProof PyProof.Rows PySem.Calls PySem.Spec

section
variable {w : World} {hb : Base} {A : Around} {env : Env} {σ : Hp} {loc : Loc}
theorem As.mono {t : Expr} {v : V} {Q Q' : Hp → Loc → Prop} (h : As w hb A env t v σ loc Q) (k : ∀ σ' loc', Q σ' loc' → Q' σ' loc') : As w hb A env t v σ loc Q' := fun a s P E ra R F H =>
  h a s P E ra R F fun σ' loc' h' tk' q => H σ' loc' h' tk' (k _ _ q)
theorem Turn.mono {N N' : Hp → Loc → Prop} {R R' : Fl → Hp → Loc → Prop} (h : ∀ σ loc, N σ loc → N' σ loc) (hR : ∀ f σ loc, R f σ loc → R' f σ loc) : ∀ {f : Fl} {σ : Hp} {loc : Loc}, Turn N R f σ loc → Turn N' R' f σ loc
  | .next, _, _, x => h _ _ x
  | .cont, _, _, x => h _ _ x
  | .brk, _, _, x => hR _ _ _ x
  | .ret _, _, _, x => hR _ _ _ x
/- a for with an invariant of what is still to come -/
theorem ForGo_inv {target : Expr} {body orelse : List Stmt} {C : Hp → Prop} {R : Fl → Hp → Loc → Prop} (I : List V → Hp → Loc → Prop)
    (step : ∀ v vs σ loc, I (v :: vs) σ loc → As w hb A env target v σ loc fun σ₁ loc₁ => Ex w hb A env (execs body env) σ₁ loc₁ (Turn (fun σ₂ loc₂ => C σ₂ ∧ I vs σ₂ loc₂) R))
    (done : ∀ σ loc, I [] σ loc → Ex w hb A env (execs orelse env) σ loc R) : ∀ {items : List V} {σ : Hp} {loc : Loc}, I items σ loc → ForGo w hb A env target body orelse C R items σ loc
  | [], σ, loc, h => done σ loc h
  | v :: vs, σ, loc, h => (step v vs σ loc h).mono fun σ₁ loc₁ q => Tr.mono q fun f σ₂ loc₂ q₂ => Turn.mono (fun σ₃ loc₃ q₃ => ⟨q₃.1, ForGo_inv I step done q₃.2⟩) (fun _ _ _ x => x) q₂
theorem Tests.mono {ifs : List Expr} {Q Q' : Bool → Hp → Loc → Prop} (h : Tests w hb A env ifs σ loc Q) (k : ∀ b σ' loc', Q b σ' loc' → Q' b σ' loc') : Tests w hb A env ifs σ loc Q' := by
  match ifs, h with
  | [], h => exact k _ _ _ h
  | [c], h => exact Tr.mono h k
/- a comprehension with an invariant -/
theorem CompGo_inv {target elt : Expr} {ifs : List Expr} {C : Hp → Prop} {K : List V → Hp → Prop} (I : List V → List V → Hp → Loc → Prop)
    (step : ∀ v vs acc σ loc, I (v :: vs) acc σ loc → As w hb A env target v σ loc fun σ₁ loc₁ => Tests w hb A env ifs σ₁ loc₁ fun b σ₂ loc₂ => match b with
      | true => Ev w hb A env (eval elt env) σ₂ loc₂ fun y σ₃ loc₃ => C σ₃ ∧ I vs (acc ++ [y]) σ₃ loc₃
      | false => C σ₂ ∧ I vs acc σ₂ loc₂)
    (done : ∀ acc σ loc, I [] acc σ loc → K acc σ) : ∀ {items acc : List V} {σ : Hp} {loc : Loc}, I items acc σ loc → CompGo w hb A env target ifs elt C K items acc σ loc
  | [], acc, σ, loc, h => done acc σ loc h
  | v :: vs, acc, σ, loc, h => (step v vs acc σ loc h).mono fun σ₁ loc₁ q => Tests.mono q fun b σ₂ loc₂ q₂ => by
    cases b with
    | true => exact Tr.mono q₂ fun y σ₃ loc₃ q₃ => ⟨q₃.1, CompGo_inv I step done q₃.2⟩
    | false => exact ⟨q₂.1, CompGo_inv I step done q₂.2⟩
end
end

open PySem PySem.W PyProof PyProof.Rows PySem.Calls PySem.Spec
local macro_rules | `(tactic| walk_at "hp") => `(tactic| first | with_reducible assumption | exact upd_self _ _ _ | (refine (upd_ne _ _ ?_).trans ?_; (first | assumption | (apply Ne.symm; assumption)); walk_at "hp"))
local macro_rules | `(tactic| walk_at "hlt") => `(tactic| first | exact Nat.lt_succ_self _ | (refine Nat.lt_succ_of_lt ?_; walk_at "hlt") | exact Nat.lt_of_lt_of_le (Nat.lt_succ_self _) (Nat.le_add_right _ _))
local macro_rules | `(tactic| walk_at "gn") => `(tactic| with_reducible first | exact gn_siftdown _ | exact gn_siftup _ | exact gn_heappush _ | exact gn_heappop _ | exact gn_heapify _)
local macro_rules | `(tactic| walk_at "bn") => `(tactic| with_reducible first | exact bn_len _ | exact bn_range _ | exact bn_reversed _)
local macro_rules | `(tactic| walk_at "ga") => `(tactic| with_reducible first
  | refine Then_next ?_ | refine Ex_nil ?_ | refine Ex_cons ?_ | refine Ex_return ?_ | refine Ex_break ?_ | refine Ex_continue ?_ | refine Then_ret ?_ | refine Then_brk ?_ | refine Then_cont ?_ | refine Turn_next ?_ | refine Turn_cont ?_ | refine Turn_brk ?_ | refine Turn_ret ?_ | refine Ret_next ?_ | refine Ret_ret ?_ | refine As_Sub ?_ | refine Ev_int ?_ | refine Ev_str ?_ | refine Ev_none ?_ | refine Ev_bool ?_ | refine Ev_BinOp ?_ | refine Ev_from ?_ | refine Ev_upto ?_ | refine Ev_Sub ?_ | refine EvL_nil ?_ | refine Ev_Tuple ?_ | refine Ev_List ?_ | refine EvB_Not ?_ | refine EvB_And2 ?_ | refine Op_add ?_ | refine Op_sub ?_)
local macro_rules | `(tactic| walk_at "gc") => `(tactic| first
  | (with_reducible refine Ex_assign ?_ ?_ ?_ ?_); rotate_left; rfl; rfl; rfl
  | (with_reducible refine Ex_expr ?_ ?_ ?_); rotate_left; rfl; rfl
  | (with_reducible refine As_local ?_ ?_ ?_); rfl; rotate_left; rfl
  | (with_reducible refine' As_cell ?hl ?hc ?hlt ?_ ?hk); (case hl => rfl); (case hc => rfl); (case hlt => walk_at "hlt"); (case hk => rfl)
  | (with_reducible refine' Ev_local ?hl ?e ?_ ?hk ?hd); (case hl => rfl); (case e => walk_at "lk"); (case hk => rfl); (case hd => decide)
  | (with_reducible refine' Ev_boot ?B ?g ?_ ?hx ?hg ?hbn ?hk ?hd); (case B => assumption); (case g => walk_at "bn"); (case hx => rfl); (case hg => rfl); (case hbn => rfl); (case hk => rfl); (case hd => decide)
  | (with_reducible refine' Ev_gval ?B ?g ?_ ?hx ?hg ?hk ?hd); (case B => assumption); (case g => walk_at "gn"); (case hx => rfl); (case hg => rfl); (case hk => rfl); (case hd => decide)
  | (with_reducible refine' Ev_cell ?hl ?hc ?e ?_ ?hk ?hd); (case hl => rfl); (case hc => rfl); (case e => walk_at "lk"); (case hk => rfl); (case hd => decide)
  | (with_reducible refine EvL_cons ?_ ?_); rotate_left; rfl
  | (with_reducible refine Ev_Compare1 ?_ ?_); rotate_left; with_unfolding_all rfl
  | (with_reducible refine EvB_Compare1 ?_ ?_); rotate_left; with_unfolding_all rfl
  | (with_reducible refine EvB_value ?_ ?_); rotate_left; rfl
  | refine ⟨calls_bi, ?_⟩
  | refine ⟨calls_ty, ?_⟩
  | refine ⟨calls_fn rfl rfl, ?_⟩
  | refine ⟨_, Meth_append (by walk_at "hp"), ?_⟩
  | refine ⟨_, Meth_pop (by walk_at "hp"), ?_⟩)
local macro_rules | `(tactic| walk_at "ge") => `(tactic| first
  | walk_at "ga" | walk_at "gc"
  | (with_reducible refine' Ev_meth1 ?_ ?he ?hst ?hp); (case he => rfl); (case hst => rfl); (case hp => rfl)
  | (with_reducible refine' Ev_meth0 ?_ ?he); (case he => rfl)
  | (with_reducible refine Ev_call ?_ ?_ ?_ ?_ ?_); assumption; rotate_left; rfl; rfl; rfl)
local macro_rules | `(tactic| walk_at "go") => `(tactic| first | walk_at "ge" | (with_reducible refine Ex_if ?_))
section
open PySem PySem.W PyProof.Rows PySem.Calls PySem.Spec

section
variable {α : Type} (lt : α → α → Bool)
noncomputable def pushF (ks : List α) (x : α) : List α := sdF lt x 0 ks.length ks.length (ks ++ [x])
/- the least and what is left -/
noncomputable def popF (rest : List α) (last : α) : α × List α := match rest with
  | [] => (last, [])
  | r :: rs => (r, siftup lt (last :: rs) 0)
end

section
variable {w : World} {hb : Base} {A : Around} {σ : Hp}
theorem push_call (B : Bs w hb.h) {n : Nat} (rm : Rm hb (n + 2) A) {l : Addr} {ks : List (Str × Int)} {x : Str × Int} {Q : V → Hp → Prop} (e : σ l = some (.list (ks.map keyV))) (hz : ks.length < 900)
    (h : Q .none (upd σ l (.list ((pushF keyLt ks x).map keyV)))) :
    OpN w hb A [.ref l, keyV x] (fun as => call (.ref 28) as) σ Q := by
  refine call_fn B (n := n + 1) (names := [S "heap", S "item"]) rm rfl rfl rfl rfl rfl ?_ rfl rfl (by decide) (by decide) ?_
  · exact of_len2 fun _ _ => rfl
  intro hb L A' hh hfr B rm'
  repeat walk_at "go"
  refine Op_append e (by simp only [List.length_map, sizeLine]; walk_at "om") ?_
  have e2 : ks.map keyV ++ [keyV x] = (ks ++ [x]).map keyV := by simp
  rw [e2]
  repeat walk_at "go"
  refine Op_len (vs := (ks ++ [x]).map keyV) (upd_self _ _ _) (by simp; walk_at "om") ?_
  have e3 : (((ks ++ [x]).map keyV).length : Int) - 1 = (ks.length : Nat) := by simp
  repeat walk_at "go"
  rw [e3]
  refine sd_call B (start := 0) rm' (upd_self _ _ _) (x := x) (by simp) (by simp; walk_at "om") ?_
  rw [upd_upd]
  repeat walk_at "go"
  exact h
theorem pop_call (B : Bs w hb.h) {n : Nat} (rm : Rm hb (n + 3) A) {l : Addr} {rest : List (Str × Int)} {last : Str × Int} {Q : V → Hp → Prop} (e : σ l = some (.list ((rest ++ [last]).map keyV))) (hz : rest.length < 900)
    (h : Q (keyV (popF keyLt rest last).1) (upd σ l (.list ((popF keyLt rest last).2.map keyV)))) :
    OpN w hb A [.ref l] (fun as => call (.ref 35) as) σ Q := by
  refine call_fn B (n := n + 2) (names := [S "heap"]) rm rfl rfl rfl rfl rfl ?_ rfl rfl (by decide) (by decide) ?_
  · exact of_len1 fun _ => rfl
  intro hb L A' hh hfr B rm'
  have e' : σ l = some (.list (rest.map keyV ++ [keyV last])) := by rw [e]; simp
  repeat walk_at "go"
  refine Op_pop e' (by simp [sizeLine]; walk_at "om") ?_
  repeat walk_at "go"
  refine OpB_list (vs := rest.map keyV) (upd_self _ _ _) (by simp; walk_at "om") ?_
  cases rest with
  | nil =>
    show Ex w hb A' _ _ _ _ _
    repeat walk_at "go"
    exact h
  | cons r rs =>
    show Ex w hb A' _ _ _ _ _
    repeat walk_at "go"
    refine Sub_at (k := 0) (vs := (r :: rs).map keyV) (upd_self _ _ _) (x := keyV r) rfl (by walk_at "om") ?_
    repeat walk_at "go"
    refine OpS_at (k := 0) (vs := (r :: rs).map keyV) (upd_self _ _ _) (by simp) (by walk_at "om") ?_
    have e2 : (List.map keyV (r :: rs)).set 0 (keyV last) = (last :: rs).map keyV := rfl
    rw [upd_upd, e2]
    repeat walk_at "go"
    refine su_call B (pos := 0) rm' (upd_self _ _ _) (by simp) (by simp at hz ⊢; walk_at "om") ?_
    rw [upd_upd]
    repeat walk_at "go"
    exact h

/- the list made a heap: two of its places are sifted -/
noncomputable def heapifyF {α : Type} (lt : α → α → Bool) (ks : List α) : List α := siftup lt (siftup lt ks 1) 0
theorem siftup_len {α : Type} (lt : α → α → Bool) (l : List α) (pos : Nat) : (siftup lt l pos).length = l.length := by
  unfold siftup
  split
  · rfl
  · rename_i x hx
    have := suF_spec lt l.length pos l (List.getElem?_eq_some_iff.mp hx).1
    simp only [sdF_len, List.length_set, this.1]
theorem heapify_call (B : Bs w hb.h) {n : Nat} (rm : Rm hb (n + 3) A) {l : Addr} {ks : List (Str × Int)} {Q : V → Hp → Prop} (e : σ l = some (.list (ks.map keyV))) (hz : ks.length = 4 ∨ ks.length = 5)
    (h : Q .none (upd σ l (.list ((heapifyF keyLt ks).map keyV)))) :
    OpN w hb A [.ref l] (fun as => call (.ref 42) as) σ Q := by
  refine call_fn B (n := n + 2) (names := [S "x"]) rm rfl rfl rfl rfl rfl ?_ rfl rfl (by decide) (by decide) ?_
  · exact of_len1 fun _ => rfl
  intro hb L A' hh hfr B rm'
  repeat walk_at "go"
  refine Op_len e (by simp; walk_at "om") ?_
  repeat walk_at "go"
  refine Ex_for (It_reversed B rm' (bn_reversed w) ?_ rfl)
  repeat walk_at "go"
  refine Op_div (by decide) (PyProof.noPylong_small (by decide)) ?_
  have e2 : (((ks.map keyV).length : Int)).fdiv 2 = ((2 : Nat) : Int) := by
    rw [List.length_map, Int.fdiv_eq_ediv_of_nonneg _ (by decide)]
    walk_at "om"
  rw [e2]
  repeat walk_at "go"
  refine Op_range ⟨rfl, ?_⟩
  unfold ForGo
  repeat walk_at "go"
  refine su_call B (pos := 1) rm' e (by walk_at "om") (by walk_at "om") ?_
  repeat walk_at "go"
  refine ⟨trivial, ?_⟩
  unfold ForGo
  repeat walk_at "go"
  refine su_call B (pos := 0) rm' (upd_self _ _ _) (by rw [siftup_len]; walk_at "om") (by rw [siftup_len]; walk_at "om") ?_
  rw [upd_upd]
  repeat walk_at "go"
  refine ⟨trivial, ?_⟩
  unfold ForGo
  repeat walk_at "go"
  exact h
end
end

section
open PySem PySem.W PyProof PyProof.Rows PySem.Calls PySem.Spec
theorem gn_sifmt (w : World) : GN w (S "S_IFMT") (.ref 183) := by unfold GN; kernel_rfl
theorem gn_table (w : World) : GN w (S "_filemode_table") (.ref 216) := by unfold GN; kernel_rfl
theorem gn_filemode (w : World) : GN w (S "filemode") (.ref 223) := by unfold GN; kernel_rfl
theorem bn_enumerate (w : World) : BN w (S "enumerate") (.type "enumerate") := ⟨by kernel_rfl, by kernel_rfl, by decide⟩
end
local macro_rules | `(tactic| walk_at "gn") => `(tactic| with_reducible first | exact gn_sifmt _ | exact gn_filemode _)
section
open PySem PySem.W PyProof PyProof.Rows PySem.Calls PySem.Spec

noncomputable def tabI : List (List (Int × String)) := [[(40960, "l"), (49152, "s"), (32768, "-"), (24576, "b"), (16384, "d"), (8192, "c"), (4096, "p")], [(256, "r")], [(128, "w")], [(2112, "s"), (2048, "S"), (64, "x")], [(32, "r")], [(16, "w")], [(1032, "s"), (1024, "S"), (8, "x")], [(4, "r")], [(2, "w")], [(513, "t"), (512, "T"), (1, "x")]]
noncomputable def pairV (p : Int × String) : V := .tup [.int p.1, .str (S p.2)]
noncomputable def rowV (r : List (Int × String)) : V := .tup (r.map pairV)
noncomputable def tabV : V := .tup (tabI.map rowV)
theorem tab_is {w : World} {h : Heap} (hX : (KF w).In h) : VR h tabV (.ref 216) := by
  unfold tabV tabI rowV pairV
  simp only [List.map_cons, List.map_nil]
  repeat (first | exact .nil | exact .int _ _ | exact .str _ _ | refine .cons ?_ ?_ | refine .tup (hX _ _ rfl) ?_)

noncomputable def hit (m : Int) (k : Nat) (b : Int) : Bool := if k = 0 then Builtin.bitAnd m 61440 == b else Builtin.bitAnd m b == b
noncomputable def sgn (m : Int) (k : Nat) : List (Int × String) → String
  | [] => if k = 0 then "?" else "-"
  | (b, c) :: r => if hit m k b then c else sgn m k r
noncomputable def sgns (m : Int) : Nat → List (List (Int × String)) → List String
  | _, [] => []
  | k, r :: rs => sgn m k r :: sgns m (k + 1) rs

theorem join_codes : ∀ l : List Str, Txt.join (S "") l = ⟨(l.flatMap (·.cps.toList)).toArray⟩ := by
  intro l
  have e : Txt.join (S "") l = Str.join (S "") l := by unfold Txt.join; exact PySem.StrLaws.glued_eq_join _ _
  rw [e]
  induction l with
  | nil => rfl
  | cons x r ih => cases r with
    | nil => simp [Str.join]
    | cons y r =>
      have h1 : Str.join (S "") (x :: y :: r) = x ++ S "" ++ Str.join (S "") (y :: r) := rfl
      rw [h1, ih (by unfold Txt.join; exact PySem.StrLaws.glued_eq_join _ _)]
      show (⟨(x.cps ++ #[]) ++ _⟩ : Str) = _
      congr 1
      apply Array.toList_inj.mp
      simp
theorem sgn_len {m : Int} {k : Nat} : ∀ {r : List (Int × String)}, (∀ p ∈ r, (S p.2).length = 1) → (S (sgn m k r)).length = 1
  | [], _ => by unfold sgn; split <;> rfl
  | (b, c) :: r, h => by
    unfold sgn
    split
    · exact h (b, c) (by simp)
    · exact sgn_len fun p hp => h p (by simp [hp])
theorem sgns_len {m : Int} : ∀ {rs : List (List (Int × String))} {k : Nat}, (∀ r ∈ rs, ∀ p ∈ r, (S p.2).length = 1) → ∀ x ∈ (sgns m k rs).map S, x.length = 1
  | [], k, _, x, hx => by simp [sgns] at hx
  | r :: rs, k, h, x, hx => by
    simp only [sgns, List.map_cons, List.mem_cons] at hx
    rcases hx with rfl | hx
    · exact sgn_len (h r (by simp))
    · exact sgns_len (fun r' hr => h r' (by simp [hr])) x hx
theorem tab_len : ∀ r ∈ tabI, ∀ p ∈ r, (S p.2).length = 1 := by decide
theorem fold_len : ∀ (ss : List Str) (a : Nat), (∀ x ∈ ss, x.length = 1) → ss.foldl (fun a x => a + x.length + (S "").length) a = a + ss.length
  | [], a, _ => rfl
  | x :: ss, a, h => by
    rw [List.foldl_cons, fold_len ss _ fun y hy => h y (by simp [hy]), h x (by simp)]
    show a + 1 + 0 + ss.length = a + (ss.length + 1)
    walk_at "om"
theorem flat_len : ∀ (ss : List Str), (∀ x ∈ ss, x.length = 1) → (ss.flatMap (·.cps.toList)).length = ss.length
  | [], _ => rfl
  | x :: ss, h => by
    rw [List.flatMap_cons, List.length_append, flat_len ss fun y hy => h y (by simp [hy])]
    have : x.cps.toList.length = 1 := by have := h x (by simp); simpa [Str.length] using this
    simp [this]; walk_at "om"
theorem sgns_count (m : Int) : ∀ (rs : List (List (Int × String))) (k : Nat), (sgns m k rs).length = rs.length
  | [], _ => rfl
  | r :: rs, k => congrArg Nat.succ (sgns_count m rs (k + 1))

section
variable {w : World} {hb : Base} {A : Around} {σ : Hp}
theorem sifmt_call (B : Bs w hb.h) {n : Nat} (rm : Rm hb (n + 1) A) {m : Int} {Q : V → Hp → Prop} (h : Q (.int (Builtin.bitAnd m 61440)) σ) : OpN w hb A [.int m] (fun as => call (.ref 183) as) σ Q := by
  refine call_fn B (n := n) (names := [S "mode"]) rm rfl rfl rfl rfl rfl ?_ rfl rfl (by decide) (by decide) ?_
  · exact of_len1 fun _ => rfl
  intro hb L A' hh hfr B rm'
  repeat walk_at "go"
  refine Op_and ?_
  repeat walk_at "go"
  exact h

noncomputable abbrev FmA (σ : Hp) (m : Int) (p : Addr) (rest : List V) (σ' : Hp) (loc' : Loc) : Prop := ∃ k rows done, C7 (rest = enumV k (rows.map rowV)) (sgns m 0 tabI = done ++ sgns m k rows) (σ' = upd σ p (.list (done.map fun x => .str (S x)))) (done.length ≤ k) (k + rows.length ≤ 10) (loc'.lookup (S "perm") = some (.ref p)) (loc'.lookup (S "mode") = some (.int m))
noncomputable abbrev FmB (σ : Hp) (m : Int) (p : Addr) (k : Nat) (r : List (Int × String)) (done : List String) (rest : List V) (σ'' : Hp) (loc'' : Loc) : Prop := ∃ r', C6 (rest = r'.map pairV) (sgn m k r' = sgn m k r) (σ'' = upd σ p (.list (done.map fun x => .str (S x)))) (loc''.lookup (S "perm") = some (.ref p)) (loc''.lookup (S "mode") = some (.int m)) (loc''.lookup (S "index") = some (.int (k : Nat)))
theorem filemode_call (B : Bs w hb.h) {n : Nat} (rm : Rm hb (n + 2) A) {m : Int} {Q : V → Hp → Prop}
    (h : ∀ D, σ D = none → hb.get? D = none → Q (.str (Txt.join (S "") ((sgns m 0 tabI).map S))) (upd σ D (.list ((sgns m 0 tabI).map fun x => .str (S x))))) : OpN w hb A [.int m] (fun as => call (.ref 223) as) σ Q := by
  refine call_fn B (n := n + 1) (names := [S "mode"]) rm rfl rfl rfl rfl rfl ?_ rfl rfl (by decide) (by decide) ?_
  · exact of_len1 fun _ => rfl
  intro hb L A' hh hfr B rm'
  repeat walk_at "go"
  refine ⟨by decide, fun p hp hp' => ?_⟩
  repeat walk_at "go"
  refine Tr.mono (Ex_for_enum B rm' (R := fun fl σ' loc' => fl = .next ∧ σ' = upd σ p (.list ((sgns m 0 tabI).map fun x => .str (S x))) ∧ loc'.lookup (S "perm") = some (.ref p)) (bn_enumerate w) ?_ rfl) ?_
  rotate_left
  · rintro fl σ' loc' ⟨rfl, rfl, l1⟩
    repeat walk_at "go"
    refine ⟨_, Meth_join, ?_⟩
    repeat walk_at "go"
    refine Op_join (ss := (sgns m 0 tabI).map S) (by rw [upd_self]; simp) ?_ ?_ ?_
    · rw [List.foldl_toArray, fold_len _ _ (sgns_len tab_len), List.length_map, sgns_count]; decide
    · rw [join_codes]
      show Array.size _ ≤ _
      simp only [List.size_toArray]
      rw [flat_len _ (sgns_len tab_len), List.length_map, sgns_count]; decide
    repeat walk_at "go"
    exact h p hp (Base.back hh hp')
  · refine Ev_glob B (gn_table w) (fun h hX => tab_is hX) ⟨_, rfl, ?_⟩ rfl
    refine ForGo_inv (FmA σ m p) ?_ ?_ ?_
    rotate_left 2
    · exact ⟨0, tabI, [], rfl, rfl, rfl, by simp, by decide, by walk_at "lk", by walk_at "lk"⟩
    · rintro v vs σ' loc' ⟨k, rows, done, hr, hs, rfl, hdk, hk10, l1, l2⟩
      cases rows with
      | nil => simp [enumV] at hr
      | cons r rows =>
        simp only [List.map_cons, enumV, List.cons.injEq] at hr
        obtain ⟨rfl, rfl⟩ := hr
        have hz : done.length ≤ 10 := by simp at hk10; walk_at "om"
        refine As_pair rm' ?_
        repeat walk_at "go"
        refine Tr.mono (Ex_for (It_src ?_) (R := fun fl σ'' loc'' => C4 (fl = .next) (σ'' = upd σ p (.list ((done ++ [sgn m k r]).map fun x => .str (S x)))) (loc''.lookup (S "perm") = some (.ref p)) (loc''.lookup (S "mode") = some (.int m)))) ?_
        rotate_left
        · rintro fl σ'' loc'' ⟨rfl, rfl, l1, l2⟩
          repeat walk_at "go"
          exact ⟨trivial, k + 1, rows, done ++ [sgn m k r], rfl, by rw [hs, sgns]; simp, rfl, by simp; walk_at "om", by simp at hk10; walk_at "om", l1, l2⟩
        · repeat walk_at "go"
          refine ⟨_, _, src_tup rm', trivial, ?_⟩
          refine ForGo_inv (FmB σ m p k r done) ?_ ?_ ⟨r, rfl, rfl, rfl, by walk_at "lk", by walk_at "lk", by walk_at "lk"⟩
          · rintro v vs σ'' loc'' ⟨r', hr', hs', rfl, l1, l2, l3⟩
            cases r' with
            | nil => simp at hr'
            | cons q r' =>
              obtain ⟨b, c⟩ := q
              simp only [List.map_cons, List.cons.injEq] at hr'
              obtain ⟨rfl, rfl⟩ := hr'
              refine As_pair rm' ?_
              repeat walk_at "go"
              refine Op_eq ⟨_, rfl, ?_⟩
              by_cases hk : k = 0
              · have hk' : ((k : Nat) : Int) == 0 := by simp [hk]
                rw [hk']
                show Ex w hb A' _ _ _ _ _
                repeat walk_at "go"
                refine sifmt_call B rm' ?_
                repeat walk_at "go"
                refine Op_eq ⟨_, rfl, ?_⟩
                cases hh : (Builtin.bitAnd m 61440 == b) with
                | true =>
                  have hsg : sgn m k r = c := by rw [← hs', sgn, hit, if_pos hk, hh]; rfl
                  show Ex w hb A' _ _ _ _ _
                  repeat walk_at "go"
                  refine Op_append (vs := done.map fun x => .str (S x)) (upd_self _ _ _) (by simp [sizeLine]; walk_at "om") ?_
                  repeat walk_at "go"
                  rw [upd_upd, hsg]
                  exact ⟨rfl, by simp, by walk_at "lk", by walk_at "lk"⟩
                | false =>
                  have hsg : sgn m k r' = sgn m k r := by rw [← hs', sgn, hit, if_pos hk, hh]; rfl
                  show Ex w hb A' _ _ _ _ _
                  repeat walk_at "go"
                  exact ⟨trivial, r', rfl, hsg, rfl, by walk_at "lk", by walk_at "lk", by walk_at "lk"⟩
              · have hk' : (((k : Nat) : Int) == 0) = false := by simp; walk_at "om"
                rw [hk']
                show Ex w hb A' _ _ _ _ _
                repeat walk_at "go"
                refine Op_and ?_
                repeat walk_at "go"
                refine Op_eq ⟨_, rfl, ?_⟩
                cases hh : (Builtin.bitAnd m b == b) with
                | true =>
                  have hsg : sgn m k r = c := by rw [← hs', sgn, hit, if_neg hk, hh]; rfl
                  show Ex w hb A' _ _ _ _ _
                  repeat walk_at "go"
                  refine Op_append (vs := done.map fun x => .str (S x)) (upd_self _ _ _) (by simp [sizeLine]; walk_at "om") ?_
                  repeat walk_at "go"
                  rw [upd_upd, hsg]
                  exact ⟨rfl, by simp, by walk_at "lk", by walk_at "lk"⟩
                | false =>
                  have hsg : sgn m k r' = sgn m k r := by rw [← hs', sgn, hit, if_neg hk, hh]; rfl
                  show Ex w hb A' _ _ _ _ _
                  repeat walk_at "go"
                  exact ⟨trivial, r', rfl, hsg, rfl, by walk_at "lk", by walk_at "lk", by walk_at "lk"⟩
          · rintro σ'' loc'' ⟨r', hr', hs', rfl, l1, l2, l3⟩
            cases r' with
            | cons q r' => simp at hr'
            | nil =>
              rw [sgn] at hs'
              repeat walk_at "go"
              refine Op_eq ⟨_, rfl, ?_⟩
              by_cases hk : k = 0
              · have hk' : ((k : Nat) : Int) == 0 := by simp [hk]
                rw [hk']
                rw [if_pos hk] at hs'
                show Ex w hb A' _ _ _ _ _
                repeat walk_at "go"
                refine Op_append (vs := done.map fun x => .str (S x)) (upd_self _ _ _) (by simp [sizeLine]; walk_at "om") ?_
                repeat walk_at "go"
                rw [upd_upd, ← hs']
                exact ⟨rfl, by simp, by walk_at "lk", by walk_at "lk"⟩
              · have hk' : (((k : Nat) : Int) == 0) = false := by simp; walk_at "om"
                rw [hk']
                rw [if_neg hk] at hs'
                show Ex w hb A' _ _ _ _ _
                repeat walk_at "go"
                refine Op_append (vs := done.map fun x => .str (S x)) (upd_self _ _ _) (by simp [sizeLine]; walk_at "om") ?_
                repeat walk_at "go"
                rw [upd_upd, ← hs']
                exact ⟨rfl, by simp, by walk_at "lk", by walk_at "lk"⟩
    · rintro σ' loc' ⟨k, rows, done, hr, hs, rfl, hdk, hk10, l1, l2⟩
      cases rows with
      | cons r rows => simp [enumV] at hr
      | nil =>
        repeat walk_at "go"
        rw [hs]
        exact ⟨rfl, by simp [sgns], l1⟩
end
end

section
open PySem PySem.W PyProof PyProof.Rows PySem.Calls PySem.Spec

noncomputable def rngV (k n : Nat) : List V := (List.range' k n).map fun i => .int (i : Nat)
theorem rngV_zero (n : Nat) : ((List.range n).map fun i => V.int (i : Nat)) = rngV 0 n := by rw [rngV, List.range_eq_range']
theorem rngV_cons (k n : Nat) : rngV k (n + 1) = .int (k : Nat) :: rngV (k + 1) n := rfl
theorem rngV_nil (k : Nat) : rngV k 0 = [] := rfl
theorem rngV_len (k n : Nat) : (rngV k n).length = n := by simp [rngV]

theorem ofNat_toNat {i : Int} (h : 0 ≤ i) : ((i.toNat : Nat) : Int) = i := Int.toNat_of_nonneg h
theorem not_not (x : Int) : Builtin.bitNot (Builtin.bitNot x) = x := by unfold Builtin.bitNot; walk_at "om"
theorem and_nat (m n : Nat) : Builtin.bitAnd (m : Nat) (n : Nat) = ((m &&& n : Nat) : Int) := by rw [bitAnd_pp (by walk_at "om") (by walk_at "om")]; simp
theorem or_nat (m n : Nat) : Builtin.bitOr (m : Nat) (n : Nat) = ((m ||| n : Nat) : Int) := by
  unfold Builtin.bitOr
  rw [bitAnd_nn (by unfold Builtin.bitNot; walk_at "om") (by unfold Builtin.bitNot; walk_at "om"), not_not, not_not, not_not]; simp
noncomputable def Nine (i : Int) : Prop := 0 ≤ i ∧ i < 512
theorem nine_or {a b : Int} (ha : Nine a) (hb : Nine b) : Nine (Builtin.bitOr a b) := by
  obtain ⟨m, rfl⟩ : ∃ m : Nat, a = m := ⟨a.toNat, (Int.toNat_of_nonneg ha.1).symm⟩
  obtain ⟨n, rfl⟩ : ∃ m : Nat, b = m := ⟨b.toNat, (Int.toNat_of_nonneg hb.1).symm⟩
  have h1 : m < 2 ^ 9 := by have := ha.2; walk_at "om"
  have h2 : n < 2 ^ 9 := by have := hb.2; walk_at "om"
  have := Nat.or_lt_two_pow h1 h2
  rw [or_nat]
  exact ⟨by walk_at "om", by walk_at "om"⟩
theorem nine_and {a b : Int} (ha : Nine a) (hb : Nine b) : Nine (Builtin.bitAnd a b) := by
  obtain ⟨m, rfl⟩ : ∃ m : Nat, a = m := ⟨a.toNat, (Int.toNat_of_nonneg ha.1).symm⟩
  obtain ⟨n, rfl⟩ : ∃ m : Nat, b = m := ⟨b.toNat, (Int.toNat_of_nonneg hb.1).symm⟩
  have h1 : m < 2 ^ 9 := by have := ha.2; walk_at "om"
  have h2 : n < 2 ^ 9 := by have := hb.2; walk_at "om"
  have : m &&& n < 2 ^ 9 := Nat.and_lt_two_pow _ h2
  rw [and_nat]
  exact ⟨by walk_at "om", by walk_at "om"⟩

section
variable {w : World} {hb : Base} {A : Around} {σ : Hp}
noncomputable abbrev MdA (σ : Hp) (p a : Addr) (rest : List V) (σ' : Hp) (loc' : Loc) : Prop := ∃ (k n : Nat) (ms : List Int), C7 (rest = rngV k n) (k + n = 5) (ms.length = k) (∀ x ∈ ms, Nine x) (σ' = upd σ p (.list (ms.map .int))) (loc'.lookup (S "modes") = some (.ref p)) (loc'.lookup (S "numbers") = some (.ref a))
theorem modes_call (B : Bs w hb.h) {n : Nat} (rm : Rm hb (n + 1) A) {a : Addr} {ns : List Int} {Q : V → Hp → Prop} (e : σ a = some (.list (ns.map .int))) (hl : ns.length = 5)
    (h : ∀ (D : Addr) (ms : List Int), σ D = none → hb.get? D = none → ms.length = 5 → (∀ x ∈ ms, Nine x) → Q (.ref D) (upd σ D (.list (ms.map .int)))) : OpN w hb A [.ref a] (fun as => call (.ref 230) as) σ Q := by
  refine call_fn B (n := n) (names := [S "numbers"]) rm rfl rfl rfl rfl rfl ?_ rfl rfl (by decide) (by decide) ?_
  · exact of_len1 fun _ => rfl
  intro hb L A' hh hfr B rm'
  repeat walk_at "go"
  refine ⟨by decide, fun p hp hp' => ?_⟩
  have hpa : a ≠ p := fun z => by rw [← z, e] at hp; cases hp
  repeat walk_at "go"
  refine Tr.mono (Ex_for (It_src ?_) (R := fun fl σ' loc' => ∃ ms : List Int, C5 (fl = .next) (ms.length = 5) (∀ x ∈ ms, Nine x) (σ' = upd σ p (.list (ms.map .int))) (loc'.lookup (S "modes") = some (.ref p)))) ?_
  rotate_left
  · rintro fl σ' loc' ⟨ms, rfl, h1, h2, rfl, l1⟩
    repeat walk_at "go"
    exact h p ms hp (Base.back hh hp') h1 h2
  repeat walk_at "go"
  refine Op_range (m := 5) ⟨_, _, src_rng rm' (by walk_at "om"), trivial, ?_⟩
  rw [rngV_zero]
  refine ForGo_inv (MdA σ p a) ?_ ?_ ?_
  rotate_left 2
  · exact ⟨0, 5, [], rfl, rfl, rfl, by simp, rfl, by walk_at "lk", by walk_at "lk"⟩
  · rintro v vs σ' loc' ⟨k, n', ms, hr, hkn, hml, hms, rfl, l1, l2⟩
    cases n' with
    | zero => simp [rngV_nil] at hr
    | succ n' =>
    rw [rngV_cons, List.cons.injEq] at hr
    obtain ⟨rfl, rfl⟩ := hr
    have ea : upd σ p (.list (ms.map .int)) a = some (.list (ns.map .int)) := (upd_ne _ _ hpa).trans e
    obtain ⟨x, hx⟩ : ∃ x, ns[k]? = some x := ⟨_, List.getElem?_eq_getElem (by walk_at "om")⟩
    have hx' : (ns.map V.int)[k]? = some (.int x) := by simp [hx]
    repeat walk_at "go"
    refine Sub_at ea hx' (by walk_at "om") ?_
    repeat walk_at "go"
    refine Op_mod (by decide) ?_
    have h9 : Nine (x.fmod 512) := ⟨Int.fmod_nonneg_of_pos _ (by decide), Int.fmod_lt_of_pos _ (by decide)⟩
    generalize x.fmod 512 = r at h9
    repeat walk_at "ge"
    refine Tr.mono (Ex_if (R := fun fl σ'' loc'' => ∃ r', C6 (fl = .next) (Nine r') (σ'' = upd σ p (.list (ms.map .int))) (loc''.lookup (S "modes") = some (.ref p)) (loc''.lookup (S "numbers") = some (.ref a)) (loc''.lookup (S "rights") = some (.int r'))) ?_) ?_
    · repeat walk_at "go"
      refine Op_gt ⟨_, rfl, ?_⟩
      by_cases hk : 0 < k
      · have hk' : decide (((k : Nat) : Int) > 0) = true := by simp; walk_at "om"
        rw [hk']
        show Ex w hb A' _ _ _ _ _
        repeat walk_at "go"
        refine Sub_at ea hx' (by walk_at "om") ?_
        repeat walk_at "go"
        refine Op_div (by decide) (PyProof.noPylong_small (by decide)) ?_
        repeat walk_at "go"
        refine Op_mod (by walk_at "om") ?_
        have h0 := Int.fmod_nonneg_of_pos (x.fdiv 512) (show (0 : Int) < k by walk_at "om")
        have h1 := Int.fmod_lt_of_pos (x.fdiv 512) (show (0 : Int) < k by walk_at "om")
        generalize (x.fdiv 512).fmod k = j at h0 h1
        obtain ⟨y, hy⟩ : ∃ y, ms[j.toNat]? = some y := ⟨_, List.getElem?_eq_getElem (by walk_at "om")⟩
        have hy9 : Nine y := hms y (List.mem_of_getElem? hy)
        refine Sub_list (vs := ms.map .int) (upd_self _ _ _) h0 (x := .int y) (by simp [hy]) ?_ (by walk_at "om")
        repeat walk_at "go"
        refine Op_or ?_
        repeat walk_at "go"
        refine Op_and ?_
        repeat walk_at "go"
        refine ⟨by simp [sizeLine], ?_⟩
        repeat walk_at "go"
        refine Sub_at ea hx' (by walk_at "om") ?_
        repeat walk_at "go"
        refine Op_div (by decide) (PyProof.noPylong_small (by decide)) ?_
        repeat walk_at "go"
        refine Op_mod (by decide) ?_
        have h0 := Int.fmod_nonneg_of_pos (x.fdiv 4096) (show (0 : Int) < 3 by walk_at "om")
        have h1 := Int.fmod_lt_of_pos (x.fdiv 4096) (show (0 : Int) < 3 by walk_at "om")
        generalize (x.fdiv 4096).fmod 3 = i at h0 h1
        obtain ⟨r', hr', hr9⟩ : ∃ r', [V.int r, .int (Builtin.bitOr r y), .int (Builtin.bitAnd r y)][i.toNat]? = some (.int r') ∧ Nine r' := by
          obtain rfl | rfl | rfl : i = 0 ∨ i = 1 ∨ i = 2 := by walk_at "om"
          · exact ⟨_, rfl, h9⟩
          · exact ⟨_, rfl, nine_or h9 hy9⟩
          · exact ⟨_, rfl, nine_and h9 hy9⟩
        refine Sub_tup h0 hr' ?_ (by walk_at "om")
        repeat walk_at "go"
        exact ⟨r', rfl, hr9, rfl, by walk_at "lk", by walk_at "lk", by walk_at "lk"⟩
      · have hk' : decide (((k : Nat) : Int) > 0) = false := by simp; walk_at "om"
        rw [hk']
        show Ex w hb A' _ _ _ _ _
        repeat walk_at "go"
        exact ⟨r, rfl, h9, rfl, by walk_at "lk", by walk_at "lk", by walk_at "lk"⟩
    · rintro fl σ'' loc'' ⟨r', rfl, hr9, rfl, l1, l2, l3⟩
      repeat walk_at "go"
      refine Op_append (vs := ms.map .int) (upd_self _ _ _) (by simp [sizeLine]; walk_at "om") ?_
      rw [upd_upd]
      repeat walk_at "go"
      refine ⟨trivial, k + 1, n', ms ++ [r'], rfl, by walk_at "om", by simp [hml], fun x hx => ?_, by simp, l1, l2⟩
      rcases List.mem_append.mp hx with hx | hx
      · exact hms x hx
      · simp at hx; subst hx; exact hr9
  · rintro σ' loc' ⟨k, n', ms, hr, hkn, hml, hms, rfl, l1, l2⟩
    have hn : n' = 0 := by
      have := congrArg List.length hr
      rw [rngV_len] at this
      simpa using this.symm
    subst hn
    repeat walk_at "go"
    exact ⟨ms, rfl, by walk_at "om", hms, rfl, l1⟩
end
end

section
open PySem PySem.W PyProof PyProof.Rows PySem.Calls PySem.Spec

/- a row of signs, begun at a place and read on around -/
noncomputable def rotS (p : Nat) (x : Str) : Str := ⟨(x.cps.toList.drop p).toArray⟩ ++ ⟨(x.cps.toList.take p).toArray⟩
noncomputable def keysF (ts : List Str) (p : Nat) : List (Str × Int) := ts.zipIdx.map fun q => (rotS p q.1, (q.2 : Int))
theorem keysF_len (ts : List Str) (p : Nat) : (keysF ts p).length = ts.length := by simp [keysF]

section
variable {w : World} {hb : Base} {A : Around} {σ : Hp}
noncomputable abbrev KyA (σ : Hp) (ts : List Str) (p : Nat) (a : Addr) (rest : List V) (acc : List V) (σ' : Hp) (loc' : Loc) : Prop := ∃ (k n : Nat), C6 (rest = rngV k n) (k + n = ts.length) (acc = ((keysF ts p).take k).map keyV) (σ' = σ) (loc'.lookup (S "texts") = some (.ref a)) (loc'.lookup (S "place") = some (.int (p : Nat)))
theorem keys_call (B : Bs w hb.h) {n : Nat} (rm : Rm hb (n + 1) A) {a : Addr} {ts : List Str} {p : Nat} {Q : V → Hp → Prop} (e : σ a = some (.list (ts.map .str))) (hl : ts.length ≤ 5) (h9 : ∀ x ∈ ts, x.length = 9) (hp : p ≤ 9)
    (h : ∀ (D : Addr), σ D = none → hb.get? D = none → Q (.ref D) (upd σ D (.list ((keysF ts p).map keyV)))) : OpN w hb A [.ref a, .int (p : Nat)] (fun as => call (.ref 235) as) σ Q := by
  refine call_fn B (n := n) (names := [S "texts", S "place"]) rm rfl rfl rfl rfl rfl ?_ rfl rfl (by decide) (by decide) ?_
  · exact of_len2 fun _ _ => rfl
  intro hb L A' hh hfr B rm'
  repeat walk_at "go"
  refine Ev_ListComp (It_src ?_) (by decide) rfl rfl (by decide)
  repeat walk_at "go"
  refine Op_len e (by simp; walk_at "om") ?_
  repeat walk_at "go"
  refine Op_range ⟨_, _, src_rng rm' (by simp; walk_at "om"), trivial, by simp; walk_at "om", fun L' => ?_⟩
  rw [rngV_zero, List.length_map]
  refine CompGo_inv (KyA σ ts p a) ?_ ?_ ?_
  rotate_left 2
  · exact ⟨0, ts.length, rfl, by walk_at "om", rfl, rfl, by walk_at "lk", by walk_at "lk"⟩
  · rintro v vs acc σ' loc' ⟨k, n', hr, hkn, rfl, rfl, l1, l2⟩
    cases n' with
    | zero => simp [rngV_nil] at hr
    | succ n' =>
    rw [rngV_cons, List.cons.injEq] at hr
    obtain ⟨rfl, rfl⟩ := hr
    obtain ⟨x, hx⟩ : ∃ x, ts[k]? = some x := ⟨_, List.getElem?_eq_getElem (by walk_at "om")⟩
    have hx9 := h9 x (List.mem_of_getElem? hx)
    have hx' : (ts.map V.str)[k]? = some (.str x) := by simp [hx]
    repeat walk_at "go"
    show Ev w hb A' _ _ _ _ _
    repeat walk_at "go"
    refine Sub_at e hx' (by walk_at "om") ?_
    repeat walk_at "go"
    refine ⟨_, rfl, Sl_sfrom (by walk_at "om") (by walk_at "om") ?_⟩
    repeat walk_at "go"
    refine Sub_at e hx' (by walk_at "om") ?_
    repeat walk_at "go"
    refine ⟨_, rfl, Sl_supto (by walk_at "om") (by walk_at "om") ?_⟩
    repeat walk_at "go"
    refine Op_addS ?_ ?_
    · show Array.size _ + Array.size _ ≤ 1000
      have : x.cps.size = 9 := hx9
      simp; walk_at "om"
    repeat walk_at "go"
    refine ⟨by simp [sizeLine], trivial, k + 1, n', rfl, by walk_at "om", ?_, rfl, by walk_at "lk", by walk_at "lk"⟩
    have hk : (keysF ts p)[k]? = some (rotS p x, (k : Int)) := by simp [keysF, hx]
    rw [List.take_add_one, hk, List.map_append]
    rfl
  · rintro acc σ' loc' ⟨k, n', hr, hkn, rfl, rfl, l1, l2⟩ D hD hD' hz
    have hn : n' = 0 := by
      have := congrArg List.length hr
      rw [rngV_len] at this
      simpa using this.symm
    subst hn
    repeat walk_at "go"
    rw [List.take_of_length_le (by rw [keysF_len]; walk_at "om")]
    exact h D hD (Base.back hh hD')
end
end

section
open PySem PySem.W PyProof PyProof.Rows PySem.Calls PySem.Spec
theorem gn_keys (w : World) : GN w (S "_law_keys") (.ref 235) := by unfold GN; kernel_rfl
end
local macro_rules | `(tactic| walk_at "gn") => `(tactic| with_reducible first | exact gn_keys _)
section
open PySem PySem.W PyProof PyProof.Rows PySem.Calls PySem.Spec

/- old things are as they were -/
noncomputable def Gr (σ σ' : Hp) : Prop := ∀ a o, σ a = some o → σ' a = some o
theorem Gr.refl (σ : Hp) : Gr σ σ := fun _ _ e => e
theorem Gr.trans {σ σ₁ σ₂ : Hp} (x : Gr σ σ₁) (y : Gr σ₁ σ₂) : Gr σ σ₂ := fun a o e => y a o (x a o e)
theorem Gr.upd {σ σ' : Hp} (x : Gr σ σ') {D : Addr} (h : σ D = none) (o : O) : Gr σ (upd σ' D o) := fun a p e => by
  rw [upd_ne _ _ (fun z => by rw [z, h] at e; cases e)]; exact x a p e
theorem Gr.noneAt {σ σ' : Hp} (x : Gr σ σ') {D : Addr} (h : σ' D = none) : σ D = none := by
  cases q : σ D with
  | none => rfl
  | some o => rw [x D o q] at h; cases h
theorem Gr.new {σ σ' : Hp} (x : Gr σ σ') {D : Addr} (h : σ' D = none) (o : O) : Gr σ (Mine.upd σ' D o) := x.upd (x.noneAt h) o

section
variable {α : Type} (lt : α → α → Bool)
noncomputable def pop1 (l : List α) : Option (α × List α) := match l.getLast? with
  | none => none
  | some last => some (popF lt l.dropLast last)
noncomputable def listedF : Nat → List α → List α
  | 0, _ => []
  | n + 1, l => match pop1 lt l with
    | none => []
    | some (x, l') => x :: listedF n l'
theorem popF_len (rest : List α) (last : α) : (popF lt rest last).2.length = rest.length := by
  unfold popF
  split
  · rfl
  · simp [siftup_len]
theorem pop1_some {l : List α} (h : 0 < l.length) : ∃ rest last, l = rest ++ [last] ∧ pop1 lt l = some (popF lt rest last) := by
  cases hl : l.getLast? with
  | none => rw [List.getLast?_eq_none_iff] at hl; subst hl; simp at h
  | some last =>
    obtain ⟨rest, rfl⟩ := List.getLast?_eq_some_iff.mp hl
    exact ⟨rest, last, rfl, by unfold pop1; rw [hl]; simp⟩
end

section
variable {w : World} {hb : Base} {A : Around} {σ : Hp}
noncomputable abbrev LiA (σ : Hp) (ts : List Str) (hs : List (Str × Int)) (D : Addr) (rest : List V) (acc : List V) (σ' : Hp) (loc' : Loc) : Prop := ∃ (k n : Nat) (l : List (Str × Int)), C4 (rest = rngV k n) (l.length = n) (n ≤ 5) (∃ done : List (Str × Int), C4 (listedF keyLt ts.length hs = done ++ listedF keyLt n l) (acc = (done.map (·.2)).map .int) (σ' = upd σ D (.list (l.map keyV))) (loc'.lookup (S "heap") = some (.ref D)))
theorem listed_call (B : Bs w hb.h) {n : Nat} (rm : Rm hb (n + 4) A) {a : Addr} {ts : List Str} {p : Nat} {Q : V → Hp → Prop} (e : σ a = some (.list (ts.map .str))) (hl : ts.length = 4 ∨ ts.length = 5) (h9 : ∀ x ∈ ts, x.length = 9) (hp : p ≤ 9)
    (h : ∀ (R : Addr) (σ' : Hp), Gr σ σ' → σ R = none → hb.get? R = none → σ' R = some (.list (((listedF keyLt ts.length (heapifyF keyLt (keysF ts p))).map (·.2)).map .int)) → Q (.ref R) σ') : OpN w hb A [.ref a, .int (p : Nat)] (fun as => call (.ref 240) as) σ Q := by
  refine call_fn B (n := n + 3) (names := [S "texts", S "place"]) rm rfl rfl rfl rfl rfl ?_ rfl rfl (by decide) (by decide) ?_
  · exact of_len2 fun _ _ => rfl
  intro hb L A' hh hfr B rm'
  repeat walk_at "go"
  refine keys_call B rm' e (by walk_at "om") h9 hp fun D hD hD' => ?_
  have hDa : a ≠ D := fun z => by rw [← z, e] at hD; cases hD
  repeat walk_at "go"
  refine heapify_call B rm' (ks := keysF ts p) (upd_self _ _ _) (by rw [keysF_len]; exact hl) ?_
  rw [upd_upd]
  have hhl : (heapifyF keyLt (keysF ts p)).length = ts.length := by unfold heapifyF; rw [siftup_len, siftup_len, keysF_len]
  generalize heapifyF keyLt (keysF ts p) = hs at h hhl
  repeat walk_at "go"
  refine Ev_ListComp (It_src ?_) (by decide) rfl rfl (by decide)
  repeat walk_at "go"
  refine Op_len (vs := ts.map .str) ((upd_ne _ _ hDa).trans e) (by simp; walk_at "om") ?_
  repeat walk_at "go"
  refine Op_range ⟨_, _, src_rng rm' (by simp; walk_at "om"), trivial, by simp; walk_at "om", fun L' => ?_⟩
  rw [rngV_zero, List.length_map]
  refine CompGo_inv (LiA σ ts hs D) ?_ ?_ ?_
  rotate_left 2
  · exact ⟨0, ts.length, hs, rfl, hhl, by walk_at "om", [], rfl, rfl, rfl, by walk_at "lk"⟩
  · rintro v vs acc σ' loc' ⟨k, n', l, hr, hln, hn5, done, hd, rfl, rfl, l1⟩
    cases n' with
    | zero => simp [rngV_nil] at hr
    | succ n' =>
    rw [rngV_cons, List.cons.injEq] at hr
    obtain ⟨rfl, rfl⟩ := hr
    obtain ⟨rest, last, rfl, hpop⟩ := pop1_some keyLt (l := l) (by walk_at "om")
    have hrl : rest.length = n' := by simpa using hln
    repeat walk_at "go"
    show Ev w hb A' _ _ _ _ _
    repeat walk_at "go"
    refine pop_call B rm' (upd_self _ _ _) (by walk_at "om") ?_
    rw [upd_upd]
    have hz : (popF keyLt rest last).2.length = n' := by rw [popF_len]; exact hrl
    rw [listedF, hpop] at hd
    simp only at hd
    generalize popF keyLt rest last = r at hd hz
    obtain ⟨x, l'⟩ := r
    repeat walk_at "go"
    refine Sub_tup (by decide) (x := .int x.2) rfl ?_ (by decide)
    refine ⟨trivial, k + 1, n', l', rfl, hz, by walk_at "om", done ++ [x], by rw [hd]; simp, by simp, rfl, by walk_at "lk"⟩
  · rintro acc σ' loc' ⟨k, n', l, hr, hln, hn5, done, hd, rfl, rfl, l1⟩ R hR hR' hz
    have hn : n' = 0 := by
      have := congrArg List.length hr
      rw [rngV_len] at this
      simpa using this.symm
    subst hn
    repeat walk_at "go"
    have hRD : Gr σ (upd (upd σ D (.list (l.map keyV))) R (.list ((done.map (·.2)).map .int))) := ((Gr.refl σ).upd hD _).new hR _
    refine h R _ hRD (((Gr.refl σ).upd hD _).noneAt hR) (Base.back hh hR') ?_
    rw [upd_self, hd]
    simp [listedF]
end
end

section
open PySem PySem.W PyProof PyProof.Rows PySem.Calls PySem.Spec
theorem cloc_of {scope : Scope} {x : Str} (h : scope.names.lookup x = some .free) : ∀ {loc : Loc}, (cloc scope loc).lookup x = loc.lookup x
  | [] => rfl
  | (y, u) :: r => by
    unfold cloc
    rw [List.filter_cons]
    by_cases hy : x = y
    · subst hy
      have : (scope.names.lookup x == some NameKind.free) = true := by rw [h]; rfl
      simp only [this, if_true]
      rw [List.lookup_cons, List.lookup_cons, beq_self_eq_true]
    · have hxy : (x == y) = false := by simpa using hy
      split
      · rw [List.lookup_cons, List.lookup_cons, hxy]
        exact cloc_of h
      · rw [List.lookup_cons, hxy]
        exact cloc_of h
end
local macro_rules | `(tactic| walk_at "lk") => `(tactic| (with_reducible refine (cloc_of ?hc).trans ?_); (case hc => rfl); walk_at "lk")
section
open PySem PySem.W PyProof PyProof.Rows PySem.Calls PySem.Spec

/- those that stand ahead of k in a row -/
noncomputable def before (k : Int) (r : List Int) : List Int := r.take (r.idxOf k)
noncomputable def cut (k : Int) (acc r : List Int) : List Int := acc.filter fun j => (before k r).contains j
noncomputable def aheadF (k : Int) : List (List Int) → List Int
  | [] => []
  | r :: rs => rs.foldl (cut k) (before k r)
theorem idx_at {k : Int} : ∀ {r : List Int}, k ∈ r → r[r.idxOf k]? = some k ∧ ∀ i, i < r.idxOf k → r[i]? ≠ some k
  | x :: r, h => by
    by_cases hx : x = k
    · subst hx; simp
    · have hr : k ∈ r := by
        rcases List.mem_cons.mp h with h | h
        · exact absurd h.symm hx
        · exact h
      obtain ⟨h1, h2⟩ := idx_at hr
      have e : (x :: r).idxOf k = r.idxOf k + 1 := by rw [List.idxOf_cons, beq_eq_false_iff_ne.mpr hx]; rfl
      rw [e]
      refine ⟨by simpa using h1, fun i hi => ?_⟩
      cases i with
      | zero => simpa using hx
      | succ i => simpa using h2 i (by walk_at "om")
theorem idx_le (k : Int) (r : List Int) : r.idxOf k ≤ r.length := List.idxOf_le_length
theorem cut_len (k : Int) (acc r : List Int) : (cut k acc r).length ≤ acc.length := List.length_filter_le _ _

section
variable {w : World} {hb : Base} {A : Around} {σ : Hp}
noncomputable abbrev AhA (hb : Base) (σ σ₂ : Hp) (ps' : List (Addr × List Int)) (p0 : Addr × List Int) (k : Int) (rest : List V) (σ' : Hp) (loc' : Loc) : Prop := ∃ (qs : List (Addr × List Int)) (acc : List Int) (R : Addr), C10 (rest = qs.map (fun p => .ref p.1)) (∀ p ∈ qs, p ∈ ps') ((ps'.map (·.2)).foldl (cut k) (before k p0.2) = (qs.map (·.2)).foldl (cut k) acc) (acc.length ≤ 5) (Gr σ₂ σ') (σ R = none) (hb.get? R = none) (σ' R = some (.list (acc.map .int))) (loc'.lookup (S "ahead") = some (.ref R)) (loc'.lookup (S "k") = some (.int k))
noncomputable abbrev AhB (σ' : Hp) (acc : List Int) (k : Int) (q : Addr × List Int) (rest : List V) (out : List V) (σ'' : Hp) (loc'' : Loc) : Prop := ∃ (js done : List Int), C6 (rest = js.map .int) (acc = done ++ js) (out = (done.filter fun j => (before k q.2).contains j).map .int) (Gr σ' σ'') (loc''.lookup (S "row") = some (.ref q.1)) (loc''.lookup (S "k") = some (.int k))
theorem ahead_call (B : Bs w hb.h) {n : Nat} (rm : Rm hb (n + 1) A) {a : Addr} {ps : List (Addr × List Int)} {k : Int} {Q : V → Hp → Prop} (e : σ a = some (.list (ps.map fun p => .ref p.1))) (hps : ∀ p ∈ ps, σ p.1 = some (.list (p.2.map .int)))
    (hk : ∀ p ∈ ps, k ∈ p.2) (hl : ∀ p ∈ ps, p.2.length ≤ 5) (hn : 0 < ps.length) (hn9 : ps.length ≤ 9)
    (h : ∀ (R : Addr) (σ' : Hp), Gr σ σ' → σ R = none → hb.get? R = none → σ' R = some (.list ((aheadF k (ps.map (·.2))).map .int)) → Q (.ref R) σ') : OpN w hb A [.ref a, .int k] (fun as => call (.ref 245) as) σ Q := by
  refine call_fn B (n := n) (names := [S "rows", S "k"]) rm rfl rfl rfl rfl rfl ?_ rfl rfl (by decide) (by decide) ?_
  · exact of_len2 fun _ _ => rfl
  intro hb L A' hh hfr B rm'
  obtain ⟨p0, ps', rfl⟩ : ∃ p0 ps', ps = p0 :: ps' := by
    cases ps with
    | nil => simp at hn
    | cons p ps => exact ⟨p, ps, rfl⟩
  have e0 := hps p0 (by simp)
  have k0 := hk p0 (by simp)
  have l0 := hl p0 (by simp)
  have hi0 := idx_at k0
  have hile := idx_le k p0.2
  repeat walk_at "go"
  refine Sub_at (k := 0) e (x := .ref p0.1) rfl (by walk_at "om") ?_
  repeat walk_at "go"
  refine Sub_at (k := 0) e (x := .ref p0.1) rfl (by walk_at "om") ?_
  refine ⟨_, Meth_index e0, ?_⟩
  repeat walk_at "go"
  refine Op_index e0 hi0.1 hi0.2 (by walk_at "om") ⟨_, rfl, Sl_upto e0 (by simp; walk_at "om") fun D hD hD' => ?_⟩
  rw [← List.map_take]
  have g1 : Gr σ (upd σ D (.list ((before k p0.2).map .int))) := (Gr.refl σ).upd hD _
  have eD : upd σ D (.list ((before k p0.2).map .int)) D = some (.list ((before k p0.2).map .int)) := upd_self _ _ _
  have hb5 : (before k p0.2).length ≤ 5 := by unfold before; simp; walk_at "om"
  have hfin : aheadF k ((p0 :: ps').map (·.2)) = (ps'.map (·.2)).foldl (cut k) (before k p0.2) := rfl
  show As w hb A' _ _ _ _ _ _
  have eb : ((p0.2.take (p0.2.idxOf k)).map V.int) = (before k p0.2).map .int := rfl
  rw [eb]
  generalize upd σ D (.list ((before k p0.2).map .int)) = σ₁ at g1 eD ⊢
  repeat walk_at "go"
  refine Tr.mono (Ex_for (It_src ?_) (R := fun fl σ' loc' => ∃ R, C6 (fl = .next) (Gr σ σ') (σ R = none) (hb.get? R = none) (σ' R = some (.list ((aheadF k ((p0 :: ps').map (·.2))).map .int))) (loc'.lookup (S "ahead") = some (.ref R)))) ?_
  rotate_left
  · rintro fl σ' loc' ⟨R, rfl, g, hR, hR', eR, l1⟩
    repeat walk_at "go"
    exact h R σ' g hR (Base.back hh hR') eR
  repeat walk_at "go"
  refine ⟨_, rfl, Sl_from (k := 1) (g1 _ _ e) (by simp at hn9 ⊢; walk_at "om") fun T hT hT' => ?_⟩
  have g2 : Gr σ₁ (upd σ₁ T (.list (((p0 :: ps').map fun p => V.ref p.1).drop 1))) := (Gr.refl _).upd hT _
  have eT : upd σ₁ T (.list (((p0 :: ps').map fun p => V.ref p.1).drop 1)) T = some (.list (ps'.map fun p => .ref p.1)) := upd_self _ _ _
  generalize upd σ₁ T (.list (((p0 :: ps').map fun p => V.ref p.1).drop 1)) = σ₂ at g2 eT ⊢
  refine ⟨_, _, src_list rm' eT, eT, ?_⟩
  refine ForGo_inv (AhA hb σ σ₂ ps' p0 k) ?_ ?_ ?_
  rotate_left 2
  · exact ⟨ps', before k p0.2, D, rfl, fun _ h => h, rfl, hb5, Gr.refl _, hD, hD', g2 _ _ eD, by walk_at "lk", by walk_at "lk"⟩
  · rintro v vs σ' loc' ⟨qs, acc, R, hr, hq, hf, ha5, g, hR, hR', eR, l1, l2⟩
    cases qs with
    | nil => simp at hr
    | cons q qs =>
    rw [List.map_cons, List.cons.injEq] at hr
    obtain ⟨rfl, rfl⟩ := hr
    have hqm : q ∈ p0 :: ps' := List.mem_cons_of_mem _ (hq q (by simp))
    have eq := (g1.trans (g2.trans g)) _ _ (hps q hqm)
    have hiq := idx_at (hk q hqm)
    have hqle := idx_le k q.2
    have lq := hl q hqm
    repeat walk_at "go"
    refine Ex_assign_comp (It_src ?_) rfl (by decide) rfl rfl (by decide)
    repeat walk_at "go"
    refine ⟨_, _, src_list rm' eR, eR, by simp; walk_at "om", fun L' => ?_⟩
    refine CompGo_inv (AhB σ' acc k q) ?_ ?_ ?_
    rotate_left 2
    · exact ⟨acc, [], rfl, rfl, rfl, Gr.refl _, by walk_at "lk", by walk_at "lk"⟩
    · rintro v vs out σ'' loc'' ⟨js, done, hr, hj, rfl, g', l3, l4⟩
      cases js with
      | nil => simp at hr
      | cons j js =>
      rw [List.map_cons, List.cons.injEq] at hr
      obtain ⟨rfl, rfl⟩ := hr
      repeat walk_at "go"
      show EvB w hb A' _ _ _ _ _
      repeat walk_at "go"
      refine ⟨_, Meth_index (g' _ _ eq), ?_⟩
      repeat walk_at "go"
      refine Op_index (g' _ _ eq) hiq.1 hiq.2 (by walk_at "om") ⟨_, rfl, Sl_upto (g' _ _ eq) (by simp; walk_at "om") fun Y hY hY' => ?_⟩
      rw [← List.map_take]
      refine Op_in (ns := before k q.2) (upd_self _ _ _) ⟨_, rfl, ?_⟩
      have gY : Gr σ' (upd σ'' Y (.list ((q.2.take (q.2.idxOf k)).map .int))) := g'.new hY _
      cases hc : (before k q.2).contains j with
      | true =>
        show Ev w hb A' _ _ _ _ _
        repeat walk_at "go"
        exact ⟨gY _ _ eR, js, done ++ [j], rfl, by rw [hj]; simp, by rw [List.filter_append, List.map_append]; simp only [List.filter_cons, List.filter_nil, hc]; first | rfl | simp, gY, by walk_at "lk", by walk_at "lk"⟩
      | false =>
        exact ⟨gY _ _ eR, js, done ++ [j], rfl, by rw [hj]; simp, by rw [List.filter_append, List.map_append]; simp only [List.filter_cons, List.filter_nil, hc]; first | rfl | simp, gY, by walk_at "lk", by walk_at "lk"⟩
    · rintro out σ'' loc'' ⟨js, done, hr, hj, rfl, g', l3, l4⟩ X hX hX' hz
      cases js with
      | cons j js => simp at hr
      | nil =>
      rw [List.append_nil] at hj
      subst hj
      have gX : Gr σ₂ (upd σ'' X (.list ((acc.filter fun j => (before k q.2).contains j).map .int))) := (g.trans g').new hX _
      repeat walk_at "go"
      exact ⟨gX _ _ eT, qs, cut k acc q.2, X, rfl, fun p hp => hq p (by simp [hp]), by rw [hf]; rfl, Nat.le_trans (cut_len _ _ _) ha5, gX, (g1.trans (g2.trans (g.trans g'))).noneAt hX, hX', upd_self _ _ _, by walk_at "lk", by walk_at "lk"⟩
  · rintro σ' loc' ⟨qs, acc, R, hr, hq, hf, ha5, g, hR, hR', eR, l1, l2⟩
    cases qs with
    | cons q qs => simp at hr
    | nil =>
    repeat walk_at "go"
    exact ⟨R, rfl, g1.trans (g2.trans g), hR, hR', by rw [hfin, hf]; exact eR, l1⟩
end
end

section
open PySem PySem.W PyProof PyProof.Rows PySem.Calls PySem.Spec Builtin Builtin.ObjectAttr Builtin.Getset_descriptor

section
variable {w : World} {hb : Base} {A : Around} {env : Env} {σ : Hp} {loc : Loc}

/- an attribute is read -/
theorem Ev_attr {value : Expr} {attr : Str} {pos : Pos} {Q : V → Hp → Loc → Prop} (h : Ev w hb A env (eval value env) σ loc fun u σ₁ loc₁ => Op1 w hb A u (fun a => getAttr a attr true) σ₁ fun x σ₂ => Q x σ₂ loc₁)
    (hbase : attributeBase value attr env (eval value env) = eval value env := by rfl) : Ev w hb A env (eval (.Attribute value attr pos) env) σ loc Q := fun s P E R F H => by
  rw [arm_eval_Attribute, hbase]
  refine wpAny_bind (h s _ _ R F fun u a σ₁ loc₁ h₁ t₁ q R₁ F₁ ra S₁ => wpAny_bind (wpAny_standAt (wpAny_bind (wpAny_holding ?_))))
  exact Op.run q (x := a) (s := { s with heap := h₁, toks := t₁ }) ra R₁ F₁ fun x c σ₂ h₂ t₂ q₂ R₂ F₂ rc S₂ => wpAny_bind (wpAny_letTemporaryGo (wpAny_pure (H _ _ _ _ _ _ q₂ R₂ F₂ rc (S₁.trans S₂))))

theorem SE.find {h : Heap} {x : Str} : ∀ {fs : List (Str × V)} {es : List DictEntry}, SE h fs es → (∀ v, fs.lookup x = some v → ∃ a, getL x es = some (some a) ∧ VR h v a) ∧ (fs.lookup x = none → getL x es = some none) ∧ es.any (·.refKey) = false
  | _, _, .nil => ⟨fun v h => by simp at h, fun _ => rfl, rfl⟩
  | _, _, .cons (x := y) (v := u) (r := r) (r' := r') (hash := hh) (t := t) (a := a) ra rs => by
    obtain ⟨i1, i2, i3⟩ := rs.find (x := x)
    have hk : ((⟨hh, .str y t, a⟩ : DictEntry).key.isStr x) = (y == x) := rfl
    have hr : ((⟨hh, .str y t, a⟩ : DictEntry).refKey) = false := rfl
    by_cases hxy : x = y
    · subst hxy
      refine ⟨fun v hv => ?_, fun hn => ?_, by simp [hr, i3]⟩
      · rw [List.lookup_cons, beq_self_eq_true] at hv
        cases hv
        exact ⟨a, by unfold getL; rw [List.find?_cons, hk, beq_self_eq_true], ra⟩
      · rw [List.lookup_cons, beq_self_eq_true] at hn; cases hn
    · have e1 : (x == y) = false := by simpa using hxy
      have e2 : (y == x) = false := by simpa using fun z => hxy z.symm
      have eg : getL x (⟨hh, .str y t, a⟩ :: r') = getL x r' := by
        unfold getL
        rw [List.find?_cons, hk, e2, List.any_cons, hr, Bool.false_or]
      refine ⟨fun v hv => ?_, fun hn => ?_, by simp [hr, i3]⟩
      · rw [List.lookup_cons, e1] at hv
        obtain ⟨b, h1, h2⟩ := i1 v hv
        exact ⟨b, by rw [eg]; exact h1, h2⟩
      · rw [List.lookup_cons, e1] at hn
        rw [eg]; exact i2 hn
theorem SE.put {h : Heap} {x : Str} {v : V} {a : Value} {hash : Int} {t : Tok} (ra : VR h v a) : ∀ {fs : List (Str × V)} {es : List DictEntry}, SE h fs es → SE h (setL x v fs) (putL x hash (.str x t) a es)
  | _, _, .nil => .cons ra .nil
  | _, _, .cons (x := y) (v := u) (r := r) (r' := r') (hash := hh) (t := t') (a := b) rb rs => by
    have hk : ((⟨hh, .str y t', b⟩ : DictEntry).key.isStr x) = (y == x) := rfl
    unfold setL putL
    rw [hk]
    by_cases hxy : x = y
    · subst hxy; simp only [beq_self_eq_true, if_true]; exact .cons ra rs
    · have e1 : (x == y) = false := by simpa using hxy
      have e2 : (y == x) = false := by simpa using fun z => hxy z.symm
      simp only [e1, e2, Bool.false_eq_true, if_false]
      exact .cons rb (rs.put ra)
theorem SE.length {h : Heap} : ∀ {fs : List (Str × V)} {es : List DictEntry}, SE h fs es → fs.length = es.length
  | _, _, .nil => rfl
  | _, _, .cons _ r => congrArg Nat.succ r.length

/- an object and its dict -/
theorem Rep.instAt {h : Heap} (R : Rep w hb σ h) {x C dx : Addr} {vs : List (Option V)} {fs : List (Str × V)} (e : σ x = some (.inst C dx vs)) (ed : σ dx = some (.sdict fs)) :
    ∃ (sl : List (Option Value)) (es : List DictEntry) (n : Nat), InstAt h x { cls := .ref C, dict := some dx, data := .plain, slots := sl.toArray } C (some (dictOf es n)) ∧ OVR h vs sl ∧ SE h fs es := by
  obtain ⟨sl, p, q⟩ := R.obj x _ e
  obtain ⟨es, n, p', q'⟩ := R.obj dx _ ed
  exact ⟨sl, es, n, ⟨p, rfl, rfl, p'⟩, q, q'⟩

theorem Op_attrD (B : Bs w hb.h) {x C dx : Addr} {vs : List (Option V)} {fs : List (Str × V)} {name : Str} {v : V} {Q : V → Hp → Prop} (e : σ x = some (.inst C dx vs)) (ed : σ dx = some (.sdict fs)) (hv : fs.lookup name = some v)
    (hg : plainGet (KF w) C name = true) (hh : hasDictIn (KF w) C = true) (ha : findIn (KF w) (.ref C) name = some none) (hz : ∀ h a, VR h v a → handedIn a = true) (h : Q v σ) : Op1 w hb A (.ref x) (fun a => getAttr a name true) σ Q := fun a s P E I R H => by
  cases I
  obtain ⟨sl, es, n, IA, _, se⟩ := R.instAt e ed
  obtain ⟨b, hb', rb⟩ := se.find.1 v hv
  exact get_value (R.inK B) IA (plainGet_of hg).1 (findObj_own hh ha rfl hb') (hz _ _ rb) (H _ _ _ s.heap _ h R rb St.same)
theorem OVR.get {h : Heap} {vs : List (Option V)} {sl : List (Option Value)} (x : OVR h vs sl) : ∀ {i : Nat} {v : V}, vs[i]? = some (some v) → ∃ a, sl[i]? = some (some a) ∧ VR h v a := by
  induction x with
  | nil => intro i v e; cases e
  | no r ih => intro i v e; cases i with
    | zero => cases e
    | succ i => exact ih e
  | yes p r ih => intro i v e; cases i with
    | zero => cases e; exact ⟨_, rfl, p⟩
    | succ i => exact ih e
theorem OVR.set {h : Heap} {vs : List (Option V)} {sl : List (Option Value)} (x : OVR h vs sl) (i : Nat) {v : V} {a : Value} (q : VR h v a) : OVR h (vs.set i (some v)) (sl.set i (some a)) := by
  induction x generalizing i with
  | nil => exact .nil
  | no r ih => cases i with
    | zero => exact .yes q r
    | succ i => exact .no (ih i)
  | yes p r ih => cases i with
    | zero => exact .yes q r
    | succ i => exact .yes p (ih i)
theorem OVR.app {h : Heap} {vs vs' : List (Option V)} {sl sl' : List (Option Value)} (x : OVR h vs sl) (y : OVR h vs' sl') : OVR h (vs ++ vs') (sl ++ sl') := by
  induction x with
  | nil => exact y
  | no r ih => exact .no ih
  | yes p r ih => exact .yes p ih
theorem OVR.nones (h : Heap) : ∀ n, OVR h (List.replicate n none) (List.replicate n none)
  | 0 => .nil
  | n + 1 => .no (OVR.nones h n)
theorem OVR.length {h : Heap} {vs : List (Option V)} {sl : List (Option Value)} (x : OVR h vs sl) : vs.length = sl.length := by
  induction x with
  | nil => rfl
  | no r ih => exact congrArg Nat.succ ih
  | yes _ r ih => exact congrArg Nat.succ ih
theorem Op_attrS (B : Bs w hb.h) {x C dx p : Addr} {vs : List (Option V)} {fs : List (Str × V)} {name : Str} {i : Nat} {v : V} {Q : V → Hp → Prop} (e : σ x = some (.inst C dx vs)) (ed : σ dx = some (.sdict fs)) (hv : vs[i]? = some (some v))
    (hg : plainGet (KF w) C name = true) (hc : isClsIn (KF w) C = true) (ha : findIn (KF w) (.ref C) name = some (some (.ref p))) (hn : specialIn (KF w) (.ref p) "__get__" = some (some (.builtin "member_descriptor.__get__"))) (ht : takesIn (KF w) (.ref p) = some true)
    (hp : slotIn (KF w) p C = some i) (hz : ∀ h a, VR h v a → handedIn a = true) (h : Q v σ) : Op1 w hb A (.ref x) (fun a => getAttr a name true) σ Q := fun a s P E I R H => by
  cases I
  obtain ⟨sl, es, n, IA, so, se⟩ := R.instAt e ed
  obtain ⟨b, hb', rb⟩ := so.get hv
  have hj : (({ cls := .ref C, dict := some dx, data := .plain, slots := sl.toArray } : Obj).slots[i]?).join = some b := by
    show (sl.toArray[i]?).join = some b
    rw [List.getElem?_toArray, hb']; rfl
  exact get_bind (R.inK B) IA (plainGet_of hg).1 (findObj_data hc ha hn ht) (plainGet_of hg).2 (wpAny_call (slot_get (s := { s with toks := s.toks + 1 }) (R.inK B) IA hp hj (handed_on (hz _ _ rb) (H _ _ _ s.heap _ h R rb St.same))))

/- an attribute is set -/
noncomputable abbrev OpA (w : World) (hb : Base) (A : Around) (o v : V) (name : Str) := Op w hb A (fun h (p : Value × Value) => VR h o p.1 ∧ VR h v p.2) (fun p => setAttr p.1 name p.2) (fun _ (_ _ : Unit) => True)
theorem As_attr {o : Expr} {name : Str} {pos : Pos} {v : V} {Q : Hp → Loc → Prop} (h : Ev w hb A env (eval o env) σ loc fun u σ₁ loc₁ => OpA w hb A u v name σ₁ fun _ σ₂ => Q σ₂ loc₁) : As w hb A env (.Attribute o name pos) v σ loc Q := fun a s P E ra R F H => by
  rw [arm_assign_Attribute]
  refine wpAny_bind (wpAny_holding (h s _ _ R F fun u b σ₁ loc₁ h₁ t₁ q R₁ F₁ rb S₁ => wpAny_bind (wpAny_standAt (wpAny_bind (wpAny_holding ?_)))))
  exact Op.run q (x := (b, a)) (s := { s with heap := h₁, toks := t₁ }) ⟨rb, ra.mono S₁.imm⟩ R₁ F₁ fun x d σ₂ h₂ t₂ q₂ R₂ F₂ rd S₂ => wpAny_release (H _ _ _ _ q₂ R₂ F₂ (S₁.trans S₂))

theorem not_imm_inst {C dx : Addr} {sl : Array (Option Value)} : ¬ Imm { cls := .ref C, dict := some dx, data := .plain, slots := sl } := by
  rintro (⟨ys, m, e⟩ | ⟨vs, e, _⟩)
  · have z : Value.ref C = Value.type "tuple" := congrArg Obj.cls e; cases z
  · cases e
theorem OpA_slot (B : Bs w hb.h) {x C dx p : Addr} {vs : List (Option V)} {fs : List (Str × V)} {name : Str} {i : Nat} {v : V} {Q : Unit → Hp → Prop} (e : σ x = some (.inst C dx vs)) (ed : σ dx = some (.sdict fs))
    (hs : findIn (KF w) (.ref C) "__setattr__" = some (some (.builtin "object.__setattr__"))) (hp : plainOver (KF w) C = true) (ht : takerIn (KF w) C name = some (some (.ref p))) (hT : typeIn (KF w) (.ref p) = some (.type "member_descriptor")) (hi : slotIn (KF w) p C = some i) (hz : i < 1000)
    (h : Q () (upd σ x (.inst C dx ((vs ++ List.replicate (i + 1 - vs.length) none).set i (some v))))) : OpA w hb A (.ref x) v name σ Q := fun pr s P E I R H => by
  obtain ⟨a, b⟩ := pr; obtain ⟨h1, h2⟩ := I; cases h1
  obtain ⟨sl, es, n, IA, so, se⟩ := R.instAt e ed
  refine set_plain (R.inK B) IA hs (osa_descr (s := { s with toks := s.toks + 1 }) KF.slot_mset (R.inK B) IA hp ht hT ?_)
  obtain ⟨nm, tn, owner, behind, tb, dd, sl', cd, ho, hc, hm, hbh, rfl⟩ := slot_of (R.inK B) hi
  have hx := IA.at_
  obtain ⟨hh, g, dr, t, os⟩ := s
  have L0 := IA.type (M := model pg w)
  have L1 := looks_mroIn (M := model pg w) (R.inK B) hm
  have L2 : Looks (model pg w) hh (Builtin.Slots.slotNamesOf (.ref C)) cd.slotNames := (looks_clsIn (R.inK B) hc).andThen .now
  dsimp only at ho hx L0 L1
  have f0 := looks_field (M := model pg w) ho 0 (v := .str nm tn) rfl
  have f1 := looks_field (M := model pg w) ho 1 (v := owner) rfl
  have f3 := looks_field (M := model pg w) ho 3 (v := .builtin "proto.slot#set") rfl
  have f4 := looks_field (M := model pg w) ho 4 (v := .int behind tb) rfl
  refine codeAny_call_builtin KF.slot_mset.plain KF.entry_mset (KF.slot_mset.check _ _ _ _ _ _ _ _ ⟨_, ho, rfl⟩ (KF.args_mset _ _ _) ?_)
  unfold Builtin.«member_descriptor.__set__» descrSet descrStoreThrough descrCheckInstance descrNameAndClass isInstance
  have f5 : Looks (model pg w) hh (descrItself (.ref p)) [.ref p] := ((Looks.ld (part := none) ho).andThen .now).andThen (Looks.of_pure (by kernel_rfl))
  repeat lk
  refine ⟨Code.quiet_builtin _ (by decide +kernel), codeAny_builtin KF.entry_slotset ?_⟩
  unfold Builtin.«proto.slot#set» Slots.target
  repeat lk
  rw [if_neg hbh]
  refine wpAny_pure (wpAny_bind ?_)
  unfold setSlotAt
  dsimp only
  rw [if_neg (by rw [sizeLine_eq]; walk_at "om")]
  refine wpAny_updatePart hx (wpAny_pure ?_)
  generalize cd.slotNames.length - 1 - behind.toNat = i at h hz
  have hsb := Heap.SameBut.update hh x (fun o : Obj => { o with slots := (o.slots ++ Array.replicate (i + 1 - o.slots.size) none).setIfInBounds i (some b) })
  have hat := Heap.get?_update_self (fun o : Obj => { o with slots := (o.slots ++ Array.replicate (i + 1 - o.slots.size) none).setIfInBounds i (some b) }) hx rfl
  have im : ImmK hh (hh.update x (fun o : Obj => { o with slots := (o.slots ++ Array.replicate (i + 1 - o.slots.size) none).setIfInBounds i (some b) })) := fun c ob z ii => (hsb.2 c (fun y => by subst y; rw [hx] at z; cases z; exact absurd ii not_imm_inst)).trans z
  have hl : vs.length = sl.length := so.length
  obtain ⟨R', S⟩ := R.turn (o' := .inst C dx ((vs ++ List.replicate (i + 1 - vs.length) none).set i (some v))) e (fun ob z => by rw [show hh.get? x = _ from hx] at z; cases z; exact not_imm_inst) hsb ⟨(sl ++ List.replicate (i + 1 - sl.length) none).set i (some b), by
    rw [hat]
    congr 2
    apply Array.toList_inj.mp
    simp, by
    rw [hl]
    exact ((so.mono im).app (OVR.nones _ _)).set _ (h2.mono im)⟩
  exact H () () _ _ _ h R' trivial S

theorem OpA_dict (B : Bs w hb.h) {x C dx : Addr} {vs : List (Option V)} {fs : List (Str × V)} {name : Str} {v : V} {Q : Unit → Hp → Prop} (e : σ x = some (.inst C dx vs)) (ed : σ dx = some (.sdict fs))
    (hs : findIn (KF w) (.ref C) "__setattr__" = some (some (.builtin "object.__setattr__"))) (hp : plainOver (KF w) C = true) (ht : takerIn (KF w) C name = some none) (hh : hasDictIn (KF w) C = true) (hz : fs.length < 900)
    (h : Q () (upd σ dx (.sdict (setL name v fs)))) : OpA w hb A (.ref x) v name σ Q := fun pr s P E I R H => by
  obtain ⟨a, b⟩ := pr; obtain ⟨h1, h2⟩ := I; cases h1
  obtain ⟨sl, es, n, IA, so, se⟩ := R.instAt e ed
  refine set_plain (R.inK B) IA hs ?_
  obtain ⟨h0, g, dr, tk, os⟩ := s
  refine osa_open (s := ⟨h0, g, dr, tk + 1, os⟩) (R.inK B) IA hp ht fun bb => ?_
  obtain ⟨cd, hc, hd'⟩ := any_some hh
  have hx := IA.at_
  have D := IA.dict
  dsimp only at D
  refine wpAny_bind (wpAny_pure (wpAny_bind (wpAny_bind (wpAny_loadPart hx (wpAny_bind (Looks.here (s := ⟨h0, g, dr, tk + 1, os⟩) (looks_clsIn (R.inK B) hc) ?_))))))
  rw [hd']
  refine wpAny_pure (a := some dx) (wpAny_bind (wpAny_pure (wpAny_bind ?_)))
  unfold nsSet
  refine wpAny_bind (wpAny_bind (wpAny_askSetting (wpAny_pure (wpAny_bind (wpAny_mkText (wpAny_bind (wpAny_loadPart D ?_)))))))
  dsimp only
  have c : (!es.toArray.any (·.key.isStr name) && es.toArray.any (·.refKey)) = false := by
    have := se.find (x := name)
    rw [← Array.any_toList, ← Array.any_toList]
    show (!es.any _ && es.any _) = false
    rw [this.2.2, Bool.and_false]
  rw [aRefKeyMayBeTheName_at, c]
  have hput : ∀ (hash : Int) (key : Value), Obj.putName name hash key b (dictOf es n) = dictOf (putL name hash key b es) (putN name es n) := fun _ _ => putName_dict _ _ _ _ _ _
  have hsb := fun f => Heap.SameBut.update h0 dx f
  have hat : (h0.update dx (Obj.putName name (PyData.keyHash w.params name) (.str name (tk + 1)) b)).get? dx = some (dictOf (putL name (PyData.keyHash w.params name) (.str name (tk + 1)) b es) (putN name es n)) := by
    rw [← hput]
    exact Heap.get?_update_self _ D (by rw [hput]; rfl)
  have hlen : (putL name (PyData.keyHash w.params name) (.str name (tk + 1)) b es).length ≤ es.length + 1 := by
    have gen : ∀ l : List DictEntry, (putL name (PyData.keyHash w.params name) (.str name (tk + 1)) b l).length ≤ l.length + 1 := by
      intro l
      induction l with
      | nil => simp [putL]
      | cons e r ih => unfold putL; split <;> simp; walk_at "om"
    exact gen es
  have hfl := se.length
  refine wpAny_updatePart D ?_
  refine wpAny_bind (wpAny_lookBehind hat (pastItsLine_dict (by rw [List.size_toArray, sizeLine_eq]; walk_at "om")) ?_)
  refine wpAny_pure ?_
  have im : ImmK h0 (h0.update dx (Obj.putName name (PyData.keyHash w.params name) (.str name (tk + 1)) b)) := fun c ob z ii => ((hsb _).2 c (fun y => by subst y; rw [D] at z; cases z; exact absurd ii (not_imm_dict rfl))).trans z
  obtain ⟨R', S⟩ := R.turn (o' := .sdict (setL name v fs)) ed (fun ob z => by rw [show h0.get? dx = _ from D] at z; cases z; exact not_imm_dict rfl) (hsb _) ⟨_, _, hat, (se.mono im).put (h2.mono im)⟩
  exact H () () _ _ _ h R' trivial S
end
end

section
open PySem PySem.W PyProof PyProof.Rows PySem.Calls PySem.Spec

section
variable {w : World} {hb : Base} {A : Around} {env : Env} {σ : Hp} {loc : Loc}

/- how a call's arguments come to its names -/
noncomputable def Binds (w : World) (hb : Base) (A : Around) (fd : FuncData) (vs : List V) (l : Loc) (σ : Hp) : Prop :=
  ∀ (as : List Value) (s : Shared) (P : List (Str × Value) → Shared → Prop) (E : Value → Shared → Prop), VRs s.heap vs as → Rep w hb σ s.heap →
    (∀ bs h' tk', SVR h' l bs → (∀ b o, s.heap.get? b = some o → h'.get? b = some o) → P bs { s with heap := h', toks := tk' }) → wpAny (model pg w) A (bindArgs fd ⟨as, []⟩) P E s

/- a function's run, at the level of codes -/
noncomputable def OpC (w : World) (hb : Base) (A : Around) (f : Addr) (vs : List V) (σ : Hp) (Q : V → Hp → Prop) : Prop :=
  ∀ (as : List Value) (s : Shared) (P : Value → Shared → Prop) (E : Value → Shared → Prop), VRs s.heap vs as → Rep w hb σ s.heap →
    (∀ b a σ' h' tk', Q b σ' → Rep w hb σ' h' → VR h' b a → St (fun _ => False) σ σ' s.heap h' → P a { s with heap := h', toks := tk' }) →
    codeAny (model pg w) A (.call (.ref f) ⟨as, []⟩) (fun r s' => match r with | .ok (.ret v) => P v s' | .ok _ => False | .error e => E e s') s
theorem OpC.op {f : Addr} {vs : List V} {Q : V → Hp → Prop} (h : OpC w hb A f vs σ Q) : OpN w hb A vs (fun as => call (.ref f) as) σ Q := fun as s P E I R H => wpAny_call (h as s P E I R H)
theorem call_fnB (B : Bs w hb.h) {n : Nat} {f : Addr} {o : Obj} {fd : FuncData} {body : List Stmt} {l : Loc} {vs : List V} {Q : V → Hp → Prop} (rm : Rm hb (n + 1) A)
    (hf : (KF w).lookup f = some o) (hd : o.data = .func fd) (hcd : codeIn (KF w) fd.code fd.qualname = true) (hbody : fd.body = .stmts body) (hclo : fd.closure = [])
    (hbind : Binds w hb A.in1 fd vs l σ) (hkind : (l.all fun y => fd.scope.names.lookup y.1 == some .local || fd.scope.names.lookup y.1 == some .cell) = true) (nd : (l.map (·.1)).Nodup) (nds : (fd.scope.names.map (·.1)).Nodup)
    (h : ∀ (hb' : Base) L A', hb'.h = hb.h → hb'.fr = callEnvC fd L f :: hb.fr → Bs w hb'.h → Rm hb' n A' → Ex w hb' A' (callEnvC fd L f) (execs body (callEnvC fd L f)) σ l (Ret Q))
    (hco : fd.scope.isCoroutine = false := by rfl) (hgen : fd.scope.isGenerator = false := by rfl) (hk : fd.scope.kind = .function := by rfl) :
    OpC w hb A f vs σ Q := fun as s P E I R H => by
  refine codeAny_call_function (by have := rm.depth; walk_at "om") (R.base _ _ (B.X _ _ hf)) hd hco hgen hbody (codeRec_of (R.inK B) hcd) ?_
  refine hbind as s _ _ I R fun bs h₁ tk₁ hsv keep1 => ?_
  obtain ⟨R₁, S₁⟩ := R.grow keep1
  rw [hclo]
  have hkeys := hsv.keys
  have hkd : (bs.all fun y => fd.scope.names.lookup y.1 == some .local || fd.scope.names.lookup y.1 == some .cell) = true := by
    rw [List.all_eq_true] at hkind ⊢
    intro p hp
    have : p.1 ∈ l.map (·.1) := by rw [hkeys]; exact List.mem_map_of_mem hp
    obtain ⟨q, hq, e⟩ := List.mem_map.mp this
    have := hkind q hq
    rwa [e] at this
  refine wpAny_newFunctionEnv_cells hk (kindsX hkd _) fun env he s' x => ?_
  subst he
  refine ⟨(R₁.nolimit B).keeps x.toInCall.keep, codeAny_func ?_⟩
  obtain ⟨R₂, F₂, im⟩ := frame_in (s := { s with heap := h₁, toks := tk₁ }) (f := f) R₁ hsv (by rw [← hkeys]; exact nd) nds x hk
  have keep := x.toInCall.keep
  have big : ∀ y c, (callEnvC fd h₁.objs.size f).cells.lookup y = some c → h₁.objs.size < c := fun y c h => x.above y c (mem_of_lookup h)
  obtain ⟨h₂, tk₂, rfl⟩ := x.toInCall.same
  refine h ⟨hb.h, callEnvC fd h₁.objs.size f :: hb.fr⟩ h₁.objs.size _ rfl rfl B rm.deeper _ _ _ R₂ F₂ fun fl g σ' loc' h' tk' q R' F' rf S => ?_
  have SS := S₁.trans (leave_St (s := { s with heap := h₁, toks := tk₁ }) keep big S)
  cases rf with
  | next => exact H _ _ _ _ _ q R'.back .none SS
  | ret ra => exact H _ _ _ _ _ q R'.back ra SS
  | brk => exact q.elim
  | cont => exact q.elim

/- a method of an object -/
noncomputable def IMeth (w : World) (hb : Base) (A : Around) (u : V) (σ : Hp) (name : Str) (f : Addr) : Prop :=
  ∀ (a : Value) (s : Shared) (pl : Sem Bool) (P : Value × List Value → Shared → Prop) (E : Value → Shared → Prop), VR s.heap u a → Rep w hb σ s.heap → P (.ref f, [a]) s → wpAny (model pg w) A (getMethod a name pl) P E s
theorem imeth (B : Bs w hb.h) {x C dx f : Addr} {vs : List (Option V)} {fs : List (Str × V)} {name : Str} (e : σ x = some (.inst C dx vs)) (ed : σ dx = some (.sdict fs)) (hn : fs.lookup name = none)
    (hg : plainGet (KF w) C name = true) (hf : findIn (KF w) (.ref C) name = some (some (.ref f))) (ht : isFn (KF w) (.ref f) = true) : IMeth w hb A (.ref x) σ name f := fun a s pl P E I R h => by
  cases I
  obtain ⟨sl, es, n, IA, _, se⟩ := R.instAt e ed
  exact method_fn (R.inK B) IA (plainGet_of hg).1 (plainGet_of hg).2 hf (beq_iff_eq.mp ht) (by show (lookIn name (dictOf es n)).map _ = _; rw [lookIn_dict, se.find.2.1 hn]; rfl) h

theorem Ev_imeth1 (B : Bs w hb.h) {o e : Expr} {rest : List Expr} {name : Str} {apos pos : Pos} {pl : Sem Bool} {Q : V → Hp → Loc → Prop}
    (h : Ev w hb A env (eval o env) σ loc fun u σ₁ loc₁ => ∃ f, IMeth w hb A u σ₁ name f ∧ keepIn (KF w) (.ref f) = true ∧ EvL w hb A env (spliced (backTo pos (starEach (e :: rest) env))) σ₁ loc₁ fun vs σ₂ loc₂ => OpN w hb A (u :: vs) (fun as => call (.ref f) as) σ₂ fun x σ₃ => Q x σ₃ loc₂)
    (he : eval (.Call (.Attribute o name apos) (e :: rest) [] pos) env = (do
      let ov ← eval o env
      standAt apos.atName
      let (f, first) ← holding [ov] (getMethod ov name pl)
      callWith pos f first (backTo pos (starEach (e :: rest) env)) []) := by rfl)
    (hst : starEach (e :: rest) env = (false, eval e env) :: starEach rest env := by rfl) (hplain : (backTo pos (starEach rest env)).any (·.1) = false := by rfl) :
    Ev w hb A env (eval (.Call (.Attribute o name apos) (e :: rest) [] pos) env) σ loc Q := fun s P E R F H => by
  refine MethodCall_ (h s _ _ R F fun u a σ₁ loc₁ h₁ t₁ q R₁ F₁ ra S₁ => ?_) he
  obtain ⟨f, hm, hk, q⟩ := q
  refine hm a _ pl _ _ ra R₁ (callWith_K B.X hk (q _ _ _ R₁ F₁ fun vs as σ₂ loc₂ h₂ t₂ q₂ R₂ F₂ rs S₂ => ⟨R₂.inK B, ?_⟩) hst hplain)
  exact Op.run q₂ (x := a :: as) (s := { s with heap := h₂, toks := t₂ }) (.cons (ra.mono S₂.imm) rs) R₂ F₂ fun x c σ₃ h₃ t₃ q₃ R₃ F₃ rc S₃ => H _ _ _ _ _ _ q₃ R₃ F₃ rc (S₁.trans (S₂.trans S₃))
theorem Ev_imeth0 (B : Bs w hb.h) {o : Expr} {name : Str} {apos pos : Pos} {pl : Sem Bool} {Q : V → Hp → Loc → Prop}
    (h : Ev w hb A env (eval o env) σ loc fun u σ₁ loc₁ => ∃ f, IMeth w hb A u σ₁ name f ∧ keepIn (KF w) (.ref f) = true ∧ OpN w hb A [u] (fun as => call (.ref f) as) σ₁ fun x σ₃ => Q x σ₃ loc₁)
    (he : eval (.Call (.Attribute o name apos) [] [] pos) env = (do
      let ov ← eval o env
      standAt apos.atName
      let (f, first) ← holding [ov] (getMethod ov name pl)
      callWith pos f first (backTo pos (starEach [] env)) []) := by rfl) :
    Ev w hb A env (eval (.Call (.Attribute o name apos) [] [] pos) env) σ loc Q := fun s P E R F H => by
  refine MethodCall_ (h s _ _ R F fun u a σ₁ loc₁ h₁ t₁ q R₁ F₁ ra S₁ => ?_) he
  obtain ⟨f, hm, hk, q⟩ := q
  refine hm a _ pl _ _ ra R₁ (callWith_K0 (R₁.inK B) hk ?_)
  exact Op.run q (x := [a]) (s := { s with heap := h₁, toks := t₁ }) (.cons ra .nil) R₁ F₁ fun x c σ₃ h₃ t₃ q₃ R₃ F₃ rc S₃ => H _ _ _ _ _ _ q₃ R₃ F₃ rc (S₁.trans S₃)

/- a class or a function of the text is called by its name -/
theorem Ev_callK1 (B : Bs w hb.h) {func e : Expr} {rest : List Expr} {pos : Pos} {Q : V → Hp → Loc → Prop}
    (h : Ev w hb A env (eval func env) σ loc fun f σ₁ loc₁ => ∃ c, f = .val (.ref c) ∧ keepIn (KF w) (.ref c) = true ∧ EvL w hb A env (spliced (backTo pos (starEach (e :: rest) env))) σ₁ loc₁ fun vs σ₂ loc₂ => OpN w hb A vs (fun as => call (.ref c) as) σ₂ fun x σ₃ => Q x σ₃ loc₂)
    (he : eval (.Call func (e :: rest) [] pos) env = (do callWith pos (← eval func env) [] (backTo pos (starEach (e :: rest) env)) (backToKw pos (keywordEach [] env))) := by rfl)
    (hst : starEach (e :: rest) env = (false, eval e env) :: starEach rest env := by rfl) (hplain : (backTo pos (starEach rest env)).any (·.1) = false := by rfl) :
    Ev w hb A env (eval (.Call func (e :: rest) [] pos) env) σ loc Q := fun s P E R F H => by
  refine Call_ (h s _ _ R F fun f a σ₁ loc₁ h₁ t₁ q R₁ F₁ ra S₁ => ?_) he
  obtain ⟨c, rfl, hk, q⟩ := q
  cases ra
  exact callWith_K B.X hk (q _ _ _ R₁ F₁ fun vs as σ₂ loc₂ h₂ t₂ q₂ R₂ F₂ rs S₂ => ⟨R₂.inK B, Op.run q₂ (x := as) (s := { s with heap := h₂, toks := t₂ }) rs R₂ F₂ fun x c σ₃ h₃ t₃ q₃ R₃ F₃ rc S₃ => H _ _ _ _ _ _ q₃ R₃ F₃ rc (S₁.trans (S₂.trans S₃))⟩) hst hplain
theorem Ev_callK0 (B : Bs w hb.h) {func : Expr} {pos : Pos} {Q : V → Hp → Loc → Prop}
    (h : Ev w hb A env (eval func env) σ loc fun f σ₁ loc₁ => ∃ c, f = .val (.ref c) ∧ keepIn (KF w) (.ref c) = true ∧ OpN w hb A [] (fun as => call (.ref c) as) σ₁ fun x σ₃ => Q x σ₃ loc₁)
    (he : eval (.Call func [] [] pos) env = (do callWith pos (← eval func env) [] (backTo pos (starEach [] env)) (backToKw pos (keywordEach [] env))) := by rfl) :
    Ev w hb A env (eval (.Call func [] [] pos) env) σ loc Q := fun s P E R F H => by
  refine Call_ (h s _ _ R F fun f a σ₁ loc₁ h₁ t₁ q R₁ F₁ ra S₁ => ?_) he
  obtain ⟨c, rfl, hk, q⟩ := q
  cases ra
  exact callWith_K0 (R₁.inK B) hk (Op.run q (x := []) (s := { s with heap := h₁, toks := t₁ }) .nil R₁ F₁ fun x c σ₃ h₃ t₃ q₃ R₃ F₃ rc S₃ => H _ _ _ _ _ _ q₃ R₃ F₃ rc (S₁.trans S₃))
/- a built-in type is called without arguments -/
theorem Ev_callT0 {func : Expr} {pos : Pos} {Q : V → Hp → Loc → Prop}
    (h : Ev w hb A env (eval func env) σ loc fun f σ₁ loc₁ => ∃ T, f = .val (.type T) ∧ OpN w hb A [] (fun as => call (.type T) as) σ₁ fun x σ₃ => Q x σ₃ loc₁)
    (he : eval (.Call func [] [] pos) env = (do callWith pos (← eval func env) [] (backTo pos (starEach [] env)) (backToKw pos (keywordEach [] env))) := by rfl) :
    Ev w hb A env (eval (.Call func [] [] pos) env) σ loc Q := fun s P E R F H => by
  refine Call_ (h s _ _ R F fun f a σ₁ loc₁ h₁ t₁ q R₁ F₁ ra S₁ => ?_) he
  obtain ⟨T, rfl, q⟩ := q
  cases ra
  exact callWith_type0 (Op.run q (x := []) (s := { s with heap := h₁, toks := t₁ }) .nil R₁ F₁ fun x c σ₃ h₃ t₃ q₃ R₃ F₃ rc S₃ => H _ _ _ _ _ _ q₃ R₃ F₃ rc (S₁.trans S₃))

theorem Rm.make {n : Nat} (rm : Rm hb (n + 1) A) (C : Addr) (as : List Value) : Rm hb n (A.under (.builtin "type.__call__" ⟨.ref C :: as, []⟩)) :=
  ⟨rm.hand, rm.frames, by have := rm.depth; show A.depth + 1 + n < _; walk_at "om", by
    have := rm.units
    have h : (A.under (.builtin "type.__call__" ⟨.ref C :: as, []⟩)).units ≤ A.units + 10 := by
      show A.units + Code.cUnits _ ≤ _
      have : Code.cUnits (.builtin "type.__call__" ⟨.ref C :: as, []⟩) ≤ 10 := by first | decide | (simp only [Code.cUnits, Code.frames]; split <;> walk_at "om") | (show 1 + 3 * (0 : Nat) ≤ 10; decide) | (unfold Code.cUnits; decide)
      walk_at "om"
    walk_at "om"⟩
/- an object is made -/
theorem make_inst (B : Bs w hb.h) {n : Nat} (rm : Rm hb (n + 1) A) {C fI : Addr} {vs : List V} {Q : V → Hp → Prop} (hm : makesIn (KF w) C = true) (hi : findIn (KF w) (.ref C) "__init__" = some (some (.ref fI))) (hf : typeIn (KF w) (.ref fI) = some (.type "function"))
    (h : ∀ x dx A', Rm hb n A' → σ x = none → σ dx = none → x ≠ dx → hb.get? x = none → hb.get? dx = none → OpC w hb A' fI (.ref x :: vs) (upd (upd σ dx (.sdict [])) x (.inst C dx [])) fun r σ' => r = .none ∧ Q (.ref x) σ') :
    OpN w hb A vs (fun as => call (.ref C) as) σ Q := fun as s P E I R H => by
  obtain ⟨hh, g, d, t, os⟩ := s
  refine wpAny_call (make_core (makes_of (R.inK B) hm) (looks_findIn (R.inK B) hi) (fun self => bind_fn (R.inK B) self hf) (.inl rfl) ?_)
  have z0 := get?_size hh
  have z1 : hh.get? (hh.objs.size + 1) = none := Heap.get?_none_of_le (Nat.le_succ _)
  have k1 : ∀ b o, hh.get? b = some o → (hh.push emptyDict).get? b = some o := fun b o e => Heap.get?_push_of_some _ e
  obtain ⟨d1, d2, R1, S1⟩ := R.newAt (o := .sdict []) (h' := hh.push emptyDict) (D := hh.objs.size) k1 z0 ⟨[], 0, Heap.get?_push_size _ rfl, .nil⟩
  have z2 : (hh.push emptyDict).get? (hh.objs.size + 1) = none := by
    have := get?_size (hh.push emptyDict)
    rwa [Heap.size_push] at this
  obtain ⟨x1, x2, R2, S2⟩ := R1.newAt (o := .inst C hh.objs.size []) (h' := (hh.push emptyDict).push (instObj C hh.objs.size)) (D := hh.objs.size + 1) (fun b o e => Heap.get?_push_of_some _ e) z2 ⟨[], by
    have := Heap.get?_push_size (hh.push emptyDict) (o := instObj C hh.objs.size) rfl
    rwa [Heap.size_push] at this, .nil⟩
  have main := h (hh.objs.size + 1) hh.objs.size _ (rm.make C as) (R.none_of z1) (R.none_of z0) (Nat.succ_ne_self _) x2 d2
  refine codeAny_mono (main (.ref (hh.objs.size + 1) :: as) ⟨(hh.push emptyDict).push (instObj C hh.objs.size), g, d, t, os⟩ (fun v s' => v = .none ∧ P (.ref (hh.objs.size + 1)) s') E (.cons (.ref _) ((I.mono S1.imm).mono S2.imm)) R2 fun r a σ' h' tk' q R' ra S' => ?_) fun r s' z => ?_
  · obtain ⟨rfl, q⟩ := q
    cases ra
    exact ⟨rfl, H _ _ _ _ _ q R' (.ref _) ((S1.trans S2).trans S')⟩
  · rcases r with e | (v | _ | _ | _) <;> first | exact z | exact z.elim
end
end

section
open PySem PySem.W PyProof PyProof.Rows PySem.Calls PySem.Spec

section
variable {w : World} {hb : Base} {A : Around} {env : Env} {σ : Hp} {loc : Loc}

/- a method is called with one argument and a list's items behind it -/
theorem Ev_starcall (B : Bs w hb.h) {o e1 e2 : Expr} {name : Str} {apos pos p : Pos} {f C : Addr} {Q : V → Hp → Loc → Prop}
    (h : Ev w hb A env (eval o env) σ loc fun u σ₁ loc₁ => ∃ x dx sl fs, u = .ref x ∧ σ₁ x = some (.inst C dx sl) ∧ σ₁ dx = some (.sdict fs) ∧ fs.lookup name = none ∧
      Ev w hb A env (eval e1 env) σ₁ loc₁ fun v1 σ₂ loc₂ => Ev w hb A env (eval e2 env) σ₂ loc₂ fun u2 σ₃ loc₃ => ∃ l vs, u2 = .ref l ∧ σ₃ l = some (.list vs) ∧ vs.length ≤ 1000 ∧ OpC w hb A f (.ref x :: v1 :: vs) σ₃ fun r σ₄ => Q r σ₄ loc₃)
    (hg : plainGet (KF w) C name = true) (hh : hasDictIn (KF w) C = true) (ha : findIn (KF w) (.ref C) name = some (some (.ref f))) (hf : isFn (KF w) (.ref f) = true)
    (hgf : specialIn (KF w) (.ref f) "__get__" = some (some (.builtin "function.__get__"))) (ht : takesIn (KF w) (.ref f) = some false) (hc : copiedNames.contains name = false) (hfn : fnIn (KF w) f = true)
    (he : eval (.Call (.Attribute o name apos) [e1, .Starred e2 p] [] pos) env = (do
      let ov ← eval o env
      standAt apos.atName
      let (f, first) ← holding [ov] (do pure (← getAttr ov name true, ([] : List Value)))
      callWith pos f first (backTo pos (starEach [e1, .Starred e2 p] env)) []) := by rfl)
    (hst : starEach [e1, .Starred e2 p] env = (false, eval e1 env) :: starEach [.Starred e2 p] env := by rfl) :
    Ev w hb A env (eval (.Call (.Attribute o name apos) [e1, .Starred e2 p] [] pos) env) σ loc Q := fun s P E R F H => by
  rw [he]
  refine wpAny_bind (h s _ _ R F fun u a σ₁ loc₁ h₁ t₁ q R₁ F₁ ra S₁ => wpAny_bind (wpAny_standAt (wpAny_bind (wpAny_holding (wpAny_bind ?_)))))
  obtain ⟨x, dx, sl, fs, rfl, ex, ed, hn, q⟩ := q
  cases ra
  obtain ⟨sl', es, n, IA, _, se⟩ := R₁.instAt ex ed
  have hl : getL name es = some none := se.find.2.1 hn
  refine get_bind (s := { s with heap := h₁, toks := t₁ }) (R₁.inK B) IA (plainGet_of hg).1 (findObj_fn hh ha hgf ht hc (by show lookIn name (dictOf es n) = _; rw [lookIn_dict, hl])) (plainGet_of hg).2
    (wpAny_call (fn_get (s := { s with heap := h₁, toks := t₁ + 1 }) (R₁.inK B) (beq_iff_eq.mp hf) (handed_on rfl (wpAny_pure ?_))))
  have z := get?_size h₁
  obtain ⟨R₂, S₂⟩ := R₁.push (ob := methodObj (.ref f) (.ref x))
  have F₂ := F₁.stay S₂
  have hq : (h₁.push (methodObj (.ref f) (.ref x))).get? h₁.objs.size = some (methodObj (.ref f) (.ref x)) := Heap.get?_push_size _ rfl
  have sq : σ₁ h₁.objs.size = none := R₁.none_of z
  have oq : ¬ own env h₁.objs.size := fun oo => by obtain ⟨ob, e⟩ := F₁.has oo.reach; rw [z] at e; cases e
  show wpAny (model pg w) A (callWith pos (.ref h₁.objs.size) [] (backTo pos (starEach [e1, .Starred e2 p] env)) []) _ _ _
  rw [hst]
  refine ks_call (P := MethP (KF w) h₁.objs.size f (.ref x)) rfl (keeps_M hfn) (evalArgs_plain ?_)
  have := wpAny_items_cons (M := model pg w) (A := A) (E := E) (env := env) (pos := pos) (e := e1) (rest := [.Starred e2 p]) (s := { s with heap := h₁.push (methodObj (.ref f) (.ref x)), toks := t₁ + 1 })
    (Q := fun vs s₁ => MethP (KF w) h₁.objs.size f (.ref x) s₁.heap ∧ wpAny (model pg w) A (call (.ref h₁.objs.size) ([] ++ vs) []) P E s₁) (q _ _ _ R₂ F₂ fun v1 b σ₃ loc₃ h₃ t₃ q₃ R₃ F₃ rb S₃ => ?_) hst
  · rw [hst] at this; exact this
  refine items_star (q₃ _ _ _ R₃ F₃ fun u2 c σ₄ loc₄ h₄ t₄ q₄ R₄ F₄ rc S₄ => ?_)
  obtain ⟨l, vs, rfl, el, hz, q₄⟩ := q₄
  cases rc
  have S34 := S₃.trans S₄
  have kq' := S34.keep _ _ hq sq oq
  have kq : h₄.get? h₁.objs.size = some (methodObj (.ref f) (.ref x)) ∧ σ₄ h₁.objs.size = none := ⟨kq'.1.exact (not_isD_fields rfl), kq'.2⟩
  obtain ⟨xs, m, ea, rs⟩ := R₄.obj l _ el
  have hsz : xs.size ≤ sizeLine := by
    have : vs.length = xs.size := by rw [rs.length, Array.length_toList]
    rw [sizeLine]; walk_at "om"
  have col : wpAny (model pg w) A (collect (.ref l)) (fun here s₂ => wpAny (model pg w) A (spliced (backTo pos (starEach [] env))) (fun vs s₃ => MethP (KF w) h₁.objs.size f (.ref x) s₃.heap ∧ wpAny (model pg w) A (call (.ref h₁.objs.size) ([] ++ (b :: (here ++ vs))) []) P E s₃) E s₂) E { s with heap := h₄, toks := t₄ } := by
    refine wpAny_collect_seq (s := { s with heap := h₄, toks := t₄ }) l (.inl rfl) ea rfl rfl (fun h₅ hk => ?_) hsz
    obtain ⟨R₅, S₅⟩ := R₄.grow hk
    have F₅ := F₄.stay S₅
    refine wpAny_items_nil ⟨⟨hk _ _ kq.1, R₅.inK B⟩, ?_⟩
    rw [List.append_nil]
    refine wpAny_call (method_call (hk _ _ kq.1) ?_)
    refine q₄ (.ref x :: b :: xs.toList) { s with heap := h₅, toks := t₄ } P E (.cons (.ref x) (.cons ((rb.mono S₄.imm).mono S₅.imm) (rs.mono S₅.imm))) R₅ fun r d σ₆ h₆ t₆ q₆ R₆ rd S₆ => ?_
    exact H _ _ _ _ _ _ q₆ R₆ (F₅.stay S₆) rd (S₁.trans ((S₂.wide fun _ z => z.elim).trans (S34.trans ((S₅.wide fun _ z => z.elim).trans (S₆.wide fun _ z => z.elim)))))
  unfold StarOf notIterableAtAll
  exact wpAny_bind (wpAny_specialOf ⟨_, ea, rfl⟩ PySem.F.slot_list_iter.lookup (wpAny_pure ⟨rfl, col⟩))

/- an attribute is raised or lowered -/
theorem Ex_augattr {o value : Expr} {name : Str} {tpos pos : Pos} {op : Operator} {R : Fl → Hp → Loc → Prop}
    (h : Ev w hb A env (eval o env) σ loc fun u σ₁ loc₁ => Op1 w hb A u (fun a => getAttr a name true) σ₁ fun old σ₂ => Ev w hb A env (eval value env) σ₂ loc₁ fun v σ₃ loc₃ => Op2 w hb A old v (fun a b => inplaceOp op a b) σ₃ fun new σ₄ => OpA w hb A u new name σ₄ fun _ σ₅ => R .next σ₅ loc₃) :
    Ex w hb A env (exec (.AugAssign (.Attribute o name tpos) op value pos) env) σ loc R := fun s P E Rp F H => by
  rw [arm_exec_AugAssign_2]
  refine wpAny_bind (wpAny_standAt (wpAny_bind (h s _ _ Rp F fun u a σ₁ loc₁ h₁ t₁ q R₁ F₁ ra S₁ => wpAny_bind (wpAny_holding (wpAny_bind (wpAny_standAt (wpAny_bind ?_)))))))
  refine Op.run q (x := a) (s := { s with heap := h₁, toks := t₁ }) ra R₁ F₁ fun old b σ₂ h₂ t₂ q₂ R₂ F₂ rb S₂ => ?_
  refine wpAny_bind (wpAny_holding (q₂ _ _ _ R₂ F₂ fun v c σ₃ loc₃ h₃ t₃ q₃ R₃ F₃ rc S₃ => wpAny_bind (wpAny_standAt (wpAny_operating ?_))))
  refine Op.run q₃ (x := (b, c)) (s := { s with heap := h₃, toks := t₃ }) ⟨rb.mono S₃.imm, rc⟩ R₃ F₃ fun new d σ₄ h₄ t₄ q₄ R₄ F₄ rd S₄ => ?_
  refine wpAny_bind (wpAny_standAt (wpAny_bind (wpAny_holding ?_)))
  refine Op.run q₄ (x := (a, d)) (s := { s with heap := h₄, toks := t₄ }) ⟨((ra.mono S₂.imm).mono S₃.imm).mono S₄.imm, rd⟩ R₄ F₄ fun _ _ σ₅ h₅ t₅ q₅ R₅ F₅ _ S₅ => ?_
  exact wpAny_bind (wpAny_release (wpAny_pure (H _ _ _ _ _ _ q₅ R₅ F₅ .next (S₁.trans (S₂.trans (S₃.trans (S₄.trans S₅)))))))
theorem Op_iadd {a b : Int} {Q : V → Hp → Prop} (h : Q (.int (a + b)) σ) : Op2 w hb A (.int a) (.int b) (fun x y => inplaceOp .Add x y) σ Q := fun p s P E I R H => by
  obtain ⟨x, y⟩ := p; obtain ⟨h1, h2⟩ := I; cases h1; cases h2
  exact iadd_int (H _ _ _ s.heap _ h R (.int _ _) St.same)
theorem Op_isub {a b : Int} {Q : V → Hp → Prop} (h : Q (.int (a - b)) σ) : Op2 w hb A (.int a) (.int b) (fun x y => inplaceOp .Sub x y) σ Q := fun p s P E I R H => by
  obtain ⟨x, y⟩ := p; obtain ⟨h1, h2⟩ := I; cases h1; cases h2
  exact isub_int (H _ _ _ s.heap _ h R (.int _ _) St.same)
/- a name is bound within an expression -/
theorem Ev_walrus {x : Str} {np pos : Pos} {value : Expr} {Q : V → Hp → Loc → Prop} (h : Ev w hb A env (eval value env) σ loc fun v σ₁ loc₁ => As w hb A env (.Name x np) v σ₁ loc₁ fun σ₂ loc₂ => Q v σ₂ loc₂) :
    Ev w hb A env (eval (.NamedExpr (.Name x np) value pos) env) σ loc Q := fun s P E R F H => by
  rw [arm_eval_NamedExpr]
  refine wpAny_bind (h s _ _ R F fun v a σ₁ loc₁ h₁ t₁ q R₁ F₁ ra S₁ => wpAny_bind (wpAny_holding (q a _ _ _ ra R₁ F₁ fun σ₂ loc₂ h₂ t₂ q₂ R₂ F₂ S₂ => wpAny_pure ?_)))
  exact H _ _ _ _ _ _ q₂ R₂ F₂ (ra.mono S₂.imm) (S₁.trans S₂)
end
end

section
open PySem PySem.W PyProof PyProof.Rows PySem.Calls PySem.Spec

theorem KVR.length {h : Heap} : ∀ {l : List (Int × V)} {r : List (Int × Value)}, KVR h l r → l.length = r.length
  | [], [], _ => rfl
  | (_, _) :: _, (_, _) :: _, ⟨_, _, c⟩ => congrArg Nat.succ c.length
theorem KVR.at {h : Heap} {k : Int} : ∀ {l : List (Int × V)} {r : List (Int × Value)}, KVR h l r → (∀ v, l.lookup k = some v → ∃ a, valueAt r k = some a ∧ VR h v a) ∧ (l.lookup k = none → valueAt r k = none)
  | [], [], _ => ⟨fun v h => by simp at h, fun _ => rfl⟩
  | (x, v) :: l, (y, a) :: r, ⟨e, ra, c⟩ => by
    subst e
    obtain ⟨i1, i2⟩ := c.at (k := k)
    by_cases hx : x = k
    · subst hx
      refine ⟨fun u hu => ?_, fun hn => ?_⟩
      · rw [List.lookup_cons, beq_self_eq_true] at hu; cases hu
        exact ⟨a, by simp [valueAt], ra⟩
      · rw [List.lookup_cons, beq_self_eq_true] at hn; cases hn
    · have e1 : (k == x) = false := by simpa using fun z => hx z.symm
      have e2 : valueAt ((x, a) :: r) k = valueAt r k := by simp [valueAt, hx]
      rw [List.lookup_cons, e1, e2]
      exact ⟨i1, i2⟩
theorem KVR.get {h : Heap} : ∀ {l : List (Int × V)} {r : List (Int × Value)}, KVR h l r → ∀ {i : Nat} {k : Int} {v : V}, l[i]? = some (k, v) → ∃ a, r[i]? = some (k, a) ∧ VR h v a
  | [], [], _, i, k, v, e => by simp at e
  | (x, u) :: l, (y, a) :: r, ⟨e, ra, c⟩, 0, k, v, h => by simp at h; obtain ⟨rfl, rfl⟩ := h; subst e; exact ⟨a, rfl, ra⟩
  | (x, u) :: l, (y, a) :: r, ⟨e, ra, c⟩, i + 1, k, v, h => by simpa using c.get (i := i) (by simpa using h)
/- an entry is set -/
noncomputable def putK (k : Int) (v : V) (l : List (Int × V)) : List (Int × V) := if l.any (fun kv => kv.1 = k) then l.map (fun kv => if kv.1 = k then (kv.1, v) else kv) else l ++ [(k, v)]
noncomputable def dropK (k : Int) (l : List (Int × V)) : List (Int × V) := l.filter fun kv => decide (kv.1 ≠ k)
theorem KVR.any {h : Heap} {k : Int} : ∀ {l : List (Int × V)} {r : List (Int × Value)}, KVR h l r → l.any (fun kv => kv.1 = k) = r.any (fun kv => kv.1 = k)
  | [], [], _ => rfl
  | (_, _) :: _, (_, _) :: _, ⟨e, _, c⟩ => by simp only [List.any_cons, e, c.any]
theorem KVR.app {h : Heap} {k : Int} {v : V} {a : Value} (ra : VR h v a) : ∀ {l : List (Int × V)} {r : List (Int × Value)}, KVR h l r → KVR h (l ++ [(k, v)]) (r ++ [(k, a)])
  | [], [], _ => ⟨rfl, ra, trivial⟩
  | (_, _) :: _, (_, _) :: _, ⟨e, p, c⟩ => ⟨e, p, c.app ra⟩
theorem KVR.mapK {h : Heap} {k : Int} {v : V} {a : Value} (ra : VR h v a) : ∀ {l : List (Int × V)} {r : List (Int × Value)}, KVR h l r → KVR h (l.map fun kv => if kv.1 = k then (kv.1, v) else kv) (r.map fun kv => if kv.1 = k then (kv.1, a) else kv)
  | [], [], _ => trivial
  | (x, _) :: _, (y, _) :: _, ⟨e, p, c⟩ => by
    subst e
    simp only [List.map_cons]
    split
    · exact ⟨rfl, ra, c.mapK ra⟩
    · exact ⟨rfl, p, c.mapK ra⟩
theorem KVR.put {h : Heap} {k : Int} {v : V} {a : Value} (ra : VR h v a) {l : List (Int × V)} {r : List (Int × Value)} (x : KVR h l r) : KVR h (putK k v l) (stored r k a) := by
  unfold putK stored
  rw [x.any]
  split
  · exact x.mapK ra
  · exact x.app ra
theorem KVR.drop {h : Heap} {k : Int} : ∀ {l : List (Int × V)} {r : List (Int × Value)}, KVR h l r → KVR h (dropK k l) (without r k)
  | [], [], _ => trivial
  | (x, _) :: _, (y, _) :: _, ⟨e, p, c⟩ => by
    subst e
    unfold dropK without
    rw [List.filter_cons, List.filter_cons]
    split
    · exact ⟨rfl, p, c.drop⟩
    · exact c.drop

section
variable {w : World} {hb : Base} {A : Around} {env : Env} {σ : Hp} {loc : Loc}
theorem Rep.dict {h : Heap} (R : Rep w hb σ h) {d : Addr} {kvs : List (Int × V)} {ep : Nat} (e : σ d = some (.dict kvs ep)) : ∃ ps, h.DictAt (intKind pg w) d ps ep ∧ KVR h kvs ps := R.obj d _ e
theorem dict_not_imm {h : Heap} {d : Addr} {ps : List (Int × Value)} {ep : Nat} (D : h.DictAt (intKind pg w) d ps ep) : ∀ ob, h.get? d = some ob → ¬ Imm ob := fun ob z => by
  obtain ⟨o, es, ho, hc, hd, _⟩ := D
  rw [ho] at z; cases z; exact not_imm_dict hd
theorem Ev_Dict0 (B : Bs w hb.h) {pos : Pos} {Q : V → Hp → Loc → Prop} (h : ∀ D, σ D = none → hb.get? D = none → D ≠ sysModules → Q (.ref D) (upd σ D (.dict [] 0)) loc) : Ev w hb A env (eval (.Dict [] [] pos) env) σ loc Q := fun s P E R F H => by
  refine wpAny_Dict_empty ?_
  obtain ⟨d1, d2, R', S⟩ := R.newAt (o := .dict [] 0) (h' := s.heap.push { cls := .type "dict", data := .dict #[] }) (D := s.heap.objs.size) (fun b o e => Heap.get?_push_of_some _ e) (get?_size _) ⟨[], ⟨_, #[], Heap.get?_push_size _ rfl, ⟨rfl, rfl, rfl⟩, rfl, by intro e he; simp at he, .nil, by simp⟩, trivial⟩
  refine H _ _ _ _ _ _ (h _ d1 d2 ?_) R' (F.stay S) (.ref _) (S.wide fun _ z => z.elim)
  obtain ⟨loose, mean, mg, mb, T⟩ := B.T
  obtain ⟨o, es, ep, ho, _⟩ := (T.g.keeps R.base)
  have lt := Heap.lt_size ho
  intro z
  rw [z] at lt
  exact absurd lt (by decide)
theorem sysne {d : Addr} (hd : d ≠ sysModules) : (d == sysModules) = false := by simpa using hd
theorem Sub_dict {value slice : Expr} {d : Addr} {kvs : List (Int × V)} {ep : Nat} {k : Int} {v : V} {Q : V → Hp → Prop} (e : σ d = some (.dict kvs ep)) (hv : kvs.lookup k = some v) (h : Q v σ)
    (hs : ∀ o i, subscripted slice false o i = operate [o, i] (getItem o i) := by intro _ _; with_unfolding_all rfl) : Sub w hb A value slice (.ref d) (.int k) σ Q := fun p s P E I R H => by
  obtain ⟨x, y⟩ := p; obtain ⟨h1, h2⟩ := I; cases h1; cases h2
  obtain ⟨ps, D, K⟩ := R.dict e
  obtain ⟨a, ha, ra⟩ := K.at.1 v hv
  exact tail_any D.dictOf.typeIs PySem.slot_dict_getitem.lookup (wpAny_getItem_of (knd := intKind pg w) (k := k) (intKind_is pg w k _) D.dictOf.mapOf ha (H _ _ _ s.heap _ h R ra St.same)) (hs _ _)
theorem Op_inD {d : Addr} {kvs : List (Int × V)} {ep : Nat} {k : Int} {Q : V → Hp → Prop} (e : σ d = some (.dict kvs ep)) (hd : d ≠ sysModules) (h : Q (.bool (kvs.lookup k).isSome) σ) : Op2 w hb A (.int k) (.ref d) (fun x y => compareOp .In x y) σ Q := fun p s P E I R H => by
  obtain ⟨x, y⟩ := p; obtain ⟨h1, h2⟩ := I; cases h1; cases h2
  obtain ⟨ps, D, K⟩ := R.dict e
  have hb' : (valueAt ps k).isSome = (kvs.lookup k).isSome := by
    cases q : kvs.lookup k with
    | none => rw [K.at.2 q]; rfl
    | some v => obtain ⟨a, ha, _⟩ := K.at.1 v q; rw [ha]; rfl
  exact wpAny_in_of (knd := intKind pg w) (k := k) (intKind_is pg w k _) (sysne hd) D.dictOf.mapOf (by rw [hb']; exact H _ _ _ s.heap _ h R (.bool _) St.same)
theorem OpS_dict {d : Addr} {kvs : List (Int × V)} {ep : Nat} {k : Int} {v : V} {Q : Unit → Hp → Prop} (e : σ d = some (.dict kvs ep)) (hz : kvs.length ≤ 1000) (h : ∀ ep', Q () (upd σ d (.dict (putK k v kvs) ep'))) : OpS w hb A (.ref d) (.int k) v σ Q := fun p s P E I R H => by
  obtain ⟨x, y, z⟩ := p; obtain ⟨h1, h2, h3⟩ := I; cases h1; cases h2
  obtain ⟨ps, D, K⟩ := R.dict e
  refine wpAny_setItem_pairs (knd := intKind pg w) (k := k) (intKind_is pg w k _) D.dictOf (fun h' D' hs => ?_) (by rw [← K.length, sizeLine]; walk_at "om")
  obtain ⟨ep', D'⟩ := D'.dictAt
  have im : ImmK s.heap h' := fun b ob z i => (hs.2 b (fun y => by subst y; exact absurd i (dict_not_imm D ob z))).trans z
  obtain ⟨R', S⟩ := R.turn (o' := .dict (putK k v kvs) ep') e (dict_not_imm D) hs ⟨_, D', (K.mono im).put (h3.mono im)⟩
  exact H () () _ _ _ (h ep') R' trivial S
theorem Meth_dict {d : Addr} {kvs : List (Int × V)} {ep : Nat} {name : Str} {id : String} (e : σ d = some (.dict kvs ep)) (slot : Slot "dict" name id) (hty : typeOf (.builtin id) = pure (.type "method_descriptor")) : Meth w hb A (.ref d) σ name id := fun b s pl P E ra R h => by
  cases ra
  obtain ⟨ps, D, K⟩ := R.dict e
  exact getMethod_builtin D.dictOf.typeIs PySem.F.plainAttrs_dict slot hty (fun a e => by
    cases e
    obtain ⟨o, es, ho, hc, _⟩ := D
    exact ⟨o, ho, hc.2.1⟩) h
theorem Op_dget {d : Addr} {kvs : List (Int × V)} {ep : Nat} {k : Int} {Q : V → Hp → Prop} (e : σ d = some (.dict kvs ep)) (hd : d ≠ sysModules) (h : Q ((kvs.lookup k).getD .none) σ) : OpN w hb A [.ref d, .int k] (fun as => call (.builtin "dict.get") as) σ Q := fun x s P E I R H => by
  cases I with
  | cons p r => cases p; cases r with
    | cons q r =>
      cases q; cases r
      obtain ⟨ps, D, K⟩ := R.dict e
      refine call_meetsIn PySem.F.slot_dict_get D.dictOf.typeIs PySem.F.entry_dict_get (PySem.F.args_dict_get_2 _ _) (meets_dict_get (intKind pg w) d (k := k) (intKind_is pg w k _) (sysne hd)) ⟨_, D.dictOf.mapOf, ?_⟩
      refine H _ _ _ s.heap _ h R ?_ St.same
      cases q : kvs.lookup k with
      | none => rw [K.at.2 q]; exact .none
      | some v => obtain ⟨a, ha, ra⟩ := K.at.1 v q; rw [ha]; exact ra
end
end

section
open PySem PySem.W PyProof PyProof.Rows PySem.Calls PySem.Spec
open PySem.AutoSeq1 (wpAny_loadPart')

theorem meets_bool_list (l : Addr) (xs : Array Value) (n : Nat) (hfit : (xs.size : Int) < 2 ^ 63) :
    Meets (Builtin.«bool.__new__» ⟨[.type "bool", .ref l], []⟩) (fun _ R s => s.heap.get? l = some (listOf xs n) ∧ ∀ tk, R (.ok (.ret (.bool (!xs.isEmpty)))) { s with toks := tk }) :=
  Meets.of_wp fun prog w A R s h => by
    obtain ⟨hp, g, d, tk, os⟩ := s
    obtain ⟨hl, h⟩ := h
    have f1 := F.conv_sub_bool
    have hL : Heap.IsList (Shared.heap ⟨hp, g, d, tk, os⟩) l xs := PySem.IsL.isList hl
    repeat (any_goals (first | assumption | (with_reducible refine wpAny_truthy_list hL hfit ?_) | wp_step))
    all_goals first | exact ⟨_, rfl, h _⟩ | exact h _ | skip
section
variable {w : World} {hb : Base} {A : Around} {env : Env} {σ : Hp} {loc : Loc}
/- an item is taken out of a dict -/
noncomputable abbrev OpD (w : World) (hb : Base) (A : Around) (o i : V) := Op w hb A (fun h (p : Value × Value) => VR h o p.1 ∧ VR h i p.2) (fun p => delItem p.1 p.2) (fun _ (_ _ : Unit) => True)
theorem Ex_del {o i : Expr} {p pos : Pos} {R : Fl → Hp → Loc → Prop} (h : Ev w hb A env (eval o env) σ loc fun u σ₁ loc₁ => Ev w hb A env (eval i env) σ₁ loc₁ fun k σ₂ loc₂ => OpD w hb A u k σ₂ fun _ σ₃ => R .next σ₃ loc₂) :
    Ex w hb A env (exec (.Delete [.Subscript o i p] pos) env) σ loc R := fun s P E Rp F H => by
  rw [arm_exec_Delete, arm_deleteEach_cons, arm_deleteEach_nil, arm_delete_Subscript]
  refine wpAny_bind (wpAny_standAt (wpAny_bind (wpAny_bind (wpAny_bind (h s _ _ Rp F fun u b σ₁ loc₁ h₁ t₁ q R₁ F₁ rb S₁ => wpAny_bind (wpAny_holding (q _ _ _ R₁ F₁ fun k c σ₂ loc₂ h₂ t₂ q₂ R₂ F₂ rc S₂ => wpAny_bind (wpAny_standAt (wpAny_bind (wpAny_holding ?_))))))))))
  exact Op.run q₂ (x := (b, c)) (s := { s with heap := h₂, toks := t₂ }) ⟨rb.mono S₂.imm, rc⟩ R₂ F₂ fun x d σ₃ h₃ t₃ q₃ R₃ F₃ rd S₃ => wpAny_release (wpAny_pure (wpAny_pure (H _ _ _ _ _ _ q₃ R₃ F₃ .next (S₁.trans (S₂.trans S₃)))))
theorem OpD_dict {d : Addr} {kvs : List (Int × V)} {ep : Nat} {k : Int} {Q : Unit → Hp → Prop} (e : σ d = some (.dict kvs ep)) (hz : kvs.length ≤ 1000) (hk : (kvs.lookup k).isSome = true) (h : ∀ ep', Q () (upd σ d (.dict (dropK k kvs) ep'))) : OpD w hb A (.ref d) (.int k) σ Q := fun p s P E I R H => by
  obtain ⟨x, y⟩ := p; obtain ⟨h1, h2⟩ := I; cases h1; cases h2
  obtain ⟨ps, D, K⟩ := R.dict e
  have hv : (valueAt ps k).isSome = true := by
    cases q : kvs.lookup k with
    | none => rw [q] at hk; cases hk
    | some v => obtain ⟨a, ha, _⟩ := K.at.1 v q; rw [ha]; rfl
  have hD := D.dictOf
  show wpAny _ _ (delItem _ _) _ _ _
  refine wpAny_delItem_slot hD.typeIs (by decide) PySem.F.slot_dict_delitem (call_meetsIn PySem.F.slot_dict_delitem hD.typeIs PySem.F.entry_dict_delitem (PySem.F.args_dict_delitem_2 _ _) (meets_dict_delitem_pairs (intKind pg w) d (k := k) (intKind_is pg w k _)) ⟨ps, hD, by rw [← K.length, sizeLine]; walk_at "om", hv, fun h' hmm hs => ?_⟩)
  obtain ⟨ep', D'⟩ := hmm.dictAt
  have im : ImmK s.heap h' := fun b ob z i => (hs.2 b (fun y => by subst y; exact absurd i (dict_not_imm D ob z))).trans z
  obtain ⟨R', S⟩ := R.turn (o' := .dict (dropK k kvs) ep') e (dict_not_imm D) hs ⟨_, D', (K.mono im).drop⟩
  exact H () () _ _ _ (h ep') R' trivial S
/- a dict is gone through by its keys -/
theorem src_dict {d : Addr} {kvs : List (Int × V)} {ep n : Nat} (rm : Rm hb n A) (hd : d ≠ sysModules) (e : σ d = some (.dict kvs ep)) : Src w hb A (.ref d) σ (fun σ' => σ' d = some (.dict kvs ep)) (kvs.map fun p => .int p.1) := fun b s P E ra R H => by
  cases ra
  obtain ⟨ps, D, K⟩ := R.dict e
  refine wpAny_pyIter_dict (sysne hd) D ?_
  have hl : kvs.length = ps.length := K.length
  refine H _ [s.heap.objs.size] (fun i h => h.IsKeyIter s.heap.objs.size d i kvs.length ep) _ s.toks ⟨?_, ?_, ?_, ?_, ?_, ?_⟩ ⟨_, Heap.get?_push_size _ rfl, rfl, by rw [hl]; rfl⟩ (fun b o e => Heap.get?_push_of_some _ e) (fun b hb' => by simp at hb'; subst hb'; exact get?_size _)
  · intro i u σ' s' P E hu hT R' hC H'
    obtain ⟨ps', D', K'⟩ := R'.dict hC
    rw [List.getElem?_map] at hu
    obtain ⟨⟨k, v⟩, hkv, rfl⟩ := Option.map_eq_some_iff.mp hu
    obtain ⟨a, ha, _⟩ := K'.get hkv
    rw [K'.length] at hT
    refine wpAny_pyNext_dict_item hT D' ha fun key h' hkey hT' hs => ?_
    have ex : ExtW [s.heap.objs.size] s'.heap h' := fun b o hb' e => hs.extBut b o (fun z => hb' (by simp [z])) e
    obtain ⟨t, rfl⟩ := Value.isInt_shape hkey
    rw [← K'.length] at hT'
    exact H' _ h' s'.toks (.int _ _) hT' ex
  · intro σ' s' P E hT R' hC H'
    obtain ⟨ps', D', K'⟩ := R'.dict hC
    rw [K'.length] at hT
    refine wpAny_pyNext_dict_end rm.hand hT D' (by rw [List.length_map, K'.length]; simp) fun h' hs => H' h' s'.toks fun b o hb' e => hs b o (fun z => hb' (by simp [z])) e
  · rintro i h h' ⟨o, ho, r⟩ hk _
    exact ⟨o, hk _ (by simp) o ho, r⟩
  · rintro i h ⟨o, ho, hc, hd⟩ b hb'
    simp at hb'; subst hb'
    exact ⟨o, ho, not_imm_fields hc hd (by decide) (by decide), not_isD_fields hd⟩
  · intro i s' P E hT h
    exact wpAny_pyIter_keyiter hT h
  · rintro i s' t v P E ⟨o, ho, hc, hd⟩ h
    exact letGo_of (vs := #[]) ho hc (by decide) h
/- a dict's values are gone through -/
theorem It_values {n : Nat} (rm : Rm hb n A) {o : Expr} {apos pos : Pos} {pl : Sem Bool} {K : (Hp → Prop) → List V → Hp → Loc → Prop}
    (h : Ev w hb A env (eval o env) σ loc fun u σ₁ loc₁ => ∃ d kvs ep, u = .ref d ∧ d ≠ sysModules ∧ σ₁ d = some (.dict kvs ep) ∧ K (fun σ' => σ' d = some (.dict kvs ep)) (kvs.map (·.2)) σ₁ loc₁)
    (he : eval (.Call (.Attribute o (Str.ofString "values") apos) [] [] pos) env = (do
      let ov ← eval o env
      standAt apos.atName
      let (f, first) ← holding [ov] (getMethod ov (Str.ofString "values") pl)
      callWith pos f first (backTo pos (starEach [] env)) []) := by rfl) : It w hb A env (.Call (.Attribute o (Str.ofString "values") apos) [] [] pos) σ loc K := fun s P E R F H => by
  refine MethodCall_ (h s _ _ R F fun u a σ₁ loc₁ h₁ t₁ q R₁ F₁ ra S₁ => ?_) he
  obtain ⟨d, kvs, ep, rfl, hd, e, hK⟩ := q
  cases ra
  refine (Meth_dict e PySem.F.slot_dict_values PySem.F.type_dict_values) (.ref d) _ pl _ _ (.ref d) R₁ (callWith_method0 ?_)
  obtain ⟨ps, D, Kv⟩ := R₁.dict e
  refine call_meetsIn PySem.F.slot_dict_values D.dictOf.typeIs PySem.F.entry_dict_values (PySem.F.args_dict_values_1 _) (meets_dict_values (intKind pg w) d (sysne hd)) ⟨⟨_, D.dictOf⟩, ?_⟩
  obtain ⟨R₂, S₂⟩ := R₁.push (ob := { cls := .type "dict_values", data := .fields #[.ref d] })
  have F₂ := F₁.stay S₂
  obtain ⟨ps₂, D₂, Kv₂⟩ := R₂.dict e
  refine wpAny_pyIter_values (s := { s with heap := h₁.push { cls := .type "dict_values", data := .fields #[.ref d] }, toks := t₁ }) ⟨_, Heap.get?_push_size _ rfl, rfl, rfl⟩ D₂ ?_
  have hl : kvs.length = ps₂.length := Kv₂.length
  have z := get?_size (h₁.push { cls := .type "dict_values", data := .fields #[.ref d] })
  obtain ⟨R₃, S₃⟩ := R₂.push (ob := { cls := .type "dict_valueiterator", data := .fields #[.ref d, .int 0 0, .int ps₂.length 0, .int ep 0] })
  have F₃ := F₂.stay S₃
  refine H (fun σ' => σ' d = some (.dict kvs ep)) (kvs.map (·.2)) σ₁ loc₁ _ [(h₁.push { cls := .type "dict_values", data := .fields #[.ref d] }).objs.size] (fun i h => h.IsValIter (h₁.push { cls := .type "dict_values", data := .fields #[.ref d] }).objs.size d i kvs.length ep) _ t₁ hK e ⟨?_, ?_, ?_, ?_, ?_, ?_⟩ ⟨_, Heap.get?_push_size _ rfl, rfl, by rw [hl]; rfl⟩ R₃ F₃ (S₁.trans ((S₂.trans S₃).wide fun _ z => z.elim)) (fun b hb' => ?_) fun b o e q no hb' => ?_
  · intro i u σ' s' P E hu hT R' hC H'
    obtain ⟨ps', D', K'⟩ := R'.dict hC
    rw [List.getElem?_map] at hu
    obtain ⟨⟨k, v⟩, hkv, rfl⟩ := Option.map_eq_some_iff.mp hu
    obtain ⟨a, ha, rv⟩ := K'.get hkv
    rw [K'.length] at hT
    refine wpAny_pyNext_values_item hT D' ha fun h' hT' hs => ?_
    have ex : ExtW [(h₁.push { cls := .type "dict_values", data := .fields #[.ref d] }).objs.size] s'.heap h' := fun b o hb' e => hs.extBut b o (fun z => hb' (by simp only [List.mem_singleton]; exact z)) e
    obtain ⟨o', ho', hc', hd'⟩ := hT
    have im := imm_of_ext ho' (not_imm_fields hc' hd' (by decide) (by decide)) ex
    rw [← K'.length] at hT'
    exact H' _ h' s'.toks (rv.mono im) hT' ex
  · intro σ' s' P E hT R' hC H'
    obtain ⟨ps', D', K'⟩ := R'.dict hC
    rw [K'.length] at hT
    refine wpAny_pyNext_values_end rm.hand hT D' (by rw [List.length_map, K'.length]; simp) fun h' hs => H' h' s'.toks fun b o hb' e => hs b o (fun z => hb' (by simp only [List.mem_singleton]; exact z)) e
  · rintro i h h' ⟨o, ho, r⟩ hk _
    exact ⟨o, hk _ (by simp) o ho, r⟩
  · rintro i h ⟨o, ho, hc, hd⟩ b hb'
    simp only [List.mem_singleton] at hb'; subst hb'
    exact ⟨o, ho, not_imm_fields hc hd (by decide) (by decide), not_isD_fields hd⟩
  · intro i s' P E hT h
    exact wpAny_pyIter_valiter hT h
  · rintro i s' t v P E ⟨o, ho, hc, hd⟩ h
    exact letGo_of (vs := #[]) ho hc (by decide) h
  · simp only [List.mem_singleton] at hb'; subst hb'
    exact ⟨R₂.none_of z, fresh_hb R₂ z, fun o => by obtain ⟨ob, e⟩ := F₂.has o; rw [z] at e; cases e⟩
  · simp only [List.mem_singleton] at hb'; subst hb'
    obtain ⟨o1, e1⟩ := (S₁.keep _ o e q no).1.has
    obtain ⟨o2, e2⟩ := (S₂.keep _ o1 e1 (S₁.keep _ o e q no).2 id).1.has
    rw [z] at e2; cases e2

/- sets of numbers -/
theorem Op_newset {Q : V → Hp → Prop} (h : ∀ D, σ D = none → hb.get? D = none → Q (.ref D) (upd σ D (.set []))) : OpN w hb A [] (fun as => call (.type "set") as) σ Q := fun x s P E I R H => by
  cases I
  refine call_set_0 fun led => ?_
  obtain ⟨d1, d2, R', S⟩ := R.newAt (o := .set []) (h' := s.heap.push { cls := .type "set", dict := none, data := .set #[] 0 (.fresh 0 0 led) }) (D := s.heap.objs.size) (fun b o e => Heap.get?_push_of_some _ e) (get?_size _) ⟨fun _ => false, 0, ⟨_, #[], 0, _, Heap.get?_push_size _ rfl, ⟨rfl, rfl, rfl⟩, rfl, by intro e he; simp at he, by simp, by decide, by rfl, rfl⟩, rfl, fun k => rfl⟩
  exact H _ _ _ _ _ (h _ d1 d2) R' (.ref _) S
theorem not_imm_set {h : Heap} {a : Addr} {S : Int → Bool} {n : Nat} (hS : h.SetOf (intKind pg w) a S n) : ∀ ob, h.get? a = some ob → ¬ Imm ob := fun ob z => by
  obtain ⟨o, es, ep, t, ho, hc, hd, _⟩ := hS
  rw [ho] at z; cases z
  rintro (⟨xs, m, rfl⟩ | ⟨vs, e, _⟩)
  · cases hd
  · rw [hd] at e; cases e
theorem Op_inS {a : Addr} {ks : List Int} {k : Int} {Q : V → Hp → Prop} (e : σ a = some (.set ks)) (h : Q (.bool (ks.contains k)) σ) : Op2 w hb A (.int k) (.ref a) (fun x y => compareOp .In x y) σ Q := fun p s P E I R H => by
  obtain ⟨x, y⟩ := p; obtain ⟨h1, h2⟩ := I; cases h1; cases h2
  obtain ⟨S, n, hS, hn, hk⟩ := R.obj a _ e
  exact wpAny_inSet_of (knd := intKind pg w) (k := k) (intKind_is pg w k _) rfl hS (by rw [hk]; exact H _ _ _ s.heap _ h R (.bool _) St.same)
theorem Meth_sadd {a : Addr} {ks : List Int} (e : σ a = some (.set ks)) : Meth w hb A (.ref a) σ (Str.ofString "add") "set.add" := fun b s pl P E ra R h => by
  cases ra
  obtain ⟨S, n, hS, hn, hk⟩ := R.obj a _ e
  exact getMethod_set_add hS h
theorem Op_sadd {a : Addr} {ks : List Int} {k : Int} {Q : V → Hp → Prop} (e : σ a = some (.set ks)) (hz : ks.length < 100) (hnk : ks.contains k = false) (h : Q .none (upd σ a (.set (k :: ks)))) : OpN w hb A [.ref a, .int k] (fun as => call (.builtin "set.add") as) σ Q := fun x s P E I R H => by
  cases I with
  | cons p r => cases p; cases r with
    | cons q r =>
      cases q; cases r
      obtain ⟨S, n, hS, hn, hk⟩ := R.obj a _ e
      have hsb0 : 1000 < scanBound := by decide
      refine call_set_add (knd := intKind pg w) (k := k) (intKind_is pg w k _) rfl hS (by subst hn; exact Nat.lt_trans (show ks.length + 1 < 1000 by walk_at "om") hsb0) fun h' hs hS' => ?_
      have im : ImmK s.heap h' := fun b ob z i => (hs.2 b (fun y => by subst y; exact absurd i (not_imm_set hS ob z))).trans z
      have hSk : S k = false := by rw [hk]; exact hnk
      obtain ⟨R', S'⟩ := R.turn (o' := .set (k :: ks)) e (not_imm_set hS) hs ⟨_, _, hS', by rw [hSk]; simp [hn], fun k' => by
        rw [hk, List.contains_cons, Bool.or_comm]
        congr 1⟩
      exact H _ _ _ _ _ h R' .none S'

theorem Op_tuple {a : Addr} {vs : List V} {Q : V → Hp → Prop} (e : σ a = some (.list vs)) (hz : vs.length ≤ 1000) (h : Q (.tup vs) σ) : OpN w hb A [.ref a] (fun as => call (vOf (.val (.type "tuple"))) as) σ Q := fun x s P E I R H => by
  cases I with
  | cons p r =>
    cases p; cases r
    obtain ⟨xs, n, ea, rs⟩ := R.obj a _ e
    have hl : vs.length = xs.size := by rw [rs.length, Array.length_toList]
    refine call_tuple_list (PySem.IsL.isList ea) (fun h' hk => ?_) (by rw [← hl, sizeLine]; walk_at "om")
    obtain ⟨R₁, S₁⟩ := R.grow hk
    obtain ⟨R₂, S₂⟩ := R₁.push (ob := seqObj "tuple" xs 0)
    exact H _ _ _ _ _ h R₂ (.tup (Heap.get?_push_size _ rfl) ((rs.mono S₁.imm).mono S₂.imm)) (S₁.trans S₂)
theorem Op_lenT {vs : List V} {Q : V → Hp → Prop} (hz : vs.length ≤ 1000) (h : Q (.int vs.length) σ) : OpN w hb A [.tup vs] (fun as => call (vOf (.val (.builtin "len"))) as) σ Q := fun x s P E I R H => by
  cases I with
  | cons p r =>
    cases r
    cases p with
    | tup ea rs =>
      rename_i b xs n
      have hl : vs.length = xs.size := by rw [rs.length, Array.length_toList]
      exact len_tuple ⟨_, ea, rfl, n, rfl⟩ (by rw [← hl]; walk_at "om") (by rw [← hl]; exact H _ _ _ s.heap _ h R (.int _ _) St.same)
theorem Meth_clear {a : Addr} {vs : List V} (e : σ a = some (.list vs)) : Meth w hb A (.ref a) σ (Str.ofString "clear") "list.clear" := Meth_list e PySem.F.slot_list_clear PySem.F.type_list_clear
theorem Op_clear {a : Addr} {vs : List V} {Q : V → Hp → Prop} (e : σ a = some (.list vs)) (hz : vs.length ≤ 1000) (h : Q .none (upd σ a (.list []))) : OpN w hb A [.ref a] (fun as => call (.builtin "list.clear") as) σ Q := fun x s P E I R H => by
  cases I with
  | cons p r =>
    cases p; cases r
    obtain ⟨xs, n, ea, rs⟩ := R.obj a _ e
    have hl : vs.length = xs.size := by rw [rs.length, Array.length_toList]
    refine call_meets PySem.F.slot_list_clear ⟨_, ea, rfl⟩ PySem.F.entry_list_clear (PySem.F.args_list_clear_1 _) (PySem.AutoSeq1.list_clear_list_0 a xs n (by rw [← hl, sizeLine]; walk_at "om")) ⟨ea, ?_⟩
    have hs : Heap.SameBut a s.heap (s.heap.update a (Obj.mapSeq fun _ => (#[] : Array Value))) := Heap.SameBut.update ..
    obtain ⟨R', S⟩ := R.turn (o' := .list []) e (fun ob z => by rw [ea] at z; cases z; exact not_imm_list _ _) hs ⟨_, _, PySem.IsL.update ea (fun _ => #[]), .nil⟩
    exact H _ _ _ _ _ h R' .none S
theorem OpB_none {Q : Bool → Hp → Prop} (h : Q false σ) : OpB w hb A .none truthy σ Q := fun x s P E I R H => by
  cases I; exact truthy_none (H _ _ _ s.heap s.toks h R rfl St.same)
theorem Op_bool {a : Addr} {vs : List V} {Q : V → Hp → Prop} (e : σ a = some (.list vs)) (hz : vs.length ≤ 1000) (h : Q (.bool (!vs.isEmpty)) σ) : OpN w hb A [.ref a] (fun as => call (vOf (.val (.type "bool"))) as) σ Q := fun x s P E I R H => by
  cases I with
  | cons p r =>
    cases p; cases r
    obtain ⟨xs, n, ea, rs⟩ := R.obj a _ e
    have hl : vs.length = xs.size := by rw [rs.length, Array.length_toList]
    have he : (!xs.isEmpty) = !vs.isEmpty := by
      cases vs with
      | nil => have : xs.size = 0 := by rw [← hl]; rfl
               simp [Array.isEmpty, this]
      | cons v vs => have : xs.size ≠ 0 := by rw [← hl]; simp
                     simp [Array.isEmpty, this]
    refine call_bool_1 (meets_bool_list a xs n (by rw [← hl]; walk_at "om")) ⟨ea, ?_⟩
    intro tk
    rw [he]
    exact ⟨rfl, H _ _ _ s.heap _ h R (.bool _) St.same⟩
/- one or the other, the first a truth value -/
theorem Ev_or {x y : Expr} {pos : Pos} {Q : V → Hp → Loc → Prop} (h : Ev w hb A env (eval x env) σ loc fun u σ₁ loc₁ => ∃ b, u = .bool b ∧ match b with | true => Q (.bool true) σ₁ loc₁ | false => Ev w hb A env (eval y env) σ₁ loc₁ Q) :
    Ev w hb A env (eval (.BoolOp .Or [x, y] pos) env) σ loc Q := fun s P E R F H => by
  rw [arm_eval_BoolOp]
  show wpAny _ _ (do let v ← eval x env; standAt pos; let t ← holding [v] (truthy v); match BoolOp.Or, t with | .And, false | .Or, true => pure v | _, _ => boolOp pos .Or [eval y env]) _ _ _
  refine wpAny_bind (h s _ _ R F fun u a σ₁ loc₁ h₁ t₁ q R₁ F₁ ra S₁ => wpAny_bind (wpAny_standAt (wpAny_bind (wpAny_holding ?_))))
  obtain ⟨b, rfl, q⟩ := q
  cases ra
  refine wpAny_truthy_bool ?_
  cases b with
  | true => exact wpAny_pure (H _ _ _ _ _ _ q R₁ F₁ (.bool _) S₁)
  | false => exact q _ _ _ R₁ F₁ fun v c σ₂ loc₂ h₂ t₂ q₂ R₂ F₂ rc S₂ => H _ _ _ _ _ _ q₂ R₂ F₂ rc (S₁.trans S₂)
end
end

section
open PySem PySem.W PyProof PyProof.Rows PySem.Calls PySem.Spec

theorem check_next (it : Addr) : checkBoundCall "list_iterator.__next__" ⟨[.ref it], []⟩ = pure () := by kernel_rfl
theorem quiet_next (args : Args) : (Code.builtin "list_iterator.__next__" args).quiet = true := Code.quiet_builtin _ (by decide +kernel)
noncomputable abbrev mwObj (it : Addr) : Obj := { cls := .type "method-wrapper", data := .fields #[.builtin "list_iterator.__next__", .ref it] }

section
variable {prog : Program} {w : World} {A : Around} {E : Value → Shared → Prop} {s : Shared}
theorem if_so {c : Prop} [Decidable c] {α : Type} {t u : Sem α} {M : Model} {Q : α → Shared → Prop} (h : c) (x : wpAny M A t Q E s) : wpAny M A (if c then t else u) Q E s := by rw [if_pos h]; exact x
/- the bound __next__ of a list's iterator is called -/
theorem call_mw {m it l : Addr} {i : Nat} {items : Array Value} {Q : Value → Shared → Prop} (hh : A.handled = none) (ho : s.heap.get? m = some (mwObj it)) (hit : s.heap.IsListIter it l i) (hl : s.heap.IsList l items)
    (hQ : ∀ x h', items[i]? = some x → h'.IsListIter it l (i + 1) → Heap.SameBut it s.heap h' → Q x { s with heap := h' })
    (hE : ∀ h' e oe vs a0, items[i]? = none → Heap.ExtBut it s.heap h' → s.heap.get? e = none → h'.get? e = some oe → oe.cls = .type "StopIteration" → oe.data = .fields vs → vs[1]? = some .none → vs[0]? = some a0 → E (.ref e) { s with heap := h' }) :
    wpAny (model prog w) A (call (.ref m) []) Q E s := by
  refine wpAny_call (codeAny_of_tree ?_)
  show wpAny _ A.in1 (callAny (.ref m) ⟨[], []⟩) _ _ s
  simp only [callAny]
  refine wpAny_bind (wpAny_load ho ?_)
  simp only [mwObj, show (Value.type "method-wrapper" == Value.type "method" || Value.type "method-wrapper" == Value.type "builtin_function_or_method" || Value.type "method-wrapper" == Value.type "method-wrapper") = true by decide, if_true]
  refine if_so (by decide) ?_
  refine wpAny_bind (wpAny_of_eq (a := ()) (check_next it) ?_)
  refine wpAny_bind (wpAny_pure (wpAny_pure ?_))
  refine ⟨quiet_next _, codeAny_builtin entry_listiter_next ?_⟩
  obtain ⟨o, hio, hc, hd⟩ := id hit
  obtain ⟨ol, hol, _, nl, hdl⟩ := hl
  show wpAny _ _ (field (.ref it) 0 >>= _) _ _ s
  refine wpAny_bind (wpAny_field hio hd (x := .ref l) rfl ?_)
  show wpAny _ _ (if (Value.ref l == Value.none) = true then _ else _) _ _ s
  rw [if_neg (show ¬ ((Value.ref l == Value.none) = true) from Bool.false_ne_true)]
  show wpAny _ _ (field (.ref it) 1 >>= _) _ _ s
  refine wpAny_bind (wpAny_field hio hd (x := .int i 0) rfl ?_)
  show wpAny _ _ (seqItems? (.ref l) >>= _) _ _ s
  refine wpAny_bind (wpAny_seqItems hol hdl ?_)
  cases hx : items[i]? with
  | some x =>
    simp only [Int.toNat_natCast, hx]
    refine wpAny_bind (wpAny_setField hio hd (by simp) (wpAny_pure (hQ x _ hx ?_ (Heap.SameBut.update ..))))
    exact ⟨_, Heap.get?_update_self _ hio (Obj.isFreed_of_fields (Obj.data_mapFields hd _)), (Obj.cls_mapFields ..).trans hc, by
      rw [Obj.data_mapFields hd]; simp [rawInt]⟩
  | none =>
    simp only [Int.toNat_natCast, hx]
    refine wpAny_bind (wpAny_rule (wpAny_bind (wpAny_setField hio hd (by simp) ?_)))
    show wpAny _ _ (newExc (.type "StopIteration") [] >>= _) _ _ _
    refine wpAny_bind ?_
    simp only [newExc, newTuple]
    refine wpAny_bind (wpAny_newObj_type ?_ (by size_fits))
    refine wpAny_bind (m := firstArgMember _ _) (wpAny_of_eq (a := Value.none) (by first | rfl | (simp only [firstArgMember]; rfl)) ?_)
    refine wpAny_newObj_type ?_ (by size_fits)
    simp only [raiseNew]
    refine wpAny_bind (wpAny_handled ?_)
    rw [show ∀ c, (A.under c).handled = none from fun _ => hh]
    refine wpAny_bind (wpAny_pure (wpAny_throw ?_))
    refine hE _ _ _ _ _ hx (((Heap.SameBut.update ..).extBut.push _).push _) ?_ (Heap.get?_push_size _ rfl) rfl rfl rfl rfl
    exact Heap.get?_none_of_le (by rw [Heap.size_push, Heap.size_update]; exact Nat.le_succ _)
end

theorem slot_li_ga : Slot "list_iterator" "__getattribute__" "object.__getattribute__" :=
  .of (owner := "object") (n := "__getattribute__") (by rw [typeLookup_type, builtinLookup_eq_fast]; kernel_rfl) (by decide +kernel) (by decide +kernel) (by decide +kernel)
    (by first | exact .inl (by decide +kernel) | exact .inr (by decide +kernel)) (by rw [isSubtype_type]; kernel_rfl)
theorem entry_ga : entryFor table "object.__getattribute__" = some Builtin.«object.__getattribute__» := entryFor_of_tree (by kernel_rfl)
theorem args_ga (a b : Value) : argsOk "object.__getattribute__" ⟨[a, b], []⟩ := by unfold argsOk; kernel_rfl
theorem lk_li_next : typeLookup (.type "list_iterator") "__next__" = pure (some (.builtin "list_iterator.__next__")) := by rw [typeLookup_type, builtinLookup_eq_fast]; kernel_rfl
theorem ty_li_next : typeOf (.builtin "list_iterator.__next__") = pure (.type "wrapper_descriptor") := by show builtinType _ = _; rw [builtinType_eq_fast]; kernel_rfl
theorem lk_wd_get : typeLookup (.type "wrapper_descriptor") "__get__" = pure (some (.builtin "wrapper_descriptor.__get__")) := by rw [typeLookup_type, builtinLookup_eq_fast]; kernel_rfl
theorem lk_wd_set : typeLookup (.type "wrapper_descriptor") "__set__" = pure none := by rw [typeLookup_type, builtinLookup_eq_fast]; kernel_rfl
theorem lk_wd_del : typeLookup (.type "wrapper_descriptor") "__delete__" = pure none := by rw [typeLookup_type, builtinLookup_eq_fast]; kernel_rfl
theorem slot_wd_get : Slot "wrapper_descriptor" "__get__" "wrapper_descriptor.__get__" :=
  Slot.of (owner := "wrapper_descriptor") (n := "__get__") (by rw [typeLookup_type, builtinLookup_eq_fast]; kernel_rfl) (by decide +kernel) (by decide +kernel) (by decide +kernel) (.inl (by decide +kernel)) (by rw [isSubtype_type]; kernel_rfl)
theorem entry_wd_get : entryFor table "wrapper_descriptor.__get__" = some Builtin.«wrapper_descriptor.__get__» := entryFor_of_tree (by kernel_rfl)
theorem args_wd_get (a b c : Value) : argsOk "wrapper_descriptor.__get__" ⟨[a, b, c], []⟩ := by unfold argsOk; kernel_rfl
theorem sub_li : isSubtype (.type "list_iterator") (.type "list_iterator") = pure true := by rw [isSubtype_type]; kernel_rfl
theorem meets_wd_get (it : Addr) (o : Obj) (tp : Value) (hc : o.cls = .type "list_iterator") : Meets (Builtin.«wrapper_descriptor.__get__» ⟨[.builtin "list_iterator.__next__", .ref it, .type "list_iterator"], []⟩)
    (fun _ R s => s.heap.get? it = some o ∧ R (.ok (.ret (.ref s.heap.objs.size))) { s with heap := s.heap.push (mwObj it) }) :=
  Meets.of_wp fun prog w A R s hs => by
    obtain ⟨hp, g, d, tk, os⟩ := s
    obtain ⟨hx, hs⟩ := hs
    have hT : (⟨hp, g, d, tk, os⟩ : Shared).TypeIs (.ref it) "list_iterator" := ⟨_, hx, hc⟩
    have f1 := sub_li
    unfold Builtin.«wrapper_descriptor.__get__»
    repeat (any_goals (first | assumption | wp_step))
    have e1 : ".".intercalate ("list_iterator.__next__".cutAt '.').dropLast = "list_iterator" := by decide +kernel
    rw [e1]
    repeat (any_goals (first | assumption | wp_step))
    exact ⟨_, rfl, hs⟩
theorem meets_ga_next (it : Addr) (o : Obj) (u : Tok) (hc : o.cls = .type "list_iterator") (hn : o.dict = none) (vs : Array Value) (hd : o.data = .fields vs) : Meets (Builtin.«object.__getattribute__» ⟨[.ref it, .str "__next__" u], []⟩)
    (fun _ R s => s.heap.get? it = some o ∧ R (.ok (.ret (.ref s.heap.objs.size))) { s with heap := s.heap.push (mwObj it) }) :=
  Meets.of_wp fun prog w A R s hs => by
    obtain ⟨hp, g, d, tk, os⟩ := s
    obtain ⟨hx, hs⟩ := hs
    obtain ⟨c, dct, dat, sl⟩ := o
    simp only at hc hn hd
    subst hc hn hd
    have hT : (⟨hp, g, d, tk, os⟩ : Shared).TypeIs (.ref it) "list_iterator" := ⟨_, hx, rfl⟩
    have f1 := lk_li_next
    have f2 := ty_li_next
    have f3 := lk_wd_get
    have f4 := lk_wd_set
    have f5 := lk_wd_del
    have hTb : (⟨hp, g, d, tk, os⟩ : Shared).TypeIs (.builtin "list_iterator.__next__") "wrapper_descriptor" := ty_li_next
    unfold Builtin.«object.__getattribute__»
    repeat (any_goals (first | assumption | ((with_reducible show wpAny _ _ (call (Value.builtin "wrapper_descriptor.__get__") _ _) _ _ _); refine call_meets slot_wd_get hTb entry_wd_get (args_wd_get _ _ _) (meets_wd_get it _ (.type "list_iterator") rfl) ⟨hx, ?_⟩) | wp_step))
    exact wpAny_pure ⟨_, rfl, hs⟩
theorem getAttr_next {prog : Program} {w : World} {A : Around} {E : Value → Shared → Prop} {s : Shared} {it : Addr} {o : Obj} {vs : Array Value} {Q : Value → Shared → Prop} (hx : s.heap.get? it = some o) (hc : o.cls = .type "list_iterator") (hn : o.dict = none) (hd : o.data = .fields vs)
    (h : ∀ tk, Q (.ref s.heap.objs.size) { s with heap := s.heap.push (mwObj it), toks := tk }) : wpAny (model prog w) A (getAttr (.ref it) (Str.ofString "__next__") true) Q E s := by
  obtain ⟨hp, g, d, tk, os⟩ := s
  obtain ⟨c, dct, dat, sl⟩ := o
  simp only at hc hn hd
  subst hc hn hd
  have hT : ∀ tk', (⟨hp, g, d, tk', os⟩ : Shared).TypeIs (.ref it) "list_iterator" := fun _ => ⟨_, hx, rfl⟩
  have f3 := slot_li_ga.lookup
  have f4 := slot_li_ga.bind (.ref it)
  unfold getAttr getAttrBy
  repeat (any_goals (first | assumption | exact hT _ | ((with_reducible show wpAny _ _ (call (Value.builtin "object.__getattribute__") _ _) _ _ _); refine call_meets slot_li_ga (hT _) entry_ga (args_ga _ _) (meets_ga_next it _ _ rfl rfl vs rfl) ⟨hx, ?_⟩) | wp_step))
  all_goals first | exact h _ | exact wpAny_pure (h _) | trace_state
/- nothing is known of a place any more -/
noncomputable def fgt (σ : Hp) (a : Addr) : Hp := fun b => if b = a then none else σ b
theorem fgt_ne (σ : Hp) {a b : Addr} (h : b ≠ a) : fgt σ a b = σ b := if_neg h
theorem fgt_self (σ : Hp) (a : Addr) : fgt σ a a = none := if_pos rfl

section
variable {w : World} {hb : Base} {A : Around} {env : Env} {σ : Hp} {loc : Loc}
theorem call_iter_list {prog : Program} {A : Around} {E : Value → Shared → Prop} {s : Shared} {l : Addr} {xs : Array Value} {Q : Value → Shared → Prop} (hl : s.heap.IsList l xs)
    (h : Q (.ref s.heap.objs.size) { s with heap := s.heap.push { cls := .type "list_iterator", data := .fields #[.ref l, .int 0 0] } }) : wpAny (model prog w) A (call (.builtin "iter") [.ref l]) Q E s := by
  refine call_function_entry (by decide +kernel) (by decide +kernel) kdk_entry_iter (kdk_args_iter _) ?_
  unfold Builtin.«iter»
  refine wpAny_bind (m := someArgs "iter" 1 2 _) (wpAny_of_eq (a := [Value.ref l]) (by first | rfl | kernel_rfl!) ?_)
  show wpAny _ _ (pyIter (.ref l) >>= _) _ _ _
  exact wpAny_bind (wpAny_pyIter_list hl (wpAny_pure ⟨_, rfl, h⟩))
/- iter(..).__next__ of a list -/
theorem Ev_iternext (B : Bs w hb.h) {e : Expr} {ap cp p1 : Pos} {Q : V → Hp → Loc → Prop} (g : BN w (Str.ofString "iter") (.builtin "iter"))
    (h : Ev w hb A env (eval e env) σ loc fun u σ₁ loc₁ => ∃ l vs, u = .ref l ∧ σ₁ l = some (.list vs) ∧ ∀ D, σ₁ D = none → hb.get? D = none → Q (.mw D) (upd σ₁ D (.liter l 0)) loc₁)
    (hx : env.kindOf (Str.ofString "iter") = some .globalImplicit) (hg : env.globals = mainGlobals := by rfl) (hbn : env.builtins = builtinsNs := by rfl) (hk : env.scope.kind = .function := by rfl)
    (hbase : attributeBase (.Call (.Name (Str.ofString "iter") p1) [e] [] cp) (Str.ofString "__next__") env (eval (.Call (.Name (Str.ofString "iter") p1) [e] [] cp) env) = eval (.Call (.Name (Str.ofString "iter") p1) [e] [] cp) env := by rfl)
    (he : eval (.Call (.Name (Str.ofString "iter") p1) [e] [] cp) env = (do callWith cp (← eval (.Name (Str.ofString "iter") p1) env) [] (backTo cp (starEach [e] env)) (backToKw cp (keywordEach [] env))) := by rfl)
    (hst : starEach [e] env = (false, eval e env) :: starEach [] env := by rfl) :
    Ev w hb A env (eval (.Attribute (.Call (.Name (Str.ofString "iter") p1) [e] [] cp) (Str.ofString "__next__") ap) env) σ loc Q := fun s P E R F H => by
  rw [arm_eval_Attribute, hbase]
  obtain ⟨mg, mb, g1, g2, g3, g4⟩ := R.boot B g
  refine wpAny_bind (Call_ (Name_function_global hk hx (loadGlobal_builtin (by rw [hg]; exact g1) g2 (by rw [hbn]; exact g3) g4 (callWith_builtin1 (wpAny_items_cons (h s _ _ R F fun u a σ₁ loc₁ h₁ t₁ q R₁ F₁ ra S₁ => ?_) hst) hst))) he)
  obtain ⟨l, vs, rfl, el, hq⟩ := q
  cases ra
  refine wpAny_items_nil ?_
  obtain ⟨xs, n, ea, rs⟩ := R₁.obj l _ el
  refine call_iter_list (s := { s with heap := h₁, toks := t₁ }) (PySem.IsL.isList ea) ?_
  obtain ⟨d1, d2, R₂, S₂⟩ := R₁.newAt (o := .liter l 0) (h' := h₁.push { cls := .type "list_iterator", data := .fields #[.ref l, .int 0 0] }) (D := h₁.objs.size) (fun b o e => Heap.get?_push_of_some _ e) (get?_size _) ⟨_, Heap.get?_push_size _ rfl, rfl, rfl⟩
  have F₂ := F₁.stay S₂
  refine wpAny_bind (wpAny_standAt (wpAny_bind (wpAny_holding ?_)))
  refine getAttr_next (s := { s with heap := h₁.push { cls := .type "list_iterator", data := .fields #[.ref l, .int 0 0] }, toks := t₁ }) (Heap.get?_push_size _ rfl) rfl rfl rfl fun tk => ?_
  obtain ⟨R₃, S₃⟩ := R₂.push (ob := mwObj h₁.objs.size)
  refine wpAny_bind (wpAny_letTemporaryGo (wpAny_pure ?_))
  exact H _ _ _ _ _ _ (hq _ d1 d2) R₃ (F₂.stay S₃) (.mw (Heap.get?_push_size _ rfl)) (S₁.trans ((S₂.trans S₃).wide fun _ z => z.elim))
theorem Rep.forget {h h' : Heap} {it : Addr} {o : O} (R : Rep w hb σ h) (e : σ it = some o) (ni : ∀ ob, h.get? it = some ob → ¬ Imm ob) (hs : ∀ b ob, b ≠ it → h.get? b = some ob → h'.get? b = some ob) :
    Rep w hb (fgt σ it) h' ∧ St (fun _ => False) σ (fgt σ it) h h' := by
  have im : ImmK h h' := fun b ob z i => hs b ob (fun y => by subst y; exact ni ob z i) z
  refine ⟨⟨fun b p q => ?_, fun b ob q => hs b ob (fun y => by subst y; rw [R.apart _ _ q] at e; cases e) (R.base b ob q), fun b ob q => ?_, fr_keep R.fr fun L o' s _ q d => ?_⟩, im, fun b ob q z _ => ?_⟩
  · have hb' : b ≠ it := fun y => by subst y; rw [fgt_self] at q; cases q
    rw [fgt_ne _ hb'] at q
    exact (R.obj b p q).move im fun ob z => hs b ob hb' z
  · by_cases hb' : b = it
    · subst hb'; exact fgt_self _ _
    · rw [fgt_ne _ hb']; exact R.apart b ob q
  · have hL : L ≠ it := fun y => by subst y; rw [s] at e; cases e
    exact ⟨by rw [fgt_ne _ hL]; exact s, o', hs L o' hL q, d⟩
  · have hb' : b ≠ it := fun y => by subst y; rw [z] at e; cases e
    exact ⟨.of (hs b ob hb' q), by rw [fgt_ne _ hb']; exact z⟩
end
end

section
open PySem PySem.W PyProof PyProof.Rows PySem.Calls PySem.Spec

theorem stop_exc : isSubtype (.type "StopIteration") (.type "BaseException") = pure true := by rw [isSubtype_type]; kernel_rfl
theorem stop_nt : isSubtype (.type ((Manifest.find? "StopIteration").elim "type" fun x => x.metatype)) (.type "tuple") = pure false := by rw [isSubtype_type]; kernel_rfl
theorem stop_sub : isSubtype (.type "StopIteration") (.type "StopIteration") = pure true := by rw [isSubtype_type]; kernel_rfl

section
variable {w : World} {hb : Base} {A : Around} {env : Env} {σ : Hp} {loc : Loc}
/- the exception that a builtin has just raised in a frame is caught there -/
theorem catch_stop (B : Bs w hb.h) {n : Nat} (rm : Rm hb n A) {outer : List Env} (hfr : hb.fr = env :: outer) {L e : Addr} (hf : env.frame = some L) {h₂ : Heap} {oe : Obj} {vs : Array Value} {a0 : Value} {s : Shared} {σ₂ : Hp}
    {Q : Flow → Shared → Prop} {E : Value → Shared → Prop} {b₀ : Stmt} {suite : List Stmt} {hpos np : Pos}
    (R : Rep w hb σ₂ h₂) (F : FrR hb env loc σ₂ h₂) (g : BN w (Str.ofString "StopIteration") (.type "StopIteration")) (hs : s.heap = h₂)
    (he : h₂.get? e = some oe) (hc : oe.cls = .type "StopIteration") (hd : oe.data = .fields vs) (h1 : vs[1]? = some .none) (h0 : vs[0]? = some a0) (se : σ₂ e = none) (be : hb.get? e = none) (re : ¬ reach env e)
    (hx : env.kindOf (Str.ofString "StopIteration") = some .globalImplicit) (hg : env.globals = mainGlobals) (hbn : env.builtins = builtinsNs) (hk : env.scope.kind = .function)
    (k : ∀ h', Rep w hb σ₂ h' → FrR hb env loc σ₂ h' → (∀ b o, h₂.get? b = some o → b ≠ e → Kp h' b o) → (∀ b o, h₂.get? b = some o → Imm o → h'.get? b = some o) →
      wpAny (model pg w) (A.mark (some (.ref e))) (execs (b₀ :: suite) env) Q (notedBy (model pg w) (A.mark (some (.ref e))) env (cameBackBy (model pg w) A env E)) { s with heap := h' }) :
    wpAny (model pg w) A (noteFrame (.ref e) env) (fun _ s₂ => wpAny (model pg w) A (setFlight (.ref e) none) (fun _ s₃ => wpAny (model pg w) A (handleBy (.ref e) env [.ExceptHandler (some (.Name (Str.ofString "StopIteration") np)) none (b₀ :: suite) hpos]) Q E s₃) E s₂) E s := by
  obtain ⟨hp, gn, dr, tk, os⟩ := s
  simp only at hs
  subst hs
  have hfa : A.frames = some (env :: outer) := by rw [rm.frames, hfr]
  have nD : ∀ {o : Obj}, isD o → ∀ vs, o.data ≠ .fields vs := fun hd vs z => by obtain ⟨es, n, q⟩ := hd; rw [q] at z; cases z
  have hhid : ∀ ev ∈ env :: outer, ∀ a, ev.frame = some a → a ∈ e :: (env :: outer).filterMap (·.frame) := fun ev hev a ha => List.mem_cons_of_mem _ (List.mem_filterMap.mpr ⟨ev, hev, ha⟩)
  have ff : ∀ l, (∀ ev ∈ l, ev ∈ env :: outer) → hp.FunFrames (hideAll hp (e :: (env :: outer).filterMap (·.frame))) l := fun l => by
    induction l with
    | nil => intro _; trivial
    | cons ev l ih =>
      intro hl
      obtain ⟨hk', L', hf', hs', hn', o', ho', hd'⟩ := R.fr ev (by rw [hfr]; exact hl ev (.head _))
      exact ⟨hk', ⟨L', o', hf', hideAll_none _ (hhid ev (hl ev (.head _)) L' hf'), ho', nD hd'⟩, ih fun x hx => hl x (.tail _ hx)⟩
  have hl := ff (env :: outer) fun _ h => h
  have stays : (hideAll hp (e :: (env :: outer).filterMap (·.frame))).StaysIn hp := fun b o q => of_hideAll _ q
  have hen : (hideAll hp (e :: (env :: outer).filterMap (·.frame))).get? e = none := hideAll_none _ (.head _)
  -- what any later heap knows
  have mk : ∀ h', (hideAll hp (e :: (env :: outer).filterMap (·.frame))).StaysIn h' → hp.UpToSlots h' → Rep w hb σ₂ h' ∧ FrR hb env loc σ₂ h' ∧ (∀ b o, hp.get? b = some o → b ≠ e → Kp h' b o) ∧ (∀ b o, hp.get? b = some o → Imm o → h'.get? b = some o) := fun h' st up => by
    have fr_of : ∀ b, b ∈ (env :: outer).filterMap (·.frame) → ∃ o, hp.get? b = some o ∧ isD o ∧ σ₂ b = none ∧ hb.get? b = none := fun b hb' => by
      obtain ⟨ev, hev, hq⟩ := List.mem_filterMap.mp hb'
      obtain ⟨hk', L', hf', hs', hn', o', ho', hd'⟩ := R.fr ev (by rw [hfr]; exact hev)
      rw [hq] at hf'; cases hf'
      exact ⟨o', ho', hd', hs', hn'⟩
    have keep : ∀ b o, hp.get? b = some o → b ≠ e → b ∉ (env :: outer).filterMap (·.frame) → h'.get? b = some o := fun b o q ne nf => st b o (hideAll_get _ q (by simp only [List.mem_cons, not_or]; exact ⟨ne, nf⟩))
    have kp : ∀ b o, hp.get? b = some o → b ≠ e → Kp h' b o := fun b o q ne => by
      by_cases nf : b ∈ (env :: outer).filterMap (·.frame)
      · obtain ⟨o', ho', hd', _⟩ := fr_of b nf
        rw [q] at ho'; cases ho'
        obtain ⟨sl, hsl⟩ := up b o q (nD hd')
        exact ⟨_, hsl, .slots hd' sl⟩
      · exact .of (keep b o q ne nf)
    have imm : ∀ b o, hp.get? b = some o → Imm o → h'.get? b = some o := fun b o q i => by
      refine keep b o q (fun z => ?_) fun nf => ?_
      · subst z; rw [he] at q; cases q
        rcases i with ⟨xs, m, rfl⟩ | ⟨_, _, i | i⟩
        · cases hd
        · rw [hc] at i; exact absurd i (by decide)
        · rw [hc] at i; exact absurd i (by decide)
      · obtain ⟨o', ho', ⟨es, m, hd'⟩, _⟩ := fr_of b nf
        rw [q] at ho'; cases ho'
        exact not_imm_dict hd' i
    have nfr : ∀ b p, σ₂ b = some p → b ≠ e ∧ b ∉ (env :: outer).filterMap (·.frame) := fun b p q => ⟨fun z => (by subst z; rw [se] at q; cases q), fun nf => (by obtain ⟨_, _, _, z, _⟩ := fr_of b nf; rw [z] at q; cases q)⟩
    refine ⟨⟨fun b p q => (R.obj b p q).move (fun b o z i => imm b o z i) fun ob z => keep b ob z (nfr b p q).1 (nfr b p q).2, fun b o q => ?_, R.apart, fr_keep R.fr fun L' o' s' _ q d => ⟨s', ?_⟩⟩, F.move (fun b o z i => imm b o z i) fun b ob o q => ⟨kp b ob q fun z => re (z ▸ o), (F.out o).1⟩, kp, imm⟩
    · refine keep b o (R.base b o q) (fun z => by subst z; rw [be] at q; cases q) fun nf => ?_
      obtain ⟨_, _, _, _, z⟩ := fr_of b nf; rw [z] at q; cases q
    · obtain ⟨sl, hsl⟩ := up L' o' q (nD d)
      exact ⟨_, hsl, d⟩
  unfold noteFrame
  simp only [hf]
  refine wpAny_bind (wpAny_field he hd h1 ?_)
  rw [if_neg (by decide)]
  refine wpAny_entryW hfa hl hf he stays hen hd (Array.getElem?_eq_some_iff.mp h1).1 h0 fun h₃ N₃ => ?_
  obtain ⟨st₃, fl₃, tr₃, up₃⟩ := N₃
  refine wpAny_setFlight_noneW (s := ⟨h₃, gn, dr, tk, os⟩) st₃ fl₃ tr₃ fun h₄ st₄ fl₄ tr₄ up₄ => ?_
  have up34 : hp.UpToSlots h₄ := Heap.UpToSlots.trans up₃ fun b o q hn => ⟨o.slots, up₄ b o q hn⟩
  obtain ⟨R₄, F₄, _, _⟩ := mk h₄ st₄ up34
  obtain ⟨ob, hob, hobc⟩ := tr₄.at.there
  rw [hc] at hobc
  refine wpAny_handleBy_builtin (X := "StopIteration") (T := "StopIteration") (b := true) stop_exc stop_nt stop_sub ?_
  obtain ⟨mg, mb, g1, g2, g3, g4⟩ := R₄.boot B g
  refine Name_function_global hk hx (loadGlobal_builtin (by rw [hg]; exact g1) g2 (by rw [hbn]; exact g3) g4 ⟨rfl, ⟨ob, hob, hobc⟩, ?_⟩) (by decide)
  rw [if_pos rfl]
  refine lands_againW (s := ⟨h₄, gn, dr, tk, os⟩) (base := hideAll hp (e :: (env :: outer).filterMap (·.frame))) (l := env :: outer) (cls := oe.cls) (a0 := a0) ⟨st₄, hen, fl₄, tr₄⟩ fun h₅ fl₅ up₅ => ?_
  obtain ⟨R₅, F₅, kp₅, imm₅⟩ := mk h₅ fl₅.1 (up34.trans up₅)
  exact k h₅ R₅ F₅ kp₅ imm₅

/- the next of an iterator's items, or what is to be done when there is none -/
theorem Ex_trynext (B : Bs w hb.h) {n : Nat} (rm : Rm hb n A) {outer : List Env} (hfr : hb.fr = env :: outer) {L : Addr} (hf : env.frame = some L) {fe : Expr} {x : Str} {np cp ap bp hpos tp pos : Pos} {b₀ : Stmt} {suite : List Stmt} {R : Fl → Hp → Loc → Prop}
    (g : BN w (Str.ofString "StopIteration") (.type "StopIteration"))
    (h : Ev w hb A env (eval fe env) σ loc fun u σ₁ loc₁ => ∃ it l i vs, u = .mw it ∧ σ₁ it = some (.liter l i) ∧ σ₁ l = some (.list vs) ∧
      (∀ v, vs[i]? = some v → As w hb A env (.Name x np) v (upd σ₁ it (.liter l (i + 1))) loc₁ fun σ₂ loc₂ => R .brk σ₂ loc₂) ∧ (vs[i]? = none → ∀ A', Ex w hb A' env (execs (b₀ :: suite) env) (fgt σ₁ it) loc₁ R))
    (hx : env.kindOf (Str.ofString "StopIteration") = some .globalImplicit) (hg : env.globals = mainGlobals := by rfl) (hbn : env.builtins = builtinsNs := by rfl) (hk : env.scope.kind = .function := by rfl)
    (he : eval (.Call fe [] [] cp) env = (do callWith cp (← eval fe env) [] (backTo cp (starEach [] env)) (backToKw cp (keywordEach [] env))) := by rfl)
    (hsw : swapsWithSole [.Name x np] (.Call fe [] [] cp) ap.line env = pure false := by rfl) (hae : (assignEach [.Name x np] env).map (·.2) = [assign (.Name x np) env] := by rfl) (hw : swappedStores [.Name x np] (.Call fe [] [] cp) env = pure none := by rfl) :
    Ex w hb A env (exec (.Try [.Assign [.Name x np] (.Call fe [] [] cp) ap, .Break bp] [.ExceptHandler (some (.Name (Str.ofString "StopIteration") tp)) none (b₀ :: suite) hpos] [] [] pos) env) σ loc R := fun s P E Rp F H => by
  refine wpAny_Try_except (wpAny_execs_cons (wpAny_Assign_stores (Call_ (h s _ _ Rp F fun u a σ₁ loc₁ h₁ t₁ q R₁ F₁ ra S₁ => ?_) he) hsw hw))
  obtain ⟨it, l, i, vs, rfl, eit, el, hsome, hnone⟩ := q
  cases ra with
  | mw em =>
  rename_i m
  have hit : h₁.IsListIter it l i := R₁.obj it _ eit
  obtain ⟨xs, nn, ea, rs⟩ := R₁.obj l _ el
  obtain ⟨oi, hoi, hci, hdi⟩ := id hit
  have nimm : ∀ ob, h₁.get? it = some ob → ¬ Imm ob := fun ob z => by rw [hoi] at z; cases z; exact not_imm_fields hci hdi (by decide) (by decide)
  refine callWith_of (P := fun h => h.get? m = some (mwObj it)) rfl (fun h' z => ⟨.machine, .inr (.inl rfl), (Looks.ld (part := none) z).andThen .now⟩) (evalArgs_nil3 ⟨em, ?_⟩)
  refine call_mw (s := { s with heap := h₁, toks := t₁ }) rm.hand em hit (PySem.IsL.isList ea) (fun xv h₂ hxv hit₂ sb => ?_) fun h₂ e oe evs a0 hxn ext en he' hc hd' h1 h0 => ?_
  · -- an item
    obtain ⟨v, hv⟩ : ∃ v, vs[i]? = some v := by
      have hl : vs.length = xs.size := by rw [rs.length, Array.length_toList]
      have := (Array.getElem?_eq_some_iff.mp hxv).1
      exact ⟨_, List.getElem?_eq_getElem (by walk_at "om")⟩
    obtain ⟨y, hy, ry⟩ := rs.get hv
    have hyx : y = xv := by rw [Array.getElem?_toList] at hy; exact (Option.some.injEq _ _).mp (hy.symm.trans hxv)
    subst hyx
    obtain ⟨R₂, S₂⟩ := R₁.turn (o' := .liter l (i + 1)) eit nimm sb hit₂
    have F₂ := F₁.stay S₂
    rw [hae]
    refine hsome v hv y _ _ _ (ry.mono S₂.imm) R₂ F₂ fun σ₃ loc₃ h₃ t₃ q₃ R₃ F₃ S₃ => ?_
    refine wpAny_execs_cons (wpAny_Break ?_)
    exact H _ _ _ _ _ _ q₃ R₃ F₃ .brk (S₁.trans ((S₂.wide fun _ z => z.elim).trans S₃))
  · -- none is left
    have hvn : vs[i]? = none := by
      have hl : vs.length = xs.size := by rw [rs.length, Array.length_toList]
      have := Array.getElem?_eq_none_iff.mp hxn
      exact List.getElem?_eq_none (by walk_at "om")
    obtain ⟨R₂, S₂⟩ := R₁.forget eit nimm (fun b ob nb z => ext b ob nb z)
    have F₂ := F₁.stay S₂
    have sen : σ₁ e = none := R₁.none_of en
    have nee : e ≠ it := fun z => by subst z; rw [sen] at eit; cases eit
    refine catch_stop B rm hfr hf (s := { s with heap := h₂, toks := t₁ }) R₂ F₂ g rfl he' hc hd' h1 h0 (by rw [fgt_ne _ nee]; exact sen) (fresh_hb R₁ en) (fun o => by obtain ⟨ob, z⟩ := F₁.has o; rw [en] at z; cases z) hx hg hbn hk fun h₅ R₅ F₅ kp₅ imm₅ => ?_
    refine hnone hvn _ _ _ _ R₅ F₅ fun f gg σ₆ loc₆ h₆ t₆ q₆ R₆ F₆ rg S₆ => H _ _ _ _ _ _ q₆ R₆ F₆ rg ?_
    have S5 : St (fun _ => False) σ₁ (fgt σ₁ it) h₁ h₅ := ⟨fun b o z ii => imm₅ b o (S₂.imm b o z ii) ii, fun b o z q' _ => by
      have k2 := S₂.keep b o z q' id
      have nbe : b ≠ e := fun y => by subst y; rw [en] at z; cases z
      exact ⟨k2.1.then fun o' z' => kp₅ b o' z' nbe, k2.2⟩⟩
    exact S₁.trans ((S5.wide fun _ z => z.elim).trans S₆)
end
end

local macro_rules | `(tactic| walk_at "gz") => `(tactic| first
  | walk_at "ga" | walk_at "gc" | with_reducible refine As_attr ?_ | (with_reducible refine Ev_attr ?_ ?_); rotate_left; rfl
  | with_reducible refine Ev_walrus ?_ | with_reducible refine Ex_augattr ?_)
local macro_rules | `(tactic| walk_at "gy") => `(tactic| first | walk_at "gz" | (with_reducible refine Ex_if ?_))
section
open PySem PySem.W PyProof PyProof.Rows PySem.Calls PySem.Spec
section
variable (w : World)
theorem c75_get (name : Str) : plainGet (KF w) 75 name = true := by kernel_rfl
theorem c75_cls : isClsIn (KF w) 75 = true := by kernel_rfl
theorem c75_set : findIn (KF w) (.ref 75) "__setattr__" = some (some (.builtin "object.__setattr__")) := by kernel_rfl
theorem c75_over : plainOver (KF w) 75 = true := by kernel_rfl
theorem c75_makes : makesIn (KF w) 75 = true := by kernel_rfl
theorem c75_init : findIn (KF w) (.ref 75) "__init__" = some (some (.ref 71)) := by kernel_rfl
theorem c75_initf : typeIn (KF w) (.ref 71) = some (.type "function") := by kernel_rfl
theorem c75_node : findIn (KF w) (.ref 75) (S "node") = some (some (.ref 76)) := by kernel_rfl
theorem c75_np : findIn (KF w) (.ref 75) (S "npredecessors") = some (some (.ref 77)) := by kernel_rfl
theorem c75_su : findIn (KF w) (.ref 75) (S "successors") = some (some (.ref 78)) := by kernel_rfl
theorem d76 : specialIn (KF w) (.ref 76) "__get__" = some (some (.builtin "member_descriptor.__get__")) ∧ takesIn (KF w) (.ref 76) = some true ∧ slotIn (KF w) 76 75 = some 0 ∧ takerIn (KF w) 75 (S "node") = some (some (.ref 76)) ∧ typeIn (KF w) (.ref 76) = some (.type "member_descriptor") := ⟨by kernel_rfl, by kernel_rfl, by kernel_rfl, by kernel_rfl, by kernel_rfl⟩
theorem d77 : specialIn (KF w) (.ref 77) "__get__" = some (some (.builtin "member_descriptor.__get__")) ∧ takesIn (KF w) (.ref 77) = some true ∧ slotIn (KF w) 77 75 = some 1 ∧ takerIn (KF w) 75 (S "npredecessors") = some (some (.ref 77)) ∧ typeIn (KF w) (.ref 77) = some (.type "member_descriptor") := ⟨by kernel_rfl, by kernel_rfl, by kernel_rfl, by kernel_rfl, by kernel_rfl⟩
theorem d78 : specialIn (KF w) (.ref 78) "__get__" = some (some (.builtin "member_descriptor.__get__")) ∧ takesIn (KF w) (.ref 78) = some true ∧ slotIn (KF w) 78 75 = some 2 ∧ takerIn (KF w) 75 (S "successors") = some (some (.ref 78)) ∧ typeIn (KF w) (.ref 78) = some (.type "member_descriptor") := ⟨by kernel_rfl, by kernel_rfl, by kernel_rfl, by kernel_rfl, by kernel_rfl⟩
theorem c172_get (name : Str) : plainGet (KF w) 172 name = true := by kernel_rfl
theorem c172_dict : hasDictIn (KF w) 172 = true := by kernel_rfl
theorem c172_set : findIn (KF w) (.ref 172) "__setattr__" = some (some (.builtin "object.__setattr__")) := by kernel_rfl
theorem c172_over : plainOver (KF w) 172 = true := by kernel_rfl
theorem c172_makes : makesIn (KF w) 172 = true := by kernel_rfl
theorem c172_init : findIn (KF w) (.ref 172) "__init__" = some (some (.ref 108)) := by kernel_rfl
theorem c172_initf : typeIn (KF w) (.ref 108) = some (.type "function") := by kernel_rfl
theorem c172_n2i : findIn (KF w) (.ref 172) (S "_node2info") = some none ∧ takerIn (KF w) 172 (S "_node2info") = some none := ⟨by kernel_rfl, by kernel_rfl⟩
theorem c172_rdy : findIn (KF w) (.ref 172) (S "_ready_nodes") = some none ∧ takerIn (KF w) 172 (S "_ready_nodes") = some none := ⟨by kernel_rfl, by kernel_rfl⟩
theorem c172_pas : findIn (KF w) (.ref 172) (S "_npassedout") = some none ∧ takerIn (KF w) 172 (S "_npassedout") = some none := ⟨by kernel_rfl, by kernel_rfl⟩
theorem c172_fin : findIn (KF w) (.ref 172) (S "_nfinished") = some none ∧ takerIn (KF w) 172 (S "_nfinished") = some none := ⟨by kernel_rfl, by kernel_rfl⟩
theorem m_getinfo : findIn (KF w) (.ref 172) (S "_get_nodeinfo") = some (some (.ref 115)) ∧ isFn (KF w) (.ref 115) = true ∧ keepIn (KF w) (.ref 115) = true := ⟨by kernel_rfl, by kernel_rfl, by kernel_rfl⟩
theorem m_add : findIn (KF w) (.ref 172) (S "add") = some (some (.ref 122)) ∧ isFn (KF w) (.ref 122) = true ∧ keepIn (KF w) (.ref 122) = true := ⟨by kernel_rfl, by kernel_rfl, by kernel_rfl⟩
theorem m_add2 : specialIn (KF w) (.ref 122) "__get__" = some (some (.builtin "function.__get__")) ∧ takesIn (KF w) (.ref 122) = some false ∧ fnIn (KF w) 122 = true := ⟨by kernel_rfl, by kernel_rfl, by kernel_rfl⟩
theorem m_prepare : findIn (KF w) (.ref 172) (S "prepare") = some (some (.ref 127)) ∧ isFn (KF w) (.ref 127) = true ∧ keepIn (KF w) (.ref 127) = true := ⟨by kernel_rfl, by kernel_rfl, by kernel_rfl⟩
theorem m_ready : findIn (KF w) (.ref 172) (S "get_ready") = some (some (.ref 134)) ∧ isFn (KF w) (.ref 134) = true ∧ keepIn (KF w) (.ref 134) = true := ⟨by kernel_rfl, by kernel_rfl, by kernel_rfl⟩
theorem m_active : findIn (KF w) (.ref 172) (S "is_active") = some (some (.ref 141)) ∧ isFn (KF w) (.ref 141) = true ∧ keepIn (KF w) (.ref 141) = true := ⟨by kernel_rfl, by kernel_rfl, by kernel_rfl⟩
theorem m_done : findIn (KF w) (.ref 172) (S "done") = some (some (.ref 155)) ∧ isFn (KF w) (.ref 155) = true ∧ keepIn (KF w) (.ref 155) = true := ⟨by kernel_rfl, by kernel_rfl, by kernel_rfl⟩
theorem m_cycle : findIn (KF w) (.ref 172) (S "_find_cycle") = some (some (.ref 162)) ∧ isFn (KF w) (.ref 162) = true ∧ keepIn (KF w) (.ref 162) = true := ⟨by kernel_rfl, by kernel_rfl, by kernel_rfl⟩
theorem gn_nodeinfo : GN w (S "_NodeInfo") (.ref 75) := by unfold GN; kernel_rfl
theorem kp_nodeinfo : keepIn (KF w) (.ref 75) = true := by kernel_rfl
theorem gn_sorter : GN w (S "TopologicalSorter") (.ref 172) := by unfold GN; kernel_rfl
theorem kp_sorter : keepIn (KF w) (.ref 172) = true := by kernel_rfl
noncomputable def intIs (i : Int) : Option (Option Value) → Bool
  | some (some (.int j _)) => j == i
  | _ => false
theorem intIs_of {i : Int} : ∀ {x : Option (Option Value)}, intIs i x = true → ∃ t, x = some (some (.int i t))
  | some (some (.int j t)), h => ⟨t, by simp [intIs] at h; rw [h]⟩
theorem gn_out : ∃ t, GN w (S "_NODE_OUT") (.int (-1) t) := intIs_of (by kernel_rfl)
theorem gn_done : ∃ t, GN w (S "_NODE_DONE") (.int (-2) t) := intIs_of (by kernel_rfl)
end

end
local macro_rules | `(tactic| walk_at "gn") => `(tactic| with_reducible first | exact gn_nodeinfo _ | exact gn_sorter _)
section
open PySem PySem.W PyProof PyProof.Rows PySem.Calls PySem.Spec
section
variable {w : World} {hb : Base} {A : Around} {env : Env} {σ : Hp} {loc : Loc}
theorem hz_int {i : Int} : ∀ h a, VR h (.int i) a → handedIn a = true := fun _ _ r => by cases r; rfl
theorem hz_ref {i : Addr} : ∀ h a, VR h (.ref i) a → handedIn a = true := fun _ _ r => by cases r; rfl
theorem hz_none : ∀ h a, VR h .none a → handedIn a = true := fun _ _ r => by cases r; rfl
theorem get_node (B : Bs w hb.h) {x dx : Addr} {k n : Int} {s : Addr} {Q : V → Hp → Prop} (e : σ x = some (.inst 75 dx [some (.int k), some (.int n), some (.ref s)])) (ed : σ dx = some (.sdict [])) (h : Q (.int k) σ) : Op1 w hb A (.ref x) (fun a => getAttr a (S "node") true) σ Q :=
  Op_attrS B e ed rfl (c75_get w _) (c75_cls w) (c75_node w) (d76 w).1 (d76 w).2.1 (d76 w).2.2.1 hz_int h
theorem get_np (B : Bs w hb.h) {x dx : Addr} {k n : Int} {s : Addr} {Q : V → Hp → Prop} (e : σ x = some (.inst 75 dx [some (.int k), some (.int n), some (.ref s)])) (ed : σ dx = some (.sdict [])) (h : Q (.int n) σ) : Op1 w hb A (.ref x) (fun a => getAttr a (S "npredecessors") true) σ Q :=
  Op_attrS B e ed rfl (c75_get w _) (c75_cls w) (c75_np w) (d77 w).1 (d77 w).2.1 (d77 w).2.2.1 hz_int h
theorem get_su (B : Bs w hb.h) {x dx : Addr} {k n : Int} {s : Addr} {Q : V → Hp → Prop} (e : σ x = some (.inst 75 dx [some (.int k), some (.int n), some (.ref s)])) (ed : σ dx = some (.sdict [])) (h : Q (.ref s) σ) : Op1 w hb A (.ref x) (fun a => getAttr a (S "successors") true) σ Q :=
  Op_attrS B e ed rfl (c75_get w _) (c75_cls w) (c75_su w) (d78 w).1 (d78 w).2.1 (d78 w).2.2.1 hz_ref h
theorem set_np (B : Bs w hb.h) {x dx : Addr} {k n m : Int} {s : Addr} {Q : Unit → Hp → Prop} (e : σ x = some (.inst 75 dx [some (.int k), some (.int n), some (.ref s)])) (ed : σ dx = some (.sdict [])) (h : Q () (upd σ x (.inst 75 dx [some (.int k), some (.int m), some (.ref s)]))) :
    OpA w hb A (.ref x) (.int m) (S "npredecessors") σ Q := OpA_slot B e ed (c75_set w) (c75_over w) (d77 w).2.2.2.1 (d77 w).2.2.2.2 (d77 w).2.2.1 (by walk_at "om") h

/- a node's thing is made -/
theorem nodeinfo_init (B : Bs w hb.h) {n : Nat} (rm : Rm hb (n + 1) A) {x dx : Addr} {k : Int} {Q : V → Hp → Prop} (e : σ x = some (.inst 75 dx [])) (ed : σ dx = some (.sdict [])) (hne : x ≠ dx)
    (h : ∀ D, σ D = none → hb.get? D = none → Q .none (upd (upd σ D (.list [])) x (.inst 75 dx [some (.int k), some (.int 0), some (.ref D)]))) : OpC w hb A 71 [.ref x, .int k] σ Q := by
  refine call_fnB B (n := n) (l := [(S "self", .ref x), (S "node", .int k)]) rm rfl rfl rfl rfl rfl ?_ rfl (show [S "self", S "node"].Nodup by decide) (by decide) ?_
  · intro as s P E I R H
    obtain ⟨a, as, rfl, p, I⟩ := I.inv
    obtain ⟨b, as, rfl, q, I⟩ := I.inv
    obtain rfl := I.inv0
    exact wpAny_pure (H [(S "self", a), (S "node", b)] s.heap s.toks ⟨rfl, p, rfl, q, trivial⟩ fun _ _ e => e)
  intro hb L A' hh hfr B rm'
  repeat walk_at "ge"
  refine As_attr ?_
  repeat walk_at "ge"
  refine OpA_slot B e ed (c75_set w) (c75_over w) (d76 w).2.2.2.1 (d76 w).2.2.2.2 (d76 w).2.2.1 (by walk_at "om") ?_
  show Then w hb A' _ _ _ _ (upd σ x (.inst 75 dx [some (.int k)])) _
  have ed1 : ∀ o, upd σ x o dx = some (.sdict []) := fun o => (upd_ne _ _ (Ne.symm hne)).trans ed
  repeat walk_at "ge"
  refine As_attr ?_
  repeat walk_at "ge"
  refine OpA_slot (vs := [some (.int k)]) B (upd_self _ _ _) (ed1 _) (c75_set w) (c75_over w) (d77 w).2.2.2.1 (d77 w).2.2.2.2 (d77 w).2.2.1 (by walk_at "om") ?_
  rw [upd_upd]
  show Then w hb A' _ _ _ _ (upd σ x (.inst 75 dx [some (.int k), some (.int 0)])) _
  repeat walk_at "ge"
  refine ⟨by decide, fun D hD hD' => ?_⟩
  have hxD : x ≠ D := fun z => by rw [← z, upd_self] at hD; cases hD
  have hdD : dx ≠ D := fun z => by rw [← z, ed1] at hD; cases hD
  refine As_attr ?_
  repeat walk_at "ge"
  refine OpA_slot (vs := [some (.int k), some (.int 0)]) B ((upd_ne _ _ hxD).trans (upd_self _ _ _)) ((upd_ne _ _ hdD).trans (ed1 _)) (c75_set w) (c75_over w) (d78 w).2.2.2.1 (d78 w).2.2.2.2 (d78 w).2.2.1 (by walk_at "om") ?_
  have hs : upd (upd (upd σ x (.inst 75 dx [some (.int k), some (.int 0)])) D (.list [])) x (.inst 75 dx [some (.int k), some (.int 0), some (.ref D)]) = upd (upd σ D (.list [])) x (.inst 75 dx [some (.int k), some (.int 0), some (.ref D)]) := by
    funext b; unfold upd; split <;> first | rfl | (split <;> rfl)
  show Then w hb A' _ _ _ _ (upd (upd (upd σ x (.inst 75 dx [some (.int k), some (.int 0)])) D (.list [])) x (.inst 75 dx [some (.int k), some (.int 0), some (.ref D)])) _
  rw [hs]
  repeat walk_at "ge"
  exact h D (by rw [upd_ne _ _ (Ne.symm hxD)] at hD; exact hD) (Base.back hh hD')
end
end

section
open PySem PySem.W PyProof PyProof.Rows PySem.Calls PySem.Spec

section
variable {w : World} {hb : Base} {A : Around} {env : Env} {σ : Hp} {loc : Loc}
theorem Ex_assign2 {t1 t2 value : Expr} {pos : Pos} {R : Fl → Hp → Loc → Prop} (h : Ev w hb A env (eval value env) σ loc fun v σ₁ loc₁ => As w hb A env t1 v σ₁ loc₁ fun σ₂ loc₂ => As w hb A env t2 v σ₂ loc₂ fun σ₃ loc₃ => R .next σ₃ loc₃)
    (hs : swapsWithSole [t1, t2] value pos.line env = pure false := by rfl) (he : (assignEach [t1, t2] env).map (·.2) = [assign t1 env, assign t2 env] := by rfl) (hw : swappedStores [t1, t2] value env = pure none := by rfl) :
    Ex w hb A env (exec (.Assign [t1, t2] value pos) env) σ loc R := fun s P E Rp F H => by
  refine wpAny_Assign_stores (h s _ _ Rp F fun v a σ₁ loc₁ h₁ t₁ q R₁ F₁ ra S₁ => ?_) hs hw
  rw [he]
  show wpAny _ _ (do holding [a] (assign t1 env a); assign t2 env a) _ _ _
  refine wpAny_bind (wpAny_holding (q a _ _ _ ra R₁ F₁ fun σ₂ loc₂ h₂ t₂ q₂ R₂ F₂ S₂ => ?_))
  exact q₂ a _ _ _ (ra.mono S₂.imm) R₂ F₂ fun σ₃ loc₃ h₃ t₃ q₃ R₃ F₃ S₃ => H _ _ _ _ _ _ q₃ R₃ F₃ .next (S₁.trans (S₂.trans S₃))
end

/- a node of the sorter: its number, its places, its count and those behind it -/
structure Nod where
  k : Int
  ia : Addr
  dx : Addr
  sa : Addr
  np : Int
  su : List Int
structure NodOK (σ : Hp) (n : Nod) : Prop where
  i : σ n.ia = some (.inst 75 n.dx [some (.int n.k), some (.int n.np), some (.ref n.sa)])
  d : σ n.dx = some (.sdict [])
  s : σ n.sa = some (.list (n.su.map .int))
noncomputable def sFields (n2i : Addr) (rd : V) (p f : Int) : List (Str × V) := [(S "_node2info", .ref n2i), (S "_ready_nodes", rd), (S "_npassedout", .int p), (S "_nfinished", .int f)]
structure Srt (σ : Hp) (so dx n2i : Addr) (ep : Nat) (ns : List Nod) (rd : V) (p f : Int) : Prop where
  o : σ so = some (.inst 172 dx [])
  d : σ dx = some (.sdict (sFields n2i rd p f))
  n : σ n2i = some (.dict (ns.map fun n => (n.k, .ref n.ia)) ep)
  ne : n2i ≠ sysModules
  nods : ∀ n ∈ ns, NodOK σ n
  keys : (ns.map (·.k)).Nodup
  ias : (ns.map (·.ia)).Nodup
  sas : (ns.map (·.sa)).Nodup
  rdy : rd = .none ∨ ∃ (r : Addr) (l : List Int), rd = .ref r ∧ σ r = some (.list (l.map .int)) ∧ r ∉ ns.map (·.sa)
/- the lists that are not the sorter's stay -/
noncomputable def LF (σ σ' : Hp) (ns : List Nod) (rd : V) : Prop := ∀ a l, σ a = some (.list l) → a ∉ ns.map (·.sa) → rd ≠ .ref a → σ' a = some (.list l)
/- the sorter's own lists are old ones or new -/
noncomputable def NewS (σ : Hp) (ns ns' : List Nod) : Prop := ∀ n ∈ ns', n.sa ∈ ns.map (·.sa) ∨ ∀ l, σ n.sa ≠ some (.list l)
theorem Nod.uniq {α : Type} (g : Nod → α) : ∀ {ns : List Nod}, (ns.map g).Nodup → ∀ {n m : Nod}, n ∈ ns → m ∈ ns → g n = g m → n = m
  | q :: ns, nd, n, m, hn, hm, hk => by
    rw [List.map_cons, List.nodup_cons] at nd
    rcases List.mem_cons.mp hn with hn1 | hn1 <;> rcases List.mem_cons.mp hm with hm1 | hm1
    · rw [hn1, hm1]
    · exact absurd (by rw [← hn1, hk]; exact List.mem_map_of_mem hm1) nd.1
    · exact absurd (by rw [← hm1, ← hk]; exact List.mem_map_of_mem hn1) nd.1
    · exact Nod.uniq g nd.2 hn1 hm1 hk
theorem NewS.trans {σ σ' : Hp} {ns ns' ns'' : List Nod} (x : NewS σ ns ns') (l : LF σ σ' ns .none) (y : NewS σ' ns' ns'') : NewS σ ns ns'' := fun q hq => by
  rcases y q hq with z | z
  · obtain ⟨q', hq', hqs⟩ := List.mem_map.mp z
    rw [← hqs]; exact x q' hq'
  · by_cases hm : q.sa ∈ ns.map (·.sa)
    · exact .inl hm
    · exact .inr fun v e => z v (l q.sa v e hm (by intro h; cases h))
theorem LF.trans {σ σ' σ'' : Hp} {ns ns' : List Nod} (x : LF σ σ' ns .none) (n : NewS σ ns ns') (y : LF σ' σ'' ns' .none) : LF σ σ'' ns .none := fun a l e na nr => by
  refine y a l (x a l e na nr) (fun z => ?_) nr
  obtain ⟨q, hq, hqs⟩ := List.mem_map.mp z
  rcases n q hq with u | u
  · exact na (hqs ▸ u)
  · exact u l (by rw [hqs]; exact e)
noncomputable def pv (n : Nod) : Int × Int × List Int := (n.k, n.np, n.su)
theorem look_of {ns : List Nod} (nd : (ns.map (·.k)).Nodup) {n : Nod} (h : n ∈ ns) : (ns.map fun n => (n.k, V.ref n.ia)).lookup n.k = some (.ref n.ia) := by
  induction ns with
  | nil => cases h
  | cons m ns ih =>
    rw [List.map_cons, List.nodup_cons] at nd
    rw [List.map_cons, List.lookup_cons]
    rcases List.mem_cons.mp h with rfl | h
    · rw [beq_self_eq_true]
    · have : (n.k == m.k) = false := by
        rw [beq_eq_false_iff_ne]
        intro z
        exact nd.1 (by rw [← z]; exact List.mem_map_of_mem h)
      rw [this]; exact ih nd.2 h
theorem look_none {ns : List Nod} {k : Int} (h : k ∉ ns.map (·.k)) : (ns.map fun n => (n.k, V.ref n.ia)).lookup k = none := by
  rw [List.lookup_eq_none_iff]
  intro p hp
  obtain ⟨n, hn, rfl⟩ := List.mem_map.mp hp
  rw [bne_iff_ne]
  exact fun z => h (by rw [z]; exact List.mem_map_of_mem hn)
theorem putK_new {ns : List Nod} {k : Int} {v : V} (h : k ∉ ns.map (·.k)) : putK k v (ns.map fun n => (n.k, V.ref n.ia)) = (ns.map fun n => (n.k, V.ref n.ia)) ++ [(k, v)] := by
  unfold putK
  rw [if_neg]
  rw [Bool.not_eq_true, List.any_eq_false]
  intro p hp
  obtain ⟨n, hn, rfl⟩ := List.mem_map.mp hp
  simp only [decide_eq_true_eq]
  exact fun z => h (by rw [← z]; exact List.mem_map_of_mem hn)

section
variable {w : World} {hb : Base} {A : Around} {env : Env} {σ : Hp} {loc : Loc}
theorem s_n2i (B : Bs w hb.h) {so dx n2i : Addr} {ep : Nat} {ns : List Nod} {rd : V} {p f : Int} {Q : V → Hp → Prop} (T : Srt σ so dx n2i ep ns rd p f) (h : Q (.ref n2i) σ) : Op1 w hb A (.ref so) (fun a => getAttr a (S "_node2info") true) σ Q :=
  Op_attrD B T.o T.d rfl (c172_get w _) (c172_dict w) (c172_n2i w).1 hz_ref h
theorem s_rdy (B : Bs w hb.h) {so dx n2i : Addr} {ep : Nat} {ns : List Nod} {rd : V} {p f : Int} {Q : V → Hp → Prop} (T : Srt σ so dx n2i ep ns rd p f) (h : Q rd σ) : Op1 w hb A (.ref so) (fun a => getAttr a (S "_ready_nodes") true) σ Q :=
  Op_attrD B T.o T.d rfl (c172_get w _) (c172_dict w) (c172_rdy w).1 (by rcases T.rdy with rfl | ⟨r, l, rfl, _⟩; exact hz_none; exact hz_ref) h
theorem s_pas (B : Bs w hb.h) {so dx n2i : Addr} {ep : Nat} {ns : List Nod} {rd : V} {p f : Int} {Q : V → Hp → Prop} (T : Srt σ so dx n2i ep ns rd p f) (h : Q (.int p) σ) : Op1 w hb A (.ref so) (fun a => getAttr a (S "_npassedout") true) σ Q :=
  Op_attrD B T.o T.d rfl (c172_get w _) (c172_dict w) (c172_pas w).1 hz_int h
theorem s_fin (B : Bs w hb.h) {so dx n2i : Addr} {ep : Nat} {ns : List Nod} {rd : V} {p f : Int} {Q : V → Hp → Prop} (T : Srt σ so dx n2i ep ns rd p f) (h : Q (.int f) σ) : Op1 w hb A (.ref so) (fun a => getAttr a (S "_nfinished") true) σ Q :=
  Op_attrD B T.o T.d rfl (c172_get w _) (c172_dict w) (c172_fin w).1 hz_int h

theorem upd_keep {a b : Addr} {o p o' : O} (e : σ a = some o) (eb : σ b = some p) (h : o ≠ p) : upd σ b o' a = some o := by
  rw [upd_ne]
  · exact e
  · intro z; subst z; rw [e] at eb; cases eb; exact h rfl
theorem NodOK.grow {σ' : Hp} {n : Nod} (x : NodOK σ n) (g : Gr σ σ') : NodOK σ' n := ⟨g _ _ x.i, g _ _ x.d, g _ _ x.s⟩
theorem Srt.grow {σ' : Hp} {so dx n2i : Addr} {ep : Nat} {ns : List Nod} {rd : V} {p f : Int} (T : Srt σ so dx n2i ep ns rd p f) (g : Gr σ σ') : Srt σ' so dx n2i ep ns rd p f :=
  ⟨g _ _ T.o, g _ _ T.d, g _ _ T.n, T.ne, fun n hn => (T.nods n hn).grow g, T.keys, T.ias, T.sas, T.rdy.imp id fun ⟨r, l, a, b, c⟩ => ⟨r, l, a, g _ _ b, c⟩⟩
theorem getinfo_call (B : Bs w hb.h) {n : Nat} (rm : Rm hb (n + 4) A) {so dx n2i : Addr} {ep : Nat} {ns : List Nod} {rd : V} {p f : Int} {k : Int} {Q : V → Hp → Prop} (T : Srt σ so dx n2i ep ns rd p f) (hz : ns.length ≤ 100)
    (h : ∀ σ' ep' ns' m, Srt σ' so dx n2i ep' ns' rd p f → m ∈ ns' → m.k = k → LF σ σ' ns rd → NewS σ ns ns' → (ns'.map pv = if k ∈ ns.map (·.k) then ns.map pv else ns.map pv ++ [(k, 0, [])]) → Q (.ref m.ia) σ') :
    OpN w hb A [.ref so, .int k] (fun as => call (.ref 115) as) σ Q := by
  refine call_fn B (n := n + 3) (names := [S "self", S "node"]) rm rfl rfl rfl rfl rfl ?_ rfl rfl (by decide) (by decide) ?_
  · exact of_len2 fun _ _ => rfl
  intro hb L A' hh hfr B rm'
  repeat walk_at "gz"
  by_cases hk : k ∈ ns.map (·.k)
  · obtain ⟨m, hm, rfl⟩ := List.mem_map.mp hk
    refine Ex_if ?_
    repeat walk_at "gz"
    refine Ev_meth1 ?_
    repeat walk_at "gz"
    refine s_n2i B T ⟨_, Meth_dict T.n PySem.F.slot_dict_get PySem.F.type_dict_get, ?_⟩
    repeat walk_at "gz"
    refine Op_dget T.n T.ne ?_
    rw [look_of T.keys hm]
    show As w hb A' _ _ (.ref m.ia) _ _ _
    repeat walk_at "gz"
    refine Op_isNone (b := false) (fun h a r => by cases r; rfl) ⟨_, rfl, ?_⟩
    show Ex w hb A' _ _ _ _ _
    repeat walk_at "gz"
    refine h σ ep ns m T hm rfl (fun a l e _ _ => e) (fun n hn => .inl (List.mem_map_of_mem hn)) (by rw [if_pos hk])
  · refine Tr.mono (Ex_if (R := fun fl σ' loc' => ∃ ep' ns' m, C8 (fl = .next) (Srt σ' so dx n2i ep' ns' rd p f) (m ∈ ns') (m.k = k) (LF σ σ' ns rd) (NewS σ ns ns') (ns'.map pv = ns.map pv ++ [(k, 0, [])]) (loc'.lookup (S "result") = some (.ref m.ia))) ?_) ?_
    rotate_left
    · rintro fl σ' loc' ⟨ep', ns', m, rfl, T', hm, rfl, hlf, hnew, hpv, l1⟩
      repeat walk_at "gz"
      exact h σ' ep' ns' m T' hm rfl hlf hnew (by rw [if_neg hk]; exact hpv)
    repeat walk_at "gz"
    refine Ev_meth1 ?_
    repeat walk_at "gz"
    refine s_n2i B T ⟨_, Meth_dict T.n PySem.F.slot_dict_get PySem.F.type_dict_get, ?_⟩
    repeat walk_at "gz"
    refine Op_dget T.n T.ne ?_
    rw [look_none hk]
    show As w hb A' _ _ .none _ _ _
    repeat walk_at "gz"
    refine Op_isNone (b := true) (fun h a r => by cases r; rfl) ⟨_, rfl, ?_⟩
    show Ex w hb A' _ _ _ _ _
    repeat walk_at "gz"
    refine Ex_assign2 ?_
    refine Ev_callK1 B ?_
    repeat walk_at "gz"
    refine ⟨75, rfl, kp_nodeinfo w, ?_⟩
    repeat walk_at "gz"
    refine make_inst B rm' (c75_makes w) (c75_init w) (c75_initf w) fun x dxx A'' rm'' sx sdx hxd bx bdx => ?_
    refine nodeinfo_init B rm'' (upd_self _ _ _) ((upd_ne _ _ (Ne.symm hxd)).trans (upd_self _ _ _)) hxd fun D hD hD' => ⟨rfl, ?_⟩
    have hDx : D ≠ x := fun z => by rw [z, upd_self] at hD; cases hD
    have hDd : D ≠ dxx := fun z => by rw [z, upd_ne _ _ (Ne.symm hxd), upd_self] at hD; cases hD
    have sD : σ D = none := by rw [upd_ne _ _ hDx, upd_ne _ _ hDd] at hD; exact hD
    have g1 : Gr σ (upd (upd (upd (upd σ dxx (.sdict [])) x (.inst 75 dxx [])) D (.list [])) x (.inst 75 dxx [some (.int k), some (.int 0), some (.ref D)])) := ((((Gr.refl σ).upd sdx _).upd sx _).upd sD _).upd sx _
    have ex : upd (upd (upd (upd σ dxx (.sdict [])) x (.inst 75 dxx [])) D (.list [])) x (.inst 75 dxx [some (.int k), some (.int 0), some (.ref D)]) x = some (.inst 75 dxx [some (.int k), some (.int 0), some (.ref D)]) := upd_self _ _ _
    have exd : upd (upd (upd (upd σ dxx (.sdict [])) x (.inst 75 dxx [])) D (.list [])) x (.inst 75 dxx [some (.int k), some (.int 0), some (.ref D)]) dxx = some (.sdict []) := by
      rw [upd_ne _ _ (Ne.symm hxd), upd_ne _ _ (Ne.symm hDd), upd_ne _ _ (Ne.symm hxd), upd_self]
    have eD : upd (upd (upd (upd σ dxx (.sdict [])) x (.inst 75 dxx [])) D (.list [])) x (.inst 75 dxx [some (.int k), some (.int 0), some (.ref D)]) D = some (.list []) := by
      rw [upd_ne _ _ hDx, upd_self]
    generalize upd (upd (upd (upd σ dxx (.sdict [])) x (.inst 75 dxx [])) D (.list [])) x (.inst 75 dxx [some (.int k), some (.int 0), some (.ref D)]) = σ₁ at g1 ex exd eD ⊢
    have T1 := T.grow g1
    repeat walk_at "gz"
    refine s_n2i B T1 ?_
    repeat walk_at "gz"
    refine OpS_dict T1.n (by simp; walk_at "om") fun ep' => ?_
    rw [putK_new hk]
    repeat walk_at "gz"
    have kk : ∀ {a : Addr} {o : O}, σ₁ a = some o → (∀ kv e, o ≠ .dict kv e) → ∀ o', upd σ₁ n2i o' a = some o := fun e h o' => upd_keep e T1.n (h _ _)
    refine ⟨ep', ns ++ [⟨k, x, dxx, D, 0, []⟩], ⟨k, x, dxx, D, 0, []⟩, rfl, ⟨kk T1.o (by intro _ _ z; cases z) _, kk T1.d (by intro _ _ z; cases z) _, by rw [upd_self]; simp, T1.ne, fun n hn => ?_, ?_, ?_, ?_, ?_⟩, by simp, rfl, fun a l e _ _ => kk (g1 _ _ e) (by intro _ _ z; cases z) _, fun n hn => ?_, by simp [pv], by walk_at "lk"⟩
    · rcases List.mem_append.mp hn with hn | hn
      · have := T1.nods n hn
        exact ⟨kk this.i (by intro _ _ z; cases z) _, kk this.d (by intro _ _ z; cases z) _, kk this.s (by intro _ _ z; cases z) _⟩
      · simp at hn; subst hn
        exact ⟨kk ex (by intro _ _ z; cases z) _, kk exd (by intro _ _ z; cases z) _, kk eD (by intro _ _ z; cases z) _⟩
    · rw [List.map_append, List.nodup_append]
      refine ⟨T.keys, by simp, fun a ha b hb' => ?_⟩
      simp at hb'; subst hb'
      exact fun z => hk (z ▸ ha)
    · rw [List.map_append, List.nodup_append]
      refine ⟨T.ias, by simp, fun a ha b hb' => ?_⟩
      simp at hb'; subst hb'
      obtain ⟨n, hn, rfl⟩ := List.mem_map.mp ha
      intro z; have := (T.nods n hn).i; rw [z, sx] at this; cases this
    · rw [List.map_append, List.nodup_append]
      refine ⟨T.sas, by simp, fun a ha b hb' => ?_⟩
      simp at hb'; subst hb'
      obtain ⟨n, hn, rfl⟩ := List.mem_map.mp ha
      intro z; have := (T.nods n hn).s; rw [z, sD] at this; cases this
    · rcases T.rdy with h' | ⟨r, l, hr, er, nr⟩
      · exact .inl h'
      · refine .inr ⟨r, l, hr, kk (g1 _ _ er) (by intro _ _ z; cases z) _, ?_⟩
        rw [List.map_append, List.mem_append, not_or]
        refine ⟨nr, fun z => ?_⟩
        simp at z
        rw [z, sD] at er; cases er
    · rcases List.mem_append.mp hn with hn | hn
      · exact .inl (List.mem_map_of_mem hn)
      · simp at hn; subst hn; exact .inr fun l z => by rw [sD] at z; cases z
end
end

section
open PySem PySem.W PyProof PyProof.Rows PySem.Calls PySem.Spec

section
variable {w : World} {hb : Base} {A : Around} {σ : Hp}
theorem binds_va2 {fd : FuncData} {x1 x2 x3 : Str} {v1 v2 : V} {vs : List V} (hz : vs.length ≤ 1000) (h : ∀ a b rest, bindArgs fd ⟨a :: b :: rest, []⟩ = (newTuple rest >>= fun t => pure [(x1, a), (x2, b), (x3, t)])) :
    Binds w hb A fd (v1 :: v2 :: vs) [(x1, v1), (x2, v2), (x3, .tup vs)] σ := fun as s P E I R H => by
  obtain ⟨a, as, rfl, r1, I⟩ := I.inv
  obtain ⟨b, rest, rfl, r2, rs⟩ := I.inv
  rw [h]
  have hl := rs.length
  refine wpAny_bind (wpAny_newTuple (wpAny_pure (H _ _ s.toks ?_ fun b o e => Heap.get?_push_of_some _ e)) (by show rest.length ≤ _; rw [sizeLine]; walk_at "om"))
  have im : ImmK s.heap (s.heap.push (seqObj "tuple" rest.toArray 0)) := fun b o e _ => Heap.get?_push_of_some _ e
  exact ⟨rfl, r1.mono im, rfl, r2.mono im, rfl, .tup (Heap.get?_push_size _ rfl) (by simpa using rs.mono im), trivial⟩
theorem binds_va1 {fd : FuncData} {x1 x3 : Str} {v1 : V} {vs : List V} (hz : vs.length ≤ 1000) (h : ∀ a rest, bindArgs fd ⟨a :: rest, []⟩ = (newTuple rest >>= fun t => pure [(x1, a), (x3, t)])) :
    Binds w hb A fd (v1 :: vs) [(x1, v1), (x3, .tup vs)] σ := fun as s P E I R H => by
  obtain ⟨a, rest, rfl, r1, rs⟩ := I.inv
  rw [h]
  have hl := rs.length
  refine wpAny_bind (wpAny_newTuple (wpAny_pure (H _ _ s.toks ?_ fun b o e => Heap.get?_push_of_some _ e)) (by show rest.length ≤ _; rw [sizeLine]; walk_at "om"))
  have im : ImmK s.heap (s.heap.push (seqObj "tuple" rest.toArray 0)) := fun b o e _ => Heap.get?_push_of_some _ e
  exact ⟨rfl, r1.mono im, rfl, .tup (Heap.get?_push_size _ rfl) (by simpa using rs.mono im), trivial⟩

/- what add does to the nodes -/
noncomputable abbrev Pn := Int × Int × List Int
noncomputable def touchP (k : Int) (ps : List Pn) : List Pn := if k ∈ ps.map (·.1) then ps else ps ++ [(k, 0, [])]
noncomputable def bumpP (k d : Int) (ps : List Pn) : List Pn := ps.map fun p => if p.1 = k then (p.1, p.2.1 + d, p.2.2) else p
noncomputable def behindP (j k : Int) (ps : List Pn) : List Pn := ps.map fun p => if p.1 = j then (p.1, p.2.1, p.2.2 ++ [k]) else p
noncomputable def addP (k : Int) (js : List Int) (ps : List Pn) : List Pn := js.foldl (fun q j => behindP j k (touchP j q)) (bumpP k js.length (touchP k ps))
theorem pv_keys (ns : List Nod) : (ns.map pv).map (·.1) = ns.map (·.k) := by rw [List.map_map]; rfl

/- a node's count is set -/
theorem Srt.setNp {so dx n2i : Addr} {ep : Nat} {ns : List Nod} {rd : V} {p f : Int} (T : Srt σ so dx n2i ep ns rd p f) {m : Nod} (hm : m ∈ ns) (v : Int) :
    Srt (upd σ m.ia (.inst 75 m.dx [some (.int m.k), some (.int v), some (.ref m.sa)])) so dx n2i ep (ns.map fun n => if n.k = m.k then { n with np := v } else n) rd p f := by
  have M := T.nods m hm
  have kk : ∀ {a : Addr} {o : O}, σ a = some o → (∀ d l, o ≠ .inst 75 d l) → ∀ o', upd σ m.ia o' a = some o := fun e h o' => upd_keep e M.i (h _ _)
  have uniq : ∀ n ∈ ns, n.k = m.k → n = m := fun n hn hk => by
    have nd := T.keys
    clear T kk
    induction ns with
    | nil => cases hn
    | cons q ns ih =>
      rw [List.map_cons, List.nodup_cons] at nd
      rcases List.mem_cons.mp hn with hn1 | hn1 <;> rcases List.mem_cons.mp hm with hm1 | hm1
      · rw [hn1, hm1]
      · exact absurd (by rw [← hn1, hk]; exact List.mem_map_of_mem hm1) nd.1
      · exact absurd (by rw [← hm1, ← hk]; exact List.mem_map_of_mem hn1) nd.1
      · exact ih hm1 hn1 nd.2
  have f1 : (ns.map fun n => if n.k = m.k then { n with np := v } else n).map (·.k) = ns.map (·.k) := by rw [List.map_map]; apply List.map_congr_left; intro n _; simp only [Function.comp]; split <;> rfl
  have f2 : (ns.map fun n => if n.k = m.k then { n with np := v } else n).map (·.ia) = ns.map (·.ia) := by rw [List.map_map]; apply List.map_congr_left; intro n _; simp only [Function.comp]; split <;> rfl
  have f3 : (ns.map fun n => if n.k = m.k then { n with np := v } else n).map (·.sa) = ns.map (·.sa) := by rw [List.map_map]; apply List.map_congr_left; intro n _; simp only [Function.comp]; split <;> rfl
  have f4 : ((ns.map fun n => if n.k = m.k then { n with np := v } else n).map fun n => (n.k, V.ref n.ia)) = ns.map fun n => (n.k, V.ref n.ia) := by rw [List.map_map]; apply List.map_congr_left; intro n _; simp only [Function.comp]; split <;> rfl
  refine ⟨kk T.o (by intro _ _ z; cases z) _, kk T.d (by intro _ _ z; cases z) _, by rw [f4]; exact kk T.n (by intro _ _ z; cases z) _, T.ne, fun n' hn' => ?_, by rw [f1]; exact T.keys, by rw [f2]; exact T.ias, by rw [f3]; exact T.sas, ?_⟩
  · obtain ⟨n, hn, rfl⟩ := List.mem_map.mp hn'
    have N := T.nods n hn
    split
    · rename_i hk
      obtain rfl := uniq n hn hk
      exact ⟨upd_self _ _ _, kk N.d (by intro _ _ z; cases z) _, kk N.s (by intro _ _ z; cases z) _⟩
    · rename_i hk
      have hia : n.ia ≠ m.ia := fun z => by
        have := N.i; rw [z, M.i] at this
        injection this with this; injection this with _ _ this
        injection this with this; injection this with this
        injection this with this
        exact hk this.symm
      exact ⟨by rw [upd_ne _ _ hia]; exact N.i, kk N.d (by intro _ _ z; cases z) _, kk N.s (by intro _ _ z; cases z) _⟩
  · rcases T.rdy with h | ⟨r, l, a, b, c⟩
    · exact .inl h
    · exact .inr ⟨r, l, a, kk b (by intro _ _ z; cases z) _, by rw [f3]; exact c⟩
/- a node's list of those behind it is set -/
theorem Srt.setSu {so dx n2i : Addr} {ep : Nat} {ns : List Nod} {rd : V} {p f : Int} (T : Srt σ so dx n2i ep ns rd p f) {m : Nod} (hm : m ∈ ns) (v : List Int) :
    Srt (upd σ m.sa (.list (v.map .int))) so dx n2i ep (ns.map fun n => if n.k = m.k then { n with su := v } else n) rd p f := by
  have M := T.nods m hm
  have kk : ∀ {a : Addr} {o : O}, σ a = some o → (∀ l, o ≠ .list l) → ∀ o', upd σ m.sa o' a = some o := fun e h o' => upd_keep e M.s (h _)
  have uniq : ∀ n ∈ ns, n.k = m.k → n = m := fun n hn hk => by
    have nd := T.keys
    clear T kk
    induction ns with
    | nil => cases hn
    | cons q ns ih =>
      rw [List.map_cons, List.nodup_cons] at nd
      rcases List.mem_cons.mp hn with hn1 | hn1 <;> rcases List.mem_cons.mp hm with hm1 | hm1
      · rw [hn1, hm1]
      · exact absurd (by rw [← hn1, hk]; exact List.mem_map_of_mem hm1) nd.1
      · exact absurd (by rw [← hm1, ← hk]; exact List.mem_map_of_mem hn1) nd.1
      · exact ih hm1 hn1 nd.2
  have uniqs : ∀ n ∈ ns, n.sa = m.sa → n = m := fun n hn hk => by
    have nd := T.sas
    clear T kk uniq
    induction ns with
    | nil => cases hn
    | cons q ns ih =>
      rw [List.map_cons, List.nodup_cons] at nd
      rcases List.mem_cons.mp hn with hn1 | hn1 <;> rcases List.mem_cons.mp hm with hm1 | hm1
      · rw [hn1, hm1]
      · exact absurd (by rw [← hn1, hk]; exact List.mem_map_of_mem hm1) nd.1
      · exact absurd (by rw [← hm1, ← hk]; exact List.mem_map_of_mem hn1) nd.1
      · exact ih hm1 hn1 nd.2
  have f1 : (ns.map fun n => if n.k = m.k then { n with su := v } else n).map (·.k) = ns.map (·.k) := by rw [List.map_map]; apply List.map_congr_left; intro n _; simp only [Function.comp]; split <;> rfl
  have f2 : (ns.map fun n => if n.k = m.k then { n with su := v } else n).map (·.ia) = ns.map (·.ia) := by rw [List.map_map]; apply List.map_congr_left; intro n _; simp only [Function.comp]; split <;> rfl
  have f3 : (ns.map fun n => if n.k = m.k then { n with su := v } else n).map (·.sa) = ns.map (·.sa) := by rw [List.map_map]; apply List.map_congr_left; intro n _; simp only [Function.comp]; split <;> rfl
  have f4 : ((ns.map fun n => if n.k = m.k then { n with su := v } else n).map fun n => (n.k, V.ref n.ia)) = ns.map fun n => (n.k, V.ref n.ia) := by rw [List.map_map]; apply List.map_congr_left; intro n _; simp only [Function.comp]; split <;> rfl
  refine ⟨kk T.o (by intro _ z; cases z) _, kk T.d (by intro _ z; cases z) _, by rw [f4]; exact kk T.n (by intro _ z; cases z) _, T.ne, fun n' hn' => ?_, by rw [f1]; exact T.keys, by rw [f2]; exact T.ias, by rw [f3]; exact T.sas, ?_⟩
  · obtain ⟨n, hn, rfl⟩ := List.mem_map.mp hn'
    have N := T.nods n hn
    split
    · rename_i hk
      obtain rfl := uniq n hn hk
      exact ⟨kk N.i (by intro _ z; cases z) _, kk N.d (by intro _ z; cases z) _, upd_self _ _ _⟩
    · rename_i hk
      have hsa : n.sa ≠ m.sa := fun z => hk (by rw [uniqs n hn z])
      exact ⟨kk N.i (by intro _ z; cases z) _, kk N.d (by intro _ z; cases z) _, by rw [upd_ne _ _ hsa]; exact N.s⟩
  · rcases T.rdy with h | ⟨r, l, a, b, c⟩
    · exact .inl h
    · refine .inr ⟨r, l, a, ?_, by rw [f3]; exact c⟩
      rw [upd_ne]
      · exact b
      · exact fun z => c (by rw [z]; exact List.mem_map_of_mem hm)
theorem LF.upd_sa {σ' : Hp} {ns ns' : List Nod} {rd : V} (h : LF σ σ' ns rd) (hn : NewS σ ns ns') {m : Nod} (hm : m ∈ ns') (o : O) : LF σ (upd σ' m.sa o) ns rd := fun a l e na nr => by
  rw [upd_ne]
  · exact h a l e na nr
  · intro z
    rcases hn m hm with q | q
    · exact na (z ▸ q)
    · exact q l (by rw [← z]; exact e)
theorem LF.upd_ia {σ' : Hp} {ns : List Nod} {rd : V} (h : LF σ σ' ns rd) {a : Addr} {C d : Addr} {l : List (Option V)} (e : σ' a = some (.inst C d l)) (o : O) : LF σ (upd σ' a o) ns rd := fun b l' eb na nr => by
  rw [upd_ne]
  · exact h b l' eb na nr
  · intro z
    have := h b l' eb na nr
    rw [z, e] at this; cases this

theorem su_bound {ns ns' : List Nod} {k : Int} {c : Nat} (hpv : ns'.map pv = if k ∈ ns.map (·.k) then ns.map pv else ns.map pv ++ [(k, 0, [])]) (h : ∀ n ∈ ns, n.su.length ≤ c) : ∀ n ∈ ns', n.su.length ≤ c := fun n hn => by
  have hm : pv n ∈ ns'.map pv := List.mem_map_of_mem hn
  have h2 : pv n ∈ ns.map pv ∨ pv n = (k, 0, []) := by
    rw [hpv] at hm
    split at hm
    · exact .inl hm
    · simpa using hm
  rcases h2 with h2 | h2
  · obtain ⟨m, hm, e⟩ := List.mem_map.mp h2
    have : n.su = m.su := by have := congrArg (·.2.2) e; exact this.symm
    rw [this]; exact h m hm
  · have : n.su = [] := congrArg (·.2.2) h2
    rw [this]; simp
noncomputable abbrev AdA (σ : Hp) (ns : List Nod) (k : Int) (js : List Int) (p f : Int) (so dx n2i : Addr) (rest : List V) (σ' : Hp) (loc' : Loc) : Prop := ∃ (is : List Int) (ep' : Nat) (ns' : List Nod), C9 (rest = is.map .int) (Srt σ' so dx n2i ep' ns' .none p f) (LF σ σ' ns .none) (NewS σ ns ns') (is.foldl (fun q j => behindP j k (touchP j q)) (ns'.map pv) = addP k js (ns.map pv)) (ns'.length + is.length ≤ 91) (∃ c, c + is.length ≤ 490 ∧ ∀ n ∈ ns', n.su.length ≤ c) (loc'.lookup (S "self") = some (.ref so)) (loc'.lookup (S "node") = some (.int k))
theorem add_call (B : Bs w hb.h) {n : Nat} (rm : Rm hb (n + 5) A) {so dx n2i : Addr} {ep : Nat} {ns : List Nod} {p f : Int} {k : Int} {js : List Int} {Q : V → Hp → Prop} (T : Srt σ so dx n2i ep ns .none p f) (hz : ns.length + js.length ≤ 90) (hsu : ∀ n ∈ ns, n.su.length ≤ 400)
    (h : ∀ σ' ep' ns', Srt σ' so dx n2i ep' ns' .none p f → LF σ σ' ns .none → NewS σ ns ns' → ns'.map pv = addP k js (ns.map pv) → Q .none σ') :
    OpC w hb A 122 (.ref so :: .int k :: js.map .int) σ Q := by
  refine call_fnB B (n := n + 4) (l := [(S "self", .ref so), (S "node", .int k), (S "predecessors", .tup (js.map .int))]) rm rfl rfl rfl rfl rfl (binds_va2 (by simp; walk_at "om") fun a b rest => by cases rest <;> rfl) rfl (show [S "self", S "node", S "predecessors"].Nodup by decide) (by decide) ?_
  intro hb L A' hh hfr B rm'
  repeat walk_at "gz"
  refine Ex_if ?_
  repeat walk_at "gz"
  refine s_rdy B T ?_
  repeat walk_at "gz"
  refine Op_isNotNone (b := true) (fun h a r => by cases r; rfl) ⟨_, rfl, ?_⟩
  show Ex w hb A' _ _ _ _ _
  repeat walk_at "gz"
  refine Ev_imeth1 B ?_
  repeat walk_at "gz"
  refine ⟨115, imeth B T.o T.d rfl (c172_get w _) (m_getinfo w).1 (m_getinfo w).2.1, (m_getinfo w).2.2, ?_⟩
  repeat walk_at "gz"
  refine getinfo_call B rm' T (by walk_at "om") fun σ₁ ep₁ ns₁ m T₁ hm hmk lf₁ new₁ pv₁ => ?_
  repeat walk_at "gz"
  have M₁ := T₁.nods m hm
  refine get_np B M₁.i M₁.d ?_
  refine Ev_call B ?_
  repeat walk_at "gz"
  refine Op_lenT (by simp; walk_at "om") ?_
  rw [List.length_map]
  refine Op_iadd ?_
  refine set_np B M₁.i M₁.d ?_
  have T₂ := T₁.setNp hm (m.np + js.length)
  have lf₂ : LF σ (upd σ₁ m.ia (.inst 75 m.dx [some (.int m.k), some (.int (m.np + js.length)), some (.ref m.sa)])) ns .none := lf₁.upd_ia M₁.i _
  have pv₂ : (ns₁.map fun n => if n.k = m.k then { n with np := m.np + js.length } else n).map pv = bumpP k js.length (touchP k (ns.map pv)) := by
    have : touchP k (ns.map pv) = ns₁.map pv := by unfold touchP; rw [pv_keys, pv₁]
    rw [this, bumpP, List.map_map, List.map_map]
    apply List.map_congr_left
    intro n' hn'
    simp only [Function.comp, pv, hmk]
    by_cases hk : n'.k = k
    · have : n' = m := Nod.uniq (·.k) T₁.keys hn' hm (by show n'.k = m.k; rw [hk, hmk])
      subst this
      simp [hk]
    · simp [hk]
  have new₂ : NewS σ ns (ns₁.map fun n => if n.k = m.k then { n with np := m.np + js.length } else n) := fun n' hn' => by
    obtain ⟨n, hn, rfl⟩ := List.mem_map.mp hn'
    have : (if n.k = m.k then { n with np := m.np + js.length } else n).sa = n.sa := by split <;> rfl
    rw [this]; exact new₁ n hn
  have hz₂ : (ns₁.map fun n => if n.k = m.k then { n with np := m.np + js.length } else n).length ≤ ns.length + 1 := by
    rw [List.length_map, ← List.length_map (f := pv), pv₁]; split <;> simp
  have su₂ : ∀ n ∈ (ns₁.map fun n => if n.k = m.k then { n with np := m.np + js.length } else n), n.su.length ≤ 400 := fun n' hn' => by
    obtain ⟨n, hn, rfl⟩ := List.mem_map.mp hn'
    have : (if n.k = m.k then { n with np := m.np + js.length } else n).su = n.su := by split <;> rfl
    rw [this]; exact su_bound pv₁ hsu n hn
  generalize (ns₁.map fun n => if n.k = m.k then { n with np := m.np + js.length } else n) = ns₂ at T₂ pv₂ new₂ hz₂ su₂
  generalize upd σ₁ m.ia (.inst 75 m.dx [some (.int m.k), some (.int (m.np + js.length)), some (.ref m.sa)]) = σ₂ at T₂ lf₂ ⊢
  repeat walk_at "gz"
  refine Ex_for (It_src ?_)
  repeat walk_at "gz"
  refine ⟨_, _, src_tup rm', trivial, ?_⟩
  refine ForGo_inv (AdA σ ns k js p f so dx n2i) ?_ ?_ ?_
  rotate_left 2
  · exact ⟨js, ep₁, ns₂, rfl, T₂, lf₂, new₂, by rw [pv₂]; rfl, by walk_at "om", ⟨400, by walk_at "om", su₂⟩, by walk_at "lk", by walk_at "lk"⟩
  · rintro v vs σ' loc' ⟨is, ep', ns', hr, T', lf', new', hf', hz', ⟨c, hc, hcs⟩, l1, l2⟩
    cases is with
    | nil => simp at hr
    | cons j is =>
    rw [List.map_cons, List.cons.injEq] at hr
    obtain ⟨rfl, rfl⟩ := hr
    repeat walk_at "gz"
    refine Ev_imeth1 B ?_
    repeat walk_at "gz"
    refine ⟨115, imeth B T'.o T'.d rfl (c172_get w _) (m_getinfo w).1 (m_getinfo w).2.1, (m_getinfo w).2.2, ?_⟩
    repeat walk_at "gz"
    refine getinfo_call B rm' T' (by simp at hz'; walk_at "om") fun σ₃ ep₃ ns₃ m' T₃ hm₃ hmk₃ lf₃ new₃ pv₃ => ?_
    have M₃ := T₃.nods m' hm₃
    repeat walk_at "gz"
    refine Ev_meth1 ?_
    repeat walk_at "gz"
    refine get_su B M₃.i M₃.d ⟨_, Meth_append M₃.s, ?_⟩
    repeat walk_at "gz"
    have lf₃' : LF σ σ₃ ns .none := lf'.trans new' lf₃
    have new₃' : NewS σ ns ns₃ := new'.trans lf' new₃
    have hcs₃ := su_bound pv₃ hcs
    refine Op_append M₃.s (by have := hcs₃ m' hm₃; rw [List.length_map, sizeLine]; simp at hc; walk_at "om") ?_
    have e4 : m'.su.map V.int ++ [.int k] = (m'.su ++ [k]).map .int := by simp
    rw [e4]
    have T₄ := T₃.setSu hm₃ (m'.su ++ [k])
    repeat walk_at "gz"
    refine ⟨trivial, is, ep₃, _, rfl, T₄, lf₃'.upd_sa new₃' hm₃ _, fun n' hn' => ?_, ?_, ?_, ⟨c + 1, by simp at hc; walk_at "om", fun n' hn' => ?_⟩, by walk_at "lk", by walk_at "lk"⟩
    · obtain ⟨n, hn, rfl⟩ := List.mem_map.mp hn'
      have : (if n.k = m'.k then { n with su := m'.su ++ [k] } else n).sa = n.sa := by split <;> rfl
      rw [this]; exact new₃' n hn
    · rw [← hf', List.foldl_cons]
      congr 1
      have : touchP j (ns'.map pv) = ns₃.map pv := by unfold touchP; rw [pv_keys, pv₃]
      rw [this, behindP, List.map_map, List.map_map]
      apply List.map_congr_left
      intro n' hn'
      simp only [Function.comp, pv, hmk₃]
      by_cases hk : n'.k = j
      · have : n' = m' := Nod.uniq (·.k) T₃.keys hn' hm₃ (by show n'.k = m'.k; rw [hk, hmk₃])
        subst this
        simp [hk]
      · simp [hk]
    · rw [List.length_map]
      have : ns₃.length ≤ ns'.length + 1 := by rw [← List.length_map (f := pv), pv₃]; split <;> simp
      simp at hz'; walk_at "om"
    · obtain ⟨n, hn, rfl⟩ := List.mem_map.mp hn'
      split
      · have := hcs₃ m' hm₃
        simp; walk_at "om"
      · have := hcs₃ n hn; walk_at "om"
  · rintro σ' loc' ⟨is, ep', ns', hr, T', lf', new', hf', hz', ⟨c, hc, hcs⟩, l1, l2⟩
    cases is with
    | cons j is => simp at hr
    | nil =>
    repeat walk_at "gz"
    exact h σ' ep' ns' T' lf' new' hf'
end
end

section
open PySem PySem.W PyProof PyProof.Rows PySem.Calls PySem.Spec
theorem bn_bool (w : World) : BN w (S "bool") (.type "bool") := ⟨by kernel_rfl, by kernel_rfl, by decide⟩
theorem bn_tuple (w : World) : BN w (S "tuple") (.type "tuple") := ⟨by kernel_rfl, by kernel_rfl, by decide⟩
theorem bn_set (w : World) : BN w (S "set") (.type "set") := ⟨by kernel_rfl, by kernel_rfl, by decide⟩
theorem bn_iter (w : World) : BN w (S "iter") (.builtin "iter") := ⟨by kernel_rfl, by kernel_rfl, by decide⟩
theorem bn_stop (w : World) : BN w (S "StopIteration") (.type "StopIteration") := ⟨by kernel_rfl, by kernel_rfl, by decide⟩
theorem bn_sum (w : World) : BN w (S "sum") (.builtin "sum") := ⟨by kernel_rfl, by kernel_rfl, by decide⟩
theorem bn_list (w : World) : BN w (S "list") (.type "list") := ⟨by kernel_rfl, by kernel_rfl, by decide⟩
theorem bn_int (w : World) : BN w (S "int") (.type "int") := ⟨by kernel_rfl, by kernel_rfl, by decide⟩
theorem bn_sorted (w : World) : BN w (S "sorted") (.builtin "sorted") := ⟨by kernel_rfl, by kernel_rfl, by decide⟩
end
local macro_rules | `(tactic| walk_at "bn") => `(tactic| with_reducible first | exact bn_bool _ | exact bn_tuple _ | exact bn_set _ | exact bn_iter _)
section
open PySem PySem.W PyProof PyProof.Rows PySem.Calls PySem.Spec

section
variable {w : World} {hb : Base} {A : Around} {σ : Hp}
theorem sorter_new (B : Bs w hb.h) {n : Nat} (rm : Rm hb (n + 2) A) {Q : V → Hp → Prop} (h : ∀ σ' so dx n2i, Gr σ σ' → Srt σ' so dx n2i 0 [] .none 0 0 → Q (.ref so) σ') : OpN w hb A [] (fun as => call (.ref 172) as) σ Q := by
  refine make_inst B rm (c172_makes w) (c172_init w) (c172_initf w) fun x dx A'' rm'' sx sdx hxd bx bdx => ?_
  refine call_fnB B (n := n) (l := [(S "self", .ref x), (S "graph", .none)]) rm'' rfl rfl rfl rfl rfl ?_ rfl (show [S "self", S "graph"].Nodup by decide) (by decide) ?_
  · intro as s P E I R H
    obtain ⟨a, as, rfl, r, I⟩ := I.inv
    obtain rfl := I.inv0
    exact (binds_K (R.inK B) rfl rfl rfl rfl rfl : BindsTo s _ ⟨[a], []⟩ [(S "self", a), (S "graph", .none)]) _ _ _ _ (H _ s.heap s.toks ⟨rfl, r, rfl, .none, trivial⟩ fun _ _ e => e)
  intro hb L A' hh hfr B rm'
  have g1 : Gr σ (upd (upd σ dx (.sdict [])) x (.inst 172 dx [])) := ((Gr.refl σ).upd sdx _).upd sx _
  have ex : upd (upd σ dx (.sdict [])) x (.inst 172 dx []) x = some (.inst 172 dx []) := upd_self _ _ _
  have ed : upd (upd σ dx (.sdict [])) x (.inst 172 dx []) dx = some (.sdict []) := (upd_ne _ _ (Ne.symm hxd)).trans (upd_self _ _ _)
  generalize upd (upd σ dx (.sdict [])) x (.inst 172 dx []) = σ₁ at g1 ex ed ⊢
  repeat walk_at "gz"
  refine Ev_Dict0 B fun N hN hN' nN => ?_
  have hxN : x ≠ N := fun z => by rw [← z, ex] at hN; cases hN
  have hdN : dx ≠ N := fun z => by rw [← z, ed] at hN; cases hN
  have ex2 : ∀ o, upd (upd σ₁ N (.dict [] 0)) dx o x = some (.inst 172 dx []) := fun o => (upd_ne _ _ hxd).trans ((upd_ne _ _ hxN).trans ex)
  repeat walk_at "gz"
  refine OpA_dict B ((upd_ne _ _ hxN).trans ex) ((upd_ne _ _ hdN).trans ed) (c172_set w) (c172_over w) (c172_n2i w).2 (c172_dict w) (by decide) ?_
  repeat walk_at "gz"
  refine OpA_dict B (ex2 _) (upd_self _ _ _) (c172_set w) (c172_over w) (c172_rdy w).2 (c172_dict w) (by simp [setL]) ?_
  rw [upd_upd]
  repeat walk_at "gz"
  refine OpA_dict B (ex2 _) (upd_self _ _ _) (c172_set w) (c172_over w) (c172_pas w).2 (c172_dict w) (by show (2 : Nat) < 900; decide) ?_
  rw [upd_upd]
  repeat walk_at "gz"
  refine OpA_dict B (ex2 _) (upd_self _ _ _) (c172_set w) (c172_over w) (c172_fin w).2 (c172_dict w) (by show (3 : Nat) < 900; decide) ?_
  rw [upd_upd]
  show Then w hb A' _ _ _ _ (upd (upd σ₁ N (.dict [] 0)) dx (.sdict (sFields N .none 0 0))) _
  repeat walk_at "gz"
  refine Ex_if ?_
  repeat walk_at "gz"
  refine Op_isNotNone (b := true) (fun h a r => by cases r; rfl) ⟨_, rfl, ?_⟩
  show Ex w hb A' _ _ _ _ _
  repeat walk_at "gz"
  have gN : Gr σ₁ (upd σ₁ N (.dict [] 0)) := (Gr.refl _).upd hN _
  refine ⟨rfl, h _ x dx N (fun a o e => ?_) ⟨ex2 _, upd_self _ _ _, (upd_ne _ _ (Ne.symm hdN)).trans (upd_self _ _ _), nN, by simp, by simp, by simp, by simp, .inl rfl⟩⟩
  have had : a ≠ dx := fun z => by rw [z, sdx] at e; cases e
  rw [upd_ne _ _ had]
  exact gN _ _ (g1 _ _ e)

/- is anything still to come? -/
theorem active_call (B : Bs w hb.h) {n : Nat} (rm : Rm hb (n + 1) A) {so dx n2i r : Addr} {ep : Nat} {ns : List Nod} {p f : Int} {l : List Int} {Q : V → Hp → Prop} (T : Srt σ so dx n2i ep ns (.ref r) p f) (er : σ r = some (.list (l.map .int))) (hz : l.length ≤ 100)
    (h : Q (.bool (decide (f < p) || !l.isEmpty)) σ) : OpN w hb A [.ref so] (fun as => call (.ref 141) as) σ Q := by
  refine call_fn B (n := n) (names := [S "self"]) rm rfl rfl rfl rfl rfl ?_ rfl rfl (by decide) (by decide) ?_
  · exact of_len1 fun _ => rfl
  intro hb L A' hh hfr B rm'
  repeat walk_at "gz"
  refine Ex_if ?_
  repeat walk_at "gz"
  refine s_rdy B T ?_
  repeat walk_at "gz"
  refine Op_isNone (b := false) (fun h a r => by cases r; rfl) ⟨_, rfl, ?_⟩
  show Ex w hb A' _ _ _ _ _
  repeat walk_at "gz"
  refine Ev_or ?_
  repeat walk_at "gz"
  refine s_fin B T ?_
  repeat walk_at "gz"
  refine s_pas B T ?_
  refine Op_lt ⟨_, rfl, ?_⟩
  cases hd : decide (f < p) with
  | true =>
    rw [hd, Bool.true_or] at h
    exact h
  | false =>
    rw [hd, Bool.false_or] at h
    show Ev w hb A' _ _ _ _ _
    refine Ev_call B ?_
    repeat walk_at "gz"
    refine s_rdy B T ?_
    repeat walk_at "gz"
    refine Op_bool er (by simp; walk_at "om") ?_
    have : (l.map V.int).isEmpty = l.isEmpty := by cases l <;> rfl
    rw [this]
    exact h
end
end

section
open PySem PySem.W PyProof PyProof.Rows PySem.Calls PySem.Spec

section
variable {w : World} {hb : Base} {A : Around} {σ : Hp}
theorem Srt.setRdy {so dx n2i r : Addr} {ep : Nat} {ns : List Nod} {p f : Int} {l : List V} (T : Srt σ so dx n2i ep ns (.ref r) p f) (er : σ r = some (.list l)) (v : List Int) : Srt (upd σ r (.list (v.map .int))) so dx n2i ep ns (.ref r) p f := by
  have kk : ∀ {a : Addr} {o : O}, σ a = some o → (∀ l, o ≠ .list l) → ∀ o', upd σ r o' a = some o := fun e h o' => upd_keep e er (h _)
  have nr : r ∉ ns.map (·.sa) := by
    rcases T.rdy with h | ⟨r', l', h, _, c⟩
    · cases h
    · cases h; exact c
  refine ⟨kk T.o (by intro _ z; cases z) _, kk T.d (by intro _ z; cases z) _, kk T.n (by intro _ z; cases z) _, T.ne, fun n hn => ?_, T.keys, T.ias, T.sas, .inr ⟨r, v, rfl, upd_self _ _ _, nr⟩⟩
  have N := T.nods n hn
  refine ⟨kk N.i (by intro _ z; cases z) _, kk N.d (by intro _ z; cases z) _, ?_⟩
  rw [upd_ne]
  · exact N.s
  · exact fun z => nr (by rw [← z]; exact List.mem_map_of_mem hn)
theorem Srt.setD {so dx n2i : Addr} {ep : Nat} {ns : List Nod} {rd : V} {p f : Int} (T : Srt σ so dx n2i ep ns rd p f) (p' f' : Int) : Srt (upd σ dx (.sdict (sFields n2i rd p' f'))) so dx n2i ep ns rd p' f' := by
  have kk : ∀ {a : Addr} {o : O}, σ a = some o → o ≠ .sdict (sFields n2i rd p f) → ∀ o', upd σ dx o' a = some o := fun e h o' => upd_keep e T.d h
  refine ⟨kk T.o (by intro z; cases z) _, upd_self _ _ _, kk T.n (by intro z; cases z) _, T.ne, fun n hn => ?_, T.keys, T.ias, T.sas, ?_⟩
  · have N := T.nods n hn
    exact ⟨kk N.i (by intro z; cases z) _, kk N.d (by intro z; cases z) _, kk N.s (by intro z; cases z) _⟩
  · rcases T.rdy with h | ⟨r, l, a, b, c⟩
    · exact .inl h
    · exact .inr ⟨r, l, a, kk b (by intro z; cases z) _, c⟩
/- the marks of those handed out -/
noncomputable def outP (l : List Int) (ps : List Pn) : List Pn := ps.map fun q => if q.1 ∈ l then (q.1, -1, q.2.2) else q
theorem np_keys {ns : List Nod} {k v : Int} : (ns.map fun n => if n.k = k then { n with np := v } else n).map (·.k) = ns.map (·.k) := by rw [List.map_map]; apply List.map_congr_left; intro n _; simp only [Function.comp]; split <;> rfl
theorem np_sas {ns : List Nod} {k v : Int} : (ns.map fun n => if n.k = k then { n with np := v } else n).map (·.sa) = ns.map (·.sa) := by rw [List.map_map]; apply List.map_congr_left; intro n _; simp only [Function.comp]; split <;> rfl

noncomputable abbrev RdA (σ : Hp) (ns : List Nod) (l : List Int) (ep : Nat) (p f : Int) (so dx n2i r : Addr) (rest : List V) (σ' : Hp) (loc' : Loc) : Prop := ∃ (ds is : List Int) (ns' : List Nod), C10 (rest = is.map .int) (l = ds ++ is) (Srt σ' so dx n2i ep ns' (.ref r) p f) (σ' r = some (.list (l.map .int))) (LF σ σ' ns (.ref r)) (ns'.map (·.sa) = ns.map (·.sa)) (ns'.map pv = outP ds (ns.map pv)) (loc'.lookup (S "self") = some (.ref so)) (loc'.lookup (S "result") = some (.tup (l.map .int))) (loc'.lookup (S "n2i") = some (.ref n2i))
theorem ready_call (B : Bs w hb.h) {n : Nat} (rm : Rm hb (n + 1) A) {so dx n2i r : Addr} {ep : Nat} {ns : List Nod} {p f : Int} {l : List Int} {Q : V → Hp → Prop} (T : Srt σ so dx n2i ep ns (.ref r) p f) (er : σ r = some (.list (l.map .int))) (hz : l.length ≤ 100) (hl : ∀ j ∈ l, j ∈ ns.map (·.k))
    (h : ∀ σ' ns', Srt σ' so dx n2i ep ns' (.ref r) (p + l.length) f → σ' r = some (.list []) → LF σ σ' ns (.ref r) → ns'.map (·.sa) = ns.map (·.sa) → ns'.map pv = outP l (ns.map pv) → Q (.tup (l.map .int)) σ') : OpN w hb A [.ref so] (fun as => call (.ref 134) as) σ Q := by
  refine call_fn B (n := n) (names := [S "self"]) rm rfl rfl rfl rfl rfl ?_ rfl rfl (by decide) (by decide) ?_
  · exact of_len1 fun _ => rfl
  intro hb L A' hh hfr B rm'
  repeat walk_at "gz"
  refine Ex_if ?_
  repeat walk_at "gz"
  refine s_rdy B T ?_
  repeat walk_at "gz"
  refine Op_isNone (b := false) (fun h a r => by cases r; rfl) ⟨_, rfl, ?_⟩
  show Ex w hb A' _ _ _ _ _
  repeat walk_at "gz"
  refine Ev_call B ?_
  repeat walk_at "gz"
  refine s_rdy B T ?_
  repeat walk_at "gz"
  refine Op_tuple er (by simp; walk_at "om") ?_
  repeat walk_at "gz"
  refine s_n2i B T ?_
  repeat walk_at "gz"
  refine Tr.mono (Ex_for (It_src ?_) (R := fun fl σ' loc' => ∃ ns', C8 (fl = .next) (Srt σ' so dx n2i ep ns' (.ref r) p f) (σ' r = some (.list (l.map .int))) (LF σ σ' ns (.ref r)) (ns'.map (·.sa) = ns.map (·.sa)) (ns'.map pv = outP l (ns.map pv)) (loc'.lookup (S "self") = some (.ref so)) (loc'.lookup (S "result") = some (.tup (l.map .int))))) ?_
  rotate_left
  · rintro fl σ' loc' ⟨ns', rfl, T', er', lf', sa', pv', l1, l2⟩
    repeat walk_at "gz"
    refine Ev_meth0 ?_
    repeat walk_at "gz"
    refine s_rdy B T' ⟨_, Meth_clear er', ?_⟩
    refine Op_clear er' (by simp; walk_at "om") ?_
    have T₂ := T'.setRdy er' []
    repeat walk_at "gz"
    refine s_pas B T₂ ?_
    refine Ev_call B ?_
    repeat walk_at "gz"
    refine Op_lenT (by simp; walk_at "om") ?_
    rw [List.length_map]
    refine Op_iadd ?_
    refine OpA_dict B T₂.o T₂.d (c172_set w) (c172_over w) (c172_pas w).2 (c172_dict w) (by show (4 : Nat) < 900; decide) ?_
    have T₃ := T₂.setD (p + l.length) f
    show Then w hb A' _ _ _ _ (upd (upd σ' r (.list (([] : List Int).map .int))) dx (.sdict (sFields n2i (.ref r) (p + l.length) f))) _
    repeat walk_at "gz"
    refine h _ ns' T₃ ?_ (fun a v e na nr => ?_) sa' pv'
    · rw [upd_keep (upd_self _ _ _) T₂.d (by intro z; cases z)]; rfl
    · have := lf' a v e na nr
      have har : a ≠ r := fun z => nr (by rw [z])
      exact upd_keep ((upd_ne _ _ har).trans this) T₂.d (by intro z; cases z)
  repeat walk_at "gz"
  refine ⟨_, _, src_tup rm', trivial, ?_⟩
  refine ForGo_inv (RdA σ ns l ep p f so dx n2i r) ?_ ?_ ?_
  rotate_left 2
  · exact ⟨[], l, ns, rfl, rfl, T, er, fun a v e _ _ => e, rfl, by simp [outP], by walk_at "lk", by walk_at "lk", by walk_at "lk"⟩
  · rintro v vs σ' loc' ⟨ds, is, ns', hr, hd, T', er', lf', sa', pv', l1, l2, l3⟩
    cases is with
    | nil => simp at hr
    | cons j is =>
    rw [List.map_cons, List.cons.injEq] at hr
    obtain ⟨rfl, rfl⟩ := hr
    have keys' : ns'.map (·.k) = ns.map (·.k) := by
      rw [← pv_keys, pv', ← pv_keys ns]
      unfold outP; rw [List.map_map]; apply List.map_congr_left; intro q _; simp only [Function.comp]; split <;> rfl
    obtain ⟨m, hm, hmj⟩ : ∃ m ∈ ns', m.k = j := by
      have : j ∈ ns'.map (·.k) := by rw [keys']; exact hl j (by rw [hd]; simp)
      exact List.mem_map.mp this
    have M := T'.nods m hm
    obtain ⟨tk, gout⟩ := gn_out w
    repeat walk_at "gz"
    refine Ev_glob B gout (fun _ _ => .int _ _) ?_ rfl
    repeat walk_at "gz"
    refine Sub_dict T'.n (v := .ref m.ia) (by rw [← hmj]; exact look_of T'.keys hm) ?_
    refine set_np B M.i M.d ?_
    have T₂ := T'.setNp hm (-1)
    repeat walk_at "gz"
    refine ⟨trivial, ds ++ [j], is, _, rfl, by rw [hd]; simp, T₂, upd_keep er' M.i (by intro z; cases z), lf'.upd_ia M.i _, by rw [np_sas]; exact sa', ?_, by walk_at "lk", by walk_at "lk", by walk_at "lk"⟩
    rw [List.map_map]
    have : ∀ ps : List Pn, outP (ds ++ [j]) ps = outP [j] (outP ds ps) := by
      intro ps
      unfold outP
      rw [List.map_map]
      apply List.map_congr_left
      intro q _
      simp only [Function.comp, List.mem_append, List.mem_singleton]
      by_cases h1 : q.1 ∈ ds <;> simp [h1]
    rw [this, ← pv', outP, List.map_map]
    apply List.map_congr_left
    intro n' hn'
    simp only [Function.comp, pv, List.mem_singleton, hmj]
    by_cases hk : n'.k = j
    · simp [hk]
    · simp [hk]
  · rintro σ' loc' ⟨ds, is, ns', hr, hd, T', er', lf', sa', pv', l1, l2, l3⟩
    cases is with
    | cons j is => simp at hr
    | nil =>
    rw [List.append_nil] at hd
    subst hd
    repeat walk_at "gz"
    exact ⟨ns', rfl, T', er', lf', sa', pv', l1, l2⟩
end
end

section
open PySem PySem.W PyProof PyProof.Rows PySem.Calls PySem.Spec

section
variable {w : World} {hb : Base} {A : Around} {σ : Hp}
noncomputable def setP (k v : Int) (ps : List Pn) : List Pn := ps.map fun q => if q.1 = k then (q.1, v, q.2.2) else q
/- one that stood behind it is told -/
noncomputable def tellP (s : List Pn × List Int) (j : Int) : List Pn × List Int := (bumpP j (-1) s.1, if ((bumpP j (-1) s.1).lookup j).map (·.1) = some 0 then s.2 ++ [j] else s.2)
noncomputable def doneP (x : Int) (su : List Int) (ps : List Pn) (l : List Int) : List Pn × List Int := su.foldl tellP (setP x (-2) ps, l)
theorem setNp_pv {ns : List Nod} {m : Nod} (nd : (ns.map (·.k)).Nodup) (hm : m ∈ ns) (d : Int) : (ns.map fun n => if n.k = m.k then { n with np := m.np + d } else n).map pv = bumpP m.k d (ns.map pv) := by
  rw [bumpP, List.map_map, List.map_map]
  apply List.map_congr_left
  intro n' hn'
  simp only [Function.comp, pv]
  by_cases hk : n'.k = m.k
  · have : n' = m := Nod.uniq (·.k) nd hn' hm hk
    subst this
    simp
  · simp [hk]
theorem setNp_pv2 {ns : List Nod} {k v : Int} : (ns.map fun n => if n.k = k then { n with np := v } else n).map pv = setP k v (ns.map pv) := by
  rw [setP, List.map_map, List.map_map]
  apply List.map_congr_left
  intro n' hn'
  simp only [Function.comp, pv]
  by_cases hk : n'.k = k <;> simp [hk]
theorem pv_look {ns : List Nod} (nd : (ns.map (·.k)).Nodup) {m : Nod} (hm : m ∈ ns) : (ns.map pv).lookup m.k = some (m.np, m.su) := by
  induction ns with
  | nil => cases hm
  | cons q ns ih =>
    rw [List.map_cons, List.nodup_cons] at nd
    rw [List.map_cons]
    show List.lookup m.k ((q.k, q.np, q.su) :: _) = _
    rw [List.lookup_cons]
    rcases List.mem_cons.mp hm with rfl | hm
    · rw [beq_self_eq_true]
    · have : (m.k == q.k) = false := by
        rw [beq_eq_false_iff_ne]
        intro z
        exact nd.1 (by rw [← z]; exact List.mem_map_of_mem hm)
      rw [this]; exact ih nd.2 hm

noncomputable abbrev DnA (σ : Hp) (ns : List Nod) (m : Nod) (l : List Int) (ep : Nat) (p f : Int) (so dx n2i r : Addr) (rest : List V) (σ' : Hp) (loc' : Loc) : Prop := ∃ (ds is : List Int) (ns' : List Nod) (l' : List Int), C12 (rest = is.map .int) (m.su = ds ++ is) (is.foldl tellP (ns'.map pv, l') = doneP m.k m.su (ns.map pv) l) (Srt σ' so dx n2i ep ns' (.ref r) p f) (σ' r = some (.list (l'.map .int))) (LF σ σ' ns (.ref r)) (ns'.map (·.sa) = ns.map (·.sa)) (ns'.map (·.k) = ns.map (·.k)) (l'.length + is.length ≤ 100) (σ' m.sa = some (.list (m.su.map .int))) (loc'.lookup (S "self") = some (.ref so)) (loc'.lookup (S "n2i") = some (.ref n2i))
theorem done_call (B : Bs w hb.h) {n : Nat} (rm : Rm hb (n + 1) A) {so dx n2i r : Addr} {ep : Nat} {ns : List Nod} {p f : Int} {l : List Int} {m : Nod} {Q : V → Hp → Prop} (T : Srt σ so dx n2i ep ns (.ref r) p f) (er : σ r = some (.list (l.map .int))) (hz : l.length + m.su.length ≤ 100) (hm : m ∈ ns) (hnp : m.np = -1)
    (hsu : ∀ j ∈ m.su, j ∈ ns.map (·.k))
    (h : ∀ σ' ns', Srt σ' so dx n2i ep ns' (.ref r) p (f + 1) → σ' r = some (.list ((doneP m.k m.su (ns.map pv) l).2.map .int)) → LF σ σ' ns (.ref r) → ns'.map (·.sa) = ns.map (·.sa) → ns'.map pv = (doneP m.k m.su (ns.map pv) l).1 → Q .none σ') : OpC w hb A 155 [.ref so, .int m.k] σ Q := by
  refine call_fnB B (n := n) (l := [(S "self", .ref so), (S "nodes", .tup [.int m.k])]) rm rfl rfl rfl rfl rfl (binds_va1 (by simp) fun a rest => by cases rest <;> rfl) rfl (show [S "self", S "nodes"].Nodup by decide) (by decide) ?_
  intro hb L A' hh hfr B rm'
  repeat walk_at "gz"
  refine Ex_if ?_
  repeat walk_at "gz"
  refine s_rdy B T ?_
  repeat walk_at "gz"
  refine Op_isNone (b := false) (fun h a r => by cases r; rfl) ⟨_, rfl, ?_⟩
  show Ex w hb A' _ _ _ _ _
  repeat walk_at "gz"
  refine s_n2i B T ?_
  repeat walk_at "gz"
  refine Ex_for (It_src ?_)
  repeat walk_at "gz"
  refine ⟨_, _, src_tup rm', trivial, ?_⟩
  unfold ForGo
  repeat walk_at "gz"
  refine Ex_if ?_
  repeat walk_at "gz"
  refine Ev_meth1 ?_
  repeat walk_at "gz"
  refine ⟨_, Meth_dict T.n PySem.F.slot_dict_get PySem.F.type_dict_get, ?_⟩
  repeat walk_at "gz"
  refine Op_dget T.n T.ne ?_
  rw [look_of T.keys hm]
  show As w hb A' _ _ (.ref m.ia) _ _ _
  repeat walk_at "gz"
  refine Op_isNone (b := false) (fun h a r => by cases r; rfl) ⟨_, rfl, ?_⟩
  show Ex w hb A' _ _ _ _ _
  have M := T.nods m hm
  obtain ⟨t1, gout⟩ := gn_out w
  obtain ⟨t2, gdone⟩ := gn_done w
  repeat walk_at "gz"
  refine get_np B M.i M.d ?_
  repeat walk_at "gz"
  refine Ex_if ?_
  repeat walk_at "gz"
  refine Ev_glob B gout (fun _ _ => .int _ _) ?_ rfl
  refine Op_ne ⟨_, rfl, ?_⟩
  rw [hnp]
  show Ex w hb A' _ _ _ _ _
  repeat walk_at "gz"
  refine Ev_glob B gdone (fun _ _ => .int _ _) ?_ rfl
  repeat walk_at "gz"
  refine set_np B M.i M.d ?_
  have T₁ := T.setNp hm (-2)
  have er₁ : upd σ m.ia (.inst 75 m.dx [some (.int m.k), some (.int (-2)), some (.ref m.sa)]) r = some (.list (l.map .int)) := upd_keep er M.i (by intro z; cases z)
  have lf₁ : LF σ (upd σ m.ia (.inst 75 m.dx [some (.int m.k), some (.int (-2)), some (.ref m.sa)])) ns (.ref r) := LF.upd_ia (fun a v e _ _ => e) M.i _
  have hm₁ : ({ m with np := -2 } : Nod) ∈ (ns.map fun n => if n.k = m.k then { n with np := -2 } else n) := List.mem_map.mpr ⟨m, hm, by simp⟩
  have sa₁ := np_sas (ns := ns) (k := m.k) (v := -2)
  have pv₁ := setNp_pv2 (ns := ns) (k := m.k) (v := -2)
  have ky₁ := np_keys (ns := ns) (k := m.k) (v := -2)
  have M₁ := T₁.nods _ hm₁
  generalize (ns.map fun n => if n.k = m.k then { n with np := -2 } else n) = ns₁ at T₁ hm₁ sa₁ pv₁ ky₁
  generalize upd σ m.ia (.inst 75 m.dx [some (.int m.k), some (.int (-2)), some (.ref m.sa)]) = σ₁ at T₁ er₁ lf₁ M₁ ⊢
  repeat walk_at "gz"
  refine Tr.mono (Ex_for (It_src ?_) (R := fun fl σ' loc' => ∃ ns', C7 (fl = .next) (Srt σ' so dx n2i ep ns' (.ref r) p f) (σ' r = some (.list ((doneP m.k m.su (ns.map pv) l).2.map .int))) (LF σ σ' ns (.ref r)) (ns'.map (·.sa) = ns.map (·.sa)) (ns'.map pv = (doneP m.k m.su (ns.map pv) l).1) (loc'.lookup (S "self") = some (.ref so)))) ?_
  rotate_left
  · rintro fl σ' loc' ⟨ns', rfl, T', er', lf', sa', pv', l1⟩
    repeat walk_at "gz"
    refine s_fin B T' ?_
    repeat walk_at "gz"
    refine Op_iadd ?_
    refine OpA_dict B T'.o T'.d (c172_set w) (c172_over w) (c172_fin w).2 (c172_dict w) (by show (4 : Nat) < 900; decide) ?_
    have T₃ := T'.setD p (f + 1)
    show Then w hb A' _ _ _ _ (upd σ' dx (.sdict (sFields n2i (.ref r) p (f + 1)))) _
    repeat walk_at "gz"
    refine ⟨trivial, ?_⟩
    unfold ForGo
    repeat walk_at "gz"
    exact h _ ns' T₃ (upd_keep er' T'.d (by intro z; cases z)) (fun a v e na nr => upd_keep (lf' a v e na nr) T'.d (by intro z; cases z)) sa' pv'
  repeat walk_at "gz"
  refine get_su B M₁.i M₁.d ⟨_, _, src_list rm' M₁.s, M₁.s, ?_⟩
  refine ForGo_inv (DnA σ ns m l ep p f so dx n2i r) ?_ ?_ ?_
  rotate_left 2
  · exact ⟨[], m.su, ns₁, l, rfl, rfl, by rw [pv₁]; rfl, T₁, er₁, lf₁, sa₁, ky₁, by walk_at "om", M₁.s, by walk_at "lk", by walk_at "lk"⟩
  · rintro v vs σ' loc' ⟨ds, is, ns', l', hr, hd, hf', T', er', lf', sa', ky', hz', em', l1, l2⟩
    cases is with
    | nil => simp at hr
    | cons j is =>
    rw [List.map_cons, List.cons.injEq] at hr
    obtain ⟨rfl, rfl⟩ := hr
    obtain ⟨m', hm', hmj⟩ : ∃ m' ∈ ns', m'.k = j := by
      have : j ∈ ns'.map (·.k) := by rw [ky']; exact hsu j (by rw [hd]; simp)
      exact List.mem_map.mp this
    have M' := T'.nods m' hm'
    repeat walk_at "gz"
    refine Sub_dict T'.n (v := .ref m'.ia) (by rw [← hmj]; exact look_of T'.keys hm') ?_
    repeat walk_at "gz"
    refine get_np B M'.i M'.d ?_
    repeat walk_at "gz"
    refine Op_isub ?_
    have hsub : m'.np - 1 = m'.np + (-1) := by walk_at "om"
    rw [hsub]
    refine set_np B M'.i M'.d ?_
    have T₂ := T'.setNp hm' (m'.np + (-1))
    have pv₂ := setNp_pv T'.keys hm' (-1)
    have ky₂ := np_keys (ns := ns') (k := m'.k) (v := m'.np + (-1))
    have sa₂ := np_sas (ns := ns') (k := m'.k) (v := m'.np + (-1))
    have hm₂ : ({ m' with np := m'.np + (-1) } : Nod) ∈ (ns'.map fun n => if n.k = m'.k then { n with np := m'.np + (-1) } else n) := List.mem_map.mpr ⟨m', hm', by simp⟩
    have M₂ := T₂.nods _ hm₂
    have lk₂ := pv_look T₂.keys hm₂
    have er₂ : upd σ' m'.ia (.inst 75 m'.dx [some (.int m'.k), some (.int (m'.np + (-1))), some (.ref m'.sa)]) r = some (.list (l'.map .int)) := upd_keep er' M'.i (by intro z; cases z)
    have lf₂ : LF σ (upd σ' m'.ia (.inst 75 m'.dx [some (.int m'.k), some (.int (m'.np + (-1))), some (.ref m'.sa)])) ns (.ref r) := lf'.upd_ia M'.i _
    have em₂ : upd σ' m'.ia (.inst 75 m'.dx [some (.int m'.k), some (.int (m'.np + (-1))), some (.ref m'.sa)]) m.sa = some (.list (m.su.map .int)) := upd_keep em' M'.i (by intro z; cases z)
    generalize (ns'.map fun n => if n.k = m'.k then { n with np := m'.np + (-1) } else n) = ns₂ at T₂ pv₂ ky₂ sa₂ hm₂ lk₂
    generalize upd σ' m'.ia (.inst 75 m'.dx [some (.int m'.k), some (.int (m'.np + (-1))), some (.ref m'.sa)]) = σ₂ at T₂ M₂ er₂ lf₂ em₂ ⊢
    have ht : tellP (ns'.map pv, l') j = (ns₂.map pv, if m'.np + (-1) = 0 then l' ++ [j] else l') := by
      unfold tellP
      simp only
      rw [← hmj, ← pv₂]
      have : ((ns₂.map pv).lookup m'.k).map (·.1) = some (m'.np + (-1)) := by rw [lk₂]; rfl
      rw [this]
      simp
    rw [List.foldl_cons, ht] at hf'
    repeat walk_at "gz"
    refine Ex_if ?_
    repeat walk_at "gz"
    refine get_np B M₂.i M₂.d ?_
    repeat walk_at "gz"
    refine Op_eq ⟨_, rfl, ?_⟩
    by_cases h0 : m'.np + (-1) = 0
    · have h0' : (m'.np + (-1) == 0) = true := by simpa using h0
      rw [h0']
      rw [if_pos h0] at hf'
      show Ex w hb A' _ _ _ _ _
      repeat walk_at "gz"
      refine Ev_meth1 ?_
      repeat walk_at "gz"
      refine s_rdy B T₂ ⟨_, Meth_append er₂, ?_⟩
      repeat walk_at "gz"
      refine Op_append er₂ (by rw [List.length_map, sizeLine]; simp at hz'; walk_at "om") ?_
      have e4 : l'.map V.int ++ [.int j] = (l' ++ [j]).map .int := by simp
      rw [e4]
      have T₃ := T₂.setRdy er₂ (l' ++ [j])
      have nr : r ∉ ns₂.map (·.sa) := by
        rcases T₂.rdy with h' | ⟨r', _, h', _, c⟩
        · cases h'
        · cases h'; exact c
      have hmr : m.sa ≠ r := fun z => nr (by rw [sa₂, sa', ← z]; exact List.mem_map_of_mem hm)
      repeat walk_at "gz"
      exact ⟨(upd_ne _ _ hmr).trans em₂, ds ++ [j], is, ns₂, l' ++ [j], rfl, by rw [hd]; simp, hf', T₃, upd_self _ _ _, fun a v e na nr' => by
        rw [upd_ne]
        · exact lf₂ a v e na nr'
        · exact fun z => nr' (by rw [z]), sa₂.trans sa', ky₂.trans ky', by simp at hz' ⊢; walk_at "om", (upd_ne _ _ hmr).trans em₂, by walk_at "lk", by walk_at "lk"⟩
    · have h0' : (m'.np + (-1) == 0) = false := by simpa using h0
      rw [h0']
      rw [if_neg h0] at hf'
      show Ex w hb A' _ _ _ _ _
      repeat walk_at "gz"
      exact ⟨em₂, ds ++ [j], is, ns₂, l', rfl, by rw [hd]; simp, hf', T₂, er₂, lf₂, sa₂.trans sa', ky₂.trans ky', by simp at hz' ⊢; walk_at "om", em₂, by walk_at "lk", by walk_at "lk"⟩
  · rintro σ' loc' ⟨ds, is, ns', l', hr, hd, hf', T', er', lf', sa', ky', hz', em', l1, l2⟩
    cases is with
    | cons j is => simp at hr
    | nil =>
    simp only [List.foldl_nil] at hf'
    repeat walk_at "gz"
    exact ⟨ns', rfl, T', by rw [← hf']; exact er', lf', sa', by rw [← hf'], l1⟩
end
end

section
open PySem PySem.W PyProof PyProof.Rows PySem.Calls PySem.Spec

/- a node on the stack: it, its iterator's place, how many of its successors were taken -/
structure Fm where
  n : Nod
  t : Addr
  c : Nat
noncomputable def unseen (ns : List Nod) (sn : List Int) : Nat := (ns.map fun n => if sn.contains n.k then 0 else n.su.length).sum
noncomputable def left (fs : List Fm) : Nat := (fs.map fun f => f.n.su.length - f.c).sum
theorem unseen_cons {ns : List Nod} (nd : (ns.map (·.k)).Nodup) {m : Nod} (hm : m ∈ ns) {sn : List Int} (h : sn.contains m.k = false) : unseen ns (m.k :: sn) + m.su.length = unseen ns sn := by
  unfold unseen
  induction ns with
  | nil => cases hm
  | cons q ns ih =>
    rw [List.map_cons, List.nodup_cons] at nd
    simp only [List.map_cons, List.sum_cons]
    rcases List.mem_cons.mp hm with hq | hm1
    · subst hq
      have e1 : ((m.k :: sn).contains m.k) = true := by simp
      rw [e1, h]
      have e2 : (ns.map fun n => if (m.k :: sn).contains n.k = true then 0 else n.su.length) = ns.map fun n => if sn.contains n.k = true then 0 else n.su.length := by
        apply List.map_congr_left
        intro n hn
        have hne : n.k ≠ m.k := fun z => nd.1 (by rw [← z]; exact List.mem_map_of_mem hn)
        have : (m.k :: sn).contains n.k = sn.contains n.k := by
          rw [List.contains_cons]
          have : (n.k == m.k) = false := by simpa using hne
          rw [this, Bool.false_or]
        rw [this]
      rw [e2]
      simp
      walk_at "om"
    · have := ih nd.2 hm1
      have hne : q.k ≠ m.k := fun z => nd.1 (by rw [z]; exact List.mem_map_of_mem hm1)
      have e : (m.k :: sn).contains q.k = sn.contains q.k := by
        rw [List.contains_cons]
        have : (q.k == m.k) = false := by simpa using hne
        rw [this, Bool.false_or]
      rw [e]
      walk_at "om"

/- the search's own things -/
structure Cyc (σ₀ σ : Hp) (ns : List Nod) (ρ : Int → Nat) (aS aI aE aD : Addr) (fs : List Fm) (sn : List Int) : Prop where
  g : Gr σ₀ σ
  st : σ aS = some (.list (fs.map fun f => .int f.n.k))
  it : σ aI = some (.list (fs.map fun f => .mw f.t))
  se : σ aE = some (.set sn)
  nd : ∃ kvs ep, σ aD = some (.dict kvs ep) ∧ kvs.map (·.1) = fs.map (·.n.k)
  fresh : σ₀ aS = none ∧ σ₀ aI = none ∧ σ₀ aE = none ∧ σ₀ aD = none ∧ aS ≠ aI
  nn : aD ≠ sysModules
  fr : ∀ f ∈ fs, f.n ∈ ns ∧ σ f.t = some (.liter f.n.sa f.c) ∧ σ₀ f.t = none ∧ f.n.k ∈ sn
  ts : (fs.map (·.t)).Nodup
  rk : fs.Pairwise fun a b => ρ a.n.k < ρ b.n.k
  sz : fs.length ≤ sn.length ∧ sn.length ≤ ns.length ∧ sn.Nodup ∧ ∀ k ∈ sn, k ∈ ns.map (·.k)

theorem lookup_keys {k : Int} : ∀ {kvs : List (Int × V)}, (kvs.lookup k).isSome = true ↔ k ∈ kvs.map (·.1)
  | [] => by simp
  | (x, v) :: r => by
    rw [List.lookup_cons]
    by_cases h : k = x
    · subst h; simp
    · have : (k == x) = false := by simpa using h
      rw [this]
      simp only [List.map_cons, List.mem_cons, h, false_or]
      exact lookup_keys
theorem nodup_len : ∀ {l k : List Int}, l.Nodup → (∀ x ∈ l, x ∈ k) → l.length ≤ k.length
  | [], k, _, _ => by simp
  | x :: l, k, nd, h => by
    rw [List.nodup_cons] at nd
    have hx := h x (by simp)
    have := nodup_len (k := k.erase x) nd.2 fun y hy => by
      have hne : y ≠ x := fun z => nd.1 (z ▸ hy)
      exact (List.mem_erase_of_ne hne).mpr (h y (by simp [hy]))
    rw [List.length_erase_of_mem hx] at this
    have : 0 < k.length := List.length_pos_of_mem hx
    simp; walk_at "om"
theorem kindne {σ : Hp} {a b : Addr} {o p : O} (e : σ a = some o) (f : σ b = some p) (h : o ≠ p) : a ≠ b := fun z => by subst z; rw [e] at f; cases f; exact h rfl
theorem putK_keys {k : Int} {v : V} {kvs : List (Int × V)} (h : k ∉ kvs.map (·.1)) : (putK k v kvs).map (·.1) = kvs.map (·.1) ++ [k] := by
  unfold putK
  rw [if_neg]
  · simp
  · rw [Bool.not_eq_true, List.any_eq_false]
    intro q hq
    simp only [decide_eq_true_eq]
    exact fun z => h (by rw [← z]; exact List.mem_map_of_mem hq)
theorem Cyc.push {σ₀ σ : Hp} {ns : List Nod} {ρ : Int → Nat} {aS aI aE aD D : Addr} {fs : List Fm} {sn : List Int} (C : Cyc σ₀ σ ns ρ aS aI aE aD fs sn) {m : Nod} (hm : m ∈ ns) (hc : sn.contains m.k = false) (hrk : ∀ f ∈ fs, ρ f.n.k < ρ m.k) (hlen : (m.k :: sn).length ≤ ns.length)
    {kvs : List (Int × V)} {ep ep' : Nat} {v : V} (eD : σ aD = some (.dict kvs ep)) (kD : kvs.map (·.1) = fs.map (·.n.k)) (hD : σ D = none) :
    Cyc σ₀ (upd (upd (upd (upd (upd σ aE (.set (m.k :: sn))) D (.liter m.sa 0)) aI (.list ((fs ++ [Fm.mk m D 0]).map fun f => .mw f.t))) aD (.dict (putK m.k v kvs) ep')) aS (.list ((fs ++ [Fm.mk m D 0]).map fun f => .int f.n.k))) ns ρ aS aI aE aD (fs ++ [⟨m, D, 0⟩]) (m.k :: sn) := by
  obtain ⟨f1, f2, f3, f4, hSI⟩ := C.fresh
  have hES : aE ≠ aS := kindne C.se C.st (by intro z; cases z)
  have hEI : aE ≠ aI := kindne C.se C.it (by intro z; cases z)
  have hDS : aD ≠ aS := kindne eD C.st (by intro z; cases z)
  have hDI : aD ≠ aI := kindne eD C.it (by intro z; cases z)
  have hDE : aD ≠ aE := kindne eD C.se (by intro z; cases z)
  have nS : D ≠ aS := fun z => by rw [z, C.st] at hD; cases hD
  have nI : D ≠ aI := fun z => by rw [z, C.it] at hD; cases hD
  have nE : D ≠ aE := fun z => by rw [z, C.se] at hD; cases hD
  have nD : D ≠ aD := fun z => by rw [z, eD] at hD; cases hD
  have s0 : σ₀ D = none := C.g.noneAt hD
  have hnk : m.k ∉ fs.map (·.n.k) := fun z => by
    obtain ⟨f, hf, e⟩ := List.mem_map.mp z
    have := hrk f hf
    have e' : f.n.k = m.k := e
    rw [e'] at this; walk_at "om"
  have oth : ∀ a, a ≠ aE → a ≠ D → a ≠ aI → a ≠ aD → a ≠ aS → ∀ o1 o2 o3 o4 o5, upd (upd (upd (upd (upd σ aE o1) D o2) aI o3) aD o4) aS o5 a = σ a := fun a h1 h2 h3 h4 h5 o1 o2 o3 o4 o5 => by
    rw [upd_ne _ _ h5, upd_ne _ _ h4, upd_ne _ _ h3, upd_ne _ _ h2, upd_ne _ _ h1]
  refine ⟨((((C.g.upd f3 _).upd s0 _).upd f2 _).upd f4 _).upd f1 _, upd_self _ _ _, ?_, ?_, ⟨_, _, (upd_ne _ _ hDS).trans (upd_self _ _ _), by rw [putK_keys (by rw [kD]; exact hnk), kD]; simp⟩, C.fresh, C.nn, fun f hf => ?_, ?_, ?_, ?_⟩
  · rw [upd_ne _ _ (Ne.symm hSI), upd_ne _ _ (Ne.symm hDI), upd_self]
  · rw [upd_ne _ _ hES, upd_ne _ _ (Ne.symm hDE), upd_ne _ _ hEI, upd_ne _ _ (Ne.symm nE), upd_self]
  · rcases List.mem_append.mp hf with hf | hf
    · obtain ⟨g1, g2, g3, g4⟩ := C.fr f hf
      refine ⟨g1, ?_, g3, List.mem_cons_of_mem _ g4⟩
      rw [oth f.t (kindne g2 C.se (by intro z; cases z)) (fun z => by rw [z, hD] at g2; cases g2) (kindne g2 C.it (by intro z; cases z)) (kindne g2 eD (by intro z; cases z)) (kindne g2 C.st (by intro z; cases z))]
      exact g2
    · simp at hf; subst hf
      refine ⟨hm, ?_, s0, by simp⟩
      rw [upd_ne _ _ nS, upd_ne _ _ nD, upd_ne _ _ nI, upd_self]
  · rw [List.map_append, List.nodup_append]
    refine ⟨C.ts, by simp, fun a ha b hb' => ?_⟩
    simp at hb'; subst hb'
    obtain ⟨f, hf, rfl⟩ := List.mem_map.mp ha
    intro z
    have := (C.fr f hf).2.1; rw [z, hD] at this; cases this
  · rw [List.pairwise_append]
    exact ⟨C.rk, by simp, fun a ha b hb' => by simp at hb'; subst hb'; exact hrk a ha⟩
  · refine ⟨?_, hlen, ?_, fun q hq => ?_⟩
    · have := C.sz.1; simp; walk_at "om"
    · rw [List.nodup_cons]
      exact ⟨fun z => (by rw [List.contains_iff_mem.mpr z] at hc; cases hc), C.sz.2.2.1⟩
    · rcases List.mem_cons.mp hq with rfl | hq
      · exact List.mem_map_of_mem hm
      · exact C.sz.2.2.2 q hq
theorem Cyc.step {σ₀ σ : Hp} {ns : List Nod} {ρ : Int → Nat} {aS aI aE aD : Addr} {fs : List Fm} {top : Fm} {sn : List Int} (C : Cyc σ₀ σ ns ρ aS aI aE aD (fs ++ [top]) sn) :
    Cyc σ₀ (upd σ top.t (.liter top.n.sa (top.c + 1))) ns ρ aS aI aE aD (fs ++ [⟨top.n, top.t, top.c + 1⟩]) sn := by
  obtain ⟨t1, t2, t3, t4⟩ := C.fr top (by simp)
  have kk : ∀ {a : Addr} {o : O}, σ a = some o → (∀ l i, o ≠ .liter l i) → ∀ o', upd σ top.t o' a = some o := fun e h o' => upd_keep e t2 (h _ _)
  obtain ⟨kvs, ep, eD, kD⟩ := C.nd
  have ts := C.ts
  rw [List.map_append, List.nodup_append] at ts
  refine ⟨C.g.upd t3 _, ?_, ?_, kk C.se (by intro _ _ z; cases z) _, ⟨kvs, ep, kk eD (by intro _ _ z; cases z) _, by rw [kD]; simp⟩, C.fresh, C.nn, fun f hf => ?_, ?_, ?_, ?_⟩
  · have := kk C.st (by intro _ _ z; cases z) (.liter top.n.sa (top.c + 1)); simpa using this
  · have := kk C.it (by intro _ _ z; cases z) (.liter top.n.sa (top.c + 1)); simpa using this
  · rcases List.mem_append.mp hf with hf | hf
    · obtain ⟨g1, g2, g3, g4⟩ := C.fr f (by simp [hf])
      have hne : f.t ≠ top.t := ts.2.2 f.t (List.mem_map_of_mem hf) top.t (by simp)
      exact ⟨g1, (upd_ne _ _ hne).trans g2, g3, g4⟩
    · simp at hf; subst hf
      exact ⟨t1, upd_self _ _ _, t3, t4⟩
  · have := C.ts; simpa using this
  · have := C.rk
    rw [List.pairwise_append] at this ⊢
    refine ⟨this.1, by simp, fun a ha b hb' => ?_⟩
    simp at hb'; subst hb'
    exact this.2.2 a ha top (by simp)
  · have := C.sz; simpa using this
theorem dropK_keys {k : Int} : ∀ {kvs : List (Int × V)} {l : List Int}, kvs.map (·.1) = l ++ [k] → k ∉ l → (dropK k kvs).map (·.1) = l
  | [], l, h, _ => by simp at h
  | (x, v) :: r, [], h, _ => by
    simp at h
    obtain ⟨rfl, rfl⟩ := h
    simp [dropK]
  | (x, v) :: r, y :: l, h, hn => by
    rw [List.map_cons, List.cons_append, List.cons.injEq] at h
    obtain ⟨h1, h2⟩ := h
    have h1' : x = y := h1
    subst h1'
    simp only [List.mem_cons, not_or] at hn
    have ih := dropK_keys h2 hn.2
    unfold dropK at ih ⊢
    rw [List.filter_cons, if_pos (by simpa using Ne.symm hn.1), List.map_cons, ih]
theorem Cyc.pop {σ₀ σ : Hp} {ns : List Nod} {ρ : Int → Nat} {aS aI aE aD : Addr} {fs : List Fm} {top : Fm} {sn : List Int} (C : Cyc σ₀ σ ns ρ aS aI aE aD (fs ++ [top]) sn)
    {kvs : List (Int × V)} {ep ep' : Nat} (eD : σ aD = some (.dict kvs ep)) (kD : kvs.map (·.1) = (fs ++ [top]).map (·.n.k)) :
    Cyc σ₀ (upd (upd (upd (fgt σ top.t) aS (.list (fs.map fun f => V.int f.n.k))) aD (.dict (dropK top.n.k kvs) ep')) aI (.list (fs.map fun f => V.mw f.t))) ns ρ aS aI aE aD fs sn := by
  obtain ⟨t1, t2, t3, t4⟩ := C.fr top (by simp)
  obtain ⟨f1, f2, f3, f4, hSI⟩ := C.fresh
  have hES : aE ≠ aS := kindne C.se C.st (by intro z; cases z)
  have hEI : aE ≠ aI := kindne C.se C.it (by intro z; cases z)
  have hDS : aD ≠ aS := kindne eD C.st (by intro z; cases z)
  have hDI : aD ≠ aI := kindne eD C.it (by intro z; cases z)
  have hDE : aD ≠ aE := kindne eD C.se (by intro z; cases z)
  have nE : aE ≠ top.t := kindne C.se t2 (by intro z; cases z)
  have ts := C.ts
  rw [List.map_append, List.nodup_append] at ts
  have rk := C.rk
  rw [List.pairwise_append] at rk
  have gf : Gr σ₀ (fgt σ top.t) := fun a o e => by
    rw [fgt_ne _ (fun z => by rw [z, t3] at e; cases e)]; exact C.g a o e
  have hnk : top.n.k ∉ fs.map (·.n.k) := fun z => by
    obtain ⟨f, hf, e⟩ := List.mem_map.mp z
    have := rk.2.2 f hf top (by simp)
    have e' : f.n.k = top.n.k := e
    rw [e'] at this; walk_at "om"
  refine ⟨((gf.upd f1 _).upd f4 _).upd f2 _, ?_, upd_self _ _ _, ?_, ⟨_, _, (upd_ne _ _ hDI).trans (upd_self _ _ _), dropK_keys (by rw [kD]; simp) hnk⟩, C.fresh, C.nn, fun f hf => ?_, ts.1, rk.1, ?_⟩
  · rw [upd_ne _ _ hSI, upd_ne _ _ (Ne.symm hDS), upd_self]
  · rw [upd_ne _ _ hEI, upd_ne _ _ (Ne.symm hDE), upd_ne _ _ hES, fgt_ne _ nE]; exact C.se
  · obtain ⟨g1, g2, g3, g4⟩ := C.fr f (by simp [hf])
    have hne : f.t ≠ top.t := ts.2.2 f.t (List.mem_map_of_mem hf) top.t (by simp)
    refine ⟨g1, ?_, g3, g4⟩
    rw [upd_ne _ _ (kindne g2 C.it (by intro z; cases z)), upd_ne _ _ (kindne g2 eD (by intro z; cases z)), upd_ne _ _ (kindne g2 C.st (by intro z; cases z)), fgt_ne _ hne]
    exact g2
  · have := C.sz; exact ⟨by have := C.sz.1; simp at this; walk_at "om", C.sz.2⟩
section
variable {w : World} {hb : Base} {A : Around} {env : Env} {σ : Hp} {loc : Loc}
theorem Ev_neg {i : Int} {k : Nat} {pos pos' : Pos} {Q : V → Hp → Loc → Prop} (h : Q (.int (-i)) σ loc) : Ev w hb A env (eval (.UnaryOp .USub (.Constant (.int i) k pos) pos') env) σ loc Q := fun s P E R F H =>
  UnaryOp_ (wpAny_Constant_int (neg_int (H _ _ _ _ s.heap _ h R F (.int _ _) St.same)))
end
section
variable {w : World} {hb : Base} {A : Around} {σ : Hp}
noncomputable abbrev CyA (σ : Hp) (ns : List Nod) (ρ : Int → Nat) (aS aI aE aD n2i : Addr) (rest : List V) (σ' : Hp) (loc' : Loc) : Prop := ∃ (ks : List Int) (sn : List Int), C8 (rest = ks.map .int) (∀ k ∈ ks, k ∈ ns.map (·.k)) (Cyc σ σ' ns ρ aS aI aE aD [] sn) (loc'.lookup (S "n2i") = some (.ref n2i)) (loc'.lookup (S "stack") = some (.ref aS)) (loc'.lookup (S "itstack") = some (.ref aI)) (loc'.lookup (S "seen") = some (.ref aE)) (loc'.lookup (S "node2stacki") = some (.ref aD))
noncomputable abbrev CyR (σ : Hp) (ns : List Nod) (ρ : Int → Nat) (aS aI aE aD n2i : Addr) (fl : Fl) (σ₃ : Hp) (loc₃ : Loc) : Prop := fl = Fl.next ∧ ∃ sn', C6 (Cyc σ σ₃ ns ρ aS aI aE aD [] sn') (loc₃.lookup (S "n2i") = some (.ref n2i)) (loc₃.lookup (S "stack") = some (.ref aS)) (loc₃.lookup (S "itstack") = some (.ref aI)) (loc₃.lookup (S "seen") = some (.ref aE)) (loc₃.lookup (S "node2stacki") = some (.ref aD))
noncomputable abbrev CyW (σ : Hp) (ns : List Nod) (ρ : Int → Nat) (aS aI aE aD n2i : Addr) (mm : Nat) (σ₃ : Hp) (loc₃ : Loc) : Prop := ∃ (k : Int) (fs : List Fm) (sn : List Int), C10 (k ∈ ns.map (·.k)) (Cyc σ σ₃ ns ρ aS aI aE aD fs sn) (∀ f ∈ fs, ρ f.n.k < ρ k) (mm = unseen ns sn + left fs) (loc₃.lookup (S "node") = some (.int k)) (loc₃.lookup (S "n2i") = some (.ref n2i)) (loc₃.lookup (S "stack") = some (.ref aS)) (loc₃.lookup (S "itstack") = some (.ref aI)) (loc₃.lookup (S "seen") = some (.ref aE)) (loc₃.lookup (S "node2stacki") = some (.ref aD))
noncomputable abbrev CyS (σ : Hp) (ns : List Nod) (ρ : Int → Nat) (aS aI aE aD n2i : Addr) (fs : List Fm) (sn sn' : List Int) (fl : Fl) (σ₅ : Hp) (loc₅ : Loc) : Prop := C6 ((fl = Fl.next ∧ ∃ (k' : Int) (fs'' : List Fm), k' ∈ ns.map (·.k) ∧ Cyc σ σ₅ ns ρ aS aI aE aD fs'' sn' ∧ (∀ f ∈ fs'', ρ f.n.k < ρ k') ∧ unseen ns sn' + left fs'' < unseen ns sn + left fs ∧ loc₅.lookup (S "node") = some (.int k')) ∨ (fl = Fl.brk ∧ Cyc σ σ₅ ns ρ aS aI aE aD [] sn')) (loc₅.lookup (S "n2i") = some (.ref n2i)) (loc₅.lookup (S "stack") = some (.ref aS)) (loc₅.lookup (S "itstack") = some (.ref aI)) (loc₅.lookup (S "seen") = some (.ref aE)) (loc₅.lookup (S "node2stacki") = some (.ref aD))
noncomputable abbrev CyV (σ : Hp) (ns : List Nod) (ρ : Int → Nat) (aS aI aE aD n2i : Addr) (fs : List Fm) (sn sn' : List Int) (q : Nat) (σ₅ : Hp) (loc₅ : Loc) : Prop := ∃ fs'' : List Fm, C8 (q = fs''.length) (Cyc σ σ₅ ns ρ aS aI aE aD fs'' sn') (unseen ns sn' + left fs'' = unseen ns sn + left fs) (loc₅.lookup (S "n2i") = some (.ref n2i)) (loc₅.lookup (S "stack") = some (.ref aS)) (loc₅.lookup (S "itstack") = some (.ref aI)) (loc₅.lookup (S "seen") = some (.ref aE)) (loc₅.lookup (S "node2stacki") = some (.ref aD))
theorem cycle_call (B : Bs w hb.h) {n : Nat} (rm : Rm hb (n + 1) A) {so dx n2i : Addr} {ep : Nat} {ns : List Nod} {rd : V} {p f : Int} {Q : V → Hp → Prop} (T : Srt σ so dx n2i ep ns rd p f) (ρ : Int → Nat) (hac : ∀ n ∈ ns, ∀ j ∈ n.su, j ∈ ns.map (·.k) ∧ ρ n.k < ρ j) (hz : ns.length ≤ 50)
    (h : ∀ σ', Gr σ σ' → Q .none σ') : OpN w hb A [.ref so] (fun as => call (.ref 162) as) σ Q := by
  refine call_fn B (n := n) (names := [S "self"]) rm rfl rfl rfl rfl rfl ?_ rfl rfl (by decide) (by decide) ?_
  · exact of_len1 fun _ => rfl
  intro hb L A' hh hfr B rm'
  repeat walk_at "gz"
  refine s_n2i B T ?_
  repeat walk_at "gz"
  refine ⟨by decide, fun aS hS hS' => ?_⟩
  repeat walk_at "gz"
  refine ⟨by decide, fun aI hI hI' => ?_⟩
  repeat walk_at "gz"
  refine Ev_callT0 ?_
  repeat walk_at "gz"
  refine ⟨_, rfl, ?_⟩
  refine Op_newset fun aE hE hE' => ?_
  repeat walk_at "gz"
  refine Ev_Dict0 B fun aD hD hD' nD => ?_
  have hSI : aI ≠ aS := fun z => by rw [z, upd_self] at hI; cases hI
  have sI : σ aI = none := by rw [upd_ne _ _ hSI] at hI; exact hI
  have hES : aE ≠ aS := fun z => by rw [z, upd_ne _ _ (Ne.symm hSI), upd_self] at hE; cases hE
  have hEI : aE ≠ aI := fun z => by rw [z, upd_self] at hE; cases hE
  have sE : σ aE = none := by rw [upd_ne _ _ hEI, upd_ne _ _ hES] at hE; exact hE
  have hDE : aD ≠ aE := fun z => by rw [z, upd_self] at hD; cases hD
  have hDI : aD ≠ aI := fun z => by rw [z, upd_ne _ _ (Ne.symm hEI), upd_self] at hD; cases hD
  have hDS : aD ≠ aS := fun z => by rw [z, upd_ne _ _ (Ne.symm hES), upd_ne _ _ (Ne.symm hSI), upd_self] at hD; cases hD
  have sD : σ aD = none := by rw [upd_ne _ _ hDE, upd_ne _ _ hDI, upd_ne _ _ hDS] at hD; exact hD
  have C0 : Cyc σ (upd (upd (upd (upd σ aS (.list [])) aI (.list [])) aE (.set [])) aD (.dict [] 0)) ns ρ aS aI aE aD [] [] := by
    refine ⟨((((Gr.refl σ).upd hS _).upd sI _).upd sE _).upd sD _, ?_, ?_, ?_, ⟨[], 0, upd_self _ _ _, rfl⟩, ⟨hS, sI, sE, sD, Ne.symm hSI⟩, nD, by simp, by simp, by simp, by simp⟩
    · rw [upd_ne _ _ (Ne.symm hDS), upd_ne _ _ (Ne.symm hES), upd_ne _ _ (Ne.symm hSI), upd_self]; rfl
    · rw [upd_ne _ _ (Ne.symm hDI), upd_ne _ _ (Ne.symm hEI), upd_self]; rfl
    · rw [upd_ne _ _ (Ne.symm hDE), upd_self]
  generalize upd (upd (upd (upd σ aS (.list [])) aI (.list [])) aE (.set [])) aD (.dict [] 0) = σ₁ at C0 ⊢
  repeat walk_at "gz"
  refine Ex_for (It_src ?_)
  repeat walk_at "gz"
  refine ⟨_, _, src_dict rm' T.ne (C0.g _ _ T.n), C0.g _ _ T.n, ?_⟩
  have LOC : Loc → Prop := fun loc' => loc'.lookup (S "n2i") = some (.ref n2i) ∧ loc'.lookup (S "stack") = some (.ref aS) ∧ loc'.lookup (S "itstack") = some (.ref aI) ∧ loc'.lookup (S "seen") = some (.ref aE) ∧ loc'.lookup (S "node2stacki") = some (.ref aD)
  refine ForGo_inv (CyA σ ns ρ aS aI aE aD n2i) ?_ ?_ ?_
  rotate_left 2
  · exact ⟨ns.map (·.k), [], by simp, fun _ h => h, C0, by walk_at "lk", by walk_at "lk", by walk_at "lk", by walk_at "lk", by walk_at "lk"⟩
  · rintro v vs σ' loc' ⟨ks, sn, hr, hks, C, l1, l2, l3, l4, l5⟩
    cases ks with
    | nil => simp at hr
    | cons k ks =>
    rw [List.map_cons, List.cons.injEq] at hr
    obtain ⟨rfl, rfl⟩ := hr
    have hk := hks k (by simp)
    have hks' : ∀ j ∈ ks, j ∈ ns.map (·.k) := fun j hj => hks j (by simp [hj])
    repeat walk_at "gz"
    refine Tr.mono (Ex_if (R := fun fl σ₂ loc₂ => C8 (fl = .cont ∨ fl = .next) (σ₂ = σ') (loc₂.lookup (S "node") = some (.int k)) (loc₂.lookup (S "n2i") = some (.ref n2i)) (loc₂.lookup (S "stack") = some (.ref aS)) (loc₂.lookup (S "itstack") = some (.ref aI)) (loc₂.lookup (S "seen") = some (.ref aE)) (loc₂.lookup (S "node2stacki") = some (.ref aD))) ?_) ?_
    · repeat walk_at "gz"
      refine Op_inS C.se ⟨_, rfl, ?_⟩
      cases sn.contains k with
      | true =>
        show Ex w hb A' _ _ _ _ _
        repeat walk_at "gz"
        exact ⟨.inl rfl, rfl, by walk_at "lk", by walk_at "lk", by walk_at "lk", by walk_at "lk", by walk_at "lk", by walk_at "lk"⟩
      | false =>
        show Ex w hb A' _ _ _ _ _
        repeat walk_at "gz"
        exact ⟨.inr rfl, rfl, by walk_at "lk", by walk_at "lk", by walk_at "lk", by walk_at "lk", by walk_at "lk", by walk_at "lk"⟩
    rintro fl σ₂ loc₂ ⟨hfl, rfl, l0, l1, l2, l3, l4, l5⟩
    rcases hfl with rfl | rfl
    · exact ⟨C.g _ _ T.n, ks, sn, rfl, hks', C, l1, l2, l3, l4, l5⟩
    repeat walk_at "gz"
    refine Tr.mono (Ex_while (R := CyR σ ns ρ aS aI aE aD n2i)
      (CyW σ ns ρ aS aI aE aD n2i) ?_ _ ⟨k, [], sn, hk, C, by simp, rfl, l0, l1, l2, l3, l4, l5⟩) ?_
    rotate_left
    · rintro fl σ₃ loc₃ ⟨rfl, sn', C', m1, m2, m3, m4, m5⟩
      repeat walk_at "gz"
      exact ⟨C'.g _ _ T.n, ks, sn', rfl, hks', C', m1, m2, m3, m4, m5⟩
    · rintro mm σ₃ loc₃ ⟨k, fs, sn, hk, C, hrk, rfl, l0, l1, l2, l3, l4, l5⟩
      obtain ⟨m, hm, rfl⟩ := List.mem_map.mp hk
      obtain ⟨kvs, epd, eD, kD⟩ := C.nd
      have hnk : m.k ∉ fs.map (·.n.k) := fun z => by
        obtain ⟨f, hf, e⟩ := List.mem_map.mp z
        have := hrk f hf
        have e' : f.n.k = m.k := e
        rw [e'] at this; walk_at "om"
      refine EvB_value (Ev_bool (OpB_bool ?_))
      show Ex w hb A' _ _ _ _ _
      repeat walk_at "gz"
      refine Tr.mono (Ex_if (R := fun fl σ₄ loc₄ => fl = .next ∧ ∃ fs' sn', C7 (Cyc σ σ₄ ns ρ aS aI aE aD fs' sn') (unseen ns sn' + left fs' = unseen ns sn + left fs) (loc₄.lookup (S "n2i") = some (.ref n2i)) (loc₄.lookup (S "stack") = some (.ref aS)) (loc₄.lookup (S "itstack") = some (.ref aI)) (loc₄.lookup (S "seen") = some (.ref aE)) (loc₄.lookup (S "node2stacki") = some (.ref aD))) ?_) ?_
      · repeat walk_at "gz"
        refine Op_inS C.se ⟨_, rfl, ?_⟩
        cases hc : sn.contains m.k with
        | true =>
          show Ex w hb A' _ _ _ _ _
          repeat walk_at "gz"
          refine Ex_if ?_
          repeat walk_at "gz"
          refine Op_inD eD C.nn ⟨_, rfl, ?_⟩
          have : (kvs.lookup m.k).isSome = false := by
            rw [Bool.eq_false_iff]
            intro z
            exact hnk (by rw [← kD]; exact lookup_keys.mp z)
          rw [this]
          show Ex w hb A' _ _ _ _ _
          repeat walk_at "gz"
          exact ⟨rfl, fs, sn, C, rfl, l1, l2, l3, l4, l5⟩
        | false =>
          show Ex w hb A' _ _ _ _ _
          repeat walk_at "gz"
          refine Ev_meth1 ?_
          repeat walk_at "gz"
          refine ⟨_, Meth_sadd C.se, ?_⟩
          repeat walk_at "gz"
          refine Op_sadd C.se (by have := C.sz.2.1; walk_at "om") hc ?_
          have eE : ∀ {a : Addr} {o : O}, σ₃ a = some o → (∀ l, o ≠ .set l) → upd σ₃ aE (.set (m.k :: sn)) a = some o := fun e h => upd_keep e C.se (h _)
          have M := (T.nods m hm).grow C.g
          repeat walk_at "gz"
          refine Ev_meth1 ?_
          repeat walk_at "gz"
          refine ⟨_, Meth_append (eE C.it (by intro _ z; cases z)), ?_⟩
          refine EvL_cons (Ev_iternext B (bn_iter w) ?_ rfl)
          repeat walk_at "gz"
          refine Sub_dict (eE (C.g _ _ T.n) (by intro _ z; cases z)) (v := .ref m.ia) (look_of T.keys hm) ?_
          refine get_su B (eE M.i (by intro _ z; cases z)) (eE M.d (by intro _ z; cases z)) ⟨m.sa, _, rfl, eE M.s (by intro _ z; cases z), fun D hD hD' => ?_⟩
          have nE : D ≠ aE := fun z => by rw [z, upd_self] at hD; cases hD
          have sD : σ₃ D = none := by rw [upd_ne _ _ nE] at hD; exact hD
          have nI : aI ≠ D := fun z => by rw [← z, C.it] at sD; cases sD
          have nS : aS ≠ D := fun z => by rw [← z, C.st] at sD; cases sD
          have nD : aD ≠ D := fun z => by rw [← z, eD] at sD; cases sD
          have hEI : aI ≠ aE := kindne C.it C.se (by intro z; cases z)
          have hES : aS ≠ aE := kindne C.st C.se (by intro z; cases z)
          have hED : aD ≠ aE := kindne eD C.se (by intro z; cases z)
          have hDI : aD ≠ aI := kindne eD C.it (by intro z; cases z)
          have hDS : aD ≠ aS := kindne eD C.st (by intro z; cases z)
          have hSI := C.fresh.2.2.2.2
          repeat walk_at "gz"
          refine Op_append ((upd_ne _ _ nI).trans (eE C.it (by intro _ z; cases z))) (by have := C.sz.1; have := C.sz.2.1; rw [List.length_map, sizeLine]; walk_at "om") ?_
          repeat walk_at "gz"
          refine Ev_call B ?_
          repeat walk_at "gz"
          refine Op_len ((upd_ne _ _ hSI).trans ((upd_ne _ _ nS).trans (eE C.st (by intro _ z; cases z)))) (by have := C.sz.1; have := C.sz.2.1; rw [List.length_map]; walk_at "om") ?_
          repeat walk_at "gz"
          refine OpS_dict ((upd_ne _ _ hDI).trans ((upd_ne _ _ nD).trans (eE eD (by intro _ z; cases z)))) (by have e1 := congrArg List.length kD; have := C.sz.1; have := C.sz.2.1; simp at e1; walk_at "om") fun ep' => ?_
          repeat walk_at "gz"
          refine Ev_meth1 ?_
          repeat walk_at "gz"
          refine ⟨_, Meth_append ((upd_ne _ _ (Ne.symm hDS)).trans ((upd_ne _ _ hSI).trans ((upd_ne _ _ nS).trans (eE C.st (by intro _ z; cases z))))), ?_⟩
          repeat walk_at "gz"
          refine Op_append ((upd_ne _ _ (Ne.symm hDS)).trans ((upd_ne _ _ hSI).trans ((upd_ne _ _ nS).trans (eE C.st (by intro _ z; cases z))))) (by have := C.sz.1; have := C.sz.2.1; rw [List.length_map, sizeLine]; walk_at "om") ?_
          repeat walk_at "gz"
          have hl : (m.k :: sn).length ≤ ns.length := by
            have := nodup_len (l := m.k :: sn) (k := ns.map (·.k)) (by rw [List.nodup_cons]; exact ⟨fun z => (by rw [List.contains_iff_mem.mpr z] at hc; cases hc), C.sz.2.2.1⟩) (fun q hq => by
              rcases List.mem_cons.mp hq with rfl | hq
              · exact List.mem_map_of_mem hm
              · exact C.sz.2.2.2 q hq)
            rwa [List.length_map] at this
          have CP := C.push hm hc hrk hl (ep' := ep') (v := .int ((fs.map fun f => V.int f.n.k).length : Nat)) eD kD sD
          have e1 : (fs.map fun f => V.mw f.t) ++ [V.mw D] = (fs ++ [Fm.mk m D 0]).map fun f => .mw f.t := by simp
          have e2 : (fs.map fun f => V.int f.n.k) ++ [V.int m.k] = (fs ++ [Fm.mk m D 0]).map fun f => .int f.n.k := by simp
          rw [e1, e2]
          refine ⟨rfl, _, _, CP, ?_, l1, l2, l3, l4, l5⟩
          have := unseen_cons T.keys hm hc
          unfold left
          rw [List.map_append, List.sum_append]
          simp
          walk_at "om"
      · rintro fl σ₄ loc₄ ⟨rfl, fs', sn', C', hmeas, m1, m2, m3, m4, m5⟩
        repeat walk_at "gz"
        refine Tr.mono (Ex_while (R := CyS σ ns ρ aS aI aE aD n2i fs sn sn')
          (CyV σ ns ρ aS aI aE aD n2i fs sn sn') ?_ _ ⟨fs', rfl, C', hmeas, m1, m2, m3, m4, m5⟩) ?_
        rotate_left
        · rintro fl σ₅ loc₅ ⟨hq, q1, q2, q3, q4, q5⟩
          rcases hq with ⟨rfl, k', fs'', hk', C'', hrk'', hlt, q0⟩ | ⟨rfl, C''⟩
          · repeat walk_at "gz"
            exact ⟨_, hlt, k', fs'', sn', hk', C'', hrk'', rfl, q0, q1, q2, q3, q4, q5⟩
          · repeat walk_at "gz"
            exact ⟨rfl, sn', C'', q1, q2, q3, q4, q5⟩
        · rintro q σ₅ loc₅ ⟨fs'', rfl, C'', hme, q1, q2, q3, q4, q5⟩
          repeat walk_at "gz"
          refine OpB_list C''.st (by have := C''.sz.1; have := C''.sz.2.1; rw [List.length_map]; walk_at "om") ?_
          rcases List.eq_nil_or_concat fs'' with rfl | ⟨fs3, top, rfl⟩
          · show Ex w hb A' _ _ _ _ _
            repeat walk_at "gz"
            exact ⟨.inr ⟨rfl, C''⟩, q1, q2, q3, q4, q5⟩
          · have hne : (!((fs3.concat top).map fun f => V.int f.n.k).isEmpty) = true := by simp
            rw [hne]
            rw [List.concat_eq_append] at *
            show Ex w hb A' _ _ _ _ _
            obtain ⟨t1, t2, t3, t4⟩ := C''.fr top (by simp)
            have MT := (T.nods _ t1).grow C''.g
            repeat walk_at "gz"
            refine Ex_trynext B rm' hfr rfl (bn_stop w) ?_ rfl
            repeat walk_at "gz"
            refine Ev_neg ?_
            refine Sub_listN (vs := (fs3 ++ [top]).map fun f => V.mw f.t) C''.it (by decide) (by simp; walk_at "om") (x := .mw top.t) (by
              have e9 : ((-1 : Int) + (((fs3 ++ [top]).map fun f => V.mw f.t).length : Nat)).toNat = fs3.length := by simp; walk_at "om"
              rw [e9]; simp) ?_ (by decide)
            refine ⟨top.t, top.n.sa, top.c, top.n.su.map .int, rfl, t2, MT.s, fun v hv => ?_, fun hvn A'' => ?_⟩
            · rw [List.getElem?_map] at hv
              obtain ⟨j, hj, rfl⟩ := Option.map_eq_some_iff.mp hv
              have hjs := List.mem_of_getElem? hj
              obtain ⟨hjk, hjr⟩ := hac top.n t1 j hjs
              have hlt := (List.getElem?_eq_some_iff.mp hj).1
              repeat walk_at "gz"
              refine ⟨.inl ⟨rfl, j, fs3 ++ [⟨top.n, top.t, top.c + 1⟩], hjk, ?_, ?_, ?_, by walk_at "lk"⟩, by walk_at "lk", by walk_at "lk", by walk_at "lk", by walk_at "lk", by walk_at "lk"⟩
              · exact C''.step
              · intro f hf
                rcases List.mem_append.mp hf with hf | hf
                · have := C''.rk
                  rw [List.pairwise_append] at this
                  exact Nat.lt_trans (this.2.2 f hf top (by simp)) hjr
                · simp at hf; subst hf; exact hjr
              · rw [← hme]
                unfold left
                simp only [List.map_append, List.sum_append, List.map_cons, List.map_nil, List.sum_cons, List.sum_nil]
                walk_at "om"
            · obtain ⟨kvs', epd', eD', kD'⟩ := C''.nd
              have nS : aS ≠ top.t := kindne C''.st t2 (by intro z; cases z)
              have nI : aI ≠ top.t := kindne C''.it t2 (by intro z; cases z)
              have nE : aE ≠ top.t := kindne C''.se t2 (by intro z; cases z)
              have nD : aD ≠ top.t := kindne eD' t2 (by intro z; cases z)
              have hDS : aD ≠ aS := kindne eD' C''.st (by intro z; cases z)
              have hDI : aD ≠ aI := kindne eD' C''.it (by intro z; cases z)
              have hSI := C''.fresh.2.2.2.2
              have eS : fgt σ₅ top.t aS = some (.list ((fs3.map fun f => V.int f.n.k) ++ [.int top.n.k])) := (fgt_ne _ nS).trans (by rw [C''.st]; simp)
              have eI : fgt σ₅ top.t aI = some (.list ((fs3.map fun f => V.mw f.t) ++ [.mw top.t])) := (fgt_ne _ nI).trans (by rw [C''.it]; simp)
              have hlen3 : fs3.length + 1 ≤ 50 := by have := C''.sz.1; have := C''.sz.2.1; simp at *; walk_at "om"
              repeat walk_at "gz"
              refine Ex_del ?_
              repeat walk_at "gz"
              refine Ev_meth0 ?_
              repeat walk_at "gz"
              refine Op_pop eS (by simp [sizeLine]; walk_at "om") ?_
              refine OpD_dict ((upd_ne _ _ hDS).trans ((fgt_ne _ nD).trans eD')) (by have e1 := congrArg List.length kD'; simp at e1; walk_at "om") (by rw [lookup_keys, kD']; simp) fun ep' => ?_
              have eI2 : upd (upd (fgt σ₅ top.t) aS (.list (fs3.map fun f => V.int f.n.k))) aD (.dict (dropK top.n.k kvs') ep') aI = some (.list ((fs3.map fun f => V.mw f.t) ++ [.mw top.t])) := (upd_ne _ _ (Ne.symm hDI)).trans ((upd_ne _ _ (Ne.symm hSI)).trans eI)
              repeat walk_at "gz"
              refine Ev_meth0 ?_
              repeat walk_at "gz"
              refine Op_pop eI2 (by simp [sizeLine]; walk_at "om") ?_
              repeat walk_at "gz"
              have CP := C''.pop (ep' := ep') eD' kD'
              refine ⟨fs3.length, by simp, fs3, rfl, CP, ?_, q1, q2, q3, q4, q5⟩
              rw [← hme]
              have hfull : top.n.su.length ≤ top.c := by
                rw [List.getElem?_eq_none_iff] at hvn
                simpa using hvn
              unfold left
              simp only [List.map_append, List.sum_append, List.map_cons, List.map_nil, List.sum_cons, List.sum_nil]
              walk_at "om"
  · rintro σ' loc' ⟨ks, sn, hr, hks, C, l1, l2, l3, l4, l5⟩
    repeat walk_at "gz"
    exact h σ' C.g
end
end

section
open PySem PySem.W PyProof PyProof.Rows PySem.Calls PySem.Spec

section
variable {w : World} {hb : Base} {A : Around} {σ : Hp}
noncomputable def ready0 (ns : List Nod) : List Int := (ns.filter fun n => n.np == 0).map (·.k)
noncomputable abbrev PrA (σ : Hp) (ns : List Nod) (rest : List V) (acc : List V) (σ' : Hp) (loc' : Loc) : Prop := ∃ (ds is : List Nod), C4 (rest = is.map (fun n => .ref n.ia)) (ns = ds ++ is) (acc = (ready0 ds).map .int) (σ' = σ)
theorem prepare_call (B : Bs w hb.h) {n : Nat} (rm : Rm hb (n + 2) A) {so dx n2i : Addr} {ep : Nat} {ns : List Nod} {p f : Int} {Q : V → Hp → Prop} (T : Srt σ so dx n2i ep ns .none p f) (ρ : Int → Nat) (hac : ∀ n ∈ ns, ∀ j ∈ n.su, j ∈ ns.map (·.k) ∧ ρ n.k < ρ j) (hz : ns.length ≤ 50)
    (h : ∀ σ' r, Srt σ' so dx n2i ep ns (.ref r) p f → σ r = none → σ' r = some (.list ((ready0 ns).map .int)) → LF σ σ' ns .none → Q .none σ') : OpN w hb A [.ref so] (fun as => call (.ref 127) as) σ Q := by
  refine call_fn B (n := n + 1) (names := [S "self"]) rm rfl rfl rfl rfl rfl ?_ rfl rfl (by decide) (by decide) ?_
  · exact of_len1 fun _ => rfl
  intro hb L A' hh hfr B rm'
  repeat walk_at "gz"
  refine Ex_if ?_
  repeat walk_at "gz"
  refine s_rdy B T ?_
  repeat walk_at "gz"
  refine Op_isNotNone (b := true) (fun h a r => by cases r; rfl) ⟨_, rfl, ?_⟩
  show Ex w hb A' _ _ _ _ _
  repeat walk_at "gz"
  refine Ev_ListComp (It_values rm' ?_) (by decide) rfl rfl (by decide)
  repeat walk_at "gz"
  refine s_n2i B T ⟨_, _, _, rfl, T.ne, T.n, by simp; walk_at "om", fun L' => ?_⟩
  refine CompGo_inv (PrA σ ns) ?_ ?_ ?_
  rotate_left 2
  · exact ⟨[], ns, by simp, rfl, rfl, rfl⟩
  · rintro v vs acc σ' loc' ⟨ds, is, hr, hd, rfl, rfl⟩
    cases is with
    | nil => simp at hr
    | cons m is =>
    rw [List.map_cons, List.cons.injEq] at hr
    obtain ⟨rfl, rfl⟩ := hr
    have M := T.nods m (by rw [hd]; simp)
    repeat walk_at "gz"
    show EvB w hb A' _ _ _ _ _
    repeat walk_at "gz"
    refine get_np B M.i M.d ?_
    repeat walk_at "gz"
    refine Op_eq ⟨_, rfl, ?_⟩
    have er : ready0 (ds ++ [m]) = if m.np == 0 then ready0 ds ++ [m.k] else ready0 ds := by
      unfold ready0
      rw [List.filter_append, List.map_append]
      by_cases h0 : m.np == 0 <;> simp [h0]
    cases h0 : m.np == 0 with
    | true =>
      rw [h0] at er
      show Ev w hb A' _ _ _ _ _
      repeat walk_at "gz"
      refine get_node B M.i M.d ?_
      exact ⟨T.n, ds ++ [m], is, rfl, by rw [hd]; simp, by rw [er]; simp, rfl⟩
    | false =>
      rw [h0] at er
      exact ⟨T.n, ds ++ [m], is, rfl, by rw [hd]; simp, by rw [er]; simp, rfl⟩
  · rintro acc σ' loc' ⟨ds, is, hr, hd, rfl, rfl⟩ D hD hD' hzz
    cases is with
    | cons j is => simp at hr
    | nil =>
    rw [List.append_nil] at hd
    subst hd
    have g1 := (Gr.refl σ').new hD (.list ((ready0 ns).map .int))
    have T1 := T.grow g1
    repeat walk_at "gz"
    refine OpA_dict B T1.o T1.d (c172_set w) (c172_over w) (c172_rdy w).2 (c172_dict w) (by show (4 : Nat) < 900; decide) ?_
    show Then w hb A' _ _ _ _ (upd (upd σ' D (.list ((ready0 ns).map .int))) dx (.sdict (sFields n2i (.ref D) p f))) _
    have kk : ∀ {a : Addr} {o : O}, upd σ' D (.list ((ready0 ns).map .int)) a = some o → o ≠ .sdict (sFields n2i .none p f) → ∀ o', upd (upd σ' D (.list ((ready0 ns).map .int))) dx o' a = some o := fun e h o' => upd_keep e T1.d h
    have T2 : Srt (upd (upd σ' D (.list ((ready0 ns).map .int))) dx (.sdict (sFields n2i (.ref D) p f))) so dx n2i ep ns (.ref D) p f := by
      refine ⟨kk T1.o (by intro z; cases z) _, upd_self _ _ _, kk T1.n (by intro z; cases z) _, T1.ne, fun n hn => ?_, T1.keys, T1.ias, T1.sas, .inr ⟨D, _, rfl, kk (upd_self _ _ _) (by intro z; cases z) _, fun z => ?_⟩⟩
      · have N := T1.nods n hn
        exact ⟨kk N.i (by intro z; cases z) _, kk N.d (by intro z; cases z) _, kk N.s (by intro z; cases z) _⟩
      · obtain ⟨n, hn, e⟩ := List.mem_map.mp z
        have := (T.nods n hn).s
        rw [e, hD] at this; cases this
    have lf2 : LF σ' (upd (upd σ' D (.list ((ready0 ns).map .int))) dx (.sdict (sFields n2i (.ref D) p f))) ns .none := fun a l e _ _ => kk (g1 _ _ e) (by intro z; cases z) _
    have eD2 : upd (upd σ' D (.list ((ready0 ns).map .int))) dx (.sdict (sFields n2i (.ref D) p f)) D = some (.list ((ready0 ns).map .int)) := kk (upd_self _ _ _) (by intro z; cases z) _
    generalize upd (upd σ' D (.list ((ready0 ns).map .int))) dx (.sdict (sFields n2i (.ref D) p f)) = σ₂ at T2 lf2 eD2 ⊢
    repeat walk_at "gz"
    refine Ev_imeth0 B ?_
    repeat walk_at "gz"
    refine ⟨162, imeth B T2.o T2.d rfl (c172_get w _) (m_cycle w).1 (m_cycle w).2.1, (m_cycle w).2.2, ?_⟩
    refine cycle_call B rm' T2 ρ hac hz fun σ₃ g3 => ?_
    repeat walk_at "gz"
    refine Ex_if ?_
    repeat walk_at "gz"
    refine OpB_none ?_
    show Ex w hb A' _ _ _ _ _
    repeat walk_at "gz"
    exact h σ₃ D (T2.grow g3) hD (g3 _ _ eD2) fun a l e na nr => g3 _ _ (lf2 a l e na nr)
end
end

section
open PySem PySem.W PyProof PyProof.Rows PySem.Calls PySem.Spec

section
variable {w : World} {hb : Base} {A : Around} {env : Env} {σ : Hp} {loc : Loc}
/- two names take two values: the last first -/
theorem Ex_assign_swap {n : Nat} (rm : Rm hb n A) {x1 x2 : Str} {p1 p2 tpos pos : Pos} {k : Nat} {value : Expr} {R : Fl → Hp → Loc → Prop}
    (h : Ev w hb A env (eval value env) σ loc fun u σ₁ loc₁ => ∃ u1 u2, u = .tup [u1, u2] ∧ R .next σ₁ (setL x1 u1 (setL x2 u2 loc₁)))
    (h1 : env.kindOf x1 = some .local) (h2 : env.kindOf x2 = some .local)
    (hw : swappedStores [.Tuple [.Name x1 p1, .Name x2 p2] k tpos] value env = pure (some [x1, x2]))
    (hs : swapsWithSole [.Tuple [.Name x1 p1, .Name x2 p2] k tpos] value pos.line env = pure false := by rfl)
    (hp : (env.scope.kind == .class || (env.scope.kind == .module && env.locals != env.globals)) = false := by rfl) :
    Ex w hb A env (exec (.Assign [.Tuple [.Name x1 p1, .Name x2 p2] k tpos] value pos) env) σ loc R := fun s P E Rp F H => by
  refine Assign_Tuple_swapped (h s _ _ Rp F fun u a σ₁ loc₁ h₁ t₁ q R₁ F₁ ra S₁ => ?_) hs hw
  obtain ⟨u1, u2, rfl, q⟩ := q
  obtain ⟨b, x, y, m, rfl, eb, rx, ry⟩ := VR.tup2 ra
  refine unpackItems_tuple (items := #[x, y]) rm.hand ⟨_, eb, rfl, m, rfl⟩ fun h' hk => ?_
  have keep : ∀ b o, h₁.get? b = some o → h'.get? b = some o := fun b o e => hk b o (Nat.ne_of_lt (Heap.lt_size e)) e
  have im : ImmK h₁ h' := fun b o e _ => keep b o e
  have ⟨R', S⟩ := R₁.grow keep
  have F' := F₁.stay S
  show wpAny _ _ (assignInOrder [fun v => bindName env x2 v, fun v => bindName env x1 v] [y, x]) _ _ _
  refine assignInOrder_cons (bindName_ (store_local (s := { s with heap := h', toks := t₁ }) R' F' (ry.mono im) h2 (fun h₂ t₂ R₂ F₂ S₂ => ?_) hp))
  refine assignInOrder_cons (bindName_ (store_local (s := { s with heap := h₂, toks := t₂ }) R₂ F₂ ((rx.mono im).mono S₂.imm) h1 (fun h₃ t₃ R₃ F₃ S₃ => ?_) hp))
  exact assignInOrder_nil (H _ _ _ _ _ _ q R₃ F₃ .next (S₁.trans ((S.wide fun _ z => z.elim).trans (S₂.trans S₃))))
end
end

section
open PySem PySem.W PyProof PyProof.Rows PySem.Calls PySem.Spec
end
local macro_rules | `(tactic| walk_at "gn") => `(tactic| with_reducible first | exact gn_sorter _ | exact gn_heappush _ | exact gn_heappop _)
section
open PySem PySem.W PyProof PyProof.Rows PySem.Calls PySem.Spec

/- the state of the serving loop -/
structure Sv where
  ps : List Pn
  l : List Int
  h : List (Str × Int)
  row : List Int
  p : Int
  f : Int
noncomputable def Sv.active (s : Sv) : Bool := decide (s.f < s.p) || !s.l.isEmpty
noncomputable def pushes (ks : List (Str × Int)) : List Int → List (Str × Int) → List (Str × Int)
  | [], h => h
  | j :: l, h => pushes ks l (pushF keyLt h (ks.getD j.toNat (S "", 0)))
theorem sdF_len' (lt : (Str × Int) → (Str × Int) → Bool) (h : List (Str × Int)) (x : Str × Int) : (pushF lt h x).length = h.length + 1 := by
  unfold pushF; rw [sdF_len]; simp
theorem pushes_len (ks : List (Str × Int)) : ∀ (l : List Int) (h : List (Str × Int)), (pushes ks l h).length = h.length + l.length
  | [], h => rfl
  | j :: l, h => by rw [pushes, pushes_len ks l, sdF_len', List.length_cons]; walk_at "om"
noncomputable def addAll (as : List (List Int)) : Nat → List Pn
  | 0 => []
  | k + 1 => addP (k : Nat) (as.getD k []) (addAll as k)
noncomputable def readyP (ps : List Pn) : List Int := (ps.filter fun q => q.2.1 == 0).map (·.1)
theorem readyP_pv (ns : List Nod) : readyP (ns.map pv) = ready0 ns := by
  unfold readyP ready0
  rw [List.filter_map, List.map_map]
  rfl
structure SvI (ks : List (Str × Int)) (Inv : Nat → Sv → Prop) (res : List Int) : Prop where
  fin : ∀ m s, Inv m s → s.active = false → s.row = res
  small : ∀ m s, Inv m s → s.l.length ≤ 5 ∧ s.h.length ≤ 5 ∧ s.row.length ≤ 5
  go : ∀ m s, Inv m s → s.active = true → (∀ j ∈ s.l, j ∈ s.ps.map (·.1) ∧ 0 ≤ j ∧ j.toNat < ks.length) ∧
    ∃ rest last m' su, pushes ks s.l s.h = rest ++ [last] ∧ (outP s.l s.ps).lookup (popF keyLt rest last).1.2 = some (-1, su) ∧ (∀ j ∈ su, j ∈ s.ps.map (·.1)) ∧ su.length ≤ 50 ∧ m' < m ∧
      Inv m' ⟨(doneP (popF keyLt rest last).1.2 su (outP s.l s.ps) []).1, (doneP (popF keyLt rest last).1.2 su (outP s.l s.ps) []).2, (popF keyLt rest last).2, s.row ++ [(popF keyLt rest last).1.2], s.p + s.l.length, s.f + 1⟩

theorem mem_look {β : Type} {k : Int} {v : β} : ∀ {l : List (Int × β)}, l.lookup k = some v → (k, v) ∈ l
  | [], h => by simp at h
  | (x, u) :: r, h => by
    rw [List.lookup_cons] at h
    split at h
    · rename_i hx
      have : k = x := by simpa using hx
      cases h; subst this; exact .head _
    · exact .tail _ (mem_look h)
theorem pv_find {ns : List Nod} {k np : Int} {su : List Int} (h : (ns.map pv).lookup k = some (np, su)) : ∃ m ∈ ns, m.k = k ∧ m.np = np ∧ m.su = su := by
  have := mem_look h
  obtain ⟨m, hm, e⟩ := List.mem_map.mp this
  unfold pv at e
  cases e
  exact ⟨m, hm, rfl, rfl, rfl⟩
theorem outP_keys (l : List Int) (ps : List Pn) : (outP l ps).map (·.1) = ps.map (·.1) := by
  unfold outP; rw [List.map_map]; apply List.map_congr_left; intro q _; simp only [Function.comp]; split <;> rfl
/- lists stay -/
noncomputable def KL (σ σ' : Hp) : Prop := ∀ a l, σ a = some (.list l) → σ' a = some (.list l)
section
variable {w : World} {hb : Base} {A : Around} {σ : Hp}
theorem Srt.updL {so dx n2i r a : Addr} {ep : Nat} {ns : List Nod} {p f : Int} {l l' : List V} (T : Srt σ so dx n2i ep ns (.ref r) p f) (ea : σ a = some (.list l)) (na : a ∉ ns.map (·.sa)) (nr : a ≠ r) : Srt (upd σ a (.list l')) so dx n2i ep ns (.ref r) p f := by
  have kk : ∀ {b : Addr} {o : O}, σ b = some o → (∀ l, o ≠ .list l) → ∀ o', upd σ a o' b = some o := fun e h o' => upd_keep e ea (h _)
  refine ⟨kk T.o (by intro _ z; cases z) _, kk T.d (by intro _ z; cases z) _, kk T.n (by intro _ z; cases z) _, T.ne, fun n hn => ?_, T.keys, T.ias, T.sas, ?_⟩
  · have N := T.nods n hn
    refine ⟨kk N.i (by intro _ z; cases z) _, kk N.d (by intro _ z; cases z) _, ?_⟩
    rw [upd_ne]
    · exact N.s
    · exact fun z => na (by rw [← z]; exact List.mem_map_of_mem hn)
  · rcases T.rdy with h | ⟨r', l'', h, e, c⟩
    · cases h
    · cases h; exact .inr ⟨r, l'', rfl, by rw [upd_ne _ _ (Ne.symm nr)]; exact e, c⟩

noncomputable abbrev SvA (σ : Hp) (ks : List (Str × Int)) (as : List (Addr × List Int)) (so dx n2i aK aA : Addr) (rest : List V) (σ' : Hp) (loc' : Loc) : Prop := ∃ (k n : Nat) (ns' : List Nod) (ep' : Nat), C9 (rest = rngV k n) (k + n = ks.length) (Srt σ' so dx n2i ep' ns' .none 0 0) (ns'.map pv = addAll (as.map (·.2)) k) (LF σ σ' [] .none) (NewS σ [] ns') (loc'.lookup (S "sorter") = some (.ref so)) (loc'.lookup (S "keys") = some (.ref aK)) (loc'.lookup (S "ahead") = some (.ref aA))
noncomputable abbrev SvR (σ : Hp) (res : List Int) (aR : Addr) (fl : Fl) (σ' : Hp) (loc' : Loc) : Prop := C4 (fl = Fl.next) (KL σ σ') (σ' aR = some (.list (res.map .int))) (loc'.lookup (S "row") = some (.ref aR))
noncomputable abbrev SvW (σ : Hp) (Inv : Nat → Sv → Prop) (ns : List Nod) (ep : Nat) (so dx n2i r aK aH aR : Addr) (q : Nat) (σ' : Hp) (loc' : Loc) : Prop := ∃ (s : Sv) (ns' : List Nod), C12 (Inv q s) (Srt σ' so dx n2i ep ns' (.ref r) s.p s.f) (ns'.map pv = s.ps) (ns'.map (·.sa) = ns.map (·.sa)) (σ' r = some (.list (s.l.map .int))) (σ' aH = some (.list (s.h.map keyV))) (σ' aR = some (.list (s.row.map .int))) (KL σ σ') (loc'.lookup (S "sorter") = some (.ref so)) (loc'.lookup (S "keys") = some (.ref aK)) (loc'.lookup (S "heap") = some (.ref aH)) (loc'.lookup (S "row") = some (.ref aR))
noncomputable abbrev SvF (σ : Hp) (ks : List (Str × Int)) (rest : List (Str × Int)) (last : Str × Int) (ns5 : List Nod) (ep : Nat) (s : Sv) (so dx n2i r aK aH aR : Addr) (more : List V) (σ₆ : Hp) (loc₆ : Loc) : Prop := ∃ (is : List Int) (hs : List (Str × Int)), C13 (more = is.map .int) (∀ j ∈ is, 0 ≤ j ∧ j.toNat < ks.length) (hs.length + is.length ≤ 10) (pushes ks is hs = rest ++ [last]) (Srt σ₆ so dx n2i ep ns5 (.ref r) (s.p + s.l.length) s.f) (σ₆ r = some (.list [])) (σ₆ aH = some (.list (hs.map keyV))) (σ₆ aR = some (.list (s.row.map .int))) (KL σ σ₆) (loc₆.lookup (S "sorter") = some (.ref so)) (loc₆.lookup (S "keys") = some (.ref aK)) (loc₆.lookup (S "heap") = some (.ref aH)) (loc₆.lookup (S "row") = some (.ref aR))
theorem served_call (B : Bs w hb.h) {n : Nat} (rm : Rm hb (n + 6) A) {aK aA : Addr} {ks : List (Str × Int)} {as : List (Addr × List Int)} {res : List Int} {Q : V → Hp → Prop}
    (eK : σ aK = some (.list (ks.map keyV))) (eA : σ aA = some (.list (as.map fun p => .ref p.1))) (hA : ∀ p ∈ as, σ p.1 = some (.list (p.2.map .int))) (hlen : as.length = ks.length) (h5 : ks.length ≤ 5)
    (hal : ∀ p ∈ as, p.2.length ≤ 5) (hbd : ∀ k, k ≤ ks.length → (addAll (as.map (·.2)) k).length ≤ 50 ∧ ∀ q ∈ addAll (as.map (·.2)) k, q.2.2.length ≤ 400)
    (ρ : Int → Nat) (hac : ∀ q ∈ addAll (as.map (·.2)) ks.length, ∀ j ∈ q.2.2, j ∈ (addAll (as.map (·.2)) ks.length).map (·.1) ∧ ρ q.1 < ρ j)
    {Inv : Nat → Sv → Prop} (I : SvI ks Inv res) {N : Nat} (hI : Inv N ⟨addAll (as.map (·.2)) ks.length, readyP (addAll (as.map (·.2)) ks.length), [], [], 0, 0⟩)
    (h : ∀ R σ', KL σ σ' → σ' R = some (.list (res.map .int)) → Q (.ref R) σ') : OpN w hb A [.ref aK, .ref aA] (fun as => call (.ref 252) as) σ Q := by
  refine call_fn B (n := n + 5) (names := [S "keys", S "ahead"]) rm rfl rfl rfl rfl rfl ?_ rfl rfl (by decide) (by decide) ?_
  · exact of_len2 fun _ _ => rfl
  intro hb L A' hh hfr B rm'
  repeat walk_at "gz"
  refine Ev_callK0 B ?_
  repeat walk_at "gz"
  refine ⟨172, rfl, kp_sorter w, ?_⟩
  refine sorter_new B (rm'.less (by walk_at "om") : Rm hb (0 + 2) A') fun σ₁ so dx n2i g1 T1 => ?_
  repeat walk_at "gz"
  refine Tr.mono (Ex_for (It_src ?_) (R := fun fl σ' loc' => fl = .next ∧ ∃ ns' ep', C6 (Srt σ' so dx n2i ep' ns' .none 0 0) (ns'.map pv = addAll (as.map (·.2)) ks.length) (LF σ σ' [] .none) (NewS σ [] ns') (loc'.lookup (S "sorter") = some (.ref so)) (loc'.lookup (S "keys") = some (.ref aK)))) ?_
  · refine Ev_call B ?_
    repeat walk_at "gz"
    refine Ev_call B ?_
    repeat walk_at "gz"
    refine Op_len (g1 _ _ eK) (by simp; walk_at "om") ?_
    repeat walk_at "gz"
    refine Op_range ⟨_, _, src_rng rm' (by simp; walk_at "om"), trivial, ?_⟩
    rw [rngV_zero, List.length_map]
    refine ForGo_inv (SvA σ ks as so dx n2i aK aA) ?_ ?_ ?_
    rotate_left 2
    · exact ⟨0, ks.length, [], 0, rfl, by walk_at "om", T1, rfl, fun a l e _ _ => g1 _ _ e, (fun _ hn => by cases hn), by walk_at "lk", by walk_at "lk", by walk_at "lk"⟩
    · rintro v vs σ' loc' ⟨k, n', ns', ep', hr, hkn, T', pv', lf', new', l1, l2, l3⟩
      cases n' with
      | zero => simp [rngV_nil] at hr
      | succ n' =>
      rw [rngV_cons, List.cons.injEq] at hr
      obtain ⟨rfl, rfl⟩ := hr
      obtain ⟨p, hp⟩ : ∃ p, as[k]? = some p := ⟨_, List.getElem?_eq_getElem (by walk_at "om")⟩
      have hpm := List.mem_of_getElem? hp
      have eA' : σ' aA = some (.list (as.map fun p => .ref p.1)) := lf' _ _ eA (by simp) (by intro z; cases z)
      have ep1 : σ' p.1 = some (.list (p.2.map .int)) := lf' _ _ (hA p hpm) (by simp) (by intro z; cases z)
      have hpl := hal p hpm
      have bd := hbd k (by walk_at "om")
      have hns : ns'.length ≤ 50 := by have := bd.1; rw [← pv', List.length_map] at this; exact this
      repeat walk_at "gz"
      refine Ev_starcall B (f := 122) (C := 172) ?_ (c172_get w _) (c172_dict w) (m_add w).1 (m_add w).2.1 (m_add2 w).1 (m_add2 w).2.1 rfl (m_add2 w).2.2
      repeat walk_at "gz"
      refine ⟨so, dx, [], _, rfl, T'.o, T'.d, rfl, ?_⟩
      repeat walk_at "gz"
      refine Sub_at eA' (x := .ref p.1) (by simp [hp]) (by walk_at "om") ?_
      refine ⟨p.1, p.2.map .int, rfl, ep1, by simp; walk_at "om", ?_⟩
      refine add_call B (rm'.less (by walk_at "om") : Rm hb (0 + 5) A') T' (by walk_at "om") (fun n hn => ?_) fun σ₂ ep2 ns2 T2 lf2 new2 pv2 => ?_
      · exact bd.2 (pv n) (by rw [← pv']; exact List.mem_map_of_mem hn)
      repeat walk_at "gz"
      refine ⟨trivial, k + 1, n', ns2, ep2, rfl, by walk_at "om", T2, ?_, lf'.trans new' lf2, new'.trans lf' new2, by walk_at "lk", by walk_at "lk", by walk_at "lk"⟩
      rw [pv2, pv', addAll]
      congr 1
      rw [List.getD_eq_getElem?_getD, List.getElem?_map, hp]; rfl
    · rintro σ' loc' ⟨k, n', ns', ep', hr, hkn, T', pv', lf', new', l1, l2, l3⟩
      have hn : n' = 0 := by
        have := congrArg List.length hr
        rw [rngV_len] at this
        simpa using this.symm
      subst hn
      have : k = ks.length := by walk_at "om"
      subst this
      repeat walk_at "gz"
      exact ⟨rfl, ns', ep', T', pv', lf', new', l1, l2⟩
  rintro fl σ₂ loc₂ ⟨rfl, ns, ep, T2, pv2, lf2, new2, l1, l2⟩
  repeat walk_at "gz"
  refine Ev_imeth0 B ?_
  repeat walk_at "gz"
  refine ⟨127, imeth B T2.o T2.d rfl (c172_get w _) (m_prepare w).1 (m_prepare w).2.1, (m_prepare w).2.2, ?_⟩
  have hpn : ∀ n ∈ ns, pv n ∈ addAll (as.map (·.2)) ks.length := fun n hn => by rw [← pv2]; exact List.mem_map_of_mem hn
  have hkeys : ns.map (·.k) = (addAll (as.map (·.2)) ks.length).map (·.1) := by rw [← pv2, pv_keys]
  refine prepare_call B (rm'.less (by walk_at "om") : Rm hb (0 + 2) A') T2 ρ (fun n hn j hj => ?_) (by have := (hbd ks.length (by walk_at "om")).1; rw [← pv2, List.length_map] at this; exact this) fun σ₃ r T3 hr3 er3 lf3 => ?_
  · rw [hkeys]; exact hac (pv n) (hpn n hn) j hj
  repeat walk_at "gz"
  refine Ex_assign_swap rm' ?_ rfl rfl rfl
  repeat walk_at "gz"
  refine ⟨by decide, fun aH hH hH' => ?_⟩
  repeat walk_at "gz"
  refine ⟨by decide, fun aR hR hR' => ?_⟩
  repeat walk_at "gz"
  refine ⟨by simp [sizeLine], _, _, rfl, ?_⟩
  have hHR : aR ≠ aH := fun z => by rw [z, upd_self] at hR; cases hR
  have sR : σ₃ aR = none := by rw [upd_ne _ _ hHR] at hR; exact hR
  have g3 : Gr σ₃ (upd (upd σ₃ aH (.list [])) aR (.list [])) := ((Gr.refl σ₃).upd hH _).upd sR _
  have eH3 : upd (upd σ₃ aH (.list [])) aR (.list []) aH = some (.list []) := by rw [upd_ne _ _ (Ne.symm hHR), upd_self]
  have eR3 : upd (upd σ₃ aH (.list [])) aR (.list []) aR = some (.list []) := upd_self _ _ _
  have hSA : ∀ a l, σ a = some (.list l) → a ∉ ns.map (·.sa) ∧ a ≠ r := fun a l e => by
    have e2 := lf2 a l e (by simp) (by intro z; cases z)
    refine ⟨fun z => ?_, fun z => by rw [z, hr3] at e2; cases e2⟩
    obtain ⟨m, hm, em⟩ := List.mem_map.mp z
    rcases new2 m hm with u | u
    · simp at u
    · exact u l (by rw [em]; exact e)
  have kl3 : KL σ σ₃ := fun a l e => lf3 a l (lf2 a l e (by simp) (by intro z; cases z)) (hSA a l e).1 (by intro z; cases z)
  have nH : aH ∉ ns.map (·.sa) ∧ aH ≠ r := by
    refine ⟨fun z => ?_, fun z => ?_⟩
    · obtain ⟨m, hm, em⟩ := List.mem_map.mp z
      have := (T3.nods m hm).s; rw [em, hH] at this; cases this
    · rw [← z, hH] at er3; cases er3
  have nR : aR ∉ ns.map (·.sa) ∧ aR ≠ r := by
    refine ⟨fun z => ?_, fun z => ?_⟩
    · obtain ⟨m, hm, em⟩ := List.mem_map.mp z
      have := (T3.nods m hm).s; rw [em, sR] at this; cases this
    · rw [← z, sR] at er3; cases er3
  have oH : ∀ a l, σ a = some (.list l) → a ≠ aH := fun a l e z => by have := kl3 _ _ e; rw [z, hH] at this; cases this
  have oR : ∀ a l, σ a = some (.list l) → a ≠ aR := fun a l e z => by have := kl3 _ _ e; rw [z, sR] at this; cases this
  have kl4 : KL σ (upd (upd σ₃ aH (.list [])) aR (.list [])) := fun a l e => g3 _ _ (kl3 a l e)
  have T4 := T3.grow g3
  have er4 := g3 _ _ er3
  have e3e : σ₃ r = some (.list ((readyP (addAll (as.map (·.2)) ks.length)).map .int)) := by rw [← pv2, readyP_pv]; exact er3
  have er4' := g3 _ _ e3e
  generalize upd (upd σ₃ aH (.list [])) aR (.list []) = σ₄ at T4 er4 er4' kl4 eH3 eR3 g3 ⊢
  clear er4
  repeat walk_at "gz"
  refine Tr.mono (Ex_while (R := SvR σ res aR)
    (SvW σ Inv ns ep so dx n2i r aK aH aR) ?_ N
    ⟨_, ns, hI, T4, pv2, rfl, er4', eH3, eR3, kl4, by walk_at "lk", by walk_at "lk", by walk_at "lk", by walk_at "lk"⟩) ?_
  rotate_left
  · rintro fl σ' loc' ⟨rfl, kl, eR, l1⟩
    repeat walk_at "gz"
    exact h aR σ' kl eR
  rintro q σ' loc' ⟨s, ns', hq, T', pv', sa', er', eH', eR', kl', l1, l2, l3, l4⟩
  obtain ⟨z1, z2, z3⟩ := I.small q s hq
  repeat walk_at "gz"
  refine Ev_imeth0 B ?_
  repeat walk_at "gz"
  refine ⟨141, imeth B T'.o T'.d rfl (c172_get w _) (m_active w).1 (m_active w).2.1, (m_active w).2.2, ?_⟩
  refine active_call B (rm'.less (by walk_at "om") : Rm hb (0 + 1) A') T' er' (by walk_at "om") ?_
  show OpB w hb A' (.bool s.active) truthy _ _
  refine OpB_bool ?_
  cases hact : s.active with
  | false =>
    show Ex w hb A' _ _ _ _ _
    repeat walk_at "gz"
    exact ⟨rfl, kl', by rw [← I.fin q s hq hact]; exact eR', l4⟩
  | true =>
    obtain ⟨hl, rest, last, m', su, hpush, hlk, hsu, hsl, hm', hI'⟩ := I.go q s hq hact
    have hk' : ns'.map (·.k) = s.ps.map (·.1) := by rw [← pv', pv_keys]
    show Ex w hb A' _ _ _ _ _
    repeat walk_at "gz"
    refine Tr.mono (Ex_for (It_src ?_) (R := fun fl σ₅ loc₅ => fl = .next ∧ ∃ ns5, C11 (Srt σ₅ so dx n2i ep ns5 (.ref r) (s.p + s.l.length) s.f) (ns5.map pv = outP s.l s.ps) (ns5.map (·.sa) = ns.map (·.sa)) (σ₅ r = some (.list [])) (σ₅ aH = some (.list ((rest ++ [last]).map keyV))) (σ₅ aR = some (.list (s.row.map .int))) (KL σ σ₅) (loc₅.lookup (S "sorter") = some (.ref so)) (loc₅.lookup (S "keys") = some (.ref aK)) (loc₅.lookup (S "heap") = some (.ref aH)) (loc₅.lookup (S "row") = some (.ref aR)))) ?_
    · refine Ev_imeth0 B ?_
      repeat walk_at "gz"
      refine ⟨134, imeth B T'.o T'.d rfl (c172_get w _) (m_ready w).1 (m_ready w).2.1, (m_ready w).2.2, ?_⟩
      refine ready_call B (rm'.less (by walk_at "om") : Rm hb (0 + 1) A') T' er' (by walk_at "om") (fun j hj => by rw [hk']; exact (hl j hj).1) fun σ₅ ns5 T5 er5 lf5 sa5 pv5 => ?_
      refine ⟨_, _, src_tup rm', trivial, ?_⟩
      have kl5 : KL σ σ₅ := fun a l e => lf5 a l (kl' a l e) (by rw [sa']; exact (hSA a l e).1) (by intro z; injection z with z; exact (hSA a l e).2 z.symm)
      have eH5 : σ₅ aH = some (.list (s.h.map keyV)) := lf5 _ _ eH' (by rw [sa']; exact nH.1) (by intro z; injection z with z; exact nH.2 z.symm)
      have eR5 : σ₅ aR = some (.list (s.row.map .int)) := lf5 _ _ eR' (by rw [sa']; exact nR.1) (by intro z; injection z with z; exact nR.2 z.symm)
      refine ForGo_inv (SvF σ ks rest last ns5 ep s so dx n2i r aK aH aR) ?_ ?_ ?_
      rotate_left 2
      · exact ⟨s.l, s.h, rfl, fun j hj => (hl j hj).2, by walk_at "om", hpush, T5, er5, eH5, eR5, kl5, l1, l2, l3, l4⟩
      · rintro v vs σ₆ loc₆ ⟨is, hs, hr, hin, hz, hpu, T6, er6, eH6, eR6, kl6, l1, l2, l3, l4⟩
        cases is with
        | nil => simp at hr
        | cons j is =>
        rw [List.map_cons, List.cons.injEq] at hr
        obtain ⟨rfl, rfl⟩ := hr
        obtain ⟨j0, jl⟩ := hin j (by simp)
        have hx : (ks.map keyV)[j.toNat]? = some (keyV (ks.getD j.toNat (S "", 0))) := by
          rw [List.getElem?_map, List.getD_eq_getElem?_getD, List.getElem?_eq_getElem jl]; rfl
        repeat walk_at "gz"
        refine Ev_call B ?_
        repeat walk_at "gz"
        refine Sub_list (kl6 _ _ eK) j0 hx ?_ (by walk_at "om")
        repeat walk_at "gz"
        refine push_call B (rm'.less (by walk_at "om") : Rm hb (0 + 2) A') eH6 (by simp at hz; walk_at "om") ?_
        repeat walk_at "gz"
        refine ⟨trivial, is, _, rfl, fun i hi => hin i (by simp [hi]), by rw [sdF_len']; simp at hz; walk_at "om", hpu, T6.updL eH6 (by rw [sa5, sa']; exact nH.1) nH.2, ?_, upd_self _ _ _, ?_, fun a l e => ?_, by walk_at "lk", by walk_at "lk", by walk_at "lk", by walk_at "lk"⟩
        · rw [upd_ne _ _ (Ne.symm nH.2)]; exact er6
        · rw [upd_ne _ _ hHR]; exact eR6
        · rw [upd_ne _ _ (oH a l e)]; exact kl6 a l e
      · rintro σ₆ loc₆ ⟨is, hs, hr, hin, hz, hpu, T6, er6, eH6, eR6, kl6, l1, l2, l3, l4⟩
        cases is with
        | cons j is => simp at hr
        | nil =>
        have hpu' : hs = rest ++ [last] := hpu
        subst hpu'
        repeat walk_at "gz"
        exact ⟨rfl, ns5, T6, by rw [pv5, pv'], by rw [sa5, sa'], er6, eH6, eR6, kl6, l1, l2, l3, l4⟩
    rintro fl σ₅ loc₅ ⟨rfl, ns5, T5, pv5, sa5, er5, eH5, eR5, kl5, l1, l2, l3, l4⟩
    have hrl : rest.length + 1 = s.h.length + s.l.length := by have := congrArg List.length hpush; rw [pushes_len] at this; simp at this; walk_at "om"
    repeat walk_at "gz"
    refine Ev_meth1 ?_
    repeat walk_at "gz"
    refine Ev_call B ?_
    repeat walk_at "gz"
    refine pop_call B (rm'.less (by walk_at "om") : Rm hb (0 + 3) A') eH5 (by walk_at "om") ?_
    have T6 := T5.updL (l' := (popF keyLt rest last).2.map keyV) eH5 (by rw [sa5]; exact nH.1) nH.2
    have eR6 : upd σ₅ aH (.list ((popF keyLt rest last).2.map keyV)) aR = some (.list (s.row.map .int)) := by rw [upd_ne _ _ hHR]; exact eR5
    have eH6 : upd σ₅ aH (.list ((popF keyLt rest last).2.map keyV)) aH = some (.list ((popF keyLt rest last).2.map keyV)) := upd_self _ _ _
    have er6 : upd σ₅ aH (.list ((popF keyLt rest last).2.map keyV)) r = some (.list []) := by rw [upd_ne _ _ (Ne.symm nH.2)]; exact er5
    have kl6 : KL σ (upd σ₅ aH (.list ((popF keyLt rest last).2.map keyV))) := fun a l e => by rw [upd_ne _ _ (oH a l e)]; exact kl5 a l e
    generalize upd σ₅ aH (.list ((popF keyLt rest last).2.map keyV)) = σ₆ at T6 eR6 eH6 er6 kl6 ⊢
    obtain ⟨m, hm, hmk, hmn, hms⟩ := pv_find (ns := ns5) (by rw [pv5]; exact hlk)
    generalize hx : (popF keyLt rest last).1 = x at *
    repeat walk_at "gz"
    refine Sub_tup (by decide) (x := .int x.2) rfl ?_ (by decide)
    repeat walk_at "gz"
    refine Op_append eR6 (by simp only [List.length_map, sizeLine]; walk_at "om") ?_
    have e2 : s.row.map V.int ++ [V.int x.2] = (s.row ++ [x.2]).map .int := by simp
    rw [e2]
    have T7 := T6.updL (l' := (s.row ++ [x.2]).map .int) eR6 (by rw [sa5]; exact nR.1) nR.2
    have eR7 : upd σ₆ aR (.list ((s.row ++ [x.2]).map .int)) aR = some (.list ((s.row ++ [x.2]).map .int)) := upd_self _ _ _
    have eH7 : upd σ₆ aR (.list ((s.row ++ [x.2]).map .int)) aH = some (.list ((popF keyLt rest last).2.map keyV)) := by rw [upd_ne _ _ (Ne.symm hHR)]; exact eH6
    have er7 : upd σ₆ aR (.list ((s.row ++ [x.2]).map .int)) r = some (.list (([] : List Int).map .int)) := by rw [upd_ne _ _ (Ne.symm nR.2)]; exact er6
    have kl7 : KL σ (upd σ₆ aR (.list ((s.row ++ [x.2]).map .int))) := fun a l e => by rw [upd_ne _ _ (oR a l e)]; exact kl6 a l e
    generalize upd σ₆ aR (.list ((s.row ++ [x.2]).map .int)) = σ₇ at T7 eR7 eH7 er7 kl7 ⊢
    repeat walk_at "gz"
    refine Ev_imeth1 B ?_
    repeat walk_at "gz"
    refine ⟨155, imeth B T7.o T7.d rfl (c172_get w _) (m_done w).1 (m_done w).2.1, (m_done w).2.2, ?_⟩
    repeat walk_at "gz"
    refine Ev_neg ?_
    refine Sub_listN eR7 (by decide) (by simp; walk_at "om") (x := .int x.2) (by
      have e9 : ((-1 : Int) + (((s.row ++ [x.2]).map V.int).length : Nat)).toNat = s.row.length := by simp; walk_at "om"
      rw [e9]; simp) ?_ (by decide)
    repeat walk_at "gz"
    have hkey5 : ns5.map (·.k) = s.ps.map (·.1) := by rw [← pv_keys, pv5, outP_keys]
    refine OpC.op ?_
    rw [← hmk]
    refine done_call B (rm'.less (by walk_at "om") : Rm hb (0 + 1) A') T7 er7 (by rw [hms]; simp; walk_at "om") hm hmn (fun j hj => by rw [hkey5]; rw [hms] at hj; exact hsu j hj) fun σ₈ ns8 T8 er8 lf8 sa8 pv8 => ?_
    repeat walk_at "gz"
    refine ⟨m', hm', _, ns8, hI', T8, ?_, by rw [sa8, sa5], ?_, lf8 _ _ eH7 (by rw [sa5]; exact nH.1) (by intro z; injection z with z; exact nH.2 z.symm), lf8 _ _ eR7 (by rw [sa5]; exact nR.1) (by intro z; injection z with z; exact nR.2 z.symm), fun a l e => lf8 a l (kl7 a l e) (by rw [sa5]; exact (hSA a l e).1) (by intro z; injection z with z; exact (hSA a l e).2 z.symm), l1, l2, l3, l4⟩
    · rw [pv8, hmk, hms, pv5]
    · rw [er8, hmk, hms, pv5]
end
end

section
open PySem PySem.W PyProof PyProof.Rows PySem.Calls PySem.Spec
open PySem.MeetsSeq PySem.MeetsSeq2 PySem.MeetsSeq3 PySem.SeqRoads2

section
variable {w : World} {hb : Base} {A : Around} {env : Env} {σ : Hp} {loc : Loc}

/- sorted, of numbers -/
theorem Op_sortedI {a : Addr} {ns : List Int} {Q : V → Hp → Prop} (e : σ a = some (.list (ns.map .int))) (hz : ns.length < 60)
    (h : ∀ (D : Addr) (ns' : List Int), ns'.Perm ns → ns'.Pairwise (· ≤ ·) → σ D = none → hb.get? D = none → Q (.ref D) (upd σ D (.list (ns'.map .int)))) : OpN w hb A [.ref a] (fun as => call (vOf (.val (.builtin "sorted"))) as) σ Q := fun x s P E I R H => by
  cases I with
  | cons p r =>
    cases p; cases r
    obtain ⟨xs, m, ea, rs⟩ := R.obj a _ e
    have hi := ints_of rs
    have hl : ns.length = xs.toList.length := by have := rs.length; simpa using this
    have hL : s.heap.IsList a xs.toList.toArray := by rw [Array.toArray_toList]; exact PySem.IsL.isList ea
    refine sorted_ints hL hi (by walk_at "om") fun out ns' a1 a2 a3 => ?_
    obtain ⟨e1, he⟩ := sortedAll_at s.heap xs.toList out
    have z : s.heap.get? (s.heap.objs.size + 1) = none := Heap.get?_none_of_le (Nat.le_succ _)
    obtain ⟨s1, s2, R', S⟩ := R.newAt (D := s.heap.objs.size + 1) (o := .list (ns'.map .int)) (fun b o q => sortedAll_old q) z ⟨out, e1, he, of_ints a1⟩
    exact H _ _ _ _ _ (h _ ns' a2 a3 (R.none_of z) (fresh_hb R z)) R' (.ref _) S

/- pairs of numbers by < -/
noncomputable def pairLt (x y : Int × Int) : Bool := if x.1 = y.1 then decide (x.2 < y.2) else decide (x.1 < y.1)
noncomputable def prV (x : Int × Int) : V := .tup [.int x.1, .int x.2]
theorem Op_lt_pair {x y : Int × Int} {n : Nat} {Q : V → Hp → Prop} (rm : Rm hb n A) (h : Q (.bool (pairLt x y)) σ) : Op2 w hb A (prV x) (prV y) (fun a b => compareOp .Lt a b) σ Q := fun p s P E I R H => by
  obtain ⟨a, b⟩ := p; obtain ⟨h1, h2⟩ := I
  obtain ⟨a', p0, p1, n1, rfl, ea, ra0, ra1⟩ := VR.tup2 h1
  obtain ⟨b', q0, q1, n2, rfl, eb, rb0, rb1⟩ := VR.tup2 h2
  cases ra0; cases ra1; cases rb0; cases rb1
  rename_i t1 t2 t3 t4
  show wpAny _ _ (richCompare .Lt (.ref a') (.ref b')) _ _ _
  refine richCompare_meets_room ⟨_, ea, rfl⟩ ⟨_, eb, rfl⟩ PySem.F.slot_tuple_lt PySem.F.entry_tuple_lt (PySem.F.args_tuple_lt_2 _ _)
    (tuple2_lt a' b' (.int x.1 t1) (.int x.2 t2) (.int y.1 t3) (.int y.2 t4) n1 n2 (x.1 == y.1) (x.2 == y.2) (decide (x.1 < y.1)) (decide (x.2 < y.2))) ?_ (by have := rm.units; walk_at "om")
  refine ⟨ea, eb, fun _ _ _ _ q => wpAny_eqBool_int q, fun _ _ _ _ q => wpAny_eqBool_int q, fun _ _ _ _ _ q => lt_int q, fun _ _ _ _ _ q => lt_int q, ?_⟩
  have e : (if (x.1 == y.1) = true then (if (x.2 == y.2) = true then false else decide (x.2 < y.2)) else decide (x.1 < y.1)) = pairLt x y := by
    unfold pairLt
    by_cases z : x.1 = y.1
    · by_cases z2 : x.2 = y.2
      · simp [z, z2]
      · simp [z, z2]
    · simp [z]
  rw [e]
  exact ⟨by simp, H _ _ _ s.heap s.toks h R (.bool _) St.same⟩

theorem VRs.at {h : Heap} {vs : List V} {xs : Array Value} (r : VRs h vs xs.toList) {j : Nat} (hj : j < xs.size) : ∃ v, vs[j]? = some v ∧ VR h v xs[j] := by
  have hl : vs.length = xs.size := by rw [r.length, Array.length_toList]
  obtain ⟨v, hv⟩ : ∃ v, vs[j]? = some v := ⟨_, List.getElem?_eq_getElem (by walk_at "om")⟩
  obtain ⟨y, hy, ry⟩ := r.get hv
  rw [Array.getElem?_toList, Array.getElem?_eq_getElem hj] at hy
  cases hy
  exact ⟨v, hv, ry⟩
theorem allTrue (n : Nat) : (List.range n).all (fun _ => true) = true := by simp
/- two lists with the same numbers are equal -/
theorem Op_eqL {a b : Addr} {ns : List Int} {n : Nat} {Q : V → Hp → Prop} (rm : Rm hb n A) (ea : σ a = some (.list (ns.map .int))) (eb : σ b = some (.list (ns.map .int))) (h : Q (.bool true) σ) :
    Op2 w hb A (.ref a) (.ref b) (fun x y => compareOp .Eq x y) σ Q := fun p s P E I R H => by
  obtain ⟨x, y⟩ := p; obtain ⟨h1, h2⟩ := I; cases h1; cases h2
  obtain ⟨xs, m, ea', rs⟩ := R.obj a _ ea
  obtain ⟨ys, m2, eb', rs2⟩ := R.obj b _ eb
  have l1 : (ns.map V.int).length = xs.size := by rw [rs.length, Array.length_toList]
  have l2 : (ns.map V.int).length = ys.size := by rw [rs2.length, Array.length_toList]
  refine SeqAt.eq_listAt (e := fun _ => true) (PySem.IsL.isList ea') (PySem.IsL.isList eb') (by walk_at "om") (by have := rm.units; walk_at "om") (fun j h1 h2 => ?_) ?_
  · obtain ⟨v, hv, r1⟩ := VRs.at rs h1
    obtain ⟨v', hv', r2⟩ := VRs.at rs2 h2
    rw [hv] at hv'; cases hv'
    rw [List.getElem?_map] at hv
    obtain ⟨k, hk, rfl⟩ := Option.map_eq_some_iff.mp hv
    revert r1 r2
    generalize xs[j] = u1
    generalize ys[j] = u2
    intro r1 r2
    cases r1; cases r2
    rename_i t1 t2
    have q := SeqAt.EqAt.int_int (A := A.in1) (s := s) k t1 k t2
    rw [beq_self_eq_true] at q; exact q
  · rw [allTrue]; exact H _ _ _ s.heap s.toks h R (.bool _) St.same
/- two lists of lists with the same numbers are not unequal -/
theorem Op_neLL {a b : Addr} {as bs : List (Addr × List Int)} {n : Nat} {Q : V → Hp → Prop} (rm : Rm hb (n + 10) A) (ea : σ a = some (.list (as.map fun p => .ref p.1))) (eb : σ b = some (.list (bs.map fun p => .ref p.1)))
    (ha : ∀ p ∈ as, σ p.1 = some (.list (p.2.map .int))) (hb' : ∀ p ∈ bs, σ p.1 = some (.list (p.2.map .int))) (he : as.map (·.2) = bs.map (·.2)) (h : Q (.bool false) σ) :
    Op2 w hb A (.ref a) (.ref b) (fun x y => compareOp .NotEq x y) σ Q := fun p s P E I R H => by
  obtain ⟨x, y⟩ := p; obtain ⟨h1, h2⟩ := I; cases h1; cases h2
  obtain ⟨xs, m, ea', rs⟩ := R.obj a _ ea
  obtain ⟨ys, m2, eb', rs2⟩ := R.obj b _ eb
  have l1 : (as.map fun p => V.ref p.1).length = xs.size := by rw [rs.length, Array.length_toList]
  have l2 : (bs.map fun p => V.ref p.1).length = ys.size := by rw [rs2.length, Array.length_toList]
  have l3 := congrArg List.length he
  simp only [List.length_map] at l1 l2 l3
  refine SeqAt.RcNeAt.lists (e := fun _ => true) (PySem.IsL.isList ea') (PySem.IsL.isList eb') (by walk_at "om") (by have := rm.units; walk_at "om") (fun j h1 h2 => ?_) pg w _ _ ?_
  · obtain ⟨v, hv, r1⟩ := VRs.at rs h1
    obtain ⟨v', hv', r2⟩ := VRs.at rs2 h2
    rw [List.getElem?_map] at hv hv'
    obtain ⟨k, hk, rfl⟩ := Option.map_eq_some_iff.mp hv
    obtain ⟨k', hk', rfl⟩ := Option.map_eq_some_iff.mp hv'
    have hkk : k.2 = k'.2 := by
      have := congrArg (fun l => l[j]?) he
      simp only [List.getElem?_map, hk, hk', Option.map_some, Option.some.injEq] at this
      exact this
    revert r1 r2
    generalize xs[j] = u1
    generalize ys[j] = u2
    intro r1 r2
    cases r1; cases r2
    obtain ⟨zs, m3, e3, rs3⟩ := R.obj k.1 _ (ha k (List.mem_of_getElem? hk))
    obtain ⟨zs', m4, e4, rs4⟩ := R.obj k'.1 _ (hb' k' (List.mem_of_getElem? hk'))
    have q := keq_ints (A := A) (s := s) (a := k.1) (b := k'.1) (by rw [Array.toArray_toList]; exact PySem.IsL.isList e3) (ints_of rs3) (by rw [Array.toArray_toList]; exact PySem.IsL.isList e4) (ints_of rs4) (by have := rm.units; show A.units + 1 + 64 < _; walk_at "om")
    rw [hkk, decide_eq_true rfl] at q
    exact q
  · rw [allTrue]; exact H _ _ _ s.heap s.toks h R (.bool _) St.same
/- a == b == c, all the same -/
theorem Ev_chain {l r1 r2 : Expr} {pos : Pos} {Q : V → Hp → Loc → Prop}
    (h : Ev w hb A env (eval l env) σ loc fun u σ₁ loc₁ => Ev w hb A env (eval r1 env) σ₁ loc₁ fun v σ₂ loc₂ => Op2 w hb A u v (fun a b => compareOp .Eq a b) σ₂ fun x σ₃ => x = .bool true ∧ Ev w hb A env (eval r2 env) σ₃ loc₂ fun v' σ₄ loc₄ => Op2 w hb A v v' (fun a b => compareOp .Eq a b) σ₄ fun y σ₅ => Q y σ₅ loc₄)
    (hm : lastMarks [.Eq, .Eq] [r1, r2] = false := by with_unfolding_all rfl) :
    Ev w hb A env (eval (.Compare l [.Eq, .Eq] [r1, r2] pos) env) σ loc Q := fun s P E R F H =>
  Compare_chain (h s _ _ R F fun u a σ₁ loc₁ h₁ t₁ q R₁ F₁ ra S₁ => chain_link (q _ _ _ R₁ F₁ fun v b σ₂ loc₂ h₂ t₂ q₂ R₂ F₂ rb S₂ =>
    q₂.run (x := (a, b)) (s := { s with heap := h₂, toks := t₂ }) ⟨ra.mono S₂.imm, rb⟩ R₂ F₂ fun x c σ₃ h₃ t₃ q₃ R₃ F₃ rc S₃ => by
      obtain ⟨rfl, q₃⟩ := q₃
      cases rc
      refine wpAny_truthy_bool ?_
      rw [if_pos rfl]
      refine chain_last (q₃ _ _ _ R₃ F₃ fun v' b' σ₄ loc₄ h₄ t₄ q₄ R₄ F₄ rb' S₄ => ?_)
      exact q₄.run (x := (b, b')) (s := { s with heap := h₄, toks := t₄ }) ⟨(rb.mono S₃.imm).mono S₄.imm, rb'⟩ R₄ F₄ fun y d σ₅ h₅ t₅ q₅ R₅ F₅ rd S₅ => H _ _ _ _ _ _ q₅ R₅ F₅ rd (S₁.trans (S₂.trans (S₃.trans (S₄.trans S₅)))))) hm
end
end

section
open PySem PySem.W PyProof PyProof.Rows PySem.Calls PySem.Spec

/- a sort's questions are answered by a given order -/
noncomputable def KRun {α : Type} (n : Nat) (lt : Nat → Nat → Bool) : KasT α → Option α
  | .ret a => some a
  | .ask i j k => if i < n ∧ j < n then KRun n lt (k (lt i j)) else none
theorem kasWp_run {α : Type} {n : Nat} {lt : Nat → Nat → Bool} {cmp : Nat → Nat → (Bool → Shared → Prop) → Shared → Prop} {s : Shared} {Q : α → Shared → Prop}
    (hc : ∀ i j C, i < n → j < n → C (lt i j) s → cmp i j C s) : ∀ {t : KasT α} {a : α}, KRun n lt t = some a → Q a s → t.kasWp cmp Q s
  | .ret a, b, h, q => by
    have : a = b := by simpa [KRun] using h
    subst this; exact q
  | .ask i j k, b, h, q => by
    unfold KRun at h
    split at h
    · rename_i hij
      exact hc i j _ hij.1 hij.2 (kasWp_run hc h q)
    · cases h

section
variable {w : World} {hb : Base} {A : Around} {env : Env} {σ : Hp} {loc : Loc}
/- an operation beside a frame -/
noncomputable def OpF (w : World) (hb : Base) (A : Around) (env : Env) (loc : Loc) (vs : List V) (t : List Value → Sem Value) (σ : Hp) (Q : V → Hp → Prop) : Prop :=
  ∀ (as : List Value) (s : Shared) (P : Value → Shared → Prop) (E : Value → Shared → Prop), VRs s.heap vs as → Rep w hb σ s.heap → FrR hb env loc σ s.heap →
    (∀ b a σ' h' tk', Q b σ' → Rep w hb σ' h' → FrR hb env loc σ' h' → VR h' b a → St (own env) σ σ' s.heap h' → P a { s with heap := h', toks := tk' }) → wpAny (model pg w) A (t as) P E s
theorem Ev_callF {func e : Expr} {rest : List Expr} {pos : Pos} {id : String} {Q : V → Hp → Loc → Prop}
    (h : Ev w hb A env (eval func env) σ loc fun f σ₁ loc₁ => f = .val (.builtin id) ∧ EvL w hb A env (spliced (backTo pos (starEach (e :: rest) env))) σ₁ loc₁ fun vs σ₂ loc₂ => OpF w hb A env loc₂ vs (fun as => call (.builtin id) as) σ₂ fun x σ₃ => Q x σ₃ loc₂)
    (he : eval (.Call func (e :: rest) [] pos) env = (do callWith pos (← eval func env) [] (backTo pos (starEach (e :: rest) env)) (backToKw pos (keywordEach [] env))) := by rfl)
    (hst : starEach (e :: rest) env = (false, eval e env) :: starEach rest env := by rfl) (hplain : (backTo pos (starEach rest env)).any (·.1) = false := by rfl) :
    Ev w hb A env (eval (.Call func (e :: rest) [] pos) env) σ loc Q := fun s P E R F H => by
  refine Call_ (h s _ _ R F fun f a σ₁ loc₁ h₁ t₁ q R₁ F₁ ra S₁ => ?_) he
  obtain ⟨rfl, q⟩ := q
  cases ra
  exact callWith_builtin1 (q _ _ _ R₁ F₁ fun vs as σ₂ loc₂ h₂ t₂ q₂ R₂ F₂ rs S₂ => q₂ as { s with heap := h₂, toks := t₂ } _ _ rs R₂ F₂ fun x c σ₃ h₃ t₃ q₃ R₃ F₃ rc S₃ => H _ _ _ _ _ _ q₃ R₃ F₃ rc (S₁.trans (S₂.trans S₃))) hst hplain

/- all that lies in a heap but at one place -/
noncomputable def allBut (h : Heap) (L : Addr) : List (Addr × Obj) := (List.range h.objs.size).filterMap fun a => if a = L then none else (h.get? a).map fun o => (a, o)
theorem mem_allBut {h : Heap} {L b : Addr} {o : Obj} : (b, o) ∈ allBut h L ↔ b ≠ L ∧ h.get? b = some o := by
  unfold allBut
  rw [List.mem_filterMap]
  constructor
  · rintro ⟨a, _, e⟩
    split at e
    · cases e
    · rename_i hn
      obtain ⟨o', ho', e'⟩ := Option.map_eq_some_iff.mp e
      cases e'
      exact ⟨hn, ho'⟩
  · rintro ⟨hn, ho⟩
    exact ⟨b, List.mem_range.mpr (Heap.lt_size ho), by rw [if_neg hn, ho]; rfl⟩
theorem tups_of {h : Heap} : ∀ {ps : List (Int × Int)} {vs : List Value}, VRs h (ps.map prV) vs → ∃ fs, KatTups h vs fs ∧ fs.length = ps.length ∧ ∀ v ∈ fs, ∃ i t, v = Value.int i t
  | [], _, .nil => ⟨[], .nil, rfl, fun _ h => by cases h⟩
  | p :: ps, _, .cons r rs => by
    obtain ⟨fs, k, hl, hf⟩ := tups_of rs
    obtain ⟨b, x, y, n, rfl, eb, rx, ry⟩ := VR.tup2 r
    cases rx
    rename_i t
    exact ⟨_ :: fs, .cons eb rfl rfl rfl k, by simp [hl], fun v hv => by
      rcases List.mem_cons.mp hv with rfl | hv
      · exact ⟨_, _, rfl⟩
      · exact hf v hv⟩

theorem OpF_sortedP {a : Addr} {ps : List (Int × Int)} {p : Array Nat} {Q : V → Hp → Prop} (e : σ a = some (.list (ps.map prV))) (h2 : 2 ≤ ps.length) (h64 : ps.length < 60)
    (hrun : KRun ps.length (fun i j => pairLt (ps.getD i (0, 0)) (ps.getD j (0, 0))) (kas_sort ps.length) = some p) (hp : ∀ i ∈ p.toList, i < ps.length)
    (h : ∀ D, σ D = none → hb.get? D = none → Q (.ref D) (upd σ D (.list ((p.toList.map fun i => ps.getD i (0, 0)).map prV)))) :
    OpF w hb A env loc [.ref a] (fun as => call (.builtin "sorted") as) σ Q := fun as s P E I R F H => by
  cases I with
  | cons pa r =>
    cases pa; cases r
    obtain ⟨xs, m, ea, rs⟩ := R.obj a _ e
    have hl : ps.length = xs.toList.length := by have := rs.length; simpa using this
    have hL : s.heap.IsList a xs.toList.toArray := by rw [Array.toArray_toList]; exact PySem.IsL.isList ea
    obtain ⟨mm, hns, hloc⟩ := F.ns
    have hNd : ∀ o, s.heap.get? env.locals = some o → ¬ Imm o := fun o ho => by
      obtain ⟨o', es, ep, ho', hd, _⟩ := hns
      rw [ho] at ho'; cases ho'
      exact not_imm_dict hd
    have Fr0 : Fr {} env.locals s.heap mm := ⟨hns, fun b o z => by simp [Heap.get?] at z, Nat.zero_le _⟩
    have N0 : News {} env.locals s.heap (allBut s.heap env.locals) := fun q hq => by
      obtain ⟨q1, q2⟩ := mem_allBut.mp hq
      exact ⟨q2, q1, by simp [Heap.get?]⟩
    refine kat_sorted (vs := xs.toList) Fr0 N0 hL (by walk_at "om") (by walk_at "om") fun D e1 h' Fr1 N1 hlt => ?_
    have keep1 : ∀ b o, b ≠ env.locals → s.heap.get? b = some o → h'.get? b = some o := fun b o hn z => (N1 (b, o) (.tail _ (mem_allBut.mpr ⟨hn, z⟩))).1
    have im1 : ImmK s.heap h' := fun b o z i => keep1 b o (fun q => by subst q; exact hNd o z i) z
    have rs1 : VRs h' (ps.map prV) xs.toList := rs.mono im1
    obtain ⟨fs, kt, hfl, hfi⟩ := tups_of rs1
    refine kat_kind (T := .type "int") kt (by walk_at "om") (fun v hv => ?_) (by decide) ?_
    · obtain ⟨i, t, rfl⟩ := hfi v hv
      exact Looks.of_pure rfl
    rw [← hl]
    refine kasWp_run (n := ps.length) (lt := fun i j => pairLt (ps.getD i (0, 0)) (ps.getD j (0, 0))) (fun i j C hi hj hC => ?_) hrun ?_
    · obtain ⟨vi, hvi, ri⟩ := rs1.get (i := i) (u := prV (ps.getD i (0, 0))) (by rw [List.getElem?_map, List.getElem?_eq_getElem hi, List.getD_eq_getElem?_getD, List.getElem?_eq_getElem hi]; rfl)
      obtain ⟨vj, hvj, rj⟩ := rs1.get (i := j) (u := prV (ps.getD j (0, 0))) (by rw [List.getElem?_map, List.getElem?_eq_getElem hj, List.getD_eq_getElem?_getD, List.getElem?_eq_getElem hj]; rfl)
      unfold kas_ask
      rw [List.getD_eq_getElem?_getD, List.getD_eq_getElem?_getD, hvi, hvj]
      show wpAny _ _ (keyLt' (tuples' true) vi vj) _ _ _
      obtain ⟨a', p0, p1, n1, rfl, ea', ra0, ra1⟩ := VR.tup2 ri
      obtain ⟨b', q0, q1, n2, rfl, eb', rb0, rb1⟩ := VR.tup2 rj
      generalize ps.getD i (0, 0) = x at *
      generalize ps.getD j (0, 0) = y at *
      cases ra0; cases ra1; cases rb0; cases rb1
      refine kat_lt (s := { s with heap := h' }) ea' rfl eb' rfl ?_
      refine kat_cons (wpAny_eqBool_int ?_)
      unfold pairLt at hC
      by_cases z1 : x.1 = y.1
      · rw [z1, beq_self_eq_true]
        refine kat_yes (kat_cons (wpAny_eqBool_int ?_))
        rw [if_pos z1] at hC
        by_cases z2 : x.2 = y.2
        · rw [z2, beq_self_eq_true]
          refine kat_yes (kat_nil ?_)
          rw [z2] at hC
          simpa using hC
        · have : (x.2 == y.2) = false := by simpa using z2
          rw [this]
          exact kat_no (kat_one _ _ (lt_int hC))
      · have : (x.1 == y.1) = false := by simpa using z1
        rw [this]
        rw [if_neg z1] at hC
        exact kat_no (oneLt_int hC)
    · refine KasFin.intro (Fr1) (N1) (.head fun q hq => Nat.ne_of_lt (hlt q hq)) fun h'' c Fr2 N2 => ?_
      have hDL : D ≠ env.locals := (N2 (D, _) (.head _)).2.1
      have eD : h''.get? D = some (listOf (List.toArray (p.toList.map fun i => xs.toList.getD i Value.none)) c) := (N2 (D, _) (.head _)).1
      have keep2 : ∀ b o, b ≠ env.locals → s.heap.get? b = some o → h''.get? b = some o := fun b o hn z => (N2 (b, o) (.tail _ (mem_allBut.mpr ⟨hn, z⟩))).1
      have im2 : ImmK s.heap h'' := fun b o z i => keep2 b o (fun q => by subst q; exact hNd o z i) z
      have zD : s.heap.get? D = none := by
        cases q : s.heap.get? D with
        | none => rfl
        | some o => exact absurd (hlt (D, o) (mem_allBut.mpr ⟨hDL, q⟩)) (Nat.lt_irrefl _)
      have sD : σ D = none := R.none_of zD
      have bD : hb.get? D = none := fresh_hb R zD
      have rs2 : VRs h'' (ps.map prV) xs.toList := rs.mono im2
      have rD : ∀ l : List Nat, (∀ i ∈ l, i < ps.length) → VRs h'' ((l.map fun i => ps.getD i (0, 0)).map prV) (l.map fun i => xs.toList.getD i Value.none) := by
        intro l
        induction l with
        | nil => intro _; exact .nil
        | cons i l ih =>
          intro hl'
          have hi := hl' i (by simp)
          obtain ⟨vi, hvi, ri⟩ := rs2.get (i := i) (u := prV (ps.getD i (0, 0))) (by rw [List.getElem?_map, List.getElem?_eq_getElem hi, List.getD_eq_getElem?_getD, List.getElem?_eq_getElem hi]; rfl)
          refine .cons ?_ (ih fun j hj => hl' j (by simp [hj]))
          show VR h'' (prV (ps.getD i (0, 0))) (xs.toList.getD i Value.none)
          rw [List.getD_eq_getElem?_getD (l := xs.toList), hvi]
          exact ri
      have nL : σ env.locals = none ∧ hb.get? env.locals = none := F.lns
      have R2 : Rep w hb (upd σ D (.list ((p.toList.map fun i => ps.getD i (0, 0)).map prV))) h'' := by
        refine ⟨fun b q z => ?_, fun b o z => keep2 b o (fun y => by rw [y, nL.2] at z; cases z) (R.base b o z), fun b o z => ?_, fun fe hfe => ?_⟩
        · by_cases hb' : b = D
          · subst hb'; rw [upd_self] at z; cases z
            exact ⟨_, _, eD, by simpa using rD p.toList hp⟩
          · rw [upd_ne _ _ hb'] at z
            have hbL : b ≠ env.locals := fun y => by rw [y, nL.1] at z; cases z
            exact (R.obj b q z).move im2 fun ob y => keep2 b ob hbL y
        · have : b ≠ D := fun y => by rw [y, bD] at z; cases z
          rw [upd_ne _ _ this]; exact R.apart b o z
        · obtain ⟨hk, L', hf, hs', hn', o, ho, hd⟩ := R.fr fe hfe
          have hL'D : L' ≠ D := fun y => by rw [y, zD] at ho; cases ho
          refine ⟨hk, L', hf, by rw [upd_ne _ _ hL'D]; exact hs', hn', ?_⟩
          by_cases hLL : L' = env.locals
          · subst hLL
            obtain ⟨o', es, ep, ho', hd', _⟩ := Fr2.ns
            exact ⟨o', ho', es, ep, hd'⟩
          · exact ⟨o, keep2 _ _ hLL ho, hd⟩
      have F2 : FrR hb env loc (upd σ D (.list ((p.toList.map fun i => ps.getD i (0, 0)).map prV))) h'' := by
        refine ⟨⟨mm, Fr2.ns, fun x v hk hlk => ?_⟩, fun x c' hx => ?_, ⟨by rw [upd_ne _ _ (Ne.symm hDL)]; exact nL.1, nL.2⟩, fun x c' hx => ?_, F.cnd, F.ckind⟩
        · obtain ⟨a', h1, h2'⟩ := hloc x v hk hlk
          exact ⟨a', h1, h2'.mono im2⟩
        · obtain ⟨ov, ⟨o, ho, r'⟩, q⟩ := F.cells x c' hx
          exact ⟨ov, ⟨o, keep2 _ _ (F.cns x c' hx).2.2 ho, r'⟩, fun v hlk => let ⟨a', h1, h2'⟩ := q v hlk; ⟨a', h1, h2'.mono im2⟩⟩
        · obtain ⟨q1, q2, q3⟩ := F.cns x c' hx
          obtain ⟨ob, ho⟩ := F.has (b := c') (.inr ⟨x, hx⟩)
          have : c' ≠ D := fun y => by rw [y, zD] at ho; cases ho
          exact ⟨by rw [upd_ne _ _ this]; exact q1, q2, q3⟩
      refine H _ _ _ h'' _ (h D sD bD) R2 F2 (.ref D) ⟨im2, fun b o z q no => ?_⟩
      have hbL : b ≠ env.locals := fun y => no (.inl y)
      have hbD : b ≠ D := fun y => by rw [y, zD] at z; cases z
      exact ⟨.of (keep2 b o hbL z), by rw [upd_ne _ _ hbD]; exact q⟩
end
end

section
open PySem PySem.W PyProof PyProof.Rows PySem.Calls PySem.Spec

/- the nine signs of a file's rights -/
noncomputable def textF (m : Int) : Str := ⟨((Txt.join (S "") ((sgns m 0 tabI).map S)).cps.toList.drop 1).toArray⟩
noncomputable def rowF (md : List Int) (p : Nat) : List Int := (listedF keyLt md.length (heapifyF keyLt (keysF (md.map textF) p))).map (·.2)
noncomputable def rowsF (md : List Int) : List (List Int) := (List.range 9).map (rowF md)
noncomputable def aheadsF (md : List Int) : List (List Int) := (List.range md.length).map fun k => aheadF (k : Nat) (rowsF md)
noncomputable def withB (md : List Int) (k j : Nat) : Bool := (Builtin.bitAnd (md.getD j 0) (md.getD k 0) == md.getD j 0) && pairLt (md.getD j 0, (j : Nat)) (md.getD k 0, (k : Nat))
noncomputable def withinF (md : List Int) (k : Nat) : List Int := ((List.range md.length).filter (withB md k)).map fun (j : Nat) => (j : Int)
noncomputable def turn1 (start : Nat) (m : Int) : Int := (m * 2 ^ start).fmod 512 + (m * 2 ^ start).fdiv 512
noncomputable def turnF (md : List Int) (start : Nat) : List (Int × Int) := (List.range md.length).map fun k => (turn1 start (md.getD k 0), ((k : Nat) : Int))

structure LawPure (md : List Int) (start : Nat) : Prop where
  rowlen : ∀ p, p < 9 → (rowF md p).length = md.length
  rowmem : ∀ p, p < 9 → ∀ k, k < md.length → ((k : Nat) : Int) ∈ rowF md p
  alen : ∀ k, k < md.length → (aheadF (k : Nat) (rowsF md)).length ≤ 5
  within : ∀ k, k < md.length → ∀ ns' : List Int, ns'.Perm (aheadF (k : Nat) (rowsF md)) → ns'.Pairwise (· ≤ ·) → ns' = withinF md k
  bd : ∀ k, k ≤ md.length → (addAll (aheadsF md) k).length ≤ 50 ∧ ∀ q ∈ addAll (aheadsF md) k, q.2.2.length ≤ 400
  served : ∃ (ρ : Int → Nat) (Inv : Nat → Sv → Prop) (N : Nat), (∀ q ∈ addAll (aheadsF md) md.length, ∀ j ∈ q.2.2, j ∈ (addAll (aheadsF md) md.length).map (·.1) ∧ ρ q.1 < ρ j) ∧
    SvI (keysF (md.map textF) start) Inv (rowF md start) ∧ Inv N ⟨addAll (aheadsF md) md.length, readyP (addAll (aheadsF md) md.length), [], [], 0, 0⟩
  turned : ∃ p : Array Nat, KRun md.length (fun i j => pairLt ((turnF md start).getD i (0, 0)) ((turnF md start).getD j (0, 0))) (kas_sort md.length) = some p ∧ (∀ i ∈ p.toList, i < md.length) ∧
    ((p.toList.map fun i => (turnF md start).getD i (0, 0)).map (·.2)) = rowF md start
end

section
open PySem PySem.W PyProof PyProof.Rows PySem.Calls PySem.Spec
theorem gn_lmodes (w : World) : GN w (S "_law_modes") (.ref 230) := by unfold GN; kernel_rfl
theorem gn_llisted (w : World) : GN w (S "_law_listed") (.ref 240) := by unfold GN; kernel_rfl
theorem gn_lahead (w : World) : GN w (S "_law_ahead") (.ref 245) := by unfold GN; kernel_rfl
theorem gn_lserved (w : World) : GN w (S "_law_served") (.ref 252) := by unfold GN; kernel_rfl
end
local macro_rules | `(tactic| walk_at "gn") => `(tactic| with_reducible first | exact gn_lmodes _ | exact gn_llisted _ | exact gn_lahead _ | exact gn_lserved _ | exact gn_keys _ | exact gn_filemode _)
section
open PySem PySem.W PyProof PyProof.Rows PySem.Calls PySem.Spec
end
local macro_rules | `(tactic| walk_at "bn") => `(tactic| with_reducible first | exact bn_len _ | exact bn_range _ | exact bn_sum _ | exact bn_list _ | exact bn_int _ | exact bn_sorted _)
section
open PySem PySem.W PyProof PyProof.Rows PySem.Calls PySem.Spec

noncomputable def drawnF (sc : List Int) : List Int := (sc.take 5).map fun c => c.fmod 1000000
noncomputable def numbersF (sc : List Int) : List Int := drawnF sc ++ [488, 448, 493, 45, 40].drop (drawnF sc).length
theorem numbersF_len (sc : List Int) : (numbersF sc).length = 5 := by
  unfold numbersF drawnF
  simp
  walk_at "om"

theorem textF_len (m : Int) : (textF m).length = 9 := by
  unfold textF
  rw [join_codes]
  show (Array.size _) = 9
  rw [List.size_toArray, List.length_drop]
  simp only [List.toList_toArray]
  rw [flat_len _ (sgns_len tab_len), List.length_map, sgns_count]
  rfl
section
variable {w : World} {hb : Base} {A : Around} {σ : Hp}
/- a slice of a list that lies below -/
theorem Sl_base {value hi : Expr} {p : Pos} {a : Addr} {xs : Array Value} {ns : List Int} {k : Nat} {Q : V → Hp → Prop} (hl : hb.h.IsList a xs) (hi' : IntsAre xs.toList ns) (hz : ns.length ≤ 1000) (h : ∀ D, σ D = none → hb.get? D = none → Q (.ref D) (upd σ D (.list ((ns.take k).map .int)))) :
    SlOp w hb A value (.Slice none (some hi) none p) (.val (.ref a)) none (some (k : Nat)) σ Q := fun o vl vr s P E ro hl' hr R H => by
  cases ro
  have ⟨R₁, S₁⟩ := R.push (ob := slObj vl vr)
  have hL : (s.heap.push (slObj vl vr)).IsList a xs := by
    obtain ⟨o, ho, r⟩ := hl
    exact ⟨o, R₁.base _ _ ho, r⟩
  have hsz : xs.size = ns.length := by have := IntsAre.length hi'; rw [Array.length_toList] at this; walk_at "om"
  have hs' : (s.heap.push (slObj vl vr)).IsSliceOf s.heap.objs.size vl vr .none := Heap.IsSliceOf.new ..
  refine tail_any (s := { s with heap := s.heap.push (slObj vl vr) }) (Heap.IsList.typeIs (s := { s with heap := s.heap.push (slObj vl vr) }) hL) list_getitem_lookup (wpAny_getItem_list_slice (s := { s with heap := s.heap.push (slObj vl vr) }) hL hs' hl' hr .none (by simp) ?_ (by rw [hsz, sizeLine]; walk_at "om")) (by with_unfolding_all rfl)
  rw [slicePick_upto' xs k]
  have rs : VRs (s.heap.push (slObj vl vr)) ((ns.map .int).take k) (xs.toList.take k) := (of_ints hi').take k
  rw [← List.map_take] at rs
  obtain ⟨d1, d2, R₂, S₂⟩ := R₁.newList rs
  exact H _ _ _ _ _ (h _ d1 d2) R₂ (.ref _) (S₁.trans S₂)
noncomputable abbrev LwA (sc : List Int) (σ₁ : Hp) (rest : List V) (acc : List V) (σ' : Hp) (loc' : Loc) : Prop := ∃ (ds is : List Int), C4 (rest = is.map .int) (sc.take 5 = ds ++ is) (acc = (ds.map fun c => c.fmod 1000000).map .int) (σ' = σ₁)
noncomputable abbrev LwB (md : List Int) (σ₈ : Hp) (aMd aN : Addr) (rest : List V) (acc : List V) (σ' : Hp) (loc' : Loc) : Prop := ∃ (k n : Nat), C6 (rest = rngV k n) (k + n = md.length) (acc = ((md.take k).map textF).map .str) (Gr σ₈ σ') (loc'.lookup (S "modes") = some (.ref aMd)) (loc'.lookup (S "numbers") = some (.ref aN))
noncomputable abbrev LwC (md : List Int) (σ₉ : Hp) (aT : Addr) (rest : List V) (acc : List V) (σ' : Hp) (loc' : Loc) : Prop := ∃ (k n : Nat) (rs : List (Addr × List Int)), C7 (rest = rngV k n) (k + n = 9) (acc = rs.map (fun p => .ref p.1)) (rs.map (·.2) = (List.range k).map (rowF md)) (∀ p ∈ rs, σ' p.1 = some (.list (p.2.map .int))) (Gr σ₉ σ') (loc'.lookup (S "texts") = some (.ref aT))
noncomputable abbrev LwD (md : List Int) (σa : Hp) (aR : Addr) (rest : List V) (acc : List V) (σ' : Hp) (loc' : Loc) : Prop := ∃ (k n : Nat) (as : List (Addr × List Int)), C7 (rest = rngV k n) (k + n = md.length) (acc = as.map (fun p => .ref p.1)) (as.map (·.2) = (List.range k).map (fun k => aheadF (k : Nat) (rowsF md))) (∀ p ∈ as, σ' p.1 = some (.list (p.2.map .int))) (Gr σa σ') (loc'.lookup (S "rows") = some (.ref aR))
noncomputable abbrev LwE (md : List Int) (σb : Hp) (aF aMd : Addr) (rest : List V) (acc : List V) (σ' : Hp) (loc' : Loc) : Prop := ∃ (k n : Nat) (ws : List (Addr × List Int)), C8 (rest = rngV k n) (k + n = md.length) (acc = ws.map (fun p => .ref p.1)) (ws.map (·.2) = (List.range k).map (withinF md)) (∀ p ∈ ws, σ' p.1 = some (.list (p.2.map .int))) (Gr σb σ') (loc'.lookup (S "files") = some (.ref aF)) (loc'.lookup (S "modes") = some (.ref aMd))
noncomputable abbrev LwF (md : List Int) (σ' : Hp) (aMd : Addr) (k : Nat) (rest : List V) (acc : List V) (σ'' : Hp) (loc'' : Loc) : Prop := ∃ (j n : Nat), C6 (rest = rngV j n) (j + n = md.length) (acc = (((List.range j).filter (withB md k)).map fun (j : Nat) => (j : Int)).map .int) (σ'' = σ') (loc''.lookup (S "modes") = some (.ref aMd)) (loc''.lookup (S "k") = some (.int (k : Nat)))
noncomputable abbrev LwG (md : List Int) (as : List (Addr × List Int)) (σc : Hp) (rest : List V) (acc : List V) (σ' : Hp) (loc' : Loc) : Prop := ∃ (ds is : List (Addr × List Int)) (ss : List (Addr × List Int)), C6 (rest = is.map (fun p => .ref p.1)) (as = ds ++ is) (acc = ss.map (fun p => .ref p.1)) (ss.map (·.2) = (List.range ds.length).map (withinF md)) (∀ p ∈ ss, σ' p.1 = some (.list (p.2.map .int))) (Gr σc σ')
noncomputable abbrev LwH (md : List Int) (st : Nat) (σd : Hp) (aMd : Addr) (rest : List V) (acc : List V) (σ' : Hp) (loc' : Loc) : Prop := ∃ (k n : Nat), C6 (rest = rngV k n) (k + n = md.length) (acc = ((turnF md st).take k).map prV) (σ' = σd) (loc'.lookup (S "modes") = some (.ref aMd)) (loc'.lookup (S "start") = some (.int (st : Nat)))
noncomputable abbrev LwI (srt : List (Int × Int)) (σh : Hp) (rest : List V) (acc : List V) (σ' : Hp) (loc' : Loc) : Prop := ∃ (ds is : List (Int × Int)), C4 (rest = is.map prV) (srt = ds ++ is) (acc = (ds.map (·.2)).map .int) (σ' = σh)
theorem law_call (B : Bs w hb.h) {n : Nat} (rm : Rm hb (n + 20) A) {a : Addr} {xs : Array Value} {sc : List Int} {Q : V → Hp → Prop} (hl : hb.h.IsList a xs) (hi : IntsAre xs.toList sc) (hz : sc.length ≤ 100)
    (htext : ∀ m t : Int, Nine m → 0 ≤ t → t < 16 → textF (m + 4096 * t) = textF m)
    (hpure : ∀ (md : List Int) (start : Nat), (md.length = 4 ∨ md.length = 5) → (∀ x ∈ md, Nine x) → start < 9 → LawPure md start)
    (h : ∀ σ', Q (.bool true) σ') : OpN w hb A [.val (.ref a)] (fun as => call (.ref 257) as) σ Q := by
  refine call_fn B (n := n + 19) (names := [S "script"]) rm rfl rfl rfl rfl rfl ?_ rfl rfl (by decide) (by decide) ?_
  · exact of_len1 fun _ => rfl
  intro hb L A' hh hfr B rm'
  have nums : (numbersF sc).length = 5 := numbersF_len sc
  -- drawn
  repeat walk_at "gz"
  refine Ex_assign_comp (It_src ?_) rfl (by decide) rfl rfl (by decide)
  repeat walk_at "gz"
  refine ⟨_, rfl, Sl_base (k := 5) (by rw [hh]; exact hl) hi (by walk_at "om") fun D hD hD' => ?_⟩
  have g1 : Gr σ (upd σ D (.list ((sc.take 5).map .int))) := (Gr.refl σ).new hD _
  have eD : upd σ D (.list ((sc.take 5).map .int)) D = some (.list ((sc.take 5).map .int)) := upd_self _ _ _
  generalize upd σ D (.list ((sc.take 5).map .int)) = σ₁ at g1 eD ⊢
  refine ⟨_, _, src_list rm' eD, eD, by simp; walk_at "om", fun L' => ?_⟩
  refine CompGo_inv (LwA sc σ₁) ?_ ?_ ?_
  rotate_left 2
  · exact ⟨[], sc.take 5, rfl, rfl, rfl, rfl⟩
  · rintro v vs acc σ' loc' ⟨ds, is, hr, hd, rfl, rfl⟩
    cases is with
    | nil => simp at hr
    | cons j is =>
    rw [List.map_cons, List.cons.injEq] at hr
    obtain ⟨rfl, rfl⟩ := hr
    repeat walk_at "gz"
    show Ev w hb A' _ _ _ _ _
    repeat walk_at "gz"
    refine Ev_call B ?_
    repeat walk_at "gz"
    refine Op_int ?_
    repeat walk_at "gz"
    refine Op_pow (by decide) (by decide) ?_
    refine Op_mod (by decide) ?_
    exact ⟨eD, ds ++ [j], is, rfl, by rw [hd]; simp, by simp, rfl⟩
  rintro acc σ' loc' ⟨ds, is, hr, hd, rfl, rfl⟩ aD hD2 hD2' hzz
  cases is with
  | cons j is => simp at hr
  | nil =>
  rw [List.append_nil] at hd
  subst hd
  have g2 := g1.new hD2 (.list (((sc.take 5).map fun c => c.fmod 1000000).map .int))
  have eDr : upd σ' aD (.list (((sc.take 5).map fun c => c.fmod 1000000).map .int)) aD = some (.list ((drawnF sc).map .int)) := upd_self _ _ _
  generalize upd σ' aD (.list (((sc.take 5).map fun c => c.fmod 1000000).map .int)) = σ₂ at g2 eDr ⊢
  -- numbers
  repeat walk_at "gz"
  refine ⟨by decide, fun aC hC hC' => ?_⟩
  have g3 := g2.new hC (.list [.int 488, .int 448, .int 493, .int 45, .int 40])
  have eC : upd σ₂ aC (.list [.int 488, .int 448, .int 493, .int 45, .int 40]) aC = some (.list (([488, 448, 493, 45, 40] : List Int).map .int)) := upd_self _ _ _
  have eDr3 : upd σ₂ aC (.list [.int 488, .int 448, .int 493, .int 45, .int 40]) aD = some (.list ((drawnF sc).map .int)) := (Gr.refl σ₂).new hC _ _ _ eDr
  generalize upd σ₂ aC (.list [.int 488, .int 448, .int 493, .int 45, .int 40]) = σ₃ at g3 eC eDr3 ⊢
  have hdl : (drawnF sc).length ≤ 5 := by unfold drawnF; simp; walk_at "om"
  repeat walk_at "gz"
  refine Ev_call B ?_
  repeat walk_at "gz"
  refine Op_len eDr3 (by simp; walk_at "om") ⟨_, rfl, Sl_from eC (by decide) fun aE hE hE' => ?_⟩
  have eE4 : upd σ₃ aE (.list ((([488, 448, 493, 45, 40] : List Int).map V.int).drop ((drawnF sc).map V.int).length)) aE = some (.list ((([488, 448, 493, 45, 40] : List Int).drop (drawnF sc).length).map .int)) := by rw [upd_self, List.length_map, List.map_drop]
  have eDr4 : upd σ₃ aE (.list ((([488, 448, 493, 45, 40] : List Int).map V.int).drop ((drawnF sc).map V.int).length)) aD = some (.list ((drawnF sc).map .int)) := (Gr.refl σ₃).new hE _ _ _ eDr3
  have g4 := g3.new hE (.list ((([488, 448, 493, 45, 40] : List Int).map V.int).drop ((drawnF sc).map V.int).length))
  generalize upd σ₃ aE (.list ((([488, 448, 493, 45, 40] : List Int).map V.int).drop ((drawnF sc).map V.int).length)) = σ₄ at g4 eE4 eDr4 ⊢
  refine Op_addL eDr4 eE4 (by simp; walk_at "om") fun aN hN hN' => ?_
  have eN : upd σ₄ aN (.list ((drawnF sc).map V.int ++ (([488, 448, 493, 45, 40] : List Int).drop (drawnF sc).length).map V.int)) aN = some (.list ((numbersF sc).map .int)) := by rw [upd_self, ← List.map_append]; rfl
  have g5 := g4.new hN (.list ((drawnF sc).map V.int ++ (([488, 448, 493, 45, 40] : List Int).drop (drawnF sc).length).map V.int))
  generalize upd σ₄ aN (.list ((drawnF sc).map V.int ++ (([488, 448, 493, 45, 40] : List Int).drop (drawnF sc).length).map V.int)) = σ₅ at g5 eN ⊢
  generalize numbersF sc = nbs at nums eN
  -- files
  repeat walk_at "gz"
  refine Ev_call B ?_
  repeat walk_at "gz"
  refine Ev_call B ?_
  repeat walk_at "gz"
  refine Ev_call B ?_
  repeat walk_at "gz"
  refine Op_sum rm' eN ?_
  repeat walk_at "gz"
  refine Op_mod (by decide) ?_
  repeat walk_at "gz"
  obtain ⟨nf, hnf, hn45⟩ : ∃ nf : Nat, (5 : Int) - nbs.sum.fmod 2 = ((nf : Nat) : Int) ∧ (nf = 4 ∨ nf = 5) := by
    have h0 := Int.fmod_nonneg_of_pos nbs.sum (show (0 : Int) < 2 by walk_at "om")
    have h1 := Int.fmod_lt_of_pos nbs.sum (show (0 : Int) < 2 by walk_at "om")
    exact ⟨(5 - nbs.sum.fmod 2).toNat, by walk_at "om", by walk_at "om"⟩
  rw [hnf]
  refine Op_range ?_
  repeat walk_at "gz"
  refine Op_listrng rm' (by walk_at "om") fun aF hF hF' => ?_
  have g6 := g5.new hF (.list ((List.range nf).map fun i => .int (i : Nat)))
  have eF : upd σ₅ aF (.list ((List.range nf).map fun i => .int (i : Nat))) aF = some (.list (rngV 0 nf)) := by rw [upd_self, rngV_zero]
  have eN6 := (Gr.refl σ₅).new hF (.list ((List.range nf).map fun i => .int (i : Nat))) _ _ eN
  generalize upd σ₅ aF (.list ((List.range nf).map fun i => .int (i : Nat))) = σ₆ at g6 eF eN6 ⊢
  -- modes
  repeat walk_at "gz"
  refine Ev_call B ?_
  repeat walk_at "gz"
  refine modes_call B (rm'.less (by walk_at "om") : Rm hb (0 + 1) A') eN6 nums fun aM ms hM hM' hml hms => ?_
  have g7 := g6.new hM (.list (ms.map .int))
  have eM : upd σ₆ aM (.list (ms.map .int)) aM = some (.list (ms.map .int)) := upd_self _ _ _
  have eF7 := (Gr.refl σ₆).new hM (.list (ms.map .int)) _ _ eF
  have eN7 := (Gr.refl σ₆).new hM (.list (ms.map .int)) _ _ eN6
  generalize upd σ₆ aM (.list (ms.map .int)) = σ₇ at g7 eM eF7 eN7 ⊢
  repeat walk_at "gz"
  refine Ev_call B ?_
  repeat walk_at "gz"
  refine Op_len eF7 (by rw [rngV_len]; walk_at "om") ⟨_, rfl, Sl_upto eM (by simp; walk_at "om") fun aMd hMd hMd' => ?_⟩
  rw [rngV_len]
  have g8 := g7.new hMd (.list ((ms.map V.int).take nf))
  have eMd : upd σ₇ aMd (.list ((ms.map V.int).take nf)) aMd = some (.list ((ms.take nf).map .int)) := by rw [upd_self, List.map_take]
  have eF8 := (Gr.refl σ₇).new hMd (.list ((ms.map V.int).take nf)) _ _ eF7
  have eN8 := (Gr.refl σ₇).new hMd (.list ((ms.map V.int).take nf)) _ _ eN7
  generalize upd σ₇ aMd (.list ((ms.map V.int).take nf)) = σ₈ at g8 eMd eF8 eN8 ⊢
  have hmdl : (ms.take nf).length = nf := by simp; walk_at "om"
  have hmd9 : ∀ x ∈ ms.take nf, Nine x := fun x hx => hms x (List.mem_of_mem_take hx)
  generalize ms.take nf = md at eMd hmdl hmd9
  subst hmdl
  -- texts
  repeat walk_at "gz"
  refine Ev_ListComp (It_src ?_) (by decide) rfl rfl (by decide)
  repeat walk_at "gz"
  refine ⟨_, _, src_list rm' eF8, eF8, by rw [rngV_len]; walk_at "om", fun L' => ?_⟩
  refine CompGo_inv (LwB md σ₈ aMd aN) ?_ ?_ ?_
  rotate_left 2
  · exact ⟨0, md.length, rfl, by walk_at "om", rfl, Gr.refl _, by walk_at "lk", by walk_at "lk"⟩
  · rintro v vs acc σ' loc' ⟨k, n', hr, hkn, rfl, g, l1, l2⟩
    cases n' with
    | zero => simp [rngV_nil] at hr
    | succ n' =>
    rw [rngV_cons, List.cons.injEq] at hr
    obtain ⟨rfl, rfl⟩ := hr
    obtain ⟨x, hx⟩ : ∃ x, md[k]? = some x := ⟨_, List.getElem?_eq_getElem (by walk_at "om")⟩
    obtain ⟨y, hy⟩ : ∃ y, nbs[k]? = some y := ⟨_, List.getElem?_eq_getElem (by walk_at "om")⟩
    have hx9 := hmd9 x (List.mem_of_getElem? hx)
    repeat walk_at "gz"
    show Ev w hb A' _ _ _ _ _
    repeat walk_at "gz"
    refine Ev_call B ?_
    repeat walk_at "gz"
    refine Sub_at (g _ _ eMd) (x := .int x) (by simp [hx]) (by walk_at "om") ?_
    repeat walk_at "gz"
    refine Sub_at (g _ _ eN8) (x := .int y) (by simp [hy]) (by walk_at "om") ?_
    repeat walk_at "gz"
    refine Op_div (by decide) (PyProof.noPylong_small (by decide)) ?_
    repeat walk_at "gz"
    refine Op_mod (by decide) ?_
    have h0 := Int.fmod_nonneg_of_pos (y.fdiv 16384) (show (0 : Int) < 16 by walk_at "om")
    have h1 := Int.fmod_lt_of_pos (y.fdiv 16384) (show (0 : Int) < 16 by walk_at "om")
    generalize (y.fdiv 16384).fmod 16 = t at h0 h1
    refine Op_mul (.of_left (by decide)) ?_
    repeat walk_at "gz"
    refine filemode_call B (rm'.less (by walk_at "om") : Rm hb (0 + 2) A') fun T hT hT' => ?_
    have hjl : (Txt.join (S "") ((sgns (x + 4096 * t) 0 tabI).map S)).length = 10 := by
      rw [join_codes]
      show (Array.size _) = 10
      rw [List.size_toArray, flat_len _ (sgns_len tab_len), List.length_map, sgns_count]
      rfl
    repeat walk_at "gz"
    refine ⟨_, rfl, Sl_sfrom (k := 1) (by walk_at "om") (by walk_at "om") ?_⟩
    have g' := g.new hT (.list ((sgns (x + 4096 * t) 0 tabI).map fun x => .str (S x)))
    refine ⟨g' _ _ eF8, k + 1, n', rfl, by walk_at "om", ?_, g', by walk_at "lk", by walk_at "lk"⟩
    have ht : textF (x + 4096 * t) = textF x := htext x t hx9 h0 h1
    have : (V.str ⟨((Txt.join (S "") ((sgns (x + 4096 * t) 0 tabI).map S)).cps.toList.drop 1).toArray⟩) = V.str (textF x) := by rw [← ht]; rfl
    rw [this, List.take_add_one, hx]
    simp
  rintro acc σ' loc' ⟨k, n', hr, hkn, rfl, g, l1, l2⟩ aT hT hT' hzz
  have hn0 : n' = 0 := by
    have := congrArg List.length hr
    rw [rngV_len] at this
    simpa using this.symm
  subst hn0
  have hkl : k = md.length := by walk_at "om"
  subst hkl
  rw [List.take_length] at *
  have g9 := (g8.trans g).new hT (.list ((md.map textF).map .str))
  have eT : upd σ' aT (.list ((md.map textF).map .str)) aT = some (.list ((md.map textF).map .str)) := upd_self _ _ _
  have gg9 := g.new hT (.list ((md.map textF).map .str))
  generalize upd σ' aT (.list ((md.map textF).map .str)) = σ₉ at g9 eT gg9 ⊢
  have eF9 := gg9 _ _ eF8
  have eN9 := gg9 _ _ eN8
  have eMd9 := gg9 _ _ eMd
  clear gg9 g g8 g7 g6 g5 g4 g3 g2 g1
  -- rows
  have LP0 := hpure md 0 hn45 hmd9 (by decide)
  repeat walk_at "gz"
  refine Ev_ListComp (It_src ?_) (by decide) rfl rfl (by decide)
  refine Ev_call B ?_
  repeat walk_at "gz"
  refine Op_range (m := 9) ⟨_, _, src_rng rm' (by walk_at "om"), trivial, by simp, fun L' => ?_⟩
  rw [rngV_zero]
  refine CompGo_inv (LwC md σ₉ aT) ?_ ?_ ?_
  rotate_left 2
  · exact ⟨0, 9, [], rfl, rfl, rfl, rfl, (fun p hp => by cases hp), Gr.refl _, by walk_at "lk"⟩
  · rintro v vs acc σ' loc' ⟨k, n', rs, hr, hkn, rfl, hrs, hro, g, l1⟩
    cases n' with
    | zero => simp [rngV_nil] at hr
    | succ n' =>
    rw [rngV_cons, List.cons.injEq] at hr
    obtain ⟨rfl, rfl⟩ := hr
    repeat walk_at "gz"
    show Ev w hb A' _ _ _ _ _
    repeat walk_at "gz"
    refine Ev_call B ?_
    repeat walk_at "gz"
    refine listed_call B (rm'.less (by walk_at "om") : Rm hb (0 + 4) A') (g _ _ eT) (by simpa using hn45) (fun x hx => ?_) (by walk_at "om") fun R σ'' g' hR hR' eR => ?_
    · obtain ⟨m, _, rfl⟩ := List.mem_map.mp hx
      exact textF_len m
    refine ⟨trivial, k + 1, n', rs ++ [(R, rowF md k)], rfl, by walk_at "om", by simp, ?_, fun p hp => ?_, g.trans g', by walk_at "lk"⟩
    · rw [List.map_append, hrs, List.range_succ, List.map_append]; rfl
    · rcases List.mem_append.mp hp with hp | hp
      · exact g' _ _ (hro p hp)
      · simp at hp; subst hp
        rw [eR]; unfold rowF; rw [List.length_map]
  rintro acc σ' loc' ⟨k, n', rs, hr, hkn, rfl, hrs, hro, g, l1⟩ aR hR hR' hzz2
  have hn0 : n' = 0 := by
    have := congrArg List.length hr
    rw [rngV_len] at this
    simpa using this.symm
  subst hn0
  have hk9 : k = 9 := by walk_at "om"
  subst hk9
  have hrs' : rs.map (·.2) = rowsF md := hrs
  have hrl : rs.length = 9 := by have := congrArg List.length hrs; simpa using this
  have gg := g.new hR (.list (rs.map fun p => .ref p.1))
  have eR : upd σ' aR (.list (rs.map fun p => .ref p.1)) aR = some (.list (rs.map fun p => .ref p.1)) := upd_self _ _ _
  have hro' : ∀ p ∈ rs, upd σ' aR (.list (rs.map fun p => .ref p.1)) p.1 = some (.list (p.2.map .int)) := fun p hp => (Gr.refl σ').new hR _ _ _ (hro p hp)
  generalize upd σ' aR (.list (rs.map fun p => .ref p.1)) = σa at gg eR hro' ⊢
  have eFa := gg _ _ eF9
  have eNa := gg _ _ eN9
  have eMa := gg _ _ eMd9
  have eTa := gg _ _ eT
  have hrow : ∀ p ∈ rs, ∃ i, i < 9 ∧ p.2 = rowF md i := fun p hp => by
    have : p.2 ∈ rs.map (·.2) := List.mem_map_of_mem hp
    rw [hrs] at this
    obtain ⟨i, hi, e⟩ := List.mem_map.mp this
    exact ⟨i, List.mem_range.mp hi, e.symm⟩
  clear gg g hro
  -- ahead
  repeat walk_at "gz"
  refine Ex_assign_comp (It_src ?_) rfl (by decide) rfl rfl (by decide)
  repeat walk_at "gz"
  refine ⟨_, _, src_list rm' eFa, eFa, by rw [rngV_len]; walk_at "om", fun L' => ?_⟩
  refine CompGo_inv (LwD md σa aR) ?_ ?_ ?_
  rotate_left 2
  · exact ⟨0, md.length, [], rfl, by walk_at "om", rfl, rfl, (fun p hp => by cases hp), Gr.refl _, by walk_at "lk"⟩
  · rintro v vs acc σ' loc' ⟨k, n', as, hr, hkn, rfl, hrs, hro, g, l1⟩
    cases n' with
    | zero => simp [rngV_nil] at hr
    | succ n' =>
    rw [rngV_cons, List.cons.injEq] at hr
    obtain ⟨rfl, rfl⟩ := hr
    repeat walk_at "gz"
    show Ev w hb A' _ _ _ _ _
    repeat walk_at "gz"
    refine Ev_call B ?_
    repeat walk_at "gz"
    refine ahead_call B (rm'.less (by walk_at "om") : Rm hb (0 + 1) A') (g _ _ eR) (fun p hp => g _ _ (hro' p hp)) (fun p hp => ?_) (fun p hp => ?_) (by walk_at "om") (by walk_at "om") fun R σ'' g' hR hR' eR => ?_
    · obtain ⟨i, hi, e⟩ := hrow p hp
      rw [e]; exact LP0.rowmem i hi k (by walk_at "om")
    · obtain ⟨i, hi, e⟩ := hrow p hp
      rw [e, LP0.rowlen i hi]; walk_at "om"
    rw [hrs'] at eR
    refine ⟨(g.trans g') _ _ eFa, k + 1, n', as ++ [(R, aheadF (k : Nat) (rowsF md))], rfl, by walk_at "om", by simp, ?_, fun p hp => ?_, g.trans g', by walk_at "lk"⟩
    · rw [List.map_append, hrs, List.range_succ, List.map_append]; rfl
    · rcases List.mem_append.mp hp with hp | hp
      · exact g' _ _ (hro p hp)
      · simp at hp; subst hp; exact eR
  rintro acc σ' loc' ⟨k, n', as, hr, hkn, rfl, has, hao, g, l1⟩ aA hA hA' hzz3
  have hn0 : n' = 0 := by
    have := congrArg List.length hr
    rw [rngV_len] at this
    simpa using this.symm
  subst hn0
  have hkl : k = md.length := by walk_at "om"
  subst hkl
  have has' : as.map (·.2) = aheadsF md := has
  have hasl : as.length = md.length := by have := congrArg List.length has; simpa using this
  have gg := g.new hA (.list (as.map fun p => .ref p.1))
  have eA : upd σ' aA (.list (as.map fun p => .ref p.1)) aA = some (.list (as.map fun p => .ref p.1)) := upd_self _ _ _
  have hao' : ∀ p ∈ as, upd σ' aA (.list (as.map fun p => .ref p.1)) p.1 = some (.list (p.2.map .int)) := fun p hp => (Gr.refl σ').new hA _ _ _ (hao p hp)
  generalize upd σ' aA (.list (as.map fun p => .ref p.1)) = σb at gg eA hao' ⊢
  have eFb := gg _ _ eFa
  have eNb := gg _ _ eNa
  have eMb := gg _ _ eMa
  have eTb := gg _ _ eTa
  have eRb := gg _ _ eR
  have hrob : ∀ p ∈ rs, σb p.1 = some (.list (p.2.map .int)) := fun p hp => gg _ _ (hro' p hp)
  have hah : ∀ p ∈ as, ∃ k, k < md.length ∧ p.2 = aheadF (k : Nat) (rowsF md) := fun p hp => by
    have : p.2 ∈ as.map (·.2) := List.mem_map_of_mem hp
    rw [has] at this
    obtain ⟨i, hi, e⟩ := List.mem_map.mp this
    exact ⟨i, List.mem_range.mp hi, e.symm⟩
  clear gg g hao hro'
  -- within
  have hget : ∀ j x, md[j]? = some x → md.getD j 0 = x := fun j x hx => by rw [List.getD_eq_getElem?_getD, hx]; rfl
  repeat walk_at "gz"
  refine Ex_assign_comp (It_src ?_) rfl (by decide) rfl rfl (by decide)
  repeat walk_at "gz"
  refine ⟨_, _, src_list rm' eFb, eFb, by rw [rngV_len]; walk_at "om", fun L' => ?_⟩
  refine CompGo_inv (LwE md σb aF aMd) ?_ ?_ ?_
  rotate_left 2
  · exact ⟨0, md.length, [], rfl, by walk_at "om", rfl, rfl, (fun p hp => by cases hp), Gr.refl _, by walk_at "lk", by walk_at "lk"⟩
  · rintro v vs acc σ' loc' ⟨k, n', ws, hr, hkn, rfl, hws, hwo, g, l1, l2⟩
    cases n' with
    | zero => simp [rngV_nil] at hr
    | succ n' =>
    rw [rngV_cons, List.cons.injEq] at hr
    obtain ⟨rfl, rfl⟩ := hr
    obtain ⟨xk, hxk⟩ : ∃ x, md[k]? = some x := ⟨_, List.getElem?_eq_getElem (by walk_at "om")⟩
    have hxk' : (md.map V.int)[k]? = some (.int xk) := by simp [hxk]
    repeat walk_at "gz"
    show Ev w hb A' _ _ _ _ _
    refine Ev_ListComp (It_src ?_) (by decide) rfl rfl (by decide)
    repeat walk_at "gz"
    refine ⟨_, _, src_list rm' (g _ _ eFb), g _ _ eFb, by rw [rngV_len]; walk_at "om", fun L'' => ?_⟩
    refine CompGo_inv (LwF md σ' aMd k) ?_ ?_ ?_
    rotate_left 2
    · exact ⟨0, md.length, rfl, by walk_at "om", rfl, rfl, by walk_at "lk", by walk_at "lk"⟩
    · rintro v vs acc σ'' loc'' ⟨j, n2, hr, hjn, rfl, rfl, l3, l4⟩
      cases n2 with
      | zero => simp [rngV_nil] at hr
      | succ n2 =>
      rw [rngV_cons, List.cons.injEq] at hr
      obtain ⟨rfl, rfl⟩ := hr
      obtain ⟨xj, hxj⟩ : ∃ x, md[j]? = some x := ⟨_, List.getElem?_eq_getElem (by walk_at "om")⟩
      have hxj' : (md.map V.int)[j]? = some (.int xj) := by simp [hxj]
      have hwB : withB md k j = ((Builtin.bitAnd xj xk == xj) && pairLt (xj, ((j : Nat) : Int)) (xk, ((k : Nat) : Int))) := by unfold withB; rw [hget j xj hxj, hget k xk hxk]
      have hstep : (((List.range (j + 1)).filter (withB md k)).map fun (j : Nat) => (j : Int)).map V.int = (((List.range j).filter (withB md k)).map fun (j : Nat) => (j : Int)).map V.int ++ (if withB md k j then [V.int ((j : Nat) : Int)] else []) := by
        rw [List.range_succ, List.filter_append, List.map_append, List.map_append]
        by_cases hq : withB md k j <;> simp [hq]
      repeat walk_at "gz"
      show EvB w hb A' _ _ _ _ _
      repeat walk_at "gz"
      refine Sub_at (g _ _ eMb) hxj' (by walk_at "om") ?_
      repeat walk_at "gz"
      refine Sub_at (g _ _ eMb) hxk' (by walk_at "om") ?_
      refine Op_and ?_
      repeat walk_at "gz"
      refine Sub_at (g _ _ eMb) hxj' (by walk_at "om") ?_
      refine Op_eq ⟨_, rfl, ?_⟩
      cases hq1 : Builtin.bitAnd xj xk == xj with
      | false =>
        rw [hq1, Bool.false_and] at hwB
        rw [hwB] at hstep
        exact ⟨g _ _ eFb, j + 1, n2, rfl, by walk_at "om", by rw [hstep]; simp, rfl, by walk_at "lk", by walk_at "lk"⟩
      | true =>
        rw [hq1, Bool.true_and] at hwB
        show EvB w hb A' _ _ _ _ _
        repeat walk_at "gz"
        refine Sub_at (g _ _ eMb) hxj' (by walk_at "om") ?_
        repeat walk_at "gz"
        refine ⟨by simp [sizeLine], ?_⟩
        repeat walk_at "gz"
        refine Sub_at (g _ _ eMb) hxk' (by walk_at "om") ?_
        repeat walk_at "gz"
        refine ⟨by simp [sizeLine], ?_⟩
        refine Op_lt_pair (x := (xj, ((j : Nat) : Int))) (y := (xk, ((k : Nat) : Int))) rm' ⟨_, rfl, ?_⟩
        rw [← hwB]
        cases hq2 : withB md k j with
        | false =>
          rw [hq2] at hstep
          exact ⟨g _ _ eFb, j + 1, n2, rfl, by walk_at "om", by rw [hstep]; simp, rfl, by walk_at "lk", by walk_at "lk"⟩
        | true =>
          rw [hq2] at hstep
          show Ev w hb A' _ _ _ _ _
          repeat walk_at "gz"
          exact ⟨g _ _ eFb, j + 1, n2, rfl, by walk_at "om", by rw [hstep]; simp, rfl, by walk_at "lk", by walk_at "lk"⟩
    · rintro acc σ'' loc'' ⟨j, n2, hr, hjn, rfl, rfl, l3, l4⟩ W hW hW' hzw
      have hn0 : n2 = 0 := by
        have := congrArg List.length hr
        rw [rngV_len] at this
        simpa using this.symm
      subst hn0
      have hjl : j = md.length := by walk_at "om"
      subst hjl
      have gW := g.new hW (.list ((withinF md k).map .int))
      refine ⟨gW _ _ eFb, k + 1, n', ws ++ [(W, withinF md k)], rfl, by walk_at "om", by simp, ?_, fun p hp => ?_, gW, by walk_at "lk", by walk_at "lk"⟩
      · rw [List.map_append, hws, List.range_succ, List.map_append]; rfl
      · rcases List.mem_append.mp hp with hp | hp
        · exact (Gr.refl σ'').new hW _ _ _ (hwo p hp)
        · simp at hp; subst hp; exact upd_self _ _ _
  rintro acc σ' loc' ⟨k, n', ws, hr, hkn, rfl, hws, hwo, g, l1, l2⟩ aW hW hW' hzz4
  have hn0 : n' = 0 := by
    have := congrArg List.length hr
    rw [rngV_len] at this
    simpa using this.symm
  subst hn0
  have hkl : k = md.length := by walk_at "om"
  subst hkl
  have gg := g.new hW (.list (ws.map fun p => .ref p.1))
  have eW : upd σ' aW (.list (ws.map fun p => .ref p.1)) aW = some (.list (ws.map fun p => .ref p.1)) := upd_self _ _ _
  have hwo' : ∀ p ∈ ws, upd σ' aW (.list (ws.map fun p => .ref p.1)) p.1 = some (.list (p.2.map .int)) := fun p hp => (Gr.refl σ').new hW _ _ _ (hwo p hp)
  generalize upd σ' aW (.list (ws.map fun p => .ref p.1)) = σc at gg eW hwo' ⊢
  have eFc := gg _ _ eFb
  have eNc := gg _ _ eNb
  have eMc := gg _ _ eMb
  have eTc := gg _ _ eTb
  have eRc := gg _ _ eRb
  have eAc := gg _ _ eA
  have hroc : ∀ p ∈ rs, σc p.1 = some (.list (p.2.map .int)) := fun p hp => gg _ _ (hrob p hp)
  have haoc : ∀ p ∈ as, σc p.1 = some (.list (p.2.map .int)) := fun p hp => gg _ _ (hao' p hp)
  clear gg g hwo hrob hao'
  -- the first test
  repeat walk_at "gz"
  refine Ex_if ?_
  repeat walk_at "gz"
  refine Ev_ListComp (It_src ?_) (by decide) rfl rfl (by decide)
  repeat walk_at "gz"
  refine ⟨_, _, src_list rm' eAc, eAc, by simp; walk_at "om", fun L' => ?_⟩
  refine CompGo_inv (LwG md as σc) ?_ ?_ ?_
  rotate_left 2
  · exact ⟨[], as, [], rfl, rfl, rfl, rfl, (fun p hp => by cases hp), Gr.refl _⟩
  · rintro v vs acc σ' loc' ⟨ds, is, ss, hr, hd, rfl, hss, hso, g⟩
    cases is with
    | nil => simp at hr
    | cons q is =>
    rw [List.map_cons, List.cons.injEq] at hr
    obtain ⟨rfl, rfl⟩ := hr
    have hqm : q ∈ as := by rw [hd]; simp
    have hdl2 : ds.length < md.length := by rw [← hasl, hd]; simp
    have hq2 : q.2 = aheadF ((ds.length : Nat) : Int) (rowsF md) := by
      have h1 : (as.map (·.2))[ds.length]? = some q.2 := by rw [hd]; simp
      rw [has, List.getElem?_map, List.getElem?_range hdl2] at h1
      simpa using h1.symm
    have hql : q.2.length ≤ 5 := by rw [hq2]; exact LP0.alen _ hdl2
    repeat walk_at "gz"
    show Ev w hb A' _ _ _ _ _
    repeat walk_at "gz"
    refine Ev_call B ?_
    repeat walk_at "gz"
    refine Op_sortedI (g _ _ (haoc q hqm)) (by walk_at "om") fun D ns' hp hs hD hD' => ?_
    have hns : ns' = withinF md ds.length := LP0.within _ hdl2 ns' (by rw [← hq2]; exact hp) hs
    subst hns
    have gD := g.new hD (.list ((withinF md ds.length).map .int))
    refine ⟨gD _ _ eAc, ds ++ [q], is, ss ++ [(D, withinF md ds.length)], rfl, by rw [hd]; simp, by simp, ?_, fun p hp => ?_, gD⟩
    · rw [List.length_append, List.length_singleton, List.map_append, hss, List.range_succ, List.map_append]; rfl
    · rcases List.mem_append.mp hp with hp | hp
      · exact (Gr.refl σ').new hD _ _ _ (hso p hp)
      · simp at hp; subst hp; exact upd_self _ _ _
  rintro acc σ' loc' ⟨ds, is, ss, hr, hd, rfl, hss, hso, g⟩ aX hX hX' hzz5
  cases is with
  | cons q is => simp at hr
  | nil =>
  rw [List.append_nil] at hd
  subst hd
  rw [hasl, ← hws] at hss
  have gg := g.new hX (.list (ss.map fun p => .ref p.1))
  have eX : upd σ' aX (.list (ss.map fun p => .ref p.1)) aX = some (.list (ss.map fun p => .ref p.1)) := upd_self _ _ _
  have hso' : ∀ p ∈ ss, upd σ' aX (.list (ss.map fun p => .ref p.1)) p.1 = some (.list (p.2.map .int)) := fun p hp => (Gr.refl σ').new hX _ _ _ (hso p hp)
  generalize upd σ' aX (.list (ss.map fun p => .ref p.1)) = σd at gg eX hso' ⊢
  repeat walk_at "gz"
  refine Op_neLL (rm'.less (by walk_at "om") : Rm hb (0 + 10) A') eX (gg _ _ eW) hso' (fun p hp => gg _ _ (hwo' p hp)) hss ⟨_, rfl, ?_⟩
  show Ex w hb A' _ _ _ _ _
  have eFd := gg _ _ eFc
  have eNd := gg _ _ eNc
  have eMdd := gg _ _ eMc
  have eTd := gg _ _ eTc
  have eRd := gg _ _ eRc
  have eAd := gg _ _ eAc
  have hrod : ∀ p ∈ rs, σd p.1 = some (.list (p.2.map .int)) := fun p hp => gg _ _ (hroc p hp)
  have haod : ∀ p ∈ as, σd p.1 = some (.list (p.2.map .int)) := fun p hp => gg _ _ (haoc p hp)
  clear gg g hso hso' hroc haoc eX eW hwo'
  -- start
  repeat walk_at "gz"
  refine Ev_call B ?_
  repeat walk_at "gz"
  refine Op_sum rm' eNd ?_
  repeat walk_at "gz"
  refine Op_mod (by decide) ?_
  obtain ⟨st, hst, hst9⟩ : ∃ st : Nat, nbs.sum.fmod 9 = ((st : Nat) : Int) ∧ st < 9 := by
    have h0 := Int.fmod_nonneg_of_pos nbs.sum (show (0 : Int) < 9 by walk_at "om")
    have h1 := Int.fmod_lt_of_pos nbs.sum (show (0 : Int) < 9 by walk_at "om")
    exact ⟨(nbs.sum.fmod 9).toNat, by walk_at "om", by walk_at "om"⟩
  rw [hst]
  have LP := hpure md st hn45 hmd9 hst9
  obtain ⟨pp, hpp1, hpp2, hpp3⟩ := LP.turned
  obtain ⟨ρ, Inv, N, hac, hI, hI0⟩ := LP.served
  -- turned
  repeat walk_at "gz"
  refine Ev_callF (id := "sorted") ?_
  repeat walk_at "gz"
  refine ⟨rfl, ?_⟩
  repeat walk_at "gz"
  refine Ev_ListComp (It_src ?_) (by decide) rfl rfl (by decide)
  repeat walk_at "gz"
  refine ⟨_, _, src_list rm' eFd, eFd, by rw [rngV_len]; walk_at "om", fun L' => ?_⟩
  have htl : (turnF md st).length = md.length := by simp [turnF]
  refine CompGo_inv (LwH md st σd aMd) ?_ ?_ ?_
  rotate_left 2
  · exact ⟨0, md.length, rfl, by walk_at "om", rfl, rfl, by walk_at "lk", by walk_at "lk"⟩
  · rintro v vs acc σ' loc' ⟨k, n', hr, hkn, rfl, rfl, l1, l2⟩
    cases n' with
    | zero => simp [rngV_nil] at hr
    | succ n' =>
    rw [rngV_cons, List.cons.injEq] at hr
    obtain ⟨rfl, rfl⟩ := hr
    obtain ⟨x, hx⟩ : ∃ x, md[k]? = some x := ⟨_, List.getElem?_eq_getElem (by walk_at "om")⟩
    have hx9 := hmd9 x (List.mem_of_getElem? hx)
    have hx' : (md.map V.int)[k]? = some (.int x) := by simp [hx]
    have hbits : Builtin.Int.intBits x ≤ 64 := intBits_le_64 (by have := hx9.1; walk_at "om") (by have := hx9.2; walk_at "om")
    have hpw : (Builtin.Int.intBits 2 : Int) * ((st : Nat) : Int) ≤ 2 ^ 27 := by
      have : (Builtin.Int.intBits 2 : Int) = 2 := by decide
      rw [this]; walk_at "om"
    repeat walk_at "gz"
    show Ev w hb A' _ _ _ _ _
    repeat walk_at "gz"
    refine Sub_at eMdd hx' (by walk_at "om") ?_
    repeat walk_at "gz"
    refine Op_pow (by walk_at "om") hpw ?_
    rw [Int.toNat_natCast]
    refine Op_mul (.of_left hbits) ?_
    repeat walk_at "gz"
    refine Op_mod (by decide) ?_
    repeat walk_at "gz"
    refine Sub_at eMdd hx' (by walk_at "om") ?_
    repeat walk_at "gz"
    refine Op_pow (by walk_at "om") hpw ?_
    rw [Int.toNat_natCast]
    refine Op_mul (.of_left hbits) ?_
    repeat walk_at "gz"
    refine Op_div (by decide) (PyProof.noPylong_small (by decide)) ?_
    repeat walk_at "gz"
    refine ⟨by simp [sizeLine], eFd, k + 1, n', rfl, by walk_at "om", ?_, rfl, by walk_at "lk", by walk_at "lk"⟩
    have hk : (turnF md st)[k]? = some (turn1 st x, ((k : Nat) : Int)) := by
      unfold turnF
      rw [List.getElem?_map, List.getElem?_range (by walk_at "om")]
      simp [hx]
    rw [List.take_add_one, hk, List.map_append]
    rfl
  rintro acc σ' loc' ⟨k, n', hr, hkn, rfl, rfl, l1, l2⟩ aU hU hU' hzz6
  have hn0 : n' = 0 := by
    have := congrArg List.length hr
    rw [rngV_len] at this
    simpa using this.symm
  subst hn0
  have hkl : k = md.length := by walk_at "om"
  rw [hkl, ← htl, List.take_length]
  repeat walk_at "gz"
  have eU : upd σ' aU (.list ((turnF md st).map prV)) aU = some (.list ((turnF md st).map prV)) := upd_self _ _ _
  have gU := (Gr.refl σ').new hU (.list ((turnF md st).map prV))
  generalize upd σ' aU (.list ((turnF md st).map prV)) = σe at eU gU ⊢
  refine OpF_sortedP eU (by rw [htl]; walk_at "om") (by rw [htl]; walk_at "om") (by rw [htl]; exact hpp1) (fun i hi => by rw [htl]; exact hpp2 i hi) fun aS hS hS' => ?_
  have eS : upd σe aS (.list ((pp.toList.map fun i => (turnF md st).getD i (0, 0)).map prV)) aS = some (.list ((pp.toList.map fun i => (turnF md st).getD i (0, 0)).map prV)) := upd_self _ _ _
  have gS := gU.new hS (.list ((pp.toList.map fun i => (turnF md st).getD i (0, 0)).map prV))
  generalize upd σe aS (.list ((pp.toList.map fun i => (turnF md st).getD i (0, 0)).map prV)) = σf at eS gS ⊢
  generalize (pp.toList.map fun i => (turnF md st).getD i (0, 0)) = srt at eS hpp3
  have hrod : ∀ p ∈ rs, σf p.1 = some (.list (p.2.map .int)) := fun p hp => gS _ _ (hrod p hp)
  have haod : ∀ p ∈ as, σf p.1 = some (.list (p.2.map .int)) := fun p hp => gS _ _ (haod p hp)
  have eTd := gS _ _ eTd
  have eRd := gS _ _ eRd
  have eAd := gS _ _ eAd
  -- the last line
  repeat walk_at "gz"
  refine Ev_chain ?_
  refine Ev_call B ?_
  repeat walk_at "gz"
  refine Ev_call B ?_
  repeat walk_at "gz"
  refine keys_call B (rm'.less (by walk_at "om") : Rm hb (0 + 1) A') eTd (by simp; walk_at "om") (fun x hx => ?_) (by walk_at "om") fun aK hK hK' => ?_
  · obtain ⟨m, _, rfl⟩ := List.mem_map.mp hx
    exact textF_len m
  have eK : upd σf aK (.list ((keysF (md.map textF) st).map keyV)) aK = some (.list ((keysF (md.map textF) st).map keyV)) := upd_self _ _ _
  have gK := (Gr.refl σf).new hK (.list ((keysF (md.map textF) st).map keyV))
  generalize upd σf aK (.list ((keysF (md.map textF) st).map keyV)) = σg at eK gK ⊢
  have hkl2 : (keysF (md.map textF) st).length = md.length := by rw [keysF_len, List.length_map]
  repeat walk_at "gz"
  refine served_call B (rm'.less (by walk_at "om") : Rm hb (0 + 6) A') eK (gK _ _ eAd) (fun p hp => gK _ _ (haod p hp)) (by rw [hkl2, hasl]) (by rw [hkl2]; walk_at "om") (fun p hp => ?_) (fun k hk => ?_) ρ ?_ hI (N := N) ?_ fun aV σh kl eV => ?_
  · obtain ⟨k, hk, e⟩ := hah p hp
    rw [e]; exact LP.alen k hk
  · rw [has']; exact LP.bd k (by rw [← hkl2]; exact hk)
  · rw [has', hkl2]; exact hac
  · rw [has', hkl2]; exact hI0
  obtain ⟨q, hq⟩ : ∃ q, rs[st]? = some q := ⟨_, List.getElem?_eq_getElem (by walk_at "om")⟩
  have hq2 : q.2 = rowF md st := by
    have h1 : (rs.map (·.2))[st]? = some q.2 := by rw [List.getElem?_map, hq]; rfl
    rw [hrs', rowsF, List.getElem?_map, List.getElem?_range hst9] at h1
    simpa using h1.symm
  have eQ : σh q.1 = some (.list ((rowF md st).map .int)) := by
    have := kl _ _ (gK _ _ (hrod q (List.mem_of_getElem? hq)))
    rw [hq2] at this; exact this
  have eS2 := kl _ _ (gK _ _ eS)
  repeat walk_at "gz"
  refine Sub_at (kl _ _ (gK _ _ eRd)) (x := .ref q.1) (by rw [List.getElem?_map, hq]; rfl) (by walk_at "om") ?_
  refine Op_eqL rm' eV eQ ⟨rfl, ?_⟩
  refine Ev_ListComp (It_src ?_) (by decide) rfl rfl (by decide)
  repeat walk_at "gz"
  have hsl : srt.length ≤ 5 := by
    have := congrArg List.length hpp3
    rw [List.length_map, LP.rowlen st hst9] at this
    walk_at "om"
  refine ⟨_, _, src_list rm' eS2, eS2, by simp; walk_at "om", fun L' => ?_⟩
  refine CompGo_inv (LwI srt σh) ?_ ?_ ?_
  rotate_left 2
  · exact ⟨[], srt, rfl, rfl, rfl, rfl⟩
  · rintro v vs acc σ' loc' ⟨ds, is, hr, hd, rfl, rfl⟩
    cases is with
    | nil => simp at hr
    | cons j is =>
    rw [List.map_cons, List.cons.injEq] at hr
    obtain ⟨rfl, rfl⟩ := hr
    refine As_pair rm' ?_
    repeat walk_at "gz"
    show Ev w hb A' _ _ _ _ _
    repeat walk_at "gz"
    exact ⟨eS2, ds ++ [j], is, rfl, by rw [hd]; simp, by simp, rfl⟩
  rintro acc σ' loc' ⟨ds, is, hr, hd, rfl, rfl⟩ aZ hZ hZ' hzz7
  cases is with
  | cons j is => simp at hr
  | nil =>
  rw [List.append_nil] at hd
  subst hd
  rw [hpp3]
  refine Op_eqL rm' ((Gr.refl σ').new hZ _ _ _ eQ) (upd_self _ _ _) ?_
  exact h _
end
end

section
open PySem PySem.W PyProof PyProof.Rows PySem.Calls PySem.Spec
theorem joined (htext : ∀ m t : Int, Nine m → 0 ≤ t → t < 16 → textF (m + 4096 * t) = textF m)
    (hpure : ∀ (md : List Int) (start : Nat), (md.length = 4 ∨ md.length = 5) → (∀ x ∈ md, Nine x) → start < 9 → LawPure md start) : PySem.Challenge.rw_nq0247_01.Holds := by
  refine head (by rfl) (by rfl) (by rfl) ?_
  intro w s₀ s₁ mg mb G Y fa o pm cd doc dV kV ho hd' hcd hD hmg hg args vals as hpre hlay hrd hwl hlo
  have KX : (KF w).In s₁.heap := Y
  have T := G.T
  wrow_args hpre hlay hrd hwl hlo
  rename_i sc hs hl0 hL1 hr1 hl2 w4 w3 la vs w0 hL ra w1 r0 hI hr hlen hc0
  have hfa : mg (S "law") = some (.ref fa) := hmg
  have h257 : mg (S "law") = some (.ref 257) := mg_of KX T.g (by kernel_rfl)
  rw [h257] at hfa
  have e257 : fa = 257 := by injection hfa with z; injection z with z; exact z.symm
  subst e257
  have B : Bs w (Base.h ⟨s₁.heap, []⟩) := ⟨KX, _, _, _, _, T⟩
  have rm : Rm ⟨s₁.heap, []⟩ (0 + 20) callerA := ⟨rfl, rfl, by decide, by decide⟩
  have R : Rep w ⟨s₁.heap, []⟩ (fun _ => none) s₁.heap := ⟨fun a o e => (by cases e), fun b ob e => e, fun _ _ _ => rfl, fun e he => (by cases he)⟩
  refine law_call B rm (xs := vs.toArray) (sc := sc) (Q := fun v _ => v = .bool true) hL (by simpa using hI) (by walk_at "om") htext hpure (fun _ => rfl) [.ref la] s₁ _ _ (.cons (.val _) .nil) R fun b a σ' h' tk' q R' ra' S' => ?_
  subst q
  cases ra'
  exact ⟨.inl ⟨_, .bool true, [], rfl, fun _ => rfl, .bool _, (by kernel_rfl), fun _ => ⟨.nil, fun _ h => by cases h⟩⟩, .of_keep fun b o e => R'.base b o e, rfl, .of_eq hg⟩
end

section
open PySem PySem.W PyProof PyProof.Rows PySem.Calls PySem.Spec

noncomputable def bitsL (m : Nat) : List Bool := [m.testBit 8, m.testBit 7, m.testBit 6, m.testBit 5, m.testBit 4, m.testBit 3, m.testBit 2, m.testBit 1, m.testBit 0]
noncomputable def chars : List Nat := [114, 119, 120, 114, 119, 120, 114, 119, 120]
noncomputable def wordC (bs : List Bool) (cs : List Nat) : List Nat := List.zipWith (fun b c => if b then c else 45) bs cs
noncomputable def num : List Bool → Nat
  | [] => 0
  | b :: l => b.toNat * 2 ^ l.length + num l
noncomputable def rotB {α : Type} (p : Nat) (l : List α) : List α := l.drop p ++ l.take p

theorem num_lt : ∀ l : List Bool, num l < 2 ^ l.length
  | [] => by simp [num]
  | b :: l => by
    have := num_lt l
    unfold num
    rw [List.length_cons, Nat.pow_succ]
    cases b <;> simp <;> walk_at "om"
theorem word_lt : ∀ (a b : List Bool) (cs : List Nat), a.length = b.length → a.length = cs.length → (∀ c ∈ cs, 45 < c) → ((wordC a cs < wordC b cs ↔ num a < num b) ∧ (wordC a cs = wordC b cs ↔ num a = num b))
  | [], [], [], _, _, _ => by simp [wordC, num]
  | x :: a, y :: b, c :: cs, h1, h2, hc => by
    obtain ⟨i1, i2⟩ := word_lt a b cs (by simpa using h1) (by simpa using h2) (fun d hd => hc d (by simp [hd]))
    have hc0 := hc c (by simp)
    have ha := num_lt a
    have hb := num_lt b
    have hl : a.length = b.length := by simpa using h1
    rw [← hl] at hb
    have e1 : wordC (x :: a) (c :: cs) = (if x then c else 45) :: wordC a cs := rfl
    have e2 : wordC (y :: b) (c :: cs) = (if y then c else 45) :: wordC b cs := rfl
    rw [e1, e2, List.cons_lt_cons_iff, List.cons.injEq, i1, i2]
    have n1 : num (x :: a) = x.toNat * 2 ^ a.length + num a := rfl
    have n2 : num (y :: b) = y.toNat * 2 ^ b.length + num b := rfl
    rw [n1, n2, ← hl]
    generalize num a = u at *
    generalize num b = v at *
    generalize 2 ^ a.length = z at *
    cases x <;> cases y <;> simp <;> walk_at "om"
  | [], _ :: _, _, h, _, _ => by simp at h
  | _ :: _, [], _, h, _, _ => by simp at h
  | _ :: _, _ :: _, [], _, h, _ => by simp at h
  | [], [], _ :: _, _, h, _ => by simp at h
theorem rot_word (p : Nat) (bs : List Bool) (cs : List Nat) (h : bs.length = cs.length) : rotB p (wordC bs cs) = wordC (rotB p bs) (rotB p cs) := by
  unfold rotB wordC
  rw [List.drop_zipWith, List.take_zipWith, List.zipWith_append]
  simp [h]

theorem tb_add (m t i : Nat) (h : m < 4096) (hi : i < 12) : (m + 4096 * t).testBit i = m.testBit i := by
  have e : (m + 4096 * t) % 2 ^ 12 = m := by walk_at "om"
  have := Nat.testBit_mod_two_pow (m + 4096 * t) 12 i
  rw [e, decide_eq_true hi, Bool.true_and] at this
  exact this.symm
theorem hit_no {M b i : Nat} (hb : b.testBit i = true) (hM : M.testBit i = false) : (M &&& b == b) = false := by
  rw [beq_eq_false_iff_ne]
  intro e
  have := congrArg (fun x => x.testBit i) e
  simp only [Nat.testBit_and, hb, hM] at this
  cases this
theorem hit_bit (M i : Nat) : (M &&& 2 ^ i == 2 ^ i) = M.testBit i := by
  cases h : M.testBit i with
  | false => exact hit_no (i := i) (by simp) h
  | true =>
    rw [beq_iff_eq]
    apply Nat.eq_of_testBit_eq
    intro j
    rw [Nat.testBit_and, Nat.testBit_two_pow]
    by_cases hj : i = j
    · subst hj; simp [h]
    · simp [hj]
theorem hitN (M : Nat) (k b : Nat) (hk : k ≠ 0) : hit (M : Nat) k (b : Nat) = (M &&& b == b) := by
  unfold hit
  rw [if_neg hk, and_nat]
  rw [Bool.eq_iff_iff, beq_iff_eq, beq_iff_eq]
  walk_at "om"
theorem one_of {l : List Nat} (h : l.length = 1) : ∃ x, l = [x] := by
  match l, h with
  | [x], _ => exact ⟨x, rfl⟩
theorem text_word (m t : Nat) (h : m < 512) : (textF ((m : Int) + 4096 * (t : Int))).cps.toList = wordC (bitsL m) chars := by
  have eM : (m : Int) + 4096 * (t : Int) = ((m + 4096 * t : Nat) : Int) := by walk_at "om"
  rw [eM]
  have tb : ∀ i, i < 12 → (m + 4096 * t).testBit i = m.testBit i := fun i hi => tb_add m t i (by walk_at "om") hi
  have hi9 : ∀ i, 9 ≤ i → i < 12 → (m + 4096 * t).testBit i = false := fun i h9 hi => by
    rw [tb i hi]
    exact Nat.testBit_lt_two_pow (Nat.lt_of_lt_of_le h (Nat.pow_le_pow_right (n := 2) (by decide) h9 : 2 ^ 9 ≤ 2 ^ i))
  generalize hM : m + 4096 * t = M at *
  have b8 := tb 8 (by decide)
  have b7 := tb 7 (by decide)
  have b6 := tb 6 (by decide)
  have b5 := tb 5 (by decide)
  have b4 := tb 4 (by decide)
  have b3 := tb 3 (by decide)
  have b2 := tb 2 (by decide)
  have b1 := tb 1 (by decide)
  have b0 := tb 0 (by decide)
  have hb : ∀ (k : Nat) (i : Nat) (b : Int), k ≠ 0 → b = ((2 ^ i : Nat) : Int) → hit (M : Nat) k b = M.testBit i := fun k i b hk e => by
    rw [e, hitN _ _ _ hk, hit_bit]
  have hn : ∀ (k : Nat) (i b' : Nat) (b : Int), k ≠ 0 → b = ((b' : Nat) : Int) → b'.testBit i = true → 9 ≤ i → i < 12 → hit (M : Nat) k b = false := fun k i b' b hk e h1 h2 h3 => by
    rw [e, hitN _ _ _ hk, hit_no h1 (hi9 i h2 h3)]
  have s1 : sgn (M : Nat) 1 [(256, "r")] = if M.testBit 8 then "r" else "-" := by simp only [sgn, hb 1 8 256 (by decide) rfl]; rfl
  have s2 : sgn (M : Nat) 2 [(128, "w")] = if M.testBit 7 then "w" else "-" := by simp only [sgn, hb 2 7 128 (by decide) rfl]; rfl
  have s3 : sgn (M : Nat) 3 [(2112, "s"), (2048, "S"), (64, "x")] = if M.testBit 6 then "x" else "-" := by
    simp only [sgn, hb 3 6 64 (by decide) rfl, hn 3 11 2112 2112 (by decide) rfl (by decide) (by decide) (by decide), hn 3 11 2048 2048 (by decide) rfl (by decide) (by decide) (by decide)]; rfl
  have s4 : sgn (M : Nat) 4 [(32, "r")] = if M.testBit 5 then "r" else "-" := by simp only [sgn, hb 4 5 32 (by decide) rfl]; rfl
  have s5 : sgn (M : Nat) 5 [(16, "w")] = if M.testBit 4 then "w" else "-" := by simp only [sgn, hb 5 4 16 (by decide) rfl]; rfl
  have s6 : sgn (M : Nat) 6 [(1032, "s"), (1024, "S"), (8, "x")] = if M.testBit 3 then "x" else "-" := by
    simp only [sgn, hb 6 3 8 (by decide) rfl, hn 6 10 1032 1032 (by decide) rfl (by decide) (by decide) (by decide), hn 6 10 1024 1024 (by decide) rfl (by decide) (by decide) (by decide)]; rfl
  have s7 : sgn (M : Nat) 7 [(4, "r")] = if M.testBit 2 then "r" else "-" := by simp only [sgn, hb 7 2 4 (by decide) rfl]; rfl
  have s8 : sgn (M : Nat) 8 [(2, "w")] = if M.testBit 1 then "w" else "-" := by simp only [sgn, hb 8 1 2 (by decide) rfl]; rfl
  have s9 : sgn (M : Nat) 9 [(513, "t"), (512, "T"), (1, "x")] = if M.testBit 0 then "x" else "-" := by
    simp only [sgn, hb 9 0 1 (by decide) rfl, hn 9 9 513 513 (by decide) rfl (by decide) (by decide) (by decide), hn 9 9 512 512 (by decide) rfl (by decide) (by decide) (by decide)]; rfl
  have cr : ∀ b : Bool, (S (if b then "r" else "-")).cps.toList = [if b then 114 else 45] := by decide
  have cw : ∀ b : Bool, (S (if b then "w" else "-")).cps.toList = [if b then 119 else 45] := by decide
  have cx : ∀ b : Bool, (S (if b then "x" else "-")).cps.toList = [if b then 120 else 45] := by decide
  obtain ⟨x, hx⟩ := one_of (show (S (sgn (M : Nat) 0 [(40960, "l"), (49152, "s"), (32768, "-"), (24576, "b"), (16384, "d"), (8192, "c"), (4096, "p")])).cps.toList.length = 1 from by
    rw [Array.length_toList]; exact sgn_len (fun p hp => tab_len _ (by decide) p hp))
  unfold textF
  rw [join_codes]
  show (List.drop 1 (List.flatMap (fun x => x.cps.toList) (List.map S (sgns (M : Nat) 0 tabI)))).toArray.toList = _
  have e : sgns (M : Nat) 0 tabI = [sgn (M : Nat) 0 [(40960, "l"), (49152, "s"), (32768, "-"), (24576, "b"), (16384, "d"), (8192, "c"), (4096, "p")], if M.testBit 8 then "r" else "-", if M.testBit 7 then "w" else "-", if M.testBit 6 then "x" else "-", if M.testBit 5 then "r" else "-", if M.testBit 4 then "w" else "-", if M.testBit 3 then "x" else "-", if M.testBit 2 then "r" else "-", if M.testBit 1 then "w" else "-", if M.testBit 0 then "x" else "-"] := by
    rw [← s1, ← s2, ← s3, ← s4, ← s5, ← s6, ← s7, ← s8, ← s9]; rfl
  rw [e]
  simp only [List.map_cons, List.map_nil, List.flatMap_cons, List.flatMap_nil, hx, cr, cw, cx, List.cons_append, List.nil_append, List.drop_succ_cons, List.drop_zero]
  rw [b8, b7, b6, b5, b4, b3, b2, b1, b0]
  rfl
theorem nine_nat {x : Int} (h : Nine x) : ∃ m : Nat, x = (m : Int) ∧ m < 512 := ⟨x.toNat, by have := h.1; walk_at "om", by have := h.1; have := h.2; walk_at "om"⟩
theorem text_eq (m t : Int) (h : Nine m) (h0 : 0 ≤ t) (h1 : t < 16) : textF (m + 4096 * t) = textF m := by
  obtain ⟨a, rfl, ha⟩ := nine_nat h
  obtain ⟨b, rfl⟩ : ∃ b : Nat, t = (b : Int) := ⟨t.toNat, by walk_at "om"⟩
  have e1 := text_word a b ha
  have e2 := text_word a 0 ha
  have e0 : (a : Int) + 4096 * ((0 : Nat) : Int) = (a : Int) := by walk_at "om"
  rw [e0] at e2
  have : (textF ((a : Int) + 4096 * (b : Int))).cps = (textF (a : Int)).cps := Array.toList_inj.mp (e1.trans e2.symm)
  revert this
  generalize textF ((a : Int) + 4096 * (b : Int)) = u
  generalize textF (a : Int) = v
  intro this
  cases u; cases v
  simp only at this
  rw [this]

theorem num_app : ∀ x y : List Bool, num (x ++ y) = num x * 2 ^ y.length + num y
  | [], y => by simp [num]
  | b :: x, y => by
    have e1 : num (b :: x ++ y) = b.toNat * 2 ^ (x ++ y).length + num (x ++ y) := rfl
    have e2 : num (b :: x) = b.toNat * 2 ^ x.length + num x := rfl
    rw [e1, e2, num_app x y, List.length_append, Nat.pow_add, Nat.add_mul, Nat.mul_assoc]
    walk_at "om"
theorem num_bits : ∀ m : Nat, m < 512 → num (bitsL m) = m := by decide +kernel
theorem turn_num (m p : Nat) (h : m < 512) (hp : p < 9) : turn1 p (m : Int) = ((num (rotB p (bitsL m)) : Nat) : Int) := by
  have e : turn1 p (m : Int) = (((m * 2 ^ p) % 512 + (m * 2 ^ p) / 512 : Nat) : Int) := by
    unfold turn1
    rw [Int.fmod_eq_emod_of_nonneg _ (by decide), Int.fdiv_eq_ediv_of_nonneg _ (by decide)]
    have : (m : Int) * 2 ^ p = ((m * 2 ^ p : Nat) : Int) := by push_cast; rfl
    rw [this]; walk_at "om"
  rw [e]
  congr 1
  have hm := num_bits m h
  have hsplit : num (bitsL m) = num ((bitsL m).take p) * 2 ^ ((bitsL m).drop p).length + num ((bitsL m).drop p) := by rw [← num_app, List.take_append_drop]
  have ld : ((bitsL m).drop p).length = 9 - p := by rw [List.length_drop]; rfl
  have lt : ((bitsL m).take p).length = p := by rw [List.length_take]; show min p 9 = p; walk_at "om"
  have hd := num_lt ((bitsL m).drop p)
  rw [ld] at hsplit hd
  unfold rotB
  rw [num_app, lt]
  rw [hm] at hsplit
  have h512 : 2 ^ (9 - p) * 2 ^ p = 512 := by
    rw [← Nat.pow_add]
    have : 9 - p + p = 9 := by walk_at "om"
    rw [this]
  have e2 : m * 2 ^ p = 512 * num ((bitsL m).take p) + num ((bitsL m).drop p) * 2 ^ p := by
    have : m * 2 ^ p = (num ((bitsL m).take p) * 2 ^ (9 - p) + num ((bitsL m).drop p)) * 2 ^ p := congrArg (fun z => z * 2 ^ p) hsplit
    rw [Nat.add_mul, Nat.mul_assoc, h512] at this
    rw [this, Nat.mul_comm 512]
  have e3 : num ((bitsL m).drop p) * 2 ^ p < 512 := by
    rw [← h512]
    exact Nat.mul_lt_mul_of_pos_right hd (Nat.pow_pos (by decide))
  rw [e2]
  generalize num ((bitsL m).drop p) * 2 ^ p = Y at *
  generalize num ((bitsL m).take p) = X at *
  walk_at "om"
/- the order of the rows of signs is that of the turned numbers -/
theorem key_pair (a b p : Nat) (i j : Int) (ha : a < 512) (hb : b < 512) (hp : p < 9) : keyLt (rotS p (textF (a : Int)), i) (rotS p (textF (b : Int)), j) = pairLt (turn1 p (a : Int), i) (turn1 p (b : Int), j) := by
  have wa := text_word a 0 ha
  have wb := text_word b 0 hb
  have e0 : ∀ a : Nat, (a : Int) + 4096 * ((0 : Nat) : Int) = (a : Int) := fun a => by walk_at "om"
  rw [e0] at wa wb
  have ra : (rotS p (textF (a : Int))).cps.toList = wordC (rotB p (bitsL a)) (rotB p chars) := by
    rw [← rot_word p _ _ rfl, ← wa]
    show ((List.toArray _ ++ List.toArray _ : Array Nat)).toList = _
    simp [rotB]
  have rb : (rotS p (textF (b : Int))).cps.toList = wordC (rotB p (bitsL b)) (rotB p chars) := by
    rw [← rot_word p _ _ rfl, ← wb]
    show ((List.toArray _ ++ List.toArray _ : Array Nat)).toList = _
    simp [rotB]
  have hl : ∀ m, (rotB p (bitsL m)).length = 9 := fun m => by unfold rotB; rw [List.length_append, List.length_drop, List.length_take]; show 9 - p + min p 9 = 9; walk_at "om"
  have hlc : (rotB p chars).length = 9 := by unfold rotB; rw [List.length_append, List.length_drop, List.length_take]; show 9 - p + min p 9 = 9; walk_at "om"
  have hcs : ∀ c ∈ chars, 45 < c := by decide
  have hc : ∀ c ∈ rotB p chars, 45 < c := fun c hc => by
    unfold rotB at hc
    refine hcs c ?_
    rcases List.mem_append.mp hc with h | h
    · exact List.mem_of_mem_drop h
    · exact List.mem_of_mem_take h
  obtain ⟨w1, w2⟩ := word_lt (rotB p (bitsL a)) (rotB p (bitsL b)) (rotB p chars) (by rw [hl, hl]) (by rw [hl, hlc]) hc
  rw [← ra, ← rb] at w1 w2
  unfold keyLt pairLt
  simp only
  rw [turn_num a p ha hp, turn_num b p hb hp]
  have q1 : rotS p (textF (a : Int)) = rotS p (textF (b : Int)) ↔ num (rotB p (bitsL a)) = num (rotB p (bitsL b)) := by
    rw [← w2]
    constructor
    · intro h; rw [h]
    · intro h
      have := Array.toList_inj.mp h
      revert this
      generalize rotS p (textF (a : Int)) = u
      generalize rotS p (textF (b : Int)) = v
      intro this
      cases u; cases v
      simp only at this
      rw [this]
  by_cases hq : num (rotB p (bitsL a)) = num (rotB p (bitsL b))
  · rw [if_pos (q1.mpr hq), if_pos (by rw [hq])]
  · rw [if_neg (fun h => hq (q1.mp h)), if_neg (by walk_at "om")]
    rw [decide_eq_decide, w1]; walk_at "om"
end

section
open PySem PySem.W PyProof PyProof.Rows PySem.Calls PySem.Spec

section
variable {α β : Type} (lt : β → β → Bool) (f : α → β)
theorem sdF_map (x : α) (s : Nat) : ∀ (fu pos : Nat) (l : List α), sdF lt (f x) s fu pos (l.map f) = (sdF (fun a b => lt (f a) (f b)) x s fu pos l).map f
  | 0, pos, l => by simp [sdF, List.map_set]
  | fu + 1, pos, l => by
    unfold sdF
    split
    · rw [List.getElem?_map]
      cases h : l[(pos - 1) / 2]? with
      | none => rfl
      | some p =>
        simp only [Option.map_some]
        split
        · rw [← List.map_set]; exact sdF_map x s fu _ _
        · rw [List.map_set]
    · rw [List.map_set]
theorem suF_map : ∀ (fu pos : Nat) (l : List α), suF lt fu pos (l.map f) = ((suF (fun a b => lt (f a) (f b)) fu pos l).1.map f, (suF (fun a b => lt (f a) (f b)) fu pos l).2)
  | 0, pos, l => rfl
  | fu + 1, pos, l => by
    unfold suF
    rw [List.getElem?_map, List.getElem?_map]
    cases h : l[2 * pos + 1]? with
    | none => rfl
    | some c =>
      cases h2 : l[2 * pos + 2]? with
      | none => simp only [Option.map_some, Option.map_none]; rw [← List.map_set]; exact suF_map fu _ _
      | some r =>
        simp only [Option.map_some]
        split
        · rw [← List.map_set]; exact suF_map fu _ _
        · rw [← List.map_set]; exact suF_map fu _ _
theorem siftup_map (l : List α) (pos : Nat) : siftup lt (l.map f) pos = (siftup (fun a b => lt (f a) (f b)) l pos).map f := by
  unfold siftup
  rw [List.getElem?_map]
  cases h : l[pos]? with
  | none => rfl
  | some x =>
    simp only [Option.map_some]
    rw [suF_map, List.length_map, ← List.map_set, sdF_map]
theorem heapifyF_map (l : List α) : heapifyF lt (l.map f) = (heapifyF (fun a b => lt (f a) (f b)) l).map f := by
  unfold heapifyF; rw [siftup_map, siftup_map]
theorem pushF_map (l : List α) (x : α) : pushF lt (l.map f) (f x) = (pushF (fun a b => lt (f a) (f b)) l x).map f := by
  unfold pushF
  have : l.map f ++ [f x] = (l ++ [x]).map f := by simp
  rw [this, sdF_map, List.length_map]
theorem popF_map (rest : List α) (last : α) : popF lt (rest.map f) (f last) = (f (popF (fun a b => lt (f a) (f b)) rest last).1, (popF (fun a b => lt (f a) (f b)) rest last).2.map f) := by
  cases rest with
  | nil => rfl
  | cons r rs =>
    show (f r, siftup lt (f last :: rs.map f) 0) = (f r, (siftup (fun a b => lt (f a) (f b)) (last :: rs) 0).map f)
    have : f last :: rs.map f = (last :: rs).map f := rfl
    rw [this, siftup_map]
theorem pop1_map (l : List α) : pop1 lt (l.map f) = (pop1 (fun a b => lt (f a) (f b)) l).map fun r => (f r.1, r.2.map f) := by
  rcases List.eq_nil_or_concat l with rfl | ⟨rest, last, rfl⟩
  · rfl
  · rw [List.concat_eq_append]
    unfold pop1
    have e : (rest ++ [last]).map f = rest.map f ++ [f last] := by simp
    rw [e, List.getLast?_concat, List.getLast?_concat]
    simp only [List.dropLast_concat, Option.map_some]
    rw [popF_map]
theorem listedF_map : ∀ (n : Nat) (l : List α), listedF lt n (l.map f) = (listedF (fun a b => lt (f a) (f b)) n l).map f
  | 0, l => rfl
  | n + 1, l => by
    unfold listedF
    rw [pop1_map]
    cases h : pop1 (fun a b => lt (f a) (f b)) l with
    | none => rfl
    | some r => simp only [Option.map_some, List.map_cons]; rw [listedF_map n]
end

/- the order of the ranks -/
noncomputable def ltF {n : Nat} (a b : Fin n) : Bool := decide (a < b)
noncomputable def nodups (n : Nat) : Nat → List (List (Fin n))
  | 0 => [[]]
  | k + 1 => (nodups n k).flatMap fun l => ((List.finRange n).filter fun x => !l.contains x).map fun x => x :: l
theorem mem_nodups {n : Nat} : ∀ {l : List (Fin n)}, l.Nodup → l ∈ nodups n l.length
  | [], _ => by simp [nodups]
  | x :: l, h => by
    rw [List.nodup_cons] at h
    show x :: l ∈ nodups n (l.length + 1)
    unfold nodups
    rw [List.mem_flatMap]
    refine ⟨l, mem_nodups h.2, ?_⟩
    rw [List.mem_map]
    exact ⟨x, by rw [List.mem_filter]; exact ⟨List.mem_finRange x, by simpa using h.1⟩, rfl⟩
noncomputable def heapOK {n : Nat} (l : List (Fin n)) : Bool := (List.range l.length).all fun i => match l[(i - 1) / 2]?, l[i]? with
  | some a, some b => i == 0 || ltF a b
  | _, _ => true
noncomputable def okList (n : Nat) : Bool := (nodups n n).all fun l => listedF ltF n (heapifyF ltF l) == List.finRange n
noncomputable def okPush (n : Nat) : Bool := (List.range n).all fun k => (nodups n k).all fun h => !heapOK h || (List.finRange n).all fun x => h.contains x || (heapOK (pushF ltF h x) && (pushF ltF h x).isPerm (x :: h))
noncomputable def okPop (n : Nat) : Bool := (List.range n).all fun k => (nodups n (k + 1)).all fun l => !heapOK l || match pop1 ltF l with
  | some (x, l') => heapOK l' && (x :: l').isPerm l && l'.all (ltF x)
  | none => false
noncomputable def okKas (n : Nat) : Bool := (nodups n n).all fun rk => match KRun n (fun i j => decide ((rk.map (·.val)).getD i 0 < (rk.map (·.val)).getD j 0)) (kas_sort n) with
  | some p => (p.toList.all fun i => decide (i < n)) && (p.toList.map fun i => (rk.map (·.val)).getD i 0) == List.range n
  | none => false
theorem ok4 : okList 4 = true ∧ okPush 4 = true ∧ okPop 4 = true ∧ okKas 4 = true := ⟨by decide +kernel, by decide +kernel, by decide +kernel, by decide +kernel⟩
theorem ok5 : okList 5 = true ∧ okPush 5 = true ∧ okPop 5 = true ∧ okKas 5 = true := ⟨by decide +kernel, by decide +kernel, by decide +kernel, by decide +kernel⟩
end

section
open PySem PySem.W PyProof PyProof.Rows PySem.Calls PySem.Spec

theorem pairLt_iff (x y : Int × Int) : pairLt x y = true ↔ x.1 < y.1 ∨ (x.1 = y.1 ∧ x.2 < y.2) := by
  unfold pairLt
  split
  · rename_i h; simp [h]
  · rename_i h; simp [h]
theorem pairLt_false (x y : Int × Int) : pairLt x y = false ↔ ¬ (x.1 < y.1 ∨ (x.1 = y.1 ∧ x.2 < y.2)) := by
  rw [← pairLt_iff, Bool.not_eq_true]

structure Rk (n : Nat) (K : List (Str × Int)) (P : List (Int × Int)) (rkl : List (Fin n)) (g : Fin n → Str × Int) (gp : Fin n → Int × Int) : Prop where
  hK : K = rkl.map g
  hP : P = rkl.map gp
  hlt : ∀ r s, keyLt (g r) (g s) = ltF r s
  hltp : ∀ r s, pairLt (gp r) (gp s) = ltF r s
  h2 : ∀ r, (g r).2 = (gp r).2
  nd : rkl.Nodup
  len : rkl.length = n
  sur : ∀ r, r ∈ rkl

theorem turnF_get (md : List Int) (p i : Nat) (h : i < md.length) : (turnF md p)[i]? = some (turn1 p md[i], ((i : Nat) : Int)) := by
  unfold turnF
  rw [List.getElem?_map, List.getElem?_range h]
  simp [h]
theorem turnF_len (md : List Int) (p : Nat) : (turnF md p).length = md.length := by simp [turnF]
theorem turnF_snd (md : List Int) (p : Nat) : (turnF md p).map (·.2) = (List.range md.length).map fun (i : Nat) => (i : Int) := by
  unfold turnF; rw [List.map_map]; rfl
theorem nodup_of_map {α β : Type} (f : α → β) : ∀ {l : List α}, (l.map f).Nodup → l.Nodup
  | [], _ => .nil
  | x :: l, h => by
    rw [List.map_cons, List.nodup_cons] at h
    rw [List.nodup_cons]
    exact ⟨fun hx => h.1 (List.mem_map_of_mem hx), nodup_of_map f h.2⟩
theorem nodup_map_of {α β : Type} (f : α → β) : ∀ {l : List α}, (∀ a ∈ l, ∀ b ∈ l, f a = f b → a = b) → l.Nodup → (l.map f).Nodup
  | [], _, _ => .nil
  | x :: l, hf, h => by
    rw [List.nodup_cons] at h
    rw [List.map_cons, List.nodup_cons]
    refine ⟨fun hx => ?_, nodup_map_of f (fun a ha b hb => hf a (by simp [ha]) b (by simp [hb])) h.2⟩
    obtain ⟨y, hy, e⟩ := List.mem_map.mp hx
    exact h.1 (hf y (by simp [hy]) x (by simp) e ▸ hy)
theorem ints_nodup (n : Nat) : ((List.range n).map fun (i : Nat) => (i : Int)).Nodup := nodup_map_of _ (fun a _ b _ h => by walk_at "om") List.nodup_range

theorem ranked (md : List Int) (h9 : ∀ x ∈ md, Nine x) (p : Nat) (hp : p < 9) : ∃ rkl g gp, Rk md.length (keysF (md.map textF) p) (turnF md p) rkl g gp := by
  have hPn : (turnF md p).Nodup := nodup_of_map (·.2) (by rw [turnF_snd]; exact ints_nodup _)
  have hlen := turnF_len md p
  have hperm := List.mergeSort_perm (turnF md p) (fun x y => !pairLt y x)
  have hsort := List.pairwise_mergeSort (le := fun x y : Int × Int => !pairLt y x) (fun a b c h1 h2 => by
    simp only [Bool.not_eq_true', pairLt_false] at h1 h2 ⊢
    walk_at "om") (fun a b => by
    simp only [Bool.or_eq_true, Bool.not_eq_true', pairLt_false]
    walk_at "om") (turnF md p)
  generalize hSP : (turnF md p).mergeSort (fun x y => !pairLt y x) = SP at hperm hsort
  have hSl : SP.length = md.length := by rw [hperm.length_eq, hlen]
  have hSn : SP.Nodup := hperm.nodup_iff.mpr hPn
  let gp : Fin md.length → Int × Int := fun r => SP[r.val]'(by rw [hSl]; exact r.isLt)
  let keyOf : Int × Int → Str × Int := fun x => (rotS p (textF (md.getD x.2.toNat 0)), x.2)
  have hPm : ∀ i (h : i < md.length), (turnF md p)[i]'(by rw [hlen]; exact h) = (turn1 p md[i], ((i : Nat) : Int)) := fun i h => by
    have := turnF_get md p i h
    rw [List.getElem?_eq_getElem (by rw [hlen]; exact h)] at this
    exact Option.some.inj this
  let rank : Fin md.length → Fin md.length := fun i => ⟨SP.idxOf ((turnF md p)[i.val]'(by rw [hlen]; exact i.isLt)), Nat.lt_of_lt_of_eq (List.idxOf_lt_length_iff.mpr (hperm.mem_iff.mpr (List.getElem_mem _))) hSl⟩
  have hgr : ∀ i : Fin md.length, gp (rank i) = (turnF md p)[i.val]'(by rw [hlen]; exact i.isLt) := fun i => List.getElem_idxOf _
  have hmemP : ∀ r, ∃ i : Fin md.length, gp r = (turnF md p)[i.val]'(by rw [hlen]; exact i.isLt) := fun r => by
    have hm : gp r ∈ turnF md p := hperm.mem_iff.mp (List.getElem_mem _)
    obtain ⟨i, hi, e⟩ := List.getElem_of_mem hm
    exact ⟨⟨i, by rw [← hlen]; exact hi⟩, e.symm⟩
  have hpl : ∀ r s, pairLt (gp r) (gp s) = ltF r s := fun r s => by
    have key : ∀ r s : Fin md.length, r < s → pairLt (gp r) (gp s) = true := fun r s hrs => by
      have h1 := (List.pairwise_iff_getElem.mp hsort) r.val s.val (by rw [hSl]; exact r.isLt) (by rw [hSl]; exact s.isLt) hrs
      have h2 : gp r ≠ gp s := fun e => by
        have a1 := hSn.idxOf_getElem r.val (by rw [hSl]; exact r.isLt)
        have a2 := hSn.idxOf_getElem s.val (by rw [hSl]; exact s.isLt)
        have : (r.val : Nat) = s.val := by rw [← a1, ← a2]; exact congrArg (fun z => SP.idxOf z) e
        have hrs' : r.val < s.val := hrs
        walk_at "om"
      simp only [Bool.not_eq_true', pairLt_false] at h1
      rw [pairLt_iff]
      have h3 : ¬ ((gp s).1 < (gp r).1 ∨ ((gp s).1 = (gp r).1 ∧ (gp s).2 < (gp r).2)) := h1
      have h4 : ¬ ((gp r).1 = (gp s).1 ∧ (gp r).2 = (gp s).2) := fun ⟨x, y⟩ => h2 (Prod.ext x y)
      walk_at "om"
    unfold ltF
    by_cases h : r < s
    · rw [key r s h, decide_eq_true h]
    · rw [decide_eq_false h, pairLt_false]
      by_cases h' : s < r
      · have := key s r h'
        rw [pairLt_iff] at this
        walk_at "om"
      · have : r = s := by
          apply Fin.ext
          have a1 : ¬ r.val < s.val := h
          have a2 : ¬ s.val < r.val := h'
          walk_at "om"
        subst this
        walk_at "om"
  have hkp : ∀ r s, keyLt (keyOf (gp r)) (keyOf (gp s)) = pairLt (gp r) (gp s) := fun r s => by
    obtain ⟨i, hi⟩ := hmemP r
    obtain ⟨j, hj⟩ := hmemP s
    rw [hi, hj, hPm i.val i.isLt, hPm j.val j.isLt]
    obtain ⟨a, ea, ha⟩ := nine_nat (h9 md[i.val] (List.getElem_mem _))
    obtain ⟨b, eb, hb⟩ := nine_nat (h9 md[j.val] (List.getElem_mem _))
    have e1 : keyOf (turn1 p md[i.val], ((i.val : Nat) : Int)) = (rotS p (textF (a : Int)), ((i.val : Nat) : Int)) := by
      show (rotS p (textF (md.getD ((i.val : Nat) : Int).toNat 0)), _) = _
      rw [Int.toNat_natCast, List.getD_eq_getElem?_getD, List.getElem?_eq_getElem i.isLt, Option.getD_some, ea]
    have e2 : keyOf (turn1 p md[j.val], ((j.val : Nat) : Int)) = (rotS p (textF (b : Int)), ((j.val : Nat) : Int)) := by
      show (rotS p (textF (md.getD ((j.val : Nat) : Int).toNat 0)), _) = _
      rw [Int.toNat_natCast, List.getD_eq_getElem?_getD, List.getElem?_eq_getElem j.isLt, Option.getD_some, eb]
    rw [e1, e2, key_pair a b p _ _ ha hb hp, ea, eb]
  have hPmap : turnF md p = ((List.finRange md.length).map rank).map gp := by
    apply List.ext_getElem
    · simp [hlen]
    · intro i h1 h2
      rw [List.getElem_map, List.getElem_map, List.getElem_finRange]
      exact (hgr ⟨i, by rw [← hlen]; exact h1⟩).symm
  refine ⟨(List.finRange md.length).map rank, fun r => keyOf (gp r), gp, ?_, hPmap, fun r s => (hkp r s).trans (hpl r s), hpl, fun _ => rfl, ?_, by simp, fun r => ?_⟩
  · have : keysF (md.map textF) p = (turnF md p).map keyOf := by
      apply List.ext_getElem
      · rw [keysF_len, List.length_map, List.length_map, hlen]
      · intro i h1 h2
        have hi : i < md.length := by rw [List.length_map, hlen] at h2; exact h2
        rw [List.getElem_map, hPm i hi]
        show (keysF (md.map textF) p)[i] = (rotS p (textF (md.getD ((i : Nat) : Int).toNat 0)), ((i : Nat) : Int))
        rw [Int.toNat_natCast, List.getD_eq_getElem?_getD, List.getElem?_eq_getElem hi]
        simp [keysF]
    rw [this, hPmap, List.map_map, List.map_map, List.map_map]
    have e := hPmap
    rfl
  · have : (((List.finRange md.length).map rank).map gp).Nodup := by rw [← hPmap]; exact hPn
    exact nodup_of_map gp this
  · obtain ⟨i, hi⟩ := hmemP r
    have : rank i = r := by
      apply Fin.ext
      show SP.idxOf _ = r.val
      rw [← hi]
      exact hSn.idxOf_getElem r.val (by rw [hSl]; exact r.isLt)
    rw [← this]
    exact List.mem_map_of_mem (List.mem_finRange i)
end

section
open PySem PySem.W PyProof PyProof.Rows PySem.Calls PySem.Spec

theorem okL {n : Nat} (h : n = 4 ∨ n = 5) : okList n = true ∧ okPush n = true ∧ okPop n = true ∧ okKas n = true := by
  rcases h with rfl | rfl
  · exact ok4
  · exact ok5
theorem listed_all {n : Nat} (h : n = 4 ∨ n = 5) {l : List (Fin n)} (nd : l.Nodup) (hl : l.length = n) : listedF ltF n (heapifyF ltF l) = List.finRange n := by
  have := (okL h).1
  unfold okList at this
  rw [List.all_eq_true] at this
  have hm := mem_nodups nd
  rw [hl] at hm
  exact beq_iff_eq.mp (this l hm)

section
variable {md : List Int} {p : Nat} {rkl : List (Fin md.length)} {g : Fin md.length → Str × Int} {gp : Fin md.length → Int × Int}
theorem row_is (hn : md.length = 4 ∨ md.length = 5) (R : Rk md.length (keysF (md.map textF) p) (turnF md p) rkl g gp) : rowF md p = (List.finRange md.length).map fun r => (gp r).2 := by
  unfold rowF
  rw [R.hK, heapifyF_map, listedF_map]
  have e : (fun a b => keyLt (g a) (g b)) = ltF := by funext r s; exact R.hlt r s
  rw [e, listed_all hn R.nd R.len, List.map_map]
  apply List.map_congr_left
  intro r _
  exact R.h2 r
theorem gp_at (R : Rk md.length (keysF (md.map textF) p) (turnF md p) rkl g gp) (i : Nat) (h : i < md.length) : gp (rkl[i]'(by rw [R.len]; exact h)) = (turn1 p md[i], ((i : Nat) : Int)) := by
  have e := turnF_get md p i h
  rw [R.hP, List.getElem?_map, List.getElem?_eq_getElem (by rw [R.len]; exact h)] at e
  exact Option.some.inj e
theorem node_of (R : Rk md.length (keysF (md.map textF) p) (turnF md p) rkl g gp) (r : Fin md.length) : ∃ i, ∃ h : i < md.length, rkl[i]'(by rw [R.len]; exact h) = r ∧ (gp r).2 = ((i : Nat) : Int) := by
  obtain ⟨i, hi, e⟩ := List.getElem_of_mem (R.sur r)
  have hi' : i < md.length := by rw [← R.len]; exact hi
  refine ⟨i, hi', e, ?_⟩
  have := gp_at R i hi'
  rw [e] at this
  rw [this]
theorem node_inj (R : Rk md.length (keysF (md.map textF) p) (turnF md p) rkl g gp) (r s : Fin md.length) (h : (gp r).2 = (gp s).2) : r = s := by
  obtain ⟨i, hi, e1, e2⟩ := node_of R r
  obtain ⟨j, hj, e3, e4⟩ := node_of R s
  have : i = j := by rw [e2, e4] at h; walk_at "om"
  subst this
  rw [← e1, ← e3]
theorem row_nodup (hn : md.length = 4 ∨ md.length = 5) (R : Rk md.length (keysF (md.map textF) p) (turnF md p) rkl g gp) : (rowF md p).Nodup := by
  rw [row_is hn R]
  exact nodup_map_of _ (fun a _ b _ h => node_inj R a b h) (List.nodup_finRange _)
theorem row_mem (hn : md.length = 4 ∨ md.length = 5) (R : Rk md.length (keysF (md.map textF) p) (turnF md p) rkl g gp) (x : Int) : x ∈ rowF md p ↔ ∃ i : Nat, i < md.length ∧ x = (i : Int) := by
  rw [row_is hn R, List.mem_map]
  constructor
  · rintro ⟨r, _, rfl⟩
    obtain ⟨i, hi, _, e⟩ := node_of R r
    exact ⟨i, hi, e⟩
  · rintro ⟨i, hi, rfl⟩
    exact ⟨rkl[i]'(by rw [R.len]; exact hi), List.mem_finRange _, by rw [gp_at R i hi]⟩
theorem row_len (hn : md.length = 4 ∨ md.length = 5) (R : Rk md.length (keysF (md.map textF) p) (turnF md p) rkl g gp) : (rowF md p).length = md.length := by
  rw [row_is hn R]; simp
theorem row_before (hn : md.length = 4 ∨ md.length = 5) (R : Rk md.length (keysF (md.map textF) p) (turnF md p) rkl g gp) (j k : Nat) (hj : j < md.length) (hk : k < md.length) :
    ((j : Nat) : Int) ∈ before ((k : Nat) : Int) (rowF md p) ↔ pairLt (turn1 p md[j], ((j : Nat) : Int)) (turn1 p md[k], ((k : Nat) : Int)) = true := by
  have hlen := row_len hn R
  have hget : ∀ v (h : v < md.length), (rowF md p)[v]'(by rw [hlen]; exact h) = (gp ⟨v, h⟩).2 := fun v h => by
    have : ∀ (l : List Int) (e : l = (List.finRange md.length).map fun r => (gp r).2) (hv : v < l.length), l[v] = (gp ⟨v, h⟩).2 := by
      rintro l rfl hv
      rw [List.getElem_map, List.getElem_finRange]
      rfl
    exact this _ (row_is hn R) _
  have hidx : (rowF md p).idxOf ((k : Nat) : Int) = (rkl[k]'(by rw [R.len]; exact hk)).val := by
    have h1 := (row_nodup hn R).idxOf_getElem (rkl[k]'(by rw [R.len]; exact hk)).val (by rw [hlen]; exact Fin.isLt _)
    rw [hget _ (Fin.isLt _)] at h1
    have h2 : (gp (rkl[k]'(by rw [R.len]; exact hk))).2 = ((k : Nat) : Int) := by rw [gp_at R k hk]
    rw [h2] at h1
    exact h1
  unfold before
  rw [hidx, List.mem_take_iff_getElem, ← gp_at R j hj, ← gp_at R k hk, R.hltp]
  unfold ltF
  rw [decide_eq_true_iff]
  constructor
  · rintro ⟨v, hv, e⟩
    have hvn : v < md.length := by rw [hlen] at hv; walk_at "om"
    have hv2 : v < (rkl[k]'(by rw [R.len]; exact hk)).val := by walk_at "om"
    rw [hget v hvn] at e
    have : (⟨v, hvn⟩ : Fin md.length) = rkl[j]'(by rw [R.len]; exact hj) := node_inj R _ _ (by rw [e, gp_at R j hj])
    rw [← this]
    exact hv2
  · intro h
    have h' : (rkl[j]'(by rw [R.len]; exact hj)).val < (rkl[k]'(by rw [R.len]; exact hk)).val := h
    have hlt := (rkl[j]'(by rw [R.len]; exact hj)).isLt
    refine ⟨(rkl[j]'(by rw [R.len]; exact hj)).val, by rw [hlen]; walk_at "om", ?_⟩
    rw [hget _ hlt]
    show (gp (rkl[j]'(by rw [R.len]; exact hj))).2 = _
    rw [gp_at R j hj]
end

/- what stands ahead in all the rows -/
theorem mem_cuts (k x : Int) : ∀ (rs : List (List Int)) (acc : List Int), x ∈ rs.foldl (cut k) acc ↔ x ∈ acc ∧ ∀ r ∈ rs, x ∈ before k r
  | [], acc => by simp
  | r :: rs, acc => by
    rw [List.foldl_cons, mem_cuts k x rs, List.forall_mem_cons]
    unfold cut
    rw [List.mem_filter]
    simp only [List.contains_iff_mem]
    exact ⟨fun ⟨⟨a, b⟩, c⟩ => ⟨a, b, c⟩, fun ⟨a, b, c⟩ => ⟨⟨a, b⟩, c⟩⟩
theorem nodup_cuts (k : Int) : ∀ (rs : List (List Int)) (acc : List Int), acc.Nodup → (rs.foldl (cut k) acc).Nodup
  | [], acc, h => h
  | r :: rs, acc, h => by rw [List.foldl_cons]; exact nodup_cuts k rs _ (h.filter _)
theorem mem_ahead (k x : Int) (rs : List (List Int)) (h : rs ≠ []) : x ∈ aheadF k rs ↔ ∀ r ∈ rs, x ∈ before k r := by
  cases rs with
  | nil => exact absurd rfl h
  | cons r rs => unfold aheadF; rw [mem_cuts, List.forall_mem_cons]
theorem nodup_ahead (k : Int) (rs : List (List Int)) (h : ∀ r ∈ rs, r.Nodup) : (aheadF k rs).Nodup := by
  cases rs with
  | nil => exact .nil
  | cons r rs => exact nodup_cuts k rs _ ((h r (by simp)).sublist (List.take_sublist _ _))

/- rights that are all within others -/
noncomputable def leL : List Bool → List Bool → Bool
  | [], [] => true
  | x :: a, y :: b => (!x || y) && leL a b
  | _, _ => false
theorem leL_len : ∀ {a b : List Bool}, leL a b = true → a.length = b.length
  | [], [], _ => rfl
  | _ :: a, _ :: b, h => by
    simp only [leL, Bool.and_eq_true] at h
    rw [List.length_cons, List.length_cons, leL_len h.2]
  | [], _ :: _, h => by simp [leL] at h
  | _ :: _, [], h => by simp [leL] at h
theorem leL_app : ∀ {a b c d : List Bool}, leL a b = true → leL c d = true → leL (a ++ c) (b ++ d) = true
  | [], [], c, d, _, h => h
  | x :: a, y :: b, c, d, h, h' => by
    simp only [leL, Bool.and_eq_true, List.cons_append] at h ⊢
    exact ⟨h.1, leL_app h.2 h'⟩
  | [], _ :: _, _, _, h, _ => by simp [leL] at h
  | _ :: _, [], _, _, h, _ => by simp [leL] at h
theorem leL_drop : ∀ {a b : List Bool} (n : Nat), leL a b = true → leL (a.drop n) (b.drop n) = true
  | a, b, 0, h => h
  | [], [], n + 1, h => h
  | x :: a, y :: b, n + 1, h => by
    simp only [leL, Bool.and_eq_true, List.drop_succ_cons] at h ⊢
    exact leL_drop n h.2
  | [], _ :: _, _ + 1, h => by simp [leL] at h
  | _ :: _, [], _ + 1, h => by simp [leL] at h
theorem leL_take : ∀ {a b : List Bool} (n : Nat), leL a b = true → leL (a.take n) (b.take n) = true
  | a, b, 0, h => rfl
  | [], [], n + 1, h => h
  | x :: a, y :: b, n + 1, h => by
    simp only [leL, Bool.and_eq_true, List.take_succ_cons] at h ⊢
    exact ⟨h.1, leL_take n h.2⟩
  | [], _ :: _, _ + 1, h => by simp [leL] at h
  | _ :: _, [], _ + 1, h => by simp [leL] at h
theorem leL_num : ∀ {a b : List Bool}, leL a b = true → num a ≤ num b ∧ (num a = num b → a = b)
  | [], [], _ => ⟨Nat.le_refl _, fun _ => rfl⟩
  | x :: a, y :: b, h => by
    simp only [leL, Bool.and_eq_true] at h
    obtain ⟨i1, i2⟩ := leL_num h.2
    have hl := leL_len h.2
    have n1 : num (x :: a) = x.toNat * 2 ^ a.length + num a := rfl
    have n2 : num (y :: b) = y.toNat * 2 ^ b.length + num b := rfl
    have hb := num_lt b
    have ha := num_lt a
    rw [n1, n2]
    rw [← hl] at hb ⊢
    have h1 := h.1
    cases x <;> cases y <;> simp at h1 ⊢
    · exact ⟨i1, i2⟩
    · walk_at "om"
    · exact ⟨i1, i2⟩
  | [], _ :: _, h => by simp [leL] at h
  | _ :: _, [], h => by simp [leL] at h
theorem rotB_inj {a b : List Bool} (p : Nat) (hl : a.length = b.length) (h : rotB p a = rotB p b) : a = b := by
  unfold rotB at h
  obtain ⟨h1, h2⟩ := List.append_inj h (by simp [hl])
  rw [← List.take_append_drop p a, ← List.take_append_drop p b, h1, h2]
theorem bits_sub {a b : Nat} (h : a &&& b = a) : leL (bitsL a) (bitsL b) = true := by
  have hb : ∀ i, (!a.testBit i || b.testBit i) = true := fun i => by
    have := congrArg (fun z => z.testBit i) h
    simp only [Nat.testBit_and] at this
    revert this
    cases a.testBit i <;> cases b.testBit i <;> simp
  simp only [leL, bitsL, hb, Bool.and_self]
theorem bits_head (a : Nat) (i : Nat) (hi : i < 9) : ∃ rest, rotB (8 - i) (bitsL a) = a.testBit i :: rest ∧ rest.length = 8 := by
  match i, hi with
  | 0, _ => exact ⟨_, rfl, rfl⟩
  | 1, _ => exact ⟨_, rfl, rfl⟩
  | 2, _ => exact ⟨_, rfl, rfl⟩
  | 3, _ => exact ⟨_, rfl, rfl⟩
  | 4, _ => exact ⟨_, rfl, rfl⟩
  | 5, _ => exact ⟨_, rfl, rfl⟩
  | 6, _ => exact ⟨_, rfl, rfl⟩
  | 7, _ => exact ⟨_, rfl, rfl⟩
  | 8, _ => exact ⟨_, rfl, rfl⟩
theorem all_rows (a b : Nat) (ha : a < 512) (hb : b < 512) (j k : Int) : (∀ p, p < 9 → pairLt (turn1 p (a : Int), j) (turn1 p (b : Int), k) = true) ↔ (a &&& b = a ∧ pairLt ((a : Int), j) ((b : Int), k) = true) := by
  have t0 : ∀ m : Nat, m < 512 → turn1 0 (m : Int) = (m : Int) := fun m hm => by
    rw [turn_num m 0 hm (by decide)]
    have : rotB 0 (bitsL m) = bitsL m := by unfold rotB; simp
    rw [this, num_bits m hm]
  constructor
  · intro h
    refine ⟨?_, ?_⟩
    · apply Nat.eq_of_testBit_eq
      intro i
      rw [Nat.testBit_and]
      cases hai : a.testBit i with
      | false => rfl
      | true =>
        have hi : i < 9 := by
          rcases Nat.lt_or_ge i 9 with h' | h'
          · exact h'
          · rw [Nat.testBit_lt_two_pow (Nat.lt_of_lt_of_le ha (Nat.pow_le_pow_right (n := 2) (by decide) h' : 2 ^ 9 ≤ 2 ^ i))] at hai
            cases hai
        cases hbi : b.testBit i with
        | true => rfl
        | false =>
          exfalso
          have hp := h (8 - i) (by walk_at "om")
          rw [pairLt_iff, turn_num a _ ha (by walk_at "om"), turn_num b _ hb (by walk_at "om")] at hp
          obtain ⟨r1, e1, l1⟩ := bits_head a i hi
          obtain ⟨r2, e2, l2⟩ := bits_head b i hi
          rw [e1, e2, hai, hbi] at hp
          have n1 : num (true :: r1) = 1 * 2 ^ r1.length + num r1 := rfl
          have n2 : num (false :: r2) = 0 * 2 ^ r2.length + num r2 := rfl
          have q := num_lt r2
          rw [n1, n2, l1, l2] at hp
          rw [l2] at q
          simp only at hp
          walk_at "om"
    · have := h 0 (by decide)
      rw [t0 a ha, t0 b hb] at this
      exact this
  · rintro ⟨h1, h2⟩ p hp
    have hs := bits_sub h1
    have hrot : leL (rotB p (bitsL a)) (rotB p (bitsL b)) = true := leL_app (leL_drop p hs) (leL_take p hs)
    obtain ⟨q1, q2⟩ := leL_num hrot
    rw [pairLt_iff] at h2 ⊢
    rw [turn_num a p ha hp, turn_num b p hb hp]
    simp only at h2 ⊢
    by_cases hab : a = b
    · subst hab
      right
      exact ⟨rfl, by walk_at "om"⟩
    · left
      have : num (rotB p (bitsL a)) ≠ num (rotB p (bitsL b)) := fun e => hab (by
        have := rotB_inj (a := bitsL a) (b := bitsL b) p rfl (q2 e)
        rw [← num_bits a ha, ← num_bits b hb, this])
      walk_at "om"

theorem inc_ext : ∀ {l l' : List Int}, l.Pairwise (· < ·) → l'.Pairwise (· < ·) → (∀ x, x ∈ l ↔ x ∈ l') → l = l'
  | [], [], _, _, _ => rfl
  | [], y :: l', _, _, h => by have := (h y).mpr (by simp); simp at this
  | x :: l, [], _, _, h => by have := (h x).mp (by simp); simp at this
  | x :: l, y :: l', h1, h2, h => by
    rw [List.pairwise_cons] at h1 h2
    have hxy : x = y := by
      have a1 := (h x).mp (by simp)
      have a2 := (h y).mpr (by simp)
      rcases List.mem_cons.mp a1 with e | e
      · exact e
      · rcases List.mem_cons.mp a2 with e' | e'
        · exact e'.symm
        · have := h1.1 y e'
          have := h2.1 x e
          walk_at "om"
    subst hxy
    congr 1
    refine inc_ext h1.2 h2.2 fun z => ?_
    have := h z
    simp only [List.mem_cons] at this
    constructor
    · intro hz
      rcases this.mp (.inr hz) with e | e
      · subst e; have := h1.1 z hz; walk_at "om"
      · exact e
    · intro hz
      rcases this.mpr (.inr hz) with e | e
      · subst e; have := h2.1 z hz; walk_at "om"
      · exact e

theorem ahead_mem (md : List Int) (hn : md.length = 4 ∨ md.length = 5) (h9 : ∀ x ∈ md, Nine x) (k : Nat) (hk : k < md.length) (x : Int) :
    x ∈ aheadF (k : Nat) (rowsF md) ↔ ∃ j : Nat, ∃ h : j < md.length, x = (j : Int) ∧ ∀ p, p < 9 → pairLt (turn1 p md[j], ((j : Nat) : Int)) (turn1 p md[k], ((k : Nat) : Int)) = true := by
  have hne : rowsF md ≠ [] := by unfold rowsF; simp
  rw [mem_ahead _ _ _ hne]
  constructor
  · intro h
    obtain ⟨rkl, g, gp, R⟩ := ranked md h9 0 (by decide)
    have hx : x ∈ rowF md 0 := by
      have := h (rowF md 0) (by unfold rowsF; exact List.mem_map_of_mem (by simp))
      exact List.mem_of_mem_take this
    obtain ⟨j, hj, rfl⟩ := (row_mem hn R x).mp hx
    refine ⟨j, hj, rfl, fun p hp => ?_⟩
    obtain ⟨rkl, g, gp, R⟩ := ranked md h9 p hp
    exact (row_before hn R j k hj hk).mp (h (rowF md p) (by unfold rowsF; exact List.mem_map_of_mem (List.mem_range.mpr hp)))
  · rintro ⟨j, hj, rfl, h⟩ r hr
    unfold rowsF at hr
    obtain ⟨p, hp, rfl⟩ := List.mem_map.mp hr
    rw [List.mem_range] at hp
    obtain ⟨rkl, g, gp, R⟩ := ranked md h9 p hp
    exact (row_before hn R j k hj hk).mpr (h p hp)
theorem ahead_nodup (md : List Int) (hn : md.length = 4 ∨ md.length = 5) (h9 : ∀ x ∈ md, Nine x) (k : Int) : (aheadF k (rowsF md)).Nodup := nodup_ahead _ _ fun r hr => by
  unfold rowsF at hr
  obtain ⟨p, hp, rfl⟩ := List.mem_map.mp hr
  rw [List.mem_range] at hp
  obtain ⟨rkl, g, gp, R⟩ := ranked md h9 p hp
  exact row_nodup hn R
theorem ahead_within (md : List Int) (hn : md.length = 4 ∨ md.length = 5) (h9 : ∀ x ∈ md, Nine x) (k : Nat) (hk : k < md.length) (ns' : List Int) (hp : ns'.Perm (aheadF (k : Nat) (rowsF md))) (hs : ns'.Pairwise (· ≤ ·)) : ns' = withinF md k := by
  have nd : ns'.Nodup := hp.nodup_iff.mpr (ahead_nodup md hn h9 _)
  refine inc_ext ?_ ?_ fun x => ?_
  · have := hs.and nd
    exact this.imp fun ⟨a, b⟩ => by walk_at "om"
  · unfold withinF
    rw [List.pairwise_map]
    have : (List.range md.length).Pairwise (· < ·) := List.pairwise_lt_range
    exact (this.filter _).imp fun h => by walk_at "om"
  · rw [hp.mem_iff, ahead_mem md hn h9 k hk]
    unfold withinF
    rw [List.mem_map]
    obtain ⟨b, eb, hb⟩ := nine_nat (h9 md[k] (List.getElem_mem _))
    have wb : ∀ j (hj : j < md.length), withB md k j = true ↔ ∀ p, p < 9 → pairLt (turn1 p md[j], ((j : Nat) : Int)) (turn1 p md[k], ((k : Nat) : Int)) = true := fun j hj => by
      obtain ⟨a, ea, ha⟩ := nine_nat (h9 md[j] (List.getElem_mem _))
      rw [ea, eb, all_rows a b ha hb]
      unfold withB
      rw [List.getD_eq_getElem?_getD, List.getD_eq_getElem?_getD, List.getElem?_eq_getElem hj, List.getElem?_eq_getElem hk, Option.getD_some, Option.getD_some, ea, eb, and_nat, Bool.and_eq_true, beq_iff_eq]
      constructor
      · rintro ⟨u, v⟩; exact ⟨by walk_at "om", v⟩
      · rintro ⟨u, v⟩; exact ⟨by walk_at "om", v⟩
    constructor
    · rintro ⟨j, hj, rfl, h⟩
      exact ⟨j, by rw [List.mem_filter]; exact ⟨List.mem_range.mpr hj, (wb j hj).mpr h⟩, rfl⟩
    · rintro ⟨j, hj, rfl⟩
      rw [List.mem_filter, List.mem_range] at hj
      exact ⟨j, hj.1, rfl, (wb j hj.1).mp hj.2⟩
end

section
open PySem PySem.W PyProof PyProof.Rows PySem.Calls PySem.Spec

/- the sort of the turned numbers -/
theorem KRun_congr {α : Type} {n : Nat} {lt lt' : Nat → Nat → Bool} (h : ∀ i j, i < n → j < n → lt i j = lt' i j) : ∀ t : KasT α, KRun n lt t = KRun n lt' t
  | .ret a => rfl
  | .ask i j k => by
    unfold KRun
    split
    · rename_i hij
      rw [h i j hij.1 hij.2]
      exact KRun_congr h _
    · rfl
theorem turned_ok (md : List Int) (hn : md.length = 4 ∨ md.length = 5) (h9 : ∀ x ∈ md, Nine x) (start : Nat) (hs : start < 9) :
    ∃ p : Array Nat, KRun md.length (fun i j => pairLt ((turnF md start).getD i (0, 0)) ((turnF md start).getD j (0, 0))) (kas_sort md.length) = some p ∧ (∀ i ∈ p.toList, i < md.length) ∧
      ((p.toList.map fun i => (turnF md start).getD i (0, 0)).map (·.2)) = rowF md start := by
  obtain ⟨rkl, g, gp, R⟩ := ranked md h9 start hs
  have hk := (okL hn).2.2.2
  unfold okKas at hk
  rw [List.all_eq_true] at hk
  have hm := mem_nodups R.nd
  rw [R.len] at hm
  have hk := hk rkl hm
  have hv : ∀ i (h : i < md.length), (rkl.map (·.val)).getD i 0 = (rkl[i]'(by rw [R.len]; exact h)).val := fun i h => by
    rw [List.getD_eq_getElem?_getD, List.getElem?_map, List.getElem?_eq_getElem (by rw [R.len]; exact h)]; rfl
  have ht : ∀ i (h : i < md.length), (turnF md start).getD i (0, 0) = gp (rkl[i]'(by rw [R.len]; exact h)) := fun i h => by
    rw [gp_at R i h, List.getD_eq_getElem?_getD, turnF_get md start i h]; rfl
  have hc := KRun_congr (lt := fun i j => pairLt ((turnF md start).getD i (0, 0)) ((turnF md start).getD j (0, 0))) (lt' := fun i j => decide ((rkl.map (·.val)).getD i 0 < (rkl.map (·.val)).getD j 0)) (n := md.length) (fun i j hi hj => by
    rw [ht i hi, ht j hj, R.hltp, hv i hi, hv j hj]; rfl) (kas_sort md.length)
  rw [hc]
  split at hk
  · rename_i p hp
    rw [Bool.and_eq_true, List.all_eq_true, beq_iff_eq] at hk
    have hb : ∀ i ∈ p.toList, i < md.length := fun i hi => of_decide_eq_true (hk.1 i hi)
    refine ⟨p, hp, hb, ?_⟩
    rw [row_is hn R, List.map_map]
    obtain ⟨G, hG⟩ : ∃ G : Nat → Int, ∀ v (h : v < md.length), G v = (gp ⟨v, h⟩).2 := ⟨fun v => if h : v < md.length then (gp ⟨v, h⟩).2 else 0, fun v h => dif_pos h⟩
    have e1 : p.toList.map ((fun x => x.2) ∘ fun i => (turnF md start).getD i (0, 0)) = (p.toList.map fun i => (rkl.map (·.val)).getD i 0).map G := by
      rw [List.map_map]
      apply List.map_congr_left
      intro i hi
      have hi' := hb i hi
      simp only [Function.comp]
      rw [ht i hi', hv i hi', hG _ (Fin.isLt _)]
    rw [e1, hk.2]
    apply List.ext_getElem
    · simp
    · intro i h1 h2
      have hi : i < md.length := by simpa using h1
      rw [List.getElem_map, List.getElem_map, List.getElem_finRange, List.getElem_range, hG i hi]
      rfl
  · cases hk

/- the nodes, looked at one by one -/
theorem lk_map (F : Int → Int × List Int → Int × List Int) (i : Int) : ∀ ps : List Pn, (ps.map fun q => (q.1, F q.1 q.2)).lookup i = (ps.lookup i).map (F i)
  | [] => rfl
  | (k, v) :: ps => by
    rw [List.map_cons, List.lookup_cons, List.lookup_cons]
    by_cases h : i = k
    · subst h; simp
    · have : (i == k) = false := by simpa using h
      simp only [this]
      exact lk_map F i ps
theorem lk_bump (k d i : Int) (ps : List Pn) : (bumpP k d ps).lookup i = (ps.lookup i).map fun v => if i = k then (v.1 + d, v.2) else v := by
  rw [← lk_map (fun i v => if i = k then (v.1 + d, v.2) else v)]
  unfold bumpP
  congr 1
  apply List.map_congr_left
  intro q _
  split <;> rfl
theorem lk_behind (j k i : Int) (ps : List Pn) : (behindP j k ps).lookup i = (ps.lookup i).map fun v => if i = j then (v.1, v.2 ++ [k]) else v := by
  rw [← lk_map (fun i v => if i = j then (v.1, v.2 ++ [k]) else v)]
  unfold behindP
  congr 1
  apply List.map_congr_left
  intro q _
  split <;> rfl
theorem lk_set (k v i : Int) (ps : List Pn) : (setP k v ps).lookup i = (ps.lookup i).map fun u => if i = k then (v, u.2) else u := by
  rw [← lk_map (fun i u => if i = k then (v, u.2) else u)]
  unfold setP
  congr 1
  apply List.map_congr_left
  intro q _
  split <;> rfl
theorem lk_out (l : List Int) (i : Int) (ps : List Pn) : (outP l ps).lookup i = (ps.lookup i).map fun u => if i ∈ l then (-1, u.2) else u := by
  rw [← lk_map (fun i u => if i ∈ l then (-1, u.2) else u)]
  unfold outP
  congr 1
  apply List.map_congr_left
  intro q _
  split <;> rfl
theorem keys_bump (k d : Int) (ps : List Pn) : (bumpP k d ps).map (·.1) = ps.map (·.1) := by
  unfold bumpP; rw [List.map_map]; apply List.map_congr_left; intro q _; simp only [Function.comp]; split <;> rfl
theorem keys_behind (j k : Int) (ps : List Pn) : (behindP j k ps).map (·.1) = ps.map (·.1) := by
  unfold behindP; rw [List.map_map]; apply List.map_congr_left; intro q _; simp only [Function.comp]; split <;> rfl
theorem keys_set (k v : Int) (ps : List Pn) : (setP k v ps).map (·.1) = ps.map (·.1) := by
  unfold setP; rw [List.map_map]; apply List.map_congr_left; intro q _; simp only [Function.comp]; split <;> rfl
theorem lk_mem {ps : List Pn} (nd : (ps.map (·.1)).Nodup) {q : Pn} (h : q ∈ ps) : ps.lookup q.1 = some q.2 := by
  induction ps with
  | nil => cases h
  | cons p ps ih =>
    rw [List.map_cons, List.nodup_cons] at nd
    obtain ⟨k, v⟩ := p
    rw [List.lookup_cons]
    rcases List.mem_cons.mp h with rfl | h
    · simp
    · have : (q.1 == k) = false := by
        rw [beq_eq_false_iff_ne]
        intro z
        have hm : q.1 ∈ ps.map (·.1) := List.mem_map_of_mem h
        rw [z] at hm
        exact nd.1 hm
      simp only [this]
      exact ih nd.2 h
theorem lk_none {ps : List Pn} {i : Int} : ps.lookup i = none ↔ i ∉ ps.map (·.1) := by
  rw [List.lookup_eq_none_iff]
  constructor
  · intro h hm
    obtain ⟨q, hq, rfl⟩ := List.mem_map.mp hm
    have := h q hq
    simp at this
  · intro h q hq
    rw [bne_iff_ne]
    exact fun z => h (by rw [z]; exact List.mem_map_of_mem hq)

noncomputable def getP (ps : List Pn) (i : Int) : Int × List Int := (ps.lookup i).getD (0, [])
theorem lk_app (i k : Int) (v : Int × List Int) : ∀ ps : List Pn, (ps ++ [(k, v)]).lookup i = (ps.lookup i).or (if i = k then some v else none)
  | [] => by
    rw [List.nil_append, List.lookup_cons]
    by_cases h : i = k
    · subst h; simp
    · have : (i == k) = false := by simpa using h
      simp [this, h]
  | (x, u) :: ps => by
    rw [List.cons_append, List.lookup_cons, List.lookup_cons]
    cases hx : i == x with
    | true => rfl
    | false => exact lk_app i k v ps
theorem get_touch (k i : Int) (ps : List Pn) : getP (touchP k ps) i = getP ps i := by
  unfold touchP getP
  split
  · rfl
  · rename_i h
    rw [lk_app]
    by_cases hik : i = k
    · subst hik
      rw [lk_none.mpr h]
      simp
    · cases ps.lookup i <;> simp [hik]
theorem mem_touch (k x : Int) (ps : List Pn) : x ∈ (touchP k ps).map (·.1) ↔ x ∈ ps.map (·.1) ∨ x = k := by
  unfold touchP
  split
  · rename_i h
    constructor
    · exact .inl
    · rintro (h' | rfl)
      · exact h'
      · exact h
  · simp
theorem nd_touch (k : Int) {ps : List Pn} (nd : (ps.map (·.1)).Nodup) : ((touchP k ps).map (·.1)).Nodup := by
  unfold touchP
  split
  · exact nd
  · rename_i h
    rw [List.map_append, List.nodup_append]
    refine ⟨nd, by simp, fun a ha b hb => ?_⟩
    simp at hb; subst hb
    exact fun z => h (z ▸ ha)
theorem has_lk {ps : List Pn} {i : Int} (h : i ∈ ps.map (·.1)) : ∃ v, ps.lookup i = some v := by
  cases e : ps.lookup i with
  | some v => exact ⟨v, rfl⟩
  | none => exact absurd h (lk_none.mp e)
/- those behind are told of one more -/
theorem fold_behind (k : Int) : ∀ (js : List Int) (ps : List Pn), js.Nodup → (ps.map (·.1)).Nodup →
    (∀ i, getP (js.foldl (fun q j => behindP j k (touchP j q)) ps) i = ((getP ps i).1, (getP ps i).2 ++ if i ∈ js then [k] else [])) ∧
    (∀ x, x ∈ (js.foldl (fun q j => behindP j k (touchP j q)) ps).map (·.1) ↔ x ∈ ps.map (·.1) ∨ x ∈ js) ∧ ((js.foldl (fun q j => behindP j k (touchP j q)) ps).map (·.1)).Nodup
  | [], ps, _, nd => ⟨fun i => by simp, fun x => by simp, nd⟩
  | j :: js, ps, hj, nd => by
    rw [List.nodup_cons] at hj
    have nd' : ((behindP j k (touchP j ps)).map (·.1)).Nodup := by rw [keys_behind]; exact nd_touch j nd
    obtain ⟨h1, h2, h3⟩ := fold_behind k js (behindP j k (touchP j ps)) hj.2 nd'
    refine ⟨fun i => ?_, fun x => ?_, h3⟩
    · rw [List.foldl_cons, h1 i]
      have hg : getP (behindP j k (touchP j ps)) i = if i = j then ((getP ps i).1, (getP ps i).2 ++ [k]) else getP ps i := by
        rw [← get_touch j i ps]
        unfold getP
        rw [lk_behind]
        by_cases hij : i = j
        · subst hij
          obtain ⟨v, hv⟩ := has_lk ((mem_touch i i ps).mpr (.inr rfl))
          rw [hv]; simp
        · cases (touchP j ps).lookup i <;> simp [hij]
      rw [hg]
      by_cases hij : i = j
      · subst hij
        simp [hj.1]
      · simp [hij]
    · rw [List.foldl_cons, h2 x, keys_behind, mem_touch, List.mem_cons]
      constructor
      · rintro ((a | a) | a)
        · exact .inl a
        · exact .inr (.inl a)
        · exact .inr (.inr a)
      · rintro (a | a | a)
        · exact .inl (.inl a)
        · exact .inl (.inr a)
        · exact .inr a
theorem add_spec (k : Int) (js : List Int) (ps : List Pn) (hj : js.Nodup) (nd : (ps.map (·.1)).Nodup) :
    (∀ i, getP (addP k js ps) i = ((getP ps i).1 + (if i = k then (js.length : Int) else 0), (getP ps i).2 ++ if i ∈ js then [k] else [])) ∧
    (∀ x, x ∈ (addP k js ps).map (·.1) ↔ x ∈ ps.map (·.1) ∨ x = k ∨ x ∈ js) ∧ ((addP k js ps).map (·.1)).Nodup := by
  unfold addP
  have nd' : ((bumpP k js.length (touchP k ps)).map (·.1)).Nodup := by rw [keys_bump]; exact nd_touch k nd
  obtain ⟨h1, h2, h3⟩ := fold_behind k js _ hj nd'
  refine ⟨fun i => ?_, fun x => ?_, h3⟩
  · rw [h1 i]
    have hg : getP (bumpP k js.length (touchP k ps)) i = ((getP ps i).1 + (if i = k then (js.length : Int) else 0), (getP ps i).2) := by
      rw [← get_touch k i ps]
      unfold getP
      rw [lk_bump]
      by_cases hik : i = k
      · subst hik
        obtain ⟨v, hv⟩ := has_lk ((mem_touch i i ps).mpr (.inr rfl))
        rw [hv]; simp
      · cases (touchP k ps).lookup i <;> simp [hik]
    rw [hg]
  · rw [h2 x, keys_bump, mem_touch]
    constructor
    · rintro ((a | a) | a)
      · exact .inl a
      · exact .inr (.inl a)
      · exact .inr (.inr a)
    · rintro (a | a | a)
      · exact .inl (.inl a)
      · exact .inl (.inr a)
      · exact .inr a
noncomputable def suOf (A : List (List Int)) (n : Nat) (i : Int) : List Int := ((List.range n).filter fun m => (A.getD m []).contains i).map fun (m : Nat) => (m : Int)
theorem addAll_spec (A : List (List Int)) (hA : ∀ m, (A.getD m []).Nodup) : ∀ k : Nat,
    (∀ x : Nat, getP (addAll A k) (x : Int) = (if x < k then ((A.getD x []).length : Int) else 0, suOf A k (x : Int))) ∧
    (∀ y, y ∈ (addAll A k).map (·.1) ↔ ∃ m : Nat, m < k ∧ (y = (m : Int) ∨ y ∈ A.getD m [])) ∧ ((addAll A k).map (·.1)).Nodup
  | 0 => ⟨fun x => by simp [addAll, getP, suOf], fun y => by simp [addAll], by simp [addAll]⟩
  | k + 1 => by
    obtain ⟨h1, h2, h3⟩ := addAll_spec A hA k
    obtain ⟨a1, a2, a3⟩ := add_spec (k : Int) (A.getD k []) (addAll A k) (hA k) h3
    refine ⟨fun x => ?_, fun y => ?_, a3⟩
    · show getP (addP (k : Nat) (A.getD k []) (addAll A k)) (x : Int) = _
      rw [a1, h1 x]
      apply Prod.ext
      · simp only
        by_cases hx : x < k
        · have : ¬ ((x : Int) = (k : Int)) := by walk_at "om"
          have h' : x < k + 1 := by walk_at "om"
          simp [hx, this, h']
        · by_cases hxk : x = k
          · subst hxk; simp
          · have : ¬ ((x : Int) = (k : Int)) := by walk_at "om"
            have h' : ¬ x < k + 1 := by walk_at "om"
            simp [hx, this, h']
      · simp only
        unfold suOf
        rw [List.range_succ, List.filter_append, List.map_append]
        congr 1
        by_cases hx : (x : Int) ∈ A.getD k []
        · have hc : (A.getD k []).contains (x : Int) = true := List.contains_iff_mem.mpr hx
          rw [if_pos hx, List.filter_cons, if_pos hc]; rfl
        · have hc : ¬ ((A.getD k []).contains (x : Int) = true) := fun h => hx (List.contains_iff_mem.mp h)
          rw [if_neg hx, List.filter_cons, if_neg hc]; rfl
    · show y ∈ (addP (k : Nat) (A.getD k []) (addAll A k)).map (·.1) ↔ _
      rw [a2, h2]
      constructor
      · rintro (⟨m, hm, h⟩ | h | h)
        · exact ⟨m, by walk_at "om", h⟩
        · exact ⟨k, by walk_at "om", .inl h⟩
        · exact ⟨k, by walk_at "om", .inr h⟩
      · rintro ⟨m, hm, h⟩
        by_cases hmk : m = k
        · subst hmk; exact .inr h
        · exact .inl ⟨m, by walk_at "om", h⟩
/- what done does -/
theorem tell_spec : ∀ (su : List Int) (ps : List Pn) (l : List Int), su.Nodup →
    (∀ y, (su.foldl tellP (ps, l)).1.lookup y = (ps.lookup y).map fun v => (v.1 - (if y ∈ su then 1 else 0), v.2)) ∧ (su.foldl tellP (ps, l)).1.map (·.1) = ps.map (·.1) ∧
    (su.foldl tellP (ps, l)).2 = l ++ su.filter fun j => decide ((ps.lookup j).map (·.1) = some 1)
  | [], ps, l, _ => ⟨fun y => by simp, rfl, by simp⟩
  | j :: su, ps, l, hs => by
    rw [List.nodup_cons] at hs
    obtain ⟨h1, h2, h3⟩ := tell_spec su (bumpP j (-1) ps) (if ((bumpP j (-1) ps).lookup j).map (·.1) = some 0 then l ++ [j] else l) hs.2
    have e : (j :: su).foldl tellP (ps, l) = su.foldl tellP (bumpP j (-1) ps, if ((bumpP j (-1) ps).lookup j).map (·.1) = some 0 then l ++ [j] else l) := rfl
    rw [e]
    refine ⟨fun y => ?_, by rw [h2, keys_bump], ?_⟩
    · rw [h1 y, lk_bump]
      cases hp : ps.lookup y with
      | none => rfl
      | some v =>
        simp only [Option.map_some, Option.some.injEq]
        by_cases hy : y = j
        · subst hy
          simp [hs.1]; walk_at "om"
        · simp [hy]
    · rw [h3]
      have hj : (((bumpP j (-1) ps).lookup j).map (·.1) = some 0) ↔ ((ps.lookup j).map (·.1) = some 1) := by
        rw [lk_bump]
        cases ps.lookup j with
        | none => simp
        | some v => simp; walk_at "om"
      have hf : (su.filter fun j' => decide (((bumpP j (-1) ps).lookup j').map (·.1) = some 1)) = su.filter fun j' => decide ((ps.lookup j').map (·.1) = some 1) := by
        apply List.filter_congr
        intro j' hj'
        have hne : j' ≠ j := fun z => hs.1 (z ▸ hj')
        rw [lk_bump]
        cases ps.lookup j' <;> simp [hne]
      rw [hf, List.filter_cons]
      by_cases hq : (ps.lookup j).map (·.1) = some 1
      · rw [if_pos (hj.mpr hq), if_pos (decide_eq_true hq)]; simp
      · rw [if_neg (fun z => hq (hj.mp z)), if_neg (by simpa using hq)]
end

section
open PySem PySem.W PyProof PyProof.Rows PySem.Calls PySem.Spec

theorem fin_len {n : Nat} {l : List (Fin n)} (nd : l.Nodup) : l.length ≤ n := by
  have h := nodup_len (l := l.map fun r => ((r.val : Nat) : Int)) (k := (List.range n).map fun (i : Nat) => (i : Int)) (nodup_map_of _ (fun a _ b _ h => Fin.ext (by walk_at "om")) nd) (fun x hx => by
    obtain ⟨r, _, rfl⟩ := List.mem_map.mp hx
    exact List.mem_map.mpr ⟨r.val, List.mem_range.mpr r.isLt, rfl⟩)
  simpa using h
theorem mem_val {n : Nat} {l : List (Fin n)} {v : Nat} (h : v < n) : v ∈ l.map (·.val) ↔ (⟨v, h⟩ : Fin n) ∈ l := by
  rw [List.mem_map]
  constructor
  · rintro ⟨r, hr, rfl⟩; exact hr
  · intro hm; exact ⟨_, hm, rfl⟩
theorem push_ok {n : Nat} (hn : n = 4 ∨ n = 5) {h : List (Fin n)} {x : Fin n} (ok : heapOK h = true) (nd : h.Nodup) (hx : x ∉ h) : heapOK (pushF ltF h x) = true ∧ (pushF ltF h x).Perm (x :: h) := by
  have hl : h.length < n := by
    have := fin_len (l := x :: h) (by rw [List.nodup_cons]; exact ⟨hx, nd⟩)
    rw [List.length_cons] at this
    walk_at "om"
  have := (okL hn).2.1
  unfold okPush at this
  rw [List.all_eq_true] at this
  have := this h.length (List.mem_range.mpr hl)
  rw [List.all_eq_true] at this
  have := this h (mem_nodups nd)
  rw [ok, Bool.not_true, Bool.false_or, List.all_eq_true] at this
  have := this x (List.mem_finRange x)
  have hc : h.contains x = false := by
    rw [Bool.eq_false_iff]; intro z; exact hx (List.contains_iff_mem.mp z)
  rw [hc, Bool.false_or, Bool.and_eq_true, List.isPerm_iff] at this
  exact this
theorem pop_ok {n : Nat} (hn : n = 4 ∨ n = 5) {rest : List (Fin n)} {last : Fin n} (ok : heapOK (rest ++ [last]) = true) (nd : (rest ++ [last]).Nodup) :
    heapOK (popF ltF rest last).2 = true ∧ ((popF ltF rest last).1 :: (popF ltF rest last).2).Perm (rest ++ [last]) ∧ ∀ y ∈ (popF ltF rest last).2, (popF ltF rest last).1 < y := by
  have hl : rest.length < n := by
    have := fin_len nd
    simp at this; walk_at "om"
  have := (okL hn).2.2.1
  unfold okPop at this
  rw [List.all_eq_true] at this
  have := this rest.length (List.mem_range.mpr hl)
  rw [List.all_eq_true] at this
  have hm := mem_nodups nd
  have e : (rest ++ [last]).length = rest.length + 1 := by simp
  rw [e] at hm
  have := this _ hm
  have hp : pop1 ltF (rest ++ [last]) = some (popF ltF rest last) := by
    unfold pop1
    rw [List.getLast?_concat]
    simp
  rw [ok, Bool.not_true, Bool.false_or, hp] at this
  generalize popF ltF rest last = r at this
  obtain ⟨x, l'⟩ := r
  simp only [Bool.and_eq_true, List.isPerm_iff, List.all_eq_true] at this
  exact ⟨this.1.1, this.1.2, fun y hy => of_decide_eq_true (this.2 y hy)⟩

structure Cx (n : Nat) (ks : List (Str × Int)) (g : Fin n → Str × Int) (rank : Nat → Nat) (as : Nat → List Int) (SU : Nat → List Int) (keys0 : List Int) : Prop where
  hn : n = 4 ∨ n = 5
  len : ks.length = n
  rlt : ∀ i, i < n → rank i < n
  rinj : ∀ i j, i < n → j < n → rank i = rank j → i = j
  rsur : ∀ v, v < n → ∃ i, i < n ∧ rank i = v
  ksg : ∀ i (h : rank i < n), i < n → ks.getD i (S "", 0) = g ⟨rank i, h⟩
  hlt : ∀ r s, keyLt (g r) (g s) = ltF r s
  nod : ∀ i (h : rank i < n), i < n → (g ⟨rank i, h⟩).2 = (i : Int)
  a1 : ∀ k, k < n → ∀ a ∈ as k, ∃ j : Nat, j < n ∧ a = (j : Int) ∧ rank j < rank k
  a2 : ∀ k, (as k).Nodup
  su : ∀ i, i < n → ∀ x, x ∈ SU i ↔ ∃ k : Nat, k < n ∧ x = (k : Int) ∧ (i : Int) ∈ as k
  sund : ∀ i, (SU i).Nodup
  keysm : ∀ i : Nat, i < n → (i : Int) ∈ keys0

section
variable {n : Nat} {ks : List (Str × Int)} {g : Fin n → Str × Int} {rank : Nat → Nat} {as : Nat → List Int} {SU : Nat → List Int} {keys0 : List Int}

theorem push_all (C : Cx n ks g rank as SU keys0) : ∀ (l : List Int) (hr : List (Fin n)), heapOK hr = true → hr.Nodup → l.Nodup → (∀ x ∈ l, ∃ i : Nat, i < n ∧ x = (i : Int) ∧ rank i ∉ hr.map (·.val)) →
    ∃ hr', pushes ks l (hr.map g) = hr'.map g ∧ heapOK hr' = true ∧ hr'.Nodup ∧ hr'.length = hr.length + l.length ∧ ∀ v, v ∈ hr'.map (·.val) ↔ v ∈ hr.map (·.val) ∨ ∃ i : Nat, i < n ∧ (i : Int) ∈ l ∧ rank i = v
  | [], hr, ok, nd, _, _ => ⟨hr, rfl, ok, nd, rfl, fun v => by simp⟩
  | x :: l, hr, ok, nd, ln, hx => by
    rw [List.nodup_cons] at ln
    obtain ⟨i, hi, rfl, hri⟩ := hx x (by simp)
    have hlt := C.rlt i hi
    have hr1 : (⟨rank i, hlt⟩ : Fin n) ∉ hr := fun z => hri ((mem_val hlt).mpr z)
    obtain ⟨ok1, pm⟩ := push_ok C.hn ok nd hr1
    have e : pushF keyLt (hr.map g) (ks.getD ((i : Int)).toNat (S "", 0)) = (pushF ltF hr ⟨rank i, hlt⟩).map g := by
      rw [Int.toNat_natCast, C.ksg i hlt hi, pushF_map]
      have : (fun a b => keyLt (g a) (g b)) = ltF := by funext r s; exact C.hlt r s
      rw [this]
    have nd1 : (pushF ltF hr ⟨rank i, hlt⟩).Nodup := pm.nodup_iff.mpr (by rw [List.nodup_cons]; exact ⟨hr1, nd⟩)
    have mv : ∀ v, v ∈ (pushF ltF hr ⟨rank i, hlt⟩).map (·.val) ↔ v = rank i ∨ v ∈ hr.map (·.val) := fun v => by
      have := (pm.map (·.val)).mem_iff (a := v)
      rw [this]; simp
    obtain ⟨hr', e1, e2, e3, e4, e5⟩ := push_all C l (pushF ltF hr ⟨rank i, hlt⟩) ok1 nd1 ln.2 (fun y hy => by
      obtain ⟨j, hj, rfl, hrj⟩ := hx y (by simp [hy])
      refine ⟨j, hj, rfl, fun z => ?_⟩
      rcases (mv _).mp z with z | z
      · have := C.rinj j i hj hi z
        subst this; exact ln.1 hy
      · exact hrj z)
    refine ⟨hr', ?_, e2, e3, ?_, fun v => ?_⟩
    · show pushes ks l (pushF keyLt (hr.map g) (ks.getD ((i : Int)).toNat (S "", 0))) = _
      rw [e, e1]
    · rw [e4, pm.length_eq]; simp; walk_at "om"
    · rw [e5, mv]
      constructor
      · rintro ((rfl | h) | ⟨j, hj, hm, h⟩)
        · exact .inr ⟨i, hi, by simp, rfl⟩
        · exact .inl h
        · exact .inr ⟨j, hj, by simp [hm], h⟩
      · rintro (h | ⟨j, hj, hm, h⟩)
        · exact .inl (.inr h)
        · rcases List.mem_cons.mp hm with z | z
          · have : j = i := by walk_at "om"
            subst this
            exact .inl (.inl h.symm)
          · exact .inr ⟨j, hj, z, h⟩

/- those ahead of a node that are not done -/
noncomputable def cnt (rank : Nat → Nat) (as : Nat → List Int) (m i : Nat) : Nat := (as i).countP fun a => decide (m ≤ rank a.toNat)
theorem cnt_split (rank : Nat → Nat) (m : Nat) (i : Int) : ∀ l : List Int, (∀ a ∈ l, rank a.toNat = m ↔ a = i) → l.Nodup → l.countP (fun a => decide (m ≤ rank a.toNat)) = l.countP (fun a => decide (m + 1 ≤ rank a.toNat)) + if i ∈ l then 1 else 0
  | [], _, _ => by simp
  | a :: l, h, nd => by
    rw [List.nodup_cons] at nd
    have ih := cnt_split rank m i l (fun b hb => h b (by simp [hb])) nd.2
    have ha := h a (by simp)
    rw [List.countP_cons, List.countP_cons, ih]
    by_cases hai : a = i
    · subst hai
      have hm : rank a.toNat = m := ha.mpr rfl
      have hno : a ∉ l := nd.1
      simp [hm, hno]
    · have hm : ¬ rank a.toNat = m := fun z => hai (ha.mp z)
      have e : decide (m ≤ rank a.toNat) = decide (m + 1 ≤ rank a.toNat) := by
        rw [decide_eq_decide]; walk_at "om"
      have hia : ¬ i = a := fun z => hai z.symm
      rw [e]
      simp only [List.mem_cons, hia, false_or]
      walk_at "om"
theorem cnt_step (C : Cx n ks g rank as SU keys0) {m i y : Nat} (hi : i < n) (hy : y < n) (hm : rank i = m) : cnt rank as m y = cnt rank as (m + 1) y + if (i : Int) ∈ as y then 1 else 0 := by
  refine cnt_split rank m (i : Int) (as y) (fun a ha => ?_) (C.a2 y)
  obtain ⟨j, hj, rfl, _⟩ := C.a1 y hy a ha
  rw [Int.toNat_natCast]
  constructor
  · intro h
    have := C.rinj j i hj hi (by rw [h, hm])
    walk_at "om"
  · intro h
    have : j = i := by walk_at "om"
    rw [this]; exact hm
theorem cnt_low (C : Cx n ks g rank as SU keys0) {m i : Nat} (hi : i < n) (hm : rank i ≤ m) : cnt rank as m i = 0 := by
  unfold cnt
  rw [List.countP_eq_zero]
  intro a ha
  obtain ⟨j, hj, rfl, h⟩ := C.a1 i hi a ha
  simp only [Int.toNat_natCast, decide_eq_true_eq]
  walk_at "om"
theorem cnt_pos {m i y : Nat} (hr : m ≤ rank i) (h : (i : Int) ∈ as y) : 0 < cnt rank as m y := by
  unfold cnt
  rw [List.countP_pos_iff]
  exact ⟨_, h, by simpa using hr⟩

noncomputable def stat (rank : Nat → Nat) (as : Nat → List Int) (m : Nat) (hv : List Nat) (i : Nat) : Int := if rank i < m then -2 else if rank i ∈ hv then -1 else (cnt rank as m i : Int)
theorem stat_low {m i : Nat} {hv : List Nat} (h : rank i < m) : stat rank as m hv i = -2 := if_pos h
theorem stat_in {m i : Nat} {hv : List Nat} (h : ¬ rank i < m) (h' : rank i ∈ hv) : stat rank as m hv i = -1 := by unfold stat; rw [if_neg h, if_pos h']
theorem stat_out {m i : Nat} {hv : List Nat} (h : ¬ rank i < m) (h' : rank i ∉ hv) : stat rank as m hv i = (cnt rank as m i : Int) := by unfold stat; rw [if_neg h, if_neg h']
structure SIn (n : Nat) (g : Fin n → Str × Int) (rank : Nat → Nat) (as SU : Nat → List Int) (keys0 : List Int) (m : Nat) (hr : List (Fin n)) (s : Sv) : Prop where
  mle : m ≤ n
  row : s.row = ((List.finRange n).map fun r => (g r).2).take m
  keys : s.ps.map (·.1) = keys0
  lk : ∀ i : Nat, i < n → s.ps.lookup (i : Int) = some (stat rank as m (hr.map (·.val)) i, SU i)
  h : s.h = hr.map g
  ok : heapOK hr = true
  nd : hr.Nodup
  hge : ∀ v ∈ hr.map (·.val), m ≤ v
  hc : ∀ i, i < n → rank i ∈ hr.map (·.val) → cnt rank as m i = 0
  lnd : s.l.Nodup
  l : ∀ x, x ∈ s.l ↔ ∃ i : Nat, i < n ∧ x = (i : Int) ∧ m ≤ rank i ∧ rank i ∉ hr.map (·.val) ∧ cnt rank as m i = 0
  p : s.p = (m : Int) + hr.length
  f : s.f = (m : Int)

theorem sv_ok (C : Cx n ks g rank as SU keys0) : SvI ks (fun q s => ∃ m hr, m + q = n ∧ SIn n g rank as SU keys0 m hr s) ((List.finRange n).map fun r => (g r).2) where
  fin := by
    rintro q s ⟨m, hr, hmq, I⟩ hact
    unfold Sv.active at hact
    rw [Bool.or_eq_false_iff] at hact
    have h1 : ¬ s.f < s.p := of_decide_eq_false hact.1
    have h2 : s.l = [] := by
      cases hl : s.l with
      | nil => rfl
      | cons x l => rw [hl] at hact; simp at hact
    have hr0 : hr = [] := by
      rw [I.f, I.p] at h1
      exact List.length_eq_zero_iff.mp (by walk_at "om")
    have hmn : m = n := by
      rcases Nat.lt_or_ge m n with hlt | hge
      · exfalso
        obtain ⟨i, hi, hri⟩ := C.rsur m hlt
        have : (i : Int) ∈ s.l := (I.l _).mpr ⟨i, hi, rfl, by walk_at "om", by rw [hr0]; simp, cnt_low C hi (by walk_at "om")⟩
        rw [h2] at this
        simp at this
      · have := I.mle; walk_at "om"
    rw [I.row, hmn, List.take_of_length_le (by simp)]
  small := by
    rintro q s ⟨m, hr, hmq, I⟩
    have hn5 : n ≤ 5 := by rcases C.hn with h | h <;> walk_at "om"
    refine ⟨?_, ?_, ?_⟩
    · have := nodup_len (l := s.l) (k := (List.range n).map fun (i : Nat) => (i : Int)) I.lnd (fun x hx => by
        obtain ⟨i, hi, rfl, _⟩ := (I.l x).mp hx
        exact List.mem_map.mpr ⟨i, List.mem_range.mpr hi, rfl⟩)
      simp at this; walk_at "om"
    · rw [I.h, List.length_map]
      have := fin_len I.nd; walk_at "om"
    · rw [I.row, List.length_take]
      simp; walk_at "om"
  go := by
    rintro q s ⟨m, hr, hmq, I⟩ hact
    have hn5 : n ≤ 5 := by rcases C.hn with h | h <;> walk_at "om"
    obtain ⟨hr', e1, ok', nd', len', mem'⟩ := push_all C s.l hr I.ok I.nd I.lnd (fun x hx => by
      obtain ⟨i, hi, rfl, _, h, _⟩ := (I.l x).mp hx
      exact ⟨i, hi, rfl, h⟩)
    refine ⟨fun j hj => ?_, ?_⟩
    · obtain ⟨i, hi, rfl, _⟩ := (I.l j).mp hj
      exact ⟨by rw [I.keys]; exact C.keysm i hi, by walk_at "om", by rw [C.len]; simpa using hi⟩
    -- the heap is not empty
    have hne : hr' ≠ [] := fun z => by
      rw [z] at len'
      simp only [List.length_nil] at len'
      unfold Sv.active at hact
      have hl0 : s.l = [] := List.length_eq_zero_iff.mp (by walk_at "om")
      rw [hl0, I.f, I.p] at hact
      have : hr.length = 0 := by walk_at "om"
      rw [this] at hact
      simp at hact
    obtain ⟨rest, last, rfl⟩ : ∃ rest last, hr' = rest ++ [last] := by
      rcases List.eq_nil_or_concat hr' with z | ⟨rest, last, z⟩
      · exact absurd z hne
      · exact ⟨rest, last, by rw [z, List.concat_eq_append]⟩
    obtain ⟨pok, pperm, pmin⟩ := pop_ok C.hn ok' nd'
    -- all in the heap are still to come, and none waits for another
    have hall : ∀ v, v ∈ (rest ++ [last]).map (·.val) → m ≤ v := fun v hv => by
      rcases (mem' v).mp hv with h | ⟨i, hi, hm, rfl⟩
      · exact I.hge v h
      · obtain ⟨j, hj, e, h, _⟩ := (I.l _).mp hm
        have : i = j := by walk_at "om"
        subst this; exact h
    have hcn : ∀ i, i < n → rank i ∈ (rest ++ [last]).map (·.val) → cnt rank as m i = 0 := fun i hi hv => by
      rcases (mem' _).mp hv with h | ⟨j, hj, hm, e⟩
      · exact I.hc i hi h
      · have : i = j := C.rinj i j hi hj e.symm
        subst this
        obtain ⟨j', hj', e', _, _, h⟩ := (I.l _).mp hm
        have : i = j' := by walk_at "om"
        subst this; exact h
    have hmn : m < n := by
      have := hall last.val (by simp)
      have := last.isLt
      walk_at "om"
    obtain ⟨i, hi, hri⟩ := C.rsur m hmn
    have hin : rank i ∈ (rest ++ [last]).map (·.val) := by
      rw [mem']
      by_cases h : rank i ∈ hr.map (·.val)
      · exact .inl h
      · exact .inr ⟨i, hi, (I.l _).mpr ⟨i, hi, rfl, by walk_at "om", h, cnt_low C hi (by walk_at "om")⟩, rfl⟩
    have pm : ∀ v, v ∈ (rest ++ [last]).map (·.val) ↔ v = (popF ltF rest last).1.val ∨ v ∈ (popF ltF rest last).2.map (·.val) := fun v => by
      have := (pperm.map (·.val)).mem_iff (a := v)
      rw [← this]; simp
    have hx : (popF ltF rest last).1.val = m := by
      have h1 := hall _ ((pm _).mpr (.inl rfl))
      rcases (pm _).mp hin with h | h
      · walk_at "om"
      · obtain ⟨r, hr1, hr2⟩ := List.mem_map.mp h
        have := pmin r hr1
        have : (popF ltF rest last).1.val < r.val := this
        walk_at "om"
    have hxe : (popF ltF rest last).1 = ⟨rank i, C.rlt i hi⟩ := Fin.ext (hx.trans hri.symm)
    have hpop : popF keyLt (rest.map g) (g last) = (g (popF ltF rest last).1, (popF ltF rest last).2.map g) := by
      rw [popF_map]
      have : (fun a b => keyLt (g a) (g b)) = ltF := by funext r s; exact C.hlt r s
      rw [this]
    have h2i : (g (popF ltF rest last).1).2 = (i : Int) := by rw [hxe]; exact C.nod i _ hi
    refine ⟨rest.map g, g last, q - 1, SU i, ?_, ?_, ?_, ?_, by walk_at "om", ?_⟩
    · rw [I.h, e1]; simp
    · rw [hpop, h2i, lk_out, I.lk i hi]
      simp only [Option.map_some, Option.some.injEq]
      rcases (mem' _).mp hin with h | ⟨j, hj, hm, e⟩
      · split
        · rfl
        · rw [stat_in (by walk_at "om") h]
      · have : j = i := C.rinj j i hj hi e
        subst this
        rw [if_pos hm]
    · intro j hj
      obtain ⟨k, hk, rfl, _⟩ := (C.su i hi j).mp hj
      rw [I.keys]; exact C.keysm k hk
    · have := nodup_len (l := SU i) (k := (List.range n).map fun (i : Nat) => (i : Int)) (C.sund i) (fun x hx => by
        obtain ⟨k, hk, rfl, _⟩ := (C.su i hi x).mp hx
        exact List.mem_map.mpr ⟨k, List.mem_range.mpr hk, rfl⟩)
      simp at this; walk_at "om"
    · rw [hpop, h2i]
      obtain ⟨t1, t2, t3⟩ := tell_spec (SU i) (setP (i : Int) (-2) (outP s.l s.ps)) [] (C.sund i)
      have edone : doneP (i : Int) (SU i) (outP s.l s.ps) [] = (SU i).foldl tellP (setP (i : Int) (-2) (outP s.l s.ps), []) := rfl
      rw [edone]
      generalize hl' : (popF ltF rest last).2 = l' at *
      have pnd : l'.Nodup := by
        have := pperm.nodup_iff.mpr nd'
        rw [List.nodup_cons] at this
        exact this.2
      have plen : (rest ++ [last]).length = l'.length + 1 := by rw [← pperm.length_eq]; simp
      have hnx : rank i ∉ l'.map (·.val) := fun z => by
        obtain ⟨r, hr1, hr2⟩ := List.mem_map.mp z
        have : (popF ltF rest last).1.val < r.val := pmin r hr1
        walk_at "om"
      -- what a node's number was before
      have hnp : ∀ y, y < n → (setP (i : Int) (-2) (outP s.l s.ps)).lookup (y : Int) = some (if y = i then -2 else if (y : Int) ∈ s.l then -1 else stat rank as m (hr.map (·.val)) y, SU y) := fun y hy => by
        rw [lk_set, lk_out, I.lk y hy]
        simp only [Option.map_some, Option.some.injEq]
        by_cases hyi : y = i
        · subst hyi
          simp
          split <;> rfl
        · have : ¬ ((y : Int) = (i : Int)) := by walk_at "om"
          rw [if_neg this, if_neg hyi]
          split <;> rfl
      have hsu : ∀ y, y < n → ((y : Int) ∈ SU i ↔ (i : Int) ∈ as y) := fun y hy => by
        rw [C.su i hi]
        constructor
        · rintro ⟨k, hk, e, h⟩
          have : y = k := by walk_at "om"
          subst this; exact h
        · intro h; exact ⟨y, hy, rfl, h⟩
      have hup : ∀ y, y < n → (i : Int) ∈ as y → m < rank y := fun y hy h => by
        obtain ⟨j, hj, e, h'⟩ := C.a1 y hy _ h
        have : i = j := by walk_at "om"
        subst this; walk_at "om"
      have hout : ∀ y, y < n → rank y ∉ l'.map (·.val) → y ≠ i → rank y ∉ hr.map (·.val) ∧ (y : Int) ∉ s.l := fun y hy h hyi => by
        have : rank y ∉ (rest ++ [last]).map (·.val) := fun z => by
          rcases (pm _).mp z with z | z
          · exact hyi (C.rinj y i hy hi (by rw [z, hx, hri]))
          · exact h z
        rw [mem'] at this
        exact ⟨fun z => this (.inl z), fun z => this (.inr ⟨y, hy, z, rfl⟩)⟩
      have hold : ∀ y, y < n → rank y ∈ l'.map (·.val) → rank y ∈ hr.map (·.val) ∨ (y : Int) ∈ s.l := fun y hy h => by
        have : rank y ∈ (rest ++ [last]).map (·.val) := (pm _).mpr (.inr h)
        rcases (mem' _).mp this with z | ⟨j, hj, hm, e⟩
        · exact .inl z
        · have : y = j := C.rinj y j hy hj e.symm
          subst this; exact .inr hm
      have hin' : ∀ y, y < n → rank y ∈ l'.map (·.val) → cnt rank as m y = 0 ∧ m + 1 ≤ rank y := fun y hy h => by
        have h1 : rank y ∈ (rest ++ [last]).map (·.val) := (pm _).mpr (.inr h)
        refine ⟨hcn y hy h1, ?_⟩
        have h2 := hall _ h1
        have : rank y ≠ m := fun z => by
          have : y = i := C.rinj y i hy hi (by rw [z, hri])
          subst this; exact hnx h
        walk_at "om"
      refine ⟨m + 1, l', by walk_at "om", ⟨by walk_at "om", ?_, ?_, fun y hy => ?_, rfl, pok, pnd, fun v hv => ?_, fun y hy hv => ?_, ?_, fun x => ?_, ?_, ?_⟩⟩
      · show s.row ++ [(i : Int)] = _
        rw [I.row, List.take_add_one]
        congr 1
        have : ((List.finRange n).map fun r => (g r).2)[m]? = some (i : Int) := by
          rw [List.getElem?_map, List.getElem?_eq_getElem (by simpa using hmn), List.getElem_finRange, Option.map_some]
          have hh := C.nod i (C.rlt i hi) hi
          rw [← hh]
          congr 3
          apply Fin.ext
          show m = rank i
          exact hri.symm
        rw [this]; rfl
      · show ((SU i).foldl tellP _).1.map (·.1) = _
        rw [t2, keys_set, outP_keys, I.keys]
      · show ((SU i).foldl tellP _).1.lookup (y : Int) = _
        rw [t1, hnp y hy]
        simp only [Option.map_some, Option.some.injEq]
        apply Prod.ext
        · simp only
          have hstep := cnt_step C hi hy hri
          by_cases hyi : y = i
          · subst hyi
            have : (y : Int) ∉ SU y := fun z => by
              have := hup y hy ((hsu y hy).mp z); walk_at "om"
            rw [if_pos rfl, if_neg this, stat_low (by walk_at "om")]; rfl
          · rw [if_neg hyi]
            by_cases hlow : rank y < m
            · have h1 : (y : Int) ∉ s.l := fun z => by
                obtain ⟨j, hj, e, h, _⟩ := (I.l _).mp z
                have : y = j := by walk_at "om"
                subst this; walk_at "om"
              have h2 : (y : Int) ∉ SU i := fun z => by
                have := hup y hy ((hsu y hy).mp z); walk_at "om"
              rw [if_neg h1, if_neg h2, stat_low hlow, stat_low (by walk_at "om")]; rfl
            · have hne' : rank y ≠ m := fun z => hyi (C.rinj y i hy hi (by rw [z, hri]))
              by_cases hl : rank y ∈ l'.map (·.val)
              · have hc0 := (hin' y hy hl).1
                have h2 : (y : Int) ∉ SU i := fun z => by
                  have := cnt_pos (rank := rank) (as := as) (m := m) (i := i) (y := y) (by walk_at "om") ((hsu y hy).mp z)
                  walk_at "om"
                rw [if_neg h2, stat_in (m := m + 1) (by walk_at "om") hl]
                rcases hold y hy hl with h | h
                · rw [stat_in (by walk_at "om") h]
                  split <;> rfl
                · rw [if_pos h]; rfl
              · obtain ⟨o1, o2⟩ := hout y hy hl hyi
                rw [if_neg o2, stat_out (by walk_at "om") o1, stat_out (by walk_at "om") hl, hstep]
                by_cases hs : (y : Int) ∈ SU i
                · rw [if_pos hs, if_pos ((hsu y hy).mp hs)]; walk_at "om"
                · rw [if_neg hs, if_neg (fun z => hs ((hsu y hy).mpr z))]; walk_at "om"
        · rfl
      · obtain ⟨r, hr1, rfl⟩ := List.mem_map.mp hv
        have : (popF ltF rest last).1.val < r.val := pmin r hr1
        walk_at "om"
      · have := (hin' y hy hv).1
        have hstep := cnt_step C hi hy hri
        walk_at "om"
      · show ((SU i).foldl tellP _).2.Nodup
        rw [t3, List.nil_append]
        exact (C.sund i).filter _
      · show x ∈ ((SU i).foldl tellP _).2 ↔ _
        rw [t3, List.nil_append, List.mem_filter, C.su i hi]
        constructor
        · rintro ⟨⟨y, hy, rfl, hay⟩, hdec⟩
          have hup' := hup y hy hay
          have hyi : y ≠ i := fun z => by subst z; walk_at "om"
          have hcp := cnt_pos (rank := rank) (as := as) (m := m) (i := i) (y := y) (by walk_at "om") hay
          have hnl : rank y ∉ l'.map (·.val) := fun z => by have := (hin' y hy z).1; walk_at "om"
          obtain ⟨o1, o2⟩ := hout y hy hnl hyi
          have hdec := of_decide_eq_true hdec
          rw [hnp y hy, if_neg hyi, if_neg o2] at hdec
          rw [stat_out (by walk_at "om") o1] at hdec
          simp only [Option.map_some, Option.some.injEq] at hdec
          have hstep := cnt_step C hi hy hri
          rw [if_pos hay] at hstep
          exact ⟨y, hy, rfl, by walk_at "om", hnl, by walk_at "om"⟩
        · rintro ⟨y, hy, rfl, hge, hnl, hc0⟩
          have hyi : y ≠ i := fun z => by subst z; walk_at "om"
          obtain ⟨o1, o2⟩ := hout y hy hnl hyi
          have hstep := cnt_step C hi hy hri
          have hcm : cnt rank as m y ≠ 0 := fun z => o2 ((I.l _).mpr ⟨y, hy, rfl, by walk_at "om", o1, z⟩)
          have hay : (i : Int) ∈ as y := by
            by_cases h : (i : Int) ∈ as y
            · exact h
            · rw [if_neg h] at hstep; walk_at "om"
          rw [if_pos hay] at hstep
          refine ⟨⟨y, hy, rfl, hay⟩, decide_eq_true ?_⟩
          rw [hnp y hy, if_neg hyi, if_neg o2, stat_out (by walk_at "om") o1]
          simp only [Option.map_some, Option.some.injEq]
          walk_at "om"
      · show s.p + s.l.length = _
        rw [I.p]
        have : (rest ++ [last]).length = hr.length + s.l.length := len'
        walk_at "om"
      · show s.f + 1 = _
        rw [I.f]; walk_at "om"
end
end

section
open PySem PySem.W PyProof PyProof.Rows PySem.Calls PySem.Spec

theorem aheads_get (md : List Int) (m : Nat) (h : m < md.length) : (aheadsF md).getD m [] = aheadF (m : Nat) (rowsF md) := by
  unfold aheadsF
  rw [List.getD_eq_getElem?_getD, List.getElem?_map, List.getElem?_range h]; rfl
theorem aheads_nil (md : List Int) (m : Nat) (h : ¬ m < md.length) : (aheadsF md).getD m [] = [] := by
  unfold aheadsF
  rw [List.getD_eq_getElem?_getD, List.getElem?_map, List.getElem?_eq_none (by simpa using h)]; rfl
theorem law_pure (md : List Int) (start : Nat) (hn : md.length = 4 ∨ md.length = 5) (h9 : ∀ x ∈ md, Nine x) (hs : start < 9) : LawPure md start := by
  obtain ⟨rkl, g, gp, R⟩ := ranked md h9 start hs
  have hn5 : md.length ≤ 5 := by rcases hn with h | h <;> walk_at "om"
  have hAn : ∀ m, ((aheadsF md).getD m []).Nodup := fun m => by
    by_cases h : m < md.length
    · rw [aheads_get md m h]; exact ahead_nodup md hn h9 _
    · rw [aheads_nil md m h]; exact .nil
  have hAm : ∀ m x, x ∈ (aheadsF md).getD m [] → ∃ j : Nat, j < md.length ∧ x = (j : Int) := fun m x hx => by
    by_cases h : m < md.length
    · rw [aheads_get md m h] at hx
      obtain ⟨j, hj, e, _⟩ := (ahead_mem md hn h9 m h x).mp hx
      exact ⟨j, hj, e⟩
    · rw [aheads_nil md m h] at hx; cases hx
  have key_in : ∀ k, k ≤ md.length → ∀ y ∈ (addAll (aheadsF md) k).map (·.1), ∃ i : Nat, i < md.length ∧ y = (i : Int) := fun k hk y hy => by
    obtain ⟨m, hm, h⟩ := ((addAll_spec (aheadsF md) hAn k).2.1 y).mp hy
    rcases h with h | h
    · exact ⟨m, by walk_at "om", h⟩
    · exact hAm m y h
  have lkq : ∀ k, k ≤ md.length → ∀ q ∈ addAll (aheadsF md) k, ∃ i : Nat, i < md.length ∧ q.1 = (i : Int) ∧ q.2 = (if i < k then (((aheadsF md).getD i []).length : Int) else 0, suOf (aheadsF md) k (i : Int)) := fun k hk q hq => by
    obtain ⟨i, hi, e⟩ := key_in k hk q.1 (List.mem_map_of_mem hq)
    refine ⟨i, hi, e, ?_⟩
    obtain ⟨s1, s2, s3⟩ := addAll_spec (aheadsF md) hAn k
    have h1 := lk_mem s3 hq
    have h2 := s1 i
    unfold getP at h2
    rw [← e, h1] at h2
    rw [← e]
    exact h2
  let rank : Nat → Nat := fun i => (rkl.map (·.val)).getD i 0
  have hrank : ∀ i (h : i < md.length), rank i = (rkl[i]'(by rw [R.len]; exact h)).val := fun i h => by
    show (rkl.map (·.val)).getD i 0 = _
    rw [List.getD_eq_getElem?_getD, List.getElem?_map, List.getElem?_eq_getElem (by rw [R.len]; exact h)]; rfl
  have hrfin : ∀ i (h : i < md.length) (h' : rank i < md.length), (⟨rank i, h'⟩ : Fin md.length) = rkl[i]'(by rw [R.len]; exact h) := fun i h h' => Fin.ext (hrank i h)
  have suspec : ∀ i : Nat, ∀ x, x ∈ suOf (aheadsF md) md.length (i : Int) ↔ ∃ k : Nat, k < md.length ∧ x = (k : Int) ∧ (i : Int) ∈ aheadF ((k : Nat) : Int) (rowsF md) := fun i x => by
    unfold suOf
    rw [List.mem_map]
    constructor
    · rintro ⟨k, hk, rfl⟩
      rw [List.mem_filter, List.mem_range] at hk
      refine ⟨k, hk.1, rfl, ?_⟩
      have := List.contains_iff_mem.mp hk.2
      rwa [aheads_get md k hk.1] at this
    · rintro ⟨k, hk, rfl, h⟩
      refine ⟨k, ?_, rfl⟩
      rw [List.mem_filter, List.mem_range]
      exact ⟨hk, by rw [aheads_get md k hk]; exact List.contains_iff_mem.mpr h⟩
  have a1 : ∀ k, k < md.length → ∀ a ∈ aheadF ((k : Nat) : Int) (rowsF md), ∃ j : Nat, j < md.length ∧ a = (j : Int) ∧ rank j < rank k := fun k hk a ha => by
    obtain ⟨j, hj, e, h⟩ := (ahead_mem md hn h9 k hk a).mp ha
    refine ⟨j, hj, e, ?_⟩
    have := h start hs
    rw [← gp_at R j hj, ← gp_at R k hk, R.hltp] at this
    rw [hrank j hj, hrank k hk]
    exact of_decide_eq_true this
  have C : Cx md.length (keysF (md.map textF) start) g rank (fun k => aheadF ((k : Nat) : Int) (rowsF md)) (fun i => suOf (aheadsF md) md.length (i : Int)) ((addAll (aheadsF md) md.length).map (·.1)) := by
    refine ⟨hn, by rw [keysF_len, List.length_map], fun i hi => by rw [hrank i hi]; exact Fin.isLt _, fun i j hi hj h => ?_, fun v hv => ?_, fun i h hi => ?_, R.hlt, fun i h hi => ?_, a1, fun k => ahead_nodup md hn h9 _, fun i _ => suspec i, fun i => ?_, fun i hi => ?_⟩
    · rw [hrank i hi, hrank j hj] at h
      have b1 := R.nd.idxOf_getElem i (by rw [R.len]; exact hi)
      have b2 := R.nd.idxOf_getElem j (by rw [R.len]; exact hj)
      have b3 : rkl[i]'(by rw [R.len]; exact hi) = rkl[j]'(by rw [R.len]; exact hj) := Fin.ext h
      rw [← b1, ← b2, b3]
    · obtain ⟨i, hi, e⟩ := List.getElem_of_mem (R.sur ⟨v, hv⟩)
      have hi' : i < md.length := by rw [← R.len]; exact hi
      exact ⟨i, hi', by rw [hrank i hi', e]⟩
    · have e : (keysF (md.map textF) start)[i]? = (rkl.map g)[i]? := congrArg (fun l => l[i]?) R.hK
      rw [hrfin i hi h, List.getD_eq_getElem?_getD, e, List.getElem?_map, List.getElem?_eq_getElem (by rw [R.len]; exact hi)]; rfl
    · rw [hrfin i hi h, R.h2, gp_at R i hi]
    · unfold suOf
      exact nodup_map_of _ (fun a _ b _ h => by walk_at "om") (List.nodup_range.filter _)
    · exact ((addAll_spec (aheadsF md) hAn md.length).2.1 _).mpr ⟨i, hi, .inl rfl⟩
  have hrow : rowF md start = (List.finRange md.length).map fun r => (g r).2 := by
    rw [row_is hn R]
    apply List.map_congr_left
    intro r _
    exact (R.h2 r).symm
  refine ⟨fun p hp => ?_, fun p hp k hk => ?_, fun k hk => ?_, fun k hk ns' h1 h2 => ahead_within md hn h9 k hk ns' h1 h2, fun k hk => ⟨?_, fun q hq => ?_⟩, ?_, turned_ok md hn h9 start hs⟩
  · obtain ⟨_, _, _, R'⟩ := ranked md h9 p hp
    exact row_len hn R'
  · obtain ⟨_, _, _, R'⟩ := ranked md h9 p hp
    exact (row_mem hn R' _).mpr ⟨k, hk, rfl⟩
  · have := nodup_len (l := aheadF ((k : Nat) : Int) (rowsF md)) (k := (List.range md.length).map fun (i : Nat) => (i : Int)) (ahead_nodup md hn h9 _) (fun x hx => by
      obtain ⟨j, hj, rfl, _⟩ := a1 k hk x hx
      exact List.mem_map.mpr ⟨j, List.mem_range.mpr hj, rfl⟩)
    simp at this; walk_at "om"
  · have := nodup_len (l := (addAll (aheadsF md) k).map (·.1)) (k := (List.range md.length).map fun (i : Nat) => (i : Int)) (addAll_spec (aheadsF md) hAn k).2.2 (fun x hx => by
      obtain ⟨i, hi, rfl⟩ := key_in k hk x hx
      exact List.mem_map.mpr ⟨i, List.mem_range.mpr hi, rfl⟩)
    simp at this; walk_at "om"
  · obtain ⟨i, hi, _, e⟩ := lkq k hk q hq
    rw [e]
    show (suOf (aheadsF md) k (i : Int)).length ≤ 400
    unfold suOf
    rw [List.length_map]
    have := List.length_filter_le (fun m => ((aheadsF md).getD m []).contains (i : Int)) (List.range k)
    rw [List.length_range] at this
    walk_at "om"
  · obtain ⟨s1, s2, s3⟩ := addAll_spec (aheadsF md) hAn md.length
    have lk0 : ∀ i : Nat, i < md.length → (addAll (aheadsF md) md.length).lookup (i : Int) = some (((aheadF ((i : Nat) : Int) (rowsF md)).length : Int), suOf (aheadsF md) md.length (i : Int)) := fun i hi => by
      obtain ⟨v, hv⟩ := has_lk (C.keysm i hi)
      have h2 := s1 i
      unfold getP at h2
      rw [hv, if_pos hi, aheads_get md i hi] at h2
      rw [hv]
      exact congrArg some h2
    have cnt0 : ∀ i : Nat, cnt rank (fun k => aheadF ((k : Nat) : Int) (rowsF md)) 0 i = (aheadF ((i : Nat) : Int) (rowsF md)).length := fun i => by
      unfold cnt
      rw [List.countP_eq_length]
      intro a _
      simp
    refine ⟨fun x => rank x.toNat, fun q s => ∃ m hr, m + q = md.length ∧ SIn md.length g rank (fun k => aheadF ((k : Nat) : Int) (rowsF md)) (fun i => suOf (aheadsF md) md.length (i : Int)) ((addAll (aheadsF md) md.length).map (·.1)) m hr s, md.length, fun q hq j hj => ?_, by rw [hrow]; exact sv_ok C, 0, [], by walk_at "om", ⟨by walk_at "om", rfl, rfl, fun i hi => ?_, rfl, rfl, .nil, (fun v hv => by simp at hv), (fun i _ hv => by simp at hv), ?_, fun x => ?_, rfl, rfl⟩⟩
    · obtain ⟨i, hi, e1, e2⟩ := lkq md.length (Nat.le_refl _) q hq
      rw [e2] at hj
      obtain ⟨k, hk, rfl, h⟩ := (suspec i j).mp hj
      refine ⟨C.keysm k hk, ?_⟩
      rw [e1]
      show rank ((i : Int)).toNat < rank ((k : Int)).toNat
      rw [Int.toNat_natCast, Int.toNat_natCast]
      obtain ⟨j', hj', e', h'⟩ := a1 k hk _ h
      have : i = j' := by walk_at "om"
      subst this; exact h'
    · show (addAll (aheadsF md) md.length).lookup (i : Int) = _
      rw [lk0 i hi, stat_out (by walk_at "om") (by simp), cnt0]
    · show (readyP (addAll (aheadsF md) md.length)).Nodup
      unfold readyP
      exact s3.sublist ((List.filter_sublist).map _)
    · show x ∈ readyP (addAll (aheadsF md) md.length) ↔ _
      unfold readyP
      rw [List.mem_map]
      constructor
      · rintro ⟨q, hq, rfl⟩
        rw [List.mem_filter] at hq
        obtain ⟨i, hi, e1, e2⟩ := lkq md.length (Nat.le_refl _) q hq.1
        refine ⟨i, hi, e1, by walk_at "om", by simp, ?_⟩
        have h0 := beq_iff_eq.mp hq.2
        rw [e2, if_pos hi, aheads_get md i hi] at h0
        rw [cnt0]
        simp only at h0
        walk_at "om"
      · rintro ⟨i, hi, rfl, _, _, h0⟩
        rw [cnt0] at h0
        have := mem_look (lk0 i hi)
        have hz : ((((aheadF ((i : Nat) : Int) (rowsF md)).length : Nat) : Int) == 0) = true := by rw [beq_iff_eq]; walk_at "om"
        exact ⟨_, List.mem_filter.mpr ⟨this, hz⟩, rfl⟩
end

end Mine

theorem PySem.Challenge.cw_nq0247_01_holds : PySem.Challenge.rw_nq0247_01.Holds :=
  Mine.joined Mine.text_eq Mine.law_pure
