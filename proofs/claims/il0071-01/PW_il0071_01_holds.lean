import PyProof.Rows.All
import Wide.All
import OpenK.AllK
import Wide.FinOn
import PyProof.Rows.RuleB_lshift
import PyProof.Rows.RuleB_rshift
import PyProof.Rows.RuleB_or
import KE.BitLaws
import OpenK.KLine
import KE.BytesMake
import KE.KBytesWalk
import KE.KNest
import KE.KLam
import KE.KSortAsk
import KE.KSortTup
import KE.KStar
import KE.KxDecode
import Lean
import PySem.Challenge.RW_il0071_01

set_option Elab.async false
set_option compiler.extract_closed false

section
/-! small sums, each shown once -/
namespace Mine
theorem six {i : Nat} (h : i < 6) : i = 0 ∨ i = 1 ∨ i = 2 ∨ i = 3 ∨ i = 4 ∨ i = 5 := (by decide : ∀ i, i < 6 → (i = 0 ∨ i = 1 ∨ i = 2 ∨ i = 3 ∨ i = 4 ∨ i = 5)) i h
theorem eight {n : Nat} (h : n ≤ 7) : n = 0 ∨ n = 1 ∨ n = 2 ∨ n = 3 ∨ n = 4 ∨ n = 5 ∨ n = 6 ∨ n = 7 := (by decide : ∀ n, n < 8 → (n = 0 ∨ n = 1 ∨ n = 2 ∨ n = 3 ∨ n = 4 ∨ n = 5 ∨ n = 6 ∨ n = 7)) n (Nat.lt_succ_of_le h)
theorem sbl {n j : Nat} (h : j < n) : n - (j + 1) < n - j := Nat.sub_lt_sub_left h (Nat.lt_succ_self j)
theorem sb0 {n j : Nat} (h : j < n) : n - j = n - (j + 1) + 1 := (Nat.succ_pred_eq_of_pos (Nat.sub_pos_of_lt h)).symm
theorem sb3 {c n k : Nat} (h : k < n - c) : c < n - k := Nat.lt_sub_iff_add_lt.mpr (Nat.add_comm k c ▸ Nat.lt_sub_iff_add_lt.mp h)
theorem sb1 {c n k : Nat} (h : k < n - c) : c ≤ n - k := Nat.le_of_lt (sb3 h)
theorem sb2 {c n k : Nat} (h : k < n - c) : c ≤ n - (k + 1) := Nat.le_sub_one_of_lt (sb3 h)
theorem sb4 {c n k : Nat} (h : ¬ k < n - c) : n - k ≤ c := Nat.sub_le_iff_le_add'.mpr (Nat.sub_le_iff_le_add.mp (Nat.not_lt.mp h))
theorem sb5 {c n k : Nat} (h : ¬ k < n - c) : n - (k + 1) ≤ c := Nat.le_trans (Nat.sub_le_sub_left (Nat.le_succ k) n) (sb4 h)
theorem mn1 {a n k : Nat} (h : min (n - k) n = a + 1) : min a (n - k) = n - (k + 1) := by
  have e := (Nat.min_eq_left (Nat.sub_le n k)).symm.trans h
  show min a (n - k) = (n - k) - 1
  rw [e]
  exact Nat.min_eq_left (Nat.le_succ a)
theorem tk_ne {α : Type} {u : List α} {k c : Nat} (h : k < u.length - c) : u.take (u.length - k) ≠ [] := fun q => by
  have := congrArg List.length q
  rw [List.length_take, Nat.min_eq_left (Nat.sub_le ..), List.length_nil] at this
  exact Nat.not_lt_zero c (this ▸ sb3 h)
theorem le_l {k n m z : Nat} (h : k + n ≤ m) (hm : m ≤ z) : k ≤ z := Nat.le_trans (Nat.le_add_right _ _) (Nat.le_trans h hm)
theorem le_r {k n m z : Nat} (h : k + n ≤ m) (hm : m ≤ z) : n ≤ z := Nat.le_trans (Nat.le_add_left _ _) (Nat.le_trans h hm)
theorem c20a {k : Nat} (h : k ≤ 12) : 20 - k = (18 - k) + 2 := (by decide : ∀ k, k < 13 → 20 - k = (18 - k) + 2) k (Nat.lt_succ_of_le h)
theorem c20b {k : Nat} (h : k ≤ 12) : 20 - (18 - k + 2) = k := (by decide : ∀ k, k < 13 → 20 - (18 - k + 2) = k) k (Nat.lt_succ_of_le h)
theorem c20c {k : Nat} (h : k ≤ 12) : 20 - k = (20 - (k + 1)) + 1 := (by decide : ∀ k, k < 13 → 20 - k = (20 - (k + 1)) + 1) k (Nat.lt_succ_of_le h)
theorem c20d {k : Nat} (h : k ≤ 12) : 20 - (k + 1) = 18 - k + 1 := (by decide : ∀ k, k < 13 → 20 - (k + 1) = 18 - k + 1) k (Nat.lt_succ_of_le h)
theorem c20e {k : Nat} (h : k ≤ 12) : 20 - k = (19 - k) + 1 := (by decide : ∀ k, k < 13 → 20 - k = (19 - k) + 1) k (Nat.lt_succ_of_le h)
theorem c20f {k : Nat} (h : k ≤ 12) : 18 - k + 2 ≤ 20 := (by decide : ∀ k, k < 13 → 18 - k + 2 ≤ 20) k (Nat.lt_succ_of_le h)
theorem stp {k n m z : Nat} (h : k + n ≤ m) (h1 : 1 ≤ z) (h2 : 0 < n) : k + 1 + (n - z) ≤ m := by
  refine Nat.le_trans ?_ h
  rw [Nat.add_assoc]
  exact Nat.add_le_add_left (by rw [Nat.add_comm]; exact Nat.succ_le_of_lt (Nat.sub_lt h2 h1)) k
/-- the turns of a loop: how many are left -/
theorem lp {N n j n' : Nat} (h : n ≤ N) (e : n = n' + 1) : N - n' + j = N - n + (j + 1) := by
  subst e
  have : N - n' = N - (n' + 1) + 1 := sb0 h
  rw [this, Nat.add_assoc, Nat.add_comm 1 j]
theorem i2n (a b : Nat) : ((a : Int) + (b : Int)).toNat - ((a : Int)).toNat = b := by
  rw [← Int.natCast_add, Int.toNat_natCast, Int.toNat_natCast, Nat.add_sub_cancel_left]
theorem i2s {a b : Nat} (h : b ≤ a) : ((a : Int) - (b : Int)).toNat = a - b := by
  rw [← Int.natCast_sub h, Int.toNat_natCast]
theorem i2d {a b : Nat} (h : b ≤ a) : 0 ≤ (a : Int) - (b : Int) := Int.sub_nonneg_of_le (Int.ofNat_le.mpr h)
theorem gy (N n' : Nat) : N - 1 - (n' + 2 - 1) = N - (n' + 2) := by
  show N - 1 - (n' + 1) = _
  rw [Nat.sub_sub, Nat.add_comm 1]
theorem nab {n a b : Nat} (e : n - b = n - a) (h : a < b) (hb : b < n) : False := absurd e (Nat.ne_of_lt (Nat.sub_lt_sub_left (Nat.lt_trans h hb) h))
theorem na0 {n a b : Nat} (e : n - b = n - a) (hb : b = 0) (ha : a < n) : a = 0 := by
  subst hb
  exact Nat.eq_zero_of_not_pos fun h => nab e.symm h ha |>.elim
/-! three octets as one number, in sixes -/
theorem md {c d : Nat} (a b : Nat) (hc : c < d) : (a * d + c) % (b * d) = a % b * d + c := by
  have hd : 0 < d := Nat.lt_of_le_of_lt (Nat.zero_le c) hc
  rw [Nat.mul_comm b d, Nat.mod_mul, Nat.mul_comm a d, Nat.mul_add_mod, Nat.mul_add_div hd, Nat.mod_eq_of_lt hc, Nat.div_eq_of_lt hc, Nat.add_zero, Nat.add_comm, Nat.mul_comm d]
theorem tri (x y z : Nat) : x * 65536 + y * 256 + z = (x * 256 + y) * 256 + z := by
  rw [Nat.add_mul, Nat.mul_assoc]
theorem two_lt {y z : Nat} (hy : y < 256) (hz : z < 256) : y * 256 + z < 65536 :=
  Nat.lt_of_lt_of_le (Nat.add_lt_add_left hz _) (Nat.succ_mul y 256 ▸ Nat.mul_le_mul_right 256 hy)
theorem dv1 {x y z : Nat} (hx : x < 256) (hy : y < 256) (hz : z < 256) : (x * 65536 + y * 256 + z) / 262144 % 64 = x / 4 := by
  rw [show 262144 = 65536 * 4 from rfl, ← Nat.div_div_eq_div_mul, Nat.add_assoc, Nat.mul_comm x, Nat.mul_add_div (by decide), Nat.div_eq_of_lt (two_lt hy hz), Nat.add_zero]
  exact Nat.mod_eq_of_lt (Nat.div_lt_of_lt_mul hx)
theorem dv2 {x y z : Nat} (hy : y < 256) (hz : z < 256) : (x * 65536 + y * 256 + z) / 4096 % 64 = x % 4 * 16 + y / 16 := by
  rw [tri, show 4096 = 256 * 16 from rfl, ← Nat.div_div_eq_div_mul, Nat.mul_comm _ 256, Nat.mul_add_div (by decide), Nat.div_eq_of_lt hz, Nat.add_zero, show x * 256 + y = 16 * (x * 16) + y by rw [Nat.mul_comm 16, Nat.mul_assoc], Nat.mul_add_div (by decide)]
  exact md x 4 (Nat.div_lt_of_lt_mul hy)
theorem dv3 {x y z : Nat} (hz : z < 256) : (x * 65536 + y * 256 + z) / 64 % 64 = y % 16 * 4 + z / 64 := by
  have e : y % 16 = (x * 256 + y) % 16 := by rw [show x * 256 + y = 16 * (x * 16) + y by rw [Nat.mul_comm 16, Nat.mul_assoc], Nat.mul_add_mod]
  rw [tri, e, show (x * 256 + y) * 256 + z = 64 * ((x * 256 + y) * 4) + z by rw [Nat.mul_comm 64, Nat.mul_assoc], Nat.mul_add_div (by decide)]
  exact md _ 16 (Nat.div_lt_of_lt_mul hz)
theorem dv4 (x y z : Nat) : (x * 65536 + y * 256 + z) % 64 = z % 64 := by
  rw [tri, show (x * 256 + y) * 256 + z = 64 * ((x * 256 + y) * 4) + z by rw [Nat.mul_comm 64, Nat.mul_assoc], Nat.mul_add_mod]
/-! an octet behind the last one -/
theorem sx0 {lc x : Nat} (hx : x < 256) : (lc * 256 + x) % 65536 % 256 = x := by
  rw [Nat.mod_mod_of_dvd _ (⟨256, rfl⟩ : 256 ∣ 65536), Nat.mul_comm, Nat.mul_add_mod, Nat.mod_eq_of_lt hx]
theorem sxm {lc x : Nat} (hx : x < 256) : (lc * 256 + x) % 65536 = lc % 256 * 256 + x := md lc 256 hx
theorem bs0 {x : Nat} (a : Nat) (hx : x < 256) : (a * 256 + x) / 4 % 64 = x / 4 := by
  rw [show a * 256 + x = 4 * (a * 64) + x by rw [Nat.mul_comm 4, Nat.mul_assoc], Nat.mul_add_div (by decide), Nat.mul_comm, Nat.mul_add_mod]
  exact Nat.mod_eq_of_lt (Nat.div_lt_of_lt_mul hx)
theorem bs2 {y : Nat} (x : Nat) (hy : y < 256) : (x * 256 + y) / 16 % 64 = x % 4 * 16 + y / 16 := by
  rw [show x * 256 + y = 16 * (x * 16) + y by rw [Nat.mul_comm 16, Nat.mul_assoc], Nat.mul_add_div (by decide)]
  exact md x 4 (Nat.div_lt_of_lt_mul hy)
theorem bs4 {z : Nat} (y : Nat) (hz : z < 256) : (y * 256 + z) / 64 % 64 = y % 16 * 4 + z / 64 := by
  rw [show y * 256 + z = 64 * (y * 4) + z by rw [Nat.mul_comm 64, Nat.mul_assoc], Nat.mul_add_div (by decide)]
  exact md y 16 (Nat.div_lt_of_lt_mul hz)
theorem bs5 (a z : Nat) : (a * 256 + z) % 64 = z % 64 := by
  rw [show a * 256 + z = 64 * (a * 4) + z by rw [Nat.mul_comm 64, Nat.mul_assoc], Nat.mul_add_mod]
theorem q1 {x : Nat} (h : x < 256) : x / 4 < 64 := Nat.div_lt_of_lt_mul h
theorem q2 {x y : Nat} (h : y < 256) : x % 4 * 16 + y / 16 < 64 :=
  Nat.lt_of_lt_of_le (Nat.add_lt_add_left (Nat.div_lt_of_lt_mul h : y / 16 < 16) _) (Nat.succ_mul (x % 4) 16 ▸ Nat.mul_le_mul_right 16 (Nat.mod_lt x (by decide)))
theorem q3 {y z : Nat} (h : z < 256) : y % 16 * 4 + z / 64 < 64 :=
  Nat.lt_of_lt_of_le (Nat.add_lt_add_left (Nat.div_lt_of_lt_mul h : z / 64 < 4) _) (Nat.succ_mul (y % 16) 4 ▸ Nat.mul_le_mul_right 4 (Nat.mod_lt y (by decide)))
theorem q5 (x : Nat) : x % 4 * 16 < 64 := by have := q2 (x := x) (y := 0) (by decide); rwa [Nat.zero_div, Nat.add_zero] at this
theorem q6 (y : Nat) : y % 16 * 4 < 64 := by have := q3 (y := y) (z := 0) (by decide); rwa [Nat.zero_div, Nat.add_zero] at this
theorem q4 (z : Nat) : z % 64 < 64 := Nat.mod_lt z (by decide)
/-- what the last octets lack -/
theorem sh3 (n : Nat) : (3 - (n + 1 + 1 + 1) % 3) % 3 = (3 - n % 3) % 3 := by
  rw [show (n + 1 + 1 + 1) % 3 = n % 3 from Nat.add_mod_right n 3]
theorem shk : ∀ n : Nat, ∃ k, n + (3 - n % 3) % 3 = 3 * k
  | 0 => ⟨0, rfl⟩
  | 1 => ⟨1, rfl⟩
  | 2 => ⟨1, rfl⟩
  | n + 3 => let ⟨k, h⟩ := shk n; ⟨k + 1, by rw [sh3 n, Nat.mul_succ, ← h, Nat.add_right_comm]⟩
end Mine
end

section
open PySem PySem.W PyProof.Rows PySem.Calls
set_option maxRecDepth 100000
namespace Mine

noncomputable abbrev PW : Program := PySem.Challenge.pw_il0071_01
noncomputable abbrev Keep (h h' : Heap) : Prop := ∀ b o, h.get? b = some o → h'.get? b = some o
theorem Keep.refl (h : Heap) : Keep h h := fun _ _ e => e
theorem Keep.trans {a b c : Heap} (x : Keep a b) (y : Keep b c) : Keep a c := fun i o e => y i o (x i o e)

noncomputable def stmtAt (i : Nat) : Stmt := (PW.main.body[i]?).getD (.Pass ⟨0, 0, 0, 0⟩)
noncomputable def fName : Stmt → Str | .FunctionDef n _ _ _ _ _ _ _ _ _ => n | _ => Str.empty
noncomputable def fParams : Stmt → Arguments | .FunctionDef _ p _ _ _ _ _ _ _ _ => p | _ => { posonlyargs := [], args := [], vararg := none, kwonlyargs := [], kw_defaults := [], kwarg := none, defaults := [] }
noncomputable def fBody : Stmt → List Stmt | .FunctionDef _ _ b _ _ _ _ _ _ _ => b | _ => []
noncomputable def fScope : Stmt → Scope | .FunctionDef _ _ _ _ _ _ s _ _ _ => s | _ => { kind := .function, names := [], isGenerator := false, isCoroutine := false, more := [] }

noncomputable def fdOf (i : Nat) (dV kV pm cd doc : Value) : FuncData :=
  { docDef (fName (stmtAt i)) (fParams (stmtAt i)) (fBody (stmtAt i)) (fScope (stmtAt i)) pm cd doc with defaults := dV, kwdefaults := kV }
noncomputable def FnAt (h : Heap) (a i : Nat) (dV kV : Value) : Prop :=
  ∃ o pm cd doc, h.get? a = some o ∧ o.data = .func (fdOf i dV kV pm cd doc) ∧ h.CodeRec cd (fName (stmtAt i))
theorem FnAt.keeps {h h' : Heap} {a i : Nat} {dV kV : Value} (x : FnAt h a i dV kV) (k : Keep h h') : FnAt h' a i dV kV :=
  let ⟨o, pm, cd, doc, e, d, c⟩ := x; ⟨o, pm, cd, doc, k _ _ e, d, c.keeps k⟩

noncomputable def fnTab : List (Nat × Nat × Value × Value) := [
  (94, 9, .none, .none), (108, 13, .none, .none), (115, 14, .none, .none), (122, 15, .none, .none), (129, 16, .none, .none), (136, 17, .none, .none), (143, 18, .none, .none),
  (150, 19, .none, .none), (155, 20, .none, .none), (162, 22, .none, .none), (169, 23, .none, .none), (177, 25, .none, .ref 170), (185, 27, .ref 178, .none), (192, 29, .none, .none),
  (199, 30, .none, .none), (206, 32, .none, .none), (213, 34, .none, .none), (218, 35, .none, .none), (225, 36, .none, .none), (232, 37, .none, .none), (239, 38, .none, .none),
  (246, 39, .none, .none), (253, 40, .none, .none), (260, 41, .none, .none), (265, 42, .none, .none), (272, 43, .none, .none), (279, 44, .none, .none), (284, 45, .none, .none), (289, 46, .none, .none)]

noncomputable def globs : List (Str × Value) := [
  ("_wall", .ref 21), ("_plain_name", .ref 28), ("fspath", .ref 94), ("_check_arg_types", .ref 101), ("_get_sep", .ref 108), ("join", .ref 115), ("split", .ref 122), ("splitroot", .ref 129),
  ("basename", .ref 136), ("dirname", .ref 143), ("normpath", .ref 150), ("commonpath", .ref 155), ("_buffer", .ref 162), ("_truth", .ref 169), ("b2a_base64", .ref 177), ("b64encode", .ref 185),
  ("_strcoll", .ref 192), ("_strxfrm", .ref 199), ("_grouping_intervals", .ref 206), ("_law_sizes", .ref 213), ("_law_octets", .ref 218), ("_law_two", .ref 225), ("_law_signs", .ref 232),
  ("_law_names", .ref 239), ("_law_cut", .ref 246), ("_law_turned", .ref 253), ("_law_turnings", .ref 260), ("_law_read", .ref 265), ("_law_runs", .ref 272), ("_law_told", .ref 279), ("_law_ahead", .ref 284)]
noncomputable def bnames : List (Str × Value) := [
  ("type", .type "type"), ("issubclass", .builtin "issubclass"), ("str", .type "str"), ("bytes", .type "bytes"), ("isinstance", .builtin "isinstance"), ("len", .builtin "len"), ("tuple", .type "tuple"),
  ("map", .type "map"), ("min", .builtin "min"), ("max", .builtin "max"), ("enumerate", .type "enumerate"), ("bool", .type "bool"), ("int", .type "int"), ("float", .type "float"), ("complex", .type "complex"),
  ("bytearray", .type "bytearray"), ("list", .type "list"), ("dict", .type "dict"), ("set", .type "set"), ("frozenset", .type "frozenset"), ("range", .type "range"), ("sorted", .builtin "sorted")]
noncomputable def b64tab : Array UInt8 := #[65, 66, 67, 68, 69, 70, 71, 72, 73, 74, 75, 76, 77, 78, 79, 80, 81, 82, 83, 84, 85, 86, 87, 88, 89, 90, 97, 98, 99, 100, 101, 102, 103, 104, 105, 106, 107, 108, 109, 110, 111, 112, 113, 114, 115, 116, 117, 118, 119, 120, 121, 122, 48, 49, 50, 51, 52, 53, 54, 55, 56, 57, 43, 47]

structure Wd (h : Heap) : Prop where
  ns : ∃ mg mb, h.Ns mainGlobals mg ∧ h.Ns builtinsNs mb ∧ (∀ x v, globs.lookup x = some v → mg x = some v) ∧ (∀ x v, bnames.lookup x = some v → mg x = none ∧ mb x = some v) ∧
    (∃ t, mg "_B64" = some (.bytes b64tab t)) ∧ (∃ t, mg "CHAR_MAX" = some (.int 127 t))
  lim : h.NoLimit
  fn : ∀ q ∈ fnTab, FnAt h q.1 q.2.1 q.2.2.1 q.2.2.2
  dflt : h.IsTuple 178 #[.none]
theorem Wd.keeps {h h' : Heap} (W : Wd h) (k : Keep h h') : Wd h' := by
  obtain ⟨⟨mg, mb, g, b, r⟩, lim, fn, d⟩ := W
  obtain ⟨o, e, c⟩ := d
  exact ⟨⟨mg, mb, g.keeps k, b.keeps k, r⟩, lim.keeps k, fun q hq => (fn q hq).keeps k, o, k _ _ e, c⟩

structure Rm (n : Nat) (A : Around) : Prop where
  hd : A.handled = none
  dp : A.depth + n < 1000
  un : A.units + 10 * n < 9000
theorem Rm.deeper {n : Nat} {A : Around} (x : Rm (n + 1) A) (env : Env) : Rm n (A.deeper env) := ⟨x.hd, by have := x.dp; show A.depth + 1 + n < _; omega, by have := x.un; show A.units + 3 + _ < _; omega⟩
theorem Rm.in1 {n : Nat} {A : Around} (x : Rm (n + 1) A) : Rm n A.in1 := ⟨x.hd, by have := x.dp; show A.depth + n < _; omega, by have := x.un; show A.units + 1 + _ < _; omega⟩
theorem Rm.le {n k : Nat} {A : Around} (x : Rm n A) (h : k ≤ n) : Rm k A := ⟨x.hd, by have := x.dp; omega, by have := x.un; omega⟩
theorem Rm.room {n : Nat} {A : Around} (x : Rm n A) : A.depth < recursionLimit := by have := x.dp; unfold recursionLimit; omega
theorem Rm.units {n : Nat} {A : Around} (x : Rm n A) : A.units < cLine := by have := x.un; unfold cLine; omega

structure EnvIs (env : Env) (L : Addr) (sc : Scope) (cl : List (Str × Addr)) : Prop where
  scope : env.scope = sc
  locals : env.locals = L
  globals : env.globals = mainGlobals
  builtins : env.builtins = builtinsNs
  cells : env.cells = cl
  kind : sc.kind = .function
theorem EnvIs.k {env : Env} {L : Addr} {sc : Scope} {cl : List (Str × Addr)} (e : EnvIs env L sc cl) : env.scope.kind = .function := by rw [e.scope]; exact e.kind
theorem EnvIs.kindOf {env : Env} {L : Addr} {sc : Scope} {cl : List (Str × Addr)} (e : EnvIs env L sc cl) {n : Str} {k : NameKind} (h : (sc.names.lookup n == some k) = true) : env.kindOf n = some k := by
  unfold Env.kindOf; rw [e.scope]; exact eq_of_beq h

noncomputable def asm (l : List (Str × Value)) : Str → Option Value := fun y => l.lookup y
inductive Upd' (n : Str) (v : Value) : List (Str × Value) → List (Str × Value) → Prop
  | hit {w l} : Upd' n v ((n, w) :: l) ((n, v) :: l)
  | nil : Upd' n v [] [(n, v)]
  | miss {x w l l'} : (n == x) = false → Upd' n v l l' → Upd' n v ((x, w) :: l) ((x, w) :: l')
theorem Upd'.asm {n : Str} {v : Value} : ∀ {l l' : List (Str × Value)}, Upd' n v l l' → asm l' = fun y => if y = n then some v else asm l y
  | _, _, .hit (l := l) => by
    funext y; unfold Mine.asm; simp only [List.lookup_cons]
    by_cases h : y = n
    · subst h; simp
    · have h' : (y == n) = false := by simpa using h
      simp [h, h']
  | _, _, .nil => by
    funext y; unfold Mine.asm; simp only [List.lookup_cons, List.lookup_nil]
    by_cases h : y = n
    · subst h; simp
    · have h' : (y == n) = false := by simpa using h
      simp [h, h']
  | _, _, .miss (x := x) (w := w) (l := l) (l' := l') hx u => by
    have ih := u.asm
    funext y; have ih' := congrFun ih y; unfold Mine.asm at ih' ⊢; simp only [List.lookup_cons]
    by_cases h : y = n
    · subst h; rw [hx]; simp only [if_true] at ih' ⊢; exact ih'
    · cases e : y == x <;> simp_all

/-- what stands in the one list stands in the other -/
noncomputable def Sub' (l l' : List (Str × Value)) : Prop := ∀ n v, l.lookup n = some v → l'.lookup n = some v
theorem Sub'.nil {l : List (Str × Value)} : Sub' [] l := fun _ _ h => by cases h
theorem Sub'.cons {l r : List (Str × Value)} {n : Str} {v : Value} (h : l.lookup n = some v) (k : Sub' r l) : Sub' ((n, v) :: r) l := fun m u e => by
  rw [List.lookup_cons] at e
  cases q : m == n with
  | true => rw [q] at e; cases e; rw [eq_of_beq q]; exact h
  | false => rw [q] at e; exact k m u e
theorem Sub'.refl (l : List (Str × Value)) : Sub' l l := fun _ _ h => h
noncomputable def Has (m : Str → Option Value) (l : List (Str × Value)) : Prop := ∀ n v, l.lookup n = some v → m n = some v
/-- an object of the ledger stands otherwise -/
inductive UpdO (a : Addr) (o o' : Obj) : List (Addr × Obj) → List (Addr × Obj) → Prop
  | hit {r} : UpdO a o o' ((a, o) :: r) ((a, o') :: r)
  | miss {p r r'} : UpdO a o o' r r' → UpdO a o o' (p :: r) (p :: r')
theorem UpdO.split {a : Addr} {o o' : Obj} : ∀ {l l' : List (Addr × Obj)}, UpdO a o o' l l' → ∃ pre post, l = pre ++ (a, o) :: post ∧ l' = pre ++ (a, o') :: post
  | _, _, .hit (r := r) => ⟨[], r, rfl, rfl⟩
  | _, _, .miss (p := p) u => let ⟨pre, post, e1, e2⟩ := u.split; ⟨p :: pre, post, by rw [e1]; rfl, by rw [e2]; rfl⟩
noncomputable def Apart (nw : List (Addr × Obj)) : Prop := nw.Pairwise fun p q => p.1 ≠ q.1

structure In (s₀ : Shared) (L : Addr) (l : List (Str × Value)) (N : List (Addr × Obj)) (s : Shared) : Prop where
  same : ∃ h tk, s = { s₀ with heap := h, toks := tk }
  ns : ∃ m, s.heap.Ns L m ∧ Has m l
  keep : Keep s₀.heap s.heap
  nw : ∀ p ∈ N, s.heap.get? p.1 = some p.2 ∧ p.1 ≠ L ∧ s₀.heap.get? p.1 = none
  nd : Apart N

section
variable {s₀ s s' : Shared} {L : Addr} {l l' : List (Str × Value)} {nw nw' : List (Addr × Obj)}
theorem keeps_iff {s s' : Shared} (h : Keeps s s') : ∃ h' tk, s' = { s with heap := h', toks := tk } ∧ Keep s.heap h' := h
theorem In.done (x : In s₀ L l nw s) : Keeps s₀ s := by
  obtain ⟨h, tk, e⟩ := x.same
  exact ⟨h, tk, e, by have := x.keep; rw [e] at this; exact this⟩
theorem In.tok (x : In s₀ L l nw s) (t : Nat) : In s₀ L l nw { s with toks := t } :=
  ⟨by obtain ⟨h, tk, e⟩ := x.same; exact ⟨h, t, by rw [e]⟩, x.ns, x.keep, x.nw, x.nd⟩
theorem In.step (x : In s₀ L l nw s) (k : Keeps s s') : In s₀ L l nw s' := by
  obtain ⟨h', tk, rfl, hk⟩ := k
  exact ⟨by obtain ⟨h, tk', e⟩ := x.same; exact ⟨h', tk, by rw [e]⟩, let ⟨m, n, hm⟩ := x.ns; ⟨m, n.keeps hk, hm⟩, x.keep.trans hk, fun p hp => ⟨hk _ _ (x.nw p hp).1, (x.nw p hp).2⟩, x.nd⟩
theorem In.push (x : In s₀ L l nw s) (o : Obj) : In s₀ L l nw { s with heap := s.heap.push o } :=
  x.step ⟨_, _, rfl, fun _ _ e => Heap.get?_push_of_some _ e⟩
theorem In.lt (x : In s₀ L l nw s) : L < s.heap.objs.size := let ⟨_, n, _⟩ := x.ns; n.lt
/-- a new object onto the ledger -/
theorem In.more (x : In s₀ L l nw s) (k : Keeps s s') {a : Addr} {o : Obj} (hn : s.heap.get? a = none) (ho : s'.heap.get? a = some o) : In s₀ L l ((a, o) :: nw) s' := by
  have y := x.step k
  refine ⟨y.same, y.ns, y.keep, fun p hp => ?_, List.pairwise_cons.mpr ⟨fun p hp e => ?_, y.nd⟩⟩
  · rcases List.mem_cons.mp hp with rfl | hp
    · refine ⟨ho, fun e => ?_, ?_⟩
      · obtain ⟨m, ⟨o', _, _, e', _⟩, _⟩ := x.ns
        dsimp only at e; subst e; rw [hn] at e'; cases e'
      · cases q : s₀.heap.get? a with
        | none => rfl
        | some o' => have := x.keep _ _ q; rw [hn] at this; cases this
    · exact y.nw p hp
  · have := (x.nw p hp).1
    dsimp only at e
    rw [← e, hn] at this; cases this
theorem In.pushN (x : In s₀ L l nw s) (o : Obj) (hf : o.isFreed = false) : In s₀ L l ((s.heap.objs.size, o) :: nw) { s with heap := s.heap.push o } :=
  x.more ⟨_, _, rfl, fun _ _ e => Heap.get?_push_of_some _ e⟩ (Heap.get?_none_of_le (Nat.le_refl _)) (Heap.get?_push_size _ hf)
theorem In.drop (x : In s₀ L l nw s) (h : nw'.Sublist nw) : In s₀ L l nw' s := ⟨x.same, x.ns, x.keep, fun p hp => x.nw p (h.subset hp), x.nd.sublist h⟩
theorem In.perm (x : In s₀ L l nw s) (h : nw.Perm nw') : In s₀ L l nw' s := ⟨x.same, x.ns, x.keep, fun p hp => x.nw p (h.symm.subset hp), h.pairwise x.nd fun hab => Ne.symm hab⟩
theorem In.forget (x : In s₀ L l nw s) (h : Sub' l' l) : In s₀ L l' nw s := ⟨x.same, let ⟨m, n, hm⟩ := x.ns; ⟨m, n, fun k v e => hm k v (h k v e)⟩, x.keep, x.nw, x.nd⟩
theorem In.wd (x : In s₀ L l nw s) (W : Wd s₀.heap) : Wd s.heap := W.keeps x.keep
theorem In.setM (x : In s₀ L l nw s) (hf : s₀.heap.get? L = none) {m : Str → Option Value} (hm : Has m l') {h' : Heap} {tk : Nat} (hn : h'.Ns L m) (hs : Heap.SameBut L s.heap h') :
    In s₀ L l' nw { s with heap := h', toks := tk } :=
  ⟨by obtain ⟨h, tk', e⟩ := x.same; exact ⟨h', tk, by rw [e]⟩, ⟨_, hn, hm⟩, fun b o e => (hs.2 b (fun q => by subst q; rw [hf] at e; cases e)).trans (x.keep b o e),
    fun p hp => ⟨(hs.2 _ (x.nw p hp).2.1).trans (x.nw p hp).1, (x.nw p hp).2⟩, x.nd⟩
theorem Has.upd {m : Str → Option Value} {n : Str} {v : Value} (h : Has m l) (u : Upd' n v l l') : Has (fun y => if y = n then some v else m y) l' := fun k w e => by
  have := congrFun u.asm k
  unfold asm at this
  rw [e] at this
  dsimp only
  by_cases q : k = n
  · rw [if_pos q] at this ⊢; exact this.symm
  · rw [if_neg q] at this ⊢; exact h k w this.symm
theorem Has.cons {m : Str → Option Value} {n : Str} {v : Value} (h : Has m l) : Has (fun y => if y = n then some v else m y) ((n, v) :: l) := fun k w e => by
  rw [List.lookup_cons] at e
  dsimp only
  by_cases q : k = n
  · subst q; rw [beq_self_eq_true] at e; rw [if_pos rfl]; exact e
  · have q' : (k == n) = false := by simpa using q
    rw [q'] at e; rw [if_neg q]; exact h k w e
/-- an object of the ledger turned -/
theorem In.turn (x : In s₀ L l nw s) {h' : Heap} {tk : Nat} {a : Addr} {o o' : Obj} (u : UpdO a o o' nw nw') (hs : Heap.ExtBut a s.heap h') (hg : h'.get? a = some o') :
    In s₀ L l nw' { s with heap := h', toks := tk } := by
  obtain ⟨pre, post, rfl, rfl⟩ := u.split
  have ha := x.nw (a, o) (by simp)
  have nd := x.nd
  have hne : ∀ p, p ∈ pre ∨ p ∈ post → p.1 ≠ a := by
    intro p hp
    unfold Apart at nd
    rw [List.pairwise_append] at nd
    obtain ⟨_, n2, n3⟩ := nd
    rw [List.pairwise_cons] at n2
    rcases hp with hp | hp
    · exact n3 p hp (a, o) (by simp)
    · exact Ne.symm (n2.1 p hp)
  refine ⟨by obtain ⟨h, tk', e⟩ := x.same; exact ⟨h', tk, by rw [e]⟩, let ⟨m, n, hm⟩ := x.ns; ⟨m, n.extBut hs (Ne.symm ha.2.1), hm⟩, fun b o e => hs b o (fun q => ?_) (x.keep b o e), fun p hp => ?_, ?_⟩
  · subst q; rw [ha.2.2] at e; cases e
  · rcases List.mem_append.mp hp with hp | hp
    · have := x.nw p (by simp [hp]); exact ⟨hs _ _ (hne p (.inl hp)) this.1, this.2⟩
    · rcases List.mem_cons.mp hp with rfl | hp
      · exact ⟨hg, ha.2⟩
      · have := x.nw p (by simp [hp]); exact ⟨hs _ _ (hne p (.inr hp)) this.1, this.2⟩
  · unfold Apart at nd ⊢
    rw [List.pairwise_append] at nd ⊢
    obtain ⟨n1, n2, n3⟩ := nd
    rw [List.pairwise_cons] at n2
    refine ⟨n1, List.pairwise_cons.mpr n2, fun p hp q hq => ?_⟩
    rcases List.mem_cons.mp hq with rfl | hq
    · exact n3 p hp (a, o) (by simp)
    · exact n3 p hp q (by simp [hq])
end

/-- the flow behind a block, and behind a def -/
noncomputable def thenX (M : Model) (A : Around) (rest : List Stmt) (env : Env) (Q : Flow → Shared → Prop) (E : Value → Shared → Prop) : Flow → Shared → Prop
  | .next, s => wpAny M A (execs rest env) Q E s
  | .brk, s => Q .brk s
  | .cont, s => Q .cont s
  | .ret v, s => Q (.ret v) s
noncomputable def retQ (Q : Value → Shared → Prop) : Flow → Shared → Prop
  | .ret v, s => Q v s
  | _, s => Q .none s

section
variable {M : Model} {w : World} {A : Around} {E : Value → Shared → Prop} {s : Shared} {env : Env} {Q : Flow → Shared → Prop} {rest body orelse : List Stmt} {pos p1 : Pos}
theorem thenX_of (h : wpAny M A (execs body env) (thenX M A rest env Q E) E s) : wpAny M A (execs body env) (fun f s' => match f with | .next => wpAny M A (execs rest env) Q E s' | f => Q f s') E s :=
  wpAny_mono h (fun f s' x => by cases f <;> exact x) fun _ _ x => x
theorem xNil (h : Q .next s) : wpAny M A (execs [] env) Q E s := wpAny_execs_nil h
theorem tNext (h : wpAny M A (execs rest env) Q E s) : thenX M A rest env Q E .next s := h
theorem tRet {v : Value} (h : Q (.ret v) s) : thenX M A rest env Q E (.ret v) s := h
theorem tBrk (h : Q .brk s) : thenX M A rest env Q E .brk s := h
theorem tCont (h : Q .cont s) : thenX M A rest env Q E .cont s := h
theorem rqRet {Q : Value → Shared → Prop} {v : Value} (h : Q v s) : retQ Q (.ret v) s := h
theorem rqNext {Q : Value → Shared → Prop} (h : Q .none s) : retQ Q .next s := h
theorem xReturn {e : PySem.Expr} (h : wpAny M A (eval e env) (fun v s' => Q (.ret v) s') E s) : wpAny M A (execs (.Return (some e) pos :: rest) env) Q E s :=
  wpAny_execs_cons (wpAny_Return_some h)
theorem xReturnN (h : Q (.ret .none) s) : wpAny M A (execs (.Return none pos :: rest) env) Q E s := wpAny_execs_cons (wpAny_Return_none h)
theorem xAssign {x : Str} {value : PySem.Expr} (h : wpAny M A (eval value env) (fun v s₁ => wpAny M A (storeName env x v) (fun _ s₂ => wpAny M A (execs rest env) Q E s₂) E s₁) E s)
    (hw : swapsWith value (some (.Name x p1)) pos.line env = pure false := by rfl) : wpAny M A (execs (.Assign [.Name x p1] value pos :: rest) env) Q E s :=
  wpAny_execs_cons (wpAny_Assign_Name h hw)
theorem xAug {x : Str} {op : Operator} {value : PySem.Expr} (h : wpAny M A (loadName env x) (fun old s₁ => wpAny M A (eval value env) (fun v s₂ => wpAny M A (inplaceOp op old v) (fun r s₃ => wpAny M A (storeName env x r) (fun _ s₄ => wpAny M A (execs rest env) Q E s₄) E s₃) E s₂) E s₁) E s) :
    wpAny M A (execs (.AugAssign (.Name x p1) op value pos :: rest) env) Q E s := wpAny_execs_cons (wpAny_AugAssign_Name h)
theorem xIf {test : PySem.Expr} (h : wpAny M A (PySem.isTrue test env (eval test env)) (fun b s₂ => if b = true then wpAny M A (execs body env) (thenX M A rest env Q E) E s₂ else wpAny M A (execs orelse env) (thenX M A rest env Q E) E s₂) E s) :
    wpAny M A (execs (.If test body orelse pos :: rest) env) Q E s := by
  refine wpAny_execs_cons (wpAny_If (wpAny_mono h (fun b s₂ x => ?_) fun _ _ x => x))
  cases b
  · simp only [Bool.false_eq_true, if_false] at x ⊢; exact thenX_of x
  · simp only [if_true] at x ⊢; exact thenX_of x
theorem xPass (h : wpAny M A (execs rest env) Q E s) : wpAny M A (execs (.Pass pos :: rest) env) Q E s := wpAny_execs_cons (wpAny_Pass h)
theorem xBreak (h : Q .brk s) : wpAny M A (execs (.Break pos :: rest) env) Q E s := wpAny_execs_cons (wpAny_Break h)
theorem xContinue (h : Q .cont s) : wpAny M A (execs (.Continue pos :: rest) env) Q E s := wpAny_execs_cons (wpAny_Continue h)
theorem xTry {h₀ : ExceptHandler} {hs : List ExceptHandler} (h : wpAny (model PW w) A (execs body env) (thenX (model PW w) A orelse env (thenX (model PW w) A rest env Q E) E) (fun _ _ => False) s) :
    wpAny (model PW w) A (execs (.Try body (h₀ :: hs) orelse [] pos :: rest) env) Q E s := by
  refine wpAny_execs_cons (wpAny_Try_except (wpAny_mono h (fun f s' x => ?_) fun _ _ x => x.elim))
  cases f with
  | next => exact wpAny_mono x (fun f s' y => by cases f <;> exact y) fun _ _ y => y
  | _ => exact x
theorem xExpr {e : PySem.Expr} (h : wpAny (model PW w) A (eval e env) (fun _ s' => wpAny (model PW w) A (execs rest env) Q E s') E s) (hi : interactive env = false) (hw : swapsWith e none pos.line env = pure false := by rfl) :
    wpAny (model PW w) A (execs (.Expr e pos :: rest) env) Q E s := wpAny_execs_cons (wpAny_Expr_any h hi hw)
end
theorem ifT {c p q : Prop} [Decidable c] (hc : c) (h : p) : if c then p else q := by rw [if_pos hc]; exact h
theorem ifF {c p q : Prop} [Decidable c] (hc : ¬ c) (h : q) : if c then p else q := by rw [if_neg hc]; exact h
theorem ifTT {p q : Prop} (h : p) : if (true = true) then p else q := by rw [if_pos rfl]; exact h
theorem ifFF {p q : Prop} (h : q) : if (false = true) then p else q := by rw [if_neg (by decide)]; exact h

section
variable {w : World} {A : Around} {E : Value → Shared → Prop} {s₀ s : Shared} {env : Env} {L : Addr} {sc : Scope} {cl : List (Str × Addr)} {l l' : List (Str × Value)} {nw : List (Addr × Obj)} {n : Str} {v : Value} {pos : Pos} {k : Nat}
theorem rL {M : Model} {Q : Value → Shared → Prop} (e : EnvIs env L sc cl) (x : In s₀ L l nw s) (hk : (sc.names.lookup n == some .local) = true) (hv : l.lookup n = some v) (h : Q v s) (hd : (n == ("__debug__" : Str)) = false) :
    wpAny M A (eval (.Name n pos) env) Q E s := by
  obtain ⟨m, n, hm⟩ := x.ns
  exact wpAny_Name (wpAny_loadName_local e.k (e.kindOf hk) (by rw [e.locals]; exact n) (hm _ _ hv) h) hd
theorem rLn {M : Model} {Q : Value → Shared → Prop} (e : EnvIs env L sc cl) (x : In s₀ L l nw s) (hk : (sc.names.lookup n == some .local) = true) (hv : l.lookup n = some v) (h : Q v s) :
    wpAny M A (loadName env n) Q E s := by
  obtain ⟨m, n, hm⟩ := x.ns
  exact wpAny_loadName_local e.k (e.kindOf hk) (by rw [e.locals]; exact n) (hm _ _ hv) h
theorem rG {M : Model} {Q : Value → Shared → Prop} (e : EnvIs env L sc cl) (x : In s₀ L l nw s) (W : Wd s₀.heap) (hk : (sc.names.lookup n == some .globalImplicit) = true) (hv : globs.lookup n = some v) (h : Q v s) (hd : (n == ("__debug__" : Str)) = false) :
    wpAny M A (eval (.Name n pos) env) Q E s := by
  obtain ⟨mg, mb, g, b, hg, _⟩ := (x.wd W).ns
  exact Name_function_global e.k (e.kindOf hk) (loadGlobal_global (by rw [e.globals]; exact g) (hg _ _ hv) h) hd
theorem rB {M : Model} {Q : Value → Shared → Prop} (e : EnvIs env L sc cl) (x : In s₀ L l nw s) (W : Wd s₀.heap) (hk : (sc.names.lookup n == some .globalImplicit) = true) (hv : bnames.lookup n = some v) (h : Q v s) (hd : (n == ("__debug__" : Str)) = false) :
    wpAny M A (eval (.Name n pos) env) Q E s := by
  obtain ⟨mg, mb, g, b, _, hb, _⟩ := (x.wd W).ns
  exact Name_function_global e.k (e.kindOf hk) (loadGlobal_builtin (by rw [e.globals]; exact g) (hb _ _ hv).1 (by rw [e.builtins]; exact b) (hb _ _ hv).2 h) hd
theorem rSt {M : Model} {Q : Unit → Shared → Prop} (e : EnvIs env L sc cl) (x : In s₀ L l nw s) (hf : s₀.heap.get? L = none) (hk : (sc.names.lookup n == some .local) = true) (u : Upd' n v l l') (h : ∀ s', In s₀ L l' nw s' → Q () s') :
    wpAny M A (storeName env n v) Q E s := by
  obtain ⟨es, el, _, _, _, ek⟩ := e
  subst es el
  obtain ⟨m, n, hm⟩ := x.ns
  exact wpAny_storeName_local (eq_of_beq hk) n (fun h' hn hs => h _ (x.setM hf (hm.upd u) hn hs)) (by rw [ek]; rfl)
theorem rStC {M : Model} {Q : Unit → Shared → Prop} (e : EnvIs env L sc cl) (x : In s₀ L l nw s) (hf : s₀.heap.get? L = none) (hk : (sc.names.lookup n == some .local) = true) (h : ∀ s', In s₀ L ((n, v) :: l) nw s' → Q () s') :
    wpAny M A (storeName env n v) Q E s := by
  obtain ⟨es, el, _, _, _, ek⟩ := e
  subst es el
  obtain ⟨m, n, hm⟩ := x.ns
  exact wpAny_storeName_local (eq_of_beq hk) n (fun h' hn hs => h _ (x.setM hf hm.cons hn hs)) (by rw [ek]; rfl)
theorem rInt {M : Model} {Q : Value → Shared → Prop} {i : Int} (x : In s₀ L l nw s) (h : ∀ t s', In s₀ L l nw s' → Q (.int i t) s') : wpAny M A (eval (.Constant (.int i) k pos) env) Q E s :=
  wpAny_Constant_int (h _ _ (x.tok _))
theorem rStr {M : Model} {Q : Value → Shared → Prop} {i : Str} (x : In s₀ L l nw s) (h : ∀ t s', In s₀ L l nw s' → Q (.str i t) s') : wpAny M A (eval (.Constant (.str i) k pos) env) Q E s :=
  wpAny_Constant_str (h _ _ (x.tok _))
end

/-- into a def -/
theorem enter {w : World} {A : Around} {s : Shared} {E : Value → Shared → Prop} {Q : Value → Shared → Prop} {a i n : Nat} {dV kV : Value} {args : List Value} {kw : List (Str × Value)} {binds l : List (Str × Value)} {ns : List Str}
    (W : Wd s.heap) (hq : (a, i, dV, kV) ∈ fnTab) (R : Rm (n + 1) A) (hb : ∀ pm cd doc, BindsTo s (fdOf i dV kV pm cd doc) ⟨args, kw⟩ binds) (hl : binds.reverse = l) (hns : binds.map (·.1) = ns)
    (hok : ((fScope (stmtAt i)).names.all (fun x => x.2 != .cell) && ns.all (fun y => (fScope (stmtAt i)).names.lookup y == some .local) && !(fScope (stmtAt i)).isCoroutine && !(fScope (stmtAt i)).isGenerator && (fScope (stmtAt i)).kind == .function) = true)
    (h : ∀ env L A' s₁, EnvIs env L (fScope (stmtAt i)) [] → Rm n A' → interactive env = false → s.heap.get? L = none → In s L l [] s₁ → wpAny (model PW w) A' (execs (fBody (stmtAt i)) env) (retQ Q) (fun _ _ => False) s₁) :
    wpAny (model PW w) A (call (.ref a) args kw) Q E s := by
  obtain ⟨o, pm, cd, doc, ho, hd, hc⟩ := W.fn _ hq
  simp only [Bool.and_eq_true, Bool.not_eq_true'] at hok
  obtain ⟨⟨⟨⟨h1, h2⟩, h3⟩, h4⟩, h5⟩ := hok
  have hkf : (fScope (stmtAt i)).kind = .function := eq_of_beq h5
  refine wpAny_call (codeAny_call_def (fd := fdOf i dV kV pm cd doc) (body := fBody (stmtAt i)) (binds := binds) R.room ho hd W.lim hc rfl (hb _ _ _) (fun x hx => ?_) (fun x hx => ?_) (fun h₀ hn hk => ?_) h3 h4 hkf)
  · have := List.all_eq_true.mp h1 x hx; simpa using this
  · have := List.all_eq_true.mp h2 x.1 (by rw [← hns]; exact List.mem_map_of_mem hx)
    exact eq_of_beq this
  · refine wpAny_mono (h (callEnv (fdOf i dV kV pm cd doc) s.heap.objs.size a) s.heap.objs.size _ _ ⟨rfl, rfl, rfl, rfl, rfl, hkf⟩ (R.deeper _) ?_ (Heap.get?_none_of_le (Nat.le_refl _)) ⟨⟨_, _, rfl⟩, ⟨_, hn, fun n v e => by rw [← hl] at e; exact e⟩, hk, fun _ hp => (nomatch hp), List.Pairwise.nil⟩) (fun f s' q => ?_) fun _ _ q => q.elim
    · show ((fScope (stmtAt i)).kind == .module && _) = false
      rw [hkf]; rfl
    · cases f <;> exact q

end Mine
end

section
open PySem PySem.W PyProof.Rows PySem.Calls
open Builtin Builtin.Str
set_option maxRecDepth 100000
namespace Mine

noncomputable def S (l : List Nat) : Str := ⟨l.toArray⟩
@[simp] theorem S_toList (l : List Nat) : (S l).cps.toList = l := by simp [S]
@[simp] theorem S_len (l : List Nat) : (S l).length = l.length := by simp [S, Str.length]
theorem S_app (a b : List Nat) : S a ++ S b = S (a ++ b) := PySem.Str.ext' (by simp [S, PySem.Str.cps_append])
theorem S_inj {a b : List Nat} (h : S a = S b) : a = b := by have := congrArg (fun x => x.cps.toList) h; simpa using this
theorem S_of (x : Str) : x = S x.cps.toList := PySem.Str.ext' (by simp [S])
theorem S_beq (a b : List Nat) : (S a == S b) = (a == b) := by
  by_cases h : a = b
  · subst h; simp
  · have : S a ≠ S b := fun e => h (S_inj e)
    rw [beq_eq_false_iff_ne.mpr this, beq_eq_false_iff_ne.mpr h]
theorem S_slash : PySem.Str.ofString "/" = S [47] := by decide +kernel
theorem S_dot : PySem.Str.ofString "." = S [46] := by decide +kernel
theorem S_dd : PySem.Str.ofString ".." = S [46, 46] := by decide +kernel
theorem S_nil : PySem.Str.ofString "" = S [] := by decide +kernel

theorem sl_to {l : List Nat} {j : Int} (h0 : 0 ≤ j) (h : j ≤ l.length) : Txt.slice (S l) none (some j) = S (l.take j.toNat) := by
  have := StrLaws.sliceText_to (x := S l) (j := j) (by simpa using ⟨h0, h⟩)
  exact this.trans (by simp [S])
theorem sl_from {l : List Nat} {i : Int} (h0 : 0 ≤ i) (h : i ≤ l.length) : Txt.slice (S l) (some i) none = S (l.drop i.toNat) := by
  have := StrLaws.sliceText_from (x := S l) (i := i) (by simpa using ⟨h0, h⟩)
  refine this.trans ?_
  simp only [S_toList, S]
  congr 2
  rw [List.take_of_length_le]
  simp only [List.length_drop]; omega
theorem sl_mid {l : List Nat} {i j : Int} (h0 : 0 ≤ i) (h1 : i ≤ j) (h : j ≤ l.length) : Txt.slice (S l) (some i) (some j) = S ((l.drop i.toNat).take (j - i).toNat) := by
  have := StrLaws.sliceText_plain (x := S l) (i := i) (j := j) (by simpa using ⟨h0, h1, h⟩)
  exact this.trans (by simp [S])

theorem at_S {l : List Nat} {c i : Nat} : StrLaws.At (S l) (S [c]) (S l).length i ↔ l[i]? = some c := by
  have := StrLaws.subAt_one (S l) c i
  unfold StrLaws.At
  rw [show S [c] = (⟨#[c]⟩ : Str) from rfl]
  rw [this, S_toList]
theorem rfind_S {H T : List Nat} {c : Nat} (hT : c ∉ T) : Txt.rfind (S (H ++ c :: T)) (S [c]) = (H.length : Int) := by
  have hat : StrLaws.At (S (H ++ c :: T)) (S [c]) (S (H ++ c :: T)).length H.length := at_S.mpr (by simp)
  unfold Txt.rfind
  rcases StrLaws.last_spec (S (H ++ c :: T)) (S [c]) with ⟨_, h⟩ | ⟨i, e, h1, h2⟩
  · exact absurd hat (h _)
  · rw [e]
    have hi := at_S.mp h1
    have : i = H.length := by
      rcases Nat.lt_trichotomy i H.length with h | h | h
      · exact absurd hat (h2 _ h)
      · exact h
      · exfalso
        rw [List.getElem?_append_right (by omega)] at hi
        have : ∃ k, i - H.length = k + 1 := ⟨i - H.length - 1, by omega⟩
        obtain ⟨k, hk⟩ := this
        rw [hk, List.getElem?_cons_succ] at hi
        exact hT (List.mem_of_getElem? hi)
    rw [this]
theorem mul_S {c : Nat} {n : Nat} : Txt.mul (S [c]) (n : Int) = S (List.replicate n c) := by
  unfold Txt.mul
  by_cases h : (n : Int) < 1
  · rw [if_pos h]
    have : n = 0 := by omega
    subst this; rfl
  · rw [if_neg h]
    by_cases h1 : ((n : Int) == 1 || (S [c]).length == 0) = true
    · rw [if_pos h1]
      have : n = 1 := by have : (n : Int) = 1 := by simpa using h1
                         omega
      subst this; rfl
    · rw [if_neg h1]
      apply PySem.Str.ext'
      show _ = (List.replicate n c).toArray
      have : ∀ (k : Nat) (a : Array Nat), (List.replicate k (S [c]).cps).foldl (· ++ ·) a = a ++ (List.replicate k c).toArray := by
        intro k
        induction k with
        | zero => intro a; simp
        | succ k ih =>
          intro a
          rw [List.replicate_succ, List.foldl_cons, ih]
          apply Array.toList_inj.mp
          simp [S, List.replicate_succ]
      have := this n #[]
      simpa using this
theorem mulOk_S {c n : Nat} (h : n ≤ 100000) : MulOk (S [c]) (n : Int) := by
  refine ⟨?_, fun h1 _ => ?_, fun h1 _ => ?_⟩
  · have a : ¬ ((n : Int) < -(2 ^ 63 : Int)) := by omega
    have b : ¬ ((n : Int) ≥ 2 ^ 63) := by omega
    rw [decide_eq_false a, decide_eq_false b]; rfl
  · intro h2
    have h3 : (1 : Int) ≤ n := by omega
    have : (1 : Int) ≤ (2 ^ 63 - 1) / (n : Int) := by
      apply Int.le_ediv_of_mul_le (by omega)
      omega
    rw [S_len] at h2
    simp only [List.length_cons, List.length_nil] at h2
    have h4 : ((0 + 1 : Nat) : Int) = 1 := rfl
    rw [h4] at h2
    exact absurd h2 (by generalize (2 ^ 63 - 1 : Int) / n = q at this; omega)
  · unfold tooLong sizeLine
    simp
    omega
theorem rstrip_S {H : List Nat} {c : Nat} (hH : H.getLast? ≠ some c) : Txt.rstripChars (S (H ++ [c])) (S [c]) = S H := by
  have hc : ∀ d, (S [c]).cps.contains d = (d == c) := fun d => by
    rw [Bool.eq_iff_iff]; simp [S]
  have e1 : stripLo (S [c]).cps.contains false (S (H ++ [c])) = 0 := rfl
  have e2 : stripHi (S [c]).cps.contains true (S (H ++ [c])) 0 = H.length := by
    unfold stripHi
    rw [if_pos rfl, S_toList, List.drop_zero, List.reverse_append]
    show _ - (List.takeWhile _ (c :: H.reverse)).length = _
    rw [List.takeWhile_cons, hc, beq_self_eq_true, if_pos rfl]
    have : List.takeWhile (S [c]).cps.contains H.reverse = [] := by
      cases e : H.reverse with
      | nil => rfl
      | cons d r =>
        rw [List.takeWhile_cons, hc]
        have : H.getLast? = some d := by rw [← List.head?_reverse, e]; rfl
        rw [this] at hH
        have : (d == c) = false := by simpa using hH
        rw [this]; rfl
    rw [this]; simp
  unfold Txt.rstripChars Txt.stripBy stripSame PySem.stripped
  rw [e1, e2]
  have : ¬ ((0 == 0 && H.length == (S (H ++ [c])).length) = true) := by simp
  rw [if_neg this]
  apply PySem.Str.ext'
  apply Array.toList_inj.mp
  rw [StrLaws.strSub_toList]
  simp [S]
theorem startswith_S {l : List Nat} {c : Nat} : Txt.startswith (S l) (S [c]) = (l.head? == some c) := by
  unfold Txt.startswith
  rw [StrLaws.subAt_eq, S_toList, S_toList]
  cases l with
  | nil => simp
  | cons a r => by_cases h : a = c <;> simp [h]
theorem endswith_S {l : List Nat} {c : Nat} : Txt.endswith (S l) (S [c]) = (l.getLast? == some c) := by
  unfold Txt.endswith
  rw [StrLaws.subAt_eq, S_toList, S_toList]
  rcases List.eq_nil_or_concat l with rfl | ⟨H, d, rfl⟩
  · simp
  · by_cases h : d = c <;> simp [h]

theorem take_H {H T : List Nat} {c : Nat} : (H ++ c :: T).take ((H.length : Int) + 1).toNat = H ++ [c] := by
  have : ((H.length : Int) + 1).toNat = H.length + 1 := by omega
  rw [this, List.take_append, List.take_of_length_le (by omega)]
  simp
theorem drop_H {H T : List Nat} {c : Nat} : (H ++ c :: T).drop ((H.length : Int) + 1).toNat = T := by
  have : ((H.length : Int) + 1).toNat = H.length + 1 := by omega
  rw [this, List.drop_append, List.drop_of_length_le (by omega)]
  simp
theorem ne_rep {H : List Nat} {c : Nat} (h0 : H ≠ []) (h : H.getLast? ≠ some c) : ((H ++ [c]) != List.replicate (H ++ [c]).length c) = true := by
  rw [bne_iff_ne]
  intro e
  have h1 : H = List.replicate H.length c := by
    have := congrArg (fun l => l.take H.length) e
    simpa [List.take_replicate] using this
  rw [h1] at h
  cases H with
  | nil => exact h0 rfl
  | cons a r => simp [List.getLast?_replicate] at h
noncomputable def hd' (H : List Nat) : List Nat := if H = [] then [47] else H
/-- texts glued by a slash -/
noncomputable def jn (c : Nat) : List (List Nat) → List Nat
  | [] => []
  | [x] => x
  | x :: y :: r => x ++ c :: jn c (y :: r)
theorem join_S (c : Nat) : ∀ ps : List (List Nat), Str.join (S [c]) (ps.map S) = S (jn c ps)
  | [] => rfl
  | [x] => rfl
  | x :: y :: r => by
    have ih := join_S c (y :: r)
    show S x ++ S [c] ++ Str.join (S [c]) ((y :: r).map S) = _
    rw [ih, S_app, S_app]
    simp [jn]
theorem txt_join_S (c : Nat) (ps : List (List Nat)) : Txt.join (S [c]) (ps.map S) = S (jn c ps) := by
  unfold Txt.join
  rw [StrLaws.glued_eq_join, join_S]
theorem jn_inj {c : Nat} : ∀ {a b : List (List Nat)}, a ≠ [] → b ≠ [] → (∀ x ∈ a, c ∉ x) → (∀ x ∈ b, c ∉ x) → jn c a = jn c b → a = b
  | [], _, h, _, _, _, _ => absurd rfl h
  | _, [], _, h, _, _, _ => absurd rfl h
  | [x], [y], _, _, _, _, e => by rw [show x = y from e]
  | [x], y :: z :: r, _, _, hx, _, e => by
    exfalso
    have : c ∈ x := by rw [show x = y ++ c :: jn c (z :: r) from e]; simp
    exact hx x (by simp) this
  | y :: z :: r, [x], _, _, _, hx, e => by
    exfalso
    have : c ∈ x := by rw [← show y ++ c :: jn c (z :: r) = x from e]; simp
    exact hx x (by simp) this
  | x :: y :: r, x' :: y' :: r', _, _, h1, h2, e => by
    have e' : x ++ c :: jn c (y :: r) = x' ++ c :: jn c (y' :: r') := e
    have hx : c ∉ x := h1 x (by simp)
    have hx' : c ∉ x' := h2 x' (by simp)
    have key : ∀ (u v p q : List Nat), c ∉ u → c ∉ v → u ++ c :: p = v ++ c :: q → u = v ∧ p = q := by
      intro u
      induction u with
      | nil =>
        intro v p q _ hv e
        cases v with
        | nil => simpa using e
        | cons a v => exfalso; simp at e; exact hv (by simp [e.1])
      | cons a u ih =>
        intro v p q hu hv e
        cases v with
        | nil => exfalso; simp at e; exact hu (by simp [e.1])
        | cons b v =>
          simp only [List.cons_append, List.cons.injEq] at e
          obtain ⟨e1, e2⟩ := ih v p q (fun h => hu (by simp [h])) (fun h => hv (by simp [h])) e.2
          exact ⟨by rw [e.1, e1], e2⟩
    obtain ⟨ex, er⟩ := key _ _ _ _ hx hx' e'
    rw [ex, jn_inj (a := y :: r) (b := y' :: r') (by simp) (by simp) (fun z hz => h1 z (List.mem_cons_of_mem _ hz)) (fun z hz => h2 z (List.mem_cons_of_mem _ hz)) er]
theorem split_S {c : Nat} {ps : List (List Nat)} (hne : ps ≠ []) (hf : ∀ p ∈ ps, c ∉ p) : Txt.split (S (jn c ps)) (S [c]) = ps.map S := by
  have h1 := StrLaws.join_split (S (jn c ps)) (S [c])
  have h2 := StrLaws.split_free (S (jn c ps)) c
  have h3 : Txt.split (S (jn c ps)) (S [c]) ≠ [] := by
    unfold Txt.split
    split
    · simp
    · split
      · simp
      · unfold partsBetween
        simp
  obtain ⟨qs, hq⟩ : ∃ qs : List (List Nat), Txt.split (S (jn c ps)) (S [c]) = qs.map S := ⟨(Txt.split (S (jn c ps)) (S [c])).map (fun x => x.cps.toList), by
    rw [List.map_map]
    conv => lhs; rw [← List.map_id (Txt.split (S (jn c ps)) (S [c]))]
    exact List.map_congr_left fun x _ => S_of x⟩
  rw [hq] at h1 h3
  rw [hq]
  have h2' : ∀ q ∈ qs, c ∉ q := fun q hm => by
    have := h2 (S q) (by rw [show (⟨#[c]⟩ : Str) = S [c] from rfl, hq]; exact List.mem_map_of_mem hm)
    simpa using this
  rw [join_S] at h1
  rw [jn_inj (by rintro rfl; exact h3 rfl) hne h2' hf (S_inj h1)]
end Mine
end

section
open PySem PySem.W
set_option maxRecDepth 100000
namespace Mine
/-- what is known of the order of n ≤ 8 keys: bit 8 i + j: key i is not above key j (E), is below key j (T) -/
noncomputable def kbit (M i j : Nat) : Bool := M.testBit (8 * i + j)
noncomputable def krow (M j : Nat) : Nat := (M >>> (8 * j)) % 256
noncomputable def kaddT (E rE i : Nat) : Nat → Nat → Nat → Nat × Nat
  | 0, E', T' => (E', T')
  | a + 1, E', T' => if kbit E a i then kaddT E rE i a (E' ||| (rE <<< (8 * a))) (T' ||| (rE <<< (8 * a))) else kaddT E rE i a E' T'
noncomputable def kaddE (E T rE rT i : Nat) : Nat → Nat → Nat → Nat × Nat
  | 0, E', T' => (E', T')
  | a + 1, E', T' => if kbit T a i then kaddE E T rE rT i a (E' ||| (rE <<< (8 * a))) (T' ||| (rE <<< (8 * a))) else if kbit E a i then kaddE E T rE rT i a (E' ||| (rE <<< (8 * a))) (T' ||| (rT <<< (8 * a))) else kaddE E T rE rT i a E' T'
noncomputable def kadj (E T : Nat) : List Nat → Bool
  | a :: b :: r => (kbit T a b || (Nat.blt a b && kbit E a b)) && kadj E T (b :: r)
  | _ => true
noncomputable def kchk (n : Nat) : KasT (Array Nat) → Nat → Nat → Bool
  | .ret p, E, T => p.toList.length == n && p.toList.all (fun a => Nat.blt a n) && kadj E T p.toList
  | .ask i j k, E, T => Nat.blt i n && Nat.blt j n && (if kbit T i j then kchk n (k true) E T else if kbit E j i then kchk n (k false) E T else
      (match kaddT E (krow E j) i n E T with | (E', T') => kchk n (k true) E' T') && (match kaddE E T (krow E i) (krow T i) j n E T with | (E', T') => kchk n (k false) E' T'))
noncomputable def kid : Nat → Nat
  | 0 => 0
  | n + 1 => kid n ||| (1 <<< (8 * n + n))
theorem kbit_or {E r a x y : Nat} (hr : r < 256) (hy : y < 8) (h : kbit (E ||| (r <<< (8 * a))) x y = true) : kbit E x y = true ∨ (x = a ∧ r.testBit y = true) := by
  unfold kbit at h ⊢
  rw [Nat.testBit_or, Nat.testBit_shiftLeft, Bool.or_eq_true, Bool.and_eq_true, decide_eq_true_eq] at h
  rcases h with h | ⟨h1, h2⟩
  · exact .inl h
  · refine .inr ?_
    have h3 : 8 * x + y - 8 * a < 8 := by
      rcases Nat.lt_or_ge (8 * x + y - 8 * a) 8 with q | q
      · exact q
      · have : r < 2 ^ (8 * x + y - 8 * a) := Nat.lt_of_lt_of_le (show r < 2 ^ 8 from hr) (Nat.pow_le_pow_right (show 2 > 0 by decide) q)
        rw [Nat.testBit_lt_two_pow this] at h2; cases h2
    have hx : x = a := by omega
    subst hx
    have e : 8 * x + y - 8 * x = y := by omega
    rw [e] at h2
    exact ⟨rfl, h2⟩
theorem krow_lt (M j : Nat) : krow M j < 256 := Nat.mod_lt _ (by decide)
theorem krow_bit {M j y : Nat} (h : (krow M j).testBit y = true) : kbit M j y = true := by
  unfold krow at h
  rw [show (256 : Nat) = 2 ^ 8 from rfl, Nat.testBit_mod_two_pow, Bool.and_eq_true, Nat.testBit_shiftRight] at h
  exact h.2
section
variable {c : Nat → Nat → Bool} (hirr : ∀ i, c i i = false) (hneg : ∀ i j k, c i j = false → c j k = false → c i k = false) (hasy : ∀ i j, c i j = true → c j i = false)
/-- the bits say what holds -/
noncomputable def KOk (c : Nat → Nat → Bool) (E T : Nat) : Prop := ∀ x y, y < 8 → (kbit E x y = true → c y x = false) ∧ (kbit T x y = true → c x y = true)
include hneg in
theorem lt_le {x y z : Nat} (h1 : c x y = true) (h2 : c z y = false) : c x z = true := by
  cases h : c x z with
  | true => rfl
  | false => rw [hneg x z y h h2] at h1; cases h1
include hneg in
theorem le_lt {x y z : Nat} (h1 : c y x = false) (h2 : c y z = true) : c x z = true := by
  cases h : c x z with
  | true => rfl
  | false => rw [hneg y x z h1 h] at h2; cases h2
include hneg hasy in
theorem kaddT_ok {E T i j : Nat} (hi : i < 8) (hok : KOk c E T) (hc : c i j = true) : ∀ (n E' T' : Nat), KOk c E' T' → KOk c (kaddT E (krow E j) i n E' T').1 (kaddT E (krow E j) i n E' T').2
  | 0, E', T', h => h
  | a + 1, E', T', h => by
    unfold kaddT
    split
    · rename_i hb
      refine kaddT_ok hi hok hc a _ _ fun x y hy => ⟨fun q => ?_, fun q => ?_⟩
      · rcases kbit_or (krow_lt _ _) hy q with z | ⟨rfl, z⟩
        · exact (h x y hy).1 z
        · have h1 := (hok x i hi).1 hb
          have h2 := (hok j y hy).1 (krow_bit z)
          exact hasy _ _ (le_lt hneg h1 (lt_le hneg hc h2))
      · rcases kbit_or (krow_lt _ _) hy q with z | ⟨rfl, z⟩
        · exact (h x y hy).2 z
        · have h1 := (hok x i hi).1 hb
          have h2 := (hok j y hy).1 (krow_bit z)
          exact le_lt hneg h1 (lt_le hneg hc h2)
    · exact kaddT_ok hi hok hc a _ _ h
include hneg hasy in
theorem kaddE_ok {E T i j : Nat} (hi : i < 8) (hok : KOk c E T) (hc : c j i = false) : ∀ (n E' T' : Nat), KOk c E' T' → KOk c (kaddE E T (krow E j) (krow T j) i n E' T').1 (kaddE E T (krow E j) (krow T j) i n E' T').2
  | 0, E', T', h => h
  | a + 1, E', T', h => by
    unfold kaddE
    split
    · rename_i hb
      have h1 := (hok a i hi).2 hb
      refine kaddE_ok hi hok hc a _ _ fun x y hy => ⟨fun q => ?_, fun q => ?_⟩
      · rcases kbit_or (krow_lt _ _) hy q with z | ⟨rfl, z⟩
        · exact (h x y hy).1 z
        · have h2 := (hok j y hy).1 (krow_bit z)
          exact hasy _ _ (lt_le hneg (lt_le hneg h1 hc) h2)
      · rcases kbit_or (krow_lt _ _) hy q with z | ⟨rfl, z⟩
        · exact (h x y hy).2 z
        · have h2 := (hok j y hy).1 (krow_bit z)
          exact lt_le hneg (lt_le hneg h1 hc) h2
    · split
      · rename_i hb
        have h1 := (hok a i hi).1 hb
        refine kaddE_ok hi hok hc a _ _ fun x y hy => ⟨fun q => ?_, fun q => ?_⟩
        · rcases kbit_or (krow_lt _ _) hy q with z | ⟨rfl, z⟩
          · exact (h x y hy).1 z
          · have h2 := (hok j y hy).1 (krow_bit z)
            exact hneg _ _ _ (hneg _ _ _ h2 hc) h1
        · rcases kbit_or (krow_lt _ _) hy q with z | ⟨rfl, z⟩
          · exact (h x y hy).2 z
          · have h2 := (hok j y hy).2 (krow_bit z)
            exact le_lt hneg h1 (le_lt hneg hc h2)
      · exact kaddE_ok hi hok hc a _ _ h
/-- in order, and alike keys as they stood -/
noncomputable def KLex (c : Nat → Nat → Bool) (a b : Nat) : Prop := c a b = true ∨ (c b a = false ∧ a < b)
include hneg hasy in
theorem KLex.trans {x y z : Nat} (h1 : KLex c x y) (h2 : KLex c y z) : KLex c x z := by
  rcases h1 with h1 | ⟨h1, h1'⟩
  · rcases h2 with h2 | ⟨h2, h2'⟩
    · exact .inl (lt_le hneg h1 (hasy _ _ h2))
    · exact .inl (lt_le hneg h1 h2)
  · rcases h2 with h2 | ⟨h2, h2'⟩
    · exact .inl (le_lt hneg h1 h2)
    · exact .inr ⟨hneg _ _ _ h2 h1, Nat.lt_trans h1' h2'⟩
include hneg hasy in
theorem kadj_ok {E T n : Nat} (hn : n ≤ 8) (hok : KOk c E T) : ∀ l : List Nat, (∀ a ∈ l, a < n) → kadj E T l = true → l.Pairwise (KLex c)
  | [], _, _ => .nil
  | [a], _, _ => List.pairwise_singleton ..
  | a :: b :: r, hl, h => by
    unfold kadj at h
    rw [Bool.and_eq_true, Bool.or_eq_true, Bool.and_eq_true] at h
    have hb : b < 8 := Nat.lt_of_lt_of_le (hl b (by simp)) hn
    have ih := kadj_ok hn hok (b :: r) (fun x hx => hl x (List.mem_cons_of_mem _ hx)) h.2
    have hab : KLex c a b := by
      rcases h.1 with q | ⟨q1, q2⟩
      · exact .inl ((hok a b hb).2 q)
      · exact .inr ⟨(hok a b hb).1 q2, by simpa [Nat.blt_eq] using q1⟩
    refine List.pairwise_cons.mpr ⟨fun x hx => ?_, ih⟩
    rcases List.mem_cons.mp hx with rfl | hx
    · exact hab
    · exact KLex.trans hneg hasy hab ((List.pairwise_cons.mp ih).1 x hx)
include hneg hasy in
theorem kchk_ok {n : Nat} (hn : n ≤ 8) {cmp : Nat → Nat → (Bool → Shared → Prop) → Shared → Prop} {s : Shared} (hcmp : ∀ i j C, i < n → j < n → C (c i j) s → cmp i j C s) {Q : Array Nat → Shared → Prop}
    (hQ : ∀ p, p.toList.length = n → (∀ a ∈ p.toList, a < n) → p.toList.Pairwise (KLex c) → Q p s) : ∀ (t : KasT (Array Nat)) (E T : Nat), kchk n t E T = true → KOk c E T → t.kasWp cmp Q s
  | .ret p, E, T, h, hok => by
    unfold kchk at h
    rw [Bool.and_eq_true, Bool.and_eq_true] at h
    have h2 : ∀ a ∈ p.toList, a < n := fun a ha => by simpa [Nat.blt_eq] using List.all_eq_true.mp h.1.2 a ha
    exact hQ p (by simpa using h.1.1) h2 (kadj_ok hneg hasy hn hok _ h2 h.2)
  | .ask i j k, E, T, h, hok => by
    unfold kchk at h
    rw [Bool.and_eq_true, Bool.and_eq_true, Nat.blt_eq, Nat.blt_eq] at h
    obtain ⟨⟨hi, hj⟩, h⟩ := h
    have hi8 : i < 8 := Nat.lt_of_lt_of_le hi hn
    have hj8 : j < 8 := Nat.lt_of_lt_of_le hj hn
    refine hcmp i j _ hi hj ?_
    split at h
    · rename_i hb
      rw [(hok i j hj8).2 hb]
      exact kchk_ok hn hcmp hQ (k true) E T h hok
    · split at h
      · rename_i hb
        rw [(hok j i hi8).1 hb]
        exact kchk_ok hn hcmp hQ (k false) E T h hok
      · rw [Bool.and_eq_true] at h
        cases hc : c i j with
        | true => exact kchk_ok hn hcmp hQ (k true) _ _ h.1 (kaddT_ok hneg hasy hi8 hok hc n E T hok)
        | false => exact kchk_ok hn hcmp hQ (k false) _ _ h.2 (kaddE_ok hneg hasy hj8 hok hc n E T hok)
end
theorem kid_ok {c : Nat → Nat → Bool} (hirr : ∀ i, c i i = false) : ∀ n, n ≤ 8 → KOk c (kid n) 0
  | 0, _ => fun x y _ => ⟨fun q => by simp [kbit, kid] at q, fun q => by simp [kbit] at q⟩
  | n + 1, hn => fun x y hy => by
    refine ⟨fun q => ?_, fun q => by simp [kbit] at q⟩
    unfold kid kbit at q
    rw [Nat.testBit_or, Bool.or_eq_true] at q
    rcases q with q | q
    · exact (kid_ok hirr n (by omega) x y hy).1 q
    · rw [Nat.testBit_shiftLeft, Bool.and_eq_true, decide_eq_true_eq] at q
      have : (1 : Nat).testBit (8 * x + y - (8 * n + n)) = true := q.2
      have h0 : 8 * x + y - (8 * n + n) = 0 := by
        rcases Nat.eq_zero_or_pos (8 * x + y - (8 * n + n)) with z | z
        · exact z
        · rw [Nat.testBit_lt_two_pow (Nat.lt_of_lt_of_le (show 1 < 2 ^ 1 by decide) (Nat.pow_le_pow_right (show 2 > 0 by decide) z))] at this; cases this
      have hx : x = n := by omega
      have hy' : y = n := by omega
      rw [hx, hy']; exact hirr n
theorem kchk_all : ∀ n, n ≤ 7 → kchk n (kas_sort n) (kid n) 0 = true := by
  intro n hn
  have : n = 0 ∨ n = 1 ∨ n = 2 ∨ n = 3 ∨ n = 4 ∨ n = 5 ∨ n = 6 ∨ n = 7 := eight hn
  rcases this with rfl | rfl | rfl | rfl | rfl | rfl | rfl | rfl
  all_goals decide +kernel
/-- the sort of up to seven things: in order, and alike keys as they stood -/
theorem kas_stable {c : Nat → Nat → Bool} (hirr : ∀ i, c i i = false) (hneg : ∀ i j k, c i j = false → c j k = false → c i k = false) (hasy : ∀ i j, c i j = true → c j i = false)
    {n : Nat} (hn : n ≤ 7) {cmp : Nat → Nat → (Bool → Shared → Prop) → Shared → Prop} {s : Shared} (hcmp : ∀ i j C, i < n → j < n → C (c i j) s → cmp i j C s) {Q : Array Nat → Shared → Prop}
    (hQ : ∀ p, p.toList.length = n → (∀ a ∈ p.toList, a < n) → p.toList.Pairwise (KLex c) → Q p s) : (kas_sort n).kasWp cmp Q s :=
  kchk_ok hneg hasy (by omega) hcmp hQ _ _ _ (kchk_all n hn) (kid_ok hirr n (by omega))
end Mine
end

section
open PySem PySem.W PyProof.Rows PySem.Calls
set_option maxRecDepth 100000
namespace Mine
theorem pos_Name (n : Str) (p : Pos) : (PySem.Expr.Name n p).pos = p := rfl
theorem pos_LC (e : PySem.Expr) (gs : List Comprehension) (sc : Scope) (p : Pos) : (PySem.Expr.ListComp e gs sc p).pos = p := rfl
section
variable {w : World} {A : Around} {E : Value → Shared → Prop} {s₀ s : Shared} {env : Env} {L : Addr} {Q : Value → Shared → Prop} {pos np apos : Pos} {x : Str} {args : List PySem.Expr}
/-- f(args), f a def of the text -/
theorem cF {a i : Nat} {dV kV : Value} {h₀ : Heap} (W : Wd h₀) (hq : (a, i, dV, kV) ∈ fnTab) {a1 : PySem.Expr} (hp : backTo pos (starEach (a1 :: args) env) = (false, eval a1 env) :: backTo pos (starEach args env))
    (h : wpAny (model PW w) A (eval (.Name x np) env) (fun f s₁ => f = .ref a ∧ wpAny (model PW w) A (spliced (backTo pos (starEach (a1 :: args) env))) (fun vs s₂ => Keep h₀ s₂.heap ∧ wpAny (model PW w) A (call (.ref a) vs) Q E s₂) E s₁) E s) :
    wpAny (model PW w) A (eval (.Call (.Name x np) (a1 :: args) [] pos) env) Q E s := by
  obtain ⟨o, pm, cd, doc, ho, hd, _⟩ := W.fn _ hq
  dsimp only at ho hd
  refine wpAny_Call_ofName (wpAny_mono h (fun f s₁ h₁ => ?_) fun _ _ y => y)
  obtain ⟨rfl, h₁⟩ := h₁
  refine callWith_function (o := o) (fd := fdOf i dV kV pm cd doc) ?_
  rw [hp] at h₁ ⊢
  exact evalArgs_plain (wpAny_mono h₁ (fun vs s₂ h₂ => ⟨⟨h₂.1 _ _ ho, hd⟩, h₂.2⟩) fun _ _ y => y)
/-- f(args), f a built-in function -/
theorem cB {id : String} {a1 : PySem.Expr} (hp : backTo pos (starEach (a1 :: args) env) = (false, eval a1 env) :: backTo pos (starEach args env)) (hs : (backTo pos (starEach (a1 :: args) env)).any (·.1) = false)
    (h : wpAny (model PW w) A (eval (.Name x np) env) (fun f s₁ => f = .builtin id ∧ wpAny (model PW w) A (spliced (backTo pos (starEach (a1 :: args) env))) (fun vs s₂ => wpAny (model PW w) A (call (.builtin id) vs) Q E s₂) E s₁) E s) :
    wpAny (model PW w) A (eval (.Call (.Name x np) (a1 :: args) [] pos) env) Q E s := by
  refine wpAny_Call_ofName (wpAny_mono h (fun f s₁ h₁ => ?_) fun _ _ y => y)
  obtain ⟨rfl, h₁⟩ := h₁
  refine callWith_builtin hs ?_
  rw [hp] at h₁ ⊢
  exact evalArgs_plain h₁
theorem cT {T : String} {a1 : PySem.Expr} (hp : backTo pos (starEach (a1 :: args) env) = (false, eval a1 env) :: backTo pos (starEach args env)) (hs : (backTo pos (starEach (a1 :: args) env)).any (·.1) = false)
    (h : wpAny (model PW w) A (eval (.Name x np) env) (fun f s₁ => f = .type T ∧ wpAny (model PW w) A (spliced (backTo pos (starEach (a1 :: args) env))) (fun vs s₂ => wpAny (model PW w) A (call (.type T) vs) Q E s₂) E s₁) E s) :
    wpAny (model PW w) A (eval (.Call (.Name x np) (a1 :: args) [] pos) env) Q E s := by
  refine wpAny_Call_ofName (wpAny_mono h (fun f s₁ h₁ => ?_) fun _ _ y => y)
  obtain ⟨rfl, h₁⟩ := h₁
  refine PySem.callWith_type hs ?_
  rw [hp] at h₁ ⊢
  exact evalArgs_plain h₁
end

namespace F
theorem kind_issubclass_nested : builtinKind "issubclass.nested" = none := by decide +kernel
theorem plain_issubclass_nested : plainId "issubclass.nested" = true := by decide +kernel
theorem args_issubclass_nested_3 (a b c : Value) : argsOk "issubclass.nested" ⟨[a, b, c], []⟩ := by unfold argsOk; kernel_rfl
theorem sub_str_str : isSubtype (.type "str") (.type "str") = pure true := by rw [isSubtype_type]; kernel_rfl
theorem meta_str : typeOf (.type "str") = pure (.type "type") := by kernel_rfl
end F

section
variable {prog : Program} {w : World} {A : Around} {E : Value → Shared → Prop}
theorem isc_leaf {s : Shared} {k : Value} {dep : Int} {tk : Tok} {Q : Fin → Shared → Prop} (hk : k = .int dep tk) (hq : Q (.done (.ret (.bool true))) s) :
    wpAny (model prog w) A (Builtin.«issubclass.nested» ⟨[.type "str", .type "str", k], []⟩) Q E s := by
  subst hk
  have hm := F.meta_str
  have hself := F.sub_str_str
  repeat (any_goals (first | assumption | (rw [if_pos hm]) | (rw [hself]) | wp_step))
theorem isc_call {s : Shared} {k : Value} {dep : Int} {tk : Tok} {R : Result → Shared → Prop} (hk : k = .int dep tk) (hq : R (.ok (.ret (.bool true))) s) :
    codeAny (model prog w) A (.call (.builtin "issubclass.nested") ⟨[.type "str", .type "str", k], []⟩) R s := by
  refine codeAny_call_builtin F.plain_issubclass_nested PySem.F.entry_issubclass_nested ?_
  have ha := F.args_issubclass_nested_3 (.type "str") (.type "str") k
  simp only [checkBuiltinCall, F.kind_issubclass_nested]
  cases hsig : Manifest.signature? "issubclass.nested" with
  | none => exact wpAny_pure (isc_leaf hk hq)
  | some sig =>
    simp only [argsOk, hsig] at ha
    have h2 : Bind.checkArgs "issubclass.nested" sig ⟨[.type "str", .type "str", k], []⟩ = pure () := ha
    show wpAny _ A.in1 (Bind.checkArgs "issubclass.nested" sig ⟨[.type "str", .type "str", k], []⟩) _ _ s
    rw [h2]; exact wpAny_pure (isc_leaf hk hq)
theorem isc_nested {s : Shared} {tp : Addr} {Q : Fin → Shared → Prop} (htp : s.heap.get? tp = some { cls := .type "tuple", data := .seq #[.type "str", .type "bytes"] }) (hq : Q (.done (.ret (.bool true))) s) :
    wpAny (model prog w) A (Builtin.«issubclass.nested» ⟨[.type "str", .ref tp, rawInt 0], []⟩) Q E s := by
  obtain ⟨h, g, d, t, os⟩ := s
  have hT2 : (⟨h, g, d, t, os⟩ : Shared).TypeIs (.ref tp) "tuple" := ⟨_, htp, rfl⟩
  have f1 := PySem.F.isi_sub_tuple
  repeat (any_goals (first | assumption | refine isc_call rfl ?_ | (refine wpAny_truthy_bool ?_) | wp_step))
theorem issub_str {s : Shared} {tp : Addr} {Q : Value → Shared → Prop} (htp : s.heap.get? tp = some { cls := .type "tuple", data := .seq #[.type "str", .type "bytes"] }) (hq : Q (.bool true) s) :
    wpAny (model prog w) A (call (.builtin "issubclass") [.type "str", .ref tp]) Q E s :=
  call_issubclass (S := fun _ R s => s.heap.get? tp = some { cls := .type "tuple", data := .seq #[.type "str", .type "bytes"] } ∧ R (.ok (.ret (.bool true))) s)
    (fun _ _ _ _ _ hs => issubclass_outer (isc_nested hs.1 hs.2)) ⟨htp, hq⟩
end
end Mine
end

section
open PySem PySem.W PyProof.Rows PySem.Calls
set_option maxRecDepth 100000
namespace Mine

section
variable {w : World} {A : Around} {E : Value → Shared → Prop} {s₀ s : Shared} {env : Env} {L : Addr} {l : List (Str × Value)} {nw : List (Addr × Obj)} {pos np apos : Pos} {Q : Value → Shared → Prop} {a b : List Nat} {t u : Tok} {i j : Int} {k : Nat}

theorem rStrS {x : Str} {y : List Nat} (hc : x = S y) (e : In s₀ L l nw s) (h : ∀ t s', In s₀ L l nw s' → Q (.str (S y) t) s') : wpAny (model PW w) A (eval (.Constant (.str x) k pos) env) Q E s :=
  wpAny_Constant_str (by subst hc; exact h _ _ (e.tok _))
theorem vTypeS {x : Str} (h : Q (.type "str") s) : wpAny (model PW w) A (call (.type "type") [.str x t]) Q E s := call_type_of (Tx := "str") rfl (by decide +kernel) h
theorem vIsBytesS {x : Str} (e : In s₀ L l nw s) (h : ∀ s', In s₀ L l nw s' → Q (.bool false) s') : wpAny (model PW w) A (call (.builtin "isinstance") [.str x t, .type "bytes"]) Q E s :=
  IsiPair.str_bytes (h _ (e.tok _))
theorem vLenS (hz : a.length ≤ 100000) (e : In s₀ L l nw s) (h : ∀ t s', In s₀ L l nw s' → Q (.int a.length t) s') : wpAny (model PW w) A (call (.builtin "len") [.str (S a) t]) Q E s :=
  PyProof.Rows.len_str (by rw [S_len]; omega) (by rw [S_len]; exact h _ _ (e.tok _))
theorem vTruS {Q : Bool → Shared → Prop} (hz : a.length ≤ 100000) (e : In s₀ L l nw s) (h : ∀ s', In s₀ L l nw s' → Q (!a.isEmpty) s') : wpAny (model PW w) A (truthy (.str (S a) t)) Q E s := by
  refine PySem.P.truthy_str (by rw [S_len]; omega) ?_
  have : (((S a).length : Int) != 0) = !a.isEmpty := by rw [S_len]; cases a <;> simp <;> omega
  rw [this]; exact h _ (e.tok _)
theorem vAddI (e : In s₀ L l nw s) (h : ∀ t s', In s₀ L l nw s' → Q (.int (i + j) t) s') : wpAny (model PW w) A (binaryOp .Add (.int i t) (.int j u)) Q E s := PyProof.Rows.add_int (h _ _ (e.tok _))
theorem vSubI (e : In s₀ L l nw s) (h : ∀ t s', In s₀ L l nw s' → Q (.int (i - j) t) s') : wpAny (model PW w) A (binaryOp .Sub (.int i t) (.int j u)) Q E s := PyProof.Rows.sub_int (h _ _ (e.tok _))
theorem vIAddI (e : In s₀ L l nw s) (h : ∀ t s', In s₀ L l nw s' → Q (.int (i + j) t) s') : wpAny (model PW w) A (inplaceOp .Add (.int i t) (.int j u)) Q E s := PySem.wpAny_iadd_int (h _ _ (e.tok _))
theorem vModI (hj : j ≠ 0) (e : In s₀ L l nw s) (h : ∀ t s', In s₀ L l nw s' → Q (.int (i.fmod j) t) s') : wpAny (model PW w) A (binaryOp .Mod (.int i t) (.int j u)) Q E s := PyProof.Rows.mod_int' hj (h _ _ (e.tok _))
theorem vDivI (hj : j ≠ 0) (hz : j.natAbs < 1073741824) (e : In s₀ L l nw s) (h : ∀ t s', In s₀ L l nw s' → Q (.int (i.fdiv j) t) s') : wpAny (model PW w) A (binaryOp .FloorDiv (.int i t) (.int j u)) Q E s := PyProof.Rows.floordiv_int hj (h _ _ (e.tok _)) (.inl (PyProof.noPylong_small hz))
theorem vAddS (hz : a.length + b.length ≤ 100000) (e : In s₀ L l nw s) (h : ∀ t s', In s₀ L l nw s' → Q (.str (S (a ++ b)) t) s') : wpAny (model PW w) A (binaryOp .Add (.str (S a) t) (.str (S b) u)) Q E s :=
  PyProof.Rows.add_str (fun t' tk => by rw [S_app]; exact h _ _ (e.tok _)) (by rw [S_len, S_len, sizeLine_eq]; omega)
theorem vIAddS (hz : a.length + b.length ≤ 100000) (e : In s₀ L l nw s) (h : ∀ t s', In s₀ L l nw s' → Q (.str (S (a ++ b)) t) s') : wpAny (model PW w) A (inplaceOp .Add (.str (S a) t) (.str (S b) u)) Q E s :=
  PyProof.Rows.iadd_str (fun t' tk => by rw [S_app]; exact h _ _ (e.tok _)) (by rw [S_len, S_len, sizeLine_eq]; omega)
theorem vMulS {c n : Nat} (hn : i = (n : Int)) (hz : n ≤ 100000) (e : In s₀ L l nw s) (h : ∀ t s', In s₀ L l nw s' → Q (.str (S (List.replicate n c)) t) s') : wpAny (model PW w) A (binaryOp .Mult (.str (S [c]) t) (.int i u)) Q E s := by
  subst hn
  exact SB.mul (mulOk_S hz) (fun t' k => by rw [mul_S]; exact h _ _ (e.tok _))
theorem vEqS (h : Q (.bool (a == b)) s) : wpAny (model PW w) A (compareOp .Eq (.str (S a) t) (.str (S b) u)) Q E s := PyProof.Rows.eq_str (by rw [S_beq]; exact h)
theorem vNeS (h : Q (.bool (a != b)) s) : wpAny (model PW w) A (compareOp .NotEq (.str (S a) t) (.str (S b) u)) Q E s := by
  refine PySem.P.ne_str ?_
  rw [S_toList, S_toList]; exact h
theorem vEqI (h : Q (.bool (i == j)) s) : wpAny (model PW w) A (compareOp .Eq (.int i t) (.int j u)) Q E s := PyProof.Rows.eq_int h
theorem vNeI (h : Q (.bool (i != j)) s) : wpAny (model PW w) A (compareOp .NotEq (.int i t) (.int j u)) Q E s := PyProof.Rows.ne_int h
theorem vGtI (h : Q (.bool (decide (j < i))) s) : wpAny (model PW w) A (compareOp .Gt (.int i t) (.int j u)) Q E s := PyProof.Rows.gt_int h
theorem vGeI (h : Q (.bool (decide (i ≥ j))) s) : wpAny (model PW w) A (compareOp .GtE (.int i t) (.int j u)) Q E s := PySem.P.ge_int h

-- methods
theorem eM {o : PySem.Expr} {name : Str} {args : List PySem.Expr} (hb : attributeBase o name env (eval o env) = eval o env)
    (hp : ((backTo pos (starEach args env)).all (fun x => !x.1) && (backToKw pos (keywordEach [] env)).all (·.1.isSome) && decide (args.length + ([] : List Keyword).length + (if ([] : List Keyword).isEmpty then 0 else 1) < 30)) = true)
    (hl : (apos.endLine == pos.line) = true)
    (h : wpAny (model PW w) A (eval o env) (fun ov s₁ => MethodOn PW w A name pos ov (backTo pos (starEach args env)) Q E s₁) E s) :
    wpAny (model PW w) A (eval (.Call (.Attribute o name apos) args [] pos) env) Q E s := wpAny_Call_method_late hb hp hl rfl h
theorem moS1 {name : Str} {id : String} {x : Str} {a1 : PySem.Expr} {args : List PySem.Expr} (slot : Slot "str" name id) (ty : typeOf (.builtin id) = pure (.type "method_descriptor"))
    (hp : backTo pos (starEach (a1 :: args) env) = (false, eval a1 env) :: backTo pos (starEach args env)) (hs : (backTo pos (starEach (a1 :: args) env)).any (·.1) = false)
    (h : wpAny (model PW w) A (spliced (backTo pos (starEach (a1 :: args) env))) (fun vs s₁ => wpAny (model PW w) A (call (.builtin id) (.str x t :: vs)) Q E s₁) E s) :
    MethodOn PW w A name pos (.str x t) (backTo pos (starEach (a1 :: args) env)) Q E s :=
  ⟨"str", id, PySem.F.plainAttrs_str, slot, ty, typeIs_str _ _ _, fun _ e => (nomatch e), callWith_builtin hs (by rw [hp] at h ⊢; exact evalArgs_plain h)⟩
theorem mo_startswith {x : Str} {a1 : PySem.Expr} (hp : backTo pos (starEach [a1] env) = (false, eval a1 env) :: backTo pos (starEach [] env)) (hs : (backTo pos (starEach [a1] env)).any (·.1) = false)
    (h : wpAny (model PW w) A (spliced (backTo pos (starEach [a1] env))) (fun vs s₁ => wpAny (model PW w) A (call (.builtin "str.startswith") (.str x t :: vs)) Q E s₁) E s) :
    MethodOn PW w A (PySem.Str.ofString "startswith") pos (.str x t) (backTo pos (starEach [a1] env)) Q E s := moS1 PySem.F.slot_str_startswith PySem.F.type_str_startswith hp hs h
theorem mo_endswith {x : Str} {a1 : PySem.Expr} (hp : backTo pos (starEach [a1] env) = (false, eval a1 env) :: backTo pos (starEach [] env)) (hs : (backTo pos (starEach [a1] env)).any (·.1) = false)
    (h : wpAny (model PW w) A (spliced (backTo pos (starEach [a1] env))) (fun vs s₁ => wpAny (model PW w) A (call (.builtin "str.endswith") (.str x t :: vs)) Q E s₁) E s) :
    MethodOn PW w A (PySem.Str.ofString "endswith") pos (.str x t) (backTo pos (starEach [a1] env)) Q E s := moS1 PySem.F.slot_str_endswith PySem.F.type_str_endswith hp hs h
theorem mo_rfind {x : Str} {a1 : PySem.Expr} (hp : backTo pos (starEach [a1] env) = (false, eval a1 env) :: backTo pos (starEach [] env)) (hs : (backTo pos (starEach [a1] env)).any (·.1) = false)
    (h : wpAny (model PW w) A (spliced (backTo pos (starEach [a1] env))) (fun vs s₁ => wpAny (model PW w) A (call (.builtin "str.rfind") (.str x t :: vs)) Q E s₁) E s) :
    MethodOn PW w A (PySem.Str.ofString "rfind") pos (.str x t) (backTo pos (starEach [a1] env)) Q E s := moS1 PySem.F.slot_str_rfind PySem.F.type_str_rfind hp hs h
theorem mo_rstrip {x : Str} {a1 : PySem.Expr} (hp : backTo pos (starEach [a1] env) = (false, eval a1 env) :: backTo pos (starEach [] env)) (hs : (backTo pos (starEach [a1] env)).any (·.1) = false)
    (h : wpAny (model PW w) A (spliced (backTo pos (starEach [a1] env))) (fun vs s₁ => wpAny (model PW w) A (call (.builtin "str.rstrip") (.str x t :: vs)) Q E s₁) E s) :
    MethodOn PW w A (PySem.Str.ofString "rstrip") pos (.str x t) (backTo pos (starEach [a1] env)) Q E s := moS1 PySem.F.slot_str_rstrip PySem.F.type_str_rstrip hp hs h
theorem mo_split {x : Str} {a1 : PySem.Expr} (hp : backTo pos (starEach [a1] env) = (false, eval a1 env) :: backTo pos (starEach [] env)) (hs : (backTo pos (starEach [a1] env)).any (·.1) = false)
    (h : wpAny (model PW w) A (spliced (backTo pos (starEach [a1] env))) (fun vs s₁ => wpAny (model PW w) A (call (.builtin "str.split") (.str x t :: vs)) Q E s₁) E s) :
    MethodOn PW w A (PySem.Str.ofString "split") pos (.str x t) (backTo pos (starEach [a1] env)) Q E s := moS1 PySem.F.slot_str_split PySem.F.type_str_split hp hs h
theorem mo_join {x : Str} {a1 : PySem.Expr} (hp : backTo pos (starEach [a1] env) = (false, eval a1 env) :: backTo pos (starEach [] env)) (hs : (backTo pos (starEach [a1] env)).any (·.1) = false)
    (h : wpAny (model PW w) A (spliced (backTo pos (starEach [a1] env))) (fun vs s₁ => wpAny (model PW w) A (call (.builtin "str.join") (.str x t :: vs)) Q E s₁) E s) :
    MethodOn PW w A (PySem.Str.ofString "join") pos (.str x t) (backTo pos (starEach [a1] env)) Q E s := moS1 PySem.F.slot_str_join PySem.F.type_str_join hp hs h
theorem vStarts {c : Nat} (h : Q (.bool (a.head? == some c)) s) : wpAny (model PW w) A (call (.builtin "str.startswith") [.str (S a) t, .str (S [c]) u]) Q E s := SC.startswith (by rw [startswith_S]; exact h)
theorem vEnds {c : Nat} (h : Q (.bool (a.getLast? == some c)) s) : wpAny (model PW w) A (call (.builtin "str.endswith") [.str (S a) t, .str (S [c]) u]) Q E s := SC.endswith (by rw [endswith_S]; exact h)
theorem vRfind {x y : Str} (e : In s₀ L l nw s) (h : ∀ t s', In s₀ L l nw s' → Q (.int (Txt.rfind x y) t) s') : wpAny (model PW w) A (call (.builtin "str.rfind") [.str x t, .str y u]) Q E s := SC.rfind (h _ _ (e.tok _))
theorem vRfindS {c : Nat} {H T : List Nat} (hT : c ∉ T) (e : In s₀ L l nw s) (h : ∀ t s', In s₀ L l nw s' → Q (.int (H.length : Int) t) s') : wpAny (model PW w) A (call (.builtin "str.rfind") [.str (S (H ++ c :: T)) t, .str (S [c]) u]) Q E s :=
  vRfind e fun t s' x => by rw [rfind_S hT]; exact h t s' x
theorem vRstrip {x y : Str} (hz : x.length ≤ 100000) (e : In s₀ L l nw s) (h : ∀ t s', In s₀ L l nw s' → Q (.str (Txt.rstripChars x y) t) s') : wpAny (model PW w) A (call (.builtin "str.rstrip") [.str x t, .str y u]) Q E s :=
  SC.rstripChars (fun _ _ => h _ _ (e.tok _)) (by rw [sizeLine_eq]; omega)

-- slices
theorem rSub {value slice : PySem.Expr} (h : wpAny (model PW w) A (eval value env) (fun o s₁ => wpAny (model PW w) A (eval slice env) (fun i s₂ => wpAny (model PW w) A (subscriptTail value slice o i) Q E s₂) E s₁) E s) :
    wpAny (model PW w) A (eval (.Subscript value slice pos) env) Q E s := Subscript_ h
theorem keptKeep (h₀ : Heap) : KeptH (Keep h₀) := fun _ _ k b o e => Heap.get?_push_of_some _ (k b o e)
theorem tSlTo {value slice : PySem.Expr} {x : Str} (hz : x.length ≤ 100000) (e : In s₀ L l nw s) (h : ∀ t' s', In s₀ L l nw s' → Q (.str (Txt.slice x none (some j)) t') s')
    (hs : subscripted slice false (.str x t) (.ref s.heap.objs.size) = operate [.ref s.heap.objs.size, .str x t] (getItem (.str x t) (.ref s.heap.objs.size)) := by with_unfolding_all rfl)
    (ht : ∀ r, letTemporaryGo value (.str x t) r = pure () := by intro _; with_unfolding_all rfl) :
    wpAny (model PW w) A (subscriptTail value slice (.str x t) (.ref s.heap.objs.size)) Q E { s with heap := s.heap.push { cls := .type "slice", data := .fields #[.none, .int j u, .none] } } :=
  tail_of_ItemOn (SBH.sliceItem_ns (keptKeep s.heap) (Keep.refl _) (fun h' t' k hk => h _ _ (e.step ⟨h', k, rfl, hk⟩)) (by rw [sizeLine_eq]; omega)) hs ht
theorem tSlFrom {value slice : PySem.Expr} {x : Str} (hz : x.length ≤ 100000) (e : In s₀ L l nw s) (h : ∀ t' s', In s₀ L l nw s' → Q (.str (Txt.slice x (some i) none) t') s')
    (hs : subscripted slice false (.str x t) (.ref s.heap.objs.size) = operate [.ref s.heap.objs.size, .str x t] (getItem (.str x t) (.ref s.heap.objs.size)) := by with_unfolding_all rfl)
    (ht : ∀ r, letTemporaryGo value (.str x t) r = pure () := by intro _; with_unfolding_all rfl) :
    wpAny (model PW w) A (subscriptTail value slice (.str x t) (.ref s.heap.objs.size)) Q E { s with heap := s.heap.push { cls := .type "slice", data := .fields #[.int i u, .none, .none] } } :=
  tail_of_ItemOn (SBH.sliceItem_sn (keptKeep s.heap) (Keep.refl _) (fun h' t' k hk => h _ _ (e.step ⟨h', k, rfl, hk⟩)) (by rw [sizeLine_eq]; omega)) hs ht
theorem tSlMid {value slice : PySem.Expr} {x : Str} {v : Tok} (hz : x.length ≤ 100000) (e : In s₀ L l nw s) (h : ∀ t' s', In s₀ L l nw s' → Q (.str (Txt.slice x (some i) (some j)) t') s')
    (hs : subscripted slice false (.str x t) (.ref s.heap.objs.size) = operate [.ref s.heap.objs.size, .str x t] (getItem (.str x t) (.ref s.heap.objs.size)) := by with_unfolding_all rfl)
    (ht : ∀ r, letTemporaryGo value (.str x t) r = pure () := by intro _; with_unfolding_all rfl) :
    wpAny (model PW w) A (subscriptTail value slice (.str x t) (.ref s.heap.objs.size)) Q E { s with heap := s.heap.push { cls := .type "slice", data := .fields #[.int i u, .int j v, .none] } } :=
  tail_of_ItemOn (SBH.sliceItem_ss (keptKeep s.heap) (Keep.refl _) (fun h' t' k hk => h _ _ (e.step ⟨h', k, rfl, hk⟩)) (by rw [sizeLine_eq]; omega)) hs ht
theorem tSlToS {value slice : PySem.Expr} (h0 : 0 ≤ j) (h1 : j ≤ a.length) (hz : a.length ≤ 100000) (e : In s₀ L l nw s) (h : ∀ t' s', In s₀ L l nw s' → Q (.str (S (a.take j.toNat)) t') s')
    (hs : subscripted slice false (.str (S a) t) (.ref s.heap.objs.size) = operate [.ref s.heap.objs.size, .str (S a) t] (getItem (.str (S a) t) (.ref s.heap.objs.size)) := by with_unfolding_all rfl)
    (ht : ∀ r, letTemporaryGo value (.str (S a) t) r = pure () := by intro _; with_unfolding_all rfl) :
    wpAny (model PW w) A (subscriptTail value slice (.str (S a) t) (.ref s.heap.objs.size)) Q E { s with heap := s.heap.push { cls := .type "slice", data := .fields #[.none, .int j u, .none] } } :=
  tSlTo (by rw [S_len]; exact hz) e (fun t' s' x => by rw [sl_to h0 h1]; exact h t' s' x) hs ht
theorem tSlFromS {value slice : PySem.Expr} (h0 : 0 ≤ i) (h1 : i ≤ a.length) (hz : a.length ≤ 100000) (e : In s₀ L l nw s) (h : ∀ t' s', In s₀ L l nw s' → Q (.str (S (a.drop i.toNat)) t') s')
    (hs : subscripted slice false (.str (S a) t) (.ref s.heap.objs.size) = operate [.ref s.heap.objs.size, .str (S a) t] (getItem (.str (S a) t) (.ref s.heap.objs.size)) := by with_unfolding_all rfl)
    (ht : ∀ r, letTemporaryGo value (.str (S a) t) r = pure () := by intro _; with_unfolding_all rfl) :
    wpAny (model PW w) A (subscriptTail value slice (.str (S a) t) (.ref s.heap.objs.size)) Q E { s with heap := s.heap.push { cls := .type "slice", data := .fields #[.int i u, .none, .none] } } :=
  tSlFrom (by rw [S_len]; exact hz) e (fun t' s' x => by rw [sl_from h0 h1]; exact h t' s' x) hs ht
theorem tSlMidS {value slice : PySem.Expr} {v : Tok} (h0 : 0 ≤ i) (h1 : i ≤ j) (h2 : j ≤ a.length) (hz : a.length ≤ 100000) (e : In s₀ L l nw s) (h : ∀ t' s', In s₀ L l nw s' → Q (.str (S ((a.drop i.toNat).take (j - i).toNat)) t') s')
    (hs : subscripted slice false (.str (S a) t) (.ref s.heap.objs.size) = operate [.ref s.heap.objs.size, .str (S a) t] (getItem (.str (S a) t) (.ref s.heap.objs.size)) := by with_unfolding_all rfl)
    (ht : ∀ r, letTemporaryGo value (.str (S a) t) r = pure () := by intro _; with_unfolding_all rfl) :
    wpAny (model PW w) A (subscriptTail value slice (.str (S a) t) (.ref s.heap.objs.size)) Q E { s with heap := s.heap.push { cls := .type "slice", data := .fields #[.int i u, .int j v, .none] } } :=
  tSlMid (by rw [S_len]; exact hz) e (fun t' s' x => by rw [sl_mid h0 h1 h2]; exact h t' s' x) hs ht
theorem tSlToH {value slice : PySem.Expr} {H T : List Nat} {c : Nat} (hz : (H ++ c :: T).length ≤ 100000) (e : In s₀ L l nw s) (h : ∀ t' s', In s₀ L l nw s' → Q (.str (S (H ++ [c])) t') s')
    (hs : subscripted slice false (.str (S (H ++ c :: T)) t) (.ref s.heap.objs.size) = operate [.ref s.heap.objs.size, .str (S (H ++ c :: T)) t] (getItem (.str (S (H ++ c :: T)) t) (.ref s.heap.objs.size)) := by with_unfolding_all rfl)
    (ht : ∀ r, letTemporaryGo value (.str (S (H ++ c :: T)) t) r = pure () := by intro _; with_unfolding_all rfl) :
    wpAny (model PW w) A (subscriptTail value slice (.str (S (H ++ c :: T)) t) (.ref s.heap.objs.size)) Q E { s with heap := s.heap.push { cls := .type "slice", data := .fields #[.none, .int ((H.length : Int) + 1) u, .none] } } :=
  tSlToS (by omega) (by simp; omega) hz e (fun t' s' x => by rw [take_H]; exact h t' s' x) hs ht
theorem tSlFromH {value slice : PySem.Expr} {H T : List Nat} {c : Nat} (hz : (H ++ c :: T).length ≤ 100000) (e : In s₀ L l nw s) (h : ∀ t' s', In s₀ L l nw s' → Q (.str (S T) t') s')
    (hs : subscripted slice false (.str (S (H ++ c :: T)) t) (.ref s.heap.objs.size) = operate [.ref s.heap.objs.size, .str (S (H ++ c :: T)) t] (getItem (.str (S (H ++ c :: T)) t) (.ref s.heap.objs.size)) := by with_unfolding_all rfl)
    (ht : ∀ r, letTemporaryGo value (.str (S (H ++ c :: T)) t) r = pure () := by intro _; with_unfolding_all rfl) :
    wpAny (model PW w) A (subscriptTail value slice (.str (S (H ++ c :: T)) t) (.ref s.heap.objs.size)) Q E { s with heap := s.heap.push { cls := .type "slice", data := .fields #[.int ((H.length : Int) + 1) u, .none, .none] } } :=
  tSlFromS (by omega) (by simp; omega) hz e (fun t' s' x => by rw [drop_H]; exact h t' s' x) hs ht
theorem vRstripS {c : Nat} {H : List Nat} (hH : H.getLast? ≠ some c) (hz : (H ++ [c]).length ≤ 100000) (e : In s₀ L l nw s) (h : ∀ t s', In s₀ L l nw s' → Q (.str (S H) t) s') : wpAny (model PW w) A (call (.builtin "str.rstrip") [.str (S (H ++ [c])) t, .str (S [c]) u]) Q E s :=
  vRstrip (by rw [S_len]; exact hz) e fun t s' x => by rw [rstrip_S hH]; exact h t s' x
end
end Mine
end

section
open PySem PySem.W PyProof.Rows PySem.Calls
set_option maxRecDepth 100000
namespace Mine

theorem lkHit {n : Str} {v : Value} {l : List (Str × Value)} : List.lookup n ((n, v) :: l) = some v := by simp
theorem lkMiss {n x : Str} {v u : Value} {l : List (Str × Value)} (h : (n == x) = false) (k : List.lookup n l = some v) : List.lookup n ((x, u) :: l) = some v := by rw [List.lookup_cons, h]; exact k
theorem ifB {b : Bool} {p q : Prop} (h1 : b = true → p) (h2 : b = false → q) : if b = true then p else q := by cases b <;> simp_all

section
variable {w : World} {A : Around} {E : Value → Shared → Prop} {s₀ s : Shared} {env : Env} {L : Addr} {sc : Scope} {cl : List (Str × Addr)} {l l' : List (Str × Value)} {nw : List (Addr × Obj)} {n : Str} {v : Value} {pos np : Pos} {k : Nat} {Q : Value → Shared → Prop}
/-- a call of a def of the text by its name, all at once -/
theorem cFn {x : Str} {a i : Nat} {dV kV : Value} {a1 : PySem.Expr} {args : List PySem.Expr} (hq : (a, i, dV, kV) ∈ fnTab) (hg : globs.lookup x = some (.ref a)) (hx : (x == ("__debug__" : Str)) = false)
    (e : EnvIs env L sc cl) (y : In s₀ L l nw s) (W : Wd s₀.heap) (hk : (sc.names.lookup x == some .globalImplicit) = true)
    (h : wpAny (model PW w) A (spliced (backTo pos (starEach (a1 :: args) env))) (fun vs s₂ => Keep s₀.heap s₂.heap ∧ wpAny (model PW w) A (call (.ref a) vs) Q E s₂) E s)
    (hp : backTo pos (starEach (a1 :: args) env) = (false, eval a1 env) :: backTo pos (starEach args env) := by rfl) :
    wpAny (model PW w) A (eval (.Call (.Name x np) (a1 :: args) [] pos) env) Q E s :=
  cF W hq hp (rG e y W hk hg ⟨rfl, h⟩ hx)
theorem cBn {x : Str} {id : String} {a1 : PySem.Expr} {args : List PySem.Expr} (hb : bnames.lookup x = some (.builtin id)) (hx : (x == ("__debug__" : Str)) = false)
    (e : EnvIs env L sc cl) (y : In s₀ L l nw s) (W : Wd s₀.heap) (hk : (sc.names.lookup x == some .globalImplicit) = true)
    (h : wpAny (model PW w) A (spliced (backTo pos (starEach (a1 :: args) env))) (fun vs s₂ => wpAny (model PW w) A (call (.builtin id) vs) Q E s₂) E s)
    (hp : backTo pos (starEach (a1 :: args) env) = (false, eval a1 env) :: backTo pos (starEach args env) := by rfl) (hs : (backTo pos (starEach (a1 :: args) env)).any (·.1) = false := by rfl) :
    wpAny (model PW w) A (eval (.Call (.Name x np) (a1 :: args) [] pos) env) Q E s :=
  cB hp hs (rB e y W hk hb ⟨rfl, h⟩ hx)
theorem cTn {x : Str} {T : String} {a1 : PySem.Expr} {args : List PySem.Expr} (hb : bnames.lookup x = some (.type T)) (hx : (x == ("__debug__" : Str)) = false)
    (e : EnvIs env L sc cl) (y : In s₀ L l nw s) (W : Wd s₀.heap) (hk : (sc.names.lookup x == some .globalImplicit) = true)
    (h : wpAny (model PW w) A (spliced (backTo pos (starEach (a1 :: args) env))) (fun vs s₂ => wpAny (model PW w) A (call (.type T) vs) Q E s₂) E s)
    (hp : backTo pos (starEach (a1 :: args) env) = (false, eval a1 env) :: backTo pos (starEach args env) := by rfl) (hs : (backTo pos (starEach (a1 :: args) env)).any (·.1) = false := by rfl) :
    wpAny (model PW w) A (eval (.Call (.Name x np) (a1 :: args) [] pos) env) Q E s :=
  cT hp hs (rB e y W hk hb ⟨rfl, h⟩ hx)
theorem rTup {elts : List PySem.Expr} {k : Nat} (h : wpAny (model PW w) A (spliced (backTo pos (starEach elts env))) (fun vs s₁ => wpAny (model PW w) A (newTuple vs) Q E s₁) E s) : wpAny (model PW w) A (eval (.Tuple elts k pos) env) Q E s := Tuple_ h
theorem rList {elts : List PySem.Expr} (h : wpAny (model PW w) A (spliced (backTo pos (starEach elts env))) (fun vs s₁ => wpAny (model PW w) A (newList vs) Q E s₁) E s) : wpAny (model PW w) A (eval (.List elts pos) env) Q E s := List_ h
theorem rNewT {vs : List Value} (x : In s₀ L l nw s) (hz : vs.length ≤ 1000) (h : ∀ a s', In s₀ L l ((a, ({ cls := .type "tuple", data := .seq vs.toArray } : Obj)) :: nw) s' → Q (.ref a) s') : wpAny (model PW w) A (newTuple vs) Q E s :=
  wpAny_newTuple (h _ _ (x.pushN _ rfl)) (by rw [sizeLine_eq]; omega)
theorem rNewL {vs : List Value} (x : In s₀ L l nw s) (hz : vs.length ≤ 1000) (h : ∀ a s', In s₀ L l ((a, ({ cls := .type "list", data := .seq vs.toArray } : Obj)) :: nw) s' → Q (.ref a) s') : wpAny (model PW w) A (newList vs) Q E s :=
  wpAny_newList (h _ _ (x.pushN _ rfl)) (by rw [sizeLine_eq]; omega)
theorem spC {M : Model} {a1 : PySem.Expr} {args : List PySem.Expr} {Q : List Value → Shared → Prop} (h : wpAny M A (eval a1 env) (fun v s₁ => wpAny M A (spliced (backTo pos (starEach args env))) (fun vs s₂ => Q (v :: vs) s₂) E s₁) E s)
    (hp : backTo pos (starEach (a1 :: args) env) = (false, eval a1 env) :: backTo pos (starEach args env)) : wpAny M A (spliced (backTo pos (starEach (a1 :: args) env))) Q E s := by
  rw [hp]; exact spliced_cons h
theorem spN {M : Model} {Q : List Value → Shared → Prop} (h : Q [] s) : wpAny M A (spliced (backTo pos (starEach [] env))) Q E s := spliced_nil h

-- a step by a contract, the news kept
theorem ct {s' : Shared} (x : In s₀ L l nw s) (k : Keeps s s') : In s₀ L l nw s' := x.step k
end
end Mine
end

section
open PySem PySem.W PyProof.Rows PySem.Calls
set_option maxRecDepth 100000
namespace Mine
section
variable {w : World} {A : Around} {E : Value → Shared → Prop} {s₀ s : Shared} {env : Env} {L : Addr} {sc : Scope} {cl : List (Str × Addr)} {l l' : List (Str × Value)} {nw : List (Addr × Obj)} {pos np p1 p2 p3 tp vp : Pos} {k k2 : Nat} {rest : List Stmt}

noncomputable abbrev tupO (vs : List Value) : Obj := { cls := .type "tuple", data := .seq vs.toArray }
noncomputable abbrev lstO (vs : List Value) (n : Nat) : Obj := { cls := .type "list", data := .seq vs.toArray n }
theorem In.tup (x : In s₀ L l nw s) {a : Addr} {vs : List Value} (hm : (a, tupO vs) ∈ nw) : s.heap.IsTuple a vs.toArray := ⟨_, (x.nw _ hm).1, rfl, _, rfl⟩
theorem In.lst (x : In s₀ L l nw s) {a : Addr} {vs : List Value} {n : Nat} (hm : (a, lstO vs n) ∈ nw) : s.heap.IsList a vs.toArray := ⟨_, (x.nw _ hm).1, rfl, _, rfl⟩
theorem rUnp {Q : List Value → Shared → Prop} {a : Addr} {vs : List Value} {n : Nat} (hh : A.handled = none) (x : In s₀ L l nw s) (ht : s.heap.IsTuple a vs.toArray) (hn : n = vs.length) (h : ∀ s', In s₀ L l nw s' → Q vs s') :
    wpAny (model PW w) A (unpackItems (.ref a) n none) Q E s := by
  subst hn
  have := wpAny_unpackItems_tuple (prog := PW) (w := w) (A := A) (E := E) (s := s) (Q := Q) hh ht (fun h' hx => by
    rw [List.toList_toArray]
    exact h _ (x.step ⟨h', s.toks, rfl, fun b o e => hx b o (Nat.ne_of_lt (Heap.lt_size e)) e⟩))
  simpa using this

theorem swap2 {x1 x2 : Str} {vs : List PySem.Expr} (e : EnvIs env L sc cl) (h1 : (sc.names.lookup x1 == some .local) = true) (h2 : (sc.names.lookup x2 == some .local) = true)
    (hok : (vs.length == 2 && p1.line == p2.line && x1 != x2 && !(vs.any fun | .Starred .. => true | _ => false) && !(vs.all (foldedForSure 8)) && !(vs.all (constantsAlone 8))) = true) :
    swappedStores [.Tuple [.Name x1 p1, .Name x2 p2] k tp] (.Tuple vs k2 vp) env = pure (some [x1, x2]) := by
  simp only [Bool.and_eq_true, Bool.not_eq_true', beq_iff_eq, bne_iff_ne] at hok
  obtain ⟨⟨⟨⟨⟨a1, a2⟩, a3⟩, a4⟩, a5⟩, a6⟩ := hok
  have b1 := e.kindOf h1
  have b2 := e.kindOf h2
  have b3 : env.blockKind = .function := by unfold Env.blockKind; rw [e.k]; rfl
  have a3' : (x2 == x1) = false := by simpa using fun q : x2 = x1 => a3 q.symm
  unfold swappedStores
  dsimp only
  simp [a1, a2, a5, a6, b1, b2, b3, a3', List.eraseDups_cons, pos_Name]
  intro x hx hs
  exact absurd hs (List.any_eq_false.mp a4 x hx)
theorem swap3 {x1 x2 x3 : Str} {vs : List PySem.Expr} (e : EnvIs env L sc cl) (h1 : (sc.names.lookup x1 == some .local) = true) (h2 : (sc.names.lookup x2 == some .local) = true) (h3 : (sc.names.lookup x3 == some .local) = true)
    (hok : (vs.length == 3 && p1.line == p2.line && p1.line == p3.line && x1 != x2 && x1 != x3 && x2 != x3 && !(vs.any fun | .Starred .. => true | _ => false) && !(vs.all (foldedForSure 8)) && !(vs.all (constantsAlone 8))) = true) :
    swappedStores [.Tuple [.Name x1 p1, .Name x2 p2, .Name x3 p3] k tp] (.Tuple vs k2 vp) env = pure (some [x1, x2, x3]) := by
  simp only [Bool.and_eq_true, Bool.not_eq_true', beq_iff_eq, bne_iff_ne] at hok
  obtain ⟨⟨⟨⟨⟨⟨⟨⟨a1, a2⟩, a2'⟩, a3⟩, a7⟩, a8⟩, a4⟩, a5⟩, a6⟩ := hok
  have b1 := e.kindOf h1
  have b2 := e.kindOf h2
  have b4 := e.kindOf h3
  have b3 : env.blockKind = .function := by unfold Env.blockKind; rw [e.k]; rfl
  have a3' : (x2 == x1) = false := by simpa using fun q : x2 = x1 => a3 q.symm
  have a7' : (x3 == x1) = false := by simpa using fun q : x3 = x1 => a7 q.symm
  have a8' : (x3 == x2) = false := by simpa using fun q : x3 = x2 => a8 q.symm
  unfold swappedStores
  dsimp only
  simp [a1, a5, a6, b1, b2, b3, b4, a3', a7', a8', List.eraseDups_cons, pos_Name, ← a2, ← a2']
  intro x hx hs
  exact absurd hs (List.any_eq_false.mp a4 x hx)

theorem xSwap2 {Q : Flow → Shared → Prop} {x1 x2 : Str} {vs : List PySem.Expr} (e : EnvIs env L sc cl) (h1 : (sc.names.lookup x1 == some .local) = true) (h2 : (sc.names.lookup x2 == some .local) = true)
    (hok : (vs.length == 2 && p1.line == p2.line && x1 != x2 && !(vs.any fun | .Starred .. => true | _ => false) && !(vs.all (foldedForSure 8)) && !(vs.all (constantsAlone 8))) = true)
    (h : wpAny (model PW w) A (eval (.Tuple vs k2 vp) env) (fun v s₁ => wpAny (model PW w) A (unpackItems v 2 none) (fun items s₂ => ∃ v1 v2, items = [v1, v2] ∧
      wpAny (model PW w) A (storeName env x2 v2) (fun _ s₃ => wpAny (model PW w) A (storeName env x1 v1) (fun _ s₄ => wpAny (model PW w) A (execs rest env) Q E s₄) E s₃) E s₂) E s₁) E s) :
    wpAny (model PW w) A (execs (.Assign [.Tuple [.Name x1 p1, .Name x2 p2] k tp] (.Tuple vs k2 vp) pos :: rest) env) Q E s := by
  refine wpAny_execs_cons (Assign_Tuple_swapped (names := [x1, x2]) (wpAny_mono h (fun v s₁ h₁ => wpAny_mono h₁ (fun items s₂ h₂ => ?_) fun _ _ z => z) fun _ _ z => z) rfl (swap2 e h1 h2 hok))
  obtain ⟨v1, v2, rfl, h₂⟩ := h₂
  show wpAny _ _ (assignInOrder [fun v => bindName env x2 v, fun v => bindName env x1 v] [v2, v1]) _ _ _
  exact wpAny_assignInOrder_more (bindName_ (wpAny_mono h₂ (fun _ s₃ h₃ => wpAny_assignInOrder_more (bindName_ (wpAny_mono h₃ (fun _ s₄ h₄ => wpAny_assignInOrder_none h₄) fun _ _ z => z))) fun _ _ z => z))
theorem xSwap3 {Q : Flow → Shared → Prop} {x1 x2 x3 : Str} {vs : List PySem.Expr} (e : EnvIs env L sc cl) (h1 : (sc.names.lookup x1 == some .local) = true) (h2 : (sc.names.lookup x2 == some .local) = true) (h3 : (sc.names.lookup x3 == some .local) = true)
    (hok : (vs.length == 3 && p1.line == p2.line && p1.line == p3.line && x1 != x2 && x1 != x3 && x2 != x3 && !(vs.any fun | .Starred .. => true | _ => false) && !(vs.all (foldedForSure 8)) && !(vs.all (constantsAlone 8))) = true)
    (h : wpAny (model PW w) A (eval (.Tuple vs k2 vp) env) (fun v s₁ => wpAny (model PW w) A (unpackItems v 3 none) (fun items s₂ => ∃ v1 v2 v3, items = [v1, v2, v3] ∧
      wpAny (model PW w) A (storeName env x3 v3) (fun _ s₂' => wpAny (model PW w) A (storeName env x2 v2) (fun _ s₃ => wpAny (model PW w) A (storeName env x1 v1) (fun _ s₄ => wpAny (model PW w) A (execs rest env) Q E s₄) E s₃) E s₂') E s₂) E s₁) E s) :
    wpAny (model PW w) A (execs (.Assign [.Tuple [.Name x1 p1, .Name x2 p2, .Name x3 p3] k tp] (.Tuple vs k2 vp) pos :: rest) env) Q E s := by
  refine wpAny_execs_cons (Assign_Tuple_swapped (names := [x1, x2, x3]) (wpAny_mono h (fun v s₁ h₁ => wpAny_mono h₁ (fun items s₂ h₂ => ?_) fun _ _ z => z) fun _ _ z => z) rfl (swap3 e h1 h2 h3 hok))
  obtain ⟨v1, v2, v3, rfl, h₂⟩ := h₂
  show wpAny _ _ (assignInOrder [fun v => bindName env x3 v, fun v => bindName env x2 v, fun v => bindName env x1 v] [v3, v2, v1]) _ _ _
  exact wpAny_assignInOrder_more (bindName_ (wpAny_mono h₂ (fun _ s₃ h₃ => wpAny_assignInOrder_more (bindName_ (wpAny_mono h₃ (fun _ s₃ h₃ => wpAny_assignInOrder_more (bindName_ (wpAny_mono h₃ (fun _ s₄ h₄ => wpAny_assignInOrder_none h₄) fun _ _ z => z))) fun _ _ z => z))) fun _ _ z => z))
/-- names in a row take what a tuple holds -/
theorem xTup2 {Q : Flow → Shared → Prop} {x1 x2 : Str} {value : PySem.Expr}
    (hw : swappedStores [.Tuple [.Name x1 p1, .Name x2 p2] k tp] value env = pure none) (hs : swapsWithSole [.Tuple [.Name x1 p1, .Name x2 p2] k tp] value pos.line env = pure false)
    (h : wpAny (model PW w) A (eval value env) (fun v s₁ => wpAny (model PW w) A (unpackItems v 2 none) (fun items s₂ => ∃ v1 v2, items = [v1, v2] ∧
      wpAny (model PW w) A (storeName env x1 v1) (fun _ s₃ => wpAny (model PW w) A (storeName env x2 v2) (fun _ s₄ => wpAny (model PW w) A (execs rest env) Q E s₄) E s₃) E s₂) E s₁) E s) :
    wpAny (model PW w) A (execs (.Assign [.Tuple [.Name x1 p1, .Name x2 p2] k tp] value pos :: rest) env) Q E s := by
  refine wpAny_execs_cons (Assign_Tuple (wpAny_mono h (fun v s₁ h₁ => ?_) fun _ _ z => z) hs hw)
  rw [assign_Tuple]
  refine wpAny_bind (wpAny_standAt ?_)
  unfold unpack
  refine wpAny_bind (wpAny_holding (wpAny_mono h₁ (fun items s₂ h₂ => ?_) fun _ _ z => z))
  obtain ⟨v1, v2, rfl, h₂⟩ := h₂
  show wpAny _ _ (assignInOrder [assign (.Name x1 p1) env, assign (.Name x2 p2) env] [v1, v2]) _ _ _
  exact wpAny_assignInOrder_more (wpAny_assign_Name (wpAny_mono h₂ (fun _ s₃ h₃ => wpAny_assignInOrder_more (wpAny_assign_Name (wpAny_mono h₃ (fun _ s₄ h₄ => wpAny_assignInOrder_none h₄) fun _ _ z => z))) fun _ _ z => z))
theorem xTup3 {Q : Flow → Shared → Prop} {x1 x2 x3 : Str} {value : PySem.Expr}
    (hw : swappedStores [.Tuple [.Name x1 p1, .Name x2 p2, .Name x3 p3] k tp] value env = pure none) (hs : swapsWithSole [.Tuple [.Name x1 p1, .Name x2 p2, .Name x3 p3] k tp] value pos.line env = pure false)
    (h : wpAny (model PW w) A (eval value env) (fun v s₁ => wpAny (model PW w) A (unpackItems v 3 none) (fun items s₂ => ∃ v1 v2 v3, items = [v1, v2, v3] ∧
      wpAny (model PW w) A (storeName env x1 v1) (fun _ s₃ => wpAny (model PW w) A (storeName env x2 v2) (fun _ s₄ => wpAny (model PW w) A (storeName env x3 v3) (fun _ s₅ => wpAny (model PW w) A (execs rest env) Q E s₅) E s₄) E s₃) E s₂) E s₁) E s) :
    wpAny (model PW w) A (execs (.Assign [.Tuple [.Name x1 p1, .Name x2 p2, .Name x3 p3] k tp] value pos :: rest) env) Q E s := by
  refine wpAny_execs_cons (Assign_Tuple (wpAny_mono h (fun v s₁ h₁ => ?_) fun _ _ z => z) hs hw)
  rw [assign_Tuple]
  refine wpAny_bind (wpAny_standAt ?_)
  unfold unpack
  refine wpAny_bind (wpAny_holding (wpAny_mono h₁ (fun items s₂ h₂ => ?_) fun _ _ z => z))
  obtain ⟨v1, v2, v3, rfl, h₂⟩ := h₂
  show wpAny _ _ (assignInOrder [assign (.Name x1 p1) env, assign (.Name x2 p2) env, assign (.Name x3 p3) env] [v1, v2, v3]) _ _ _
  exact wpAny_assignInOrder_more (wpAny_assign_Name (wpAny_mono h₂ (fun _ s₃ h₃ => wpAny_assignInOrder_more (wpAny_assign_Name (wpAny_mono h₃ (fun _ s₃ h₃ => wpAny_assignInOrder_more (wpAny_assign_Name (wpAny_mono h₃ (fun _ s₄ h₄ => wpAny_assignInOrder_none h₄) fun _ _ z => z))) fun _ _ z => z))) fun _ _ z => z))
end
end Mine
end

section
open PySem PySem.W PyProof.Rows PySem.Calls
set_option maxRecDepth 100000
namespace Mine
section
variable {w : World} {A : Around} {E : Value → Shared → Prop} {s₀ s : Shared} {env : Env} {L : Addr} {sc : Scope} {cl : List (Str × Addr)} {l l' : List (Str × Value)} {nw : List (Addr × Obj)} {pos np p1 p2 p3 tp vp : Pos} {k k2 : Nat} {rest body : List Stmt} {Q : Flow → Shared → Prop} {σ : Type}

noncomputable def forR (M : Model) (A : Around) (rest : List Stmt) (env : Env) (Q : Flow → Shared → Prop) (E : Value → Shared → Prop) : Result → Shared → Prop
  | .ok f, s => thenX M A rest env Q E f s
  | .error _, _ => False
theorem xFor {target iter : PySem.Expr} {orelse : List Stmt} (hs : ∀ x, foldedSetIterable iter env x = pure x)
    (h : wpAny (model PW w) A (eval iter env) (fun v s₁ => wpAny (model PW w) A (pyIter v) (fun it s₂ => codeAny (model PW w) A (.forLoop target it body orelse env) (forR (model PW w) A rest env Q E) s₂) E s₁) E s) :
    wpAny (model PW w) A (execs (.For target iter body orelse pos :: rest) env) Q E s := by
  refine wpAny_execs_cons (wpAny_For (wpAny_mono h (fun v s₁ h₁ => wpAny_mono h₁ (fun it s₂ h₂ => codeAny_mono h₂ fun r s₃ h₃ => ?_) fun _ _ z => z) fun _ _ z => z) hs)
  cases r with
  | ok f => cases f <;> exact h₃
  | error e => exact h₃.elim

noncomputable def loopQ (Inv : Nat → σ → Prop) (fl : σ → List (Str × Value)) (fw : σ → List (Addr × Obj)) (s₀ : Shared) (L I : Addr) (o : Obj) (i : Nat) (Qb : Shared → Prop) (Q : Flow → Shared → Prop) : Flow → Shared → Prop
  | .next, s => ∃ a, Inv (i + 1) a ∧ In s₀ L (fl a) ((I, o) :: fw a) s
  | .cont, s => ∃ a, Inv (i + 1) a ∧ In s₀ L (fl a) ((I, o) :: fw a) s
  | .brk, s => Qb s
  | .ret v, s => Q (.ret v) s
theorem lqNext {Inv : Nat → σ → Prop} {fl : σ → List (Str × Value)} {fw : σ → List (Addr × Obj)} {I : Addr} {o : Obj} {i : Nat} {Qb : Shared → Prop} (a : σ) (h : Inv (i + 1) a) (x : In s₀ L (fl a) ((I, o) :: fw a) s) : loopQ Inv fl fw s₀ L I o i Qb Q .next s := ⟨a, h, x⟩
theorem lqCont {Inv : Nat → σ → Prop} {fl : σ → List (Str × Value)} {fw : σ → List (Addr × Obj)} {I : Addr} {o : Obj} {i : Nat} {Qb : Shared → Prop} (a : σ) (h : Inv (i + 1) a) (x : In s₀ L (fl a) ((I, o) :: fw a) s) : loopQ Inv fl fw s₀ L I o i Qb Q .cont s := ⟨a, h, x⟩

theorem lqN {Inv : Nat → σ → Prop} {fl : σ → List (Str × Value)} {fw : σ → List (Addr × Obj)} {I : Addr} {o : Obj} {i : Nat} {Qb : Shared → Prop} (x : In s₀ L l' nw s) (a : σ) (h : Inv (i + 1) a) (h2 : Sub' (fl a) l') (h3 : ((I, o) :: fw a).Sublist nw) : loopQ Inv fl fw s₀ L I o i Qb Q .next s := ⟨a, h, (x.forget h2).drop h3⟩
theorem lqC {Inv : Nat → σ → Prop} {fl : σ → List (Str × Value)} {fw : σ → List (Addr × Obj)} {I : Addr} {o : Obj} {i : Nat} {Qb : Shared → Prop} (x : In s₀ L l' nw s) (a : σ) (h : Inv (i + 1) a) (h2 : Sub' (fl a) l') (h3 : ((I, o) :: fw a).Sublist nw) : loopQ Inv fl fw s₀ L I o i Qb Q .cont s := ⟨a, h, (x.forget h2).drop h3⟩
theorem loopW {R : Result → Shared → Prop} {x : Str} {I : Addr} {fp : List Addr} {n : Nat} {P : Nat → Value → Prop} {St : Nat → Heap → Prop} {orelse : List Stmt} (Inv : Nat → σ → Prop) (fl : σ → List (Str × Value)) (fw : σ → List (Addr × Obj))
    (e : EnvIs env L sc cl) (fr : s₀.heap.get? L = none) (hx : (sc.names.lookup x == some .local) = true)
    (W : Walks PW w A I fp [I] n P St) (hI : ∀ i h, St i h → ∃ o : Obj, h.get? I = some o)
    (src : ∀ b ∈ fp, b ≠ I → ∃ ob, s₀.heap.get? b = some ob ∨ ∀ i a, Inv i a → (b, ob) ∈ fw a)
    (a₀ : σ) {oI : Obj} (x0 : In s₀ L (fl a₀) ((I, oI) :: fw a₀) s) (h0 : Inv 0 a₀) (hst : St 0 s.heap)
    (hbody : ∀ i v a o s', i < n → P i v → Inv i a → In s₀ L ((x, v) :: fl a) ((I, o) :: fw a) s' →
      wpAny (model PW w) A (execs body env) (loopQ Inv fl fw s₀ L I o i (fun s => R (.ok .next) s) (fun f s => R (.ok f) s)) (fun _ _ => False) s')
    (hend : ∀ a s', Inv n a → In s₀ L (fl a) (fw a) s' → wpAny (model PW w) A (execs orelse env) (fun f s => R (.ok f) s) (fun _ _ => False) s') :
    codeAny (model PW w) A (.forLoop (.Name x p1) (.ref I) body orelse env) R s := by
  refine codeAny_forLoop_any (fun k s' => ∃ i a o, k = n - i ∧ i ≤ n ∧ Inv i a ∧ In s₀ L (fl a) ((I, o) :: fw a) s' ∧ St i s'.heap) ?_ n ⟨0, a₀, oI, rfl, Nat.zero_le _, h0, x0, hst⟩
  rintro k s₁ ⟨i, a, o, rfl, hi, hinv, y, hst⟩
  have noI : ∀ {h' : Heap}, (∀ b ob, b ∉ [I] → s₁.heap.get? b = some ob → h'.get? b = some ob) → Heap.ExtBut I s₁.heap h' := fun hk b ob hb e => hk b ob (fun hm => hb (List.mem_singleton.mp hm)) e
  by_cases hlt : i < n
  · refine W.item i s₁ _ _ hlt hst fun v h' tk hv hst' hk => ?_
    have hx' := noI hk
    obtain ⟨o', ho'⟩ := hI _ _ hst'
    have y' := y.turn (tk := tk) (nw' := (I, o') :: fw a) .hit hx' ho'
    have hgo : letOwnedTupleGo (.Name x p1) (.ref I) v = pure () := rfl
    dsimp only
    rw [hgo]
    refine wpAny_pure ?_
    refine wpAny_assign_Name (rStC e y' fr hx fun s₂ y₂ => ?_)
    have st2 : St (i + 1) s₂.heap := by
      refine W.frame _ _ _ hst' fun b hb ob hob => ?_
      by_cases hbI : b = I
      · subst hbI
        have h1 := (y₂.nw (b, o') (.head _)).1
        dsimp only at h1
        rw [ho'] at hob; cases hob; exact h1
      · obtain ⟨ob', h1 | h1⟩ := src b hb hbI
        · have := y'.keep _ _ h1
          dsimp only at this
          rw [this] at hob; cases hob
          exact y₂.keep _ _ h1
        · have m := h1 _ _ hinv
          have := (y'.nw (b, ob') (.tail _ m)).1
          dsimp only at this
          rw [this] at hob; cases hob
          exact (y₂.nw _ (.tail _ m)).1
    refine wpAny_mono (hbody i v a o' s₂ hlt hv hinv y₂) (fun f s₃ h₃ => ?_) fun _ _ z => z.elim
    have again : ∀ a', Inv (i + 1) a' → In s₀ L (fl a') ((I, o') :: fw a') s₃ → ∃ m, m < n - i ∧ ∃ i' a'' o, m = n - i' ∧ i' ≤ n ∧ Inv i' a'' ∧ In s₀ L (fl a'') ((I, o) :: fw a'') s₃ ∧ St i' s₃.heap := by
      intro a' hinv' y₃
      refine ⟨n - (i + 1), sbl hlt, i + 1, a', o', rfl, hlt, hinv', y₃, W.frame _ _ _ st2 fun b hb ob hob => ?_⟩
      by_cases hbI : b = I
      · subst hbI
        have h1 := (y₃.nw (b, o') (.head _)).1
        have h2 := (y₂.nw (b, o') (.head _)).1
        dsimp only at h1 h2
        rw [h2] at hob; cases hob; exact h1
      · obtain ⟨ob', h1 | h1⟩ := src b hb hbI
        · have := y₂.keep _ _ h1
          rw [this] at hob; cases hob
          exact y₃.keep _ _ h1
        · have := (y₂.nw (b, ob') (.tail _ (h1 _ _ hinv))).1
          dsimp only at this
          rw [this] at hob; cases hob
          exact (y₃.nw _ (.tail _ (h1 _ _ hinv'))).1
    cases f with
    | next => obtain ⟨a', q1, q2⟩ := h₃; exact again a' q1 q2
    | cont => obtain ⟨a', q1, q2⟩ := h₃; exact again a' q1 q2
    | brk => exact h₃
    | ret v => exact h₃
  · have hin : i = n := by omega
    subst hin
    refine W.done s₁ _ _ hst fun h' tk hk => ?_
    have hx' := noI hk
    have hIa := y.nw (I, o) (.head _)
    have nd := List.pairwise_cons.mp y.nd
    have y' : In s₀ L (fl a) (fw a) { s₁ with heap := h', toks := tk } := by
      refine ⟨by obtain ⟨h, tk', e⟩ := y.same; exact ⟨h', tk, by rw [e]⟩, let ⟨m, nn, hm⟩ := y.ns; ⟨m, nn.extBut hx' (Ne.symm hIa.2.1), hm⟩, fun b o e => hx' b o (fun q => ?_) (y.keep b o e), fun p hp => ?_, nd.2⟩
      · subst q; have := hIa.2.2; dsimp only at this; rw [this] at e; cases e
      · have := y.nw p (.tail _ hp); exact ⟨hx' _ _ (Ne.symm (nd.1 p hp)) this.1, this.2⟩
    exact wpAny_mono (hend a _ hinv y') (fun _ _ z => z) fun _ _ z => z.elim
theorem iterL {n : Nat} {x : Str} {a : Addr} {vs : List Value} (Inv : Nat → σ → Prop) (fl : σ → List (Str × Value)) (fw : σ → List (Addr × Obj)) (a₀ : σ)
    (e : EnvIs env L sc cl) (fr : s₀.heap.get? L = none) (hx : (sc.names.lookup x == some .local) = true) (R : Rm n A)
    (x0 : In s₀ L (fl a₀) (fw a₀) s) (hl : s.heap.IsList a vs.toArray) (src : (∃ ob, s₀.heap.get? a = some ob) ∨ ∃ ob, ∀ i b, Inv i b → (a, ob) ∈ fw b) (h0 : Inv 0 a₀)
    (hbody : ∀ i v b I o s', vs[i]? = some v → Inv i b → In s₀ L ((x, v) :: fl b) ((I, o) :: fw b) s' →
      wpAny (model PW w) A (execs body env) (loopQ Inv fl fw s₀ L I o i (fun s => wpAny (model PW w) A (execs rest env) Q E s) Q) (fun _ _ => False) s')
    (hend : ∀ b s', Inv vs.length b → In s₀ L (fl b) (fw b) s' → wpAny (model PW w) A (execs rest env) Q E s') :
    wpAny (model PW w) A (pyIter (.ref a)) (fun it s₂ => codeAny (model PW w) A (.forLoop (.Name x p1) it body [] env) (forR (model PW w) A rest env Q E) s₂) E s := by
  have hlt : a < s.heap.objs.size := by obtain ⟨o, ho, _⟩ := hl; exact Heap.lt_size ho
  refine wpAny_pyIter_list hl ?_
  refine loopW Inv fl fw e fr hx (Walks.list R.hd s.heap.objs.size a (Nat.ne_of_lt hlt) vs.toArray) (fun i h st => let ⟨o, ho, _⟩ := st.1; ⟨o, ho⟩) (fun b hb hbI => ?_) a₀ (x0.pushN _ rfl) h0 ?_
    (fun i v b o s' _ hv hi y => ?_) fun b s' hi y => xNil (hend b s' (by simpa using hi) y |> fun h => h)
  · rcases List.mem_cons.mp hb with rfl | hb
    · exact absurd rfl hbI
    · rw [List.mem_singleton] at hb; subst hb
      rcases src with ⟨ob, h⟩ | ⟨ob, h⟩
      · exact ⟨ob, .inl h⟩
      · exact ⟨ob, .inr h⟩
  · exact ⟨⟨_, Heap.get?_push_size _ rfl, rfl, rfl⟩, let ⟨o, ho, r⟩ := hl; ⟨o, Heap.get?_push_of_some _ ho, r⟩⟩
  · refine wpAny_mono (hbody i v b _ o s' (by simpa using hv) hi y) (fun f s₃ h₃ => ?_) fun _ _ z => z.elim
    cases f <;> exact h₃
theorem iterT {n : Nat} {x : Str} {a : Addr} {vs : List Value} (Inv : Nat → σ → Prop) (fl : σ → List (Str × Value)) (fw : σ → List (Addr × Obj)) (a₀ : σ)
    (e : EnvIs env L sc cl) (fr : s₀.heap.get? L = none) (hx : (sc.names.lookup x == some .local) = true) (R : Rm n A)
    (x0 : In s₀ L (fl a₀) (fw a₀) s) (hl : s.heap.IsTuple a vs.toArray) (src : (∃ ob, s₀.heap.get? a = some ob) ∨ ∃ ob, ∀ i b, Inv i b → (a, ob) ∈ fw b) (h0 : Inv 0 a₀)
    (hbody : ∀ i v b I o s', vs[i]? = some v → Inv i b → In s₀ L ((x, v) :: fl b) ((I, o) :: fw b) s' →
      wpAny (model PW w) A (execs body env) (loopQ Inv fl fw s₀ L I o i (fun s => wpAny (model PW w) A (execs rest env) Q E s) Q) (fun _ _ => False) s')
    (hend : ∀ b s', Inv vs.length b → In s₀ L (fl b) (fw b) s' → wpAny (model PW w) A (execs rest env) Q E s') :
    wpAny (model PW w) A (pyIter (.ref a)) (fun it s₂ => codeAny (model PW w) A (.forLoop (.Name x p1) it body [] env) (forR (model PW w) A rest env Q E) s₂) E s := by
  have hlt : a < s.heap.objs.size := by obtain ⟨o, ho, _⟩ := hl; exact Heap.lt_size ho
  refine wpAny_pyIter_tuple hl ?_
  refine loopW Inv fl fw e fr hx (Walks.tuple R.hd s.heap.objs.size a (Nat.ne_of_lt hlt) vs.toArray) (fun i h st => let ⟨o, ho, _⟩ := st.1; ⟨o, ho⟩) (fun b hb hbI => ?_) a₀ (x0.pushN _ rfl) h0 ?_
    (fun i v b o s' _ hv hi y => ?_) fun b s' hi y => xNil (hend b s' (by simpa using hi) y |> fun h => h)
  · rcases List.mem_cons.mp hb with rfl | hb
    · exact absurd rfl hbI
    · rw [List.mem_singleton] at hb; subst hb
      rcases src with ⟨ob, h⟩ | ⟨ob, h⟩
      · exact ⟨ob, .inl h⟩
      · exact ⟨ob, .inr h⟩
  · exact ⟨⟨_, Heap.get?_push_size _ rfl, rfl, rfl⟩, let ⟨o, ho, r⟩ := hl; ⟨o, Heap.get?_push_of_some _ ho, r⟩⟩
  · refine wpAny_mono (hbody i v b _ o s' (by simpa using hv) hi y) (fun f s₃ h₃ => ?_) fun _ _ z => z.elim
    cases f <;> exact h₃
theorem fitsL (z : Int) (h0 : 0 ≤ z) (h1 : z ≤ 200000) : Builtin.Range.rangeFitsLong z = true := by
  unfold Builtin.Range.rangeFitsLong
  have a : -(2 ^ 63 : Int) ≤ z := by omega
  have b : z < (2 ^ 63 : Int) := by omega
  first | (simp only [Bool.and_eq_true, decide_eq_true_eq]; exact ⟨a, b⟩) | (rw [decide_eq_true a, decide_eq_true b]; rfl)
theorem small_m {m : Nat} (hm : m ≤ 100000) (hsz : Builtin.Range.rangeSize 0 (m : Int) 1 = (m : Int)) : Builtin.Range.small 0 (m : Int) 1 = true := by
  unfold Builtin.Range.small
  rw [hsz, fitsL 0 (by omega) (by omega), fitsL m (by omega) (by omega), fitsL 1 (by omega) (by omega), if_pos (by decide), fitsL _ (by omega) (by omega)]
  simp
/-- range(m), m a number that is not below nought -/
noncomputable abbrev rngO (m : Int) (t u v : Tok) : Obj := { cls := .type "range", data := .fields #[.int 0 t, .int m u, .int 1 v] }
theorem iterR {n : Nat} {x : Str} {a : Addr} {m : Nat} {t u v : Tok} (Inv : Nat → σ → Prop) (fl : σ → List (Str × Value)) (fw : σ → List (Addr × Obj)) (a₀ : σ)
    (e : EnvIs env L sc cl) (fr : s₀.heap.get? L = none) (hx : (sc.names.lookup x == some .local) = true) (R : Rm n A) (hm : m ≤ 100000)
    (x0 : In s₀ L (fl a₀) (fw a₀) s) (hl : s.heap.get? a = some (rngO m t u v)) (h0 : Inv 0 a₀)
    (hbody : ∀ i tk b I o s', i < m → Inv i b → In s₀ L ((x, .int (i : Int) tk) :: fl b) ((I, o) :: fw b) s' →
      wpAny (model PW w) A (execs body env) (loopQ Inv fl fw s₀ L I o i (fun s => wpAny (model PW w) A (execs rest env) Q E s) Q) (fun _ _ => False) s')
    (hend : ∀ b s', Inv m b → In s₀ L (fl b) (fw b) s' → wpAny (model PW w) A (execs rest env) Q E s') :
    wpAny (model PW w) A (pyIter (.ref a)) (fun it s₂ => codeAny (model PW w) A (.forLoop (.Name x p1) it body [] env) (forR (model PW w) A rest env Q E) s₂) E s := by
  have hsz : Builtin.Range.rangeSize 0 (m : Int) 1 = (m : Int) := by
    rw [rangeSize_one]; split <;> omega
  refine wpAny_pyIter_range (a := 0) (b := (m : Int)) (c := 1) (t := t) (u := u) (v := v) hl (small_m hm hsz) ?_
  rw [hsz]
  refine loopW Inv fl fw e fr hx (Walks.range R.hd s.heap.objs.size 0 1 m) (fun i h st => ⟨_, st⟩) (fun b hb hbI => ?_) a₀ (x0.pushN _ rfl) h0 ?_
    (fun i v b o s' hlt hv hi y => ?_) fun b s' hi y => xNil (hend b s' hi y |> fun h => h)
  · rw [List.mem_singleton] at hb; exact absurd hb hbI
  · have := Heap.get?_push_size s.heap (o := ({ cls := .type "range_iterator", data := .fields #[rawInt 0, rawInt (m : Int), rawInt 1] } : Obj)) rfl
    simpa [IsRangeIter] using this
  · obtain ⟨tk, rfl⟩ := hv
    have e1 : (0 : Int) + (i : Int) * 1 = i := by omega
    rw [e1] at y
    refine wpAny_mono (hbody i tk b _ o s' hlt hi y) (fun f s₃ h₃ => ?_) fun _ _ z => z.elim
    cases f <;> exact h₃
end
end Mine
end

section
open PySem PySem.W PyProof.Rows PySem.Calls
set_option maxRecDepth 100000
namespace Mine
/-- what binding has made -/
structure Mk (s : Shared) (N : List (Addr × Obj)) (s₁ : Shared) : Prop where
  k : Keeps s s₁
  nw : ∀ p ∈ N, s₁.heap.get? p.1 = some p.2 ∧ s.heap.get? p.1 = none
  nd : Apart N
theorem enterG {w : World} {A : Around} {s : Shared} {E : Value → Shared → Prop} {Q : Value → Shared → Prop} {a i n : Nat} {dV kV : Value} {args : List Value} {kw : List (Str × Value)} {β : Type} {mk : β → List (Str × Value)} {mn : β → List (Addr × Obj)} {ml : β → List (Str × Value)} {ns : List Str}
    (W : Wd s.heap) (hq : (a, i, dV, kV) ∈ fnTab) (R : Rm (n + 1) A)
    (hb : ∀ pm cd doc (Q' : List (Str × Value) → Shared → Prop) (E' : Value → Shared → Prop), (∀ b s₁, Mk s (mn b) s₁ → Q' (mk b) s₁) → wpAny (model PW w) A.in1 (bindArgs (fdOf i dV kV pm cd doc) ⟨args, kw⟩) Q' E' s) (hns : ∀ b, (mk b).map (·.1) = ns) (hml : ∀ b, (mk b).reverse = ml b)
    (hok : ((fScope (stmtAt i)).names.all (fun x => x.2 != .cell) && ns.all (fun y => (fScope (stmtAt i)).names.lookup y == some .local) && !(fScope (stmtAt i)).isCoroutine && !(fScope (stmtAt i)).isGenerator && (fScope (stmtAt i)).kind == .function) = true)
    (h : ∀ b env L A' s₁, EnvIs env L (fScope (stmtAt i)) [] → Rm n A' → interactive env = false → s.heap.get? L = none → In s L (ml b) (mn b) s₁ → wpAny (model PW w) A' (execs (fBody (stmtAt i)) env) (retQ Q) (fun _ _ => False) s₁) :
    wpAny (model PW w) A (call (.ref a) args kw) Q E s := by
  obtain ⟨o, pm, cd, doc, ho, hd, hc⟩ := W.fn _ hq
  simp only [Bool.and_eq_true, Bool.not_eq_true'] at hok
  obtain ⟨⟨⟨⟨h1, h2⟩, h3⟩, h4⟩, h5⟩ := hok
  have hkf : (fScope (stmtAt i)).kind = .function := eq_of_beq h5
  refine wpAny_call (codeAny_call_function (fd := fdOf i dV kV pm cd doc) (body := fBody (stmtAt i)) R.room ho hd h3 h4 rfl hc (hb pm cd doc _ _ fun b s₁ m => ?_))
  obtain ⟨mk1, mnw, mnd⟩ := m
  obtain ⟨h', tk, rfl, hk⟩ := mk1
  refine wpAny_newFunctionEnv (fun x hx => by have := List.all_eq_true.mp h1 x hx; simpa using this) (fun x hx => ?_) (fun h₀ hn hs => ?_) hkf
  · have := List.all_eq_true.mp h2 x.1 (by rw [← hns b]; exact List.mem_map_of_mem hx)
    exact eq_of_beq this
  · dsimp only at hn hs mnw ⊢
    have k2 : Keep h' h₀ := fun b o e => hs.extBut b o (Nat.ne_of_lt (Heap.lt_size e)) (Heap.get?_push_of_some _ e)
    have hL : h'.get? h'.objs.size = none := Heap.get?_none_of_le (Nat.le_refl _)
    refine ⟨(W.lim.keeps hk).keeps k2, codeAny_func (wpAny_mono (h b (newEnv (fScope (stmtAt i)) h'.objs.size mainGlobals [] _ (some a) cd none builtinsNs) h'.objs.size _ _ ⟨rfl, rfl, rfl, rfl, rfl, hkf⟩ (R.deeper _) ?_ ?_ ⟨⟨_, _, rfl⟩, ⟨_, hn, fun n v e => by rw [← hml b] at e; exact e⟩, Keep.trans hk k2, fun p hp => ⟨k2 _ _ (mnw p hp).1, fun e => ?_, (mnw p hp).2⟩, mnd⟩) (fun f s' q => ?_) fun _ _ q => q.elim)⟩
    · show ((fScope (stmtAt i)).kind == .module && _) = false
      rw [hkf]; rfl
    · cases q : s.heap.get? h'.objs.size with
      | none => rfl
      | some o' => rw [hk _ _ q] at hL; cases hL
    · have := (mnw p hp).1
      rw [e, hL] at this; cases this
    · cases f <;> exact q
end Mine
end

section
open PySem PySem.W PyProof.Rows PySem.Calls
open Builtin Builtin.Str
set_option maxRecDepth 100000
namespace Mine
/-- texts with tokens -/
noncomputable def Txs (vs : List Value) (ps : List (List Nat)) : Prop := vs.length = ps.length ∧ ∀ (i : Nat) (v : Value), vs[i]? = some v → ∃ p t, ps[i]? = some p ∧ v = Value.str (S p) t
theorem Txs.nil : Txs [] [] := ⟨rfl, fun _ _ h => by simp at h⟩
theorem Txs.cons {vs : List Value} {ps : List (List Nat)} {p : List Nat} {t : Tok} (h : Txs vs ps) : Txs (.str (S p) t :: vs) (p :: ps) :=
  ⟨by simp [h.1], fun i v hv => by
    cases i with
    | zero => simp at hv; exact ⟨p, t, rfl, hv.symm⟩
    | succ i => simp only [List.getElem?_cons_succ] at hv ⊢; exact h.2 i v hv⟩
theorem Txs.uncons {v : Value} {vs : List Value} {p : List Nat} {ps : List (List Nat)} (h : Txs (v :: vs) (p :: ps)) : (∃ t, v = .str (S p) t) ∧ Txs vs ps := by
  refine ⟨?_, by have := h.1; simpa using this, fun i v hv => ?_⟩
  · obtain ⟨q, t, e, rfl⟩ := h.2 0 v rfl
    simp only [List.getElem?_cons_zero, Option.some.injEq] at e
    subst e; exact ⟨t, rfl⟩
  · have := h.2 (i + 1) v (by simpa using hv)
    simpa using this
theorem Txs.snoc {vs : List Value} {ps : List (List Nat)} {p : List Nat} {t : Tok} (h : Txs vs ps) : Txs (vs ++ [.str (S p) t]) (ps ++ [p]) := by
  refine ⟨by simp [h.1], fun i v hv => ?_⟩
  rcases Nat.lt_trichotomy i vs.length with q | q | q
  · rw [List.getElem?_append_left q] at hv
    rw [List.getElem?_append_left (by rw [← h.1]; exact q)]
    exact h.2 i v hv
  · subst q
    simp at hv
    exact ⟨p, t, by rw [h.1]; simp, hv.symm⟩
  · rw [List.getElem?_eq_none (by simp; omega)] at hv; cases hv
theorem Txs.of_pairs : ∀ (l : List (Str × Tok)) {ps : List (List Nat)}, l.map (·.1) = ps.map S → Txs (strValues l) ps
  | [], [], _ => Txs.nil
  | [], _ :: _, h => by simp at h
  | _ :: _, [], h => by simp at h
  | (y, t) :: r, p :: ps, h => by
    simp only [List.map_cons, List.cons.injEq] at h
    obtain ⟨rfl, h⟩ := h
    exact (Txs.of_pairs r h).cons
theorem Txs.are : ∀ {vs : List Value} {ps : List (List Nat)}, Txs vs ps → StrsAre vs (ps.map S)
  | [], [], _ => .nil
  | [], _ :: _, h => by have := h.1; simp at this
  | _ :: _, [], h => by have := h.1; simp at this
  | v :: vs, p :: ps, h => by
    obtain ⟨⟨t, rfl⟩, r⟩ := h.uncons
    exact .cons _ _ r.are
theorem Txs.get {vs : List Value} {ps : List (List Nat)} (h : Txs vs ps) {i : Nat} {p : List Nat} (hp : ps[i]? = some p) : ∃ t, vs[i]? = some (.str (S p) t) := by
  have hi : i < ps.length := by
    rcases Nat.lt_or_ge i ps.length with q | q
    · exact q
    · rw [List.getElem?_eq_none q] at hp; cases hp
  have : ∃ v, vs[i]? = some v := ⟨_, List.getElem?_eq_getElem (by rw [h.1]; exact hi)⟩
  obtain ⟨v, hv⟩ := this
  obtain ⟨q, t, e, rfl⟩ := h.2 i v hv
  rw [hp] at e; cases e
  exact ⟨t, hv⟩

section
variable {w : World} {A : Around} {E : Value → Shared → Prop} {s₀ s : Shared} {env : Env} {L : Addr} {l : List (Str × Value)} {nw nw' : List (Addr × Obj)} {pos np apos : Pos} {Q : Value → Shared → Prop} {a b : List Nat} {t u : Tok} {i j : Int} {k : Nat}
theorem vSplit {c : Nat} {ps : List (List Nat)} (hne : ps ≠ []) (hf : ∀ p ∈ ps, c ∉ p) (hz : (jn c ps).length ≤ 1000) (x : In s₀ L l nw s)
    (h : ∀ D vs s', Txs vs ps → In s₀ L l ((D, lstO vs 0) :: nw) s' → Q (.ref D) s') : wpAny (model PW w) A (call (.builtin "str.split") [.str (S (jn c ps)) t, .str (S [c]) u]) Q E s := by
  have hs := split_S hne hf
  have hsz : (S (jn c ps)).length ≤ sizeLine := by rw [S_len, sizeLine_eq]; omega
  have hsz2 : (partsBetween (S (jn c ps)) (occurrences (S (jn c ps)) (S [c]) 0 (S (jn c ps)).length ((S (jn c ps)).length + 1)) (S [c]).length).length ≤ sizeLine := by
    unfold partsBetween
    have := StrLaws.occ_length_le (S (jn c ps)) (S [c]) 0 (S (jn c ps)).length ((S (jn c ps)).length + 1)
    simp only [List.length_map, List.length_zip, List.length_cons, List.length_append, List.length_nil]
    rw [S_len] at this ⊢
    rw [sizeLine_eq]; omega
  have fin : ∀ (l' : List (Str × Tok)) (k : Nat), l'.map (·.1) = Txt.split (S (jn c ps)) (S [c]) →
      Q (.ref s.heap.objs.size) { s with heap := s.heap.push { cls := .type "list", data := .seq (strValues l').toArray }, toks := k } := fun l' k e =>
    h _ (strValues l') _ (Txs.of_pairs l' (e.trans hs)) ((x.pushN _ rfl).tok k)
  generalize S (jn c ps) = X at *
  generalize hY : S [c] = Y at *
  have hy : (Y.length == 0) = false := by subst hY; rfl
  cases h1 : (decide (X.length < Y.length) || decide (strKind X < strKind Y))
  · cases hf : (occurrences X Y 0 X.length (X.length + 1)).isEmpty
    · refine call_meets PySem.F.slot_str_split (typeIs_str _ _ _) PySem.F.entry_str_split (PySem.F.args_str_split_2 _ _) (meets_str_split_sep X Y t u h1 hy hf hsz hsz2) ?_
      show wants Q E _ { s with toks := _, heap := s.heap.push { cls := .type "list", data := .seq (strsFrom s.toks (partsBetween X (occurrences X Y 0 X.length (X.length + 1)) Y.length)).toArray } }
      rw [strsFrom_eq]
      exact fin _ _ ((numbered_texts _ _).trans ((if_neg (by rw [h1]; decide)).trans (if_neg (by rw [hf]; decide))).symm)
    · exact call_meets PySem.F.slot_str_split (typeIs_str _ _ _) PySem.F.entry_str_split (PySem.F.args_str_split_2 _ _) (meets_str_split_not_found X Y t u h1 hy hf)
        (fin [(X, t)] s.toks ((if_neg (by rw [h1]; decide)).trans (if_pos hf)).symm)
  · exact call_meets PySem.F.slot_str_split (typeIs_str _ _ _) PySem.F.entry_str_split (PySem.F.args_str_split_2 _ _) (meets_str_split_cannot_occur X Y t u h1)
      (fin [(X, t)] s.toks (if_pos h1).symm)
theorem vJoin {c : Nat} {ps : List (List Nat)} {vs : List Value} {D : Addr} (hl : s.heap.IsList D vs.toArray) (hv : Txs vs ps) (hz : (ps.map (·.length)).sum + ps.length ≤ 10000) (x : In s₀ L l nw s)
    (h : ∀ t' s', In s₀ L l nw s' → Q (.str (S (jn c ps)) t') s') : wpAny (model PW w) A (call (.builtin "str.join") [.str (S [c]) t, .ref D]) Q E s := by
  refine PyProof.Rows.join_list (ys := ps.map S) hl (by rw [List.toList_toArray]; exact hv.are) ?_ fun t' k => ?_
  · have e1 : ((ps.map S).map (·.length)) = ps.map (·.length) := by rw [List.map_map]; exact List.map_congr_left fun p _ => S_len p
    rw [e1, S_len, List.length_map, List.length_singleton]; omega
  · rw [txt_join_S]; exact h _ _ (x.tok _)
/-- x.append(v) -/
theorem vApp {D : Addr} {vs : List Value} {n : Nat} {v : Value} {f : Obj → List (Addr × Obj)} (x : In s₀ L l nw s) (hu : ∀ o', UpdO D (lstO vs n) o' nw (f o')) (hz : vs.length ≤ 100000)
    (h : ∀ m s', In s₀ L l (f (lstO (vs ++ [v]) m)) s' → Q .none s') : wpAny (model PW w) A (call (.builtin "list.append") [.ref D, v]) Q E s := by
  obtain ⟨pre, post, e1, _⟩ := (hu (lstO [] 0)).split
  have ho := (x.nw (D, lstO vs n) (by rw [e1]; simp)).1
  refine wpAny_list_append_plain (l := D) (items := vs.toArray) ⟨n, ho⟩ (fun h' hp hs => ?_) (by rw [sizeLine_eq]; simp; omega)
  obtain ⟨m, hp⟩ := hp
  have e2 : vs.toArray.push v = (vs ++ [v]).toArray := by simp
  rw [e2] at hp
  exact h m _ (x.turn (tk := s.toks) (hu _) hs.extBut hp)
theorem vLenL {D : Addr} {vs : List Value} (hl : s.heap.IsList D vs.toArray) (hz : vs.length ≤ 100000) (x : In s₀ L l nw s) (h : ∀ t s', In s₀ L l nw s' → Q (.int (vs.length : Int) t) s') : wpAny (model PW w) A (call (.builtin "len") [.ref D]) Q E s :=
  call_len_list hl (by simp; omega) (by simpa using h _ _ (x.tok _))
theorem moL1 {name : Str} {id : String} {D : Addr} {a1 : PySem.Expr} {args : List PySem.Expr} (slot : Slot "list" name id) (ty : typeOf (.builtin id) = pure (.type "method_descriptor"))
    (ho : ∃ o, s.heap.get? D = some o ∧ o.cls = .type "list" ∧ o.dict = none)
    (hp : backTo pos (starEach (a1 :: args) env) = (false, eval a1 env) :: backTo pos (starEach args env)) (hs : (backTo pos (starEach (a1 :: args) env)).any (·.1) = false)
    (h : wpAny (model PW w) A (spliced (backTo pos (starEach (a1 :: args) env))) (fun vs s₁ => wpAny (model PW w) A (call (.builtin id) (.ref D :: vs)) Q E s₁) E s) :
    MethodOn PW w A name pos (.ref D) (backTo pos (starEach (a1 :: args) env)) Q E s := by
  obtain ⟨o, h1, h2, h3⟩ := ho
  exact ⟨"list", id, PySem.F.plainAttrs_list, slot, ty, ⟨o, h1, h2⟩, fun a e => by cases e; exact ⟨o, h1, h3⟩, callWith_builtin hs (by rw [hp] at h ⊢; exact evalArgs_plain h)⟩
theorem In.ho (x : In s₀ L l nw s) {D : Addr} {vs : List Value} {n : Nat} (hm : (D, lstO vs n) ∈ nw) : ∃ o, s.heap.get? D = some o ∧ o.cls = .type "list" ∧ o.dict = none := ⟨_, (x.nw _ hm).1, rfl, rfl⟩
theorem mo_append {D : Addr} {a1 : PySem.Expr} (ho : ∃ o, s.heap.get? D = some o ∧ o.cls = .type "list" ∧ o.dict = none)
    (hp : backTo pos (starEach [a1] env) = (false, eval a1 env) :: backTo pos (starEach [] env)) (hs : (backTo pos (starEach [a1] env)).any (·.1) = false)
    (h : wpAny (model PW w) A (spliced (backTo pos (starEach [a1] env))) (fun vs s₁ => wpAny (model PW w) A (call (.builtin "list.append") (.ref D :: vs)) Q E s₁) E s) :
    MethodOn PW w A (PySem.Str.ofString "append") pos (.ref D) (backTo pos (starEach [a1] env)) Q E s := moL1 PySem.slot_list_append PySem.type_list_append ho hp hs h
theorem mo_index {D : Addr} {a1 : PySem.Expr} (ho : ∃ o, s.heap.get? D = some o ∧ o.cls = .type "list" ∧ o.dict = none)
    (hp : backTo pos (starEach [a1] env) = (false, eval a1 env) :: backTo pos (starEach [] env)) (hs : (backTo pos (starEach [a1] env)).any (·.1) = false)
    (h : wpAny (model PW w) A (spliced (backTo pos (starEach [a1] env))) (fun vs s₁ => wpAny (model PW w) A (call (.builtin "list.index") (.ref D :: vs)) Q E s₁) E s) :
    MethodOn PW w A (PySem.Str.ofString "index") pos (.ref D) (backTo pos (starEach [a1] env)) Q E s := moL1 PySem.F.slot_list_index PySem.F.type_list_index ho hp hs h
end
end Mine
end

section
open PySem PySem.W PyProof.Rows PySem.Calls
set_option maxRecDepth 100000
namespace Mine
section
variable {w : World} {A : Around} {E : Value → Shared → Prop} {s₀ s : Shared} {env : Env} {L : Addr} {l : List (Str × Value)} {nw nw' : List (Addr × Obj)} {pos np apos : Pos} {Q : Value → Shared → Prop} {a b : List Nat} {t u : Tok} {i j : Int} {k : Nat}
theorem vApp2 {D : Addr} {vs : List Value} {n : Nat} {v : Value} (x : In s₀ L l nw s) (hm : (D, lstO vs n) ∈ nw) (hz : vs.length ≤ 100000)
    (h : ∀ m, ∃ nw', UpdO D (lstO vs n) (lstO (vs ++ [v]) m) nw nw' ∧ ∀ s', In s₀ L l nw' s' → Q .none s') : wpAny (model PW w) A (call (.builtin "list.append") [.ref D, v]) Q E s := by
  have ho := (x.nw _ hm).1
  refine wpAny_list_append_plain (l := D) (items := vs.toArray) ⟨n, ho⟩ (fun h' hp hs => ?_) (by rw [sizeLine_eq]; simp; omega)
  obtain ⟨m, hp⟩ := hp
  have e2 : vs.toArray.push v = (vs ++ [v]).toArray := by simp
  rw [e2] at hp
  obtain ⟨nw', hu, h⟩ := h m
  exact h _ (x.turn (tk := s.toks) hu hs.extBut hp)
end
noncomputable def wt (ps : List (List Nat)) : Nat := (ps.map fun p => p.length + 1).sum
theorem jn_len (c : Nat) : ∀ ps : List (List Nat), ps ≠ [] → (jn c ps).length + 1 = (ps.map (·.length)).sum + ps.length
  | [], h => absurd rfl h
  | [x], _ => by simp [jn]
  | x :: y :: r, _ => by
    have ih := jn_len c (y :: r) (by simp)
    simp only [jn, List.length_append, List.length_cons, List.map_cons, List.sum_cons] at ih ⊢
    omega
theorem jn_sum (c : Nat) (ps : List (List Nat)) : (ps.map (·.length)).sum + ps.length ≤ (jn c ps).length + 1 := by
  cases ps with
  | nil => simp
  | cons p r => rw [jn_len c (p :: r) (by simp)]; exact Nat.le_refl _
theorem jn_sum2 (c : Nat) (ps : List (List Nat)) : (jn c ps).length ≤ (ps.map (·.length)).sum + ps.length := by
  cases ps with
  | nil => simp [jn]
  | cons p r => have := jn_len c (p :: r) (by simp); omega
theorem jn_head {c : Nat} {ps : List (List Nat)} (h : ps ≠ []) (hh : ps.head? ≠ some []) : ∃ p r a q, ps = (a :: p) :: r ∧ jn c ps = a :: q := by
  match ps, h, hh with
  | (a :: p) :: [], _, _ => exact ⟨p, [], a, p, rfl, rfl⟩
  | (a :: p) :: y :: r, _, _ => exact ⟨p, y :: r, a, p ++ c :: jn c (y :: r), rfl, rfl⟩
  | [] :: _, _, hh => exact absurd rfl hh
theorem jn_mem (c : Nat) {ps : List (List Nat)} {p : List Nat} (h : p ∈ ps) : p.length ≤ (jn c ps).length := by
  have h1 := jn_sum c ps
  have : ∀ ps : List (List Nat), p ∈ ps → p.length + 1 ≤ (ps.map (·.length)).sum + ps.length := fun ps => by
    induction ps with
    | nil => intro h; cases h
    | cons x r ih =>
      intro h
      simp only [List.map_cons, List.sum_cons, List.length_cons]
      rcases List.mem_cons.mp h with rfl | h
      · omega
      · have := ih h; omega
  have := this ps h
  omega
theorem filt_sum (f : List Nat → Bool) (ps : List (List Nat)) : ((ps.filter f).map (·.length)).sum + (ps.filter f).length ≤ (ps.map (·.length)).sum + ps.length := by
  induction ps with
  | nil => simp
  | cons p r ih =>
    rw [List.filter_cons]
    split <;> simp only [List.map_cons, List.sum_cons, List.length_cons] <;> omega
end Mine
end

section
open PySem PySem.W PyProof.Rows PySem.Calls
set_option maxRecDepth 100000
namespace Mine
theorem isl {h : Heap} {D : Addr} {vs : List Value} {n : Nat} (x : h.get? D = some (lstO vs n)) : h.IsList D vs.toArray := ⟨_, x, rfl, _, rfl⟩
theorem ist {h : Heap} {D : Addr} {vs : List Value} (x : h.get? D = some (tupO vs)) : h.IsTuple D vs.toArray := ⟨_, x, rfl, _, rfl⟩
theorem lho {h : Heap} {D : Addr} {vs : List Value} {n : Nat} (x : h.get? D = some (lstO vs n)) : ∃ o, h.get? D = some o ∧ o.cls = .type "list" ∧ o.dict = none := ⟨_, x, rfl, rfl⟩
/-- texts: drop, take, append -/
theorem Txs.drop {vs : List Value} {ps : List (List Nat)} (h : Txs vs ps) (k : Nat) : Txs (vs.drop k) (ps.drop k) :=
  ⟨by simp [h.1], fun i v hv => by rw [List.getElem?_drop] at hv ⊢; exact h.2 _ v hv⟩
theorem Txs.take {vs : List Value} {ps : List (List Nat)} (h : Txs vs ps) (k : Nat) : Txs (vs.take k) (ps.take k) :=
  ⟨by simp [h.1], fun i v hv => by
    rw [List.getElem?_take] at hv ⊢
    split at hv
    · rw [if_pos ‹_›]; exact h.2 _ v hv
    · cases hv⟩
theorem Txs.append {vs ws : List Value} {ps qs : List (List Nat)} (h : Txs vs ps) (k : Txs ws qs) : Txs (vs ++ ws) (ps ++ qs) :=
  ⟨by simp [h.1, k.1], fun i v hv => by
    rcases Nat.lt_or_ge i vs.length with q | q
    · rw [List.getElem?_append_left q] at hv; rw [List.getElem?_append_left (by rw [← h.1]; exact q)]; exact h.2 _ v hv
    · rw [List.getElem?_append_right q] at hv; rw [List.getElem?_append_right (by rw [← h.1]; exact q), ← h.1]; exact k.2 _ v hv⟩
theorem Txs.dropLast {vs : List Value} {ps : List (List Nat)} (h : Txs vs ps) : Txs vs.dropLast ps.dropLast := by
  rw [List.dropLast_eq_take, List.dropLast_eq_take, h.1]; exact h.take _
/-- values that Python holds for the same -/
noncomputable def Tw (vs ws : List Value) : Prop := vs.length = ws.length ∧ ∀ (i : Nat) (v w : Value), vs[i]? = some v → ws[i]? = some w → (∃ x t u, v = Value.str x t ∧ w = Value.str x u) ∨ (∃ k t u, v = Value.int k t ∧ w = Value.int k u)
theorem Txs.tw {vs ws : List Value} {ps : List (List Nat)} (h : Txs vs ps) (k : Txs ws ps) : Tw vs ws := by
  refine ⟨h.1.trans k.1.symm, fun i v w hv hw => ?_⟩
  obtain ⟨p, t, e, rfl⟩ := h.2 i v hv
  obtain ⟨q, u, e', rfl⟩ := k.2 i w hw
  rw [e] at e'; cases e'
  exact .inl ⟨_, _, _, rfl, rfl⟩
theorem Ints.get {vs : List Value} {ns : List Int} (h : IntsAre vs ns) {i : Nat} {v : Value} (hv : vs[i]? = some v) : ∃ k t, ns[i]? = some k ∧ v = Value.int k t := by
  induction h generalizing i with
  | nil => simp at hv
  | cons n t r ih => cases i with
    | zero => simp at hv; exact ⟨n, t, rfl, hv.symm⟩
    | succ i => simp only [List.getElem?_cons_succ] at hv ⊢; exact ih hv
theorem Ints.tw {vs ws : List Value} {ns : List Int} (h : IntsAre vs ns) (k : IntsAre ws ns) : Tw vs ws := by
  refine ⟨h.length.trans k.length.symm, fun i v w hv hw => ?_⟩
  obtain ⟨p, t, e, rfl⟩ := Ints.get h hv
  obtain ⟨q, u, e', rfl⟩ := Ints.get k hw
  rw [e] at e'; cases e'
  exact .inr ⟨_, _, _, rfl, rfl⟩
theorem Tw.eqAt {vs ws : List Value} (h : Tw vs ws) (A : Around) (s : Shared) : ∀ j (h1 : j < vs.toArray.size) (h2 : j < ws.toArray.size), SeqAt.EqAt A s vs.toArray[j] ws.toArray[j] ((fun _ => true) j) := fun j h1 h2 => by
  have := h.2 j (vs.toArray[j]) (ws.toArray[j]) (by simp at h1 ⊢) (by simp at h2 ⊢)
  rcases this with ⟨x, t, u, e1, e2⟩ | ⟨k, t, u, e1, e2⟩
  · rw [e1, e2]; have := SeqAt.EqAt.str_str (A := A) (s := s) x t x u; rw [beq_self_eq_true] at this; exact this
  · rw [e1, e2]; have := SeqAt.EqAt.int_int (A := A) (s := s) k t k u; rw [beq_self_eq_true] at this; exact this
section
variable {w : World} {A : Around} {E : Value → Shared → Prop} {s₀ s : Shared} {env : Env} {L : Addr} {l : List (Str × Value)} {nw nw' : List (Addr × Obj)} {pos np apos : Pos} {Q : Value → Shared → Prop} {a b : List Nat} {t u : Tok} {i j : Int} {k : Nat} {value slice : PySem.Expr}
theorem In.get0 (x : In s₀ L l nw s) {D : Addr} {o : Obj} (h : s₀.heap.get? D = some o) : s.heap.get? D = some o := x.keep _ _ h
theorem In.get1 (x : In s₀ L l nw s) {D : Addr} {o : Obj} (h : (D, o) ∈ nw) : s.heap.get? D = some o := (x.nw _ h).1
theorem vEqLL {D F : Addr} {vs ws : List Value} {n m : Nat} (h1 : s.heap.get? D = some (lstO vs n)) (h2 : s.heap.get? F = some (lstO ws m)) (ht : Tw vs ws) (hu : A.units < cLine) (h : Q (.bool true) s) :
    wpAny (model PW w) A (compareOp .Eq (.ref D) (.ref F)) Q E s :=
  SeqAt.eq_listAt (e := fun _ => true) (isl h1) (isl h2) (by simpa using ht.1) hu (ht.eqAt _ _) (by rw [List.all_eq_true.mpr (fun _ _ => rfl)]; exact h)
theorem vNeLL {D F : Addr} {vs ws : List Value} {n m : Nat} (h1 : s.heap.get? D = some (lstO vs n)) (h2 : s.heap.get? F = some (lstO ws m)) (ht : Tw vs ws) (hu : A.units < cLine) (h : Q (.bool false) s) :
    wpAny (model PW w) A (compareOp .NotEq (.ref D) (.ref F)) Q E s :=
  SeqAt.RcNeAt.lists (e := fun _ => true) (isl h1) (isl h2) (by simpa using ht.1) hu (ht.eqAt _ _) PW w E Q (by rw [List.all_eq_true.mpr (fun _ _ => rfl)]; exact h)
theorem vNeTT {D F : Addr} {vs ws : List Value} (h1 : s.heap.get? D = some (tupO vs)) (h2 : s.heap.get? F = some (tupO ws)) (ht : Tw vs ws) (hu : A.units < cLine) (h : Q (.bool false) s) :
    wpAny (model PW w) A (compareOp .NotEq (.ref D) (.ref F)) Q E s :=
  SeqAt.RcNeAt.tuples (e := fun _ => true) (ist h1) (ist h2) hu (ht.eqAt _ _) PW w E Q (by
    have hsz : vs.toArray.size = ws.toArray.size := by simpa using ht.1
    rw [List.all_eq_true.mpr (fun _ _ => rfl), hsz, beq_self_eq_true]; exact h)
theorem vAddL {D F : Addr} {vs ws : List Value} {n m : Nat} (h1 : s.heap.get? D = some (lstO vs n)) (h2 : s.heap.get? F = some (lstO ws m)) (hz : vs.length + ws.length ≤ 100000) (x : In s₀ L l nw s)
    (h : ∀ a s', In s₀ L l ((a, lstO (vs ++ ws) 0) :: nw) s' → Q (.ref a) s') : wpAny (model PW w) A (binaryOp .Add (.ref D) (.ref F)) Q E s :=
  P.add_list h1 h2 (by
    have e : vs.toArray ++ ws.toArray = (vs ++ ws).toArray := by simp
    rw [e]; exact h _ _ (x.pushN _ rfl)) (by rw [sizeLine_eq]; simp; omega)
theorem vTruL {Q : Bool → Shared → Prop} {D : Addr} {vs : List Value} {n : Nat} (h1 : s.heap.get? D = some (lstO vs n)) (hz : vs.length ≤ 100000) (x : In s₀ L l nw s) (h : ∀ s', In s₀ L l nw s' → Q (!vs.isEmpty) s') :
    wpAny (model PW w) A (truthy (.ref D)) Q E s := wpAny_truthy_list (isl h1) (by simp; omega) (by
    have e : vs.toArray.isEmpty = vs.isEmpty := by cases vs <;> rfl
    rw [e]; exact h _ (x.tok _))
theorem vUSub (x : In s₀ L l nw s) (h : ∀ t s', In s₀ L l nw s' → Q (.int (-i) t) s') : wpAny (model PW w) A (unaryOp .USub (.int i t)) Q E s := PyProof.Rows.neg_int (h _ _ (x.tok _))

-- slices of lists
theorem tail_any {o i : Value} {T id : String} {ops : List Value} (hT : s.TypeIs o T)
    (hl : typeLookup (.type T) "__getitem__" = pure (some (.builtin id))) (h : wpAny (model PW w) A (getItem o i) Q E s)
    (hs : subscripted slice false o i = operate ops (getItem o i)) : wpAny (model PW w) A (subscriptTail value slice o i) Q E s := by
  unfold subscriptTail
  refine wpAny_bind ?_
  rw [getitemInPython_of_ne hT.not_modules]
  refine wpAny_bind (wpAny_specialOf hT hl ?_)
  have fin : wpAny (model PW w) A (subscripted slice false o i) (fun r s₃ => wpAny (model PW w) A (letTemporaryGo value o r >>= fun _ => pure r) Q E s₃) E s := by
    rw [hs]
    exact wpAny_operating (wpAny_mono h (fun r s₃ h₃ => wpAny_bind (wpAny_letTemporaryGo (wpAny_pure h₃))) fun _ _ x => x)
  first
    | exact wpAny_pure (wpAny_bind fin)
    | exact wpAny_bind (wpAny_pure (wpAny_bind fin))
    | exact wpAny_bind fin
theorem tLs {D : Addr} {vs : List Value} {n : Nat} {vl vu : Value} {lo hi : Option Int} (h1 : s.heap.get? D = some (lstO vs n)) (pl : IsPart vl lo) (pu : IsPart vu hi) (hz : vs.length ≤ 100000) (x : In s₀ L l nw s)
    {ws : List Value} (hw : slicePick vs.toArray lo hi none = ws.toArray) (h : ∀ a s', In s₀ L l ((a, lstO ws 0) :: nw) s' → Q (.ref a) s')
    (hs : subscripted slice false (.ref D) (.ref s.heap.objs.size) = operate [.ref s.heap.objs.size, .ref D] (getItem (.ref D) (.ref s.heap.objs.size))) :
    wpAny (model PW w) A (subscriptTail value slice (.ref D) (.ref s.heap.objs.size)) Q E { s with heap := s.heap.push { cls := .type "slice", data := .fields #[vl, vu, .none] } } := by
  refine tail_any (Heap.IsList.typeIs (s := { s with heap := s.heap.push { cls := .type "slice", data := .fields #[vl, vu, .none] } }) ((isl h1).push _)) list_getitem_lookup
    (wpAny_getItem_list_slice ((isl h1).push _) (Heap.IsSliceOf.new ..) pl pu .none (by simp) ?_ (by rw [sizeLine_eq]; simp; omega)) hs
  have y := (x.push { cls := .type "slice", data := .fields #[vl, vu, .none] }).pushN (lstO ws 0) rfl
  rw [hw]
  have e : (s.heap.push { cls := .type "slice", data := .fields #[vl, vu, .none] }).objs.size = s.heap.objs.size + 1 := Heap.size_push ..
  try rw [← e]
  exact h _ _ y
theorem tLsFrom {D : Addr} {vs : List Value} {n : Nat} (h1 : s.heap.get? D = some (lstO vs n)) (h0 : 0 ≤ i) (hz : vs.length ≤ 100000) (x : In s₀ L l nw s) (h : ∀ a s', In s₀ L l ((a, lstO (vs.drop i.toNat) 0) :: nw) s' → Q (.ref a) s')
    (hs : subscripted slice false (.ref D) (.ref s.heap.objs.size) = operate [.ref s.heap.objs.size, .ref D] (getItem (.ref D) (.ref s.heap.objs.size))) :
    wpAny (model PW w) A (subscriptTail value slice (.ref D) (.ref s.heap.objs.size)) Q E { s with heap := s.heap.push { cls := .type "slice", data := .fields #[.int i t, .none, .none] } } :=
  tLs h1 (.int i t) .none hz x (by
    obtain ⟨a, rfl⟩ := Int.eq_ofNat_of_zero_le h0
    exact slicePick_from' vs.toArray a) h hs
theorem tLsTo {D : Addr} {vs : List Value} {n : Nat} (h1 : s.heap.get? D = some (lstO vs n)) (h0 : 0 ≤ j) (hz : vs.length ≤ 100000) (x : In s₀ L l nw s) (h : ∀ a s', In s₀ L l ((a, lstO (vs.take j.toNat) 0) :: nw) s' → Q (.ref a) s')
    (hs : subscripted slice false (.ref D) (.ref s.heap.objs.size) = operate [.ref s.heap.objs.size, .ref D] (getItem (.ref D) (.ref s.heap.objs.size))) :
    wpAny (model PW w) A (subscriptTail value slice (.ref D) (.ref s.heap.objs.size)) Q E { s with heap := s.heap.push { cls := .type "slice", data := .fields #[.none, .int j t, .none] } } :=
  tLs h1 .none (.int j t) hz x (by
    obtain ⟨a, rfl⟩ := Int.eq_ofNat_of_zero_le h0
    exact slicePick_upto' vs.toArray a) h hs
theorem pick_mid (vs : List Value) {i j : Int} (h0 : 0 ≤ i) (h2 : 0 ≤ j) : slicePick vs.toArray (some i) (some j) none = ((vs.drop i.toNat).take (j.toNat - i.toNat)).toArray := by
  obtain ⟨a, rfl⟩ := Int.eq_ofNat_of_zero_le h0
  obtain ⟨b, rfl⟩ := Int.eq_ofNat_of_zero_le h2
  rw [slicePick_plain]
  simp only [Option.elim, clipAt_nat, Int.toNat_natCast, List.size_toArray]
  congr 1
  rcases Nat.le_total a vs.length with q | q
  · rw [Nat.min_eq_left q]
    rcases Nat.le_total b vs.length with r | r
    · rw [Nat.min_eq_left r]
    · rw [Nat.min_eq_right r, List.take_of_length_le (l := vs.drop a) (i := vs.length - a) (by simp), List.take_of_length_le (l := vs.drop a) (i := b - a) (by simp; omega)]
  · rw [List.drop_of_length_le (l := vs) q, Nat.min_eq_right q, List.drop_of_length_le (l := vs) (Nat.le_refl _)]; simp
theorem tLsMid {D : Addr} {vs : List Value} {n : Nat} (h1 : s.heap.get? D = some (lstO vs n)) (h0 : 0 ≤ i) (h2 : 0 ≤ j) (hz : vs.length ≤ 100000) (x : In s₀ L l nw s) (h : ∀ a s', In s₀ L l ((a, lstO ((vs.drop i.toNat).take (j.toNat - i.toNat)) 0) :: nw) s' → Q (.ref a) s')
    (hs : subscripted slice false (.ref D) (.ref s.heap.objs.size) = operate [.ref s.heap.objs.size, .ref D] (getItem (.ref D) (.ref s.heap.objs.size))) :
    wpAny (model PW w) A (subscriptTail value slice (.ref D) (.ref s.heap.objs.size)) Q E { s with heap := s.heap.push { cls := .type "slice", data := .fields #[.int i t, .int j u, .none] } } :=
  tLs h1 (.int i t) (.int j u) hz x (pick_mid vs h0 h2) h hs
theorem tLsBut1 {D : Addr} {vs : List Value} {n : Nat} (h1 : s.heap.get? D = some (lstO vs n)) (hz : vs.length ≤ 100000) (x : In s₀ L l nw s) (h : ∀ a s', In s₀ L l ((a, lstO vs.dropLast 0) :: nw) s' → Q (.ref a) s')
    (hs : subscripted slice false (.ref D) (.ref s.heap.objs.size) = operate [.ref s.heap.objs.size, .ref D] (getItem (.ref D) (.ref s.heap.objs.size))) :
    wpAny (model PW w) A (subscriptTail value slice (.ref D) (.ref s.heap.objs.size)) Q E { s with heap := s.heap.push { cls := .type "slice", data := .fields #[.none, .int (-1) t, .none] } } :=
  tLs h1 .none (.int (-1) t) hz x (by
    have := slicePick_butLast vs.toArray 1 (Nat.le_refl _)
    rw [show ((-1 : Int)) = -((1 : Nat) : Int) from rfl, this, List.dropLast_eq_take]; simp) h hs
-- items of lists
theorem tIx {D : Addr} {vs : List Value} {n : Nat} {v : Value} (h1 : s.heap.get? D = some (lstO vs n)) (h0 : 0 ≤ i) (hz : vs.length ≤ 100000) (hv : vs[i.toNat]? = some v) (h : Q v s)
    (hs : subscripted slice false (.ref D) (.int i t) = operate [.ref D, .int i t] (getItem (.ref D) (.int i t))) :
    wpAny (model PW w) A (subscriptTail value slice (.ref D) (.int i t)) Q E s := by
  refine subscriptTail_builtinR (x := v) (isl h1).typeIs slot_list_getitem.lookup (wpAny_getItem_list (Q := fun r s' => r = v ∧ Q r s') (isl h1) h0 ?_ (by simpa using hv) ⟨rfl, h⟩) hs
  have : i.toNat < vs.length := by
    rcases Nat.lt_or_ge i.toNat vs.length with q | q
    · exact q
    · rw [List.getElem?_eq_none q] at hv; cases hv
  omega
theorem tIxLast {D : Addr} {vs : List Value} {n : Nat} {v : Value} (h1 : s.heap.get? D = some (lstO vs n)) (hz : vs.length ≤ 100000) (hv : vs[vs.length - 1]? = some v) (h : Q v s)
    (hs : subscripted slice false (.ref D) (.int (-1) t) = operate [.ref D, .int (-1) t] (getItem (.ref D) (.int (-1) t))) :
    wpAny (model PW w) A (subscriptTail value slice (.ref D) (.int (-1) t)) Q E s := by
  have hl : 1 ≤ vs.length := by
    rcases Nat.lt_or_ge (vs.length - 1) vs.length with q | q
    · omega
    · rw [List.getElem?_eq_none q] at hv; cases hv
  refine subscriptTail_builtinR (x := v) (isl h1).typeIs slot_list_getitem.lookup (wpAny_getItem_list_neg (Q := fun r s' => r = v ∧ Q r s') (isl h1) (by decide) (by simp; omega) (by decide) ?_ ⟨rfl, h⟩) hs
  have e : ((-1 : Int) + (vs.toArray.size : Int)).toNat = vs.length - 1 := by simp; omega
  rw [e]; simpa using hv
theorem vIsNone {D : Addr} (h : Q (.bool false) s) : wpAny (model PW w) A (compareOp .Is (.ref D) .none) Q E s := wpAny_is_other rfl (fun q => by cases q) h
theorem vIsNotNone {D : Addr} (h : Q (.bool true) s) : wpAny (model PW w) A (compareOp .IsNot (.ref D) .none) Q E s := wpAny_isNot_other rfl (fun q => by cases q) h
theorem vRange {n : Int} (x : In s₀ L l nw s) (h : ∀ a t u v s', In s₀ L l ((a, rngO n t u v) :: nw) s' → Q (.ref a) s') : wpAny (model PW w) A (call (.type "range") [.int n t]) Q E s :=
  call_range_1 (h _ _ _ _ _ ((x.pushN _ rfl).tok _))
end
end Mine
namespace Mine
section
variable {M : Model} {A : Around} {E : Value → Shared → Prop} {s : Shared} {env : Env}
theorem gRef {a : Addr} {args : List Value} {kw : List (Str × Value)} {Q : Value → Shared → Prop} (h : wpAny M A (call (.ref a) args kw) Q E s) : wpAny M A (call (.ref a) args kw) Q E s := h
theorem gBui {a : String} {args : List Value} {kw : List (Str × Value)} {Q : Value → Shared → Prop} (h : wpAny M A (call (.builtin a) args kw) Q E s) : wpAny M A (call (.builtin a) args kw) Q E s := h
theorem gTyp {a : String} {args : List Value} {kw : List (Str × Value)} {Q : Value → Shared → Prop} (h : wpAny M A (call (.type a) args kw) Q E s) : wpAny M A (call (.type a) args kw) Q E s := h
theorem gEvN {n : Str} {p : Pos} {Q : Value → Shared → Prop} (h : wpAny M A (eval (.Name n p) env) Q E s) : wpAny M A (eval (.Name n p) env) Q E s := h
theorem gEvC {f : PySem.Expr} {as : List PySem.Expr} {ks : List Keyword} {p : Pos} {Q : Value → Shared → Prop} (h : wpAny M A (eval (.Call f as ks p) env) Q E s) : wpAny M A (eval (.Call f as ks p) env) Q E s := h
theorem gEv {e : PySem.Expr} {Q : Value → Shared → Prop} (h : wpAny M A (eval e env) Q E s) : wpAny M A (eval e env) Q E s := h
theorem gX {l : List Stmt} {Q : Flow → Shared → Prop} (h : wpAny M A (execs l env) Q E s) : wpAny M A (execs l env) Q E s := h
theorem gT {e : PySem.Expr} {wh : Sem Value} {Q : Bool → Shared → Prop} (h : wpAny M A (PySem.isTrue e env wh) Q E s) : wpAny M A (PySem.isTrue e env wh) Q E s := h
theorem gBin {op : Operator} {a b : Value} {Q : Value → Shared → Prop} (h : wpAny M A (binaryOp op a b) Q E s) : wpAny M A (binaryOp op a b) Q E s := h
theorem gCmp {op : CmpOp} {a b : Value} {Q : Value → Shared → Prop} (h : wpAny M A (compareOp op a b) Q E s) : wpAny M A (compareOp op a b) Q E s := h
theorem gTail {e f : PySem.Expr} {a b : Value} {Q : Value → Shared → Prop} (h : wpAny M A (subscriptTail e f a b) Q E s) : wpAny M A (subscriptTail e f a b) Q E s := h
theorem gW {α : Type} {m : Sem α} {Q : α → Shared → Prop} (h : wpAny M A m Q E s) : wpAny M A m Q E s := h
end
end Mine
end

section
open PySem PySem.W PyProof.Rows PySem.Calls
set_option maxRecDepth 100000
namespace Mine
/-- cells -/
noncomputable abbrev cellP (o : Obj) (v : Option Value) : Obj := { cls := o.cls, dict := o.dict, data := .cell v, slots := o.slots }
noncomputable abbrev cell0 : Obj := { cls := .type "cell", data := .cell none }
theorem cellP_of {o : Obj} {v : Option Value} (h : o.data = .cell v) : o = cellP o v := by cases o; cases h; rfl
/-- a scope as the block around it sees it -/
noncomputable def rlb (scope sc : Scope) : Scope :=
  { scope with names := scope.names.map fun (n, k) => if (k == .free && sc.kind == .function && sc.names.lookup n == some .cell) then (n, .cell) else (n, k) }
theorem relabel_rlb {scope : Scope} {env : Env} {sc : Scope} (h : env.scope = sc) : relabel scope env = rlb scope sc := by subst h; rfl
noncomputable def clo (cl : List (Str × Addr)) : List (Str × NameKind) → List (Str × Addr) → Option (List (Str × Addr))
  | [], acc => some acc
  | (n, k) :: r, acc => if k == .free then (match cl.lookup n with | some c => clo cl r ((n, c) :: acc) | none => none) else clo cl r acc
theorem clo_of {cl : List (Str × Addr)} (f : Str × NameKind → List (Str × Addr) → Sem (ForInStep (List (Str × Addr)))) {env : Env} (he : env.cells = cl)
    (hf : ∀ n k cs, f (n, k) cs = if k == .free then (do let c ← cellOf env n; pure (.yield ((n, c) :: cs))) else pure (.yield cs)) :
    ∀ (names : List (Str × NameKind)) (acc cs : List (Str × Addr)), clo cl names acc = some cs → forIn names acc f = pure cs
  | [], acc, cs, h => by cases h; rw [List.forIn_nil]
  | (n, k) :: r, acc, cs, h => by
    rw [List.forIn_cons, hf]
    unfold clo at h
    split at h
    · rename_i hk
      rw [if_pos hk]
      split at h
      · rename_i c hc
        have : cellOf env n = pure c := by unfold cellOf; rw [he, hc]
        rw [this]
        simp only [pure_bind]
        exact clo_of f he hf r _ cs h
      · cases h
    · rename_i hk
      rw [if_neg hk]
      simp only [pure_bind]
      exact clo_of f he hf r _ cs h
theorem closureFor_of {scope : Scope} {env : Env} {cl cs : List (Str × Addr)} (he : env.cells = cl) (h : clo cl scope.names [] = some cs) : closureFor scope env = pure cs := by
  unfold closureFor
  simp only []
  rw [clo_of _ he (fun n k cs => by cases k <;> rfl) scope.names [] cs h]
  rfl
/-- objects pushed for the cells of a block -/
noncomputable def pushK : Nat → Heap → Heap
  | 0, h => h
  | k + 1, h => pushK k (h.push cell0)
noncomputable def cellsN (C : Addr) : Nat → List (Addr × Obj)
  | 0 => []
  | k + 1 => (C + (k + 1), cell0) :: cellsN C k
section
variable {w : World} {A : Around} {E : Value → Shared → Prop} {s₀ s : Shared} {env : Env} {L : Addr} {sc : Scope} {cl : List (Str × Addr)} {l l' : List (Str × Value)} {nw nw' N : List (Addr × Obj)} {σ : Type}
theorem In.pushK (x : In s₀ L l N s) {C : Addr} (hs : s.heap.objs.size = C + 1) : ∀ k, k ≤ 1 → In s₀ L l (cellsN C k ++ N) { s with heap := Mine.pushK k s.heap }
  | 0, _ => x
  | 1, _ => by
    have := x.pushN cell0 rfl
    rw [hs] at this
    exact this
  | _ + 2, h => absurd h (by omega)
theorem In.mores (x : In s₀ L l nw s) (k : Keeps s s') (h : ∀ p ∈ N, s'.heap.get? p.1 = some p.2 ∧ s.heap.get? p.1 = none) (nd : Apart N) : In s₀ L l (N ++ nw) s' := by
  have y := x.step k
  refine ⟨y.same, y.ns, y.keep, fun p hp => ?_, ?_⟩
  · rcases List.mem_append.mp hp with hp | hp
    · refine ⟨(h p hp).1, fun e => ?_, ?_⟩
      · obtain ⟨m, ⟨o', _, _, e', _⟩, _⟩ := x.ns
        have := (h p hp).2
        rw [e] at this; rw [this] at e'; cases e'
      · cases q : s₀.heap.get? p.1 with
        | none => rfl
        | some o' => have := x.keep _ _ q; rw [(h p hp).2] at this; cases this
    · exact y.nw p hp
  · unfold Apart
    rw [List.pairwise_append]
    refine ⟨nd, y.nd, fun p hp q hq e => ?_⟩
    have h1 := (h p hp).2
    have h2 := (x.nw q hq).1
    rw [e, h2] at h1; cases h1
/-- one object of the ledger let go -/
theorem In.dropBut {a : Addr} {o : Obj} (x : In s₀ L l ((a, o) :: nw) s) {h' : Heap} (hs : Heap.SameBut a s.heap h') : In s₀ L l nw { s with heap := h' } := by
  have ha := x.nw (a, o) (.head _)
  have nd := List.pairwise_cons.mp x.nd
  refine ⟨by obtain ⟨h, tk', e⟩ := x.same; exact ⟨h', s.toks, by rw [e]⟩, let ⟨m, nn, hm⟩ := x.ns; ⟨m, nn.extBut hs.extBut (Ne.symm ha.2.1), hm⟩, fun b o e => hs.extBut b o (fun q => ?_) (x.keep b o e), fun p hp => ?_, nd.2⟩
  · subst q; have := ha.2.2; dsimp only at this; rw [this] at e; cases e
  · have := x.nw p (.tail _ hp); exact ⟨hs.extBut _ _ (Ne.symm (nd.1 p hp)) this.1, this.2⟩
theorem wpAny_compEnv {M : Model} {scope : Scope} {globals : Addr} {qual : Str} {Q : Env → Shared → Prop}
    (h : Q { scope, locals := s.heap.objs.size, globals, cells := cellsFrom (s.heap.objs.size + 1) scope.names cl, qual, func := none, code := env.code, frame := env.frame, builtins := env.builtins } { s with heap := pushCells (s.heap.push { cls := .type "dict", data := .dict #[] }) scope.names }) :
    wpAny M A (newFunctionEnv scope globals cl [] qual none .none (some env)) Q E s := by
  simp only [newFunctionEnv, Option.isSome_some, if_true]
  refine wpAny_bind (wpAny_alloc ?_)
  refine wpAny_bind (wpAny_layCells _ (fun name kind cells => by cases hkc : kind == NameKind.cell <;> simp [hkc]) _ _ _ _ ?_)
  rw [show ({ s with heap := s.heap.push { cls := .type "dict", data := .dict #[] } } : Shared).heap.objs.size = s.heap.objs.size + 1 from Heap.size_push ..]
  simp only [List.forIn_nil]
  exact wpAny_bind (wpAny_pure (wpAny_pure h))
end
end Mine
end

section
open PySem PySem.W PyProof.Rows PySem.Calls
set_option maxRecDepth 100000
namespace Mine
section
variable {w : World} {A : Around} {E : Value → Shared → Prop} {s₀ s : Shared} {env : Env} {L : Addr} {sc : Scope} {cl cl0 : List (Str × Addr)} {l l' : List (Str × Value)} {nw nw' N : List (Addr × Obj)} {σ : Type} {pos px py spos : Pos} {x : Str} {elt iter : PySem.Expr} {ifs : List PySem.Expr} {scope : Scope}
noncomputable abbrev cenvOf (scope sc : Scope) (env : Env) (C : Addr) (cs : List (Str × Addr)) : Env :=
  { scope := rlb scope sc, locals := C, globals := env.globals, cells := cs, qual := env.qual, func := none, code := env.code, frame := env.frame, builtins := env.builtins }
noncomputable abbrev testsOf (ifs : List PySem.Expr) (env : Env) : Sem Bool := forIn ifs true fun c r => if r = true then do let ok ← PySem.isTrue c env (eval c env); pure (ForInStep.yield ok) else pure (ForInStep.yield r)
/-- what one turn of a comprehension owes -/
noncomputable def TurnOk (w : World) (A : Around) (s : Shared) (C I D : Addr) (o : Obj) (n : Nat) (Inv : Nat → σ → Prop) (fa : σ → List Value) (fw : σ → Addr → List (Addr × Obj)) (elt : PySem.Expr) (ifs : List PySem.Expr) (x : Str) (cenv : Env) (i : Nat) (b : σ) (v : Value) (s' : Shared) : Prop :=
  wpAny (model PW w) A (storeName cenv x v) (fun _ s₂ => wpAny (model PW w) A (testsOf ifs cenv) (fun ok s₃ => if ok = true then
      wpAny (model PW w) A (eval elt cenv) (fun r s₄ => ∃ b' l', Inv (i + 1) b' ∧ fa b' = fa b ++ [r] ∧ In s C l' ((D, lstO (fa b) n) :: (I, o) :: fw b' C) s₄) (fun _ _ => False) s₃
      else ∃ b' l', Inv (i + 1) b' ∧ fa b' = fa b ∧ In s C l' ((D, lstO (fa b) n) :: (I, o) :: fw b' C) s₃) (fun _ _ => False) s₂) (fun _ _ => False) s'
theorem compCore {fp : List Addr} {m : Nat} {P : Nat → Value → Prop} {St : Nat → Heap → Prop} {oI : Obj} {k : Nat} {clF : Addr → List (Str × Addr)} {RR : Value → Addr → Result → Shared → Prop}
    (Inv : Nat → σ → Prop) (fa : σ → List Value) (fw : σ → Addr → List (Addr × Obj)) (b₀ : σ)
    (e : EnvIs env L sc cl) (hpc : ∀ h, pushCells h scope.names = pushK k h) (hk1 : k ≤ 1) (hcc : ∀ C, cellsFrom (C + 1) scope.names cl0 = clF C) (hkd : scope.kind = .function)
    (W : Walks PW w A s.heap.objs.size fp [s.heap.objs.size] m P St) (hI : ∀ i h, St i h → ∃ o : Obj, h.get? s.heap.objs.size = some o)
    (hIf : oI.isFreed = false) (src : ∀ b ∈ fp, b ≠ s.heap.objs.size → ∃ ob, s.heap.get? b = some ob) (hst : St 0 (s.heap.push oI))
    (h0 : Inv 0 b₀) (ha0 : fa b₀ = []) (hw0 : ∀ C, fw b₀ C = cellsN C k) (hsz : ∀ i b, Inv i b → (fa b).length ≤ 1000)
    (hbody : ∀ i v b I o D n C s', i < m → P i v → Inv i b → EnvIs (cenvOf scope sc env C (clF C)) C (rlb scope sc) (clF C) → s.heap.get? C = none → In s C [] ((D, lstO (fa b) n) :: (I, o) :: fw b C) s' → TurnOk w A s C I D o n Inv fa fw elt ifs x (cenvOf scope sc env C (clF C)) i b v s')
    (hend : ∀ b D n C s', Inv m b → s.heap.get? C = none → In s C [] ((D, lstO (fa b) n) :: fw b C) s' → RR (.ref D) C (.ok .next) s') :
    wpAny (model PW w) A (newList []) (fun acc s₃ => wpAny (model PW w) A (newFunctionEnv scope env.globals cl0 [] env.qual none .none (some env)) (fun cenv s₄ =>
      codeAny (model PW w) A (.compStart (.ListComp elt [⟨.Name x px, iter, ifs, 0⟩] scope pos) 0 (.ref s.heap.objs.size) acc { cenv with scope := relabel scope env }) (RR acc cenv.locals) s₄) E s₃) E { s with heap := s.heap.push oI } := by
  refine wpAny_newObj_type (wpAny_compEnv ?_)
  dsimp only
  rw [relabel_rlb e.scope, hpc]
  generalize hI0 : s.heap.objs.size = I at *
  generalize hH1 : (s.heap.push oI).push { cls := .type "list", dict := none, data := .seq ([] : List Value).toArray } = H1
  have z1 : (s.heap.push oI).objs.size = I + 1 := by rw [Heap.size_push, hI0]
  have z2 : H1.objs.size = I + 2 := by rw [← hH1, Heap.size_push, z1]
  rw [z1, z2]
  have hIs : s.heap.get? I = none := Heap.get?_none_of_le (by rw [hI0]; exact Nat.le_refl _)
  have hDs : s.heap.get? (I + 1) = none := Heap.get?_none_of_le (by rw [hI0]; exact Nat.le_succ _)
  have hCs : s.heap.get? (I + 2) = none := Heap.get?_none_of_le (by rw [hI0]; omega)
  have g1 : (s.heap.push oI).get? I = some oI := by have := Heap.get?_push_size s.heap hIf; rw [hI0] at this; exact this
  have g2 : H1.get? (I + 1) = some (lstO [] 0) := by
    have := Heap.get?_push_size (s.heap.push oI) (o := lstO [] 0) rfl
    rw [z1] at this; rw [← hH1]; exact this
  have k1 : Keep s.heap H1 := fun b o q => by rw [← hH1]; exact Heap.get?_push_of_some _ (Heap.get?_push_of_some _ q)
  have g1' : H1.get? I = some oI := by rw [← hH1]; exact Heap.get?_push_of_some _ g1
  have y0 : ∀ tk, In s (I + 2) [] [((I + 1), lstO [] 0), (I, oI)] { s with heap := H1.push { cls := .type "dict", data := .dict #[] }, toks := tk } := fun tk => by
    refine ⟨⟨_, _, rfl⟩, ⟨_, by have := Heap.Ns.new H1 (.type "dict"); rw [z2] at this; exact this, fun n v q => by cases q⟩, fun b o q => Heap.get?_push_of_some _ (k1 b o q), fun p hp => ?_, ?_⟩
    · rcases List.mem_cons.mp hp with rfl | hp
      · exact ⟨Heap.get?_push_of_some _ g2, Nat.ne_of_lt (Nat.lt_succ_self _), hDs⟩
      · rw [List.mem_singleton] at hp; subst hp
        exact ⟨Heap.get?_push_of_some _ g1', Nat.ne_of_lt (by omega), hIs⟩
    · refine List.pairwise_cons.mpr ⟨fun p hp => ?_, List.pairwise_singleton ..⟩
      rw [List.mem_singleton] at hp; subst hp
      exact Nat.ne_of_gt (Nat.lt_succ_self _)
  have z3 : (H1.push { cls := .type "dict", data := .dict #[] }).objs.size = I + 2 + 1 := by rw [Heap.size_push, z2]
  generalize hH2 : pushK k (H1.push { cls := .type "dict", data := .dict #[] }) = H2
  have y1 : ∀ tk, In s (I + 2) [] (((I + 1), lstO (fa b₀) 0) :: (I, oI) :: fw b₀ (I + 2)) { s with heap := H2, toks := tk } := fun tk => by
    have := (y0 tk).pushK (C := I + 2) z3 k hk1
    rw [ha0, hw0, ← hH2]
    exact this.perm (List.perm_append_comm (l₁ := cellsN (I + 2) k))
  have eC : EnvIs (cenvOf scope sc env (I + 2) (clF (I + 2))) (I + 2) (rlb scope sc) (clF (I + 2)) := ⟨rfl, rfl, e.globals, e.builtins, rfl, hkd⟩
  have fpk : ∀ {i : Nat} {s' : Shared} {o : Obj} {h : Heap}, St i h → h.get? I = some o → (Keep s.heap h) → s'.heap.get? I = some o → Keep s.heap s'.heap → St i s'.heap := fun {i s' o h} st ho hk ho' hk' => by
    refine W.frame _ _ _ st fun b hb ob hob => ?_
    by_cases hbI : b = I
    · subst hbI; rw [ho] at hob; cases hob; exact ho'
    · obtain ⟨ob', q⟩ := src b hb hbI
      have := hk _ _ q; rw [this] at hob; cases hob
      exact hk' _ _ q
  have kI : Keep s.heap (s.heap.push oI) := fun b o q => Heap.get?_push_of_some _ q
  rw [show cellsFrom (I + 2 + 1) scope.names cl0 = clF (I + 2) from hcc (I + 2)]
  have loop : ∀ tk, codeAny (model PW w) A (.compLoop (.ListComp elt [⟨.Name x px, iter, ifs, 0⟩] scope pos) 0 (.ref I) (.ref (I + 1)) (cenvOf scope sc env (I + 2) (clF (I + 2)))) (RR (.ref (I + 1)) (I + 2)) { s with heap := H2, toks := tk } := fun tk => by
    refine codeAny_compLoop_tests (fun q s' => ∃ i b o n l', q = m - i ∧ i ≤ m ∧ Inv i b ∧ In s (I + 2) l' (((I + 1), lstO (fa b) n) :: (I, o) :: fw b (I + 2)) s' ∧ St i s'.heap) ?_ m
      ⟨0, b₀, oI, 0, [], rfl, Nat.zero_le _, h0, y1 tk, fpk hst g1 kI ((y1 tk).nw (I, oI) (.tail _ (.head _))).1 (y1 tk).keep⟩
    rintro q s₁ ⟨i, b, o, n, l', rfl, hi, hinv, y, st⟩
    have y : In s (I + 2) [] (((I + 1), lstO (fa b) n) :: (I, o) :: fw b (I + 2)) s₁ := y.forget Sub'.nil
    have noI : ∀ {h' : Heap}, (∀ b ob, b ∉ [I] → s₁.heap.get? b = some ob → h'.get? b = some ob) → Heap.ExtBut I s₁.heap h' := fun hk b ob hb e => hk b ob (fun hm => hb (List.mem_singleton.mp hm)) e
    by_cases hlt : i < m
    · refine W.item i s₁ _ _ hlt st fun v h' tk hv hst' hk => ?_
      have hx' := noI hk
      obtain ⟨o', ho'⟩ := hI _ _ hst'
      have y' := y.turn (tk := tk) (nw' := ((I + 1), lstO (fa b) n) :: (I, o') :: fw b (I + 2)) (.miss .hit) hx' ho'
      dsimp only
      refine wpAny_assign_Name ?_
      refine wpAny_mono (hbody i v b I o' (I + 1) n (I + 2) _ hlt hv hinv eC hCs y') (fun _ s₂ h₂ => ?_) fun _ _ z => z.elim
      refine wpAny_mono h₂ (fun ok s₃ h₃ => ?_) fun _ _ z => z.elim
      have mk : ∀ (b' : σ) n' l' (s₅ : Shared), Inv (i + 1) b' → In s (I + 2) l' (((I + 1), lstO (fa b') n') :: (I, o') :: fw b' (I + 2)) s₅ →
          ∃ m', m' < m - i ∧ ∃ i b o n l', m' = m - i ∧ i ≤ m ∧ Inv i b ∧ In s (I + 2) l' (((I + 1), lstO (fa b) n) :: (I, o) :: fw b (I + 2)) s₅ ∧ St i s₅.heap := fun b' n' l' s₅ hi' y₅ =>
        ⟨m - (i + 1), sbl hlt, i + 1, b', o', n', l', rfl, hlt, hi', y₅, fpk hst' ho' y'.keep (y₅.nw (I, o') (.tail _ (.head _))).1 y₅.keep⟩
      by_cases hok : ok = true
      · rw [if_pos hok] at h₃ ⊢
        refine wpAny_mono h₃ (fun r s₄ h₄ => ?_) fun _ _ z => z.elim
        obtain ⟨b', l', i1, i2, y₄⟩ := h₄
        have hDo := (y₄.nw ((I + 1), lstO (fa b) n) (.head _)).1
        refine wpAny_list_append_plain (l := I + 1) (items := (fa b).toArray) ⟨n, hDo⟩ (fun h₅ hp hs => ?_) (by have := hsz _ _ hinv; rw [sizeLine_eq]; simp; omega)
        obtain ⟨n', hp⟩ := hp
        have e2 : (fa b).toArray.push r = (fa b').toArray := by rw [i2]; simp
        rw [e2] at hp
        exact mk b' n' l' _ i1 (y₄.turn (tk := s₄.toks) (nw' := ((I + 1), lstO (fa b') n') :: (I, o') :: fw b' (I + 2)) .hit hs.extBut hp)
      · rw [if_neg hok] at h₃ ⊢
        obtain ⟨b', l', i1, i2, y₄⟩ := h₃
        rw [← i2] at y₄
        exact mk b' n l' _ i1 y₄
    · have hin : i = m := by omega
      subst hin
      refine W.done s₁ _ _ st fun h' tk hk => ?_
      have hx' := noI hk
      have y2 : In s (I + 2) [] ((I, o) :: ((I + 1), lstO (fa b) n) :: fw b (I + 2)) s₁ := y.perm (List.Perm.swap ..)
      have hIa := y2.nw (I, o) (.head _)
      have nd := List.pairwise_cons.mp y2.nd
      refine hend b _ n _ _ hinv hCs ⟨by obtain ⟨h, tk', e⟩ := y2.same; exact ⟨h', tk, by rw [e]⟩, let ⟨m, nn, hm⟩ := y2.ns; ⟨m, nn.extBut hx' (Ne.symm hIa.2.1), hm⟩, fun b o e => hx' b o (fun q => ?_) (y2.keep b o e), fun p hp => ?_, nd.2⟩
      · subst q; have := hIa.2.2; dsimp only at this; rw [this] at e; cases e
      · have := y2.nw p (.tail _ hp); exact ⟨hx' _ _ (Ne.symm (nd.1 p hp)) this.1, this.2⟩
  refine codeAny_compStart_list (loop _) (W.self 0 _ _ _ ?_ (loop _))
  exact fpk (s' := { s with heap := H2, toks := s.toks }) hst g1 kI ((y1 s.toks).nw (I, oI) (.tail _ (.head _))).1 (y1 s.toks).keep
end
end Mine
end

section
open PySem PySem.W PyProof.Rows PySem.Calls
set_option maxRecDepth 100000
namespace Mine
section
variable {w : World} {A : Around} {E : Value → Shared → Prop} {s₀ s : Shared} {env : Env} {L : Addr} {sc : Scope} {cl cl0 : List (Str × Addr)} {l l' : List (Str × Value)} {nw nw' N : List (Addr × Obj)} {σ : Type} {pos px py spos : Pos} {x y : Str} {elt iter : PySem.Expr} {ifs : List PySem.Expr} {scope : Scope} {rest : List Stmt}
noncomputable def Blk (w : World) (A : Around) (E : Value → Shared → Prop) (elt : PySem.Expr) (x : Str) (px : Pos) (iter : PySem.Expr) (ifs : List PySem.Expr) (scope : Scope) (pos : Pos) (env : Env) (cl0 : List (Str × Addr)) (RR : Value → Addr → Result → Shared → Prop) (it : Value) (s₂ : Shared) : Prop :=
  wpAny (model PW w) A (newList []) (fun acc s₃ => wpAny (model PW w) A (newFunctionEnv scope env.globals cl0 [] env.qual none .none (some env)) (fun cenv s₄ =>
      codeAny (model PW w) A (.compStart (.ListComp elt [⟨.Name x px, iter, ifs, 0⟩] scope pos) 0 it acc { cenv with scope := relabel scope env }) (RR acc cenv.locals) s₄) E s₃) E s₂
/-- [.. for x in iter] -/
theorem rComp {Q : Value → Shared → Prop} (e : EnvIs env L sc cl) (hclos : clo cl scope.names [] = some cl0) (hkd : (scope.kind == .function) = true) (hnm : (scope.names.all fun y => y.2 != .local || scope.names.lookup y.1 == some .local) = true)
    (h : wpAny (model PW w) A (eval iter env) (fun xv s₁ => wpAny (model PW w) A (pyIter xv) (fun it s₂ => Blk w A E elt x px iter ifs scope pos env cl0 (fun acc C => compPost (model PW w) A E none Q acc C) it s₂) E s₁) E s)
    (hs : ∀ x, foldedSetIterable iter env x = pure x) : wpAny (model PW w) A (eval (.ListComp elt [⟨.Name x px, iter, ifs, 0⟩] scope pos) env) Q E s := by
  rw [eval_ListComp]
  refine wpAny_comprehension_free (use := none) rfl hs (closureFor_of e.cells hclos) (eq_of_beq hkd) (fun y hy hl => ?_) h
  have := List.all_eq_true.mp hnm y hy
  rw [hl] at this
  simpa using this
/-- y = [.. for x in iter] -/
theorem xComp {Q : Flow → Shared → Prop} (e : EnvIs env L sc cl) (hclos : clo cl scope.names [] = some cl0) (hkd : (scope.kind == .function) = true) (hnm : (scope.names.all fun y => y.2 != .local || scope.names.lookup y.1 == some .local) = true)
    (hy : (sc.names.lookup y == some .local) = true) (hno : (scope.names.any fun (n, k) => n == y && (k == .local || k == .cell)) = false) (hln : (py.line == pos.line) = true)
    (h : wpAny (model PW w) A (eval iter env) (fun xv s₁ => wpAny (model PW w) A (pyIter xv) (fun it s₂ => Blk w A E elt x px iter ifs scope pos env cl0 (fun acc C => compPost (model PW w) A E (some (assign (.Name y py) env)) (fun _ s' => wpAny (model PW w) A (execs rest env) Q E s') acc C) it s₂) E s₁) E s)
    (hs : ∀ x, foldedSetIterable iter env x = pure x) : wpAny (model PW w) A (execs (.Assign [.Name y py] (.ListComp elt [⟨.Name x px, iter, ifs, 0⟩] scope pos) spos :: rest) env) Q E s := by
  have hsw : swapsWith (.ListComp elt [⟨.Name x px, iter, ifs, 0⟩] scope pos) (some (.Name y py)) spos.line env = pure true := by
    unfold swapsWith
    simp only [pos_LC]
    have b3 : env.blockKind = .function := by unfold Env.blockKind; rw [e.k]; rfl
    have hno' := hno
    rw [b3, e.kindOf hy, hln]
    simp only [beq_self_eq_true, Bool.true_and]
    rw [hno']; rfl
  refine wpAny_execs_cons ?_
  rw [exec_Assign_Name_used _ _ _ _ hsw]
  refine wpAny_bind (wpAny_standAt (wpAny_bind ?_))
  show wpAny _ A (do let _ ← comprehension (.ListComp elt [⟨.Name x px, iter, ifs, 0⟩] scope pos) scope env _ (newList []) false (eval iter env) (some (assign (.Name y py) env))) _ _ s
  refine wpAny_bind (wpAny_mono (wpAny_comprehension_free (use := some (assign (.Name y py) env)) (Q := fun _ s' => wpAny (model PW w) A (execs rest env) Q E s') rfl hs (closureFor_of e.cells hclos) (eq_of_beq hkd) (fun y hy hl => ?_) h) (fun _ s' hq => wpAny_pure (wpAny_pure hq)) fun _ _ e => e)
  have := List.all_eq_true.mp hnm y hy
  rw [hl] at this
  simpa using this
/-- the turns, over a list or a tuple -/
theorem compIt {n k : Nat} {a : Addr} {vs : List Value} {clF : Addr → List (Str × Addr)} {RR : Value → Addr → Result → Shared → Prop} (Inv : Nat → σ → Prop) (fa : σ → List Value) (fw : σ → Addr → List (Addr × Obj)) (b₀ : σ)
    (e : EnvIs env L sc cl) (R : Rm n A) (hpc : ∀ h, pushCells h scope.names = pushK k h) (hk1 : k ≤ 1) (hcc : ∀ C, cellsFrom (C + 1) scope.names cl0 = clF C) (hkd : (scope.kind == .function) = true)
    (hl : (∃ c, s.heap.get? a = some (lstO vs c)) ∨ s.heap.get? a = some (tupO vs)) (h0 : Inv 0 b₀) (ha0 : fa b₀ = []) (hw0 : ∀ C, fw b₀ C = cellsN C k) (hsz : ∀ i b, Inv i b → (fa b).length ≤ 1000)
    (hbody : ∀ i v b I o D n C s', vs[i]? = some v → Inv i b → EnvIs (cenvOf scope sc env C (clF C)) C (rlb scope sc) (clF C) → s.heap.get? C = none → In s C [] ((D, lstO (fa b) n) :: (I, o) :: fw b C) s' → TurnOk w A s C I D o n Inv fa fw elt ifs x (cenvOf scope sc env C (clF C)) i b v s')
    (hend : ∀ b D n C s', Inv vs.length b → s.heap.get? C = none → In s C [] ((D, lstO (fa b) n) :: fw b C) s' → RR (.ref D) C (.ok .next) s') :
    wpAny (model PW w) A (pyIter (.ref a)) (fun it s₂ => Blk w A E elt x px iter ifs scope pos env cl0 RR it s₂) E s := by
  have hlt : a < s.heap.objs.size := by
    rcases hl with ⟨c, h⟩ | h
    · exact Heap.lt_size h
    · exact Heap.lt_size h
  rcases hl with ⟨c, hl⟩ | hl
  · refine wpAny_pyIter_list (isl hl) ?_
    refine compCore Inv fa fw b₀ e hpc hk1 hcc (eq_of_beq hkd) (Walks.list R.hd s.heap.objs.size a (Nat.ne_of_lt hlt) vs.toArray) (fun i h st => let ⟨o, ho, _⟩ := st.1; ⟨o, ho⟩) rfl (fun b hb hbI => ?_) ?_ h0 ha0 hw0 hsz (fun i v b I o D n C s' _ hv => hbody i v b I o D n C s' (by simpa using hv)) (fun b D n C s' hi => hend b D n C s' (by simpa using hi))
    · rcases List.mem_cons.mp hb with rfl | hb
      · exact absurd rfl hbI
      · rw [List.mem_singleton] at hb; subst hb; exact ⟨_, hl⟩
    · exact ⟨⟨_, Heap.get?_push_size _ rfl, rfl, rfl⟩, _, Heap.get?_push_of_some _ hl, rfl, _, rfl⟩
  · refine wpAny_pyIter_tuple (ist hl) ?_
    refine compCore Inv fa fw b₀ e hpc hk1 hcc (eq_of_beq hkd) (Walks.tuple R.hd s.heap.objs.size a (Nat.ne_of_lt hlt) vs.toArray) (fun i h st => let ⟨o, ho, _⟩ := st.1; ⟨o, ho⟩) rfl (fun b hb hbI => ?_) ?_ h0 ha0 hw0 hsz (fun i v b I o D n C s' _ hv => hbody i v b I o D n C s' (by simpa using hv)) (fun b D n C s' hi => hend b D n C s' (by simpa using hi))
    · rcases List.mem_cons.mp hb with rfl | hb
      · exact absurd rfl hbI
      · rw [List.mem_singleton] at hb; subst hb; exact ⟨_, hl⟩
    · exact ⟨⟨_, Heap.get?_push_size _ rfl, rfl, rfl⟩, _, Heap.get?_push_of_some _ hl, rfl, _, rfl⟩
/-- what the turns leave, as the block around has it -/
theorem outer (X : In s₀ L l nw s) {C : Addr} {lC : List (Str × Value)} {s' : Shared} (hC : s.heap.get? C = none) (y : In s C lC N s') {h' : Heap} (hs : Heap.SameBut C s'.heap h') : In s₀ L l (N ++ nw) { s' with heap := h' } := by
  obtain ⟨h2, tk, e⟩ := y.same
  refine X.mores ⟨h', tk, by rw [e], fun b o q => ?_⟩ (fun p hp => ?_) y.nd
  · exact hs.extBut b o (fun r => by subst r; rw [hC] at q; cases q) (y.keep b o q)
  · have := y.nw p hp
    exact ⟨hs.extBut _ _ this.2.1 this.1, this.2.2⟩
theorem compEndN {Q : Value → Shared → Prop} (X : In s₀ L l nw s) {C : Addr} {lC : List (Str × Value)} {s' : Shared} {v : Value} (hC : s.heap.get? C = none) (y : In s C lC N s') (h : ∀ s', In s₀ L l (N ++ nw) s' → Q v s') :
    compPost (model PW w) A E none Q v C (.ok .next) s' :=
  let ⟨m, n, _⟩ := y.ns; ⟨m, n, fun h' hs => h _ (outer X hC y hs)⟩
theorem compEndS {Q : Shared → Prop} (X : In s₀ L l nw s) (e : EnvIs env L sc cl) (hf : s₀.heap.get? L = none) (hy : (sc.names.lookup x == some .local) = true) {C : Addr} {lC : List (Str × Value)} {s' : Shared} {v : Value} (hC : s.heap.get? C = none) (y : In s C lC N s')
    (u : Upd' x v l l') (h : ∀ s', In s₀ L l' (N ++ nw) s' → Q s') :
    compPost (model PW w) A E (some (assign (.Name x px) env)) (fun _ => Q) v C (.ok .next) s' := by
  obtain ⟨m, hn, _⟩ := y.ns
  obtain ⟨oC, es, ep, hoC, hd, hk, hm⟩ := id hn
  have Y : In s₀ L l ((C, oC) :: (N ++ nw)) s' := by
    have Y0 := outer X hC y (Heap.SameBut.refl ..)
    obtain ⟨h2, tk, e'⟩ := y.same
    have : In s₀ L l (((C, oC) :: N) ++ nw) s' := X.mores ⟨s'.heap, tk, by rw [e'], y.keep⟩ (fun p hp => ?_) (List.pairwise_cons.mpr ⟨fun p hp => Ne.symm (y.nw p hp).2.1, y.nd⟩)
    · exact this
    · rcases List.mem_cons.mp hp with rfl | hp
      · exact ⟨hoC, hC⟩
      · exact ⟨(y.nw p hp).1, (y.nw p hp).2.2⟩
  show wpAny _ A (assign (.Name x px) env v) _ _ _
  refine wpAny_assign_Name (rSt e Y hf hy u fun s₂ y₂ => ?_)
  refine ⟨m, ⟨oC, es, ep, (y₂.nw (C, oC) (.head _)).1, hd, hk, hm⟩, fun h' hs => h _ (y₂.dropBut hs)⟩
end
end Mine
end

section
open PySem PySem.W PyProof.Rows PySem.Calls
set_option maxRecDepth 100000
namespace Mine
section
variable {w : World} {A : Around} {E : Value → Shared → Prop} {s₀ s : Shared} {env : Env} {L : Addr} {sc : Scope} {cl : List (Str × Addr)} {l l' : List (Str × Value)} {nw nw' : List (Addr × Obj)} {pos np apos : Pos} {Q : Value → Shared → Prop} {a b : List Nat} {t u : Tok} {i j : Int} {k : Nat} {value slice : PySem.Expr}
/-- a call of a def by its name with nothing in hand -/
theorem cFn0 {x : Str} {a i : Nat} {dV kV : Value} (hq : (a, i, dV, kV) ∈ fnTab) (hg : globs.lookup x = some (.ref a)) (hx : (x == ("__debug__" : Str)) = false)
    (e : EnvIs env L sc cl) (y : In s₀ L l nw s) (W : Wd s₀.heap) (hk : (sc.names.lookup x == some .globalImplicit) = true)
    (h : wpAny (model PW w) A (call (.ref a) []) Q E s) : wpAny (model PW w) A (eval (.Call (.Name x np) [] [] pos) env) Q E s := by
  obtain ⟨o, pm, cd, doc, ho, hd, _⟩ := (y.wd W).fn _ hq
  dsimp only at ho hd
  refine wpAny_Call_ofName (rG e y W hk hg ?_ hx)
  refine callWith_function (o := o) (fd := fdOf i dV kV pm cd doc) ?_
  show wpAny _ _ (evalArgs (.ref a) true [] []) _ _ _
  unfold evalArgs
  show wpAny _ _ (spliced [] >>= _) _ _ _
  refine wpAny_bind (spliced_nil ?_)
  first
  | refine wpAny_holding ?_
  | refine wpAny_bind (wpAny_pure (wpAny_holding ?_))
  exact wpAny_bind (wpAny_pure (wpAny_bind (wpAny_pure (wpAny_pure ⟨⟨ho, hd⟩, h⟩))))
theorem vGtS (h : Q (.bool (decide (b < a))) s) : wpAny (model PW w) A (compareOp .Gt (.str (S a) t) (.str (S b) u)) Q E s := by
  refine PySem.P.gt_str ?_
  rw [S_toList, S_toList]; exact h
theorem vLtS (h : Q (.bool (decide (a < b))) s) : wpAny (model PW w) A (compareOp .Lt (.str (S a) t) (.str (S b) u)) Q E s := by
  refine PySem.P.lt_str ?_
  rw [S_toList, S_toList]; exact h
theorem vSubB {p q : Bool} (x : In s₀ L l nw s) (h : ∀ t s', In s₀ L l nw s' → Q (.int (b2i p - b2i q) t) s') : wpAny (model PW w) A (binaryOp .Sub (.bool p) (.bool q)) Q E s := PyProof.Rows.sub_bool (h _ _ (x.tok _))
/-- a sign of a text -/
theorem tIxS {c : Nat} (x : In s₀ L l nw s) (h0 : 0 ≤ i) (hz : a.length ≤ 100000) (hv : a[i.toNat]? = some c) (h : ∀ s', In s₀ L l nw s' → s'.toks = s.toks + 1 → Q (.str (S [c]) s.toks) s')
    (hs : subscripted slice false (.str (S a) t) (.int i u) = operate [.str (S a) t, .int i u] (getItem (.str (S a) t) (.int i u))) :
    wpAny (model PW w) A (subscriptTail value slice (.str (S a) t) (.int i u)) Q E s := by
  have hlt : i.toNat < a.length := by
    rcases Nat.lt_or_ge i.toNat a.length with q | q
    · exact q
    · rw [List.getElem?_eq_none q] at hv; cases hv
  have hc : Txt.charAt (S a) i = some c := by
    unfold Txt.charAt
    rw [seqIndex_of h0 (by rw [S_len]; omega)]
    simpa [S] using hv
  refine tail_any (typeIs_str _ _ _) PySem.F.slot_str_getitem.lookup (SB.getItem ?_ (by rw [hc]; rfl) ?_) hs
  · unfold fitsSsize
    have a1 : ¬ i < -(2 ^ 63 : Int) := by omega
    have a2 : ¬ i ≥ 2 ^ 63 := by omega
    rw [decide_eq_false a1, decide_eq_false a2]; rfl
  · have : Txt.item (S a) i = S [c] := by unfold Txt.item; rw [hc]; rfl
    rw [this]
    exact h _ (x.tok _) rfl
-- steps that tell the count of tokens
theorem rStrK {x : Str} (e : In s₀ L l nw s) (h : ∀ s', In s₀ L l nw s' → s'.toks = s.toks + 1 → Q (.str x s.toks) s') : wpAny (model PW w) A (eval (.Constant (.str x) k pos) env) Q E s := wpAny_Constant_str (h _ (e.tok _) rfl)
theorem vModK (hj : j ≠ 0) (e : In s₀ L l nw s) (h : ∀ t s', In s₀ L l nw s' → 1 ≤ s'.toks → Q (.int (i.fmod j) t) s') : wpAny (model PW w) A (binaryOp .Mod (.int i t) (.int j u)) Q E s := PyProof.Rows.mod_int' hj (h _ _ (e.tok _) (Nat.succ_pos _))
theorem rStK {n : Str} {v : Value} {Q : Unit → Shared → Prop} (e : EnvIs env L sc cl) (x : In s₀ L l nw s) (hf : s₀.heap.get? L = none) (hk : (sc.names.lookup n == some .local) = true) (u : Upd' n v l l') (h : ∀ s', In s₀ L l' nw s' → s.toks ≤ s'.toks → Q () s') :
    wpAny (model PW w) A (storeName env n v) Q E s := by
  obtain ⟨es, el, _, _, _, ek⟩ := e
  subst es el
  obtain ⟨m, n, hm⟩ := x.ns
  exact wpAny_storeName_local (eq_of_beq hk) n (fun h' hn hs => h _ (x.setM hf (hm.upd u) hn hs) (Nat.le_succ _)) (by rw [ek]; rfl)
theorem vStrike {c : Nat} {t' : Tok} (e : In s₀ L l nw s) (hu : u ≠ 0) (hv : t' ≠ 0) (huv : u ≠ t') (hz : a.length ≤ 100000) (h : ∀ t s', In s₀ L l nw s' → Q (.str (S (a.filter (· != c))) t) s') : wpAny (model PW w) A (call (.builtin "str.replace") [.str (S a) t, .str (S [c]) u, .str (S []) t']) Q E s := by
  refine SC.replace hu hv huv ?_ ?_ fun t2 k2 => ?_
  · exact beq_eq_false_iff_ne.mpr fun q => by have := S_inj q; cases this
  · rw [S_len, S_len]; simp; omega
  · have : Txt.replace (S a) (S [c]) (S []) = S (a.filter (· != c)) := by
      have := replace_strikes (S a) c
      rw [S_toList] at this
      exact (S_of _).trans (by rw [show S [c] = (⟨#[c]⟩ : Str) from rfl, show S [] = (⟨#[]⟩ : Str) from rfl, this])
    rw [this]; exact h _ _ (e.tok _)
theorem mo_replace {x : Str} {a1 a2 : PySem.Expr} (hp : backTo pos (starEach [a1, a2] env) = (false, eval a1 env) :: backTo pos (starEach [a2] env)) (hs : (backTo pos (starEach [a1, a2] env)).any (·.1) = false)
    (h : wpAny (model PW w) A (spliced (backTo pos (starEach [a1, a2] env))) (fun vs s₁ => wpAny (model PW w) A (call (.builtin "str.replace") (.str x t :: vs)) Q E s₁) E s) :
    MethodOn PW w A (PySem.Str.ofString "replace") pos (.str x t) (backTo pos (starEach [a1, a2] env)) Q E s := moS1 PySem.F.slot_str_replace PySem.F.type_str_replace hp hs h
theorem rStrSK {x : Str} {y : List Nat} (hc : x = S y) (e : In s₀ L l nw s) (h : ∀ s', In s₀ L l nw s' → s'.toks = s.toks + 1 → Q (.str (S y) s.toks) s') : wpAny (model PW w) A (eval (.Constant (.str x) k pos) env) Q E s := by subst hc; exact rStrK e h
end
noncomputable def pun : List Nat := [43, 45, 32, 44, 46, 33, 95, 126]
noncomputable def abc : List Nat := [65, 66, 67, 68, 69, 70, 71, 72, 73, 74, 75, 76, 77, 78, 79, 80, 81, 82, 83, 84, 85, 86, 87, 88, 89, 90, 97, 98, 99, 100, 101, 102, 103, 104, 105, 106, 107, 108, 109, 110, 111, 112, 113, 114, 115, 116, 117, 118, 119, 120, 121, 122, 48, 49, 50, 51, 52, 53, 54, 55, 56, 57]
theorem S_pun : PySem.Str.ofString "+- ,.!_~" = S pun := by decide +kernel
theorem S_abc : PySem.Str.ofString "ABCDEFGHIJKLMNOPQRSTUVWXYZabcdefghijklmnopqrstuvwxyz0123456789" = S abc := by decide +kernel
theorem S_eq : PySem.Str.ofString "=" = S [61] := by decide +kernel
end Mine
end

section
open PySem PySem.W PyProof.Rows PySem.Calls
set_option maxRecDepth 100000
namespace Mine
section
variable {w : World} {A : Around} {E : Value → Shared → Prop} {s₀ s : Shared} {env : Env} {L : Addr} {sc : Scope} {cl : List (Str × Addr)} {l l' : List (Str × Value)} {nw nw' : List (Addr × Obj)} {pos np apos : Pos} {Q : Value → Shared → Prop} {a b : List Nat} {t u : Tok} {i j : Int} {k : Nat} {value slice : PySem.Expr}
theorem vMulI (hb : Builtin.Int.intBits j ≤ 64) (x : In s₀ L l nw s) (h : ∀ t s', In s₀ L l nw s' → Q (.int (i * j) t) s') : wpAny (model PW w) A (binaryOp .Mult (.int i t) (.int j u)) Q E s :=
  PyProof.Rows.mul_int (h _ _ (x.tok _)) (IntMulOk.of_right hb)
theorem vMulL {D : Addr} {v : Value} {n m : Nat} (h1 : s.heap.get? D = some (lstO [v] n)) (hi : i = (m : Int)) (hm : m ≤ 100000) (x : In s₀ L l nw s) (h : ∀ a s', In s₀ L l ((a, lstO (List.replicate m v) 0) :: nw) s' → Q (.ref a) s') :
    wpAny (model PW w) A (binaryOp .Mult (.ref D) (.int i u)) Q E s := by
  have hlo : -(2 ^ 63 : Int) ≤ i := by omega
  have hhi : i < 2 ^ 63 := by omega
  have hsz : ([v].toArray).size * i.toNat ≤ 2 ^ 24 := by simp; omega
  have e : (List.foldl (fun x1 x2 => x1 ++ x2) #[] (List.replicate (if ([v].toArray).isEmpty = true then 0 else i.toNat) [v].toArray)) = (List.replicate m v).toArray := by
    have : i.toNat = m := by omega
    rw [listMul_foldl_if, this]
    clear this hsz hlo hhi hi h hm
    congr 1
    induction m with
    | zero => rfl
    | succ m ih => rw [List.replicate_succ, List.flatten_cons, ih, List.replicate_succ]; rfl
  have fin := h _ _ (x.pushN (lstO (List.replicate m v) 0) rfl)
  unfold lstO at fin h1
  rw [← e] at fin
  generalize [v].toArray = items at *
  refine wpAny_binaryOp_repeat_ref (T := "list") (U := "int") (by decide) ⟨_, h1, rfl⟩ (fun s' => typeIs_int s' i u) noFill_list_mul PySem.F.fills_int_mul PySem.F.slot_int_rmul repeat_list PySem.F.slot_int_index.lookup
    (call_meets PySem.F.slot_int_rmul (typeIs_int s i u) PySem.F.entry_int_rmul (PySem.F.args_int_rmul_2 _ _) (int___rmul___int_list i u D items n)
      ⟨h1, rfl, ⟨_, h1, rfl⟩, call_meets PySem.F.slot_list_mul ⟨_, h1, rfl⟩ PySem.F.entry_list_mul (PySem.F.args_list_mul_2 _ _)
        (AutoListH.list___mul___list_int_3 D items n i u (by simp [Builtin.List.listFitsIndex]; omega) (by omega) (by simp [Builtin.List.listTooLong, sizeLine]; omega))
        ⟨h1, fin⟩⟩)
theorem swap2K {x1 x2 : Str} {p1 p2 tp vp : Pos} {k2 : Nat} {vs : List PySem.Expr} (e : EnvIs env L sc cl) (h1 : (sc.names.lookup x1 == some .local) = true) (h2 : (sc.names.lookup x2 == some .local) = true)
    (hok : (vs.length == 2 && p1.line == p2.line && x1 != x2 && !(vs.any fun | .Starred .. => true | _ => false) && vs.all (foldedForSure 8)) = true) :
    swappedStores [.Tuple [.Name x1 p1, .Name x2 p2] k tp] (.Tuple vs k2 vp) env = pure none := by
  simp only [Bool.and_eq_true, Bool.not_eq_true', beq_iff_eq, bne_iff_ne] at hok
  obtain ⟨⟨⟨⟨a1, a2⟩, a3⟩, a4⟩, a5⟩ := hok
  have b1 := e.kindOf h1
  have b2 := e.kindOf h2
  have b3 : env.blockKind = .function := by unfold Env.blockKind; rw [e.k]; rfl
  have a3' : (x2 == x1) = false := by simpa using fun q : x2 = x1 => a3 q.symm
  unfold swappedStores
  dsimp only
  simp [a1, a2, a5, b1, b2, b3, a3', List.eraseDups_cons, pos_Name]
theorem xTup2K {Q : Flow → Shared → Prop} {x1 x2 : Str} {p1 p2 tp vp : Pos} {k2 : Nat} {vs : List PySem.Expr} {rest : List Stmt} (e : EnvIs env L sc cl) (h1 : (sc.names.lookup x1 == some .local) = true) (h2 : (sc.names.lookup x2 == some .local) = true)
    (hok : (vs.length == 2 && p1.line == p2.line && x1 != x2 && !(vs.any fun | .Starred .. => true | _ => false) && vs.all (foldedForSure 8)) = true)
    (hs : swapsWithSole [.Tuple [.Name x1 p1, .Name x2 p2] k tp] (.Tuple vs k2 vp) pos.line env = pure false)
    (h : wpAny (model PW w) A (eval (.Tuple vs k2 vp) env) (fun v s₁ => wpAny (model PW w) A (unpackItems v 2 none) (fun items s₂ => ∃ v1 v2, items = [v1, v2] ∧
      wpAny (model PW w) A (storeName env x1 v1) (fun _ s₃ => wpAny (model PW w) A (storeName env x2 v2) (fun _ s₄ => wpAny (model PW w) A (execs rest env) Q E s₄) E s₃) E s₂) E s₁) E s) :
    wpAny (model PW w) A (execs (.Assign [.Tuple [.Name x1 p1, .Name x2 p2] k tp] (.Tuple vs k2 vp) pos :: rest) env) Q E s := xTup2 (swap2K e h1 h2 hok) hs h
end
end Mine
end

section
open PySem PySem.W PyProof.Rows PySem.Calls
set_option maxRecDepth 100000
namespace Mine
/-- texts in order -/
noncomputable def leL (a b : List Nat) : Bool := !decide (b < a)
noncomputable def srt (l : List (List Nat)) : List (List Nat) := l.mergeSort leL
theorem leL_iff {a b : List Nat} : leL a b = true ↔ a ≤ b := by unfold leL; simp
theorem leL_trans (a b c : List Nat) (h1 : leL a b = true) (h2 : leL b c = true) : leL a c = true := leL_iff.mpr (List.le_trans (leL_iff.mp h1) (leL_iff.mp h2))
theorem leL_total (a b : List Nat) : (leL a b || leL b a) = true := by
  rw [Bool.or_eq_true, leL_iff, leL_iff]; exact List.le_total a b
theorem leL_anti {a b : List Nat} (h1 : leL a b = true) (h2 : leL b a = true) : a = b := List.le_antisymm (leL_iff.mp h1) (leL_iff.mp h2)
theorem srt_perm (l : List (List Nat)) : (srt l).Perm l := List.mergeSort_perm l _
theorem srt_pair (l : List (List Nat)) : (srt l).Pairwise (fun a b => leL a b = true) := List.pairwise_mergeSort leL_trans leL_total l
theorem srt_of {l q : List (List Nat)} (hp : q.Perm l) (hs : q.Pairwise (fun a b => leL a b = true)) : q = srt l :=
  List.Perm.eq_of_pairwise (fun _ _ _ _ h1 h2 => leL_anti h1 h2) hs (srt_pair l) (hp.trans (srt_perm l).symm)
theorem rising_pair : ∀ (p : List Nat) (l : List (List Nat)), risingS (S p) (l.map S) = true → (p :: l).Pairwise (fun a b => leL a b = true)
  | p, [], _ => List.pairwise_singleton ..
  | p, x :: r, h => by
    rw [List.map_cons, risingS, Bool.and_eq_true, S_toList, S_toList, ltCps_eq] at h
    have ih := rising_pair x r h.2
    refine List.pairwise_cons.mpr ⟨fun y hy => ?_, ih⟩
    rcases List.mem_cons.mp hy with rfl | hy
    · exact h.1
    · exact leL_trans _ _ _ h.1 ((List.pairwise_cons.mp ih).1 y hy)
theorem sortedS_pair : ∀ (l : List (List Nat)), sortedS (l.map S) = true → l.Pairwise (fun a b => leL a b = true)
  | [], _ => .nil
  | x :: r, h => rising_pair x r h
theorem Txs.of_are : ∀ {vs : List Value} {ss : List Str}, StrsAre vs ss → Txs vs (ss.map fun x => x.cps.toList)
  | _, _, .nil => .nil
  | _, _, .cons x t r => by
    have := (Txs.of_are r).cons (p := x.cps.toList) (t := t)
    rw [← S_of] at this
    exact this
section
variable {w : World} {A : Around} {E : Value → Shared → Prop} {s₀ s : Shared} {env : Env} {L : Addr} {sc : Scope} {cl : List (Str × Addr)} {l l' : List (Str × Value)} {nw nw' : List (Addr × Obj)} {pos np apos : Pos} {Q : Value → Shared → Prop} {a b : List Nat} {t u : Tok} {i j : Int} {k : Nat} {value slice : PySem.Expr}
theorem vSorted {D : Addr} {vs : List Value} {n : Nat} {ps : List (List Nat)} (h1 : s.heap.get? D = some (lstO vs n)) (ht : Txs vs ps) (hz : vs.length < 64) (x : In s₀ L l nw s)
    (h : ∀ a ws m s', Txs ws (srt ps) → In s₀ L l ((a, lstO ws m) :: nw) s' → Q (.ref a) s') : wpAny (model PW w) A (call (.builtin "sorted") [.ref D]) Q E s := by
  refine sorted_strs (isl h1) ht.are hz fun out ss' a1 a2 a3 => ?_
  obtain ⟨e, he⟩ := sortedAll_at s.heap vs out
  have ht2 := Txs.of_are a1
  have e1 : (ss'.map fun x => x.cps.toList).map S = ss' := by
    rw [List.map_map]
    conv => rhs; rw [← List.map_id ss']
    exact List.map_congr_left fun x _ => (S_of x).symm
  have e2 : (ps.map S).map (fun x => x.cps.toList) = ps := by
    rw [List.map_map]
    conv => rhs; rw [← List.map_id ps]
    exact List.map_congr_left fun x _ => S_toList x
  have hp : (ss'.map fun x => x.cps.toList).Perm ps := by have := a2.map (fun x => x.cps.toList); rw [e2] at this; exact this
  have hs := sortedS_pair (ss'.map fun x => x.cps.toList) (by rw [e1]; exact a3)
  rw [srt_of hp hs] at ht2
  have hn : s.heap.get? (s.heap.objs.size + 1) = none := Heap.get?_none_of_le (Nat.le_succ _)
  have e3 : seqObj "list" out e = lstO out.toList e := rfl
  rw [e3] at he
  exact h _ out.toList e _ ht2 (x.more ⟨_, s.toks, rfl, fun _ _ q => sortedAll_old q⟩ hn he)
theorem vNotIn {D : Addr} {vs : List Value} {n : Nat} {ps : List (List Nat)} (h1 : s.heap.get? D = some (lstO vs n)) (ht : Txs vs ps) (h : Q (.bool (!ps.contains a)) s) : wpAny (model PW w) A (compareOp .NotIn (.str (S a) t) (.ref D)) Q E s := by
  refine SeqAt.notIn_listAt (fun y => strOf y == S a) (isl h1) (fun y hy => ?_) ?_
  · obtain ⟨i, hi⟩ := List.mem_iff_getElem?.mp (by simpa using hy)
    obtain ⟨p, u, _, rfl⟩ := ht.2 i y hi
    exact SeqAt.EqAt.str_str (S p) u (S a) t
  · have e : vs.toArray.any (fun y => strOf y == S a) = ps.contains a := by
      rw [List.any_toArray]
      have hm : vs.map strOf = ps.map S := ht.are.strs
      have : vs.any (fun y => strOf y == S a) = (vs.map strOf).any (fun y => y == S a) := by rw [List.any_map]; rfl
      rw [this, hm, List.any_map, List.contains_eq_any_beq]
      congr 1
      funext p
      simp only [Function.comp]
      rw [S_beq, Bool.eq_iff_iff, beq_iff_eq, beq_iff_eq]
      exact ⟨Eq.symm, Eq.symm⟩
    rw [e]; exact h
end
end Mine
end

section
open PySem PySem.W PyProof.Rows PySem.Calls
set_option maxRecDepth 100000
namespace Mine
theorem bindC_local {kd : Str → Option NameKind} : ∀ {binds : List (Str × Value)} {cm : Str → Option Value}, (∀ x ∈ binds, kd x.1 = some .local) → bindC kd binds cm = cm
  | [], _, _ => rfl
  | (n, v) :: r, cm, h => by
    unfold bindC
    rw [if_pos (h (n, v) (.head _))]
    exact bindC_local fun x hx => h x (.tail _ hx)
theorem bindL_local {kd : Str → Option NameKind} : ∀ {binds : List (Str × Value)} {m : Str → Option Value} {l : List (Str × Value)}, (∀ x ∈ binds, kd x.1 = some .local) → Has m l → Has (bindL kd binds m) (binds.reverse ++ l)
  | [], _, _, _, hm => hm
  | (n, v) :: r, m, l, h, hm => by
    unfold bindL
    rw [if_pos (h (n, v) (.head _)), List.reverse_cons, List.append_assoc]
    exact bindL_local (fun x hx => h x (.tail _ hx)) hm.cons
section
variable {w : World} {A : Around} {s s₁ : Shared} {E : Value → Shared → Prop} {Q : Value → Shared → Prop} {L : Addr} {l : List (Str × Value)}
theorem InC.core {m cm : Str → Option Value} {cs : List (Str × Addr)} (x : InCallC s L m cs cm s₁) {n : Str} {c : Addr} (hm : (n, c) ∈ cs) (hl : cs.lookup n = some c) : ∃ o, s₁.heap.get? c = some (cellP o (cm n)) ∧ c ≠ L ∧ s.heap.get? c = none := by
  obtain ⟨o, ho, hd⟩ := x.cell n c hl
  have ha := x.above n c hm
  have := x.toInCall.fresh
  exact ⟨o, by rw [ho]; exact congrArg some (cellP_of hd), Nat.ne_of_gt ha, Heap.get?_none_of_le (Nat.le_of_lt (Nat.lt_of_le_of_lt this ha))⟩
theorem In.ofC1 {m cm : Str → Option Value} {n : Str} {c : Addr} (x : InCallC s L m [(n, c)] cm s₁) (hm : Has m l) : ∃ o, In s L l [(c, cellP o (cm n))] s₁ := by
  obtain ⟨o, h1, h2, h3⟩ := InC.core x (n := n) (c := c) (.head _) (by simp)
  exact ⟨o, x.toInCall.same, ⟨m, x.toInCall.ns, hm⟩, x.toInCall.keep, fun p hp => by rw [List.mem_singleton] at hp; subst hp; exact ⟨h1, h2, h3⟩, List.pairwise_singleton ..⟩
theorem In.ofC2 {m cm : Str → Option Value} {n n' : Str} {c c' : Addr} (x : InCallC s L m [(n, c), (n', c')] cm s₁) (hn : (n' == n) = false) (hm : Has m l) : ∃ o o', In s L l [(c, cellP o (cm n)), (c', cellP o' (cm n'))] s₁ := by
  obtain ⟨o, h1, h2, h3⟩ := InC.core x (n := n) (c := c) (.head _) (by simp)
  obtain ⟨o', g1, g2, g3⟩ := InC.core x (n := n') (c := c') (.tail _ (.head _)) (by rw [List.lookup_cons, hn]; simp)
  refine ⟨o, o', x.toInCall.same, ⟨m, x.toInCall.ns, hm⟩, x.toInCall.keep, fun p hp => ?_, ?_⟩
  · rcases List.mem_cons.mp hp with rfl | hp
    · exact ⟨h1, h2, h3⟩
    · rw [List.mem_singleton] at hp; subst hp; exact ⟨g1, g2, g3⟩
  · refine List.pairwise_cons.mpr ⟨fun p hp => ?_, List.pairwise_singleton ..⟩
    rw [List.mem_singleton] at hp; subst hp
    exact (List.pairwise_cons.mp x.apart).1 (n', c') (.head _)
theorem lkSome {y : Str} : ∀ {l l' : List (Str × Addr)}, l.map (·.1) = l'.map (·.1) → (l.lookup y).isSome = (l'.lookup y).isSome
  | [], [], _ => rfl
  | [], _ :: _, h => by simp at h
  | _ :: _, [], h => by simp at h
  | (n, a) :: r, (n', a') :: r', h => by
    simp only [List.map_cons, List.cons.injEq] at h
    rw [List.lookup_cons, List.lookup_cons, h.1]
    cases y == n' with
    | true => rfl
    | false => exact lkSome h.2
/-- into a def that has cells -/
theorem enterC {a i n : Nat} {dV kV : Value} {args : List Value} {binds : List (Str × Value)} {ns : List Str}
    (W : Wd s.heap) (hq : (a, i, dV, kV) ∈ fnTab) (R : Rm (n + 1) A) (hb : ∀ pm cd doc, bindArgs (fdOf i dV kV pm cd doc) ⟨args, []⟩ = pure binds) (hns : binds.map (·.1) = ns)
    (hok : (ns.all (fun y => (fScope (stmtAt i)).names.lookup y == some .local || ((fScope (stmtAt i)).names.lookup y == some .cell && ((cellsFrom 0 (fScope (stmtAt i)).names []).lookup y).isSome)) && !(fScope (stmtAt i)).isCoroutine && !(fScope (stmtAt i)).isGenerator && (fScope (stmtAt i)).kind == .function) = true)
    (h : ∀ env L A' s₁, EnvIs env L (fScope (stmtAt i)) (cellsFrom (L + 1) (fScope (stmtAt i)).names []) → Rm n A' → interactive env = false → s.heap.get? L = none →
      InCallC s L (bindL (fun y => (fScope (stmtAt i)).names.lookup y) binds fun _ => none) (cellsFrom (L + 1) (fScope (stmtAt i)).names []) (bindC (fun y => (fScope (stmtAt i)).names.lookup y) binds fun _ => none) s₁ →
      wpAny (model PW w) A' (execs (fBody (stmtAt i)) env) (retQ Q) (fun _ _ => False) s₁) :
    wpAny (model PW w) A (call (.ref a) args) Q E s := by
  obtain ⟨o, pm, cd, doc, ho, hd, hc⟩ := W.fn _ hq
  simp only [Bool.and_eq_true, Bool.not_eq_true'] at hok
  obtain ⟨⟨⟨h2, h3⟩, h4⟩, h5⟩ := hok
  have hkf : (fScope (stmtAt i)).kind = .function := eq_of_beq h5
  refine wpAny_call (codeAny_call_cells (fd := fdOf i dV kV pm cd doc) (body := fBody (stmtAt i)) (binds := binds) R.room ho hd W.lim hc rfl (hb _ _ _) rfl (fun x hx => ?_) (fun s₁ x => ?_) h3 h4 hkf)
  · have := List.all_eq_true.mp h2 x.1 (by rw [← hns]; exact List.mem_map_of_mem hx)
    rw [Bool.or_eq_true, Bool.and_eq_true] at this
    rcases this with q | ⟨q1, q2⟩
    · exact .inl (eq_of_beq q)
    · exact .inr ⟨eq_of_beq q1, by rw [← lkSome (cellsFrom_names _ (s.heap.objs.size + 1) 0 [] [] rfl)] at q2; exact q2⟩
  · refine wpAny_mono (h (callEnvC (fdOf i dV kV pm cd doc) s.heap.objs.size a) s.heap.objs.size _ _ ⟨rfl, rfl, rfl, rfl, rfl, hkf⟩ (R.deeper _) ?_ (Heap.get?_none_of_le (Nat.le_refl _)) x) (fun f s' q => ?_) fun _ _ q => q.elim
    · show ((fScope (stmtAt i)).kind == .module && _) = false
      rw [hkf]; rfl
    · cases f <;> exact q
end
section
variable {w : World} {A : Around} {E : Value → Shared → Prop} {s₀ s : Shared} {env : Env} {L : Addr} {sc : Scope} {cl : List (Str × Addr)} {l l' : List (Str × Value)} {nw nw' : List (Addr × Obj)} {n : Str} {v : Value} {pos : Pos} {k : Nat}
theorem rC {M : Model} {Q : Value → Shared → Prop} {c : Addr} {o : Obj} (e : EnvIs env L sc cl) (hk : (sc.names.lookup n == some .cell) = true) (hc : cl.lookup n = some c) (hg : s.heap.get? c = some (cellP o (some v))) (h : Q v s) (hd : (n == ("__debug__" : Str)) = false) :
    wpAny M A (eval (.Name n pos) env) Q E s :=
  wpAny_Name (wpAny_loadName_cell e.k (e.kindOf hk) (by rw [e.cells]; exact hc) ⟨_, hg, rfl⟩ h) hd
theorem rF {M : Model} {Q : Value → Shared → Prop} {c : Addr} {o : Obj} (e : EnvIs env L sc cl) (hk : (sc.names.lookup n == some .free) = true) (hc : cl.lookup n = some c) (hg : s.heap.get? c = some (cellP o (some v))) (h : Q v s) (hd : (n == ("__debug__" : Str)) = false) (hcd : (n == ("__classdict__" : Str)) = false) :
    wpAny M A (eval (.Name n pos) env) Q E s :=
  wpAny_Name (wpAny_loadName_free e.k (e.kindOf hk) (by rw [e.cells]; exact hc) ⟨_, hg, rfl⟩ h hcd) hd
theorem rStCell {M : Model} {Q : Unit → Shared → Prop} {c : Addr} {o : Obj} {v₀ : Option Value} (e : EnvIs env L sc cl) (x : In s₀ L l nw s) (hk : (sc.names.lookup n == some .cell) = true) (hc : cl.lookup n = some c) (hm : (c, cellP o v₀) ∈ nw)
    (h : ∃ nw', UpdO c (cellP o v₀) (cellP o (some v)) nw nw' ∧ ∀ s', In s₀ L l nw' s' → Q () s') : wpAny M A (storeName env n v) Q E s := by
  obtain ⟨nw', u, h⟩ := h
  have hg := (x.nw _ hm).1
  unfold storeName
  simp only [e.kindOf hk, e.k]
  refine wpAny_bind (wpAny_cellOf (by rw [e.cells]; exact hc) ?_)
  unfold cellSet
  refine wpAny_bind (wpAny_load hg ?_)
  refine wpAny_update hg (h _ (x.turn (tk := s.toks) u (Heap.SameBut.update ..).extBut ?_))
  exact (Heap.get?_update_self (o := cellP o v₀) _ hg rfl).trans rfl
end
theorem lkaHit {n : Str} {v : Addr} {l : List (Str × Addr)} : List.lookup n ((n, v) :: l) = some v := by simp
theorem lkaMiss {n x : Str} {v u : Addr} {l : List (Str × Addr)} (h : (n == x) = false) (k : List.lookup n l = some v) : List.lookup n ((x, u) :: l) = some v := by rw [List.lookup_cons, h]; exact k
end Mine
end

section
open PySem PySem.W PyProof.Rows PySem.Calls
set_option maxRecDepth 100000
namespace Mine
/-- what the tables say of a name: a def, a built-in, a def as a value -/
structure FR (x : Str) (a i : Nat) (dV kV : Value) : Prop where
  hq : (a, i, dV, kV) ∈ fnTab
  hg : globs.lookup x = some (.ref a)
  hx : (x == ("__debug__" : Str)) = false
structure BR (x : Str) (v : Value) : Prop where
  hb : bnames.lookup x = some v
  hx : (x == ("__debug__" : Str)) = false
structure GR (x : Str) (v : Value) : Prop where
  hg : globs.lookup x = some v
  hx : (x == ("__debug__" : Str)) = false
theorem fr_fspath : FR "fspath" 94 9 .none .none := ⟨by decide, by decide +kernel, by decide +kernel⟩
theorem fr__get_sep : FR "_get_sep" 108 13 .none .none := ⟨by decide, by decide +kernel, by decide +kernel⟩
theorem fr_join : FR "join" 115 14 .none .none := ⟨by decide, by decide +kernel, by decide +kernel⟩
theorem fr_split : FR "split" 122 15 .none .none := ⟨by decide, by decide +kernel, by decide +kernel⟩
theorem fr_splitroot : FR "splitroot" 129 16 .none .none := ⟨by decide, by decide +kernel, by decide +kernel⟩
theorem fr_basename : FR "basename" 136 17 .none .none := ⟨by decide, by decide +kernel, by decide +kernel⟩
theorem fr_dirname : FR "dirname" 143 18 .none .none := ⟨by decide, by decide +kernel, by decide +kernel⟩
theorem fr_normpath : FR "normpath" 150 19 .none .none := ⟨by decide, by decide +kernel, by decide +kernel⟩
theorem fr_commonpath : FR "commonpath" 155 20 .none .none := ⟨by decide, by decide +kernel, by decide +kernel⟩
theorem fr__buffer : FR "_buffer" 162 22 .none .none := ⟨by decide, by decide +kernel, by decide +kernel⟩
theorem fr__truth : FR "_truth" 169 23 .none .none := ⟨by decide, by decide +kernel, by decide +kernel⟩
theorem fr_b2a_base64 : FR "b2a_base64" 177 25 .none (.ref 170) := ⟨by decide, by decide +kernel, by decide +kernel⟩
theorem fr_b64encode : FR "b64encode" 185 27 (.ref 178) .none := ⟨by decide, by decide +kernel, by decide +kernel⟩
theorem fr__strcoll : FR "_strcoll" 192 29 .none .none := ⟨by decide, by decide +kernel, by decide +kernel⟩
theorem fr__strxfrm : FR "_strxfrm" 199 30 .none .none := ⟨by decide, by decide +kernel, by decide +kernel⟩
theorem fr__grouping_intervals : FR "_grouping_intervals" 206 32 .none .none := ⟨by decide, by decide +kernel, by decide +kernel⟩
theorem fr__law_sizes : FR "_law_sizes" 213 34 .none .none := ⟨by decide, by decide +kernel, by decide +kernel⟩
theorem fr__law_octets : FR "_law_octets" 218 35 .none .none := ⟨by decide, by decide +kernel, by decide +kernel⟩
theorem fr__law_two : FR "_law_two" 225 36 .none .none := ⟨by decide, by decide +kernel, by decide +kernel⟩
theorem fr__law_signs : FR "_law_signs" 232 37 .none .none := ⟨by decide, by decide +kernel, by decide +kernel⟩
theorem fr__law_names : FR "_law_names" 239 38 .none .none := ⟨by decide, by decide +kernel, by decide +kernel⟩
theorem fr__law_cut : FR "_law_cut" 246 39 .none .none := ⟨by decide, by decide +kernel, by decide +kernel⟩
theorem fr__law_turned : FR "_law_turned" 253 40 .none .none := ⟨by decide, by decide +kernel, by decide +kernel⟩
theorem fr__law_turnings : FR "_law_turnings" 260 41 .none .none := ⟨by decide, by decide +kernel, by decide +kernel⟩
theorem fr__law_read : FR "_law_read" 265 42 .none .none := ⟨by decide, by decide +kernel, by decide +kernel⟩
theorem fr__law_runs : FR "_law_runs" 272 43 .none .none := ⟨by decide, by decide +kernel, by decide +kernel⟩
theorem fr__law_told : FR "_law_told" 279 44 .none .none := ⟨by decide, by decide +kernel, by decide +kernel⟩
theorem fr__law_ahead : FR "_law_ahead" 284 45 .none .none := ⟨by decide, by decide +kernel, by decide +kernel⟩
theorem br_type : BR "type" (.type "type") := ⟨by decide +kernel, by decide +kernel⟩
theorem br_issubclass : BR "issubclass" (.builtin "issubclass") := ⟨by decide +kernel, by decide +kernel⟩
theorem br_isinstance : BR "isinstance" (.builtin "isinstance") := ⟨by decide +kernel, by decide +kernel⟩
theorem br_len : BR "len" (.builtin "len") := ⟨by decide +kernel, by decide +kernel⟩
theorem br_min : BR "min" (.builtin "min") := ⟨by decide +kernel, by decide +kernel⟩
theorem br_max : BR "max" (.builtin "max") := ⟨by decide +kernel, by decide +kernel⟩
theorem br_sorted : BR "sorted" (.builtin "sorted") := ⟨by decide +kernel, by decide +kernel⟩
theorem br_range : BR "range" (.type "range") := ⟨by decide +kernel, by decide +kernel⟩
theorem br_tuple : BR "tuple" (.type "tuple") := ⟨by decide +kernel, by decide +kernel⟩
theorem br_map : BR "map" (.type "map") := ⟨by decide +kernel, by decide +kernel⟩
theorem br_enumerate : BR "enumerate" (.type "enumerate") := ⟨by decide +kernel, by decide +kernel⟩
theorem br_bytes : BR "bytes" (.type "bytes") := ⟨by decide +kernel, by decide +kernel⟩
theorem br_list : BR "list" (.type "list") := ⟨by decide +kernel, by decide +kernel⟩
theorem br_str : BR "str" (.type "str") := ⟨by decide +kernel, by decide +kernel⟩
theorem br_bool : BR "bool" (.type "bool") := ⟨by decide +kernel, by decide +kernel⟩
theorem br_int : BR "int" (.type "int") := ⟨by decide +kernel, by decide +kernel⟩
theorem br_float : BR "float" (.type "float") := ⟨by decide +kernel, by decide +kernel⟩
theorem br_complex : BR "complex" (.type "complex") := ⟨by decide +kernel, by decide +kernel⟩
theorem br_bytearray : BR "bytearray" (.type "bytearray") := ⟨by decide +kernel, by decide +kernel⟩
theorem br_dict : BR "dict" (.type "dict") := ⟨by decide +kernel, by decide +kernel⟩
theorem br_set : BR "set" (.type "set") := ⟨by decide +kernel, by decide +kernel⟩
theorem br_frozenset : BR "frozenset" (.type "frozenset") := ⟨by decide +kernel, by decide +kernel⟩
theorem gr_fspath : GR "fspath" (.ref 94) := ⟨by decide +kernel, by decide +kernel⟩
theorem gr__strxfrm : GR "_strxfrm" (.ref 199) := ⟨by decide +kernel, by decide +kernel⟩
section
variable {A : Around} {E : Value → Shared → Prop} {s₀ s : Shared} {L : Addr} {l : List (Str × Value)} {nw : List (Addr × Obj)} {env : Env} {sc : Scope} {cl : List (Str × Addr)} {w : World} {pos np : Pos} {Q : Value → Shared → Prop}
theorem cFn2 {x : Str} {a i : Nat} {dV kV : Value} {a1 : PySem.Expr} {args : List PySem.Expr} (r : FR x a i dV kV) (e : EnvIs env L sc cl) (y : In s₀ L l nw s) (W : Wd s₀.heap) (hk : (sc.names.lookup x == some .globalImplicit) = true)
    (h : wpAny (model PW w) A (spliced (backTo pos (starEach (a1 :: args) env))) (fun vs s₂ => Keep s₀.heap s₂.heap ∧ wpAny (model PW w) A (call (.ref a) vs) Q E s₂) E s)
    (hp : backTo pos (starEach (a1 :: args) env) = (false, eval a1 env) :: backTo pos (starEach args env)) :
    wpAny (model PW w) A (eval (.Call (.Name x np) (a1 :: args) [] pos) env) Q E s := cFn r.hq r.hg r.hx e y W hk h hp
theorem cBn2 {x : Str} {id : String} {a1 : PySem.Expr} {args : List PySem.Expr} (r : BR x (.builtin id)) (e : EnvIs env L sc cl) (y : In s₀ L l nw s) (W : Wd s₀.heap) (hk : (sc.names.lookup x == some .globalImplicit) = true)
    (h : wpAny (model PW w) A (spliced (backTo pos (starEach (a1 :: args) env))) (fun vs s₂ => wpAny (model PW w) A (call (.builtin id) vs) Q E s₂) E s)
    (hp : backTo pos (starEach (a1 :: args) env) = (false, eval a1 env) :: backTo pos (starEach args env)) (hs : (backTo pos (starEach (a1 :: args) env)).any (·.1) = false) :
    wpAny (model PW w) A (eval (.Call (.Name x np) (a1 :: args) [] pos) env) Q E s := cBn r.hb r.hx e y W hk h hp hs
theorem cTn2 {x : Str} {T : String} {a1 : PySem.Expr} {args : List PySem.Expr} (r : BR x (.type T)) (e : EnvIs env L sc cl) (y : In s₀ L l nw s) (W : Wd s₀.heap) (hk : (sc.names.lookup x == some .globalImplicit) = true)
    (h : wpAny (model PW w) A (spliced (backTo pos (starEach (a1 :: args) env))) (fun vs s₂ => wpAny (model PW w) A (call (.type T) vs) Q E s₂) E s)
    (hp : backTo pos (starEach (a1 :: args) env) = (false, eval a1 env) :: backTo pos (starEach args env)) (hs : (backTo pos (starEach (a1 :: args) env)).any (·.1) = false) :
    wpAny (model PW w) A (eval (.Call (.Name x np) (a1 :: args) [] pos) env) Q E s := cTn r.hb r.hx e y W hk h hp hs
theorem cFn02 {x : Str} {a i : Nat} {dV kV : Value} (r : FR x a i dV kV) (e : EnvIs env L sc cl) (y : In s₀ L l nw s) (W : Wd s₀.heap) (hk : (sc.names.lookup x == some .globalImplicit) = true)
    (h : wpAny (model PW w) A (call (.ref a) []) Q E s) : wpAny (model PW w) A (eval (.Call (.Name x np) [] [] pos) env) Q E s := cFn0 r.hq r.hg r.hx e y W hk h
variable {M : Model} {n : Str} {v : Value}
theorem rB2 (r : BR n v) (e : EnvIs env L sc cl) (x : In s₀ L l nw s) (W : Wd s₀.heap) (hk : (sc.names.lookup n == some .globalImplicit) = true) (h : Q v s) : wpAny M A (eval (.Name n pos) env) Q E s := rB e x W hk r.hb h r.hx
theorem rG2 (r : GR n v) (e : EnvIs env L sc cl) (x : In s₀ L l nw s) (W : Wd s₀.heap) (hk : (sc.names.lookup n == some .globalImplicit) = true) (h : Q v s) : wpAny M A (eval (.Name n pos) env) Q E s := rG e x W hk r.hg h r.hx
end
end Mine
end

section
/-! the words of the walk: a row of short words says a step; the local rules of the texts hold rows alone -/
namespace Mine
theorem ex_and {α : Sort _} {p q : α → Prop} (a : α) (h : p a) (k : q a) : ∃ a, p a ∧ q a := ⟨a, h, k⟩
theorem ex2_and {α β : Sort _} {p q : α → β → Prop} (a : α) (b : β) (h : p a b) (k : q a b) : ∃ a b, p a b ∧ q a b := ⟨a, b, h, k⟩
theorem ex3_and {α β γ : Sort _} {p q : α → β → γ → Prop} (a : α) (b : β) (c : γ) (h : p a b c) (k : q a b c) : ∃ a b c, p a b c ∧ q a b c := ⟨a, b, c, h, k⟩
theorem ble_ok {a b : Nat} (h : Nat.ble a b = true) : a ≤ b := Nat.le_of_ble_eq_true h
section
open Lean
set_option hygiene false
set_option compiler.extract_closed false
def wordT (s : String) : MacroM (TSyntax `tactic) := match s with
  | "a" => `(tactic| assumption)
  | "f" => `(tactic| rfl)
  | "d" => `(tactic| decide)
  | "D" => `(tactic| decide +kernel)
  | "w" => `(tactic| with_unfolding_all rfl)
  | "om" => `(tactic| omega)
  | "l1" => `(tactic| (simp only [List.length_append, List.length_cons, List.length_nil, List.length_replicate, List.length_take, List.length_drop, List.length_map, List.length_reverse, List.length_dropLast]; walk_at "sy"))
  | "l2" => `(tactic| (simp only [wt, List.map_cons, List.map_nil, List.sum_cons, List.sum_nil, List.length_append, List.length_cons, List.length_nil]; walk_at "sy"))
  | "l3" => `(tactic| (simp at *; walk_at "sy"))
  | "body" => `(tactic| show wpAny _ _ (execs (List.cons _ _) _) _ _ _)
  | k => `(tactic| walk_at $(Syntax.mkStrLit k):str)
def idOf (s : String) : Ident := mkIdent (s.splitOn "." |>.foldl Name.str .anonymous)
def tagOf (s : String) : MacroM Ident := do return mkIdent (← Macro.addMacroScope (Name.mkSimple s))
/-- a hole: «_» the goal that goes on, «.» to be found, a name with a sign ahead of it, else a hole of that name -/
def holeOf (s : String) : MacroM Term := if s == "_" then `(?_) else if s == "." then `(_) else
  match s.splitOn "=" with
  | [_, n] => pure ⟨(idOf n).raw⟩
  | _ => do let i ← tagOf s; `(?$i:ident)
def opT (s : String) : MacroM (TSyntax `tactic) := match s.splitOn " " with
  | ["i", n] => do let as := (← (List.replicate n.toNat! ".").mapM holeOf).toArray; `(tactic| intro $as*)
  | [w] => wordT w
  | k :: l :: hs => do
    let as := (← hs.mapM holeOf).toArray
    let f := idOf l
    let t : Term ← if as.isEmpty then pure ⟨f.raw⟩ else `($f $as*)
    if k == "R" then `(tactic| with_reducible refine' $t) else if k == "r" then `(tactic| with_reducible refine $t) else `(tactic| refine' $t)
  | [] => wordT s
def seqT (f : String → MacroM (TSyntax `tactic)) (l : List String) : MacroM (TSyntax `tactic) := do
  let xs ← l.mapM f
  match xs.reverse with
  | [] => wordT "a"
  | x :: r => r.foldlM (fun b a => `(tactic| ($a:tactic; $b:tactic))) x
def inT (s : String) : MacroM (TSyntax `tactic) := match s.splitOn ":" with
  | [c, t] => do let t ← wordT t; let c ← tagOf c; `(tactic| case $c:ident => $t:tactic)
  | _ => opT s
def caseT (s : String) : MacroM (TSyntax `tactic) := match s.splitOn ">" with
  | [c, t] => do let t ← seqT inT (t.splitOn ","); let c ← tagOf c; `(tactic| case $c:ident => $t:tactic)
  | _ => opT s
def rowT (s : String) : MacroM (TSyntax `tactic) := seqT caseT (s.splitOn ";")
def alts (l : List String) : MacroM (TSyntax `tactic) := do
  let xs ← l.mapM rowT
  match xs.reverse with
  | [] => wordT "a"
  | x :: r => r.foldlM (fun b a => `(tactic| first | $a:tactic | $b:tactic)) x
/-- the contract NAME: its three first holes are the state, the tables, the room; then its sides; then what it brings -/
def ctr (n : String) (sides : List String) (k : Nat) : MacroM (TSyntax `tactic) :=
  let ds := (List.range sides.length).map fun i => s!"d{i}"
  rowT (s!"R {n} c1 c2 c3 " ++ "".intercalate (ds.map (· ++ " ")) ++ "_;c1>a;c2>a;c3>P Rm.le c9 c8,c9:a,c8:d" ++ "".intercalate ((ds.zip sides).map fun (d, t) => s!";{d}>{t}") ++ s!";i {k}")
end
end Mine
end

section
open PySem PySem.W PyProof.Rows PySem.Calls
set_option maxRecDepth 100000
namespace Mine
local macro_rules | `(tactic| walk_at "l0") => alts ["P ble_ok c9;c9>f", "sz"]
local macro_rules | `(tactic| walk_at "sy") => alts ["a", "P Nat.le_trans c1 c2;c1>a;c2>d", "om"]
local macro_rules | `(tactic| walk_at "lk") => alts ["R lkHit", "R lkMiss u1 u2;u1>D;u2>lk"]
local macro_rules | `(tactic| walk_at "up") => alts ["R Upd'.hit", "R Upd'.nil", "R Upd'.miss u1 u2;u1>D;u2>up"]
local macro_rules | `(tactic| walk_at "sub") => alts ["P Sub'.nil", "P Sub'.cons u1 u2;u1>lk;u2>sub"]
local macro_rules | `(tactic| walk_at "sl") => alts ["R List.Sublist.refl .", "P List.nil_sublist .", "R List.Sublist.cons_cons . u1;u1>sl", "P List.Sublist.cons . u1;u1>sl"]
local macro_rules | `(tactic| walk_at "sz") => alts ["a", "P Nat.le_trans c1 c2;c1>a;c2>d", "om", "l1", "l2", "l3"]
local macro_rules | `(tactic| walk_at "tx") => alts ["a", "R Txs.nil", "R Txs.cons u1;u1>tx", "R Txs.append u1 u2;u1>tx;u2>tx", "R Txs.drop u1 .;u1>tx", "R Txs.take u1 .;u1>tx", "R Txs.dropLast u1;u1>tx"]
local macro_rules | `(tactic| walk_at "mem") => alts ["R List.mem_cons_self", "R List.mem_cons_of_mem . u1;u1>mem"]
local macro_rules | `(tactic| walk_at "uo") => alts ["R UpdO.hit", "R UpdO.miss u1;u1>uo"]
local macro_rules | `(tactic| walk_at "go") => alts ["R In.get1 u1 u2;u1>a;u2>mem", "R In.get0 u1 u2;u1>a;u2>a"]
local macro_rules | `(tactic| walk_at "fr") => alts ["R fr_fspath", "R fr__get_sep", "R fr_join", "R fr_split", "R fr_splitroot", "R fr_basename", "R fr_dirname", "R fr_normpath", "R fr_commonpath", "R fr__buffer", "R fr__truth", "R fr_b2a_base64", "R fr_b64encode", "R fr__strcoll", "R fr__strxfrm", "R fr__grouping_intervals", "R fr__law_sizes", "R fr__law_octets", "R fr__law_two", "R fr__law_signs", "R fr__law_names", "R fr__law_cut", "R fr__law_turned", "R fr__law_turnings", "R fr__law_read", "R fr__law_runs", "R fr__law_told", "R fr__law_ahead"]
local macro_rules | `(tactic| walk_at "br") => alts ["R br_type", "R br_issubclass", "R br_isinstance", "R br_len", "R br_min", "R br_max", "R br_sorted", "R br_range", "R br_tuple", "R br_map", "R br_enumerate", "R br_bytes", "R br_list"]
local macro_rules | `(tactic| walk_at "fn") => alts ["R cFn2 c1 c2 c3 c4 c5 _ c6;c1>fr;c2>a;c3>a;c4>a;c5>D;c6>f", "R cBn2 c1 c2 c3 c4 c5 _ c6 c7;c1>br;c2>a;c3>a;c4>a;c5>D;c6>f;c7>f", "R cTn2 c1 c2 c3 c4 c5 _ c6 c7;c1>br;c2>a;c3>a;c4>a;c5>D;c6>f;c7>f", "R cFn02 =fr__law_sizes c2 c3 c4 c5 _;c2>a;c3>a;c4>a;c5>D"]
local macro_rules | `(tactic| walk_at "la") => alts ["R lkaHit", "R lkaMiss u1 u2;u1>D;u2>la"]
local macro_rules | `(tactic| walk_at "bn") => alts ["R br_str", "R br_bytes", "R br_bool", "R br_int", "R br_float", "R br_complex", "R br_bytearray", "R br_list", "R br_tuple", "R br_dict", "R br_set", "R br_frozenset", "R br_range"]
local macro_rules | `(tactic| walk_at "gn") => alts ["R gr_fspath", "R gr__strxfrm"]
local macro_rules | `(tactic| walk_at "nm") => alts ["R rL c1 c2 c3 c4 _ c5;c1>a;c2>a;c3>D;c4>lk;c5>D", "R rC c1 c2 c3 c4 _ c5;c1>a;c2>D;c3>la;c4>go;c5>D", "R rB2 c1 c2 c3 c4 c5 _;c1>bn;c2>a;c3>a;c4>a;c5>D", "R rG2 c1 c2 c3 c4 c5 _;c1>gn;c2>a;c3>a;c4>a;c5>D"]
local macro_rules | `(tactic| walk_at "body") => alts ["body"]
local macro_rules | `(tactic| walk_at "bu") => alts ["R vIsBytesS c1 _;c1>a;i 2", "R vLenS c1 c2 _;c1>sz;c2>a;i 3", "R vLenL c1 c2 c3 _;c1>P isl c9,c9:go;c2>sz;c3>a;i 3", "r vStarts _", "r vEnds _", "R vRfindS c1 c2 _;c1>a;c2>a;i 3", "R vRstripS c1 c3 c2 _;c1>a;c2>a;c3>sz;i 3", "R vApp2 c1 c2 c3 c4;c1>a;c2>mem;c3>sz;i 1;P ex_and . c5 _;c5>uo;i 2", "R vSplit c1 c2 c3 c4 _;c1>a;c2>a;c3>a;c4>a;i 5", "R vJoin c1 c2 c3 c4 _;c1>P isl c9,c9:go;c2>tx;c3>sz;c4>a;i 3", "R vSorted c1 c2 c3 c4 _;c1>go;c2>tx;c3>sz;c4>a;i 6"]
local macro_rules | `(tactic| walk_at "ty") => alts ["r vTypeS _", "R vRange c1 _;c1>a;i 6"]
local macro_rules | `(tactic| walk_at "tr") => alts ["R vTruS c1 c2 _;c1>sz;c2>a;i 2", "R vTruL c1 c2 c3 _;c1>go;c2>sz;c3>a;i 2", "r wpAny_truthy_bool _"]
local macro_rules | `(tactic| walk_at "bi") => alts ["R vAddI c1 _;c1>a;i 3", "R vSubI c1 _;c1>a;i 3", "R vModI c1 c2 _;c1>d;c2>a;i 3", "R vDivI c1 c3 c2 _;c1>d;c2>a;c3>d;i 3", "R vAddS c1 c2 _;c1>sz;c2>a;i 3", "R vMulS c1 c2 c3 _;c1>f;c2>sz;c3>a;i 3", "R vAddL c1 c2 c3 c4 _;c1>go;c2>go;c3>sz;c4>a;i 3", "R vMulI c1 c2 _;c1>D;c2>a;i 3", "R vMulL c1 c2 c3 c4 _;c1>go;c2>a;c3>sz;c4>a;i 3", "R vSubB c1 _;c1>a;i 3"]
local macro_rules | `(tactic| walk_at "cm") => alts ["R vNotIn c1 c2 _;c1>go;c2>tx", "r vEqS _", "r vNeS _", "r vEqI _", "r vNeI _", "r vGtI _", "r vGeI _", "r vGtS _", "r vLtS _", "r vIsNone _", "r vIsNotNone _"]
local macro_rules | `(tactic| walk_at "mo") => alts ["r mo_startswith c1 c2 _;c1>f;c2>f", "r mo_endswith c1 c2 _;c1>f;c2>f", "r mo_rfind c1 c2 _;c1>f;c2>f", "r mo_rstrip c1 c2 _;c1>f;c2>f", "r mo_split c1 c2 _;c1>f;c2>f", "r mo_join c1 c2 _;c1>f;c2>f", "r mo_replace c1 c2 _;c1>f;c2>f", "r mo_append c3 c1 c2 _;c1>f;c2>f;c3>P lho c9,c9:go", "r mo_index c3 c1 c2 _;c1>f;c2>f;c3>P lho c9,c9:go"]
local macro_rules | `(tactic| walk_at "ta") => alts ["R tSlToH c1 c2 _ c3 c4;c1>sz;c2>a;c3>w;c4>i 1,w;i 3", "R tSlFromH c1 c2 _ c3 c4;c1>sz;c2>a;c3>w;c4>i 1,w;i 3", "R tSlToS e0 e1 c1 c2 _ c3 c4;e0>sz;e1>sz;c1>sz;c2>a;c3>w;c4>i 1,w;i 3", "R tSlFromS e0 e1 c1 c2 _ c3 c4;e0>sz;e1>sz;c1>sz;c2>a;c3>w;c4>i 1,w;i 3", "R tSlMidS e0 e1 e2 c1 c2 _ c3 c4;e0>sz;e1>sz;e2>sz;c1>sz;c2>a;c3>w;c4>i 1,w;i 3", "R tLsBut1 c1 c5 c2 _ c3;c1>go;c5>sz;c2>a;c3>w;i 3", "R tLsFrom c1 e0 c5 c2 _ c3;c1>go;e0>sz;c5>sz;c2>a;c3>w;i 3", "R tLsTo c1 e0 c5 c2 _ c3;c1>go;e0>sz;c5>sz;c2>a;c3>w;i 3", "R tLsMid c1 e0 e1 c5 c2 _ c3;c1>go;e0>sz;e1>sz;c5>sz;c2>a;c3>w;i 3"]
local macro_rules | `(tactic| walk_at "ev") => alts ["R rComp c1 c2 c3 c4 _ c8;c1>a;c2>f;c3>f;c4>D;c8>i 1,f", "R rInt c1 _;c1>a;i 3", "R rStrS =S_slash c1 _;c1>a;i 3", "R rStrS =S_dot c1 _;c1>a;i 3", "R rStrS =S_dd c1 _;c1>a;i 3", "R rStrS =S_nil c1 _;c1>a;i 3", "R rStrS =S_eq c1 _;c1>a;i 3", "R rStrS =S_pun c1 _;c1>a;i 3", "R rStrS =S_abc c1 _;c1>a;i 3", "R rStr c1 _;c1>a;i 3", "r wpAny_Constant_none _", "r wpAny_Constant_bool _", "r rTup _", "r rList _", "r wpAny_BinOp _", "r rSub _", "r wpAny_Slice _", "r wpAny_Compare1 _ c1;c1>f", "r wpAny_IfExp _", "r wpAny_UnaryOp _", "r BoolOp_or _", "r BoolOp_and _", "r BoolOp_one _"]
local macro_rules | `(tactic| walk_at "evc") => alts ["r eM c1 c2 c3 _;c1>f;c2>f;c3>f", "fn"]
local macro_rules | `(tactic| walk_at "xs") => alts ["R xComp c1 c2 c3 c4 c5 c6 c7 _ c8;c1>a;c2>f;c3>f;c4>D;c5>D;c6>D;c7>f;c8>i 1,f", "r xAssign _ c1;c1>f", "r xFor c1 _;c1>i 1,f", "r xReturn _", "r xReturnN _", "r xAug _", "r xIf _", "r xTry _", "r xPass _", "r xBreak _", "r xContinue _", "r xExpr _ c1 c2;c1>a;c2>f", "R xSwap2 c1 c2 c3 c4 _;c1>a;c2>D;c3>D;c4>D", "R xSwap3 c1 c2 c3 c5 c4 _;c1>a;c2>D;c3>D;c5>D;c4>D", "R xTup2K c1 c2 c3 c4 c5 _;c1>a;c2>D;c3>D;c4>D;c5>f", "R xTup2 c1 c2 _;c1>f;c2>f", "R xTup3 c1 c2 _;c1>f;c2>f", "r xNil _"]
local macro_rules | `(tactic| walk_at "tt") => alts ["r wpAny_isTrue_Compare1 _ c1;c1>f", "r wpAny_isTrue_Not _", "r wpAny_isTrue_BoolOp _", "r wpAny_isTrue_value _ c1;c1>f"]
local macro_rules | `(tactic| walk_at "ow") => alts ["R rSt c1 c2 c3 c4 c5 _;c1>a;c2>a;c3>a;c4>D;c5>up;i 2", "R rStCell c1 c2 c3 c4 c5 c6;c1>a;c2>a;c3>D;c4>la;c5>mem;P ex_and . c7 _;c7>uo;i 2", "r spC _ c1;c1>f", "r spN _", "r wpAny_tests_nil _", "r wpAny_tests_one _", "R rLn c1 c2 c3 c4 _;c1>a;c2>a;c3>D;c4>lk", "R rNewT c1 c2 _;c1>a;c2>l0;i 3", "R rNewL c1 c2 _;c1>a;c2>l0;i 3", "tr", "r wpAny_evalPart_some _", "r wpAny_evalPart_none _", "r wpAny_allTrue_And_cons _", "r wpAny_allTrue_And_nil _", "r wpAny_allTrue_Or_cons _", "r wpAny_allTrue_Or_nil _", "R rUnp c1 c2 c3 c4 _;c1>P Rm.hd c9,c9:a;c2>a;c3>P ist c9,c9:go;c4>f;i 2;P ex2_and . . c7 _;c7>f", "R rUnp c1 c2 c3 c4 _;c1>P Rm.hd c9,c9:a;c2>a;c3>P ist c9,c9:go;c4>f;i 2;P ex3_and . . . c7 _;c7>f", "R vUSub c1 _;c1>a;i 3", "R vIAddI c1 _;c1>a;i 3", "R vIAddS c1 c2 _;c1>sz;c2>a;i 3"]
local macro_rules | `(tactic| walk_at "m") => alts ["r gEvN _;nm", "r gEvC _;evc", "r gEv _;ev", "r gX _;xs", "r gRef _;ct", "r gBui _;bu", "r gTyp _;ty", "r gT _;tt", "r gBin _;bi", "r gCmp _;cm", "r gTail _;ta", "r gW _;ow", "P And.intro c0 _;c0>P In.keep c1,c1:a", "r tNext _", "r tRet _", "r tBrk _", "r tCont _", "r rqRet _", "r rqNext _", "r ifTT _", "r ifFF _", "mo", "P In.done c1;c1>a"]
section
section
variable {w : World} {A : Around} {E : Value → Shared → Prop} {s₀ s : Shared} {L : Addr} {l : List (Str × Value)} {nw : List (Addr × Obj)} {Q : Value → Shared → Prop} {p : Str} {t : Tok}
theorem c_fspath (W : Wd s.heap) (R : Rm 2 A) (h : ∀ s', Keeps s s' → Q (.str p t) s') : wpAny (model PW w) A (call (.ref 94) [.str p t]) Q E s := by
  refine enter (i := 9) (dV := .none) (kV := .none) (n := 1) W (by decide) R (binds := [("path", .str p t)]) (l := [("path", .str p t)]) (ns := ["path"]) (fun _ _ _ => BindsTo.of_eq (by with_unfolding_all rfl)) rfl rfl (by decide +kernel) fun env L A' s₁ e R' hi hL x => ?_
  clear R
  walk_at "body"
  repeat (walk_at "m")
  refine issub_str (In.nw (by assumption) _ (List.Mem.head _)).1 ?_
  repeat (walk_at "m")
  exact h _ (In.done (by assumption))
theorem k_fspath (x : In s₀ L l nw s) (W : Wd s₀.heap) (R : Rm 2 A) (h : ∀ s', In s₀ L l nw s' → Q (.str p t) s') : wpAny (model PW w) A (call (.ref 94) [.str p t]) Q E s :=
  c_fspath (x.wd W) R fun _ k => h _ (x.step k)
local macro_rules | `(tactic| walk_at "ct") => ctr "k_fspath" [] 2
theorem c_get_sep (W : Wd s.heap) (R : Rm 2 A) (h : ∀ t' s', Keeps s s' → Q (.str (S [47]) t') s') : wpAny (model PW w) A (call (.ref 108) [.str p t]) Q E s := by
  refine enter (i := 13) (dV := .none) (kV := .none) (n := 1) W (by decide) R (binds := [("path", .str p t)]) (l := [("path", .str p t)]) (ns := ["path"]) (fun _ _ _ => BindsTo.of_eq (by with_unfolding_all rfl)) rfl rfl (by decide +kernel) fun env L A' s₁ e R' hi hL x => ?_
  clear R
  walk_at "body"
  repeat (walk_at "m")
  exact h _ _ (In.done (by assumption))
theorem k_get_sep (x : In s₀ L l nw s) (W : Wd s₀.heap) (R : Rm 2 A) (h : ∀ t' s', In s₀ L l nw s' → Q (.str (S [47]) t') s') : wpAny (model PW w) A (call (.ref 108) [.str p t]) Q E s :=
  c_get_sep (x.wd W) R fun _ _ k => h _ _ (x.step k)
local macro_rules | `(tactic| walk_at "ct") => ctr "k_get_sep" [] 3
theorem c_basename {H T : List Nat} (hT : 47 ∉ T) (hz : H.length + T.length ≤ 1000) (W : Wd s.heap) (R : Rm 4 A) (h : ∀ t' s', Keeps s s' → Q (.str (S T) t') s') : wpAny (model PW w) A (call (.ref 136) [.str (S (H ++ 47 :: T)) t]) Q E s := by
  refine enter (i := 17) (dV := .none) (kV := .none) (n := 3) W (by decide) R (binds := [("p", .str (S (H ++ 47 :: T)) t)]) (l := [("p", .str (S (H ++ 47 :: T)) t)]) (ns := ["p"]) (fun _ _ _ => BindsTo.of_eq (by with_unfolding_all rfl)) rfl rfl (by decide +kernel) fun env L A' s₁ e R' hi hL x => ?_
  clear R
  walk_at "body"
  repeat (walk_at "m")
  exact h _ _ (In.done (by assumption))
theorem k_basename {H T : List Nat} (x : In s₀ L l nw s) (W : Wd s₀.heap) (R : Rm 4 A) (hT : 47 ∉ T) (hz : H.length + T.length ≤ 1000) (h : ∀ t' s', In s₀ L l nw s' → Q (.str (S T) t') s') : wpAny (model PW w) A (call (.ref 136) [.str (S (H ++ 47 :: T)) t]) Q E s :=
  c_basename hT hz (x.wd W) R fun _ _ k => h _ _ (x.step k)
theorem c_dirname {H T : List Nat} (hT : 47 ∉ T) (hH : H.getLast? ≠ some 47) (hz : H.length + T.length ≤ 1000) (W : Wd s.heap) (R : Rm 4 A) (h : ∀ t' s', Keeps s s' → Q (.str (S (hd' H)) t') s') : wpAny (model PW w) A (call (.ref 143) [.str (S (H ++ 47 :: T)) t]) Q E s := by
  refine enter (i := 18) (dV := .none) (kV := .none) (n := 3) W (by decide) R (binds := [("p", .str (S (H ++ 47 :: T)) t)]) (l := [("p", .str (S (H ++ 47 :: T)) t)]) (ns := ["p"]) (fun _ _ _ => BindsTo.of_eq (by with_unfolding_all rfl)) rfl rfl (by decide +kernel) fun env L A' s₁ e R' hi hL x => ?_
  clear R
  walk_at "body"
  repeat (walk_at "m")
  refine ifT (by simp) ?_
  repeat (walk_at "m")
  by_cases h0 : H = []
  · subst h0
    refine ifF (by decide) ?_
    repeat (walk_at "m")
    exact h _ _ (In.done (by assumption))
  · rw [ne_rep h0 hH]
    repeat (walk_at "m")
    have e2 : hd' H = H := if_neg h0
    rw [e2] at h
    exact h _ _ (In.done (by assumption))
theorem k_dirname {H T : List Nat} (x : In s₀ L l nw s) (W : Wd s₀.heap) (R : Rm 4 A) (hT : 47 ∉ T) (hH : H.getLast? ≠ some 47) (hz : H.length + T.length ≤ 1000) (h : ∀ t' s', In s₀ L l nw s' → Q (.str (S (hd' H)) t') s') : wpAny (model PW w) A (call (.ref 143) [.str (S (H ++ 47 :: T)) t]) Q E s :=
  c_dirname hT hH hz (x.wd W) R fun _ _ k => h _ _ (x.step k)
theorem c_split {H T : List Nat} (hT : 47 ∉ T) (hH : H.getLast? ≠ some 47) (hz : H.length + T.length ≤ 1000) (W : Wd s.heap) (R : Rm 4 A)
    (h : ∀ a t1 t2 s', Keeps s s' → s.heap.get? a = none → s'.heap.get? a = some { cls := .type "tuple", data := .seq #[.str (S (hd' H)) t1, .str (S T) t2] } → Q (.ref a) s') : wpAny (model PW w) A (call (.ref 122) [.str (S (H ++ 47 :: T)) t]) Q E s := by
  refine enter (i := 15) (dV := .none) (kV := .none) (n := 3) W (by decide) R (binds := [("p", .str (S (H ++ 47 :: T)) t)]) (l := [("p", .str (S (H ++ 47 :: T)) t)]) (ns := ["p"]) (fun _ _ _ => BindsTo.of_eq (by with_unfolding_all rfl)) rfl rfl (by decide +kernel) fun env L A' s₁ e R' hi hL x => ?_
  clear R
  walk_at "body"
  repeat (walk_at "m")
  refine ifT (by simp) ?_
  repeat (walk_at "m")
  by_cases h0 : H = []
  · subst h0
    refine ifF (by decide) ?_
    repeat (walk_at "m")
    exact h _ _ _ _ (In.done (by assumption)) (In.nw (by assumption) _ (List.Mem.head _)).2.2 (In.nw (by assumption) _ (List.Mem.head _)).1
  · rw [ne_rep h0 hH]
    repeat (walk_at "m")
    have e2 : hd' H = H := if_neg h0
    rw [e2] at h
    exact h _ _ _ _ (In.done (by assumption)) (In.nw (by assumption) _ (List.Mem.head _)).2.2 (In.nw (by assumption) _ (List.Mem.head _)).1
theorem k_split {H T : List Nat} (x : In s₀ L l nw s) (W : Wd s₀.heap) (R : Rm 4 A) (hT : 47 ∉ T) (hH : H.getLast? ≠ some 47) (hz : H.length + T.length ≤ 1000)
    (h : ∀ a t1 t2 s', In s₀ L l ((a, tupO [.str (S (hd' H)) t1, .str (S T) t2]) :: nw) s' → Q (.ref a) s') : wpAny (model PW w) A (call (.ref 122) [.str (S (H ++ 47 :: T)) t]) Q E s :=
  c_split hT hH hz (x.wd W) R fun _ _ _ _ k h1 h2 => h _ _ _ _ (x.more k h1 h2)
theorem c_splitroot {c : Nat} {r : List Nat} (hc : c ≠ 47) (hz : r.length ≤ 1000) (W : Wd s.heap) (R : Rm 4 A)
    (h : ∀ a t1 t2 t3 s', Keeps s s' → s.heap.get? a = none → s'.heap.get? a = some (tupO [.str (S []) t1, .str (S [47]) t2, .str (S (c :: r)) t3]) → Q (.ref a) s') : wpAny (model PW w) A (call (.ref 129) [.str (S (47 :: c :: r)) t]) Q E s := by
  refine enter (i := 16) (dV := .none) (kV := .none) (n := 3) W (by decide) R (binds := [("p", .str (S (47 :: c :: r)) t)]) (l := [("p", .str (S (47 :: c :: r)) t)]) (ns := ["p"]) (fun _ _ _ => BindsTo.of_eq (by with_unfolding_all rfl)) rfl rfl (by decide +kernel) fun env L A' s₁ e R' hi hL x => ?_
  clear R
  walk_at "body"
  repeat (walk_at "m")
  refine ifF (by simp) ?_
  repeat (walk_at "m")
  refine ifT (by simpa using hc) ?_
  repeat (walk_at "m")
  exact h _ _ _ _ _ (In.done (by assumption)) (In.nw (by assumption) _ (List.Mem.head _)).2.2 (In.nw (by assumption) _ (List.Mem.head _)).1
theorem k_splitroot {c : Nat} {r : List Nat} (x : In s₀ L l nw s) (W : Wd s₀.heap) (R : Rm 4 A) (hc : c ≠ 47) (hz : r.length ≤ 1000)
    (h : ∀ a t1 t2 t3 s', In s₀ L l ((a, tupO [.str (S []) t1, .str (S [47]) t2, .str (S (c :: r)) t3]) :: nw) s' → Q (.ref a) s') : wpAny (model PW w) A (call (.ref 129) [.str (S (47 :: c :: r)) t]) Q E s :=
  c_splitroot hc hz (x.wd W) R fun _ _ _ _ _ k h1 h2 => h _ _ _ _ _ (x.more k h1 h2)
local macro_rules | `(tactic| walk_at "ct") => ctr "k_basename" ["a", "sz"] 3
local macro_rules | `(tactic| walk_at "ct") => ctr "k_dirname" ["a", "a", "sz"] 3
local macro_rules | `(tactic| walk_at "ct") => ctr "k_split" ["a", "a", "sz"] 5
local macro_rules | `(tactic| walk_at "ct") => ctr "k_splitroot" ["a", "sz"] 6

noncomputable def jstep (a b : List Nat) : List Nat := if b.head? = some 47 ∨ a = [] then b else if a.getLast? = some 47 then a ++ b else a ++ 47 :: b
theorem bind_join {v0 : Value} {vs : List Value} {pm cd doc : Value} : bindArgs (fdOf 14 .none .none pm cd doc) ⟨v0 :: vs, []⟩ = (do let t ← newTuple vs; pure [("a", v0), ("p", t)]) := by
  cases vs <;> with_unfolding_all rfl
end
end
local macro_rules | `(tactic| walk_at "ct") => ctr "k_fspath" [] 2
local macro_rules | `(tactic| walk_at "ct") => ctr "k_get_sep" [] 3
local macro_rules | `(tactic| walk_at "ct") => ctr "k_basename" ["a", "sz"] 3
local macro_rules | `(tactic| walk_at "ct") => ctr "k_dirname" ["a", "a", "sz"] 3
local macro_rules | `(tactic| walk_at "ct") => ctr "k_split" ["a", "a", "sz"] 5
local macro_rules | `(tactic| walk_at "ct") => ctr "k_splitroot" ["a", "sz"] 6
section
theorem jstep_len (a b : List Nat) : (jstep a b).length ≤ a.length + (b.length + 1) := by
  unfold jstep; split
  · omega
  · split <;> simp <;> omega
theorem wt_take (ps : List (List Nat)) (i : Nat) : wt (ps.take i) ≤ wt ps := by
  induction ps generalizing i with
  | nil => simp [wt]
  | cons p r ih => cases i with
    | zero => simp [wt]
    | succ i => have := ih i; simp [wt] at this ⊢; omega
theorem wt_two {ps : List (List Nat)} {i : Nat} {q : List Nat} (h : ps[i]? = some q) : wt (ps.take i) + (q.length + 1) ≤ wt ps := by
  have h1 := wt_take ps (i + 1)
  rw [List.take_add_one, h] at h1
  simpa [wt] using h1
theorem jfold_len (ps : List (List Nat)) (a : List Nat) : (ps.foldl jstep a).length ≤ a.length + wt ps := by
  induction ps generalizing a with
  | nil => simp [wt]
  | cons p r ih =>
    have := ih (jstep a p); have := jstep_len a p
    simp only [List.foldl_cons, wt, List.map_cons, List.sum_cons] at *
    omega
section
variable {w : World} {A : Around} {E : Value → Shared → Prop} {s₀ s : Shared} {L : Addr} {l : List (Str × Value)} {nw : List (Addr × Obj)} {Q : Value → Shared → Prop} {p : Str} {t : Tok}
theorem c_join {a : List Nat} {vs : List Value} {ps : List (List Nat)} (ht : Txs vs ps) (hz : a.length + wt ps ≤ 1000) (W : Wd s.heap) (R : Rm 4 A) (h : ∀ t' s', Keeps s s' → Q (.str (S (ps.foldl jstep a)) t') s') :
    wpAny (model PW w) A (call (.ref 115) (.str (S a) t :: vs)) Q E s := by
  refine enterG (i := 14) (dV := .none) (kV := .none) (n := 3) (β := Addr) (mk := fun b => [("a", Value.str (S a) t), ("p", Value.ref b)]) (ml := fun b => [("p", Value.ref b), ("a", Value.str (S a) t)]) (mn := fun b => [(b, tupO vs)]) (ns := ["a", "p"]) W (by decide) R ?_ (fun _ => rfl) (fun _ => rfl) (by decide +kernel) fun b env L A' s₁ e R' hi hL x => ?_
  · intro pm cd doc Q' E' hq
    rw [bind_join]
    refine wpAny_bind (wpAny_newTuple (wpAny_pure (hq _ _ ⟨⟨_, _, rfl, fun _ _ e => Heap.get?_push_of_some _ e⟩, fun p hp => ?_, List.pairwise_singleton ..⟩)) ?_)
    · rw [List.mem_singleton] at hp; subst hp
      exact ⟨Heap.get?_push_size _ rfl, Heap.get?_none_of_le (Nat.le_refl _)⟩
    · have : ∀ ps : List (List Nat), ps.length ≤ wt ps := fun ps => by
        induction ps with
        | nil => simp [wt]
        | cons p r ih => simp [wt] at ih ⊢; omega
      have := this ps
      rw [ht.1, sizeLine_eq]; omega
  clear R
  walk_at "body"
  repeat (walk_at "m")
  rename_i ts _ _ _ _ s5 x5
  refine iterT (σ := List Nat × Tok) (fun i c => c.1 = (ps.take i).foldl jstep a) (fun c => [("sep", Value.str (S [47]) ts), ("path", Value.str (S c.1) c.2)]) (fun _ => [(b, tupO vs)]) (a, t)
    e hL (by decide +kernel) R' (x5.forget (by walk_at "sub")) (x5.tup (List.Mem.head _)) (.inr ⟨tupO vs, fun _ _ _ => .head _⟩) rfl ?_ ?_
  · rintro i v ⟨pth, tp⟩ I o s' hv hi y
    obtain ⟨q, u, hq, rfl⟩ := ht.2 i v hv
    dsimp only at hi y ⊢
    have hq1 : q.length + pth.length + 1 ≤ 1000 := by
      have := jfold_len (ps.take i) a; have := wt_two hq
      subst hi; omega
    have hstep : (ps.take (i + 1)).foldl jstep a = jstep pth q := by
      rw [List.take_add_one, hq, List.foldl_append, ← hi]; rfl
    repeat (walk_at "m")
    refine ifB (fun h1 => ?_) (fun h1 => ?_)
    · have e1 : jstep pth q = q := if_pos (.inl (by simpa using h1))
      repeat (walk_at "m")
      exact lqN (by assumption) (q, u) (by rw [hstep, e1]) (by walk_at "sub") (by walk_at "sl")
    · repeat (walk_at "m")
      refine ifB (fun h2 => ?_) (fun h2 => ?_)
      · have e1 : jstep pth q = q := if_pos (.inr (by simpa using h2))
        repeat (walk_at "m")
        exact lqN (by assumption) (q, u) (by rw [hstep, e1]) (by walk_at "sub") (by walk_at "sl")
      · have n1 : ¬ (q.head? = some 47 ∨ pth = []) := by
          rintro (h | h)
          · rw [h] at h1; simp at h1
          · rw [h] at h2; simp at h2
        repeat (walk_at "m")
        refine ifB (fun h3 => ?_) (fun h3 => ?_)
        · have e1 : jstep pth q = pth ++ q := (if_neg n1).trans (if_pos (by simpa using h3))
          repeat (walk_at "m")
          refine' lqN (by assumption) (pth ++ q, _) ?h1 ?h2 ?h3
          case h2 => dsimp only; walk_at "sub"
          case h3 => walk_at "sl"
          case h1 => exact (hstep.trans e1).symm
        · have e1 : jstep pth q = pth ++ 47 :: q := (if_neg n1).trans (if_neg (by simpa using h3))
          repeat (walk_at "m")
          refine' lqN (by assumption) (pth ++ ([47] ++ q), _) ?h1 ?h2 ?h3
          case h2 => dsimp only; walk_at "sub"
          case h3 => walk_at "sl"
          case h1 => exact (hstep.trans e1).symm
  · rintro ⟨pth, tp⟩ s' hi y
    dsimp only at hi y
    rw [List.take_of_length_le (by rw [ht.1]; exact Nat.le_refl _)] at hi
    subst hi
    repeat (walk_at "m")
    exact h _ _ (In.done (by assumption))
theorem k_join {a : List Nat} {vs : List Value} {ps : List (List Nat)} (x : In s₀ L l nw s) (W : Wd s₀.heap) (R : Rm 4 A) (ht : Txs vs ps) (hz : a.length + wt ps ≤ 1000) (h : ∀ t' s', In s₀ L l nw s' → Q (.str (S (ps.foldl jstep a)) t') s') :
    wpAny (model PW w) A (call (.ref 115) (.str (S a) t :: vs)) Q E s := c_join ht hz (x.wd W) R fun _ _ k => h _ _ (x.step k)
local macro_rules | `(tactic| walk_at "ct") => ctr "k_join" ["tx", "sz"] 3
end
end
local macro_rules | `(tactic| walk_at "ct") => ctr "k_join" ["tx", "sz"] 3
section
noncomputable def okc (p : List Nat) : Bool := !(p.isEmpty || p == [46])
section
variable {w : World} {A : Around} {E : Value → Shared → Prop} {s₀ s : Shared} {L : Addr} {l : List (Str × Value)} {nw : List (Addr × Obj)} {Q : Value → Shared → Prop} {p : Str} {t : Tok}
theorem c_normpath {cs : List (List Nat)} (hne : cs ≠ []) (hh : cs.head? ≠ some []) (hf : ∀ p ∈ cs, 47 ∉ p) (hd : ∀ p ∈ cs, p ≠ [46, 46]) (hz : (jn 47 cs).length ≤ 900) (W : Wd s.heap) (R : Rm 8 A)
    (h : ∀ t' s', Keeps s s' → Q (.str (S (47 :: jn 47 (cs.filter okc))) t') s') : wpAny (model PW w) A (call (.ref 150) [.str (S (47 :: jn 47 cs)) t]) Q E s := by
  refine enter (i := 19) (dV := .none) (kV := .none) (n := 7) W (by decide) R (binds := [("path", .str (S (47 :: jn 47 cs)) t)]) (l := [("path", .str (S (47 :: jn 47 cs)) t)]) (ns := ["path"]) (fun _ _ _ => BindsTo.of_eq (by with_unfolding_all rfl)) rfl rfl (by decide +kernel) fun env L A' s₁ e R' hi hL x => ?_
  clear R
  obtain ⟨p0, r0, a0, q0, ec, ej⟩ := jn_head (c := 47) hne hh
  have ha0 : a0 ≠ 47 := fun q => hf (a0 :: p0) (by rw [ec]; simp) (by rw [q]; simp)
  have hz1 : q0.length ≤ 899 := by rw [ej] at hz; simp at hz; omega
  rw [ej] at x
  walk_at "body"
  repeat (walk_at "m")
  refine ifF (by simp) ?_
  repeat (walk_at "m")
  rw [← ej] at *
  have hz2 : (jn 47 cs).length ≤ 1000 := by omega
  repeat (walk_at "m")
  rename_i D vs _ tx _ _ _ b _ _ _ x5
  have hlen : cs.length ≤ 1000 := by have := jn_sum 47 cs; omega
  refine' iterL (σ := Tok × Tok × Tok × Tok × List Value × Nat) (fun i c => Txs c.2.2.2.2.1 ((cs.take i).filter okc)) (fun c => [("sep", .str (S [47]) c.1), ("dot", .str (S [46]) c.2.1), ("dotdot", .str (S [46, 46]) c.2.2.1), ("initial_slashes", .str (S [47]) c.2.2.2.1), ("new_comps", .ref b)])
    (fun c => [(b, lstO c.2.2.2.2.1 c.2.2.2.2.2), (D, lstO vs 0)]) (_, _, _, _, [], 0) e hL (by decide +kernel) R' ?x0 (x5.lst (by walk_at "mem")) (.inr ⟨lstO vs 0, fun _ _ _ => by simp⟩) Txs.nil ?b ?e
  case x0 => 
    refine' (In.forget x5 ?_).drop ?_
    · dsimp only; walk_at "sub"
    · dsimp only; walk_at "sl"
  case b =>
    rintro i v ⟨t1, t2, t3, t4, acc, n⟩ I o s' hv hi y
    obtain ⟨q, u, hq, rfl⟩ := tx.2 i v hv
    dsimp only at hi y ⊢
    have hqm : q ∈ cs := List.mem_of_getElem? hq
    have hql : q.length ≤ 1000 := by have := jn_mem 47 hqm; omega
    have hstep : (cs.take (i + 1)).filter okc = (cs.take i).filter okc ++ (if okc q then [q] else []) := by
      rw [List.take_add_one, hq, List.filter_append]
      cases h : okc q <;> simp [h]
    have hacc : acc.length ≤ 1000 := by
      rw [hi.1]; have := List.length_filter_le okc (cs.take i); have := List.length_take_le' i cs; omega
    repeat (walk_at "m")
    refine ifB (fun h1 => ?_) (fun h1 => ?_)
    · have e1 : okc q = false := by unfold okc; simp at h1 ⊢; simp [h1]
      rw [e1] at hstep
      have hs2 : List.filter okc (List.take (i + 1) cs) = List.filter okc (List.take i cs) := by simpa using hstep
      repeat (walk_at "m")
      refine' lqC (by assumption) (_, _, _, _, acc, n) ?h1 ?h2 ?h3
      case h2 => dsimp only; walk_at "sub"
      case h3 => walk_at "sl"
      case h1 => dsimp only; rw [hs2]; exact hi
    · repeat (walk_at "m")
      refine ifB (fun h2 => ?_) (fun h2 => ?_)
      · have e1 : okc q = false := by unfold okc; simp at h2 ⊢; simp [h2]
        rw [e1] at hstep
        have hs2 : List.filter okc (List.take (i + 1) cs) = List.filter okc (List.take i cs) := by simpa using hstep
        repeat (walk_at "m")
        refine' lqC (by assumption) (_, _, _, _, acc, n) ?h1 ?h2 ?h3
        case h2 => dsimp only; walk_at "sub"
        case h3 => walk_at "sl"
        case h1 => dsimp only; rw [hs2]; exact hi
      · have e1 : okc q = true := by unfold okc; simp at h1 h2 ⊢; exact ⟨h1, h2⟩
        rw [e1] at hstep
        have hs2 : List.filter okc (List.take (i + 1) cs) = List.filter okc (List.take i cs) ++ [q] := by simpa using hstep
        repeat (walk_at "m")
        refine ifT (by simpa using hd q hqm) ?_
        repeat (walk_at "m")
        refine' lqN (by assumption) (_, _, _, _, acc ++ [.str (S q) u], _) ?h1 ?h2 ?h3
        case h2 => dsimp only; walk_at "sub"
        case h3 => walk_at "sl"
        case h1 => dsimp only; rw [hs2]; exact hi.snoc
  case e =>
    rintro ⟨t1, t2, t3, t4, acc, n⟩ s' hi y
    dsimp only at hi y ⊢
    rw [tx.1, List.take_length] at hi
    repeat (walk_at "m")
    have hsum : ((List.filter okc cs).map (·.length)).sum + (List.filter okc cs).length ≤ 1000 := by
      have := filt_sum okc cs; have := jn_sum 47 cs; omega
    have hjn := jn_sum2 47 (List.filter okc cs)
    repeat (walk_at "m")
    refine ifT (by simp) ?_
    repeat (walk_at "m")
    exact h _ _ (In.done (by assumption))
theorem k_normpath {cs : List (List Nat)} (x : In s₀ L l nw s) (W : Wd s₀.heap) (R : Rm 8 A) (hne : cs ≠ []) (hh : cs.head? ≠ some []) (hf : ∀ p ∈ cs, 47 ∉ p) (hd : ∀ p ∈ cs, p ≠ [46, 46]) (hz : (jn 47 cs).length ≤ 900)
    (h : ∀ t' s', In s₀ L l nw s' → Q (.str (S (47 :: jn 47 (cs.filter okc))) t') s') : wpAny (model PW w) A (call (.ref 150) [.str (S (47 :: jn 47 cs)) t]) Q E s :=
  c_normpath hne hh hf hd hz (x.wd W) R fun _ _ k => h _ _ (x.step k)
local macro_rules | `(tactic| walk_at "ct") => ctr "k_normpath" ["a", "a", "a", "a", "sz"] 3
end
/-- what may stand as a name -/
noncomputable def Nm (p : List Nat) : Prop := p ≠ [] ∧ 47 ∉ p ∧ p ≠ [46] ∧ p ≠ [46, 46]
theorem Nm.okc {p : List Nat} (h : Nm p) : okc p = true := by unfold Mine.okc; simp; exact ⟨h.1, h.2.2.1⟩
/-- every name behind a slash -/
noncomputable def pt (ns : List (List Nat)) : List Nat := ns.flatMap (47 :: ·)
theorem pt_cons (p : List Nat) (ns : List (List Nat)) : pt (p :: ns) = 47 :: p ++ pt ns := rfl
theorem pt_app (a b : List (List Nat)) : pt (a ++ b) = pt a ++ pt b := by simp [pt]
theorem pt_snoc (a : List (List Nat)) (p : List Nat) : pt (a ++ [p]) = pt a ++ 47 :: p := by simp [pt]
theorem pt_jn : ∀ ns : List (List Nat), ns ≠ [] → pt ns = 47 :: jn 47 ns
  | [], h => absurd rfl h
  | [x], _ => by simp [pt, jn]
  | x :: y :: r, _ => by
    have ih := pt_jn (y :: r) (by simp)
    rw [pt_cons, ih]; simp [jn]
theorem pt_last {ns : List (List Nat)} (h : ∀ p ∈ ns, Nm p) : (pt ns).getLast? ≠ some 47 := by
  rcases List.eq_nil_or_concat ns with rfl | ⟨a, p, rfl⟩
  · simp [pt]
  · have hp := h p (by simp)
    rw [List.concat_eq_append, pt_snoc]
    have : (pt a ++ 47 :: p).getLast? = p.getLast? := by
      cases p with
      | nil => exact absurd rfl hp.1
      | cons c r => rw [List.getLast?_append]; simp [List.getLast?_cons]
    rw [this]
    intro e
    exact hp.2.1 (List.mem_of_getLast? e)
theorem pt_len (ns : List (List Nat)) : (pt ns).length = (ns.map (·.length)).sum + ns.length := by
  induction ns with
  | nil => rfl
  | cons p r ih => rw [pt_cons]; simp only [List.length_append, List.length_cons, ih, List.map_cons, List.sum_cons]; omega
theorem pt_nil {ns : List (List Nat)} : pt ns = [] ↔ ns = [] := by
  cases ns with
  | nil => simp [pt]
  | cons p r => simp [pt_cons]
section
variable {w : World} {A : Around} {E : Value → Shared → Prop} {s₀ s : Shared} {L : Addr} {l : List (Str × Value)} {nw : List (Addr × Obj)} {Q : Value → Shared → Prop} {p : Str} {t : Tok}
theorem c_turned {a : List (List Nat)} {p : List Nat} (ha : ∀ q ∈ a, Nm q) (hp : Nm p) (hz : (pt (a ++ [p])).length ≤ 250) (W : Wd s.heap) (R : Rm 10 A)
    (h : ∀ t' s', Keeps s s' → Q (.str (S (pt (p :: a))) t') s') : wpAny (model PW w) A (call (.ref 253) [.str (S (pt (a ++ [p]))) t]) Q E s := by
  have hz2 : (pt a).length + p.length + 1 ≤ 250 := by rw [pt_snoc] at hz; simp at hz; omega
  rw [pt_snoc]
  refine enter (i := 40) (dV := .none) (kV := .none) (n := 9) W (by decide) R (binds := [("path", .str (S (pt a ++ 47 :: p)) t)]) (l := [("path", .str (S (pt a ++ 47 :: p)) t)]) (ns := ["path"]) (fun _ _ _ => BindsTo.of_eq (by with_unfolding_all rfl)) rfl rfl (by decide +kernel) fun env L A' s₁ e R' hi hL x => ?_
  clear R
  have hT := hp.2.1
  have hH := pt_last ha
  have hhd : (hd' (pt a)).length ≤ 250 := by unfold hd'; split <;> first | omega | (simp; done)
  walk_at "body"
  repeat (walk_at "m")
  have hj : List.foldl jstep (hd' (pt a)) [[47] ++ p, [46] ++ hd' (pt a)] = 47 :: jn 47 (p :: [46] :: (if a = [] then [[]] else a)) := by
    obtain ⟨c, r, rfl⟩ := List.exists_cons_of_ne_nil hp.1
    have hl : (47 :: c :: r).getLast? ≠ some 47 := by
      rw [List.getLast?_cons_cons]; intro e; exact hT (List.mem_of_getLast? e)
    show jstep (jstep (hd' (pt a)) (47 :: c :: r)) (46 :: hd' (pt a)) = _
    have e1 : jstep (hd' (pt a)) (47 :: c :: r) = 47 :: c :: r := if_pos (.inl rfl)
    have e2 : jstep (47 :: c :: r) (46 :: hd' (pt a)) = (47 :: c :: r) ++ 47 :: 46 :: hd' (pt a) := (if_neg (by rintro (h | h) <;> simp at h)).trans (if_neg hl)
    rw [e1, e2]
    cases a with
    | nil => rfl
    | cons q a =>
      have e3 : hd' (pt (q :: a)) = pt (q :: a) := if_neg (by rw [pt_nil]; simp)
      rw [e3, pt_jn _ (by simp)]
      simp [jn]
  rw [hj]
  have hcs : (jn 47 (p :: [46] :: (if a = [] then [[]] else a))).length ≤ 900 := by
    have := congrArg List.length hj
    have h2 := jfold_len [[47] ++ p, [46] ++ hd' (pt a)] (hd' (pt a))
    simp only [wt, List.map_cons, List.map_nil, List.sum_cons, List.sum_nil, List.length_append, List.length_cons, List.length_nil] at h2 this
    omega
  have hm : ∀ q ∈ p :: [46] :: (if a = [] then [[]] else a), 47 ∉ q ∧ q ≠ [46, 46] := by
    intro q hq
    rcases List.mem_cons.mp hq with rfl | hq
    · exact ⟨hp.2.1, hp.2.2.2⟩
    rcases List.mem_cons.mp hq with rfl | hq
    · decide
    split at hq
    · rw [List.mem_singleton] at hq; subst hq; decide
    · exact ⟨(ha q hq).2.1, (ha q hq).2.2.2⟩
  have h1 : p :: [46] :: (if a = [] then [[]] else a) ≠ [] := by simp
  have h2 : (p :: [46] :: (if a = [] then [[]] else a)).head? ≠ some [] := by simpa using hp.1
  have h3 : ∀ q ∈ p :: [46] :: (if a = [] then [[]] else a), 47 ∉ q := fun q hq => (hm q hq).1
  have h4 : ∀ q ∈ p :: [46] :: (if a = [] then [[]] else a), q ≠ [46, 46] := fun q hq => (hm q hq).2
  have h5 : 47 :: jn 47 ((p :: [46] :: (if a = [] then [[]] else a)).filter okc) = pt (p :: a) := by
    rw [pt_jn _ (by simp)]
    have e1 : okc [46] = false := rfl
    cases a with
    | nil =>
      have e2 : okc [] = false := rfl
      rw [if_pos rfl, List.filter_cons, hp.okc, if_pos rfl, List.filter_cons, e1, if_neg (by decide), List.filter_cons, e2, if_neg (by decide)]; rfl
    | cons q a =>
      have : List.filter okc (q :: a) = q :: a := List.filter_eq_self.mpr fun r hr => (ha r hr).okc
      rw [if_neg (by simp), List.filter_cons, hp.okc, if_pos rfl, List.filter_cons, e1, if_neg (by decide), this]
  generalize (p :: [46] :: (if a = [] then [[]] else a)) = cs at *
  refine' k_normpath (by assumption) W (Rm.le (by assumption) (by decide)) h1 h2 h3 h4 hcs ?_
  intro _ _ _
  repeat (walk_at "m")
  rw [h5]
  exact h _ _ (In.done (by assumption))
theorem k_turned {a : List (List Nat)} {p : List Nat} (x : In s₀ L l nw s) (W : Wd s₀.heap) (R : Rm 10 A) (ha : ∀ q ∈ a, Nm q) (hp : Nm p) (hz : (pt (a ++ [p])).length ≤ 250)
    (h : ∀ t' s', In s₀ L l nw s' → Q (.str (S (pt (p :: a))) t') s') : wpAny (model PW w) A (call (.ref 253) [.str (S (pt (a ++ [p]))) t]) Q E s :=
  c_turned ha hp hz (x.wd W) R fun _ _ k => h _ _ (x.step k)
local macro_rules | `(tactic| walk_at "ct") => ctr "k_turned" ["a", "a", "sz"] 3
end
end
local macro_rules | `(tactic| walk_at "ct") => ctr "k_normpath" ["a", "a", "a", "a", "sz"] 3
local macro_rules | `(tactic| walk_at "ct") => ctr "k_turned" ["a", "a", "sz"] 3
section
/-- the names turned k times -/
noncomputable def rot (ns : List (List Nat)) (k : Nat) : List (List Nat) := ns.drop (ns.length - k) ++ ns.take (ns.length - k)
section
variable {w : World} {A : Around} {E : Value → Shared → Prop} {s₀ s : Shared} {L : Addr} {l : List (Str × Value)} {nw : List (Addr × Obj)} {Q : Value → Shared → Prop} {p : Str} {t : Tok}
theorem c_turnings {ns : List (List Nat)} {D : Addr} {vs : List Value} {m : Nat} (hD : s.heap.get? D = some (lstO vs m)) (ht : Txs vs ns) (hn : ∀ q ∈ ns, Nm q) (h0 : ns ≠ []) (hz : (pt ns).length ≤ 250) (W : Wd s.heap) (R : Rm 14 A)
    (h : ∀ F ws k s', Keeps s s' → s.heap.get? F = none → s'.heap.get? F = some (lstO ws k) → Txs ws ((List.range ns.length).map fun i => pt (rot ns i)) → Q (.ref F) s') : wpAny (model PW w) A (call (.ref 260) [.str (S (pt ns)) t, .ref D]) Q E s := by
  refine enter (i := 41) (dV := .none) (kV := .none) (n := 13) W (by decide) R (binds := [("path", .str (S (pt ns)) t), ("names", .ref D)]) (l := [("names", .ref D), ("path", .str (S (pt ns)) t)]) (ns := ["path", "names"]) (fun _ _ _ => BindsTo.of_eq (by with_unfolding_all rfl)) rfl rfl (by decide +kernel) fun env L A' s₁ e R' hi hL x => ?_
  clear R
  have hvl : vs.length ≤ 250 := by rw [ht.1]; have := pt_len ns; omega
  walk_at "body"
  repeat (walk_at "m")
  rename_i rg _ _ _ s5 x5
  rw [ht.1] at x5
  have hr0 : rot ns 0 = ns := by simp [rot]
  have hrn : rot ns ns.length = ns := by simp [rot]
  have hrs : ∀ i < ns.length, ∃ a p, rot ns i = a ++ [p] ∧ rot ns (i + 1) = p :: a ∧ (∀ q ∈ a, Nm q) ∧ Nm p := by
    intro i hi
    have hlt : ns.length - (i + 1) < ns.length := Nat.sub_lt (Nat.lt_of_le_of_lt (Nat.zero_le _) hi) (Nat.succ_pos _)
    have e3 : ns.length - i = ns.length - (i + 1) + 1 := sb0 hi
    refine ⟨ns.drop (ns.length - i) ++ ns.take (ns.length - (i + 1)), ns[ns.length - (i + 1)], ?_, ?_, ?_, hn _ (List.getElem_mem _)⟩
    · unfold rot
      rw [e3, List.append_assoc, List.take_succ_eq_append_getElem hlt]
    · unfold rot
      rw [List.drop_eq_getElem_cons hlt, ← e3]; rfl
    · intro q hq
      rcases List.mem_append.mp hq with h | h
      · exact hn q (List.mem_of_mem_drop h)
      · exact hn q (List.mem_of_mem_take h)
  have hrz : ∀ i, (pt (rot ns i)).length ≤ 250 := by
    intro i
    have e : (pt (rot ns i)).length = (pt ns).length := by
      unfold rot
      rw [pt_app, List.length_append, Nat.add_comm, ← List.length_append, ← pt_app, List.take_append_drop]
    omega
  refine' iterR (m := ns.length) (σ := Nat × Addr × Tok × Tok × List Value × Nat) (fun i c => c.1 = i ∧ Txs c.2.2.2.2.1 ((List.range i).map fun i => pt (rot ns i))) (fun c => [("names", .ref D), ("path", .str (S (pt ns)) t), ("rows", .ref c.2.1), ("here", .str (S (pt (rot ns c.1))) c.2.2.1), ("count", .int ns.length c.2.2.2.1)])
    (fun c => [(c.2.1, lstO c.2.2.2.2.1 c.2.2.2.2.2)]) (0, _, _, _, [], 0) e hL (by decide +kernel) R' (by rw [ht.1] at hvl; omega) ?x0 (x5.get1 (by walk_at "mem")) ⟨rfl, Txs.nil⟩ ?gb ?ge
  case x0 =>
    refine' (In.forget x5 ?_).drop ?_
    · dsimp only; rw [hr0]; walk_at "sub"
    · dsimp only; walk_at "sl"
  case gb =>
    rintro i tk ⟨j, RW, t1, t2, acc, n⟩ I o s' hv ⟨rfl, hi⟩ y
    obtain ⟨a, p, e1, e2, ha, hp⟩ := hrs j hv
    dsimp only at hi y ⊢
    have hal : acc.length ≤ 250 := by rw [hi.1, List.length_map, List.length_range]; exact Nat.le_trans (Nat.le_of_lt hv) (ht.1 ▸ hvl)
    have hk : ((ns.length : Int) - (j : Int)).toNat = ns.length - j := i2s (Nat.le_of_lt hv)
    have hd0 := i2d (Nat.le_of_lt hv)
    have hw : vs.length - ((ns.length : Int) - (j : Int)).toNat + min ((ns.length : Int) - (j : Int)).toNat vs.length ≤ 100000 := Nat.le_trans (Nat.add_le_add (Nat.sub_le _ _) (Nat.min_le_right _ _)) (Nat.le_trans (Nat.add_le_add hvl hvl) (by decide))
    have hsm : ((ns.drop ((ns.length : Int) - (j : Int)).toNat ++ ns.take ((ns.length : Int) - (j : Int)).toNat).map (·.length)).sum + (ns.drop ((ns.length : Int) - (j : Int)).toNat ++ ns.take ((ns.length : Int) - (j : Int)).toNat).length ≤ 1000 := by
      have := hrz j; rw [pt_len] at this; rw [hk]; exact Nat.le_trans this (by decide)
    have hjz := jn_sum2 47 (ns.drop ((ns.length : Int) - (j : Int)).toNat ++ ns.take ((ns.length : Int) - (j : Int)).toNat)
    have htold : ns.drop ((ns.length : Int) - (j : Int)).toNat ++ ns.take ((ns.length : Int) - (j : Int)).toNat = a ++ [p] := by rw [hk]; exact e1
    have hsm2 : (((ns.drop ((ns.length : Int) - (j : Int)).toNat ++ ns.take ((ns.length : Int) - (j : Int)).toNat).dropLast).map (·.length)).sum + ((ns.drop ((ns.length : Int) - (j : Int)).toNat ++ ns.take ((ns.length : Int) - (j : Int)).toNat).dropLast).length ≤ 1000 := by
      have := hrz j; rw [htold, List.dropLast_concat]; rw [e1, pt_snoc, List.length_append, pt_len] at this; omega
    have hjz2 := jn_sum2 47 (ns.drop ((ns.length : Int) - (j : Int)).toNat ++ ns.take ((ns.length : Int) - (j : Int)).toNat).dropLast
    have hpz := hrz j
    rw [e1, pt_snoc] at y hpz
    rw [List.length_append, List.length_cons] at hpz
    have hT := hp.2.1
    have hH := pt_last ha
    repeat (walk_at "m")
    have hb : (pt a ++ 47 :: p != [47] ++ jn 47 (ns.drop ((ns.length : Int) - (j : Int)).toNat ++ ns.take ((ns.length : Int) - (j : Int)).toNat)) = false := by
      rw [htold, ← pt_snoc, pt_jn (a ++ [p]) (by simp)]; simp
    refine ifF (by rw [hb]; decide) ?_
    repeat (walk_at "m")
    have hx := (Txs.append (ht.drop ((ns.length : Int) - (j : Int)).toNat) (ht.take ((ns.length : Int) - (j : Int)).toNat))
    rw [htold] at hx
    obtain ⟨u, hu⟩ := hx.get (i := a.length) (p := p) (by simp)
    have hxl := hx.1.trans (show (a ++ [p]).length = a.length + 1 by simp)
    refine' tIxLast (v := .str (S p) u) ?c1 ?c2 ?c3 ?_ ?c4
    case c1 => walk_at "go"
    case c2 => walk_at "sz"
    case c3 => rw [hxl]; exact hu
    case c4 => with_unfolding_all rfl
    repeat (walk_at "m")
    have hh : [47] ++ jn 47 (ns.drop ((ns.length : Int) - (j : Int)).toNat ++ ns.take ((ns.length : Int) - (j : Int)).toNat).dropLast = hd' (pt a) := by
      rw [htold, List.dropLast_concat]
      cases a with
      | nil => rfl
      | cons q a => rw [show hd' (pt (q :: a)) = pt (q :: a) from if_neg (by rw [pt_nil]; simp), pt_jn (q :: a) (by simp)]; rfl
    refine' vNeTT ?c1 ?c2 ?c3 (Rm.units (by assumption)) ?_
    case c1 => walk_at "go"
    case c2 => walk_at "go"
    case c3 =>
      rw [hh]
      exact Txs.tw (ps := [hd' (pt a), p]) (by walk_at "tx") (by walk_at "tx")
    repeat (walk_at "m")
    have htz : (pt (a ++ [p])).length ≤ 250 := by rw [pt_snoc, List.length_append, List.length_cons]; exact hpz
    rw [← pt_snoc]
    refine' k_turned (by assumption) W (Rm.le (by assumption) (by decide)) ha hp htz ?_
    intro _ _ _
    rw [← e2]
    repeat (walk_at "m")
    refine' lqN (by assumption) (j + 1, RW, _, _, acc ++ [.str (S (pt a ++ 47 :: p)) t1], _) ?h1 ?h2 ?h3
    case h2 => dsimp only; walk_at "sub"
    case h3 => walk_at "sl"
    case h1 =>
      refine ⟨rfl, ?_⟩
      dsimp only
      rw [List.range_succ, List.map_append, List.map_singleton, e1, pt_snoc]
      exact hi.snoc
  case ge =>
    rintro ⟨j, RW, t1, t2, acc, n⟩ s' ⟨rfl, hi⟩ y
    dsimp only at hi y ⊢
    rw [hrn] at y
    repeat (walk_at "m")
    refine ifT (by simp) ?_
    repeat (walk_at "m")
    exact h _ _ _ _ (In.done (by assumption)) (In.nw (by assumption) _ (List.Mem.head _)).2.2 (In.nw (by assumption) _ (List.Mem.head _)).1 hi
theorem k_turnings {ns : List (List Nat)} {D : Addr} {vs : List Value} {m : Nat} (x : In s₀ L l nw s) (W : Wd s₀.heap) (R : Rm 14 A) (hD : s.heap.get? D = some (lstO vs m)) (ht : Txs vs ns) (hn : ∀ q ∈ ns, Nm q) (h0 : ns ≠ []) (hz : (pt ns).length ≤ 250)
    (h : ∀ F ws k s', Txs ws ((List.range ns.length).map fun i => pt (rot ns i)) → In s₀ L l ((F, lstO ws k) :: nw) s' → Q (.ref F) s') : wpAny (model PW w) A (call (.ref 260) [.str (S (pt ns)) t, .ref D]) Q E s :=
  c_turnings hD ht hn h0 hz (x.wd W) R fun _ _ _ _ k h1 h2 h3 => h _ _ _ _ h3 (x.more k h1 h2)
local macro_rules | `(tactic| walk_at "ct") => ctr "k_turnings" ["go", "a", "a", "a", "sz"] 6
end
end
local macro_rules | `(tactic| walk_at "ct") => ctr "k_turnings" ["go", "a", "a", "a", "sz"] 6
section
section
variable {w : World} {A : Around} {E : Value → Shared → Prop} {s₀ s : Shared} {L : Addr} {l : List (Str × Value)} {nw : List (Addr × Obj)} {Q : Value → Shared → Prop} {p : Str} {t : Tok}
noncomputable abbrev Ns (vs : List Value) (ns : List Nat) : Prop := IntsAre vs (ns.map fun n : Nat => (n : Int))
theorem c_octets {f : Int} {D : Addr} {vs : List Value} {ms : List Int} {m : Nat} (hD : s.heap.get? D = some (lstO vs m)) (hi : IntsAre vs ms) (hl : ms.length ≤ 12) (W : Wd s.heap) (R : Rm 4 A)
    (h : ∀ F ws k s' os, Keeps s s' → s.heap.get? F = none → s'.heap.get? F = some (lstO ws k) → Ns ws os → (∀ o ∈ os, o < 256) → 4 ≤ os.length → os.length ≤ 12 → Q (.ref F) s') : wpAny (model PW w) A (call (.ref 218) [.int f t, .ref D]) Q E s := by
  refine enter (i := 35) (dV := .none) (kV := .none) (n := 3) W (by decide) R (binds := [("first", .int f t), ("more", .ref D)]) (l := [("more", .ref D), ("first", .int f t)]) (ns := ["first", "more"]) (fun _ _ _ => BindsTo.of_eq (by with_unfolding_all rfl)) rfl rfl (by decide +kernel) fun env L A' s₁ e R' hi' hL x => ?_
  clear R
  have hq0 : 0 ≤ (f.fdiv 336).fmod 9 := Int.fmod_nonneg_of_pos _ (by decide)
  have hq1 : (f.fdiv 336).fmod 9 < 9 := Int.fmod_lt_of_pos _ (by decide)
  walk_at "body"
  repeat (walk_at "m")
  rename_i s2 x2
  refine' compIt (k := 0) (clF := fun _ => []) (vs := vs) (σ := List Value) (fun i c => IntsAre c ((ms.take i).map (fun z => z.fmod 256))) (fun c => c) (fun _ _ => []) [] e R' (fun _ => rfl) (by decide) (fun _ => rfl) rfl (.inl ⟨m, by walk_at "go"⟩) .nil rfl (fun _ => rfl) ?gs ?gb ?ge
  case gs => intro i b hb; have := hb.length; simp at this; simp; omega
  case gb =>
    rintro i v b I o F n C s' hv hb eC hC y
    obtain ⟨z, u, hz, rfl⟩ := Ints.get hi hv
    unfold TurnOk
    have W2 := x2.wd W
    repeat (walk_at "m")
    refine ⟨b ++ [_], _, ?_, rfl, by assumption⟩
    show IntsAre _ _
    rw [List.take_add_one, hz, List.map_append]
    exact IntsAre.append hb (.cons _ _ .nil)
  case ge =>
    rintro b F n C s' hb hC y
    refine' compEndS x2 e hL (by decide +kernel) hC y ?u ?_
    case u => walk_at "up"
    intro s3 x3
    simp only [List.cons_append, List.nil_append] at x3
    rw [hi.length, List.take_length] at hb
    have hbl := hb.length
    rw [List.length_map] at hbl
    repeat (walk_at "m")
    have hcast : ((ms.map (fun z => z.fmod 256)).map Int.toNat).map (fun n : Nat => (n : Int)) = ms.map (fun z => z.fmod 256) := by
      rw [List.map_map, List.map_map]
      refine List.map_congr_left fun z _ => ?_
      have := Int.fmod_nonneg_of_pos z (show (0 : Int) < 256 by decide)
      simp only [Function.comp]; omega
    refine h _ _ _ _ (((ms.map (fun z => z.fmod 256)).map Int.toNat ++ ([0,0,0,0,0,0,251,239,190,0,0,0] : List Nat).drop b.length).take (4 + (f.fdiv 336).fmod 9).toNat) (In.done (by assumption)) (In.nw (by assumption) _ (List.Mem.head _)).2.2 (In.nw (by assumption) _ (List.Mem.head _)).1 ?_ ?_ ?_ ?_
    · show IntsAre _ _
      rw [List.map_take, List.map_append, hcast, List.map_drop]
      refine IntsAre.take (IntsAre.append hb ?_) _
      rw [Int.toNat_natCast]
      refine IntsAre.drop ?_ _
      exact .cons _ _ (.cons _ _ (.cons _ _ (.cons _ _ (.cons _ _ (.cons _ _ (.cons _ _ (.cons _ _ (.cons _ _ (.cons _ _ (.cons _ _ (.cons _ _ .nil)))))))))))
    · intro o ho
      have ho := List.mem_of_mem_take ho
      rcases List.mem_append.mp ho with q | q
      · rw [List.mem_map] at q
        obtain ⟨z, hz, rfl⟩ := q
        rw [List.mem_map] at hz
        obtain ⟨y, _, rfl⟩ := hz
        have := Int.fmod_lt_of_pos y (show (0 : Int) < 256 by decide)
        omega
      · have := List.mem_of_mem_drop q
        exact (by decide : ∀ o ∈ ([0,0,0,0,0,0,251,239,190,0,0,0] : List Nat), o < 256) o this
    · rw [List.length_take, List.length_append, List.length_drop, List.length_map, List.length_map]
      simp only [List.length_cons, List.length_nil]
      omega
    · rw [List.length_take]; omega
theorem k_octets {f : Int} {D : Addr} {vs : List Value} {ms : List Int} {m : Nat} (x : In s₀ L l nw s) (W : Wd s₀.heap) (R : Rm 4 A) (hD : s.heap.get? D = some (lstO vs m)) (hi : IntsAre vs ms) (hl : ms.length ≤ 12)
    (h : ∀ F ws k s' os, Ns ws os → (∀ o ∈ os, o < 256) → 4 ≤ os.length → os.length ≤ 12 → In s₀ L l ((F, lstO ws k) :: nw) s' → Q (.ref F) s') : wpAny (model PW w) A (call (.ref 218) [.int f t, .ref D]) Q E s :=
  c_octets hD hi hl (x.wd W) R fun _ _ _ _ _ k h1 h2 h3 h4 h5 h6 => h _ _ _ _ _ h3 h4 h5 h6 (x.more k h1 h2)
local macro_rules | `(tactic| walk_at "ct") => ctr "k_octets" ["go", "a", "sz"] 10
end
end
local macro_rules | `(tactic| walk_at "ct") => ctr "k_octets" ["go", "a", "sz"] 10
section
section
variable {w : World} {A : Around} {E : Value → Shared → Prop} {s₀ s : Shared} {L : Addr} {l : List (Str × Value)} {nw : List (Addr × Obj)} {Q : Value → Shared → Prop} {p : Str} {t u : Tok}
theorem c_strxfrm {v : Value} (W : Wd s.heap) (R : Rm 2 A) (h : ∀ s', Keeps s s' → Q v s') : wpAny (model PW w) A (call (.ref 199) [v]) Q E s := by
  refine enter (i := 30) (dV := .none) (kV := .none) (n := 1) W (by decide) R (binds := [("s", v)]) (l := [("s", v)]) (ns := ["s"]) (fun _ _ _ => BindsTo.of_eq (by with_unfolding_all rfl)) rfl rfl (by decide +kernel) fun env L A' s₁ e R' hi hL x => ?_
  clear R
  walk_at "body"
  repeat (walk_at "m")
  exact h _ (In.done (by assumption))
theorem k_strxfrm {v : Value} (x : In s₀ L l nw s) (W : Wd s₀.heap) (R : Rm 2 A) (h : ∀ s', In s₀ L l nw s' → Q v s') : wpAny (model PW w) A (call (.ref 199) [v]) Q E s := c_strxfrm (x.wd W) R fun _ k => h _ (x.step k)
local macro_rules | `(tactic| walk_at "ct") => ctr "k_strxfrm" [] 2
theorem c_strcoll {a b : List Nat} (W : Wd s.heap) (R : Rm 2 A) (h : ∀ t' s', Keeps s s' → Q (.int (b2i (decide (b < a)) - b2i (decide (a < b))) t') s') : wpAny (model PW w) A (call (.ref 192) [.str (S a) t, .str (S b) u]) Q E s := by
  refine enter (i := 29) (dV := .none) (kV := .none) (n := 1) W (by decide) R (binds := [("a", .str (S a) t), ("b", .str (S b) u)]) (l := [("b", .str (S b) u), ("a", .str (S a) t)]) (ns := ["a", "b"]) (fun _ _ _ => BindsTo.of_eq (by with_unfolding_all rfl)) rfl rfl (by decide +kernel) fun env L A' s₁ e R' hi hL x => ?_
  clear R
  walk_at "body"
  repeat (walk_at "m")
  exact h _ _ (In.done (by assumption))
theorem k_strcoll {a b : List Nat} (x : In s₀ L l nw s) (W : Wd s₀.heap) (R : Rm 2 A) (h : ∀ t' s', In s₀ L l nw s' → Q (.int (b2i (decide (b < a)) - b2i (decide (a < b))) t') s') : wpAny (model PW w) A (call (.ref 192) [.str (S a) t, .str (S b) u]) Q E s := c_strcoll (x.wd W) R fun _ _ k => h _ _ (x.step k)
local macro_rules | `(tactic| walk_at "ct") => ctr "k_strcoll" [] 3
noncomputable def szG : Nat → List Nat | 0 => [3, 6, 127] | 1 => [2, 0] | 2 => [3, 0, 5] | 3 => [1, 2, 0] | 4 => [6, 3, 3] | _ => [4, 127, 2]
noncomputable def szM : Nat → List Nat | 0 => [3, 6, 12] | 1 => [2, 2, 2, 2, 2, 2] | 2 => [3, 3, 3, 3] | 3 => [1, 2, 2, 2, 2, 2, 2] | 4 => [6, 3, 3] | _ => [4, 12]
theorem c_sizes {i : Nat} (hi : i < 6) (W : Wd s.heap) (R : Rm 2 A)
    (h : ∀ F T M G vs gs ms s', Mk s [(F, lstO vs 0), (T, tupO [.ref G, .ref M]), (M, lstO ms 0), (G, lstO gs 0)] s' → vs.length = 6 → vs[i]? = some (.ref T) → Ns gs (szG i) → Ns ms (szM i) → Q (.ref F) s') : wpAny (model PW w) A (call (.ref 213) []) Q E s := by
  refine enter (i := 34) (dV := .none) (kV := .none) (n := 1) W (by decide) R (binds := []) (l := []) (ns := []) (fun _ _ _ => BindsTo.of_eq (by with_unfolding_all rfl)) rfl rfl (by decide +kernel) fun env L A' s₁ e R' hi' hL x => ?_
  clear R
  walk_at "body"
  repeat (walk_at "m")
  rename_i sE xE
  have fin : ∀ {F T M G : Addr} {vs gs ms : List Value} {i : Nat}, List.Sublist [(F, lstO vs 0), (T, tupO [.ref G, .ref M]), (M, lstO ms 0), (G, lstO gs 0)] _ → Mk s [(F, lstO vs 0), (T, tupO [.ref G, .ref M]), (M, lstO ms 0), (G, lstO gs 0)] sE :=
    fun hs => let y := xE.drop hs; ⟨y.done, fun p hp => ⟨(y.nw p hp).1, (y.nw p hp).2.2⟩, y.nd⟩
  have hc := six hi
  rcases hc with rfl | rfl | rfl | rfl | rfl | rfl
  all_goals
    refine' h _ _ _ _ _ _ _ _ (fin (i := 0) (List.Sublist.cons_cons _ ?_)) rfl rfl ?_ ?_
    any_goals (walk_at "sl")
    all_goals (show IntsAre _ _; repeat (first | exact IntsAre.nil | refine IntsAre.cons _ _ ?_))
theorem k_sizes {i : Nat} (x : In s₀ L l nw s) (W : Wd s₀.heap) (R : Rm 2 A) (hi : i < 6)
    (h : ∀ F T M G vs gs ms s', In s₀ L l ((F, lstO vs 0) :: (T, tupO [.ref G, .ref M]) :: (M, lstO ms 0) :: (G, lstO gs 0) :: nw) s' → vs.length = 6 → vs[i]? = some (.ref T) → Ns gs (szG i) → Ns ms (szM i) → Q (.ref F) s') : wpAny (model PW w) A (call (.ref 213) []) Q E s :=
  c_sizes hi (x.wd W) R fun _ _ _ _ _ _ _ _ k h1 h2 h3 h4 => h _ _ _ _ _ _ _ _ (x.mores k.k k.nw k.nd) h1 h2 h3 h4
section
local macro_rules | `(tactic| walk_at "bi") => alts ["R vModK c1 c2 _;c1>d;c2>a;i 4"]
local macro_rules | `(tactic| walk_at "ow") => alts ["R rStK c1 c2 c3 c4 c5 _;c1>a;c2>a;c3>a;c4>D;c5>up;i 3"]
local macro_rules | `(tactic| walk_at "ev") => alts ["R rStrSK =S_nil c1 _;c1>a;i 3"]
theorem c_two {f : Int} (W : Wd s.heap) (R : Rm 2 A) (h : ∀ a b t' s', a ∈ pun → b ∈ pun → a ≠ b → Keeps s s' → Q (.str (S [a, b]) t') s') : wpAny (model PW w) A (call (.ref 225) [.int f t]) Q E s := by
  refine enter (i := 36) (dV := .none) (kV := .none) (n := 1) W (by decide) R (binds := [("first", .int f t)]) (l := [("first", .int f t)]) (ns := ["first"]) (fun _ _ _ => BindsTo.of_eq (by with_unfolding_all rfl)) rfl rfl (by decide +kernel) fun env L A' s₁ e R' hi hL x => ?_
  clear R
  walk_at "body"
  repeat (walk_at "m")
  have hq0 : 0 ≤ (f.fdiv 6).fmod 8 := Int.fmod_nonneg_of_pos _ (by decide)
  have hq1 : (f.fdiv 6).fmod 8 < 8 := Int.fmod_lt_of_pos _ (by decide)
  obtain ⟨c, hc⟩ : ∃ c, pun[((f.fdiv 6).fmod 8).toNat]? = some c := ⟨_, List.getElem?_eq_getElem (by show _ < 8; omega)⟩
  refine' tIxS (c := c) (by assumption) hq0 (by decide) hc ?_ (by with_unfolding_all rfl)
  intro s3 x3 ht3
  repeat (walk_at "m")
  have hcm : c ∈ pun := List.mem_of_getElem? hc
  have h7 : (pun.filter (· != c)).length = 7 := (by decide : ∀ c ∈ pun, (pun.filter (· != c)).length = 7) c hcm
  have hr0 : 0 ≤ (f.fdiv 48).fmod 7 := Int.fmod_nonneg_of_pos _ (by decide)
  have hr1 : (f.fdiv 48).fmod 7 < 7 := Int.fmod_lt_of_pos _ (by decide)
  obtain ⟨d, hd⟩ : ∃ d, (pun.filter (· != c))[((f.fdiv 48).fmod 7).toNat]? = some d := ⟨_, List.getElem?_eq_getElem (by rw [h7]; omega)⟩
  have hdm := List.mem_of_getElem? hd
  rw [List.mem_filter] at hdm
  refine' vStrike (by assumption) ?a1 ?a2 ?a3 (by decide) ?_
  case a1 => exact Nat.ne_of_gt (by omega)
  case a2 => exact Nat.ne_of_gt (by omega)
  case a3 => exact Nat.ne_of_lt (by omega)
  intro _ _ _
  repeat (walk_at "m")
  refine' tIxS (c := d) (by assumption) hr0 (by rw [h7]; decide) hd ?_ (by with_unfolding_all rfl)
  intro s4 x4 _
  refine' vAddS (by simp) (by assumption) ?_
  intro _ _ _
  repeat (walk_at "m")
  exact h c d _ _ hcm hdm.1 (fun q => by have := hdm.2; rw [q] at this; simp at this) (In.done (by assumption))
theorem k_two {f : Int} (x : In s₀ L l nw s) (W : Wd s₀.heap) (R : Rm 2 A) (h : ∀ a b t' s', a ∈ pun → b ∈ pun → a ≠ b → In s₀ L l nw s' → Q (.str (S [a, b]) t') s') : wpAny (model PW w) A (call (.ref 225) [.int f t]) Q E s :=
  c_two (x.wd W) R fun _ _ _ _ h1 h2 h3 k => h _ _ _ _ h1 h2 h3 (x.step k)
local macro_rules | `(tactic| walk_at "ct") => ctr "k_two" [] 8
end
end
end
local macro_rules | `(tactic| walk_at "ct") => ctr "k_strxfrm" [] 2
local macro_rules | `(tactic| walk_at "ct") => ctr "k_strcoll" [] 3
local macro_rules | `(tactic| walk_at "ct") => ctr "k_two" [] 8
section
/-- how many nought octets are missing -/
noncomputable def shortOf (n : Nat) : Nat := (3 - n % 3) % 3
theorem short_le : ∀ n : Nat, shortOf n ≤ (n + shortOf n) / 3 * 4
  | 0 => by decide
  | 1 => by decide
  | 2 => by decide
  | n + 3 => Nat.le_trans (Nat.le_of_lt (Nat.lt_trans (Nat.mod_lt _ (by decide)) (by decide : 3 < 4))) (Nat.mul_le_mul_right 4 ((Nat.le_div_iff_mul_le (by decide)).mpr (Nat.le_trans (Nat.le_add_left 3 n) (Nat.le_add_right _ _)) : 1 ≤ _))
theorem short_ge : ∀ {n : Nat}, 0 < n → 4 ≤ (n + shortOf n) / 3 * 4
  | 1, _ => by decide
  | 2, _ => by decide
  | n + 3, _ => Nat.mul_le_mul_right 4 ((Nat.le_div_iff_mul_le (by decide)).mpr (Nat.le_trans (Nat.le_add_left 3 n) (Nat.le_add_right _ _)) : 1 ≤ _)
theorem short_int (n : Nat) : (-(n : Int)).fmod 3 = (shortOf n : Int) := by
  rw [Int.fmod_eq_emod_of_nonneg _ (by decide)]; unfold shortOf; omega
noncomputable def val256 (ps : List Nat) (v : Nat) : Nat := ps.foldl (fun v o => v * 256 + o) v
/-- the last k digits of v, by 64, ahead of a text -/
noncomputable def digs (al : List Nat) : Nat → Nat → List Nat → List Nat
  | 0, _, acc => acc
  | k + 1, v, acc => digs al k (v / 64) (al.getD (v % 64) 0 :: acc)
theorem digs_succ (al : List Nat) : ∀ (k v : Nat) (acc : List Nat), digs al (k + 1) v acc = al.getD (v / 64 ^ k % 64) 0 :: digs al k v acc
  | 0, v, acc => by simp [digs]
  | k + 1, v, acc => by
    have ih := digs_succ al k (v / 64) (al.getD (v % 64) 0 :: acc)
    show digs al (k + 1) (v / 64) (al.getD (v % 64) 0 :: acc) = _
    rw [ih]
    show _ = _ :: digs al k (v / 64) (al.getD (v % 64) 0 :: acc)
    rw [Nat.div_div_eq_div_mul, Nat.pow_succ, Nat.mul_comm]
theorem digs_len (al : List Nat) : ∀ (k v : Nat) (acc : List Nat), (digs al k v acc).length = k + acc.length
  | 0, v, acc => by simp [digs]
  | k + 1, v, acc => by rw [digs, digs_len al k]; simp; omega
theorem ints_rep (t : Tok) : ∀ k : Nat, IntsAre (List.replicate k (Value.int 0 t)) (List.replicate k (((0 : Nat) : Nat) : Int))
  | 0 => .nil
  | k + 1 => by rw [List.replicate_succ, List.replicate_succ]; exact .cons _ _ (ints_rep t k)
/-- the signs of one piece -/
noncomputable def sgn (two ps : List Nat) : List Nat :=
  let sh := shortOf ps.length
  let d := digs (abc ++ two) ((ps.length + sh) / 3 * 4) (val256 (ps ++ List.replicate sh 0) 0) []
  d.take (d.length - sh) ++ List.replicate sh 61
section
variable {w : World} {A : Around} {E : Value → Shared → Prop} {s₀ s : Shared} {L : Addr} {l : List (Str × Value)} {nw : List (Addr × Obj)} {Q : Value → Shared → Prop} {p : Str} {t u : Tok}
theorem c_signs {two ps : List Nat} {D : Addr} {vs : List Value} {m : Nat} (h2 : two.length = 2) (hD : s.heap.get? D = some (lstO vs m)) (hi : Ns vs ps) (hl : ps.length ≤ 100) (W : Wd s.heap) (R : Rm 4 A)
    (h : ∀ t' s', Keeps s s' → Q (.str (S (sgn two ps)) t') s') : wpAny (model PW w) A (call (.ref 232) [.ref D, .str (S two) t]) Q E s := by
  refine enter (i := 37) (dV := .none) (kV := .none) (n := 3) W (by decide) R (binds := [("piece", .ref D), ("two", .str (S two) t)]) (l := [("two", .str (S two) t), ("piece", .ref D)]) (ns := ["piece", "two"]) (fun _ _ _ => BindsTo.of_eq (by with_unfolding_all rfl)) rfl rfl (by decide +kernel) fun env L A' s₁ e R' hi' hL x => ?_
  clear R
  have hvl : vs.length = ps.length := by rw [hi.length, List.length_map]
  have hsh : shortOf ps.length < 3 := Nat.mod_lt _ (by decide)
  have habc : abc.length = 62 := rfl
  have hs : (-(vs.length : Int)).fmod 3 = (shortOf ps.length : Int) := by rw [hvl]; exact short_int _
  walk_at "body"
  repeat (walk_at "m")
  rename_i la sE xE
  have hns : ∀ tz, IntsAre (vs ++ List.replicate (shortOf ps.length) (Value.int 0 tz)) ((ps ++ List.replicate (shortOf ps.length) 0).map fun n : Nat => (n : Int)) := by
    intro tz
    rw [List.map_append, List.map_replicate]
    exact IntsAre.append hi (ints_rep _ _)
  have hx : ∃ tz t1 t2 t3 t4, In s L [("piece", .ref D), ("alphabet", .str (S (abc ++ two)) t1), ("short", .int ((-(vs.length : Int)).fmod 3) t2), ("value", .int 0 t3), ("signs", .str (S []) t4)]
      [(la, lstO (vs ++ List.replicate (shortOf ps.length) (Value.int 0 tz)) 0)] sE := by
    refine' ⟨_, _, _, _, _, (In.forget xE ?A1).drop ?B1⟩
    case B1 => walk_at "sl"
    case A1 => walk_at "sub"
  clear xE
  obtain ⟨tz, t1, t2, t3, t4, xE⟩ := hx
  have hns := hns tz
  generalize vs ++ List.replicate (shortOf ps.length) (Value.int 0 tz) = vs2 at *
  refine' iterL (σ := Tok × Int × Tok × Tok × Tok) (fun i c => c.2.1 = (val256 ((ps ++ List.replicate (shortOf ps.length) 0).take i) 0 : Int)) (fun c => [("piece", .ref D), ("alphabet", .str (S (abc ++ two)) c.1), ("short", .int ((-(vs.length : Int)).fmod 3) c.2.2.2.1), ("value", .int c.2.1 c.2.2.1), ("signs", .str (S []) c.2.2.2.2)])
    (fun c => [(la, lstO vs2 0)]) (t1, 0, t3, t2, t4) e hL (by decide +kernel) R' xE (isl (xE.get1 List.mem_cons_self)) (.inr ⟨lstO vs2 0, fun _ _ _ => List.mem_singleton.mpr rfl⟩) ?i0 ?gb ?ge
  case i0 => rfl
  case gb =>
    rintro i v ⟨t1, va, t2, t3, t4⟩ I o s' hv hb y
    obtain ⟨z, u, hz, rfl⟩ := Ints.get hns hv
    dsimp only at hb y ⊢
    repeat (walk_at "m")
    refine' lqN (by assumption) (_, _, _, _, _) ?h1 ?h2 ?h3
    case h2 => (try dsimp only); walk_at "sub"
    case h3 => walk_at "sl"
    case h1 =>
      rw [List.getElem?_map] at hz
      cases hq : (ps ++ List.replicate (shortOf ps.length) 0)[i]? with
      | none => rw [hq] at hz; cases hz
      | some o =>
        rw [hq] at hz
        simp only [Option.map_some, Option.some.injEq] at hz
        rw [List.take_add_one, hq, ← hz, hb]
        simp [val256]
  case ge => 
    rintro ⟨t1, va, t2, t3, t4⟩ s' hb y
    rw [hns.length, List.length_map, List.take_length] at hb
    dsimp only at hb y ⊢
    repeat (walk_at "m")
    rename_i rl _ _ _ sR xR
    have hm : (((vs.length : Int) + (-(vs.length : Int)).fmod 3).fdiv 3 * 4) = (((ps.length + shortOf ps.length) / 3 * 4 : Nat) : Int) := by
      rw [hs, hvl, Int.fdiv_eq_ediv_of_nonneg _ (by decide), ← Int.natCast_add]; rfl
    rw [hm] at xR
    generalize hVV : val256 (ps ++ List.replicate (shortOf ps.length) 0) 0 = V at *
    generalize hMM : (ps.length + shortOf ps.length) / 3 * 4 = M at *
    have hM : M ≤ 200 := by rw [← hMM]; exact Nat.le_trans (Nat.mul_le_mul_right 4 (Nat.div_le_div_right (c := 3) (Nat.add_le_add hl (Nat.le_of_lt_succ hsh)))) (by decide)
    refine' iterR (m := M) (σ := Tok × Int × Tok × Tok × List Nat × Tok) (fun i c => c.2.1 = ((V / 64 ^ i : Nat) : Int) ∧ c.2.2.2.2.1 = digs (abc ++ two) i V [])
      (fun c => [("piece", .ref D), ("alphabet", .str (S (abc ++ two)) c.1), ("short", .int ((-(vs.length : Int)).fmod 3) c.2.2.2.1), ("value", .int c.2.1 c.2.2.1), ("signs", .str (S c.2.2.2.2.1) c.2.2.2.2.2)])
      (fun c => []) (_, _, _, _, _, _) e hL (by decide +kernel) R' (Nat.le_trans hM (by decide)) ?x0 (xR.get1 (by walk_at "mem")) ⟨?i0, ?i1⟩ ?gb2 ?ge2
    case x0 =>
      refine' (In.forget xR ?_).drop ?_
      · dsimp only; walk_at "sub"
      · (try dsimp only); walk_at "sl"
    case i0 => rw [hb]; simp
    case i1 => rfl
    case gb2 =>
      rintro i tk ⟨t1, va, t2, t3, sg, t4⟩ I o s' hv ⟨hb1, hb2⟩ y
      dsimp only at hb1 hb2 y ⊢
      have hsl : sg.length ≤ 200 := by rw [hb2, digs_len]; exact Nat.le_trans (Nat.le_of_lt hv) hM
      have hal : (abc ++ two).length = 64 := by rw [List.length_append, habc, h2]
      have hf0 : 0 ≤ va.fmod 64 := Int.fmod_nonneg_of_pos _ (by decide)
      have hfv : (va.fmod 64).toNat = V / 64 ^ i % 64 := by rw [hb1, Int.fmod_eq_emod_of_nonneg _ (by decide)]; rfl
      repeat (walk_at "m")
      refine' tIxS (c := (abc ++ two).getD (V / 64 ^ i % 64) 0) (by assumption) hf0 (by omega) ?hc ?_ (by with_unfolding_all rfl)
      case hc =>
        have : V / 64 ^ i % 64 < (abc ++ two).length := by rw [hal]; exact Nat.mod_lt _ (by decide)
        rw [hfv, List.getElem?_eq_getElem this, List.getD_eq_getElem?_getD, List.getElem?_eq_getElem this]; rfl
      intro s3 x3 _
      repeat (walk_at "m")
      refine' lqN (by assumption) (_, _, _, _, _, _) ?h1 ?h2 ?h3
      case h2 => (try dsimp only); walk_at "sub"
      case h3 => walk_at "sl"
      case h1 =>
        refine ⟨?_, ?_⟩
        · show va.fdiv 64 = _
          rw [hb1, Int.fdiv_eq_ediv_of_nonneg _ (by decide), Nat.pow_succ, ← Nat.div_div_eq_div_mul]; rfl
        · rw [digs_succ, ← hb2]; rfl
    case ge2 =>
      rintro ⟨t1, va, t2, t3, sg, t4⟩ s' ⟨hb1, hb2⟩ y
      dsimp only at hb1 hb2 y ⊢
      have hsl : sg.length ≤ 200 := by rw [hb2, digs_len]; exact hM
      have hsg : sg.length = M := by rw [hb2, digs_len]; simp
      have hsh2 : shortOf ps.length ≤ sg.length := by
        rw [hsg, ← hMM]; exact short_le _
      rw [hs] at y
      have hd0 := i2d hsh2
      have hd1 : (sg.length : Int) - (shortOf ps.length : Int) ≤ (sg.length : Int) := Int.sub_le_self _ (Int.natCast_nonneg _)
      have hd2 : min ((sg.length : Int) - (shortOf ps.length : Int)).toNat sg.length + shortOf ps.length ≤ 100000 := Nat.le_trans (Nat.add_le_add (Nat.le_trans (Nat.min_le_right _ _) hsl) (Nat.le_of_lt hsh)) (by decide)
      repeat (walk_at "m")
      clear hd0 hd1 hd2
      have hfin : List.take ((sg.length : Int) - (shortOf ps.length : Int)).toNat sg ++ List.replicate (shortOf ps.length) 61 = sgn two ps := by
        have e1 : ((sg.length : Int) - (shortOf ps.length : Int)).toNat = sg.length - shortOf ps.length := i2s hsh2
        unfold sgn; dsimp only
        rw [e1, hVV, hMM, ← hb2]
      rw [hfin]
      exact h _ _ (In.done (by assumption))
theorem k_signs {two ps : List Nat} {D : Addr} {vs : List Value} {m : Nat} (x : In s₀ L l nw s) (W : Wd s₀.heap) (R : Rm 4 A) (h2 : two.length = 2) (hD : s.heap.get? D = some (lstO vs m)) (hi : Ns vs ps) (hl : ps.length ≤ 100)
    (h : ∀ t' s', In s₀ L l nw s' → Q (.str (S (sgn two ps)) t') s') : wpAny (model PW w) A (call (.ref 232) [.ref D, .str (S two) t]) Q E s :=
  c_signs h2 hD hi hl (x.wd W) R fun _ _ k => h _ _ (x.step k)
end
/-- the pieces that are not empty, cut off by the sizes from a place on -/
noncomputable def cutM (os : List Nat) : List Nat → Nat → List (List Nat)
  | [], _ => []
  | z :: r, a => (if (os.drop a).take z = [] then [] else [(os.drop a).take z]) ++ cutM os r (a + z)
theorem cutM_snoc (os : List Nat) (z : Nat) : ∀ (ss : List Nat) (a : Nat), cutM os (ss ++ [z]) a = cutM os ss a ++ (if (os.drop (a + ss.sum)).take z = [] then [] else [(os.drop (a + ss.sum)).take z])
  | [], a => by simp [cutM]
  | y :: r, a => by
    have ih := cutM_snoc os z r (a + y)
    rw [List.cons_append, cutM, ih, cutM, List.append_assoc, List.sum_cons, Nat.add_assoc]
theorem cutM_len (os : List Nat) : ∀ (ss : List Nat) (a : Nat), (cutM os ss a).length ≤ ss.length
  | [], a => by simp [cutM]
  | y :: r, a => by
    have ih := cutM_len os r (a + y)
    rw [cutM, List.length_append, List.length_cons]; split <;> simp <;> omega
section
variable {w : World} {A : Around} {E : Value → Shared → Prop} {s₀ s : Shared} {L : Addr} {l : List (Str × Value)} {nw : List (Addr × Obj)} {Q : Value → Shared → Prop} {p : Str} {t u : Tok}
theorem c_names {two os ss : List Nat} {D Z : Addr} {vs zs : List Value} {m m2 : Nat} (h2 : two.length = 2) (hD : s.heap.get? D = some (lstO vs m)) (hi : Ns vs os) (hl : os.length ≤ 100) (hZ : s.heap.get? Z = some (lstO zs m2)) (hj : Ns zs ss) (hl2 : ss.length ≤ 100) (W : Wd s.heap) (R : Rm 8 A)
    (h : ∀ F ws k s', Keeps s s' → s.heap.get? F = none → s'.heap.get? F = some (lstO ws k) → Txs ws ((cutM os ss 0).map (sgn two)) → Q (.ref F) s') : wpAny (model PW w) A (call (.ref 239) [.ref D, .ref Z, .str (S two) t]) Q E s := by
  refine enter (i := 38) (dV := .none) (kV := .none) (n := 7) W (by decide) R (binds := [("octets", .ref D), ("sizes", .ref Z), ("two", .str (S two) t)]) (l := [("two", .str (S two) t), ("sizes", .ref Z), ("octets", .ref D)]) (ns := ["octets", "sizes", "two"]) (fun _ _ _ => BindsTo.of_eq (by with_unfolding_all rfl)) rfl rfl (by decide +kernel) fun env L A' s₁ e R' hi' hL x => ?_
  clear R
  have hvl : vs.length = os.length := by rw [hi.length, List.length_map]
  have hzl : zs.length = ss.length := by rw [hj.length, List.length_map]
  walk_at "body"
  repeat (walk_at "m")
  rename_i sE xE
  refine' iterL (σ := Addr × Nat × Tok × List Value × Nat) (fun i c => c.2.1 = (ss.take i).sum ∧ Txs c.2.2.2.1 ((cutM os (ss.take i) 0).map (sgn two))) (fun c => [("octets", .ref D), ("two", .str (S two) t), ("names", .ref c.1), ("at", .int (c.2.1 : Int) c.2.2.1)])
    (fun c => [(c.1, lstO c.2.2.2.1 c.2.2.2.2)]) (_, 0, _, [], 0) e hL (by decide +kernel) R' ?x0 (isl (by walk_at "go")) (.inl ⟨_, hZ⟩) ⟨rfl, Txs.nil⟩ ?gb ?ge
  case x0 =>
    refine' (In.forget xE ?A1).drop ?B1
    case B1 => (try dsimp only); walk_at "sl"
    case A1 => (try dsimp only); rw [show (((0 : Nat) : Nat) : Int) = 0 from rfl]; walk_at "sub"
  case gb =>
    rintro i v ⟨N, A0, t1, acc, n⟩ I o s' hv ⟨hb1, hb2⟩ y
    obtain ⟨z, u, hz, rfl⟩ := Ints.get hj hv
    rw [List.getElem?_map] at hz
    cases hq : ss[i]? with
    | none => rw [hq] at hz; cases hz
    | some z0 =>
      rw [hq] at hz
      simp only [Option.map_some, Option.some.injEq] at hz
      subst hz
      dsimp only at hb1 hb2 y ⊢
      have e1 : ((A0 : Int) + (z0 : Int)).toNat - ((A0 : Int)).toNat = z0 := i2n A0 z0
      have e2 : ((A0 : Int)).toNat = A0 := Int.toNat_natCast A0
      have hst := cutM_snoc os z0 (ss.take i) 0
      have htk : ss.take (i + 1) = ss.take i ++ [z0] := by rw [List.take_add_one, hq]; rfl
      rw [← htk, Nat.zero_add, ← hb1] at hst
      have hpl : ((vs.drop A0).take z0).length = ((os.drop A0).take z0).length := by simp [hvl]
      have hpn : Ns ((vs.drop A0).take z0) ((os.drop A0).take z0) := by
        show IntsAre _ _
        rw [List.map_take, List.map_drop]; exact (IntsAre.drop hi _).take _
      have hps : ((os.drop A0).take z0).length ≤ 100 := by rw [List.length_take, List.length_drop]; exact Nat.le_trans (Nat.min_le_right _ _) (Nat.le_trans (Nat.sub_le _ _) hl)
      have hal : acc.length ≤ 100 := by rw [hb2.1, List.length_map]; have := cutM_len os (ss.take i) 0; have := List.length_take_le' i ss; omega
      have hw : min (((A0 : Int) + (z0 : Int)).toNat - ((A0 : Int)).toNat) (vs.length - ((A0 : Int)).toNat) ≤ 100000 := Nat.le_trans (Nat.min_le_right _ _) (Nat.le_trans (Nat.sub_le _ _) (by rw [hvl]; exact Nat.le_trans hl (by decide)))
      have hA0 : (0 : Int) ≤ (A0 : Int) := Int.natCast_nonneg _
      have hA1 : (0 : Int) ≤ (A0 : Int) + (z0 : Int) := Int.add_nonneg hA0 (Int.natCast_nonneg _)
      repeat (walk_at "m")
      rw [e1, e2]
      refine ifB (fun hx => ?_) (fun hx => ?_)
      · have hne : (os.drop A0).take z0 ≠ [] := fun q => by
          rw [q] at hpl
          have := List.length_eq_zero_iff.mp hpl
          rw [this] at hx; simp at hx
        rw [if_neg hne] at hst
        repeat (walk_at "m")
        refine' k_signs (two := two) (ps := (os.drop A0).take z0) (by assumption) W (Rm.le (by assumption) (by decide)) h2 ?hgo ?hns hps ?_
        case hgo => walk_at "go"
        case hns => rw [e1, e2]; exact hpn
        intro t3 s3 x3
        repeat (walk_at "m")
        refine' lqN (by assumption) (_, A0 + z0, _, acc ++ [.str (S (sgn two ((os.drop A0).take z0))) t3], _) ?h1 ?h2 ?h3
        case h2 => (try dsimp only); rw [Int.natCast_add]; walk_at "sub"
        case h3 => walk_at "sl"
        case h1 =>
          refine ⟨?_, ?_⟩
          · dsimp only; rw [htk, List.sum_append, ← hb1]; simp
          · dsimp only; rw [hst, List.map_append]; exact hb2.snoc
      · have hne : (os.drop A0).take z0 = [] := by
          have h3 : (vs.drop A0).take z0 = [] := by simpa using hx
          rw [h3] at hpl
          exact List.length_eq_zero_iff.mp hpl.symm
        rw [if_pos hne, List.append_nil] at hst
        repeat (walk_at "m")
        refine' lqN (by assumption) (_, A0 + z0, _, acc, _) ?h1 ?h2 ?h3
        case h2 => (try dsimp only); rw [Int.natCast_add]; walk_at "sub"
        case h3 => walk_at "sl"
        case h1 =>
          refine ⟨?_, ?_⟩
          · dsimp only; rw [htk, List.sum_append, ← hb1]; simp
          · dsimp only; rw [hst]; exact hb2
  case ge =>
    rintro ⟨N, A0, t1, acc, n⟩ s' ⟨hb1, hb2⟩ y
    rw [hzl, List.take_length] at hb2
    dsimp only at hb2 y ⊢
    repeat (walk_at "m")
    exact h _ _ _ _ (In.done (by assumption)) (In.nw (by assumption) _ (List.Mem.head _)).2.2 (In.nw (by assumption) _ (List.Mem.head _)).1 hb2
theorem k_names {two os ss : List Nat} {D Z : Addr} {vs zs : List Value} {m m2 : Nat} (x : In s₀ L l nw s) (W : Wd s₀.heap) (R : Rm 8 A) (h2 : two.length = 2) (hD : s.heap.get? D = some (lstO vs m)) (hi : Ns vs os) (hl : os.length ≤ 100) (hZ : s.heap.get? Z = some (lstO zs m2)) (hj : Ns zs ss) (hl2 : ss.length ≤ 100)
    (h : ∀ F ws k s', Txs ws ((cutM os ss 0).map (sgn two)) → In s₀ L l ((F, lstO ws k) :: nw) s' → Q (.ref F) s') : wpAny (model PW w) A (call (.ref 239) [.ref D, .ref Z, .str (S two) t]) Q E s :=
  c_names h2 hD hi hl hZ hj hl2 (x.wd W) R fun _ _ _ _ k h1 h2 h3 => h _ _ _ _ h3 (x.more k h1 h2)
local macro_rules | `(tactic| walk_at "ct") => ctr "k_names" ["a", "go", "a", "sz", "go", "a", "sz"] 6
end
end
local macro_rules | `(tactic| walk_at "ct") => ctr "k_names" ["a", "go", "a", "sz", "go", "a", "sz"] 6
section
noncomputable def addN (acc : List (List Nat)) (r : List Nat) : List (List Nat) := if acc.contains r then acc else acc ++ [r]
theorem addN_len (rs : List (List Nat)) : ∀ acc : List (List Nat), (rs.foldl addN acc).length ≤ acc.length + rs.length := by
  induction rs with
  | nil => intro acc; simp
  | cons r rs ih =>
    intro acc
    have := ih (addN acc r)
    have h2 : (addN acc r).length ≤ acc.length + 1 := by unfold addN; split <;> simp
    rw [List.foldl_cons, List.length_cons]; omega
/-- the runs that set out at one place -/
noncomputable def runsAt (ns : List (List Nat)) (k m : Nat) : List (List Nat) := (List.range m).map fun j => pt (((ns ++ ns).drop k).take (j + 1))
noncomputable def runsTo (ns : List (List Nat)) (i : Nat) : List (List Nat) := (List.range i).flatMap fun k => runsAt ns k ns.length
noncomputable def tolds (ns : List (List Nat)) : List (List Nat) := (runsTo ns ns.length).foldl addN []
theorem runsTo_len (ns : List (List Nat)) : ∀ i, (runsTo ns i).length = i * ns.length
  | 0 => by simp [runsTo]
  | i + 1 => by
    have ih := runsTo_len ns i
    unfold runsTo at ih ⊢
    rw [List.range_succ, List.flatMap_append, List.length_append, ih]
    simp [runsAt, Nat.add_mul]
section
variable {w : World} {A : Around} {E : Value → Shared → Prop} {s₀ s : Shared} {L : Addr} {l : List (Str × Value)} {nw : List (Addr × Obj)} {Q : Value → Shared → Prop} {p : Str} {t u : Tok}
theorem c_told {ns : List (List Nat)} {D : Addr} {vs : List Value} {m : Nat} (hD : s.heap.get? D = some (lstO vs m)) (ht : Txs vs ns) (h7 : ns.length ≤ 7) (hz : (pt ns).length ≤ 250) (W : Wd s.heap) (R : Rm 6 A)
    (h : ∀ F ws k s', Keeps s s' → s.heap.get? F = none → s'.heap.get? F = some (lstO ws k) → Txs ws (srt (tolds ns)) → Q (.ref F) s') : wpAny (model PW w) A (call (.ref 279) [.ref D]) Q E s := by
  refine enter (i := 44) (dV := .none) (kV := .none) (n := 5) W (by decide) R (binds := [("names", .ref D)]) (l := [("names", .ref D)]) (ns := ["names"]) (fun _ _ _ => BindsTo.of_eq (by with_unfolding_all rfl)) rfl rfl (by decide +kernel) fun env L A' s₁ e R' hi hL x => ?_
  clear R
  have hvl : vs.length ≤ 7 := by rw [ht.1]; exact h7
  walk_at "body"
  repeat (walk_at "m")
  rename_i rg _ _ _ sE xE
  rw [ht.1] at xE
  refine' iterR (m := ns.length) (σ := Addr × Addr × List Value × Nat) (fun i c => Txs c.2.2.1 ((runsTo ns i).foldl addN [])) (fun c => [("names", .ref D), ("twice", .ref c.1), ("told", .ref c.2.1)])
    (fun c => [(c.2.1, lstO c.2.2.1 c.2.2.2), (c.1, lstO (vs ++ vs) 0)]) (_, _, [], 0) e hL (by decide +kernel) R' (by omega) ?x0 (xE.get1 (by walk_at "mem")) Txs.nil ?gb ?ge
  case x0 =>
    refine' (In.forget xE ?A1).drop ?B1
    case B1 => (try dsimp only); walk_at "sl"
    case A1 => (try dsimp only); walk_at "sub"
  case gb =>
    rintro i tk ⟨TW, TO, acc, n⟩ I o s' hv hb y
    dsimp only at hb y ⊢
    repeat (walk_at "m")
    rename_i la sI xI
    have hsl : Txs (((vs ++ vs).drop ((i : Int)).toNat).take (((i : Int) + (vs.length : Int)).toNat - ((i : Int)).toNat)) (((ns ++ ns).drop i).take ns.length) := by
      have e1 : ((i : Int)).toNat = i := Int.toNat_natCast i
      have e2 : ((i : Int) + (vs.length : Int)).toNat - ((i : Int)).toNat = ns.length := by rw [← ht.1]; exact i2n _ _
      rw [e2, e1]
      exact ((Txs.append ht ht).drop i).take _
    have hx : ∃ tr, In s L [("names", .ref D), ("twice", .ref TW), ("told", .ref TO), ("run", .str (S []) tr)]
        [(la, lstO (((vs ++ vs).drop ((i : Int)).toNat).take (((i : Int) + (vs.length : Int)).toNat - ((i : Int)).toNat)) 0), (I, o), (TO, lstO acc n), (TW, lstO (vs ++ vs) 0)] sI := by
      refine' ⟨_, (In.forget xI ?A1).drop ?B1⟩
      case B1 => walk_at "sl"
      case A1 => walk_at "sub"
    clear xI
    obtain ⟨tr, xI⟩ := hx
    generalize (((vs ++ vs).drop ((i : Int)).toNat).take (((i : Int) + (vs.length : Int)).toNat - ((i : Int)).toNat)) = sl at *
    have hi7 : i ≤ ns.length := Nat.le_of_lt hv
    have hin : i * ns.length ≤ 49 := Nat.le_trans (Nat.mul_le_mul (Nat.le_trans hi7 h7) h7) (by decide)
    have hlen2 : (((ns ++ ns).drop i).take ns.length).length = ns.length := by
      rw [List.length_take, List.length_drop, List.length_append]
      exact Nat.min_eq_left (Nat.le_sub_of_add_le (Nat.add_le_add_left hi7 _))
    have hrz : ∀ j, (pt ((((ns ++ ns).drop i).take ns.length).take j)).length ≤ 600 := fun j => by
      have h1 := pt_app ((((ns ++ ns).drop i).take ns.length).take j) ((((ns ++ ns).drop i).take ns.length).drop j)
      rw [List.take_append_drop] at h1
      have h2 := pt_app (((ns ++ ns).drop i).take ns.length) (((ns ++ ns).drop i).drop ns.length)
      rw [List.take_append_drop] at h2
      have h3 := pt_app ((ns ++ ns).take i) ((ns ++ ns).drop i)
      rw [List.take_append_drop, pt_app] at h3
      have h1' := congrArg List.length h1
      have h2' := congrArg List.length h2
      have h3' := congrArg List.length h3
      simp only [List.length_append] at h1' h2' h3'
      omega
    have hrun : ∀ j, j ≤ ns.length → ((runsTo ns i) ++ runsAt ns i j).length ≤ 60 := fun j hj => by
      rw [List.length_append, runsTo_len]; simp [runsAt]; omega
    refine' iterL (σ := List Nat × Tok × List Value × Nat) (fun j c => c.1 = pt ((((ns ++ ns).drop i).take ns.length).take j) ∧ Txs c.2.2.1 (((runsTo ns i) ++ runsAt ns i j).foldl addN []))
      (fun c => [("names", .ref D), ("twice", .ref TW), ("told", .ref TO), ("run", .str (S c.1) c.2.1)])
      (fun c => [(I, o), (TO, lstO c.2.2.1 c.2.2.2), (TW, lstO (vs ++ vs) 0), (la, lstO sl 0)]) ([], tr, acc, n) e hL (by decide +kernel) R' (xI.perm ?pm) (isl (xI.get1 List.mem_cons_self)) (.inr ⟨lstO sl 0, fun _ _ _ => by simp⟩) ⟨rfl, ?i0⟩ ?gc ?gd
    case pm => exact (List.perm_append_comm (l₁ := [(la, lstO sl 0)]) (l₂ := [(I, o), (TO, lstO acc n), (TW, lstO (vs ++ vs) 0)]))
    case i0 => simpa [runsAt] using hb
    case gc =>
      rintro j v ⟨run, t1, acc2, n2⟩ I2 o2 s2 hv2 ⟨hc1, hc2⟩ y2
      obtain ⟨q, u, hq, rfl⟩ := hsl.2 j v hv2
      dsimp only at hc1 hc2 y2 ⊢
      have hj : j < ns.length := by
        rcases Nat.lt_or_ge j ns.length with z | z
        · exact z
        · rw [List.getElem?_eq_none (by rw [hlen2]; exact z)] at hq; cases hq
      have hrl : run.length ≤ 600 := by rw [hc1]; exact hrz j
      have hrun2 : run ++ ([47] ++ q) = pt (((ns ++ ns).drop i).take (j + 1)) := by
        have e1 : (((ns ++ ns).drop i).take ns.length).take (j + 1) = ((ns ++ ns).drop i).take (j + 1) := by rw [List.take_take, Nat.min_eq_left (Nat.succ_le_of_lt hj)]
        rw [← e1, List.take_add_one, hq, pt_app, ← hc1]; simp [pt]
      have hql : q.length ≤ 600 := by
        have := hrz (j + 1)
        rw [List.take_add_one, hq, pt_app, List.length_append] at this
        simp [pt] at this; omega
      have hral : ∀ r, addN (((runsTo ns i) ++ runsAt ns i j).foldl addN []) r = (((runsTo ns i) ++ (runsAt ns i j ++ [r])).foldl addN []) := fun r => by
        rw [← List.append_assoc, List.foldl_append (l := runsTo ns i ++ runsAt ns i j)]; rfl
      have hrs : runsAt ns i (j + 1) = runsAt ns i j ++ [run ++ ([47] ++ q)] := by rw [hrun2]; unfold runsAt; rw [List.range_succ, List.map_append]; rfl
      have hacl : acc2.length ≤ 60 := by
        rw [hc2.1]; exact Nat.le_trans (addN_len ((runsTo ns i) ++ runsAt ns i j) []) (by rw [List.length_nil, Nat.zero_add]; exact hrun j (Nat.le_of_lt hj))
      repeat (walk_at "m")
      refine ifB (fun hx => ?_) (fun hx => ?_)
      · have hnew : addN (((runsTo ns i) ++ runsAt ns i j).foldl addN []) (run ++ ([47] ++ q)) = ((runsTo ns i) ++ runsAt ns i j).foldl addN [] ++ [run ++ ([47] ++ q)] := by
          unfold addN; rw [if_neg (by rw [Bool.not_eq_true']  at hx; exact Bool.eq_false_iff.mp hx)]
        repeat (walk_at "m")
        refine' lqN (by assumption) (run ++ ([47] ++ q), _, acc2 ++ [.str (S (run ++ ([47] ++ q))) _], _) ?h1 ?h2 ?h3
        case h2 => (try dsimp only); walk_at "sub"
        case h3 => walk_at "sl"
        case h1 =>
          refine ⟨?_, ?_⟩
          · dsimp only; rw [List.take_add_one, hq, pt_app, ← hc1]; simp [pt]
          · dsimp only; rw [hrs, ← hral, hnew]; exact hc2.snoc
      · have hnew : addN (((runsTo ns i) ++ runsAt ns i j).foldl addN []) (run ++ ([47] ++ q)) = ((runsTo ns i) ++ runsAt ns i j).foldl addN [] := by
          unfold addN; rw [if_pos (by rw [Bool.not_eq_false'] at hx; exact hx)]
        repeat (walk_at "m")
        refine' lqN (by assumption) (run ++ ([47] ++ q), _, acc2, _) ?h1 ?h2 ?h3
        case h2 => (try dsimp only); walk_at "sub"
        case h3 => walk_at "sl"
        case h1 =>
          refine ⟨?_, ?_⟩
          · dsimp only; rw [List.take_add_one, hq, pt_app, ← hc1]; simp [pt]
          · dsimp only; rw [hrs, ← hral, hnew]; exact hc2
    case gd =>
      rintro ⟨run, t1, acc2, n2⟩ s2 ⟨hc1, hc2⟩ y2
      rw [hsl.1, hlen2] at hc2
      dsimp only at hc2 y2 ⊢
      repeat (walk_at "m")
      refine' lqN (by assumption) (TW, TO, acc2, n2) ?h1 ?h2 ?h3
      case h2 => (try dsimp only); walk_at "sub"
      case h3 => walk_at "sl"
      case h1 =>
        dsimp only
        unfold runsTo at hc2 ⊢
        rw [List.range_succ, List.flatMap_append]
        simpa using hc2
  case ge =>
    rintro ⟨TW, TO, acc, n⟩ s' hb y
    dsimp only at hb y ⊢
    have hal : acc.length < 64 := by
      have h1 := hb.1
      have h2 := addN_len (runsTo ns ns.length) []
      rw [runsTo_len] at h2
      have := Nat.mul_le_mul h7 h7
      simp only [List.length_nil] at h2
      omega
    repeat (walk_at "m")
    exact h _ _ _ _ (In.done (by assumption)) (In.nw (by assumption) _ (List.Mem.head _)).2.2 (In.nw (by assumption) _ (List.Mem.head _)).1 (by assumption)
theorem k_told {ns : List (List Nat)} {D : Addr} {vs : List Value} {m : Nat} (x : In s₀ L l nw s) (W : Wd s₀.heap) (R : Rm 6 A) (hD : s.heap.get? D = some (lstO vs m)) (ht : Txs vs ns) (h7 : ns.length ≤ 7) (hz : (pt ns).length ≤ 250)
    (h : ∀ F ws k s', Txs ws (srt (tolds ns)) → In s₀ L l ((F, lstO ws k) :: nw) s' → Q (.ref F) s') : wpAny (model PW w) A (call (.ref 279) [.ref D]) Q E s :=
  c_told hD ht h7 hz (x.wd W) R fun _ _ _ _ k h1 h2 h3 => h _ _ _ _ h3 (x.more k h1 h2)
local macro_rules | `(tactic| walk_at "ct") => ctr "k_told" ["go", "a", "sz", "sz"] 6
end
end
local macro_rules | `(tactic| walk_at "ct") => ctr "k_told" ["go", "a", "sz", "sz"] 6
section
noncomputable def aheadOf (ps : List (List Nat)) (r : List Nat) : Nat := (ps.filter fun q => decide (q < r)).length
section
variable {w : World} {A : Around} {E : Value → Shared → Prop} {s₀ s : Shared} {L : Addr} {l : List (Str × Value)} {nw : List (Addr × Obj)} {Q : Value → Shared → Prop} {p : Str} {t u : Tok}
theorem b2i_lt (q r : List Nat) : (b2i (decide (r < q)) - b2i (decide (q < r)) == -1) = decide (q < r) := by
  by_cases h : q < r
  · have h2 : ¬ r < q := fun k => (List.lt_irrefl q) (List.lt_trans h k)
    rw [decide_eq_true h, decide_eq_false h2]; rfl
  · rw [decide_eq_false h]
    by_cases h2 : r < q
    · rw [decide_eq_true h2]; rfl
    · rw [decide_eq_false h2]; rfl
theorem c_ahead {ps : List (List Nat)} {D : Addr} {vs : List Value} {m : Nat} (hD : s.heap.get? D = some (lstO vs m)) (ht : Txs vs ps) (hl : ps.length ≤ 100) (W : Wd s.heap) (R : Rm 6 A)
    (h : ∀ F ws k s', Keeps s s' → s.heap.get? F = none → s'.heap.get? F = some (lstO ws k) → IntsAre ws (ps.map fun r => (aheadOf ps r : Int)) → Q (.ref F) s') : wpAny (model PW w) A (call (.ref 284) [.ref D]) Q E s := by
  have hvl : vs.length ≤ 100 := by rw [ht.1]; exact hl
  refine enterC (i := 45) (dV := .none) (kV := .none) (n := 5) W (by decide) R (binds := [("ordered", .ref D)]) (ns := ["ordered"]) (fun _ _ _ => by with_unfolding_all rfl) rfl (by decide +kernel) fun env L A' s₁ e R' hi hL x => ?_
  clear R
  have e : EnvIs env L (fScope (stmtAt 45)) [("ordered", L + 1)] := e
  obtain ⟨o, x⟩ := In.ofC1 (l := []) (n := "ordered") (c := L + 1) x (fun _ _ q => by cases q)
  have hb : bindC (fun y => (fScope (stmtAt 45)).names.lookup y) [("ordered", Value.ref D)] (fun _ => none) "ordered" = some (.ref D) := by with_unfolding_all rfl
  rw [hb] at x
  walk_at "body"
  repeat (walk_at "m")
  have hD1 := x.get0 hD
  have W1 := x.wd W
  have hO1 : s₁.heap.get? (L + 1) = some (cellP o (some (.ref D))) := x.get1 List.mem_cons_self
  obtain ⟨o0, ho0⟩ : ∃ o0 : Obj, o0 = cell0 := ⟨_, rfl⟩
  refine' compIt (k := 1) (clF := fun C => [("row", C + 1), ("ordered", L + 1)]) (vs := vs) (σ := Nat × List Value × Option Value)
    (fun i c => c.1 = i ∧ IntsAre c.2.1 ((ps.take i).map fun r => (aheadOf ps r : Int))) (fun c => c.2.1) (fun c C => [(C + 1, cellP o0 c.2.2)]) (0, [], none)
    e R' (fun _ => rfl) (by decide) (fun _ => rfl) rfl (.inl ⟨m, hD1⟩) ⟨rfl, .nil⟩ rfl (fun _ => by subst ho0; rfl) ?gs ?gb ?ge
  case gs => rintro i b ⟨_, hb⟩; have := hb.length; simp at this; simp; omega
  case gb =>
    rintro i v ⟨i', acc, cv⟩ I oI F n C s' hv ⟨rfl, hb⟩ eC hC y
    obtain ⟨q, u, hq, rfl⟩ := ht.2 i' v hv
    dsimp only at eC hb y ⊢
    unfold TurnOk
    repeat (walk_at "m")
    rename_i sX xX
    have hD2 := xX.get0 hD1
    have W2 := xX.wd W1
    have hR2 : sX.heap.get? (C + 1) = some (cellP o0 (some (.str (S q) u))) := xX.get1 (by walk_at "mem")
    refine' compIt (k := 0) (clF := fun _ => [("row", C + 1)]) (vs := vs) (σ := List Value)
      (fun j c => Txs c ((ps.take j).filter fun z => decide (z < q))) (fun c => c) (fun _ _ => []) [] eC R' (fun _ => rfl) (by decide) (fun _ => rfl) rfl (.inl ⟨m, hD2⟩) Txs.nil rfl (fun _ => rfl) ?hs ?hb ?he
    case hs =>
      intro j c hc
      have := hc.1; have h2 := List.length_filter_le (fun z => decide (z < q)) (ps.take j); rw [List.length_take] at h2; omega
    case hb =>
      rintro j v c J oJ G k C2 s2 hv2 hc eC2 hC2 y2
      obtain ⟨z, uz, hz, rfl⟩ := ht.2 j v hv2
      unfold TurnOk
      repeat (walk_at "m")
      rw [b2i_lt]
      have htk : ps.take (j + 1) = ps.take j ++ [z] := by rw [List.take_add_one, hz]; rfl
      by_cases hlt : z < q
      · rw [decide_eq_true hlt]
        refine ifTT ?_
        repeat (walk_at "m")
        refine ⟨c ++ [_], _, ?_, rfl, by assumption⟩
        show Txs _ _
        rw [htk, List.filter_append, List.filter_cons_of_pos (by simpa using hlt), List.filter_nil]
        exact hc.snoc
      · rw [decide_eq_false hlt]
        refine ifFF ?_
        refine ⟨c, _, ?_, rfl, by assumption⟩
        show Txs _ _
        rw [htk, List.filter_append, List.filter_cons_of_neg (by simpa using hlt), List.filter_nil, List.append_nil]
        exact hc
    case he =>
      rintro c G k C2 s2 hc hC2 y2
      refine' compEndN xX hC2 y2 ?_
      intro s3 x3
      simp only [List.cons_append, List.nil_append] at x3
      rw [ht.1, List.take_length] at hc
      have hcl : c.length = aheadOf ps q := hc.1
      have hcz : c.length ≤ 100 := by rw [hcl]; exact Nat.le_trans (List.length_filter_le ..) hl
      repeat (walk_at "m")
      rename_i t4 s4 x4
      refine ⟨(i' + 1, acc ++ [.int (c.length : Int) t4], some (.str (S q) u)), _, ⟨rfl, ?_⟩, rfl, x4.drop ?_⟩
      · show IntsAre _ _
        dsimp only
        rw [List.take_add_one, hq, List.map_append, hcl]
        exact IntsAre.append hb (.cons _ _ .nil)
      · dsimp only; walk_at "sl"
  case ge =>
    rintro ⟨i', acc, cv⟩ F n C s' ⟨_, hb⟩ hC y
    dsimp only at hb y
    refine' compEndN x hC y ?_
    intro s3 x3
    simp only [List.cons_append, List.nil_append] at x3
    rw [ht.1, List.take_length] at hb
    repeat (walk_at "m")
    exact h _ _ _ _ (In.done (by assumption)) (In.nw (by assumption) _ (List.Mem.head _)).2.2 (In.nw (by assumption) _ (List.Mem.head _)).1 hb
theorem k_ahead {ps : List (List Nat)} {D : Addr} {vs : List Value} {m : Nat} (x : In s₀ L l nw s) (W : Wd s₀.heap) (R : Rm 6 A) (hD : s.heap.get? D = some (lstO vs m)) (ht : Txs vs ps) (hl : ps.length ≤ 100)
    (h : ∀ F ws k s', IntsAre ws (ps.map fun r => (aheadOf ps r : Int)) → In s₀ L l ((F, lstO ws k) :: nw) s' → Q (.ref F) s') : wpAny (model PW w) A (call (.ref 284) [.ref D]) Q E s :=
  c_ahead hD ht hl (x.wd W) R fun _ _ _ _ k h1 h2 h3 => h _ _ _ _ h3 (x.more k h1 h2)
local macro_rules | `(tactic| walk_at "ct") => ctr "k_ahead" ["go", "a", "sz"] 6
end
end
local macro_rules | `(tactic| walk_at "ct") => ctr "k_ahead" ["go", "a", "sz"] 6
section
/-- the list of names whose last stands first -/
noncomputable def trn (u : List (List Nat)) : List (List Nat) := match u.getLast? with | some p => p :: u.dropLast | none => []
noncomputable def nmOf (u : List (List Nat)) : List Nat := u.getLastD []
theorem trn_snoc (a : List (List Nat)) (p : List Nat) : trn (a ++ [p]) = p :: a := by unfold trn; simp
theorem rot_len (ns : List (List Nat)) (k : Nat) (h : k ≤ ns.length) : (rot ns k).length = ns.length := by unfold rot; rw [List.length_append, List.length_drop, List.length_take, Nat.min_eq_left (Nat.sub_le _ _), Nat.sub_add_cancel (Nat.sub_le _ _)]
theorem rot_trn (ns : List (List Nat)) (i : Nat) (hi : i < ns.length) : trn (rot ns i) = rot ns (i + 1) := by
  have hlt : ns.length - (i + 1) < ns.length := Nat.sub_lt (Nat.lt_of_le_of_lt (Nat.zero_le _) hi) (Nat.succ_pos _)
  have e3 : ns.length - i = ns.length - (i + 1) + 1 := sb0 hi
  have h1 : rot ns i = (ns.drop (ns.length - i) ++ ns.take (ns.length - (i + 1))) ++ [ns[ns.length - (i + 1)]] := by
    unfold rot
    rw [e3, List.append_assoc, List.take_succ_eq_append_getElem hlt]
  rw [h1, trn_snoc]
  unfold rot
  rw [List.drop_eq_getElem_cons hlt, ← e3]; rfl
theorem rot_zero (ns : List (List Nat)) : rot ns 0 = ns := by simp [rot]
theorem rot_all (ns : List (List Nat)) : rot ns ns.length = ns := by simp [rot]
/-- all the turnings -/
noncomputable def rots (ns : List (List Nat)) : List (List (List Nat)) := (List.range ns.length).map (rot ns)
theorem rots_trn (ns : List (List Nat)) : ((rots ns).map trn).Perm (rots ns) := by
  have e : (rots ns).map trn = (List.range ns.length).map fun i => rot ns (i + 1) := by
    unfold rots
    rw [List.map_map]
    exact List.map_congr_left fun i hi => rot_trn ns i (List.mem_range.mp hi)
  rw [e]
  unfold rots
  cases h : ns.length with
  | zero => simp
  | succ m =>
    rw [List.range_succ, List.map_append, List.map_singleton, ← List.range_succ, List.range_succ_eq_map, List.map_cons, List.map_map]
    have : rot ns (m + 1) = rot ns 0 := by rw [← h, rot_all, rot_zero]
    rw [this]
    exact (List.perm_append_comm (l₁ := List.map (fun i => rot ns (i + 1)) (List.range m)) (l₂ := [rot ns 0]))
/-- names with no slash are told by their path -/
theorem pt_inj : ∀ {a b : List (List Nat)}, (∀ p ∈ a, 47 ∉ p) → (∀ p ∈ b, 47 ∉ p) → pt a = pt b → a = b
  | [], [], _, _, _ => rfl
  | [], q :: b, _, _, h => by rw [pt_cons] at h; cases h
  | p :: a, [], _, _, h => by rw [pt_cons] at h; cases h
  | p :: a, q :: b, h1, h2, h => by
    have e := jn_inj (c := 47) (a := p :: a) (b := q :: b) (by simp) (by simp) h1 h2 (by
      have := h; rw [pt_jn _ (by simp), pt_jn _ (by simp)] at this; exact List.cons.inj this |>.2)
    exact e

-- order
theorem lt_same : ∀ {x y : List Nat} (s t : List Nat), x.length = y.length → (x ++ s < y ++ t ↔ x < y ∨ (x = y ∧ s < t))
  | [], [], s, t, _ => by simp
  | [], _ :: _, _, _, h => by simp at h
  | _ :: _, [], _, _, h => by simp at h
  | a :: x, b :: y, s, t, h => by
    have ih := lt_same (x := x) (y := y) s t (by simpa using h)
    simp only [List.cons_append, List.cons_lt_cons_iff, ih, List.cons.injEq]
    constructor
    · rintro (k | ⟨rfl, k | ⟨rfl, k⟩⟩)
      · exact .inl (.inl k)
      · exact .inl (.inr ⟨rfl, k⟩)
      · exact .inr ⟨⟨rfl, rfl⟩, k⟩
    · rintro ((k | ⟨rfl, k⟩) | ⟨⟨rfl, rfl⟩, k⟩)
      · exact .inl k
      · exact .inr ⟨rfl, .inl k⟩
      · exact .inr ⟨rfl, .inr ⟨rfl, k⟩⟩
theorem lt_slash : ∀ {p q : List Nat} (r r' : List Nat), 47 ∉ p → 47 ∉ q → p ++ [47] < q ++ [47] → p ++ 47 :: r < q ++ 47 :: r'
  | [], [], r, r', _, _, h => absurd h (List.lt_irrefl _)
  | [], b :: q, r, r', _, hq, h => by
    simp only [List.nil_append, List.cons_append, List.cons_lt_cons_iff] at h ⊢
    rcases h with h | ⟨h, _⟩
    · exact .inl h
    · exact absurd (by rw [← h]; simp) hq
  | a :: p, [], r, r', hp, _, h => by
    simp only [List.nil_append, List.cons_append, List.cons_lt_cons_iff] at h ⊢
    rcases h with h | ⟨h, _⟩
    · exact .inl h
    · exact absurd (by rw [h]; simp) hp
  | a :: p, b :: q, r, r', hp, hq, h => by
    simp only [List.cons_append, List.cons_lt_cons_iff] at h ⊢
    rcases h with h | ⟨h1, h2⟩
    · exact .inl h
    · exact .inr ⟨h1, lt_slash r r' (fun m => hp (List.mem_cons_of_mem _ m)) (fun m => hq (List.mem_cons_of_mem _ m)) h2⟩
theorem trn_lt {a b : List (List Nat)} {p q : List Nat} (hp : 47 ∉ p) (hq : 47 ∉ q) (hl : a.length = b.length) (hz : (pt (a ++ [p])).length = (pt (b ++ [q])).length) (h : p ++ [47] < q ++ [47]) : pt (p :: a) < pt (q :: b) := by
  rw [pt_cons, pt_cons, List.cons_append, List.cons_append]
  refine List.cons_lt_cons_iff.mpr (.inr ⟨rfl, ?_⟩)
  cases a with
  | nil =>
    have : b = [] := List.length_eq_zero_iff.mp hl.symm
    subst this
    have hpq : p.length = q.length := by simpa [pt] using hz
    rcases (lt_same [47] [47] hpq).mp h with h | ⟨_, h⟩
    · simpa [pt] using h
    · exact absurd h (List.lt_irrefl _)
  | cons x a =>
    cases b with
    | nil => simp at hl
    | cons y b =>
      rw [pt_cons, pt_cons, List.cons_append, List.cons_append]
      exact lt_slash _ _ hp hq h
theorem app_le {x y : List Nat} (p : List Nat) : leL (p ++ x) (p ++ y) = leL x y := by
  unfold leL
  have := lt_same (x := p) (y := p) y x rfl
  have e : (p ++ y < p ++ x) ↔ (y < x) := this.trans ⟨fun h => h.elim (fun h => absurd h (List.lt_irrefl _)) (·.2), fun h => .inr ⟨rfl, h⟩⟩
  rw [decide_eq_decide.mpr e]
theorem le_app {x y : List Nat} (p : List Nat) (h : x.length = y.length) : leL (x ++ p) (y ++ p) = leL x y := by
  unfold leL
  have := lt_same (x := y) (y := x) p p h.symm
  have e : (y ++ p < x ++ p) ↔ (y < x) := this.trans ⟨fun h => h.elim id (fun h => absurd h.2 (List.lt_irrefl _)), .inl⟩
  rw [decide_eq_decide.mpr e]
theorem leL_of_lt {x y : List Nat} (h : x < y) : leL x y = true := by
  unfold leL; simp; exact List.le_of_lt h
theorem leL_false {x y : List Nat} : leL x y = false ↔ y < x := by unfold leL; simp
theorem trn_le {a b : List (List Nat)} {p q : List Nat} (hp : 47 ∉ p) (hq : 47 ∉ q) (hl : a.length = b.length) (hz : (pt (a ++ [p])).length = (pt (b ++ [q])).length) (h : ¬ q ++ [47] < p ++ [47])
    (hr : leL (pt (a ++ [p])) (pt (b ++ [q])) = true) : leL (pt (p :: a)) (pt (q :: b)) = true := by
  by_cases h2 : p ++ [47] < q ++ [47]
  · exact leL_of_lt (trn_lt hp hq hl hz h2)
  · have e : p ++ [47] = q ++ [47] := List.le_antisymm (by simpa using h) (by simpa using h2)
    have e : p = q := List.append_cancel_right e
    subst e
    rw [pt_snoc, pt_snoc, le_app _ (by rw [pt_snoc, pt_snoc] at hz; simpa using hz)] at hr
    rw [pt_cons, pt_cons, app_le]
    exact hr
-- a list with all of range n
theorem perm_of_sub : ∀ {l m : List Nat}, l.Nodup → l ⊆ m → ∃ r, (l ++ r).Perm m
  | [], m, _, _ => ⟨m, List.Perm.refl _⟩
  | a :: l, m, h, hs => by
    have hn := List.nodup_cons.mp h
    have ha : a ∈ m := hs (List.mem_cons_self ..)
    obtain ⟨r, hr⟩ := perm_of_sub (l := l) (m := m.erase a) hn.2 (fun x hx => (List.mem_erase_of_ne (fun e => hn.1 (by rw [← e]; exact hx))).mpr (hs (List.mem_cons_of_mem _ hx)))
    exact ⟨r, ((hr.cons a)).trans (List.perm_cons_erase ha).symm⟩
theorem perm_range {l : List Nat} {n : Nat} (h : l.Nodup) (hb : ∀ x ∈ l, x < n) (hl : l.length = n) : l.Perm (List.range n) := by
  obtain ⟨r, hr⟩ := perm_of_sub (l := l) (m := List.range n) h (fun x hx => List.mem_range.mpr (hb x hx))
  have := hr.length_eq
  rw [List.length_append, List.length_range, hl] at this
  have : r = [] := List.length_eq_zero_iff.mp (by omega)
  rw [this, List.append_nil] at hr
  exact hr
noncomputable def inOrd (ns : List (List Nat)) : List (List (List Nat)) := (rots ns).mergeSort fun u v => leL (pt u) (pt v)
theorem inOrd_perm (ns : List (List Nat)) : (inOrd ns).Perm (rots ns) := List.mergeSort_perm ..
theorem inOrd_pair (ns : List (List Nat)) : (inOrd ns).Pairwise fun u v => leL (pt u) (pt v) = true :=
  List.pairwise_mergeSort (le := fun u v => leL (pt u) (pt v)) (fun a b c => leL_trans (pt a) (pt b) (pt c)) (fun a b => leL_total (pt a) (pt b)) _
theorem inOrd_srt (ns : List (List Nat)) : (inOrd ns).map pt = srt ((rots ns).map pt) :=
  srt_of ((inOrd_perm ns).map pt) (List.pairwise_map.mpr (inOrd_pair ns))
theorem rots_mem {ns u : List (List Nat)} (hu : u ∈ rots ns) : u.length = ns.length ∧ (∀ q ∈ u, q ∈ ns) ∧ (pt u).length = (pt ns).length := by
  obtain ⟨i, hi, rfl⟩ := List.mem_map.mp hu
  have hi := List.mem_range.mp hi
  refine ⟨rot_len ns i (by omega), fun q hq => ?_, ?_⟩
  · rcases List.mem_append.mp hq with h | h
    · exact List.mem_of_mem_drop h
    · exact List.mem_of_mem_take h
  · unfold rot
    rw [pt_app, List.length_append, Nat.add_comm, ← List.length_append, ← pt_app, List.take_append_drop]
theorem snoc_of {u : List (List Nat)} (h : u ≠ []) : ∃ a p, u = a ++ [p] := ⟨u.dropLast, u.getLast h, (List.dropLast_concat_getLast h).symm⟩
noncomputable abbrev KL (c : Nat → Nat → Prop) (a b : Nat) : Prop := c a b ∨ (¬ c b a ∧ a < b)
/-- the ring leads from each turning to the one of which it is the turning -/
theorem ring_ok {ns : List (List Nat)} (hn : ∀ q ∈ ns, 47 ∉ q) (h0 : ns ≠ []) {p : List Nat} (hl : p.length = ns.length) (hb : ∀ x ∈ p, x < ns.length)
    (hp : p.Pairwise (KL fun i j => nmOf ((inOrd ns).getD i []) ++ [47] < nmOf ((inOrd ns).getD j []) ++ [47])) :
    p.map (fun i => trn ((inOrd ns).getD i [])) = inOrd ns := by
  have hpl : (inOrd ns).length = ns.length := by rw [(inOrd_perm ns).length_eq]; simp [rots]
  have hm : ∀ i < ns.length, (inOrd ns).getD i [] ∈ rots ns := fun i hi => by
    rw [List.getD_eq_getElem?_getD, List.getElem?_eq_getElem (by omega)]
    exact (inOrd_perm ns).mem_iff.mp (List.getElem_mem _)
  have hnd : p.Nodup := List.Pairwise.imp (fun {a b} h e => by
    subst e
    rcases h with h | h
    · exact absurd h (List.lt_irrefl _)
    · exact absurd h.2 (Nat.lt_irrefl _)) hp
  have hperm := perm_range hnd hb hl
  have h1 : (p.map (fun i => trn ((inOrd ns).getD i []))).Perm (rots ns) := by
    refine (hperm.map _).trans ?_
    have : (List.range ns.length).map (fun i => trn ((inOrd ns).getD i [])) = (inOrd ns).map trn := by
      rw [← hpl]
      refine List.ext_getElem (by simp) fun i h1 h2 => ?_
      simp only [List.getElem_map, List.getElem_range]
      rw [List.getD_eq_getElem?_getD, List.getElem?_eq_getElem (by simpa using h1)]; rfl
    rw [this]
    exact ((inOrd_perm ns).map trn).trans (rots_trn ns)
  have h2 : ((p.map (fun i => trn ((inOrd ns).getD i []))).map pt).Pairwise (fun a b => leL a b = true) := by
    rw [List.map_map, List.pairwise_map]
    refine List.Pairwise.imp_of_mem (fun {i j} hi hj h => ?_) hp
    have hi := hb i hi
    have hj := hb j hj
    have mi := rots_mem (hm i hi)
    have mj := rots_mem (hm j hj)
    have hord : i < j → leL (pt ((inOrd ns).getD i [])) (pt ((inOrd ns).getD j [])) = true := fun hij => by
      have := List.pairwise_iff_getElem.mp (inOrd_pair ns) i j (by omega) (by omega) hij
      rw [List.getD_eq_getElem?_getD, List.getD_eq_getElem?_getD, List.getElem?_eq_getElem (by omega), List.getElem?_eq_getElem (by omega)]
      exact this
    have hpos : 0 < ns.length := List.length_pos_iff.mpr h0
    change (nmOf ((inOrd ns).getD i []) ++ [47] < nmOf ((inOrd ns).getD j []) ++ [47]) ∨ (¬ (nmOf ((inOrd ns).getD j []) ++ [47] < nmOf ((inOrd ns).getD i []) ++ [47]) ∧ i < j) at h
    show leL (pt (trn ((inOrd ns).getD i []))) (pt (trn ((inOrd ns).getD j []))) = true
    generalize (inOrd ns).getD i [] = u at mi hord h ⊢
    generalize (inOrd ns).getD j [] = v at mj hord h ⊢
    obtain ⟨a, x, rfl⟩ := snoc_of (u := u) (by intro e; subst e; simp at mi; omega)
    obtain ⟨b, y, rfl⟩ := snoc_of (u := v) (by intro e; subst e; simp at mj; omega)
    have hx : 47 ∉ x := hn x (mi.2.1 x (by simp))
    have hy : 47 ∉ y := hn y (mj.2.1 y (by simp))
    have hlen : a.length = b.length := by have h1 := mi.1; have h2 := mj.1; simp at h1 h2; omega
    have hz := mi.2.2.trans mj.2.2.symm
    rw [trn_snoc, trn_snoc]
    have e1 : nmOf (a ++ [x]) = x := by simp [nmOf]
    have e2 : nmOf (b ++ [y]) = y := by simp [nmOf]
    rcases h with h | ⟨h, hij⟩
    · rw [e1, e2] at h; exact leL_of_lt (trn_lt hx hy hlen hz h)
    · rw [e1, e2] at h; exact trn_le hx hy hlen hz h (hord hij)
  have h3 := srt_of (h1.map pt) h2
  rw [← inOrd_srt] at h3
  have hno : ∀ u ∈ rots ns, ∀ q ∈ u, 47 ∉ q := fun u hu q hq => hn q ((rots_mem hu).2.1 q hq)
  have inj : ∀ (l m : List (List (List Nat))), (∀ u ∈ l, ∀ q ∈ u, 47 ∉ q) → (∀ u ∈ m, ∀ q ∈ u, 47 ∉ q) → l.map pt = m.map pt → l = m := by
    intro l
    induction l with
    | nil => intro m _ _ h; cases m with
      | nil => rfl
      | cons _ _ => simp at h
    | cons u l ih => intro m hl hm h; cases m with
      | nil => simp at h
      | cons v m =>
        simp only [List.map_cons, List.cons.injEq] at h
        rw [pt_inj (hl u (by simp)) (hm v (by simp)) h.1, ih m (fun x hx => hl x (by simp [hx])) (fun x hx => hm x (by simp [hx])) h.2]
  exact inj _ _ (fun u hu => hno u (h1.mem_iff.mp hu)) (fun u hu => hno u ((inOrd_perm ns).mem_iff.mp hu)) h3
/-- reading along the ring -/
noncomputable def rd (p : List Nat) (ls : List (List Nat)) : Nat → Nat → List (List Nat)
  | _, 0 => []
  | at', k + 1 => ls.getD (p.getD at' 0) [] :: rd p ls (p.getD at' 0) k
theorem rd_ok {ns : List (List Nat)} (hn : ∀ q ∈ ns, 47 ∉ q) (h0 : ns ≠ []) {p : List Nat} (hl : p.length = ns.length) (hb : ∀ x ∈ p, x < ns.length)
    (hp : p.Pairwise (KL fun i j => nmOf ((inOrd ns).getD i []) ++ [47] < nmOf ((inOrd ns).getD j []) ++ [47])) {i : Nat} (hi : i < ns.length) (hs : (inOrd ns).getD i [] = ns) :
    rd p ((inOrd ns).map nmOf) i ns.length = ns := by
  have hr := ring_ok hn h0 hl hb hp
  have hpl : (inOrd ns).length = ns.length := by rw [(inOrd_perm ns).length_eq]; simp [rots]
  have step : ∀ k, k < ns.length → p.getD k 0 < ns.length ∧ trn ((inOrd ns).getD (p.getD k 0) []) = (inOrd ns).getD k [] := fun k hk => by
    have hk' : k < p.length := by omega
    have e1 : p.getD k 0 = p[k] := by rw [List.getD_eq_getElem?_getD, List.getElem?_eq_getElem hk']; rfl
    refine ⟨by rw [e1]; exact hb _ (List.getElem_mem _), ?_⟩
    rw [e1]
    have := congrArg (fun l => l.getD k []) hr
    simp only [List.getD_eq_getElem?_getD, List.getElem?_map, List.getElem?_eq_getElem hk', Option.map_some, Option.getD_some] at this ⊢
    exact this
  have go : ∀ k j at', j + k = ns.length → at' < ns.length → (inOrd ns).getD at' [] = ns.drop j ++ ns.take j → rd p ((inOrd ns).map nmOf) at' k = ns.drop j := by
    intro k
    induction k with
    | zero => intro j at' hj _ _; rw [List.drop_of_length_le (by omega)]; rfl
    | succ k ih =>
      intro j at' hj hat hu
      obtain ⟨hlt, ht⟩ := step at' hat
      have hj' : j < ns.length := by omega
      have hd : ns.drop j = ns[j] :: ns.drop (j + 1) := List.drop_eq_getElem_cons hj'
      rw [hu, hd] at ht
      have hmem : (inOrd ns).getD (p.getD at' 0) [] ∈ rots ns := by
        rw [List.getD_eq_getElem?_getD, List.getElem?_eq_getElem (by omega)]
        exact (inOrd_perm ns).mem_iff.mp (List.getElem_mem _)
      have hlen := (rots_mem hmem).1
      have hls : ((inOrd ns).map nmOf).getD (p.getD at' 0) [] = nmOf ((inOrd ns).getD (p.getD at' 0) []) := by
        generalize p.getD at' 0 = z at *
        rw [List.getD_eq_getElem?_getD, List.getD_eq_getElem?_getD, List.getElem?_map, List.getElem?_eq_getElem (show z < (inOrd ns).length by omega)]; rfl
      obtain ⟨a, x, hax⟩ := snoc_of (u := (inOrd ns).getD (p.getD at' 0) []) (by intro e; rw [e] at hlen; simp at hlen; omega)
      rw [hax, trn_snoc] at ht
      simp only [List.cons_append, List.cons.injEq] at ht
      obtain ⟨rfl, rfl⟩ := ht
      show ((inOrd ns).map nmOf).getD (p.getD at' 0) [] :: rd p ((inOrd ns).map nmOf) (p.getD at' 0) k = _
      rw [hls, hax, hd]
      congr 1
      · unfold nmOf; rw [List.getLastD_concat]
      · refine ih (j + 1) _ (by omega) hlt ?_
        rw [hax, List.append_assoc, List.take_succ_eq_append_getElem hj']
  have := go ns.length 0 i (by omega) hi (by rw [hs]; simp)
  simpa using this
end
section
set_option maxRecDepth 100000
/-- bytes -/
noncomputable def By (l : List Nat) : Array UInt8 := (l.map Nat.toUInt8).toArray
theorem By_size (l : List Nat) : (By l).size = l.length := by simp [By]
theorem By_arr (l : List Nat) : byteArr (l.map fun n : Nat => (n : Int)) = By l := by
  unfold byteArr By
  rw [List.map_map]; rfl
theorem u8_nat {n : Nat} (h : n < 256) : n.toUInt8.toNat = n := by
  show (UInt8.ofNat n).toNat = n
  rw [UInt8.toNat_ofNat']; omega
theorem By_get {l : List Nat} {i : Nat} : (By l)[i]? = (l[i]?).map Nat.toUInt8 := by simp [By]
theorem By_ints {l : List Nat} (h : ∀ o ∈ l, o < 256) : KBw.bInts (By l) = l.map fun n : Nat => (n : Int) := by
  unfold By
  rw [KBw.ints_list, List.map_map]
  refine List.map_congr_left fun o ho => ?_
  simp only [Function.comp]
  rw [u8_nat (h o ho)]
namespace Dec
open Builtin Builtin._codecs
theorem step_eq {b : Array UInt8} {p : Nat} {c : Nat} (hb : b[p]? = some c.toUInt8) (hc : c < 128) : asciiDecoder.find true b p = .text [c] (p + 1) := by
  have hg : (b.getD p 0).toNat = c := by
    rw [Array.getD_eq_getD_getElem?, hb]
    show c.toUInt8.toNat = c
    exact u8_nat (by omega)
  show (if (b.getD p 0).toNat < 128 then Found.char (b.getD p 0).toNat (p + 1) else _) = _
  rw [hg, if_pos hc]; rfl
theorem forIn_turns {α β : Type} {f : α → β → Sem (ForInStep β)} {S : Nat → β} {n : Nat} : ∀ (xs : List α) (j : Nat), j + xs.length = n → (∀ i x, i < n → f x (S i) = pure (.yield (S (i + 1)))) → forIn xs (S j) f = pure (S n)
  | [], j, hj, _ => by rw [List.forIn_nil]; simp at hj; rw [hj]
  | x :: xs, j, hj, h => by
    rw [List.forIn_cons, h j x (by simp at hj; omega)]
    simp only [pure_bind]
    exact forIn_turns xs (j + 1) (by simp at hj; omega) h
theorem bind_of {α β : Type} {m : Sem α} {k : α → Sem β} {a : α} {r : Sem β} (h : m = pure a) (h2 : k a = r) : m >>= k = r := by rw [h, pure_bind]; exact h2
theorem run_ascii {id : String} {l : List Nat} (h : ∀ c ∈ l, c < 128) (hz : l.length ≤ 1000) : runDecoder id asciiDecoder none true (By l) 0 [] = pure (l.toArray, l.length) := by
  unfold runDecoder
  simp only []
  rw [Std.Legacy.Range.forIn_eq_forIn_range']
  refine bind_of (a := ((l.length, l.toArray, ({ held := [] } : Faults)) : Nat × Array Nat × Faults)) ?_ rfl
  have e : ((l.length, l.toArray, ({ held := [] } : Faults)) : Nat × Array Nat × Faults) = (fun i => ((i, (l.take i).toArray, ({ held := [] } : Faults)) : Nat × Array Nat × Faults)) l.length := by dsimp only; rw [List.take_length]
  rw [e]
  refine forIn_turns (S := fun i => ((i, (l.take i).toArray, ({ held := [] } : Faults)) : Nat × Array Nat × Faults)) (n := l.length) _ 0 (by simp [Std.Legacy.Range.size, By_size]) (fun i x hi => ?_)
  have hget : (By l)[i]? = some (l[i]).toUInt8 := by rw [By_get, List.getElem?_eq_getElem hi]; rfl
  have h1 : ¬ ((l.take i).toArray.size > sizeLine) := by rw [sizeLine_eq]; simp; omega
  have h2 : ¬ (i ≥ (By l).size) := by rw [By_size]; omega
  simp only [if_neg h1, if_neg h2, step_eq hget (h _ (List.getElem_mem _))]
  congr 4
  rw [List.take_succ_eq_append_getElem hi]; simp
theorem road_ascii {id : String} {b : Array UInt8} : decodeRoad id b (PySem.Str.ofString "ascii") none [] = (runDecoder id asciiDecoder none true b 0 [] >>= fun r => mkStr ⟨r.1⟩) := by kernel_rfl
theorem args_decode_2 (a b : Value) : argsOk "bytes.decode" ⟨[a, b], []⟩ := by
  unfold argsOk; rw [signature?_of (id := "bytes.decode") (n := ['e', 'd', 'o', 'c', 'e', 'd']) (o := ['s', 'e', 't', 'y', 'b']) (by kernel_rfl) FB.owner_bytes]; kernel_rfl
theorem entry_eq2 {c : UInt8} {cs : List UInt8} {t u : Tok} : «bytes.decode» ⟨[.bytes (c :: cs).toArray t, .str (PySem.Str.ofString "ascii") u], []⟩ = (mkStr (PySem.Str.ofString "utf-8") >>= fun _ => mkStr (PySem.Str.ofString "ascii") >>= fun e => mkStr (PySem.Str.ofString "bytes.decode") >>= fun d =>
    call (.builtin "_codecs.decode.text") [.bytes (c :: cs).toArray t, e, .none, d] >>= fun v => ret v) := by kernel_rfl
section
variable {b : Array UInt8} {t : Tok} {x : PySem.Str} {n : Nat}
theorem meets_text {t1 t2 : Tok} {d : PySem.Str} (hd : ∀ id, runDecoder id asciiDecoder none true b 0 [] = pure (x.cps, n)) :
    Meets («_codecs.decode.text» ⟨[.bytes b t, .str (PySem.Str.ofString "ascii") t1, .none, .str d t2], []⟩) (fun _ R s => x.length ≤ sizeLine ∧ R (.ok (.ret (.str x s.toks))) { s with toks := s.toks + 1 }) := by
  refine .of_wp fun prog w A R s hS => ?_
  obtain ⟨hsz, h⟩ := hS
  show wpAny _ _ (Bytes.bytesLike _ (.bytes b t) >>= fun r => _) _ _ s
  refine wpAny_bind (wpAny_of_eq KBd.like_eq ?_)
  refine wpAny_bind (wpAny_of_eq KBd.held_eq ?_)
  show wpAny _ _ (_codecs.decodeRoad _ b (PySem.Str.ofString "ascii") none [] >>= fun v => _) _ _ s
  rw [road_ascii, hd]
  refine wpAny_bind (wpAny_bind (wpAny_pure ?_))
  exact wpAny_mkStr (wpAny_pure ⟨_, rfl, h⟩) hsz
theorem meets_decode {c : UInt8} {cs : List UInt8} {u : Tok} (hd : ∀ id, runDecoder id asciiDecoder none true (c :: cs).toArray 0 [] = pure (x.cps, n)) :
    Meets («bytes.decode» ⟨[.bytes (c :: cs).toArray t, .str (PySem.Str.ofString "ascii") u], []⟩) (fun _ R s => x.length ≤ sizeLine ∧ ∀ t' k, R (.ok (.ret (.str x t'))) { s with toks := k }) := by
  refine .of_wp fun prog w A R s hS => ?_
  obtain ⟨hsz, h⟩ := hS
  rw [entry_eq2]
  refine wpAny_bind (wpAny_mkStr ?_ (by decide))
  refine wpAny_bind (wpAny_mkStr ?_ (by decide))
  refine wpAny_bind (wpAny_mkStr ?_ (by decide))
  exact wpAny_bind (call_function_meets KBd.kind_text KBd.plain_text KBd.entry_text (KBd.args_text _ _ _ _) (meets_text hd) ⟨hsz, wpAny_pure ⟨_, rfl, h _ _⟩⟩)
end
theorem narrow_two {self : Value} : ∀ a ∈ pun, ∀ b ∈ pun, encodeNarrow "str.encode" asciiCodec none self (S [a, b]) = pure (By [a, b]) := by
  intro a ha b hb
  simp only [pun, List.mem_cons, List.not_mem_nil, or_false] at ha hb
  rcases ha with rfl | rfl | rfl | rfl | rfl | rfl | rfl | rfl <;> rcases hb with rfl | rfl | rfl | rfl | rfl | rfl | rfl | rfl <;> kernel_rfl
theorem encode_tree2 (x : PySem.Str) (t u : Tok) : Builtin.«str.encode» ⟨[.str x t, .str (PySem.Str.ofString "ascii") u], []⟩ = ((encodeNarrow "str.encode" asciiCodec none (.str x t) x >>= fun b => mkBytes b) >>= fun v => ret v) := by kernel_rfl
/-- the table of two signs -/
noncomputable def mt (a b : Nat) : Array UInt8 := ((Array.range 256).map (·.toUInt8)).setIfInBounds 43 a.toUInt8 |>.setIfInBounds 47 b.toUInt8
theorem plain_mt : plainId "bytes.maketrans" = true := by decide +kernel
theorem entry_mt : entryFor table "bytes.maketrans" = some Builtin.«bytes.maketrans» := entryFor_of_tree (by kernel_rfl)
theorem check_mt (a b : Value) : checkBuiltinCall "bytes.maketrans" ⟨[a, b], []⟩ = pure () := by kernel_rfl
theorem run_mt {a b : Nat} {t u : Tok} {x : List UInt8} (hx : x = [43, 47]) : Builtin.«bytes.maketrans» ⟨[.bytes x.toArray t, .bytes (By [a, b]) u], []⟩ = (mkBytes (mt a b) >>= fun v => ret v) := by
  subst hx
  unfold Builtin.«bytes.maketrans» Bytes.maketransM
  refine bind_of (a := ()) rfl ?_
  refine bind_of (a := ()) rfl ?_
  refine bind_of (a := #[43, 47]) KBd.like_eq ?_
  refine bind_of (a := By [a, b]) KBd.like_eq ?_
  rfl
theorem mt_size (a b : Nat) : (mt a b).size = 256 := by simp [mt]
/-- what the table does -/
noncomputable def sub2 (a b c : Nat) : Nat := if c = 43 then a else if c = 47 then b else c
theorem mt_get {a b c : Nat} (hc : c < 256) : (mt a b).getD c.toUInt8.toNat c.toUInt8 = (sub2 a b c).toUInt8 := by
  rw [u8_nat hc]
  unfold mt sub2
  rw [Array.getD_eq_getD_getElem?, Array.getElem?_setIfInBounds, Array.getElem?_setIfInBounds]
  by_cases h2 : 47 = c
  · subst h2; simp
  · by_cases h1 : 43 = c
    · subst h1; simp
    · rw [if_neg h2, if_neg h1, if_neg (fun q => h1 q.symm), if_neg (fun q => h2 q.symm)]
      rw [Array.getElem?_map, Array.getElem?_range, if_pos hc]; rfl
theorem args_translate (a b : Value) : argsOk "bytes.translate" ⟨[a, b], []⟩ := by
  unfold argsOk; kernel_rfl
theorem slot_translate : Slot "bytes" "translate" "bytes.translate" :=
  .of (owner := "bytes") (n := "translate") (by rw [typeLookup_type, builtinLookup_eq_fast]; kernel_rfl) (by decide +kernel) (by decide +kernel) (by decide +kernel)
    (by first | exact .inl (by decide +kernel) | exact .inr (by decide +kernel)) (by rw [isSubtype_type]; kernel_rfl)
theorem type_translate : typeOf (.builtin "bytes.translate") = pure (.type "method_descriptor") := by show builtinType _ = _; rw [builtinType_eq_fast]; kernel_rfl
theorem entry_translate : entryFor table "bytes.translate" = some Builtin.«bytes.translate» := entryFor_of_tree (by kernel_rfl)
theorem out_eq {l : List Nat} {a b : Nat} (h : ∀ c ∈ l, c < 256) : ((By l).filter (!(#[] : Array UInt8).contains ·)).map (fun c => (mt a b).getD c.toNat c) = By (l.map (sub2 a b)) := by
  have e : (By l).filter (!(#[] : Array UInt8).contains ·) = By l := by
    rw [Array.filter_eq_self]; intro c _; simp
  rw [e]
  unfold By
  simp only [List.map_toArray, List.map_map]
  congr 1
  refine List.map_congr_left fun c hc => ?_
  exact mt_get (h c hc)
theorem meets_translate {l : List Nat} {a b : Nat} {t u : Tok} (h : ∀ c ∈ l, c < 256) (hz : l.length ≤ 1000) :
    Meets (Builtin.«bytes.translate» ⟨[.bytes (By l) t, .bytes (mt a b) u], []⟩) (fun _ R s => ∀ t' k, R (.ok (.ret (.bytes (By (l.map (sub2 a b))) t'))) { s with toks := k }) := by
  refine .of_wp fun prog w A R s hS => ?_
  unfold Builtin.«bytes.translate» Bytes.translateM
  show wpAny _ _ (Bytes.bytesLike _ (.bytes (mt a b) u) >>= fun t => _) _ _ s
  refine wpAny_bind (wpAny_of_eq KBd.like_eq ?_)
  show wpAny _ _ (if ((mt a b).size != 256) = true then _ else _) _ _ s
  rw [if_neg (by rw [mt_size]; decide)]
  show wpAny _ _ (Bytes.payload (.bytes (By l) t) >>= fun b' => _) _ _ s
  refine wpAny_bind (wpAny_of_eq (a := By l) rfl ?_)
  have e := out_eq (a := a) (b := b) h
  show wpAny _ _ (if ((((By l).filter (!(#[] : Array UInt8).contains ·)).map (fun c => (mt a b).getD c.toNat c)) == By l) = true then _ else _) _ _ s
  rw [e]
  by_cases hq : ((By (l.map (sub2 a b))) == By l) = true
  · rw [if_pos hq]
    refine wpAny_bind (wpAny_rule ?_)
    refine wpAny_bind (m := Bytes.Kind.same .bytes (.bytes (By l) t)) (wpAny_of_eq (a := .bytes (By l) t) rfl ?_)
    have : By l = By (l.map (sub2 a b)) := (beq_iff_eq.mp hq).symm
    rw [this]
    exact wpAny_pure ⟨_, rfl, hS _ _⟩
  · rw [if_neg hq]
    refine wpAny_bind (m := Bytes.Kind.new .bytes _) (wpAny_mkBytes ?_ ?_)
    · exact wpAny_pure ⟨_, rfl, hS _ _⟩
    · rw [By_size, sizeLine_eq]; simp; omega
end Dec
end
section
set_option maxRecDepth 100000
theorem bitsN {a : Int} (m : Nat) (h0 : 0 ≤ a) (h : a < 2 ^ m) : Builtin.Int.intBits a ≤ m := by
  rw [intBits_le_iff]
  have e : ((a.natAbs : Nat) : Int) = a := by omega
  have : ((a.natAbs : Nat) : Int) < ((2 ^ m : Nat) : Int) := by rw [e]; push_cast; exact h
  exact_mod_cast this
section
variable {w : World} {A : Around} {E : Value → Shared → Prop} {s₀ s : Shared} {env : Env} {L : Addr} {sc : Scope} {cl : List (Str × Addr)} {l l' : List (Str × Value)} {nw nw' : List (Addr × Obj)} {pos np apos p1 p2 : Pos} {Q : Value → Shared → Prop} {a b : List Nat} {t u : Tok} {i j : Int} {k : Nat} {value slice : PySem.Expr} {n : Str} {v : Value} {rest body : List Stmt} {σ : Type}
theorem rBytes {x : List UInt8} (e : In s₀ L l nw s) (h : ∀ t s', In s₀ L l nw s' → Q (.bytes x.toArray t) s') : wpAny (model PW w) A (eval (.Constant (.bytes x) k pos) env) Q E s := Constant_bytes (h _ _ (e.tok _))
theorem vLenB {x : List Nat} (hz : x.length ≤ 100000) (e : In s₀ L l nw s) (h : ∀ t s', In s₀ L l nw s' → Q (.int x.length t) s') : wpAny (model PW w) A (call (.builtin "len") [.bytes (By x) t]) Q E s :=
  len_bytes (by rw [By_size]; omega) (by rw [By_size]; exact h _ _ ((e.tok _)))
theorem vTypeB {x : Array UInt8} (h : Q (.type "bytes") s) : wpAny (model PW w) A (call (.type "type") [.bytes x t]) Q E s := call_type_of (Tx := "bytes") rfl (by decide +kernel) h
theorem vTypeBool {x : Bool} (h : Q (.type "bool") s) : wpAny (model PW w) A (call (.type "type") [.bool x]) Q E s := call_type_of (Tx := "bool") rfl (by decide +kernel) h
theorem vIsT {T : String} (h : Q (.bool true) s) : wpAny (model PW w) A (compareOp .Is (.type T) (.type T)) Q E s := wpAny_is_self rfl h
theorem vBoolIsN {x : Bool} (h : Q (.bool false) s) : wpAny (model PW w) A (compareOp .Is (.bool x) .none) Q E s := wpAny_is_other rfl (fun q => by cases q) h
theorem vBytesIsNotN {x : Array UInt8} (h : Q (.bool true) s) : wpAny (model PW w) A (compareOp .IsNot (.bytes x t) .none) Q E s := wpAny_isNot_other rfl (fun q => by cases q) h
theorem vAnd (e : In s₀ L l nw s) (h : ∀ t s', In s₀ L l nw s' → Q (.int (Builtin.bitAnd i j) t) s') : wpAny (model PW w) A (binaryOp .BitAnd (.int i t) (.int j u)) Q E s := and_int (h _ _ (e.tok _))
theorem vOr (e : In s₀ L l nw s) (h : ∀ t s', In s₀ L l nw s' → Q (.int (Builtin.bitOr i j) t) s') : wpAny (model PW w) A (binaryOp .BitOr (.int i t) (.int j u)) Q E s := or_int (h _ _ (e.tok _))
theorem vShl {m : Nat} (hi0 : 0 ≤ i) (hi : i < 2 ^ 30) (hj : j = (m : Int)) (hm : m ≤ 1000) (e : In s₀ L l nw s) (h : ∀ t s', In s₀ L l nw s' → Q (.int (i * 2 ^ m) t) s') : wpAny (model PW w) A (binaryOp .LShift (.int i t) (.int j u)) Q E s := by
  subst hj
  refine lshift_int (by omega) ?_ (by rw [Int.toNat_natCast]; exact h _ _ (e.tok _))
  have := bitsN 30 hi0 hi; omega
theorem vShr {m : Nat} (hj : j = (m : Int)) (e : In s₀ L l nw s) (h : ∀ t s', In s₀ L l nw s' → Q (.int (i.fdiv (2 ^ m)) t) s') : wpAny (model PW w) A (binaryOp .RShift (.int i t) (.int j u)) Q E s := by
  subst hj
  exact rshift_int (by omega) (by rw [Int.toNat_natCast]; exact h _ _ (e.tok _))
theorem tIxB {x : List UInt8} {c : Nat} (e : In s₀ L l nw s) (hk : i = (k : Int)) (hl : k < x.length) (hz : x.length ≤ 100000) (hc : (x.getD k 0).toNat = c) (h : ∀ t s', In s₀ L l nw s' → Q (.int (c : Int) t) s')
    (hs : subscripted slice false (.bytes x.toArray t) (.int i u) = operate [.bytes x.toArray t, .int i u] (getItem (.bytes x.toArray t) (.int i u))) :
    wpAny (model PW w) A (subscriptTail value slice (.bytes x.toArray t) (.int i u)) Q E s := by
  subst hk
  exact tail_any (typeIs_bytes _ _ _) FB.slot_bytes_getitem.lookup (getItem_bytes (by omega) (by omega) (by omega) (by rw [Int.toNat_natCast, hc]; exact h _ _ (e.tok _))) hs
/-- bytes(list) -/
theorem vBytes {D : Addr} {vs : List Value} {m : Nat} {ns : List Nat} (R : Rm k A) (h1 : s.heap.get? D = some (lstO vs m)) (hi : IntsAre vs (ns.map fun n : Nat => (n : Int))) (hr : ∀ o ∈ ns, o < 256) (hz : vs.length ≤ 100000) (x : In s₀ L l nw s)
    (h : ∀ t s', In s₀ L l nw s' → Q (.bytes (By ns) t) s') : wpAny (model PW w) A (call (.type "bytes") [.ref D]) Q E s := by
  refine call_bytes_ints (isl h1) hi (fun z hz' => ?_) (by rw [sizeLine_eq]; omega) R.hd fun h' t' k' hk => ?_
  · obtain ⟨o, ho, rfl⟩ := List.mem_map.mp hz'
    have := hr o ho; omega
  · rw [By_arr]; exact h _ _ (x.step ⟨h', k', rfl, hk⟩)
theorem vDecode {x : List Nat} (hx : x ≠ []) (h0 : ∀ c ∈ x, c < 128) (hz : x.length ≤ 1000) (e : In s₀ L l nw s) (h : ∀ t s', In s₀ L l nw s' → Q (.str (S x) t) s') :
    wpAny (model PW w) A (call (.builtin "bytes.decode") [.bytes (By x) t, .str (PySem.Str.ofString "ascii") u]) Q E s := by
  cases x with
  | nil => exact absurd rfl hx
  | cons c cs =>
    refine call_meets FB.slot_bytes_decode (typeIs_bytes _ _ _) FB.entry_bytes_decode (Dec.args_decode_2 _ _) (Dec.meets_decode (c := c.toUInt8) (cs := cs.map Nat.toUInt8) (x := S (c :: cs)) (n := (c :: cs).length) fun id => ?_) ⟨?_, fun t' k' => h _ _ (e.tok _)⟩
    · exact Dec.run_ascii h0 hz
    · rw [S_len, sizeLine_eq]; simp at hz ⊢; omega
theorem vEncode {a b : Nat} (ha : a ∈ pun) (hb : b ∈ pun) (e : In s₀ L l nw s) (h : ∀ t s', In s₀ L l nw s' → Q (.bytes (By [a, b]) t) s') :
    wpAny (model PW w) A (call (.builtin "str.encode") [.str (S [a, b]) t, .str (PySem.Str.ofString "ascii") u]) Q E s := by
  refine call_meets PySem.F.slot_str_encode (typeIs_str _ _ _) PySem.F.entry_str_encode (PySem.F.args_str_encode_2 _ _) (S := fun _ R s => ∀ t' k, R (.ok (.ret (.bytes (By [a, b]) t'))) { s with toks := k }) (.of_wp fun prog w A R s hS => ?_) fun t' k' => h _ _ (e.tok _)
  rw [Dec.encode_tree2, Dec.narrow_two a ha b hb]
  exact wpAny_bind (wpAny_bind (wpAny_pure (wpAny_mkBytes (wpAny_pure ⟨_, rfl, hS _ _⟩) (by rw [By_size, sizeLine_eq]; simp))))
theorem vMt {a b : Nat} {x : List UInt8} (hx : x = [43, 47]) (e : In s₀ L l nw s) (h : ∀ t s', In s₀ L l nw s' → Q (.bytes (Dec.mt a b) t) s') :
    wpAny (model PW w) A (call (.builtin "bytes.maketrans") [.bytes x.toArray t, .bytes (By [a, b]) u]) Q E s := by
  refine wpAny_call (codeAny_call_builtin Dec.plain_mt Dec.entry_mt ?_)
  rw [Dec.check_mt, Dec.run_mt hx]
  exact wpAny_pure (wpAny_bind (wpAny_mkBytes (wpAny_pure (h _ _ (e.tok _))) (by rw [Dec.mt_size, sizeLine_eq]; decide)))
theorem vTranslate {a b : Nat} {x : List Nat} (h0 : ∀ c ∈ x, c < 256) (hz : x.length ≤ 1000) (e : In s₀ L l nw s) (h : ∀ t s', In s₀ L l nw s' → Q (.bytes (By (x.map (Dec.sub2 a b))) t) s') :
    wpAny (model PW w) A (call (.builtin "bytes.translate") [.bytes (By x) t, .bytes (Dec.mt a b) u]) Q E s :=
  call_meets Dec.slot_translate (typeIs_bytes _ _ _) Dec.entry_translate (Dec.args_translate _ _) (Dec.meets_translate h0 hz) fun _ _ => h _ _ (e.tok _)
theorem moB1 {name : Str} {id : String} {x : Array UInt8} {a1 : PySem.Expr} {args : List PySem.Expr} (slot : Slot "bytes" name id) (ty : typeOf (.builtin id) = pure (.type "method_descriptor"))
    (hp : backTo pos (starEach (a1 :: args) env) = (false, eval a1 env) :: backTo pos (starEach args env)) (hs : (backTo pos (starEach (a1 :: args) env)).any (·.1) = false)
    (h : wpAny (model PW w) A (spliced (backTo pos (starEach (a1 :: args) env))) (fun vs s₁ => wpAny (model PW w) A (call (.builtin id) (.bytes x t :: vs)) Q E s₁) E s) :
    MethodOn PW w A name pos (.bytes x t) (backTo pos (starEach (a1 :: args) env)) Q E s :=
  ⟨"bytes", id, FB.plainAttrs_bytes, slot, ty, typeIs_bytes _ _ _, fun _ e => (nomatch e), callWith_builtin hs (by rw [hp] at h ⊢; exact evalArgs_plain h)⟩
theorem mo_decode {x : Array UInt8} {a1 : PySem.Expr} (hp : backTo pos (starEach [a1] env) = (false, eval a1 env) :: backTo pos (starEach [] env)) (hs : (backTo pos (starEach [a1] env)).any (·.1) = false)
    (h : wpAny (model PW w) A (spliced (backTo pos (starEach [a1] env))) (fun vs s₁ => wpAny (model PW w) A (call (.builtin "bytes.decode") (.bytes x t :: vs)) Q E s₁) E s) :
    MethodOn PW w A (PySem.Str.ofString "decode") pos (.bytes x t) (backTo pos (starEach [a1] env)) Q E s := moB1 FB.slot_bytes_decode FB.type_bytes_decode hp hs h
theorem mo_translate {x : Array UInt8} {a1 : PySem.Expr} (hp : backTo pos (starEach [a1] env) = (false, eval a1 env) :: backTo pos (starEach [] env)) (hs : (backTo pos (starEach [a1] env)).any (·.1) = false)
    (h : wpAny (model PW w) A (spliced (backTo pos (starEach [a1] env))) (fun vs s₁ => wpAny (model PW w) A (call (.builtin "bytes.translate") (.bytes x t :: vs)) Q E s₁) E s) :
    MethodOn PW w A (PySem.Str.ofString "translate") pos (.bytes x t) (backTo pos (starEach [a1] env)) Q E s := moB1 Dec.slot_translate Dec.type_translate hp hs h
theorem mo_encode {x : Str} {a1 : PySem.Expr} (hp : backTo pos (starEach [a1] env) = (false, eval a1 env) :: backTo pos (starEach [] env)) (hs : (backTo pos (starEach [a1] env)).any (·.1) = false)
    (h : wpAny (model PW w) A (spliced (backTo pos (starEach [a1] env))) (fun vs s₁ => wpAny (model PW w) A (call (.builtin "str.encode") (.str x t :: vs)) Q E s₁) E s) :
    MethodOn PW w A (PySem.Str.ofString "encode") pos (.str x t) (backTo pos (starEach [a1] env)) Q E s := moS1 PySem.F.slot_str_encode PySem.F.type_str_encode hp hs h
/-- a plain value of a type of the library -/
theorem getm_val {T : String} {name : Str} {id : String} {pl : Sem Bool} {Q : Value × List Value → Shared → Prop} (x : In s₀ L l nw s)
    (e : findCls [] (.type T) (.type "type") name = some (.val (.builtin id))) (hm : Manifest.isStub T = false) (ht : typeOf (.type T) = pure (.type "type")) (hh : handedIn (.builtin id) = true)
    (h : ∀ s', In s₀ L l nw s' → Q (.builtin id, []) s') : wpAny (model PW w) A (getMethod (.type T) name pl) Q E s := by
  have X : Frag.In [] s.heap := fun a o e => by cases e
  have hstub : opaqueClassAbove (.type T) = pure none := by unfold opaqueClassAbove; dsimp only; rw [hm]; rfl
  have L0 : Looks (model PW w) s.heap (typeOf (.type T)) (.type "type") := Looks.of_pure ht
  have hg : findIn [] (.type "type") "__getattribute__" = some (some (.builtin "type.__getattribute__")) := type_tga
  unfold getMethod specialOf
  refine wpAny_bind (wpAny_bind (L0.here ((looks_findIn X hg).here ?_)))
  dsimp only
  rw [if_pos canon_tga]
  refine wpAny_bind (wpAny_mono (Q := fun v => Q (v, [])) (E := E) ?_ (fun _ _ z => wpAny_pure z) fun _ _ z => z)
  have LO : Looks (model PW w) s.heap (opaqueClassAbove (.type T)) none := Looks.of_pure hstub
  refine cls_open X LO L0 hg (looks_hook X (r := none) (by rfl)) (by show subIn [] _ _ = _; rfl) e ?_
  show wpAny _ _ (ret (.builtin id)) _ _ _
  refine wpAny_pure ?_
  show wpAny _ _ (handedOut (.builtin id)) _ _ _
  exact handed_on hh (h _ (x.tok _))
/-- T.name(args), a static method of a type -/
theorem eMk {T : String} {name : Str} {id : String} {x : Str} {a1 : PySem.Expr} {args : List PySem.Expr}
    (hb : attributeBase (.Name x np) name env (eval (.Name x np) env) = eval (.Name x np) env)
    (hfew : ((backTo pos (starEach (a1 :: args) env)).all (fun x => !x.1) && (backToKw pos (keywordEach [] env)).all (·.1.isSome) && decide ((a1 :: args).length + ([] : List Keyword).length + (if ([] : List Keyword).isEmpty then 0 else 1) < 30)) = true)
    (hline : (apos.endLine == pos.line) = true)
    (e : EnvIs env L sc cl) (y : In s₀ L l nw s) (W : Wd s₀.heap) (hk : (sc.names.lookup x == some .globalImplicit) = true) (hbn : bnames.lookup x = some (.type T))
    (ef : findCls [] (.type T) (.type "type") name = some (.val (.builtin id))) (hm : Manifest.isStub T = false) (ht : typeOf (.type T) = pure (.type "type")) (hh : handedIn (.builtin id) = true)
    (hp : backTo pos (starEach (a1 :: args) env) = (false, eval a1 env) :: backTo pos (starEach args env)) (hs : (backTo pos (starEach (a1 :: args) env)).any (·.1) = false)
    (hx : (x == ("__debug__" : Str)) = false)
    (h : ∀ s', In s₀ L l nw s' → wpAny (model PW w) A (spliced (backTo pos (starEach (a1 :: args) env))) (fun vs s₂ => wpAny (model PW w) A (call (.builtin id) vs) Q E s₂) E s') :
    wpAny (model PW w) A (eval (.Call (.Attribute (.Name x np) name apos) (a1 :: args) [] pos) env) Q E s := by
  rw [arm_eval_Call, hb]
  refine wpAny_bind (rB e y W hk hbn ?_ hx)
  refine wpAny_bind (wpAny_standAt ?_)
  have hform : methodCallForm ((a1 :: args).length + ([] : List Keyword).length) (backTo pos (starEach (a1 :: args) env)) (backToKw pos (keywordEach [] env)) = true := hfew
  have hpos : methodCallPos true (.Name x np) env apos pos = pure pos := by unfold methodCallPos; simp [hline]
  unfold methodCall
  rw [hform]
  refine wpAny_bind (wpAny_holding (getm_val y ef hm ht hh fun s' y' => ?_))
  refine wpAny_bind (wpAny_of_eq hpos ?_)
  refine callWith_builtin hs ?_
  have h' := h s' y'
  rw [hp] at h' ⊢
  exact evalArgs_plain h'
end
end
section
set_option maxRecDepth 100000
section
variable {w : World} {A : Around} {E : Value → Shared → Prop} {s₀ s : Shared} {env : Env} {L : Addr} {sc : Scope} {cl : List (Str × Addr)} {l l' : List (Str × Value)} {nw nw' : List (Addr × Obj)} {pos np apos p1 p2 : Pos} {t u : Tok} {i j : Int} {k : Nat} {value slice : PySem.Expr} {n : Str} {v : Value} {rest body : List Stmt} {σ : Type} {Q : Flow → Shared → Prop}
theorem iterB {n : Nat} {x : Str} {ms : List Nat} {t : Tok} (Inv : Nat → σ → Prop) (fl : σ → List (Str × Value)) (fw : σ → List (Addr × Obj)) (a₀ : σ)
    (e : EnvIs env L sc cl) (fr : s₀.heap.get? L = none) (hx : (sc.names.lookup x == some .local) = true) (R : Rm n A) (hm : ∀ o ∈ ms, o < 256)
    (x0 : In s₀ L (fl a₀) (fw a₀) s) (h0 : Inv 0 a₀)
    (hbody : ∀ (i : Nat) (tk : Tok) (m : Nat) b I o s', ms[i]? = some m → Inv i b → In s₀ L ((x, .int (m : Int) tk) :: fl b) ((I, o) :: fw b) s' →
      wpAny (model PW w) A (execs body env) (loopQ Inv fl fw s₀ L I o i (fun s => wpAny (model PW w) A (execs rest env) Q E s) Q) (fun _ _ => False) s')
    (hend : ∀ b s', Inv ms.length b → In s₀ L (fl b) (fw b) s' → wpAny (model PW w) A (execs rest env) Q E s') :
    wpAny (model PW w) A (pyIter (.bytes (By ms) t)) (fun it s₂ => codeAny (model PW w) A (.forLoop (.Name x p1) it body [] env) (forR (model PW w) A rest env Q E) s₂) E s := by
  refine KBw.pyIter_bytes ?_
  refine loopW Inv fl fw e fr hx (KBw.walks R.hd s.heap.objs.size (By ms) t) (fun i h st => let ⟨o, ho, _⟩ := st; ⟨o, ho⟩) (fun b hb hbI => ?_) a₀ (x0.pushN _ rfl) h0 ?_
    (fun i v b o s' hi hv hi' y => ?_) fun b s' hi y => xNil (hend b s' (by simpa [By_size] using hi) y |> fun h => h)
  · rw [List.mem_singleton] at hb; exact absurd hb hbI
  · exact ⟨_, Heap.get?_push_size _ rfl, rfl, rfl⟩
  · obtain ⟨c, u, hc, rfl⟩ := hv
    rw [By_get] at hc
    obtain ⟨m, hm', rfl⟩ := Option.map_eq_some_iff.mp hc
    rw [u8_nat (hm m (List.mem_of_getElem? hm'))] at y
    refine wpAny_mono (hbody i u m b _ o s' hm' hi' y) (fun f s₃ h₃ => ?_) fun _ _ z => z.elim
    cases f <;> exact h₃
noncomputable def whQ (M : Model) (A : Around) (rest : List Stmt) (env : Env) (Q : Flow → Shared → Prop) (E : Value → Shared → Prop) (Inv : Nat → σ → Prop) (fl : σ → List (Str × Value)) (fw : σ → List (Addr × Obj)) (s₀ : Shared) (L : Addr) (n : Nat) : Flow → Shared → Prop
  | .next, s => ∃ m a, m < n ∧ Inv m a ∧ In s₀ L (fl a) (fw a) s
  | .cont, s => ∃ m a, m < n ∧ Inv m a ∧ In s₀ L (fl a) (fw a) s
  | .brk, s => wpAny M A (execs rest env) Q E s
  | .ret v, s => Q (.ret v) s
theorem whN {n : Nat} {M : Model} {Inv : Nat → σ → Prop} {fl : σ → List (Str × Value)} {fw : σ → List (Addr × Obj)} (x : In s₀ L l' nw s) (m : Nat) (a : σ) (hm : m < n) (h : Inv m a) (h2 : Sub' (fl a) l') (h3 : (fw a).Sublist nw) : whQ M A rest env Q E Inv fl fw s₀ L n .next s := ⟨m, a, hm, h, (x.forget h2).drop h3⟩
/-- while test: body -/
theorem xWhile {test : PySem.Expr} (Inv : Nat → σ → Prop) (fl : σ → List (Str × Value)) (fw : σ → List (Addr × Obj)) (n₀ : Nat) (a₀ : σ) (x0 : In s₀ L (fl a₀) (fw a₀) s) (h0 : Inv n₀ a₀)
    (hturn : ∀ n b s', Inv n b → In s₀ L (fl b) (fw b) s' → wpAny (model PW w) A (isTrue test env (eval test env)) (fun ok s₂ => if ok = true then wpAny (model PW w) A (execs body env) (whQ (model PW w) A rest env Q E Inv fl fw s₀ L n) (fun _ _ => False) s₂
      else wpAny (model PW w) A (execs rest env) Q E s₂) (fun _ _ => False) s') :
    wpAny (model PW w) A (execs (.While test body [] pos :: rest) env) Q E s := by
  refine wpAny_execs_cons (wpAny_While (codeAny_whileLoop (fun n s' => ∃ b, Inv n b ∧ In s₀ L (fl b) (fw b) s') ?_ n₀ ⟨a₀, h0, x0⟩))
  rintro n s' ⟨b, hb, y⟩
  refine wpAny_mono (hturn n b s' hb y) (fun ok s₂ h₂ => ?_) fun _ _ z => z.elim
  cases ok with
  | true =>
    rw [if_pos rfl] at h₂ ⊢
    refine wpAny_mono h₂ (fun f s₃ h₃ => ?_) fun _ _ z => z.elim
    cases f with
    | next => obtain ⟨m, a, q1, q2, q3⟩ := h₃; exact ⟨m, q1, a, q2, q3⟩
    | cont => obtain ⟨m, a, q1, q2, q3⟩ := h₃; exact ⟨m, q1, a, q2, q3⟩
    | brk => exact h₃
    | ret v => exact h₃
  | false =>
    rw [if_neg (by decide)] at h₂ ⊢
    exact xNil h₂
theorem xAssert {test : PySem.Expr} {msg : Option PySem.Expr} (h : wpAny (model PW w) A (isTrue test env (eval test env)) (fun b s₁ => b = true ∧ wpAny (model PW w) A (execs rest env) Q E s₁) E s) :
    wpAny (model PW w) A (execs (.Assert test msg pos :: rest) env) Q E s := by
  refine wpAny_execs_cons (wpAny_Assert_holds ?_)
  exact h
end
section
variable {w : World} {A : Around} {E : Value → Shared → Prop} {s₀ s : Shared} {env : Env} {L : Addr} {sc : Scope} {cl : List (Str × Addr)} {l l' : List (Str × Value)} {nw nw' : List (Addr × Obj)} {pos np apos p1 p2 kp : Pos} {Q : Value → Shared → Prop} {n : Str} {t : Tok}
/-- f(args, k=e), f a def of the text -/
theorem cFnK {x kn : Str} {a i : Nat} {dV kV : Value} {a1 ke : PySem.Expr} {args : List PySem.Expr} (hq : (a, i, dV, kV) ∈ fnTab) (hg : globs.lookup x = some (.ref a)) (hx : (x == ("__debug__" : Str)) = false)
    (e : EnvIs env L sc cl) (y : In s₀ L l nw s) (W : Wd s₀.heap) (hk : (sc.names.lookup x == some .globalImplicit) = true)
    (h : wpAny (model PW w) A (spliced (backTo pos (starEach (a1 :: args) env))) (fun vs s₂ => wpAny (model PW w) A (eval ke env) (fun kv s₃ => Keep s₀.heap s₃.heap ∧ wpAny (model PW w) A (call (.ref a) vs [(kn, kv)]) Q E s₃) E s₂) E s)
    (hall : (backToKw pos (keywordEach [⟨some kn, ke, kp⟩] env)).all (·.1.isSome) = true)
    (hz : ∀ kv : Value, ((backToKw pos (keywordEach [⟨some kn, ke, kp⟩] env)).filterMap (·.1)).zip [kv] = [(kn, kv)])
    (hp : starEach (a1 :: args) env = (false, eval a1 env) :: starEach args env) :
    wpAny (model PW w) A (eval (.Call (.Name x np) (a1 :: args) [⟨some kn, ke, kp⟩] pos) env) Q E s := by
  obtain ⟨o, pm, cd, doc, ho, hd, _⟩ := W.fn _ hq
  dsimp only at ho hd
  refine wpAny_Call_ofName (rG e y W hk hg ?_ hx)
  refine callWith_function_kw (o := o) (fd := fdOf i dV kV pm cd doc) ?_
  refine evalArgs_kw2 hall (wpAny_mono h (fun vs s₂ h₂ => kwAll_cons (wpAny_mono h₂ (fun kv s₃ h₃ => kwAll_nil ?_) fun _ _ z => z)) fun _ _ z => z) hp
  dsimp only
  rw [hz kv]
  exact ⟨⟨h₃.1 _ _ ho, hd⟩, h₃.2⟩
theorem rB64 {M : Model} (e : EnvIs env L sc cl) (x : In s₀ L l nw s) (W : Wd s₀.heap) (hk : (sc.names.lookup (PySem.Str.ofString "_B64") == some .globalImplicit) = true) (h : ∀ t, Q (.bytes b64tab t) s) :
    wpAny M A (eval (.Name (PySem.Str.ofString "_B64") pos) env) Q E s := by
  obtain ⟨mg, mb, g, b, _, _, ⟨t, ht⟩, _⟩ := (x.wd W).ns
  exact Name_function_global e.k (e.kindOf hk) (loadGlobal_global (by rw [e.globals]; exact g) ht (h t)) (by decide +kernel)
theorem r127 {M : Model} (e : EnvIs env L sc cl) (x : In s₀ L l nw s) (W : Wd s₀.heap) (hk : (sc.names.lookup (PySem.Str.ofString "CHAR_MAX") == some .globalImplicit) = true) (h : ∀ t, Q (.int 127 t) s) :
    wpAny M A (eval (.Name (PySem.Str.ofString "CHAR_MAX") pos) env) Q E s := by
  obtain ⟨mg, mb, g, b, _, _, _, ⟨t, ht⟩⟩ := (x.wd W).ns
  exact Name_function_global e.k (e.kindOf hk) (loadGlobal_global (by rw [e.globals]; exact g) ht (h t)) (by decide +kernel)
end
end
section
open AutoSeq1 (wpAny_loadPart')
open MeetsSeq MeetsSeq2 MeetsSeq3 SeqRoads2
set_option maxRecDepth 100000
namespace Lt
/-- what the two operators ask of two lists -/
noncomputable def rel (gt : Bool) (p q : List (List Nat)) : Bool := if gt then decide (q < p) else decide (p < q)
noncomputable def rel1 (gt : Bool) (p q : List Nat) : Bool := if gt then decide (q < p) else decide (p < q)
noncomputable def relN (gt : Bool) (m n : Nat) : Bool := if gt then decide (n < m) else decide (m < n)
theorem rel_nil (gt : Bool) (p q : List (List Nat)) (h : p = [] ∨ q = []) : rel gt p q = relN gt p.length q.length := by
  unfold rel relN
  rcases h with rfl | rfl
  · cases q with
    | nil => cases gt <;> simp
    | cons y q => cases gt <;> simp
  · cases p with
    | nil => cases gt <;> simp
    | cons y q => cases gt <;> simp
theorem rel_cons (gt : Bool) (x y : List Nat) (p q : List (List Nat)) : rel gt (x :: p) (y :: q) = if x = y then rel gt p q else rel1 gt x y := by
  unfold rel rel1
  by_cases h : x = y
  · subst h
    rw [if_pos rfl]
    cases gt
    · simp only [Bool.false_eq_true, if_false, List.cons_lt_cons_iff, List.lt_irrefl, false_or, true_and]
    · simp only [if_true, List.cons_lt_cons_iff, List.lt_irrefl, false_or, true_and]
  · rw [if_neg h]
    have h' : ¬ y = x := fun e => h e.symm
    cases gt
    · simp only [Bool.false_eq_true, if_false, List.cons_lt_cons_iff, h, false_and, or_false]
    · simp only [if_true, List.cons_lt_cons_iff, h', false_and, or_false]
noncomputable def opOf (gt : Bool) : CmpOp := if gt then .Gt else .Lt
noncomputable def codeOf (gt : Bool) : Int := if gt then 4 else 0
set_option maxHeartbeats 4000000 in
theorem loopAt (gt : Bool) (l b : Addr) (vs ws : List Value) (p q : List (List Nat)) (n n2 : Nat) (hv : Txs vs p) (hw : Txs ws q) (k : Nat) :
    ∀ i : Nat, vs.length - i = k → i ≤ vs.length → i ≤ ws.length → Meets (Builtin.«list.__eq__.loop» ⟨[.ref l, .ref b, rawInt i, rawInt (codeOf gt)], []⟩)
      (fun _ R s => s.heap.get? l = some (lstO vs n) ∧ s.heap.get? b = some (lstO ws n2) ∧ R (.ok (.ret (.bool (rel gt (p.drop i) (q.drop i))))) s) := by
  have fin : ∀ i : Nat, i ≤ vs.length → i ≤ ws.length → (vs[i]? = none ∨ ws[i]? = none) → rel gt (p.drop i) (q.drop i) = relN gt vs.length ws.length := by
    intro i h1 h2 h
    have e : rel gt (p.drop i) (q.drop i) = relN gt (p.drop i).length (q.drop i).length := by
      refine rel_nil gt _ _ ?_
      rcases h with h | h
      · left; rw [List.getElem?_eq_none_iff] at h; exact List.drop_of_length_le (by rw [← hv.1]; exact h)
      · right; rw [List.getElem?_eq_none_iff] at h; exact List.drop_of_length_le (by rw [← hw.1]; exact h)
    rw [e, List.length_drop, List.length_drop, ← hv.1, ← hw.1]
    unfold relN
    cases gt <;> simp <;> first | exact Nat.sub_lt_sub_iff_right h1 | exact Nat.sub_lt_sub_iff_right h2 | omega
  induction k with
  | zero =>
    intro i hk h1 h2 prog w A R s h
    obtain ⟨hp, g, d, tk, os⟩ := s; obtain ⟨hl, hb, h⟩ := h
    have hin : i = vs.length := by omega
    rw [fin i h1 h2 (.inl (List.getElem?_eq_none (by omega)))] at h
    have hi1 : vs.toArray[((i : Nat) : Int).toNat]? = none := by simp; omega
    cases gt <;>
    · simp only [codeOf]
      wp_walk using wpAny_loadPart' hl, wpAny_loadPart' hb
      rw [hi1]
      wp_walk using wpAny_loadPart' hl, wpAny_loadPart' hb
      exact h
  | succ k ih =>
    intro i hk h1 h2 prog w A R s h
    obtain ⟨hp, g, d, tk, os⟩ := s; obtain ⟨hl, hb, h⟩ := h
    have hlt : i < vs.length := by omega
    obtain ⟨x, t, hx, hxv⟩ := hv.2 i _ (List.getElem?_eq_getElem hlt)
    have hi1 : vs.toArray[((i : Nat) : Int).toNat]? = some (.str (S x) t) := by simp [hlt, hxv]
    rcases Nat.lt_or_ge i ws.length with hlt2 | hge
    · obtain ⟨y, u, hy, hyv⟩ := hw.2 i _ (List.getElem?_eq_getElem hlt2)
      have hi2 : ws.toArray[((i : Nat) : Int).toNat]? = some (.str (S y) u) := by simp [hlt2, hyv]
      have d1 : p.drop i = x :: p.drop (i + 1) := by
        have hpl : i < p.length := by rw [← hv.1]; exact hlt
        rw [List.drop_eq_getElem_cons hpl]
        rw [List.getElem?_eq_getElem hpl] at hx; cases hx; rfl
      have d2 : q.drop i = y :: q.drop (i + 1) := by
        have hpl : i < q.length := by rw [← hw.1]; exact hlt2
        rw [List.drop_eq_getElem_cons hpl]
        rw [List.getElem?_eq_getElem hpl] at hy; cases hy; rfl
      rw [d1, d2, rel_cons] at h
      have hc : ((i : Int) + 1) = ((i + 1 : Nat) : Int) := by push_cast; rfl
      by_cases hxy : x = y
      · rw [if_pos hxy] at h
        have IH := ih (i + 1) (by omega) hlt hlt2 prog w A R ⟨hp, g, d, tk, os⟩ ⟨hl, hb, h⟩
        have hbq : (S x == S y) = true := by rw [hxy]; exact beq_self_eq_true _
        cases gt <;>
        · simp only [codeOf] at IH ⊢
          wp_walk using wpAny_loadPart' hl, wpAny_loadPart' hb
          rw [hi1, hi2]
          refine wpAny_bind (SeqAt.EqAt.str_str (S x) t (S y) u prog w _ _ ?_)
          rw [hbq]
          wp_walk
          rw [hc]
          exact ⟨plainId_quiet plain_eq_loop _, codeAny_builtin entry_eq_loop (by
            rw [Around.under_plainId plain_eq_loop _]
            exact IH)⟩
      · rw [if_neg hxy] at h
        have hbq : (S x == S y) = false := by rw [S_beq]; simpa using hxy
        cases gt
        · simp only [codeOf]
          wp_walk using wpAny_loadPart' hl, wpAny_loadPart' hb
          rw [hi1, hi2]
          refine wpAny_bind (SeqAt.EqAt.str_str (S x) t (S y) u prog w _ _ ?_)
          rw [hbq]
          wp_walk using wpAny_loadPart' hl, wpAny_loadPart' hb
          rw [hi1, hi2]
          show wpAny _ _ (richCompare .Lt (.str (S x) t) (.str (S y) u) >>= fun v => ret v) _ _ _
          refine wpAny_bind ?_
          show wpAny _ _ (compareOp .Lt (.str (S x) t) (.str (S y) u)) _ _ _
          refine PySem.P.lt_str ?_
          rw [S_toList, S_toList]
          exact wpAny_pure h
        · simp only [codeOf]
          wp_walk using wpAny_loadPart' hl, wpAny_loadPart' hb
          rw [hi1, hi2]
          refine wpAny_bind (SeqAt.EqAt.str_str (S x) t (S y) u prog w _ _ ?_)
          rw [hbq]
          wp_walk using wpAny_loadPart' hl, wpAny_loadPart' hb
          rw [hi1, hi2]
          show wpAny _ _ (richCompare .Gt (.str (S x) t) (.str (S y) u) >>= fun v => ret v) _ _ _
          refine wpAny_bind ?_
          show wpAny _ _ (compareOp .Gt (.str (S x) t) (.str (S y) u)) _ _ _
          refine PySem.P.gt_str ?_
          rw [S_toList, S_toList]
          exact wpAny_pure h
    · have hi2 : ws.toArray[((i : Nat) : Int).toNat]? = none := by simp; omega
      rw [fin i h1 h2 (.inr (List.getElem?_eq_none hge))] at h
      cases gt <;>
      · simp only [codeOf]
        wp_walk using wpAny_loadPart' hl, wpAny_loadPart' hb
        rw [hi1, hi2]
        wp_walk using wpAny_loadPart' hl, wpAny_loadPart' hb
        exact h
theorem meets (gt : Bool) (l b : Addr) (vs ws : List Value) (p q : List (List Nat)) (n n2 : Nat) (hv : Txs vs p) (hw : Txs ws q) :
    Meets ((if gt then Builtin.«list.__gt__» else Builtin.«list.__lt__») ⟨[.ref l, .ref b], []⟩)
      (fun _ R s => s.heap.get? l = some (lstO vs n) ∧ s.heap.get? b = some (lstO ws n2) ∧ R (.ok (.ret (.bool (rel gt p q)))) s) := by
  intro prog w A R s h
  obtain ⟨hp, g, d, tk, os⟩ := s; obtain ⟨hl, hb, h⟩ := h
  have f3 := AutoSeq1.sub_list_list
  have IH := loopAt gt l b vs ws p q n n2 hv hw _ 0 rfl (Nat.zero_le _) (Nat.zero_le _) prog w A R ⟨hp, g, d, tk, os⟩ ⟨hl, hb, h⟩
  cases gt
  · simp only [Bool.false_eq_true, if_false]
    wp_walk using wpAny_loadPart' hl, wpAny_loadPart' hb
    exact ⟨plainId_quiet plain_eq_loop _, codeAny_builtin entry_eq_loop (by
      rw [Around.under_plainId plain_eq_loop _]
      exact IH)⟩
  · simp only [if_true]
    wp_walk using wpAny_loadPart' hl, wpAny_loadPart' hb
    exact ⟨plainId_quiet plain_eq_loop _, codeAny_builtin entry_eq_loop (by
      rw [Around.under_plainId plain_eq_loop _]
      exact IH)⟩
theorem rich (gt : Bool) {w : World} {A : Around} {E : Value → Shared → Prop} {s : Shared} {Q : Value → Shared → Prop} {l b : Addr} {vs ws : List Value} {p q : List (List Nat)} {n n2 : Nat} (hv : Txs vs p) (hw : Txs ws q)
    (hl : s.heap.get? l = some (lstO vs n)) (hb : s.heap.get? b = some (lstO ws n2)) (hu : A.units < cLine) (h : Q (.bool (rel gt p q)) s) : wpAny (model PW w) A (richCompare (opOf gt) (.ref l) (.ref b)) Q E s := by
  have m := meets gt l b vs ws p q n n2 hv hw
  cases gt
  · exact richCompare_meets_room (op := .Lt) (isl hl).typeIs (isl hb).typeIs F.slot_list_lt F.entry_list_lt (F.args_list_lt_2 _ _) m ⟨hl, hb, show Value.bool _ ≠ Value.notImplemented ∧ Q (.bool _) s from ⟨(fun x => nomatch x), h⟩⟩ hu
  · exact richCompare_meets_room (op := .Gt) (isl hl).typeIs (isl hb).typeIs F.slot_list_gt F.entry_list_gt (F.args_list_gt_2 _ _) m ⟨hl, hb, show Value.bool _ ≠ Value.notImplemented ∧ Q (.bool _) s from ⟨(fun x => nomatch x), h⟩⟩ hu
end Lt
end
section
set_option maxRecDepth 100000
section
variable {w : World} {A : Around} {E : Value → Shared → Prop} {s₀ s : Shared} {L : Addr} {l : List (Str × Value)} {nw : List (Addr × Obj)}
theorem call_min2 {n : Nat} {D Fa Fb : Addr} {m ma mb : Nat} {va vb : List Value} {a b : List (List Nat)} {Q : Value → Shared → Prop} (R : Rm (n + 3) A) (h0 : s.heap.get? D = some (lstO [.ref Fa, .ref Fb] m)) (ha : s.heap.get? Fa = some (lstO va ma)) (hb : s.heap.get? Fb = some (lstO vb mb))
    (ta : Txs va a) (tb : Txs vb b) (h : ∀ s', Keeps s s' → Q (.ref (if Lt.rel false b a then Fb else Fa)) s') : wpAny (model PW w) A (call (.builtin "min") [.ref D]) Q E s := by
  have hname : (toString "min" ++ toString ".loop" : String) = "min.loop" := by decide
  refine call_function_tree F.kind_min F.plain_min F.entry_min (F.args_min1 _) ?_
  show wpAny _ A.in1 (Builtin.Builtins.bindParams "min" ["key", "default"] 0 ⟨[], []⟩ >>= _) _ _ s
  refine wpAny_bind (wpAny_of_eq (show Builtin.Builtins.bindParams "min" ["key", "default"] 0 ⟨[], []⟩ = pure [none, none] from rfl) ?_)
  refine wpAny_bind (wpAny_pure ?_)
  refine wpAny_bind (wpAny_pyIter_list (isl h0) ?_)
  refine wpAny_bind (wpAny_newObj_type ?_)
  dsimp only
  have hlt : ∀ {b o}, s.heap.get? b = some o → b < s.heap.objs.size := fun e => Heap.lt_size e
  generalize hI : s.heap.objs.size = I at *
  have z1 : (s.heap.push { cls := .type "list_iterator", data := .fields #[.ref D, .int 0 0] }).objs.size = I + 1 := by rw [Heap.size_push, hI]
  rw [z1]
  generalize hH : (s.heap.push { cls := .type "list_iterator", data := .fields #[.ref D, .int 0 0] }).push { cls := .type "list", data := .seq ([] : List Value).toArray } = H
  have kH : ∀ b o, s.heap.get? b = some o → H.get? b = some o := fun b o e => by rw [← hH]; exact Heap.get?_push_of_some _ (Heap.get?_push_of_some _ e)
  have gI : H.IsListIter I D 0 := by
    refine ⟨({ cls := .type "list_iterator", data := .fields #[.ref D, .int 0 0] } : Obj), ?_, rfl, rfl⟩
    rw [← hH]
    have := Heap.get?_push_size s.heap (o := ({ cls := .type "list_iterator", data := .fields #[.ref D, .int 0 0] } : Obj)) rfl
    rw [hI] at this
    exact Heap.get?_push_of_some _ this
  have gS : H.get? (I + 1) = some { cls := .type "list", dict := none, data := .seq #[] 0, slots := #[] } := by
    rw [← hH]
    have := Heap.get?_push_size (s.heap.push { cls := .type "list_iterator", data := .fields #[.ref D, .int 0 0] }) (o := ({ cls := .type "list", data := .seq ([] : List Value).toArray } : Obj)) rfl
    rw [z1] at this; exact this
  have nIS : I ≠ I + 1 := Nat.ne_of_lt (Nat.lt_succ_self _)
  have old : ∀ {b o}, s.heap.get? b = some o → b ≠ I ∧ b ≠ I + 1 := fun e => ⟨Nat.ne_of_lt (hlt e), Nat.ne_of_lt (Nat.lt_succ_of_lt (hlt e))⟩
  have hh : A.handled = none := R.hd
  have third : ∀ (res : Addr) (H : Heap) (tk c : Nat), (∀ b o, s.heap.get? b = some o → H.get? b = some o) → H.IsListIter I D 2 → H.get? (I + 1) = some { cls := .type "list", dict := none, data := .seq #[.ref res, .ref res] c, slots := #[] } →
      res = (if Lt.rel false b a then Fb else Fa) → codeAny (model PW w) A (.builtin "min.loop" ⟨[.ref I, .none, .ref (I + 1)], []⟩) (wants Q E) { s with heap := H, toks := tk } := by
    intro res H tk c kH gI gS hres
    refine codeAny_builtin F.entry_min_loop ?_
    rw [Around.under_plainId F.plain_min_loop _]
    show wpAny _ A.in1 (seqItems? (.ref (I + 1)) >>= _) _ _ _
    refine wpAny_bind (wpAny_seqItems gS rfl ?_)
    show wpAny _ A.in1 (tryCatch (pyNext (.ref I)) _ >>= _) _ _ _
    refine wpAny_bind (wpAny_tryCatch (wpAny_pyNext_list_end hh gI (isl (kH _ _ h0)) rfl fun h' he => ?_))
    have gS' := he (I + 1) _ nIS.symm gS
    show wpAny _ A.in1 (updateSeq (I + 1) (fun _ => #[]) >>= _) _ _ _
    refine wpAny_bind ?_
    refine wpAny_updateSeq gS' rfl (wpAny_bind (wpAny_letGo (wpAny_pure ?_)))
    subst hres
    exact h _ ⟨_, _, rfl, fun b o e => (Heap.get?_update_other _ _ (old e).2.symm).trans (he b o (old e).1 (kH b o e))⟩
  have second : ∀ (H : Heap) (tk c : Nat), (∀ b o, s.heap.get? b = some o → H.get? b = some o) → H.IsListIter I D 1 → H.get? (I + 1) = some { cls := .type "list", dict := none, data := .seq #[.ref Fa, .ref Fa] c, slots := #[] } →
      codeAny (model PW w) A (.builtin "min.loop" ⟨[.ref I, .none, .ref (I + 1)], []⟩) (wants Q E) { s with heap := H, toks := tk } := by
    intro H tk c kH gI gS
    refine codeAny_builtin F.entry_min_loop ?_
    rw [Around.under_plainId F.plain_min_loop _]
    show wpAny _ A.in1 (seqItems? (.ref (I + 1)) >>= _) _ _ _
    refine wpAny_bind (wpAny_seqItems gS rfl ?_)
    show wpAny _ A.in1 (tryCatch (pyNext (.ref I)) _ >>= _) _ _ _
    refine wpAny_bind (wpAny_tryCatch (wpAny_pyNext_list_item gI (isl (kH _ _ h0)) (x := .ref Fb) rfl fun h' gI' he => ?_))
    have gS' := (he.2 (I + 1) nIS.symm).trans gS
    have k' : ∀ b o, s.heap.get? b = some o → h'.get? b = some o := fun b o e => (he.2 b (old e).1).trans (kH b o e)
    show wpAny _ A.in1 (tryCatch (holding [.ref Fb, .ref Fb] (richCompare .Lt (.ref Fb) (.ref Fa) >>= _)) _ >>= _) _ _ _
    refine wpAny_bind (wpAny_tryCatch (wpAny_holding (wpAny_bind (Lt.rich false (Q := _) tb ta (k' _ _ hb) (k' _ _ ha) (R.in1.units) ?_))))
    refine wpAny_bind (wpAny_holding (wpAny_truthy_bool ?_))
    refine wpAny_bind (wpAny_letGo (wpAny_pure ?_))
    cases hq : Lt.rel false b a with
    | true =>
      simp only [if_true]
      refine wpAny_bind ?_
      refine wpAny_updateSeq gS' rfl (wpAny_bind (wpAny_letGo ?_))
      rw [hname]
      refine wpAny_pure ⟨plainId_quiet F.plain_min_loop _, third Fb _ _ _ (fun b o e => (Heap.get?_update_other _ _ (old e).2.symm).trans (k' b o e)) ?_ (Heap.get?_update_self _ gS' rfl) (by rw [hq]; rfl)⟩
      obtain ⟨o, ho, r⟩ := gI'
      exact ⟨o, (Heap.get?_update_other _ _ nIS.symm).trans ho, r⟩
    | false =>
      simp only [Bool.false_eq_true, if_false]
      refine wpAny_bind (wpAny_letGo ?_)
      rw [hname]
      exact wpAny_pure ⟨plainId_quiet F.plain_min_loop _, third Fa _ _ _ k' gI' gS' (by rw [hq]; rfl)⟩
  rw [hname]
  refine wpAny_pure ⟨plainId_quiet F.plain_min_loop _, ?_⟩
  refine codeAny_builtin F.entry_min_loop ?_
  rw [Around.under_plainId F.plain_min_loop _]
  show wpAny _ A.in1 (seqItems? (.ref (I + 1)) >>= _) _ _ _
  refine wpAny_bind (wpAny_seqItems gS rfl ?_)
  show wpAny _ A.in1 (tryCatch (pyNext (.ref I)) _ >>= _) _ _ _
  refine wpAny_bind (wpAny_tryCatch (wpAny_pyNext_list_item gI (isl (kH _ _ h0)) (x := .ref Fa) rfl fun h' gI' he => ?_))
  have gS' := (he.2 (I + 1) nIS.symm).trans gS
  show wpAny _ A.in1 (updateSeq (I + 1) (fun _ => #[.ref Fa, .ref Fa]) >>= _) _ _ _
  refine wpAny_bind ?_
  refine wpAny_updateSeq gS' rfl ?_
  rw [hname]
  refine wpAny_pure ⟨plainId_quiet F.plain_min_loop _, second _ _ _ (fun b o e => (Heap.get?_update_other _ _ (old e).2.symm).trans ((he.2 b (old e).1).trans (kH b o e))) ?_ (Heap.get?_update_self _ gS' rfl)⟩
  obtain ⟨o, ho, r⟩ := gI'
  exact ⟨o, (Heap.get?_update_other _ _ nIS.symm).trans ho, r⟩
theorem call_max2 {n : Nat} {D Fa Fb : Addr} {m ma mb : Nat} {va vb : List Value} {a b : List (List Nat)} {Q : Value → Shared → Prop} (R : Rm (n + 3) A) (h0 : s.heap.get? D = some (lstO [.ref Fa, .ref Fb] m)) (ha : s.heap.get? Fa = some (lstO va ma)) (hb : s.heap.get? Fb = some (lstO vb mb))
    (ta : Txs va a) (tb : Txs vb b) (h : ∀ s', Keeps s s' → Q (.ref (if Lt.rel true b a then Fb else Fa)) s') : wpAny (model PW w) A (call (.builtin "max") [.ref D]) Q E s := by
  have hname : (toString "max" ++ toString ".loop" : String) = "max.loop" := by decide
  refine call_function_tree F.kind_max F.plain_max F.entry_max (F.args_max1 _) ?_
  show wpAny _ A.in1 (Builtin.Builtins.bindParams "max" ["key", "default"] 0 ⟨[], []⟩ >>= _) _ _ s
  refine wpAny_bind (wpAny_of_eq (show Builtin.Builtins.bindParams "max" ["key", "default"] 0 ⟨[], []⟩ = pure [none, none] from rfl) ?_)
  refine wpAny_bind (wpAny_pure ?_)
  refine wpAny_bind (wpAny_pyIter_list (isl h0) ?_)
  refine wpAny_bind (wpAny_newObj_type ?_)
  dsimp only
  have hlt : ∀ {b o}, s.heap.get? b = some o → b < s.heap.objs.size := fun e => Heap.lt_size e
  generalize hI : s.heap.objs.size = I at *
  have z1 : (s.heap.push { cls := .type "list_iterator", data := .fields #[.ref D, .int 0 0] }).objs.size = I + 1 := by rw [Heap.size_push, hI]
  rw [z1]
  generalize hH : (s.heap.push { cls := .type "list_iterator", data := .fields #[.ref D, .int 0 0] }).push { cls := .type "list", data := .seq ([] : List Value).toArray } = H
  have kH : ∀ b o, s.heap.get? b = some o → H.get? b = some o := fun b o e => by rw [← hH]; exact Heap.get?_push_of_some _ (Heap.get?_push_of_some _ e)
  have gI : H.IsListIter I D 0 := by
    refine ⟨({ cls := .type "list_iterator", data := .fields #[.ref D, .int 0 0] } : Obj), ?_, rfl, rfl⟩
    rw [← hH]
    have := Heap.get?_push_size s.heap (o := ({ cls := .type "list_iterator", data := .fields #[.ref D, .int 0 0] } : Obj)) rfl
    rw [hI] at this
    exact Heap.get?_push_of_some _ this
  have gS : H.get? (I + 1) = some { cls := .type "list", dict := none, data := .seq #[] 0, slots := #[] } := by
    rw [← hH]
    have := Heap.get?_push_size (s.heap.push { cls := .type "list_iterator", data := .fields #[.ref D, .int 0 0] }) (o := ({ cls := .type "list", data := .seq ([] : List Value).toArray } : Obj)) rfl
    rw [z1] at this; exact this
  have nIS : I ≠ I + 1 := Nat.ne_of_lt (Nat.lt_succ_self _)
  have old : ∀ {b o}, s.heap.get? b = some o → b ≠ I ∧ b ≠ I + 1 := fun e => ⟨Nat.ne_of_lt (hlt e), Nat.ne_of_lt (Nat.lt_succ_of_lt (hlt e))⟩
  have hh : A.handled = none := R.hd
  have third : ∀ (res : Addr) (H : Heap) (tk c : Nat), (∀ b o, s.heap.get? b = some o → H.get? b = some o) → H.IsListIter I D 2 → H.get? (I + 1) = some { cls := .type "list", dict := none, data := .seq #[.ref res, .ref res] c, slots := #[] } →
      res = (if Lt.rel true b a then Fb else Fa) → codeAny (model PW w) A (.builtin "max.loop" ⟨[.ref I, .none, .ref (I + 1)], []⟩) (wants Q E) { s with heap := H, toks := tk } := by
    intro res H tk c kH gI gS hres
    refine codeAny_builtin F.entry_max_loop ?_
    rw [Around.under_plainId F.plain_max_loop _]
    show wpAny _ A.in1 (seqItems? (.ref (I + 1)) >>= _) _ _ _
    refine wpAny_bind (wpAny_seqItems gS rfl ?_)
    show wpAny _ A.in1 (tryCatch (pyNext (.ref I)) _ >>= _) _ _ _
    refine wpAny_bind (wpAny_tryCatch (wpAny_pyNext_list_end hh gI (isl (kH _ _ h0)) rfl fun h' he => ?_))
    have gS' := he (I + 1) _ nIS.symm gS
    show wpAny _ A.in1 (updateSeq (I + 1) (fun _ => #[]) >>= _) _ _ _
    refine wpAny_bind ?_
    refine wpAny_updateSeq gS' rfl (wpAny_bind (wpAny_letGo (wpAny_pure ?_)))
    subst hres
    exact h _ ⟨_, _, rfl, fun b o e => (Heap.get?_update_other _ _ (old e).2.symm).trans (he b o (old e).1 (kH b o e))⟩
  have second : ∀ (H : Heap) (tk c : Nat), (∀ b o, s.heap.get? b = some o → H.get? b = some o) → H.IsListIter I D 1 → H.get? (I + 1) = some { cls := .type "list", dict := none, data := .seq #[.ref Fa, .ref Fa] c, slots := #[] } →
      codeAny (model PW w) A (.builtin "max.loop" ⟨[.ref I, .none, .ref (I + 1)], []⟩) (wants Q E) { s with heap := H, toks := tk } := by
    intro H tk c kH gI gS
    refine codeAny_builtin F.entry_max_loop ?_
    rw [Around.under_plainId F.plain_max_loop _]
    show wpAny _ A.in1 (seqItems? (.ref (I + 1)) >>= _) _ _ _
    refine wpAny_bind (wpAny_seqItems gS rfl ?_)
    show wpAny _ A.in1 (tryCatch (pyNext (.ref I)) _ >>= _) _ _ _
    refine wpAny_bind (wpAny_tryCatch (wpAny_pyNext_list_item gI (isl (kH _ _ h0)) (x := .ref Fb) rfl fun h' gI' he => ?_))
    have gS' := (he.2 (I + 1) nIS.symm).trans gS
    have k' : ∀ b o, s.heap.get? b = some o → h'.get? b = some o := fun b o e => (he.2 b (old e).1).trans (kH b o e)
    show wpAny _ A.in1 (tryCatch (holding [.ref Fb, .ref Fb] (richCompare .Gt (.ref Fb) (.ref Fa) >>= _)) _ >>= _) _ _ _
    refine wpAny_bind (wpAny_tryCatch (wpAny_holding (wpAny_bind (Lt.rich true (Q := _) tb ta (k' _ _ hb) (k' _ _ ha) (R.in1.units) ?_))))
    refine wpAny_bind (wpAny_holding (wpAny_truthy_bool ?_))
    refine wpAny_bind (wpAny_letGo (wpAny_pure ?_))
    cases hq : Lt.rel true b a with
    | true =>
      simp only [if_true]
      refine wpAny_bind ?_
      refine wpAny_updateSeq gS' rfl (wpAny_bind (wpAny_letGo ?_))
      rw [hname]
      refine wpAny_pure ⟨plainId_quiet F.plain_max_loop _, third Fb _ _ _ (fun b o e => (Heap.get?_update_other _ _ (old e).2.symm).trans (k' b o e)) ?_ (Heap.get?_update_self _ gS' rfl) (by rw [hq]; rfl)⟩
      obtain ⟨o, ho, r⟩ := gI'
      exact ⟨o, (Heap.get?_update_other _ _ nIS.symm).trans ho, r⟩
    | false =>
      simp only [Bool.false_eq_true, if_false]
      refine wpAny_bind (wpAny_letGo ?_)
      rw [hname]
      exact wpAny_pure ⟨plainId_quiet F.plain_max_loop _, third Fa _ _ _ k' gI' gS' (by rw [hq]; rfl)⟩
  rw [hname]
  refine wpAny_pure ⟨plainId_quiet F.plain_max_loop _, ?_⟩
  refine codeAny_builtin F.entry_max_loop ?_
  rw [Around.under_plainId F.plain_max_loop _]
  show wpAny _ A.in1 (seqItems? (.ref (I + 1)) >>= _) _ _ _
  refine wpAny_bind (wpAny_seqItems gS rfl ?_)
  show wpAny _ A.in1 (tryCatch (pyNext (.ref I)) _ >>= _) _ _ _
  refine wpAny_bind (wpAny_tryCatch (wpAny_pyNext_list_item gI (isl (kH _ _ h0)) (x := .ref Fa) rfl fun h' gI' he => ?_))
  have gS' := (he.2 (I + 1) nIS.symm).trans gS
  show wpAny _ A.in1 (updateSeq (I + 1) (fun _ => #[.ref Fa, .ref Fa]) >>= _) _ _ _
  refine wpAny_bind ?_
  refine wpAny_updateSeq gS' rfl ?_
  rw [hname]
  refine wpAny_pure ⟨plainId_quiet F.plain_max_loop _, second _ _ _ (fun b o e => (Heap.get?_update_other _ _ (old e).2.symm).trans ((he.2 b (old e).1).trans (kH b o e))) ?_ (Heap.get?_update_self _ gS' rfl)⟩
  obtain ⟨o, ho, r⟩ := gI'
  exact ⟨o, (Heap.get?_update_other _ _ nIS.symm).trans ho, r⟩
theorem vMin2 {n : Nat} {D Fa Fb : Addr} {m ma mb : Nat} {va vb : List Value} {a b : List (List Nat)} {Q : Value → Shared → Prop} (R : Rm (n + 3) A) (h0 : s.heap.get? D = some (lstO [.ref Fa, .ref Fb] m)) (ha : s.heap.get? Fa = some (lstO va ma)) (hb : s.heap.get? Fb = some (lstO vb mb))
    (ta : Txs va a) (tb : Txs vb b) (x : In s₀ L l nw s) (h : ∀ s', In s₀ L l nw s' → Q (.ref (if b < a then Fb else Fa)) s') : wpAny (model PW w) A (call (.builtin "min") [.ref D]) Q E s :=
  call_min2 R h0 ha hb ta tb fun s' k => by
    have := h s' (x.step k)
    by_cases hq : b < a
    · rw [if_pos hq] at this; rw [if_pos (by simpa [Lt.rel] using hq)]; exact this
    · rw [if_neg hq] at this; rw [if_neg (by simpa [Lt.rel] using hq)]; exact this
theorem vMax2 {n : Nat} {D Fa Fb : Addr} {m ma mb : Nat} {va vb : List Value} {a b : List (List Nat)} {Q : Value → Shared → Prop} (R : Rm (n + 3) A) (h0 : s.heap.get? D = some (lstO [.ref Fa, .ref Fb] m)) (ha : s.heap.get? Fa = some (lstO va ma)) (hb : s.heap.get? Fb = some (lstO vb mb))
    (ta : Txs va a) (tb : Txs vb b) (x : In s₀ L l nw s) (h : ∀ s', In s₀ L l nw s' → Q (.ref (if a < b then Fb else Fa)) s') : wpAny (model PW w) A (call (.builtin "max") [.ref D]) Q E s :=
  call_max2 R h0 ha hb ta tb fun s' k => by
    have := h s' (x.step k)
    by_cases hq : a < b
    · rw [if_pos hq] at this; rw [if_pos (by simpa [Lt.rel] using hq)]; exact this
    · rw [if_neg hq] at this; rw [if_neg (by simpa [Lt.rel] using hq)]; exact this
end
end
section
open AutoSeq1 (wpAny_loadPart')
set_option maxRecDepth 100000
namespace Mp
theorem slot_init : Slot "map" "__init__" "object.__init__" :=
  .of (owner := "object") (n := "__init__") (by rw [typeLookup_type, builtinLookup_eq_fast]; kernel_rfl) (by decide +kernel) (by decide +kernel) (by decide +kernel)
    (by first | exact .inl (by decide +kernel) | exact .inr (by decide +kernel)) (by rw [isSubtype_type]; kernel_rfl)
theorem slot_iter : Slot "map" "__iter__" "map.__iter__" :=
  .of (owner := "map") (n := "__iter__") (by rw [typeLookup_type, builtinLookup_eq_fast]; kernel_rfl) (by decide +kernel) (by decide +kernel) (by decide +kernel)
    (by first | exact .inl (by decide +kernel) | exact .inr (by decide +kernel)) (by rw [isSubtype_type]; kernel_rfl)
theorem slot_next : Slot "map" "__next__" "map.__next__" :=
  .of (owner := "map") (n := "__next__") (by rw [typeLookup_type, builtinLookup_eq_fast]; kernel_rfl) (by decide +kernel) (by decide +kernel) (by decide +kernel)
    (by first | exact .inl (by decide +kernel) | exact .inr (by decide +kernel)) (by rw [isSubtype_type]; kernel_rfl)
theorem entry_next : entryFor table "map.__next__" = some Builtin.«map.__next__» := entryFor_of_tree (by kernel_rfl)
theorem entry_new : entryFor table "map.__new__" = some Builtin.«map.__new__» := entryFor_of_tree (by kernel_rfl)
theorem entry_iter : entryFor table "map.__iter__" = some Builtin.«dict_keyiterator.__iter__» :=
  entryFor_alias (id' := "dict_keyiterator.__iter__") (by kernel_rfl) (by first | rfl | decide +kernel) (by decide +kernel) (by kernel_rfl)
theorem mro_map : mroOf (.type "map") = pure [.type "map", .type "object"] := by rw [mroOf_type]; kernel_rfl
theorem lookup_new : typeLookup (.type "map") "__new__" = pure (some (.builtin "map.__new__")) := by rw [typeLookup_type, builtinLookup_eq_fast]; kernel_rfl
theorem called_map : TypeCalled "map" "map.__new__" "object.__init__" :=
  ⟨by decide +kernel, by decide +kernel, ⟨_, _, mro_map⟩, madeBy_type mro_map lookup_new (by decide +kernel), by decide +kernel, by rw [isSubtype_type]; kernel_rfl, slot_init⟩
theorem typeCall (a b : Value) : checkTypeCall "map" ⟨[a, b], []⟩ = pure () := by kernel_rfl
theorem newCall (a b : Value) : checkBuiltinCall "map.__new__" ⟨[.type "map", a, b], []⟩ = pure () := by kernel_rfl
theorem args_next (a : Value) : argsOk "map.__next__" ⟨[a], []⟩ := by unfold argsOk; kernel_rfl
theorem args_iter (a : Value) : argsOk "map.__iter__" ⟨[a], []⟩ := by unfold argsOk; kernel_rfl
theorem sub_map : isSubtype (.type "map") (.type "map") = pure true := by rw [isSubtype_type]; kernel_rfl
theorem no_len : typeLookup (.type "map") "__len__" = pure none := by rw [typeLookup_type, builtinLookup_eq_fast]; kernel_rfl
theorem no_hint : typeLookup (.type "map") "__length_hint__" = pure none := by rw [typeLookup_type, builtinLookup_eq_fast]; kernel_rfl
noncomputable abbrev litO (D : Addr) (i : Nat) : Obj := { cls := .type "list_iterator", data := .fields #[.ref D, .int i 0] }
noncomputable abbrev mapO (T : Addr) (f : Value) : Obj := { cls := .type "map", data := .fields #[.ref T, f] }
set_option maxHeartbeats 1000000 in
theorem meets_new (D : Addr) (f : Value) (vs : List Value) (n : Nat) :
    Meets (Builtin.«map.__new__» ⟨[.type "map", f, .ref D], []⟩) (fun _ R s => s.heap.get? D = some (lstO vs n) ∧
      R (.ok (.ret (.ref ((s.heap.push (litO D 0)).push (tupO [.ref s.heap.objs.size])).objs.size)))
        { s with heap := ((s.heap.push (litO D 0)).push (tupO [.ref s.heap.objs.size])).push (mapO (s.heap.push (litO D 0)).objs.size f) }) :=
  .of_wp fun prog w A R s h => by
    obtain ⟨hp, g, d, tk, os⟩ := s; obtain ⟨hl, h⟩ := h
    have hsub := sub_map
    have hL : Heap.IsList (Shared.heap ⟨hp, g, d, tk, os⟩) D vs.toArray := isl hl
    wp_walk using wpAny_pyIter_list hL
    exact ⟨_, rfl, h⟩
end Mp
end
section
open AutoSeq1 (wpAny_loadPart')
set_option maxRecDepth 100000
namespace Mp
section
variable {w : World} {A : Around} {E : Value → Shared → Prop} {s : Shared}
noncomputable def St (H₀ : Heap) (M T J D : Addr) (vs : List Value) (n : Nat) (i : Nat) (s : Shared) : Prop :=
  Keep H₀ s.heap ∧ s.heap.get? M = some (mapO T (.ref 94)) ∧ s.heap.get? T = some (tupO [.ref J]) ∧ s.heap.IsListIter J D i ∧ s.heap.get? D = some (lstO vs n)
theorem item {H₀ : Heap} {M T J D : Addr} {vs : List Value} {n i : Nat} {p : Str} {t : Tok} {Q : Option Value → Shared → Prop} (W : Wd H₀) (R : Rm 8 A) (hJ : H₀.get? J = none) (hMJ : M ≠ J) (hTJ : T ≠ J) (hDJ : D ≠ J) (st : St H₀ M T J D vs n i s) (hv : vs[i]? = some (.str p t))
    (h : ∀ s', St H₀ M T J D vs n (i + 1) s' → Moved [J] (fun a b => b = a) s s' → Q (some (.str p t)) s') : wpAny (model PW w) A (pyNext (.ref M)) Q E s := by
  obtain ⟨k0, hM, hT, hI, hD⟩ := st
  have hTM : s.TypeIs (.ref M) "map" := ⟨_, hM, rfl⟩
  refine wpAny_with_toks (Nat.le_refl s.toks) ?_
  unfold pyNext
  refine wpAny_bind (wpAny_attempt (wpAny_callSpecial?_slot (name := PySem.Str.ofString "__next__") hTM slot_next (wpAny_call_entry slot_next hTM entry_next ?_ (args_next _))))
  show wpAny _ _ (field (.ref M) 0 >>= _) _ _ s
  refine wpAny_bind (wpAny_field hM rfl (x := .ref T) rfl ?_)
  show wpAny _ _ (seqItems? (.ref T) >>= _) _ _ s
  refine wpAny_bind (wpAny_seqItems hT rfl ?_)
  dsimp only
  rw [List.forIn_toArray, List.forIn_cons]
  refine wpAny_bind ?_
  refine wpAny_bind ?_
  refine wpAny_bind (wpAny_holding (wpAny_nextOf_list_item hI (isl hD) (x := .str p t) (by simpa using hv) fun h' hI' hs => ?_))
  refine wpAny_pure ?_
  dsimp only
  rw [List.forIn_nil]
  refine wpAny_pure ?_
  have kM : h'.get? M = some (mapO T (.ref 94)) := (hs.2 M hMJ).trans hM
  have kT : h'.get? T = some (tupO [.ref J]) := (hs.2 T hTJ).trans hT
  have kD : h'.get? D = some (lstO vs n) := (hs.2 D hDJ).trans hD
  have k0' : Keep H₀ h' := fun b o e => hs.extBut b o (fun q => by subst q; rw [hJ] at e; cases e) (k0 b o e)
  refine wpAny_bind (wpAny_field kM rfl (x := .ref 94) rfl ?_)
  refine wpAny_bind (wpAny_holding ?_)
  show wpAny _ _ (call (.ref 94) [.str p t]) _ _ _
  refine c_fspath (s := { s with heap := h' }) (W.keeps k0') ((R.le (by decide) : Rm 3 A).in1) fun s' k => ?_
  refine wpAny_bind (wpAny_letGo (wpAny_pure ⟨_, rfl, wpAny_pure fun htk => ?_⟩))
  obtain ⟨h2, tk, rfl, hk⟩ := k
  exact h _ ⟨k0'.trans hk, hk _ _ kM, hk _ _ kT, (let ⟨o, ho, r⟩ := hI'; ⟨o, hk _ _ ho, r⟩), hk _ _ kD⟩ ⟨fun b o hb e => hk _ _ (hs.extBut b o (fun q => hb (by simp [q])) e), rfl, rfl, rfl, htk⟩
theorem done {H₀ : Heap} {M T J D : Addr} {vs : List Value} {n : Nat} {Q : Option Value → Shared → Prop} (R : Rm 8 A) (hMJ : M ≠ J) (st : St H₀ M T J D vs n vs.length s)
    (h : ∀ s', Moved [J] (fun a b => b = a) s s' → Q none s') : wpAny (model PW w) A (pyNext (.ref M)) Q E s := by
  obtain ⟨k0, hM, hT, hI, hD⟩ := st
  have hTM : s.TypeIs (.ref M) "map" := ⟨_, hM, rfl⟩
  refine wpAny_with_toks (Nat.le_refl s.toks) ?_
  unfold pyNext
  refine wpAny_bind (wpAny_attempt (wpAny_callSpecial?_slot (name := PySem.Str.ofString "__next__") hTM slot_next (wpAny_call_entry slot_next hTM entry_next ?_ (args_next _))))
  show wpAny _ _ (field (.ref M) 0 >>= _) _ _ s
  refine wpAny_bind (wpAny_field hM rfl (x := .ref T) rfl ?_)
  show wpAny _ _ (seqItems? (.ref T) >>= _) _ _ s
  refine wpAny_bind (wpAny_seqItems hT rfl ?_)
  dsimp only
  rw [List.forIn_toArray, List.forIn_cons]
  refine wpAny_bind ?_
  refine wpAny_bind ?_
  refine wpAny_bind (wpAny_holding (wpAny_nextOf_list_end R.hd hI (isl hD) (by simp) fun h' x he hx => ?_))
  obtain ⟨o, ho, hc⟩ := hx
  refine wpAny_bind (wpAny_isInstance (T := "StopIteration") (b := true) ⟨o, ho, hc⟩ isSubtype_stop ?_)
  refine wpAny_pure fun htk => ?_
  exact h _ ⟨fun b o hb e => he b o (fun q => hb (by simp [q])) e, rfl, rfl, rfl, htk⟩
theorem walks {H₀ : Heap} {N : Nat} {M T J D : Addr} {vs : List Value} {n : Nat} {ps : List (List Nat)} (W : Wd H₀) (R : Rm 8 A) (hJ : H₀.get? J = none) (hMJ : M ≠ J) (hTJ : T ≠ J) (hDJ : D ≠ J) (ht : Txs vs ps)
    (hN : ∀ b o, H₀.get? b = some o → b < N) (hM : M < N) (hT : T < N) (hJN : J < N) (hD : D < N) : WalksS PW w A M (List.range N) [J] (fun a b => b = a) vs.length (fun i v => vs[i]? = some v) (St H₀ M T J D vs n) where
  sub := fun b hb => by rw [List.mem_singleton.mp hb]; exact List.mem_range.mpr hJN
  grefl := fun _ => rfl
  gtrans := fun _ _ _ h1 h2 => h2.trans h1
  frame := fun i s h' tk st _ hk => by
    obtain ⟨k0, h1, h2, ⟨o, ho, r⟩, h4⟩ := st
    exact ⟨fun b o e => hk b (List.mem_range.mpr (hN b o e)) _ (k0 b o e), hk _ (List.mem_range.mpr hM) _ h1, hk _ (List.mem_range.mpr hT) _ h2, ⟨o, hk _ (List.mem_range.mpr hJN) _ ho, r⟩, hk _ (List.mem_range.mpr hD) _ h4⟩
  item := fun i s Q E hi st hQ => by
    obtain ⟨p, t, hp, e⟩ := ht.2 i _ (List.getElem?_eq_getElem hi)
    have hv : vs[i]? = some (.str (S p) t) := by rw [List.getElem?_eq_getElem hi, e]
    exact item W R hJ hMJ hTJ hDJ st hv fun s' st' hm => hQ _ s' hv st' hm
  done := fun s Q E st hQ => done R hMJ st hQ
  self := fun i s Q E st hQ => by
    have hTM : s.TypeIs (.ref M) "map" := ⟨_, st.2.1, rfl⟩
    refine wpAny_pyIter_slot hTM slot_iter (wpAny_call_entry slot_iter hTM entry_iter ?_ (args_iter _))
    show wpAny _ _ (ret (.ref M)) _ _ s
    exact wpAny_pure ⟨_, rfl, "map", _, hTM, slot_next.lookup, hQ⟩
end
section
variable {w : World} {A : Around} {E : Value → Shared → Prop} {s : Shared} {I : Addr} {fp wr : List Addr} {G : Array GenState → Array GenState → Prop} {n : Nat} {P : Nat → Value → Prop} {St : Nat → Shared → Prop}
/-- a new list makes room: one more and one less -/
theorem touch {M : Addr} {Q : Unit → Shared → Prop} {c : Nat} (h0 : s.heap.get? M = some (lstO [] c)) (h : ∀ h' c', Heap.SameBut M s.heap h' → h'.get? M = some (lstO [] c') → Q () { s with heap := h' }) : wpAny (model PW w) A (Builtin.List.listTouch (.ref M)) Q E s := by
  show wpAny _ _ (updateSeq M (·.push .none) >>= fun _ => updateSeq M (·.pop)) _ _ _
  refine wpAny_bind (wpAny_updateSeq h0 rfl ?_)
  have g1 := Heap.get?_update_self (Obj.mapSeq (·.push Value.none)) h0 rfl
  refine wpAny_updateSeq g1 rfl ?_
  refine h _ _ ((Heap.SameBut.update ..).trans (Heap.SameBut.update ..)) (Heap.get?_update_self (Obj.mapSeq (·.pop)) g1 rfl)
/-- all that a map gives, as a list -/
theorem collect_map {Q : List Value → Shared → Prop} (V : WalksS PW w A.in1 I fp wr G n P St) (ty : ∀ i s, St i s → s.TypeIs (.ref I) "map") (st : St 0 s) (low : ∀ b ∈ fp, b < s.heap.objs.size) (mem : I ∈ fp) (hn : n ≤ sizeLine)
    (h : ∀ s' acc, Moved wr G s s' → ItemsOf P acc n → Q acc.toList s') : wpAny (model PW w) A (collect (.ref I)) Q E s := by
  generalize hC : s.heap.objs.size = C at *
  have hCf : C ∉ fp := fun q => Nat.lt_irrefl _ (low _ q)
  have hCI : (Builtin.List.listSameRef (.ref C) (.ref I)) = false := by
    unfold Builtin.List.listSameRef
    exact beq_eq_false_iff_ne.mpr fun q => hCf (q ▸ mem)
  unfold collect
  refine wpAny_bind (wpAny_runValue (codeAny_builtin F.entry_proto_collect ?_))
  rw [Around.under_plainId F.plain_proto_collect _]
  show wpAny _ _ (newList [] >>= fun l => again (.builtin "list.__iadd__" ⟨[l, .ref I], []⟩)) _ _ s
  refine wpAny_bind (wpAny_newObj_type (wpAny_pure ⟨plainId_quiet F.plain_list_iadd _, codeAny_builtin F.entry_list_iadd ?_⟩))
  rw [Around.under_plainId F.plain_list_iadd _, hC]
  have g0 : (s.heap.push (lstO [] 0)).get? C = some (lstO [] 0) := by rw [← hC]; exact Heap.get?_push_size _ rfl
  have k0 : Keep s.heap (s.heap.push (lstO [] 0)) := fun _ _ e => Heap.get?_push_of_some _ e
  have st0 : St 0 { s with heap := s.heap.push (lstO [] 0) } := V.frame 0 s _ s.toks st (Nat.le_refl _) fun b _ o e => k0 b o e
  show wpAny _ _ (Builtin.List.listExtendWith (.ref C) (.ref I) (.ref C)) _ _ _
  unfold Builtin.List.listExtendWith
  refine wpAny_bind (wpAny_typeOf (ty 0 _ st0) ?_)
  rw [if_neg (by rw [hCI]; decide)]
  refine wpAny_bind (V.self 0 _ _ _ st0 (wpAny_bind (wpAny_holding ?_)))
  unfold Builtin.List.listLengthHint
  refine wpAny_bind (wpAny_specialOf (ty 0 _ st0) no_len ?_)
  show wpAny _ _ (specialOf (Value.ref I) (PySem.Str.ofString "__length_hint__") >>= _) _ _ _
  refine wpAny_bind (wpAny_specialOf (ty 0 _ st0) no_hint (wpAny_pure ?_))
  show wpAny _ _ (rule "list.extend.makes-room" >>= fun _ => Builtin.List.listTouch (.ref C) >>= fun _ => again (.builtin "list.extend.loop" ⟨[.ref C, .ref I, .ref C], []⟩)) _ _ _
  refine wpAny_bind (wpAny_rule (wpAny_bind (touch g0 fun h' c' hs g1 => ?_)))
  have k1 : ∀ b o, b ≠ C → s.heap.get? b = some o → h'.get? b = some o := fun b o q e => hs.extBut b o q (k0 b o e)
  have st1 : St 0 { s with heap := h' } := V.frame 0 s _ s.toks st (Nat.le_refl _) fun b hb o e => k1 b o (fun q => hCf (q ▸ hb)) e
  refine wpAny_pure ⟨plainId_quiet F.plain_extend_loop _, codeAny_extend_loopS V hn _ hCf _ n 0 _ _ _ rfl (Nat.zero_le _) st1 g1 (ItemsOf.nil P) fun s' acc' c2 hm g2 ha => ?_⟩
  show wpAny _ _ (load C >>= _) _ _ s'
  refine wpAny_bind (wpAny_load g2 (wpAny_pure (h s' acc' ⟨fun b o q e => hm.heap b o (fun r => ?_) (k1 b o (fun r => ?_) e), hm.gens, hm.drawn, hm.os, hm.toks⟩ ha)))
  · rcases List.mem_cons.mp r with r | r
    · subst r; exact absurd (Heap.lt_size e) (by rw [hC]; exact Nat.lt_irrefl _)
    · exact q r
  · subst r; exact absurd (Heap.lt_size e) (by rw [hC]; exact Nat.lt_irrefl _)
/-- tuple(map) -/
theorem tuple_map {Q : Value → Shared → Prop} (V : WalksS PW w A.in1.in1.in1 I fp wr G n P St) (ty : ∀ i s, St i s → s.TypeIs (.ref I) "map") (st : St 0 s) (low : ∀ b ∈ fp, b < s.heap.objs.size) (mem : I ∈ fp) (hn : n ≤ sizeLine)
    (h : ∀ s' acc, Moved wr G s s' → ItemsOf P acc n → Q (.ref s'.heap.objs.size) { s' with heap := s'.heap.push (tupO acc.toList) }) : wpAny (model PW w) A (call (.type "tuple") [.ref I]) Q E s := by
  refine callType_codes (Q₁ := fun obj s₁ => s₁.TypeIs obj "tuple" ∧ Q obj s₁) F.called_tuple (F.typeCall_tuple_1 _) F.entry_object_init ?_ fun obj s₁ h₁ =>
    ⟨h₁.1, F.args_object_init_2 obj _, object_init_meets F.called_tuple.init.lookup F.called_tuple.made (by decide) PW w A.in1 _ s₁ ⟨h₁.1, rfl, h₁.2⟩⟩
  refine codeAny_of_tree ?_
  show wpAny _ _ (do checkBuiltinCall "tuple.__new__" ⟨[.type "tuple", .ref I], []⟩; again (.builtin "tuple.__new__" ⟨[.type "tuple", .ref I], []⟩)) _ _ s
  refine wpAny_bind (wpAny_of_eq (F.newCall_tuple_1 _) (wpAny_pure ⟨plainId_quiet F.plain_tuple_new _, codeAny_builtin F.entry_tuple_new ?_⟩))
  rw [Around.under_plainId F.plain_tuple_new _]
  have f1 := sub_tuple_self
  have f2 := init_tuple_lookup
  have f3 := madeHere_tuple
  have tm := ty 0 s st
  wp_walk using wpAny_typeOf tm, collect_map V ty st low mem hn
  intro s' acc hm ha
  show wpAny _ _ (Builtin.Tuple.tupleExact acc.toList.toArray >>= fun v => ret v) _ _ _
  unfold Builtin.Tuple.tupleExact
  refine wpAny_bind (wpAny_newObj_type (wpAny_pure ⟨⟨_, Heap.get?_push_size _ rfl, rfl⟩, h s' acc hm ha⟩) ?_)
  show acc.toList.toArray.size ≤ sizeLine
  rw [Array.toArray_toList, ha.1]; exact hn
end
end Mp
/-- an object of the ledger let go, all others kept -/
theorem In.dropExt {s₀ s : Shared} {L : Addr} {l : List (Str × Value)} {nw : List (Addr × Obj)} {a : Addr} {o : Obj} {h' : Heap} {tk : Nat} (x : In s₀ L l ((a, o) :: nw) s) (hs : ∀ b o, b ≠ a → s.heap.get? b = some o → h'.get? b = some o) : In s₀ L l nw { s with heap := h', toks := tk } := by
  have ha := x.nw (a, o) (.head _)
  have nd := List.pairwise_cons.mp x.nd
  refine ⟨by obtain ⟨h, tk', e⟩ := x.same; exact ⟨h', tk, by rw [e]⟩, let ⟨m, nn, hm⟩ := x.ns; ⟨m, nn.extBut hs (Ne.symm ha.2.1), hm⟩, fun b o e => hs b o (fun q => ?_) (x.keep b o e), fun p hp => ?_, nd.2⟩
  · subst q; have := ha.2.2; dsimp only at this; rw [this] at e; cases e
  · have := x.nw p (.tail _ hp); exact ⟨hs _ _ (Ne.symm (nd.1 p hp)) this.1, this.2⟩
section
variable {w : World} {A : Around} {E : Value → Shared → Prop} {s₀ s : Shared} {L : Addr} {l : List (Str × Value)} {nw : List (Addr × Obj)} {Q : Value → Shared → Prop} {k : Nat}
/-- map(f, list) -/
theorem vMap {D : Addr} {vs : List Value} {n : Nat} {f : Value} (h1 : s.heap.get? D = some (lstO vs n)) (x : In s₀ L l nw s)
    (h : ∀ M T J s', In s₀ L l ((J, Mp.litO D 0) :: (M, Mp.mapO T f) :: (T, tupO [.ref J]) :: nw) s' → Q (.ref M) s') : wpAny (model PW w) A (call (.type "map") [f, .ref D]) Q E s := by
  refine callType_new Mp.called_map (by decide) (Mp.typeCall _ _) (Mp.newCall _ _) (fun obj => F.args_object_init_3 obj _ _) Mp.entry_new (Mp.meets_new D f vs n) ⟨h1, ?_⟩
  have y1 := x.pushN (Mp.litO D 0) rfl
  have y2 := y1.pushN (tupO [.ref s.heap.objs.size]) rfl
  have y3 := y2.pushN (Mp.mapO (s.heap.push (Mp.litO D 0)).objs.size f) rfl
  exact ⟨⟨_, Heap.get?_push_size _ rfl, rfl⟩, h _ _ s.heap.objs.size _ (y3.perm (List.perm_middle (l₁ := [_, _])))⟩
/-- tuple(map(fspath, list)) -/
theorem vTupMap {M T J D : Addr} {vs : List Value} {n : Nat} {ps : List (List Nat)} (W : Wd s₀.heap) (R : Rm 12 A) (hD : s.heap.get? D = some (lstO vs n)) (ht : Txs vs ps) (hz : vs.length ≤ 1000) (x : In s₀ L l ((J, Mp.litO D 0) :: (M, Mp.mapO T (.ref 94)) :: (T, tupO [.ref J]) :: nw) s)
    (h : ∀ a s', In s₀ L l ((a, tupO vs) :: (M, Mp.mapO T (.ref 94)) :: (T, tupO [.ref J]) :: nw) s' → Q (.ref a) s') : wpAny (model PW w) A (call (.type "tuple") [.ref M]) Q E s := by
  have gJ := (x.nw _ (.head _)).1
  have gM := (x.nw _ (.tail _ (.head _))).1
  have gT := (x.nw _ (.tail _ (.tail _ (.head _)))).1
  have hJ := (x.nw _ (.head _)).2.2
  dsimp only at gJ gM gT hJ
  have hMJ : M ≠ J := fun q => by subst q; exact (by decide : ¬ ((Value.type "list_iterator") = Value.type "map")) (congrArg Obj.cls (Option.some.inj (gJ.symm.trans gM)))
  have hTJ : T ≠ J := fun q => by subst q; exact (by decide : ¬ ((Value.type "list_iterator") = Value.type "tuple")) (congrArg Obj.cls (Option.some.inj (gJ.symm.trans gT)))
  have hDJ : D ≠ J := fun q => by subst q; exact (by decide : ¬ ((Value.type "list_iterator") = Value.type "list")) (congrArg Obj.cls (Option.some.inj (gJ.symm.trans hD)))
  have hN : ∀ b o, s₀.heap.get? b = some o → b < s.heap.objs.size := fun b o e => Heap.lt_size (x.keep b o e)
  refine Mp.tuple_map (Mp.walks (N := s.heap.objs.size) (n := n) W (((R.le (by decide) : Rm 11 A).in1.in1.in1)) hJ hMJ hTJ hDJ ht hN (Heap.lt_size gM) (Heap.lt_size gT) (Heap.lt_size gJ) (Heap.lt_size hD)) (fun i s st => ⟨_, st.2.1, rfl⟩)
    ⟨x.keep, gM, gT, ⟨_, gJ, rfl, rfl⟩, hD⟩ (fun b hb => List.mem_range.mp hb) (List.mem_range.mpr (Heap.lt_size gM)) (by rw [sizeLine_eq]; omega) fun s' acc hm ha => ?_
  have hacc : acc.toList = vs := by
    refine List.ext_getElem? fun i => ?_
    rcases Nat.lt_or_ge i vs.length with q | q
    · have hi : i < acc.size := by rw [ha.1]; exact q
      have := ha.2 i acc[i] (by simp [hi])
      rw [this]; simp [hi]
    · rw [List.getElem?_eq_none q, List.getElem?_eq_none (by simp; rw [ha.1]; exact q)]
  rw [hacc]
  have hs' : s' = { s with heap := s'.heap, toks := s'.toks } := by
    obtain ⟨h2, g2, d2, t2, o2⟩ := s'
    have e1 := hm.gens; have e2 := hm.drawn; have e3 := hm.os
    dsimp only at e1 e2 e3 ⊢
    rw [e1, e2, e3]
  have y := x.dropExt (h' := s'.heap) (tk := s'.toks) fun b o hb e => hm.heap b o (fun q => hb (List.mem_singleton.mp q)) e
  rw [← hs'] at y
  exact h _ _ (y.pushN (tupO vs) rfl)
end
end
section
open AutoSeq1 (wpAny_loadPart')
set_option maxRecDepth 100000
namespace St1
theorem slot_bhash : Slot "bool" "__hash__" "int.__hash__" :=
  .of (owner := "int") (n := "__hash__") (by rw [typeLookup_type, builtinLookup_eq_fast]; kernel_rfl) (by decide +kernel) (by decide +kernel) (by decide +kernel)
    (by first | exact .inl (by decide +kernel) | exact .inr (by decide +kernel)) (by rw [isSubtype_type]; kernel_rfl)
section
variable {w : World} {A : Around} {E : Value → Shared → Prop} {s : Shared}
theorem hash_true {Q : Int → Shared → Prop} (h : ∀ tk, Q 1 { s with toks := tk }) : wpAny (model PW w) A (pyHash (.bool true)) Q E s := by
  unfold pyHash pyHashByItsType
  refine wpAny_bind ?_
  rw [cRoomFor, if_neg (by decide)]
  refine wpAny_pure ?_
  refine wpAny_bind (wpAny_specialOf (T := "bool") rfl slot_bhash.lookup ?_)
  show wpAny _ _ (if (some (Value.builtin "int.__hash__") == some Value.none) = true then _ else _) Q E s
  rw [if_neg (by rw [beq_builtin_none]; exact Bool.false_ne_true)]
  refine wpAny_bind (wpAny_specialOf (T := "bool") rfl slot_bhash.lookup ?_)
  show wpAny _ _ (callSpecialIfBoundUnlessNone? (.bool true) "__hash__" _ >>= _) Q E s
  refine wpAny_bind (wpAny_callSpecialIfBoundUnlessNone?_slot (T := "bool") rfl slot_bhash
    (wpAny_call_entry slot_bhash (T := "bool") (self := .bool true) (rest := []) rfl entry_int_hash ?_ (args_int_hash _)))
  show wpAny _ _ (do ret (← mkInt (rawHash 1))) _ _ s
  refine wpAny_ret_mkInt ?_
  show wpAny _ _ (if (decide (-(2 : Int) ^ 63 ≤ rawHash 1) && decide (rawHash 1 < 2 ^ 63)) = true then _ else _) Q E _
  rw [if_pos (by decide +kernel)]
  exact wpAny_pure (h _)
noncomputable abbrev setO (es : Array (Int × Value)) (ep : Nat) (t : SetTable) : Obj := { cls := .type "set", dict := none, data := .set es ep t, slots := #[] }
noncomputable def t1 (led : Bool) : SetTable := { mask := 7, place := #[1], dummies := #[], finger := 0, led := led, moves := 0, plain := true }
noncomputable abbrev set0 (led : Bool) : Obj := setO #[] 0 (.fresh 0 0 led)
noncomputable abbrev set1 (led : Bool) : Obj := setO #[(1, .bool true)] 1 (t1 led)
theorem lay1 (led : Bool) : layNew (.fresh 0 0 led) #[] 1 (.bool true) = (#[(1, .bool true)], t1 led, false, false) := by cases led <;> decide +kernel
theorem eq_true {Q : Bool → Shared → Prop} (h : Q true s) : wpAny (model PW w) A (eqBool (.bool true) (.bool true)) Q E s := SeqAt.EqAt.same _ PW w E Q h
theorem add0 {a : Addr} {led : Bool} {Q : Value → Shared → Prop} (ho : s.heap.get? a = some (set0 led)) (h : ∀ h' tk, Heap.SameBut a s.heap h' → h'.get? a = some (set1 led) → Q .none { s with heap := h', toks := tk }) :
    wpAny (model PW w) A (call (.builtin "set.add") [.ref a, .bool true]) Q E s := by
  have hT : s.TypeIs (.ref a) "set" := ⟨_, ho, rfl⟩
  refine wpAny_call_entry F.slot_set_add hT F.entry_set_add ?_ (F.args_set_add_2 _ _)
  unfold Builtin.«set.add» Builtin.Frozenset.oneOther
  simp only [List.isEmpty_nil, bind_assoc]
  unfold Builtin.Frozenset.addrOf setAdd
  refine wpAny_bind (wpAny_pure ?_)
  try dsimp only
  refine wpAny_bind (wpAny_pure ?_)
  try dsimp only
  refine wpAny_bind (wpAny_holding (wpAny_bind (hash_true fun tk => ?_)))
  unfold setAddHashed
  refine wpAny_holding ?_
  show wpAny _ _ (setAddHashedIn a (.bool true) 1 (99999 + 1)) _ _ _
  unfold setAddHashedIn
  refine wpAny_bind (wpAny_setState_of (o := set0 led) ho rfl rfl ?_)
  try dsimp only
  rw [if_pos (show byScan (.bool true) #[] = true by simp [byScan, Value.scannable, scanBound])]
  unfold setAddByScan
  refine wpAny_bind (wpAny_bind (wpAny_rule ?_))
  show wpAny _ _ (pure ScanMet.absent >>= _) _ _ _
  refine wpAny_bind (wpAny_pure ?_)
  try dsimp only
  rw [lay1]
  try dsimp only
  refine wpAny_bind (wpAny_pure ?_)
  rw [if_pos (show (t1 led).plain = true from rfl)]
  refine wpAny_bind (m := hashByValue 8 (.bool true)) (wpAny_pure ?_)
  rw [if_pos rfl]
  refine wpAny_bind (wpAny_storeSet_of (o := set0 led) ho rfl ?_)
  rw [if_neg (by cases led <;> decide +kernel)]
  refine wpAny_pure ?_
  try dsimp only
  refine wpAny_pure ?_
  show wpAny _ _ (ret Value.none) _ _ _
  exact wpAny_pure ⟨_, rfl, h _ _ (Heap.SameBut.update ..) ((Heap.get?_update_self (o := set0 led) _ ho rfl).trans rfl)⟩
theorem add1 {a : Addr} {led : Bool} {Q : Value → Shared → Prop} (ho : s.heap.get? a = some (set1 led)) (h : ∀ tk, Q .none { s with toks := tk }) :
    wpAny (model PW w) A (call (.builtin "set.add") [.ref a, .bool true]) Q E s := by
  have hT : s.TypeIs (.ref a) "set" := ⟨_, ho, rfl⟩
  refine wpAny_call_entry F.slot_set_add hT F.entry_set_add ?_ (F.args_set_add_2 _ _)
  unfold Builtin.«set.add» Builtin.Frozenset.oneOther
  simp only [List.isEmpty_nil, bind_assoc]
  unfold Builtin.Frozenset.addrOf setAdd
  refine wpAny_bind (wpAny_pure ?_)
  try dsimp only
  refine wpAny_bind (wpAny_pure ?_)
  try dsimp only
  refine wpAny_bind (wpAny_holding (wpAny_bind (hash_true fun tk => ?_)))
  unfold setAddHashed
  refine wpAny_holding ?_
  show wpAny _ _ (setAddHashedIn a (.bool true) 1 (99999 + 1)) _ _ _
  unfold setAddHashedIn
  refine wpAny_bind (wpAny_setState_of (o := set1 led) ho rfl rfl ?_)
  try dsimp only
  rw [if_pos (show byScan (.bool true) #[(1, .bool true)] = true by simp [byScan, Value.scannable, scanBound])]
  unfold setAddByScan
  refine wpAny_bind (wpAny_bind (wpAny_rule ?_))
  show wpAny _ _ (setScanFrom a (.bool true) 1 true [(1, .bool true)] 0 >>= _) _ _ _
  unfold setScanFrom
  refine wpAny_bind ?_
  rw [if_pos (show ((1 : Int) == 1) = true from rfl)]
  refine wpAny_bind (wpAny_setEpoch_of (o := set1 led) ho rfl rfl ?_)
  refine wpAny_bind (eq_true ?_)
  rw [if_pos (show (true && true) = true from rfl)]
  refine wpAny_pure ?_
  try dsimp only
  refine wpAny_pure ?_
  try dsimp only
  refine wpAny_pure ?_
  show wpAny _ _ (ret Value.none) _ _ _
  exact wpAny_pure ⟨_, rfl, h _⟩
end
end St1
end
section
open AutoSeq1 (wpAny_loadPart')
set_option maxRecDepth 100000
namespace St1
theorem entry_iter : entryFor table "set.__iter__" = some Builtin.«frozenset.__iter__» :=
  entryFor_alias (id' := "frozenset.__iter__") (by kernel_rfl) rfl (by decide +kernel) (by kernel_rfl)
theorem slot_next : Slot "set_iterator" "__next__" "set_iterator.__next__" :=
  .of (owner := "set_iterator") (n := "__next__") (by rw [typeLookup_type, builtinLookup_eq_fast]; kernel_rfl) (by decide +kernel) (by decide +kernel) (by decide +kernel)
    (by first | exact .inl (by decide +kernel) | exact .inr (by decide +kernel)) (by rw [isSubtype_type]; kernel_rfl)
theorem entry_next : entryFor table "set_iterator.__next__" = some Builtin.«set_iterator.__next__» := entryFor_of_tree (by kernel_rfl)
theorem args_next (a : Value) : argsOk "set_iterator.__next__" ⟨[a], []⟩ := by unfold argsOk; kernel_rfl
noncomputable def bt (w : World) : Bool := w.params.followText "set-order"
noncomputable abbrev sitO (x y : Int) (a : Value) : Obj := { cls := .type "set_iterator", data := .fields #[rawInt x, rawInt y, a, rawInt 1, rawInt 1] }
section
variable {w : World} {A : Around} {E : Value → Shared → Prop} {s : Shared} {a I : Addr} {led : Bool}
theorem byText {Q : Bool → Shared → Prop} (h : Q (bt w) s) : wpAny (model PW w) A setsByText Q E s := by
  unfold setsByText
  exact wpAny_bind (wpAny_askSetting (wpAny_pure h))
theorem iter1 {Q : Value → Shared → Prop} (ho : s.heap.get? a = some (set1 led)) (h : Q (.ref s.heap.objs.size) { s with heap := s.heap.push (sitO 0 0 (.ref a)) }) : wpAny (model PW w) A (pyIter (.ref a)) Q E s := by
  have hT : s.TypeIs (.ref a) "set" := ⟨_, ho, rfl⟩
  refine wpAny_pyIter_slot hT F.slot_set_iter (wpAny_call_entry F.slot_set_iter hT entry_iter ?_ (F.args_set_iter_1 _))
  show wpAny _ _ (Builtin.Frozenset.sizeOf a >>= fun n => _) _ _ s
  unfold Builtin.Frozenset.sizeOf
  refine wpAny_bind (wpAny_bind (wpAny_setEntries_of (o := set1 led) ho rfl rfl (wpAny_pure ?_)))
  show wpAny _ _ (setDrawn a >>= fun b => _) _ _ s
  unfold setDrawn
  refine wpAny_bind (wpAny_bind (wpAny_setState_of (o := set1 led) ho rfl rfl (wpAny_bind (byText (wpAny_pure ?_)))))
  have hd : (!bt w && (!(t1 led).plain && decide ((#[((1 : Int), Value.bool true)] : Array (Int × Value)).size > 1))) = false := by
    rw [show (t1 led).plain = true from rfl]; cases bt w <;> rfl
  show wpAny _ _ (if (!bt w && (!(t1 led).plain && decide ((#[((1 : Int), Value.bool true)] : Array (Int × Value)).size > 1))) = true then _ else _) _ _ s
  rw [hd, if_neg (by decide)]
  refine wpAny_bind (wpAny_pure ?_)
  refine wpAny_bind (wpAny_setEpoch_of (o := set1 led) ho rfl rfl ?_)
  show wpAny _ _ (newFields "set_iterator" [rawInt 0, rawInt 0, Value.ref a, rawInt 1, rawInt 1] >>= fun v => ret v) _ _ s
  unfold newFields
  refine wpAny_bind (wpAny_newObj_type (wpAny_pure ⟨_, rfl, "set_iterator", _, ⟨_, Heap.get?_push_size _ rfl, rfl⟩, slot_next.lookup, h⟩) (by size_fits))
theorem pick1 {α : Type} (f : Nat → Nat) (x : α) : pickOrder f #[x] = #[x] := by
  unfold pickOrder
  show pickOrder.go f 1 0 [x] #[] = #[x]
  unfold pickOrder.go
  rw [show f 0 % ([x] : List α).length = 0 from Nat.mod_one _]
  show pickOrder.go f 0 1 [] #[x] = #[x]
  unfold pickOrder.go
  rfl
theorem walk1 {Q : Array (Int × Value) → Shared → Prop} (ho : s.heap.get? a = some (set1 led)) (hb : bt w = true) (h : Q #[(1, .bool true)] s) : wpAny (model PW w) A (setWalk a) Q E s := by
  unfold setWalk
  refine wpAny_bind (wpAny_setState_of (o := set1 led) ho rfl rfl (wpAny_bind (byText ?_)))
  rw [hb, if_pos rfl]
  refine wpAny_bind (wpAny_askSetting (wpAny_pure ?_))
  rw [pick1]; exact h
theorem next0 {Q : Option Value → Shared → Prop} (hl : led = !bt w) (ho : s.heap.get? a = some (set1 led)) (hI : s.heap.get? I = some (sitO 0 0 (.ref a)))
    (h : ∀ h' z, Heap.SameBut I s.heap h' → h'.get? I = some (sitO z 1 (.ref a)) → z = (if bt w then 0 else 2) → Q (some (.bool true)) { s with heap := h' }) : wpAny (model PW w) A (pyNext (.ref I)) Q E s := by
  have hT : s.TypeIs (.ref I) "set_iterator" := ⟨_, hI, rfl⟩
  unfold pyNext
  refine wpAny_bind (wpAny_attempt (wpAny_callSpecial?_slot (name := PySem.Str.ofString "__next__") hT slot_next (wpAny_call_entry slot_next hT entry_next ?_ (args_next _))))
  show wpAny _ _ (fieldsOf (.ref I) >>= fun r => _) _ _ s
  refine wpAny_bind (wpAny_fieldsOf hI rfl ?_)
  show wpAny _ _ (setEntries a >>= fun r => _) _ _ s
  refine wpAny_bind (wpAny_setEntries_of (o := set1 led) ho rfl rfl ?_)
  show wpAny _ _ (if (((#[((1 : Int), Value.bool true)] : Array (Int × Value)).size : Int) != 1) = true then _ else _) _ _ s
  rw [if_neg (by decide)]
  show wpAny _ _ (setNext a 0 0 1 >>= fun r => _) _ _ s
  have fin : ∀ (z : Int) (Q' : Fin → Shared → Prop) (E' : Value → Shared → Prop), (∀ h', Heap.SameBut I s.heap h' → h'.get? I = some (sitO z 1 (.ref a)) → Q' (.done (.ret (.bool true))) { s with heap := h' }) →
      wpAny (model PW w) A.in1 (setField (.ref I) 0 (rawInt z) >>= fun _ => setField (.ref I) 1 (rawInt 1) >>= fun _ => ret (Value.bool true)) Q' E' s := by
    intro z Q' E' hQ
    refine wpAny_bind (wpAny_setField_rec hI (by simp) fun h1 g1 s1 => ?_)
    refine wpAny_bind (wpAny_setField_rec g1 (by simp) fun h2 g2 s2 => ?_)
    exact wpAny_pure (hQ h2 (s1.trans s2) g2)
  unfold setNext
  refine wpAny_bind (wpAny_bind (wpAny_setState_of (o := set1 led) ho rfl rfl (wpAny_bind (byText ?_))))
  cases hb : bt w with
  | true =>
    rw [if_pos rfl, if_neg (by decide)]
    refine wpAny_bind (walk1 ho hb (wpAny_pure ?_))
    exact fin 0 _ _ fun h' hs hg => ⟨_, rfl, wpAny_pure (h h' 0 hs hg (by rw [hb]; rfl))⟩
  | false =>
    rw [hb] at hl
    subst hl
    rw [if_neg (by decide)]
    refine wpAny_ite_split (fun q => absurd q (by decide +kernel)) (fun _ => ?_)
    refine wpAny_bind (wpAny_of_eq (a := ()) rfl (wpAny_pure ?_))
    exact fin 2 _ _ fun h' hs hg => ⟨_, rfl, wpAny_pure (h h' 2 hs hg (by rw [hb]; rfl))⟩
theorem next1 {z : Int} {Q : Option Value → Shared → Prop} (hh : A.handled = none) (hz : z = (if bt w then 0 else 2)) (hl : led = !bt w) (ho : s.heap.get? a = some (set1 led)) (hI : s.heap.get? I = some (sitO z 1 (.ref a)))
    (h : ∀ h', Heap.ExtBut I s.heap h' → Q none { s with heap := h' }) : wpAny (model PW w) A (pyNext (.ref I)) Q E s := by
  have hT : s.TypeIs (.ref I) "set_iterator" := ⟨_, hI, rfl⟩
  unfold pyNext
  refine wpAny_bind (wpAny_attempt (wpAny_callSpecial?_slot (name := PySem.Str.ofString "__next__") hT slot_next (wpAny_call_entry slot_next hT entry_next ?_ (args_next _))))
  show wpAny _ _ (fieldsOf (.ref I) >>= fun r => _) _ _ s
  refine wpAny_bind (wpAny_fieldsOf hI rfl ?_)
  show wpAny _ _ (setEntries a >>= fun r => _) _ _ s
  refine wpAny_bind (wpAny_setEntries_of (o := set1 led) ho rfl rfl ?_)
  show wpAny _ _ (if (((#[((1 : Int), Value.bool true)] : Array (Int × Value)).size : Int) != 1) = true then _ else _) _ _ s
  rw [if_neg (by decide)]
  show wpAny _ _ (setNext a z.toNat 1 1 >>= fun r => _) _ _ s
  have fin : ∀ (Q' : Fin → Shared → Prop) (E' : Value → Shared → Prop), (∀ h' e, Heap.ExtBut I s.heap h' → (∃ o, h'.get? e = some o ∧ o.cls = .type "StopIteration") → E' (.ref e) { s with heap := h' }) →
      wpAny (model PW w) A.in1 (setField (.ref I) 2 .none >>= fun _ => newExc (.type "StopIteration") [] >>= fun e => (raiseNew e : Sem Fin)) Q' E' s := by
    intro Q' E' hE
    refine wpAny_bind (wpAny_setField_rec hI (by simp) fun h1 g1 s1 => ?_)
    refine wpAny_bind ?_
    simp only [newExc, newTuple]
    refine wpAny_bind (wpAny_newObj_type ?_ (by size_fits))
    refine wpAny_bind (m := firstArgMember _ _) (wpAny_of_eq (a := Value.none) (by first | rfl | (simp only [firstArgMember]; rfl)) ?_)
    refine wpAny_newObj_type ?_ (by size_fits)
    simp only [raiseNew]
    refine wpAny_bind (wpAny_handled ?_)
    rw [show A.in1.handled = none from hh]
    refine wpAny_bind (wpAny_pure (wpAny_throw ?_))
    exact hE _ _ ((s1.extBut.push _).push _) ⟨_, Heap.get?_push_size _ rfl, rfl⟩
  have go : ∀ (h' : Heap) (e : Addr), Heap.ExtBut I s.heap h' → (∃ o, h'.get? e = some o ∧ o.cls = .type "StopIteration") → wpAny (model PW w) A (do let b ← isInstance (.ref e) (.type "StopIteration"); if b = true then pure none else throw (.ref e)) Q E { s with heap := h' } := by
    rintro h' e he ⟨o, ho, hc⟩
    refine wpAny_bind (wpAny_isInstance (T := "StopIteration") (b := true) ⟨o, ho, hc⟩ isSubtype_stop ?_)
    exact wpAny_pure (h h' he)
  unfold setNext
  refine wpAny_bind (wpAny_bind (wpAny_setState_of (o := set1 led) ho rfl rfl (wpAny_bind (byText ?_))))
  cases hb : bt w with
  | true =>
    rw [if_pos rfl, if_neg (by decide)]
    refine wpAny_bind (walk1 ho hb (wpAny_pure ?_))
    exact fin _ _ go
  | false =>
    rw [hb] at hl hz
    subst hl hz
    rw [if_neg (by decide)]
    refine wpAny_ite_split (fun q => absurd q (by decide +kernel)) (fun _ => ?_)
    refine wpAny_bind (wpAny_of_eq (a := ()) rfl (wpAny_pure ?_))
    exact fin _ _ go
/-- what the one element of a set takes -/
theorem unpack1 {Q : List Value → Shared → Prop} (hh : A.handled = none) (hl : led = !bt w) (ho : s.heap.get? a = some (set1 led)) (h : ∀ h', (∀ b o, s.heap.get? b = some o → h'.get? b = some o) → Q [.bool true] { s with heap := h' }) :
    wpAny (model PW w) A (unpackItems (.ref a) 1 none) Q E s := by
  have hT : s.TypeIs (.ref a) "set" := ⟨_, ho, rfl⟩
  unfold unpackItems
  refine wpAny_bind ?_
  unfold notIterableAtAll
  refine wpAny_bind (wpAny_specialOf hT F.slot_set_iter.lookup (wpAny_pure ?_))
  rw [if_neg (by decide)]
  refine wpAny_bind (wpAny_holding (iter1 ho ?_))
  have hlt : a < s.heap.objs.size := Heap.lt_size ho
  have g0 := Heap.get?_push_size s.heap (o := sitO 0 0 (.ref a)) rfl
  have ha := Heap.get?_push_of_some (sitO 0 0 (.ref a)) ho
  dsimp only
  refine wpAny_bind (wpAny_holding ?_)
  show wpAny _ _ (pyNext (.ref s.heap.objs.size) >>= fun r => _) _ _ _
  refine wpAny_bind (next0 (s := { s with heap := s.heap.push (sitO 0 0 (.ref a)) }) hl ha g0 fun h1 z s1 g1 hz => ?_)
  have ha1 : h1.get? a = some (set1 led) := (s1.2 a (Nat.ne_of_lt hlt)).trans ha
  refine wpAny_bind (wpAny_holding (wpAny_pure (wpAny_pure ?_)))
  rw [if_neg (by simp)]
  refine wpAny_bind (wpAny_holding (next1 (s := { s with heap := h1 }) hh hz hl ha1 g1 fun h2 s2 => ?_))
  simp only [Option.isSome_none, Bool.false_eq_true, if_false]
  exact wpAny_pure (h h2 fun b o e => s2 b o (Nat.ne_of_lt (Heap.lt_size e)) (s1.extBut b o (Nat.ne_of_lt (Heap.lt_size e)) (Heap.get?_push_of_some _ e)))
end
end St1
end
section
set_option maxRecDepth 100000
theorem compTurn_set (elt target iter : PySem.Expr) (scope : Scope) (pos : Pos) (it acc : Value) (env : Env) :
    compTurn (.SetComp elt [⟨target, iter, [], 0⟩] scope pos) 0 it acc env = (do
      standAt iter.pos
      match ← pyNext it with
      | none => pure (.done .next)
      | some v =>
        letOwnedTupleGo target it v
        assign target env v
        (do let v ← eval elt env; standAt elt.pos; let _ ← call (.builtin "set.add") [acc, v])
        again (.compLoop (.SetComp elt [⟨target, iter, [], 0⟩] scope pos) 0 it acc env)) := by rfl
section
variable {w : World} {A : Around} {E : Value → Shared → Prop} {s₀ s : Shared} {env : Env} {L : Addr} {sc : Scope} {cl cl0 : List (Str × Addr)} {l l' : List (Str × Value)} {nw nw' N : List (Addr × Obj)} {σ : Type} {pos px py spos p1 tp : Pos} {x y x1 : Str} {elt iter : PySem.Expr} {scope : Scope} {rest : List Stmt} {k : Nat}
theorem setLoop {it acc : Value} {R : Result → Shared → Prop} (I : Nat → Shared → Prop)
    (turn : ∀ n s, I n s → wpAny (model PW w) A (pyNext it) (fun r s₁ => match r with
      | none => R (.ok .next) s₁
      | some v => wpAny (model PW w) A (assign (.Name x px) env v) (fun _ s₂ =>
          wpAny (model PW w) A (eval elt env) (fun z s₄ => wpAny (model PW w) A (call (.builtin "set.add") [acc, z]) (fun _ s₅ => ∃ m, m < n ∧ I m s₅) (fun _ _ => False) s₄) (fun _ _ => False) s₂) (fun _ _ => False) s₁) (fun _ _ => False) s)
    (n : Nat) (h : I n s) : codeAny (model PW w) A (.compLoop (.SetComp elt [⟨.Name x px, iter, [], 0⟩] scope pos) 0 it acc env) R s := by
  refine codeAny_loop rfl I (fun n s hI => ?_) n h
  show wpAny _ A ((compTurn (.SetComp elt [⟨.Name x px, iter, [], 0⟩] scope pos) 0 it acc env).onRaise (fun x => do noteFrame x env; theTreesLotGoes x)) _ _ s
  refine wpAny_noted ?_
  rw [compTurn_set]
  refine wpAny_bind (wpAny_standAt (wpAny_bind (wpAny_mono (turn n s hI) (fun r s₁ h₁ => ?_) fun _ _ z => z.elim)))
  cases r with
  | none => exact wpAny_pure h₁
  | some v =>
    refine wpAny_bind (wpAny_of_eq (a := ()) rfl ?_)
    refine wpAny_bind (wpAny_mono h₁ (fun _ s₂ h₂ => ?_) fun _ _ z => z.elim)
    refine wpAny_bind (wpAny_bind (wpAny_mono h₂ (fun z s₄ h₄ => ?_) fun _ _ z => z.elim))
    refine wpAny_bind (wpAny_standAt (wpAny_bind (wpAny_mono h₄ (fun _ s₅ h₅ => ?_) fun _ _ z => z.elim)))
    exact wpAny_pure (wpAny_pure ⟨rfl, h₅⟩)
theorem setStart {it acc : Value} {R : Result → Shared → Prop} (h0 : codeAny (model PW w) A (.compLoop (.SetComp elt [⟨.Name x px, iter, [], 0⟩] scope pos) 0 it acc env) R s)
    (h : wpAny (model PW w) A (pyIter it) (fun it' s' => codeAny (model PW w) A (.compLoop (.SetComp elt [⟨.Name x px, iter, [], 0⟩] scope pos) 0 it' acc env) R s') (fun _ _ => False) s) :
    codeAny (model PW w) A (.compStart (.SetComp elt [⟨.Name x px, iter, [], 0⟩] scope pos) 0 it acc env) R s := by
  refine codeAny_of_tree ?_
  show wpAny _ _ ((compStart (.SetComp elt [⟨.Name x px, iter, [], 0⟩] scope pos) 0 it acc env).onRaise (fun x => do noteFrame x env; standAt theWindowsPlace)) _ _ s
  refine wpAny_notedAt ?_
  unfold compStart
  show wpAny _ _ (ask >>= _) _ _ s
  refine wpAny_bind (wpAny_askSetting (wpAny_ite ?_))
  split
  · exact wpAny_pure (And.intro rfl h0)
  · refine wpAny_bind (wpAny_rule ?_)
    refine wpAny_bind (wpAny_standAt ?_)
    exact wpAny_bind (wpAny_mono h (fun it' s' h' => wpAny_pure ⟨rfl, h'⟩) fun _ _ z => z.elim)
noncomputable def BlkS (w : World) (A : Around) (E : Value → Shared → Prop) (elt : PySem.Expr) (x : Str) (px : Pos) (iter : PySem.Expr) (scope : Scope) (pos : Pos) (env : Env) (cl0 : List (Str × Addr)) (RR : Value → Addr → Result → Shared → Prop) (it : Value) (s₂ : Shared) : Prop :=
  wpAny (model PW w) A (newSet (.type "set")) (fun acc s₃ => wpAny (model PW w) A (newFunctionEnv scope env.globals cl0 [] env.qual none .none (some env)) (fun cenv s₄ =>
      codeAny (model PW w) A (.compStart (.SetComp elt [⟨.Name x px, iter, [], 0⟩] scope pos) 0 it acc { cenv with scope := relabel scope env }) (RR acc cenv.locals) s₄) E s₃) E s₂
/-- {.. for x in iter} -/
theorem rSetComp {Q : Value → Shared → Prop} (e : EnvIs env L sc cl) (hclos : clo cl scope.names [] = some cl0) (hkd : (scope.kind == .function) = true) (hnm : (scope.names.all fun y => y.2 != .local || scope.names.lookup y.1 == some .local) = true)
    (h : wpAny (model PW w) A (eval iter env) (fun xv s₁ => wpAny (model PW w) A (pyIter xv) (fun it s₂ => BlkS w A E elt x px iter scope pos env cl0 (fun acc C => compPost (model PW w) A E none Q acc C) it s₂) E s₁) E s)
    (hs : ∀ x, foldedSetIterable iter env x = pure x) : wpAny (model PW w) A (eval (.SetComp elt [⟨.Name x px, iter, [], 0⟩] scope pos) env) Q E s := by
  rw [arm_eval_SetComp]
  refine wpAny_comprehension_free (use := none) rfl hs (closureFor_of e.cells hclos) (eq_of_beq hkd) (fun y hy hl => ?_) h
  have := List.all_eq_true.mp hnm y hy
  rw [hl] at this
  simpa using this
/-- the turns, over a tuple whose things all give True -/
theorem setIt {n : Nat} {a : Addr} {vs : List Value} {clF : List (Str × Addr)} {RR : Value → Addr → Result → Shared → Prop}
    (e : EnvIs env L sc cl) (R : Rm n A) (hpc : ∀ h, pushCells h scope.names = h) (hcc : ∀ C, cellsFrom (C + 1) scope.names cl0 = clF) (hkd : (scope.kind == .function) = true)
    (hl : s.heap.get? a = some (tupO vs)) (hne : vs ≠ [])
    (hbody : ∀ (i : Nat) (v : Value) I o D oD C s', vs[i]? = some v → EnvIs (cenvOf scope sc env C clF) C (rlb scope sc) clF → s.heap.get? C = none → In s C [] [(D, oD), (I, o)] s' →
      wpAny (model PW w) A (storeName (cenvOf scope sc env C clF) x v) (fun _ s₂ => wpAny (model PW w) A (eval elt (cenvOf scope sc env C clF)) (fun r s₄ => r = .bool true ∧ ∃ l', In s C l' [(D, oD), (I, o)] s₄) (fun _ _ => False) s₂) (fun _ _ => False) s')
    (hend : ∀ D C s', s.heap.get? C = none → In s C [] [(D, St1.set1 (!St1.bt w))] s' → RR (.ref D) C (.ok .next) s') :
    wpAny (model PW w) A (pyIter (.ref a)) (fun it s₂ => BlkS w A E elt x px iter scope pos env cl0 RR it s₂) E s := by
  have hlt : a < s.heap.objs.size := Heap.lt_size hl
  refine wpAny_pyIter_tuple (ist hl) ?_
  have Wk := Walks.tuple (prog := PW) (w := w) R.hd s.heap.objs.size a (Nat.ne_of_lt hlt) vs.toArray
  unfold BlkS newSet
  refine wpAny_bind (St1.byText ?_)
  refine wpAny_newObj_type (wpAny_compEnv ?_)
  dsimp only
  rw [relabel_rlb e.scope, hpc]
  generalize hoI : ({ cls := .type "tuple_iterator", data := .fields #[.ref a, .int 0 0] } : Obj) = oI
  have hIf : oI.isFreed = false := by subst hoI; rfl
  generalize hI0 : s.heap.objs.size = I at *
  generalize hH1 : (s.heap.push oI).push { cls := .type "set", dict := none, data := .set #[] 0 (.fresh 0 0 (!St1.bt w)) } = H1
  have z1 : (s.heap.push oI).objs.size = I + 1 := by rw [Heap.size_push, hI0]
  have z2 : H1.objs.size = I + 2 := by rw [← hH1, Heap.size_push, z1]
  rw [z1, z2]
  have hIs : s.heap.get? I = none := Heap.get?_none_of_le (by rw [hI0]; exact Nat.le_refl _)
  have hDs : s.heap.get? (I + 1) = none := Heap.get?_none_of_le (by rw [hI0]; exact Nat.le_succ _)
  have hCs : s.heap.get? (I + 2) = none := Heap.get?_none_of_le (by rw [hI0]; omega)
  have g1 : (s.heap.push oI).get? I = some oI := by have := Heap.get?_push_size s.heap hIf; rw [hI0] at this; exact this
  have g2 : H1.get? (I + 1) = some (St1.set0 (!St1.bt w)) := by
    have := Heap.get?_push_size (s.heap.push oI) (o := St1.set0 (!St1.bt w)) rfl
    rw [z1] at this; rw [← hH1]; exact this
  have k1 : Keep s.heap H1 := fun b o q => by rw [← hH1]; exact Heap.get?_push_of_some _ (Heap.get?_push_of_some _ q)
  have g1' : H1.get? I = some oI := by rw [← hH1]; exact Heap.get?_push_of_some _ g1
  have y0 : ∀ tk, In s (I + 2) [] [((I + 1), St1.set0 (!St1.bt w)), (I, oI)] { s with heap := H1.push { cls := .type "dict", data := .dict #[] }, toks := tk } := fun tk => by
    refine ⟨⟨_, _, rfl⟩, ⟨_, by have := Heap.Ns.new H1 (.type "dict"); rw [z2] at this; exact this, fun n v q => by cases q⟩, fun b o q => Heap.get?_push_of_some _ (k1 b o q), fun p hp => ?_, ?_⟩
    · rcases List.mem_cons.mp hp with rfl | hp
      · exact ⟨Heap.get?_push_of_some _ g2, Nat.ne_of_lt (Nat.lt_succ_self _), hDs⟩
      · rw [List.mem_singleton] at hp; subst hp
        exact ⟨Heap.get?_push_of_some _ g1', Nat.ne_of_lt (by omega), hIs⟩
    · refine List.pairwise_cons.mpr ⟨fun p hp => ?_, List.pairwise_singleton ..⟩
      rw [List.mem_singleton] at hp; subst hp
      exact Nat.ne_of_gt (Nat.lt_succ_self _)
  have eC : EnvIs (cenvOf scope sc env (I + 2) clF) (I + 2) (rlb scope sc) clF := ⟨rfl, rfl, e.globals, e.builtins, rfl, eq_of_beq hkd⟩
  rw [show cellsFrom (I + 2 + 1) scope.names cl0 = clF from hcc (I + 2)]
  have st0 : ∀ {h : Heap}, Keep s.heap h → h.get? I = some oI → h.IsTupleIter I a 0 ∧ h.IsTuple a vs.toArray := fun k g => ⟨⟨_, g, by subst hoI; rfl, by subst hoI; rfl⟩, _, k _ _ hl, rfl, _, rfl⟩
  have loop : ∀ tk, codeAny (model PW w) A (.compLoop (.SetComp elt [⟨.Name x px, iter, [], 0⟩] scope pos) 0 (.ref I) (.ref (I + 1)) (cenvOf scope sc env (I + 2) clF)) (RR (.ref (I + 1)) (I + 2)) { s with heap := H1.push { cls := .type "dict", data := .dict #[] }, toks := tk } := fun tk => by
    refine setLoop (fun q s' => ∃ i o l', q = vs.length - i ∧ i ≤ vs.length ∧ In s (I + 2) l' [((I + 1), if i = 0 then St1.set0 (!St1.bt w) else St1.set1 (!St1.bt w)), (I, o)] s' ∧ s'.heap.IsTupleIter I a i ∧ s'.heap.IsTuple a vs.toArray) ?_ vs.length
      ⟨0, oI, [], rfl, Nat.zero_le _, y0 tk, st0 (y0 tk).keep ((y0 tk).nw (I, oI) (.tail _ (.head _))).1⟩
    rintro q s₁ ⟨i, o, l', rfl, hi, y, st⟩
    have y : In s (I + 2) [] [((I + 1), if i = 0 then St1.set0 (!St1.bt w) else St1.set1 (!St1.bt w)), (I, o)] s₁ := y.forget Sub'.nil
    by_cases hlt : i < vs.length
    · refine Wk.item i s₁ _ _ (by simpa using hlt) st fun v h' tk' hv st' hk => ?_
      have hx' : ∀ b ob, b ≠ I → s₁.heap.get? b = some ob → h'.get? b = some ob := fun b ob hb => hk b ob (fun hm => hb (List.mem_singleton.mp hm))
      obtain ⟨o', ho', hr⟩ := id st'.1
      have y' := y.turn (tk := tk') (nw' := [((I + 1), if i = 0 then St1.set0 (!St1.bt w) else St1.set1 (!St1.bt w)), (I, o')]) (.miss .hit) hx' ho'
      dsimp only
      refine wpAny_assign_Name ?_
      refine wpAny_mono (hbody i v I o' (I + 1) _ (I + 2) _ (by simpa using hv) eC hCs y') (fun _ s₂ h₂ => ?_) fun _ _ z => z.elim
      refine wpAny_mono h₂ (fun r s₄ h₄ => ?_) fun _ _ z => z.elim
      obtain ⟨rfl, l'', y₄⟩ := h₄
      have hD := (y₄.nw ((I + 1), if i = 0 then St1.set0 (!St1.bt w) else St1.set1 (!St1.bt w)) (.head _)).1
      have hI := (y₄.nw (I, o') (.tail _ (.head _))).1
      dsimp only at hD hI
      have mk : ∀ (s₅ : Shared), In s (I + 2) l'' [((I + 1), St1.set1 (!St1.bt w)), (I, o')] s₅ → ∃ m, m < vs.length - i ∧ ∃ i o l', m = vs.length - i ∧ i ≤ vs.length ∧ In s (I + 2) l' [((I + 1), if i = 0 then St1.set0 (!St1.bt w) else St1.set1 (!St1.bt w)), (I, o)] s₅ ∧ s₅.heap.IsTupleIter I a i ∧ s₅.heap.IsTuple a vs.toArray := fun s₅ y₅ =>
        ⟨vs.length - (i + 1), sbl hlt, i + 1, o', l'', rfl, hlt, by rw [if_neg (Nat.succ_ne_zero i)]; exact y₅, ⟨o', (y₅.nw (I, o') (.tail _ (.head _))).1, hr⟩, _, y₅.keep _ _ hl, rfl, _, rfl⟩
      by_cases h0 : i = 0
      · rw [if_pos h0] at hD y₄
        refine St1.add0 hD fun h5 tk5 hs hg => mk _ (y₄.turn (tk := tk5) .hit hs.extBut hg)
      · rw [if_neg h0] at hD y₄
        exact St1.add1 hD fun tk5 => mk _ (y₄.tok tk5)
    · have hin : i = vs.length := by omega
      subst hin
      refine Wk.done s₁ _ _ (by simpa using st) fun h' tk' hk => ?_
      have hx' : ∀ b ob, b ≠ I → s₁.heap.get? b = some ob → h'.get? b = some ob := fun b ob hb => hk b ob (fun hm => hb (List.mem_singleton.mp hm))
      have hn0 : vs.length ≠ 0 := fun q => hne (List.length_eq_zero_iff.mp q)
      rw [if_neg hn0] at y
      exact hend _ _ _ hCs ((y.perm (List.Perm.swap ..)).dropExt hx')
  refine setStart (loop _) (Wk.self 0 _ _ _ ?_ (loop _))
  exact st0 (y0 s.toks).keep ((y0 s.toks).nw (I, oI) (.tail _ (.head _))).1
/-- x1, = value -/
theorem xTup1 {Q : Flow → Shared → Prop} {value : PySem.Expr}
    (hw : swappedStores [.Tuple [.Name x1 p1] k tp] value env = pure none) (hs : swapsWithSole [.Tuple [.Name x1 p1] k tp] value pos.line env = pure false)
    (h : wpAny (model PW w) A (eval value env) (fun v s₁ => wpAny (model PW w) A (unpackItems v 1 none) (fun items s₂ => ∃ v1, items = [v1] ∧
      wpAny (model PW w) A (storeName env x1 v1) (fun _ s₃ => wpAny (model PW w) A (execs rest env) Q E s₃) E s₂) E s₁) E s) :
    wpAny (model PW w) A (execs (.Assign [.Tuple [.Name x1 p1] k tp] value pos :: rest) env) Q E s := by
  refine wpAny_execs_cons (Assign_Tuple (wpAny_mono h (fun v s₁ h₁ => ?_) fun _ _ z => z) hs hw)
  rw [assign_Tuple]
  refine wpAny_bind (wpAny_standAt ?_)
  unfold unpack
  refine wpAny_bind (wpAny_holding (wpAny_mono h₁ (fun items s₂ h₂ => ?_) fun _ _ z => z))
  obtain ⟨v1, rfl, h₂⟩ := h₂
  show wpAny _ _ (assignInOrder [assign (.Name x1 p1) env] [v1]) _ _ _
  exact wpAny_assignInOrder_more (wpAny_assign_Name (wpAny_mono h₂ (fun _ s₃ h₃ => wpAny_assignInOrder_none h₃) fun _ _ z => z))
end
end
section
set_option maxRecDepth 100000
noncomputable abbrev enO (it : Addr) (i : Int) (old : Value) : Obj := { cls := .type "enumerate", dict := none, data := .fields #[.none, .bool false, .ref it, rawInt i, .none, old], slots := #[] }
noncomputable def LiO (D : Addr) (i : Nat) (o : Obj) : Prop := o.cls = .type "list_iterator" ∧ o.data = .fields #[.ref D, .int i 0]
section
variable {w : World} {A : Around} {E : Value → Shared → Prop} {s₀ s : Shared} {env : Env} {L : Addr} {sc : Scope} {cl : List (Str × Addr)} {l l' : List (Str × Value)} {nw nw' : List (Addr × Obj)} {pos p1 p2 tp : Pos} {σ : Type} {x1 x2 : Str} {k : Nat} {body rest : List Stmt}
theorem In.turn2 {a b : Addr} {o p o' p' : Obj} {h' : Heap} {tk : Nat} (x : In s₀ L l ((a, o) :: (b, p) :: nw) s) (hs : ∀ c ob, c ≠ a → c ≠ b → s.heap.get? c = some ob → h'.get? c = some ob) (ha : h'.get? a = some o') (hb : h'.get? b = some p') :
    In s₀ L l ((a, o') :: (b, p') :: nw) { s with heap := h', toks := tk } := by
  have xa := x.nw (a, o) (.head _)
  have xb := x.nw (b, p) (.tail _ (.head _))
  dsimp only at xa xb
  have nd := List.pairwise_cons.mp x.nd
  have nd2 := List.pairwise_cons.mp nd.2
  refine ⟨by obtain ⟨h, tk', e⟩ := x.same; exact ⟨h', tk, by rw [e]⟩, let ⟨m, nn, hm⟩ := x.ns; ⟨m, nn.at' fun o e => hs L o (Ne.symm xa.2.1) (Ne.symm xb.2.1) e, hm⟩, fun c ob e => hs c ob (fun q => ?_) (fun q => ?_) (x.keep c ob e), fun q hq => ?_, ?_⟩
  · subst q; rw [xa.2.2] at e; cases e
  · subst q; rw [xb.2.2] at e; cases e
  · rcases List.mem_cons.mp hq with rfl | hq
    · exact ⟨ha, xa.2⟩
    · rcases List.mem_cons.mp hq with rfl | hq
      · exact ⟨hb, xb.2⟩
      · have := x.nw q (.tail _ (.tail _ hq))
        exact ⟨hs _ _ (Ne.symm (nd.1 q (.tail _ hq))) (Ne.symm (nd2.1 q hq)) this.1, this.2⟩
  · exact List.pairwise_cons.mpr ⟨fun q hq => by
      rcases List.mem_cons.mp hq with rfl | hq
      · exact nd.1 (b, p) (.head _)
      · exact nd.1 q (.tail _ hq), List.pairwise_cons.mpr ⟨fun q hq => nd2.1 q hq, nd2.2⟩⟩
/-- enumerate(list) -/
theorem vEnum {D : Addr} {vs : List Value} {m : Nat} {Q : Value → Shared → Prop} (h1 : s.heap.get? D = some (lstO vs m)) (x : In s₀ L l nw s)
    (h : ∀ e it oi s', s'.heap.IsListIter it D 0 → In s₀ L l ((e, enO it 0 .none) :: (it, oi) :: nw) s' → Q (.ref e) s') : wpAny (model PW w) A (call (.type "enumerate") [.ref D]) Q E s := by
  refine call_enumerate_1 (n := m) h1 fun h' he hit hz hk => ?_
  obtain ⟨oi, hoi, r⟩ := id hit
  have y : In s₀ L l ((s.heap.objs.size, oi) :: nw) { s with heap := h' } := x.more ⟨h', s.toks, rfl, hk⟩ (Heap.get?_none_of_le (Nat.le_refl _)) hoi
  have y2 := x.step (s' := { s with heap := h' }) ⟨h', s.toks, rfl, hk⟩
  refine h _ _ oi _ hit (In.mk y2.same y2.ns y2.keep (fun p hp => ?_) ?_)
  · rcases List.mem_cons.mp hp with rfl | hp
    · refine ⟨he, fun q => ?_, ?_⟩
      · have h := x.lt; dsimp only at q; rw [← q] at h; exact Nat.not_succ_le_self _ (Nat.le_of_lt h)
      · cases q : s₀.heap.get? (s.heap.objs.size + 1) with
        | none => rfl
        | some o' => have := Heap.lt_size (x.keep _ _ q); exact absurd (Nat.le_of_lt this) (Nat.not_succ_le_self _)
    · exact y.nw p hp
  · refine List.pairwise_cons.mpr ⟨fun p hp q => ?_, y.nd⟩
    rcases List.mem_cons.mp hp with rfl | hp
    · exact Nat.succ_ne_self _ q
    · have := Heap.lt_size (x.nw p hp).1; dsimp only at q; rw [← q] at this; exact Nat.not_succ_le_self _ (Nat.le_of_lt this)
theorem iterE {n : Nat} {e it D : Addr} {oi : Obj} {vs : List Value} {m : Nat} (Inv : Nat → σ → Prop) (fl : σ → List (Str × Value)) (fw : σ → List (Addr × Obj)) (a₀ : σ)
    (ee : EnvIs env L sc cl) (fr : s₀.heap.get? L = none) (hx1 : (sc.names.lookup x1 == some .local) = true) (hx2 : (sc.names.lookup x2 == some .local) = true) (R : Rm n A)
    (hit : s.heap.IsListIter it D 0) (x0 : In s₀ L (fl a₀) ((e, enO it 0 .none) :: (it, oi) :: fw a₀) s) (src : s₀.heap.get? D = some (lstO vs m) ∨ ∀ i b, Inv i b → (D, lstO vs m) ∈ fw b) (h0 : Inv 0 a₀)
    (hbody : ∀ (i : Nat) (tk : Tok) v b e' o oi s', vs[i]? = some v → Inv i b → LiO D (i + 1) oi → In s₀ L ((x2, v) :: (x1, .int (i : Int) tk) :: fl b) ((e', o) :: (it, oi) :: fw b) s' →
      wpAny (model PW w) A (execs body env) (loopQ (fun i (c : σ × Obj) => Inv i c.1 ∧ LiO D i c.2) (fun c => fl c.1) (fun c => (it, c.2) :: fw c.1) s₀ L e' o i (fun s => wpAny (model PW w) A (execs rest env) Q E s) Q) (fun _ _ => False) s')
    (hend : ∀ b s', Inv vs.length b → In s₀ L (fl b) (fw b) s' → wpAny (model PW w) A (execs rest env) Q E s') :
    wpAny (model PW w) A (pyIter (.ref e)) (fun it' s₂ => codeAny (model PW w) A (.forLoop (.Tuple [.Name x1 p1, .Name x2 p2] k tp) it' body [] env) (forR (model PW w) A rest env Q E) s₂) E s := by
  have ge0 := (x0.nw _ (.head _)).1
  dsimp only at ge0
  refine wpAny_pyIter_enum ge0 ?_
  have hei : e ≠ it := (List.pairwise_cons.mp x0.nd).1 _ (.head _)
  refine codeAny_forLoop_any (fun q s' => ∃ i a oi old, q = vs.length - i ∧ i ≤ vs.length ∧ Inv i a ∧ In s₀ L (fl a) ((e, enO it i old) :: (it, oi) :: fw a) s' ∧ s'.heap.IsListIter it D i) ?_ vs.length ⟨0, a₀, oi, .none, rfl, Nat.zero_le _, h0, x0, hit⟩
  rintro q s₁ ⟨i, a, oi, old, rfl, hi, hinv, y, hit⟩
  have ge := (y.nw _ (.head _)).1
  have gi := (y.nw _ (.tail _ (.head _))).1
  dsimp only at ge gi
  have gD : s₁.heap.get? D = some (lstO vs m) := by
    rcases src with h | h
    · exact y.keep _ _ h
    · exact (y.nw _ (.tail _ (.tail _ (h i a hinv)))).1
  by_cases hlt : i < vs.length
  · have hv : vs.toArray[i]? = some vs[i] := by simp [hlt]
    refine wpAny_pyNext_enum_item ge hit (isl gD) hv hei fun h1 ge1 hit1 hT hz hk => ?_
    have hltS : ∀ {c ob}, s₁.heap.get? c = some ob → c ≠ s₁.heap.objs.size := fun q => Nat.ne_of_lt (Heap.lt_size q)
    dsimp only
    refine wpAny_letOwnedTupleGo_enum ge1 fun h2 ge2 hs2 => ?_
    have hTe : s₁.heap.objs.size ≠ e := (hltS ge).symm
    have hT2 : Heap.IsTuple h2 s₁.heap.objs.size #[.int i s₁.toks, vs[i]] := ⟨_, (hs2.2 _ hTe).trans hT, rfl, _, rfl⟩
    obtain ⟨oi', goi', rit⟩ := id hit1
    have goi2 : h2.get? it = some oi' := (hs2.2 it hei.symm).trans goi'
    have y2 := y.turn2 (h' := h2) (tk := s₁.toks + 1) (o' := enO it ((i : Int) + 1) vs[i]) (p' := oi') (fun c ob hc hc' q => (hs2.2 c hc).trans (hk c ob hc hc' q)) ge2 goi2
    have hit2 : h2.IsListIter it D (i + 1) := ⟨oi', goi2, rit⟩
    refine wpAny_assign_Tuple R.hd hT2 rfl rfl fun h3 hs3 => ?_
    have y3 := y2.step (s' := { s₁ with heap := h3, toks := s₁.toks + 1 }) ⟨h3, s₁.toks + 1, rfl, fun c ob q => hs3 c ob (Nat.ne_of_lt (Heap.lt_size q)) q⟩
    show wpAny _ _ (assignInOrder [assign (.Name x1 p1) env, assign (.Name x2 p2) env] [.int i s₁.toks, vs[i]]) _ _ _
    refine wpAny_assignInOrder_more (wpAny_assign_Name (rStC ee y3 fr hx1 fun s4 y4 => ?_))
    refine wpAny_assignInOrder_more (wpAny_assign_Name (rStC ee y4 fr hx2 fun s5 y5 => ?_))
    refine wpAny_assignInOrder_none ?_
    refine wpAny_mono (hbody i _ _ a e _ oi' s5 (List.getElem?_eq_getElem hlt) hinv rit y5) (fun f s6 h6 => ?_) fun _ _ z => z.elim
    have again : ∀ (c : σ × Obj), Inv (i + 1) c.1 ∧ LiO D (i + 1) c.2 → In s₀ L (fl c.1) ((e, enO it ((i : Int) + 1) vs[i]) :: (it, c.2) :: fw c.1) s6 → ∃ m, m < vs.length - i ∧ ∃ i' a oi old, m = vs.length - i' ∧ i' ≤ vs.length ∧ Inv i' a ∧ In s₀ L (fl a) ((e, enO it i' old) :: (it, oi) :: fw a) s6 ∧ s6.heap.IsListIter it D i' := by
      intro c hc z
      exact ⟨vs.length - (i + 1), sbl hlt, i + 1, c.1, c.2, vs[i], rfl, hlt, hc.1, z, c.2, (z.nw _ (.tail _ (.head _))).1, hc.2⟩
    cases f with
    | next => obtain ⟨c, q1, q2⟩ := h6; exact again c q1 q2
    | cont => obtain ⟨c, q1, q2⟩ := h6; exact again c q1 q2
    | brk => exact h6
    | ret v => exact h6
  · have hin : i = vs.length := by omega
    subst hin
    refine wpAny_pyNext_enum_end R.hd ge hit (isl gD) (by simp) fun h1 hs1 => ?_
    exact xNil (hend a _ hinv ((y.drop (List.sublist_cons_self _ _)).dropExt fun b o hb q => hs1 b o hb q))
theorem vTruT {Q : Bool → Shared → Prop} {D : Addr} {vs : List Value} (h1 : s.heap.get? D = some (tupO vs)) (hz : vs.length ≤ 100000) (x : In s₀ L l nw s) (h : ∀ s', In s₀ L l nw s' → Q (!vs.isEmpty) s') :
    wpAny (model PW w) A (truthy (.ref D)) Q E s := truthy_tuple (ist h1) (by simp; omega) (by
    have e : vs.toArray.isEmpty = vs.isEmpty := by cases vs <;> rfl
    rw [e]; exact h _ (x.tok _))
theorem tIxT {D : Addr} {vs : List Value} {v : Value} {i : Int} {t : Tok} {value slice : PySem.Expr} {Q : Value → Shared → Prop} (h1 : s.heap.get? D = some (tupO vs)) (h0 : 0 ≤ i) (hz : vs.length ≤ 100000) (hv : vs[i.toNat]? = some v) (h : Q v s)
    (hs : subscripted slice false (.ref D) (.int i t) = operate [.ref D, .int i t] (getItem (.ref D) (.int i t))) :
    wpAny (model PW w) A (subscriptTail value slice (.ref D) (.int i t)) Q E s := by
  have hlt : i.toNat < vs.length := by
    rcases Nat.lt_or_ge i.toNat vs.length with q | q
    · exact q
    · rw [List.getElem?_eq_none q] at hv; cases hv
  exact tail_any ((ist h1).typeIs) PyProof.Rows.slot_tuple_getitem.lookup (PyProof.Rows.getItem_tuple (j := i.toNat) (ist h1) (by omega) (by omega) (by rw [seqIndex_of h0 (by simp; omega)]) (by simpa using hv) h) hs
end
end
section
set_option maxRecDepth 100000
/-- all things of a heap but one -/
noncomputable def allN (h : Heap) (L : Addr) : List (Addr × Obj) := (List.range h.objs.size).filterMap fun b => if b = L then none else (h.get? b).map fun o => (b, o)
theorem allN_mem {h : Heap} {L : Addr} {b : Addr} {o : Obj} (hb : b ≠ L) (e : h.get? b = some o) : (b, o) ∈ allN h L := by
  unfold allN
  rw [List.mem_filterMap]
  exact ⟨b, List.mem_range.mpr (Heap.lt_size e), by rw [if_neg hb, e]; rfl⟩
theorem allN_of {h : Heap} {L : Addr} {p : Addr × Obj} (hp : p ∈ allN h L) : p.1 ≠ L ∧ h.get? p.1 = some p.2 := by
  unfold allN at hp
  rw [List.mem_filterMap] at hp
  obtain ⟨b, hb, e⟩ := hp
  split at e
  · cases e
  · rename_i hne
    obtain ⟨o, ho, rfl⟩ := Option.map_eq_some_iff.mp e
    exact ⟨hne, ho⟩
theorem none_get (b : Addr) : ({} : Heap).get? b = none := by unfold Heap.get?; simp
section
variable {w : World} {A : Around} {E : Value → Shared → Prop} {s₀ s : Shared} {L : Addr} {l : List (Str × Value)} {nw : List (Addr × Obj)} {m : Str → Option Value}
/-- the ledger, from the heap's own frame -/
theorem In.ofAll (x : In s₀ L l nw s) (hm : Has m l) {h' : Heap} {tk : Nat} {xs : List (Addr × Obj)} (F : Fr {} L h' m) (N : News {} L h' (xs ++ allN s.heap L)) (hL : s₀.heap.get? L = none) : In s₀ L l nw { s with heap := h', toks := tk } := by
  have k : ∀ b o, b ≠ L → s.heap.get? b = some o → h'.get? b = some o := fun b o hb e => (N (b, o) (List.mem_append_right _ (allN_mem hb e))).1
  refine ⟨by obtain ⟨h, tk', e⟩ := x.same; exact ⟨h', tk, by rw [e]⟩, ⟨m, F.ns, hm⟩, fun b o e => k b o (fun q => by subst q; rw [hL] at e; cases e) (x.keep b o e), fun p hp => ?_, x.nd⟩
  have := x.nw p hp
  exact ⟨k _ _ this.2.1 this.1, this.2⟩
noncomputable abbrev KLb (c : Nat → Nat → Bool) : Nat → Nat → Prop := KLex c
set_option maxHeartbeats 1000000 in
/-- a new list, sorted in its place by a key: two to seven things with texts for keys -/
theorem sortT2 {f : Value} {vs : List Value} {ks : List (List Nat)} {Q : PySem.Fin → Shared → Prop} (h2 : 2 ≤ vs.length) (h7 : vs.length ≤ 7) (hkl : ks.length = vs.length) (x : In s₀ L l nw s) (hL : s₀.heap.get? L = none)
    (ha2 : ∀ x, argsOk "list.sort" ⟨[.ref x], [("key", f)]⟩) (ht : ∀ x, Builtin.«list.sort» ⟨[.ref x], [("key", f)]⟩ = ksk_tree x f false)
    (hf : ∀ (i : Nat) v k s' (Q' : Value → Shared → Prop), vs[i]? = some v → ks[i]? = some k → In s₀ L l nw s' → (∀ t s'', Keeps s' s'' → Q' (.str (S k) t) s'') → wpAny (model PW w) A.in1.in1 (call f [v]) Q' (fun _ _ => False) s')
    (h : ∀ a (p : List Nat) c s', p.length = vs.length → (∀ x ∈ p, x < vs.length) → p.Pairwise (KLex fun i j => decide (ks.getD i [] < ks.getD j [])) → In s₀ L l ((a, lstO (p.map fun i => vs.getD i .none) c) :: nw) s' → Q (.done (.ret (.ref a))) s') :
    wpAny (model PW w) A.in1 (newList vs >>= fun l => holding [l] (call (.builtin "list.sort") [l] [("key", f)]) >>= fun _ => ret l) Q E s := by
  obtain ⟨m, hns, hm⟩ := x.ns
  have F0 : Fr {} L s.heap m := ⟨hns, fun b o e => (by rw [none_get] at e; cases e), Nat.zero_le _⟩
  have N0 : News {} L s.heap (allN s.heap L) := fun p hp => let q := allN_of hp; ⟨q.2, q.1, none_get _⟩
  refine wpAny_bind (wpAny_newList ?_ (by rw [sizeLine_eq]; omega))
  have hoL : (s.heap.push (seqObj "list" vs.toArray 0)).get? s.heap.objs.size = some (seqObj "list" vs.toArray 0) := Heap.get?_push_size _ rfl
  have hLl : L < s.heap.objs.size := F0.ns.lt
  have l1 : ∀ p ∈ allN s.heap L, p.1 < s.heap.objs.size := fun p hp => Heap.lt_size (N0 p hp).1
  have keepP : ∀ b o, s.heap.get? b = some o → (s.heap.push (seqObj "list" vs.toArray 0)).get? b = some o := fun b o q => Heap.get?_push_of_some _ q
  refine wpAny_bind (wpAny_holding (wpAny_call_entry_kw slot_list_sort ⟨_, hoL, rfl⟩ entry_list_sort ?body (ha2 _)))
  case body =>
  show wpAny (model PW w) A.in1.in1 (Builtin.«list.sort» ⟨[.ref s.heap.objs.size], [("key", f)]⟩) _ _ _
  rw [ht]
  refine kat_keyed (s := { s with heap := s.heap.push (seqObj "list" vs.toArray 0) }) (F0.kept keepP) (N0.grown keepP) hoL (Nat.ne_of_gt hLl) (none_get _) (fun p hp => Nat.ne_of_lt (l1 p hp)) h2 (by omega) fun kS e1 h' F' N' l0 _ => ?_
  refine kat_keys_mono (Fin := fun ks' e s' => wpAny (model PW w) A.in1.in1 (keyKind' (List.toArray ks')) (fun κ s'' => (kas_sort vs.length).kasWp (kas_ask PW w A.in1.in1 κ (katRev false ks')) (fun p s3 => KatFin {} L m kS s.heap.objs.size ks' e e1 (katRev false (p.toList.map fun i => (katRev false vs).getD i Value.none)) (fun s4 => Q (.done (.ret (.ref s.heap.objs.size))) s4) s3) s'') (fun _ _ => False) s') ?_ fun ks' e s' hl' hd => ?_
  rotate_left
  · have hl2 : ks'.length = vs.length := by simpa using hl'
    refine wpAny_mono hd (fun κ s'' hk => ?_) fun _ _ x => x
    rw [kat_ask_eq (vs := katRev false vs) (by rw [kat_len, kat_len, hl2])] at hk ⊢
    exact kas_wp_mono hk fun p s3 hk' => hk'.mono fun s4 hq => ⟨_, rfl, wpAny_pure hq⟩
  generalize s.heap.objs.size = D' at *
  have U1 : ∀ {o o' : Obj}, UpdF kS o ((kS, o) :: (D', o') :: allN s.heap L) (fun o2 => (kS, o2) :: (D', o') :: allN s.heap L) := fun {o o'} => .head fun p hp => by
    rcases List.mem_cons.mp hp with rfl | hp
    · exact Nat.ne_of_lt l0
    · exact Nat.ne_of_lt (Nat.lt_trans (l1 p hp) l0)
  have keys : ∀ (rest : List Value) (i : Nat) (done : List Value) (e : Nat) (h' : Heap) (tk : Nat), i + rest.length = vs.length → (∀ j : Nat, rest[j]? = vs[i + j]?) → Txs done (ks.take i) → Fr {} L h' m →
      News {} L h' ((kS, seqObj "list" (List.toArray done) e) :: (D', seqObj "list" #[] e1) :: allN s.heap L) →
      KatKeys PW w A.in1.in1 {} L m kS f (fun ks' e s' => wpAny (model PW w) A.in1.in1 (keyKind' (List.toArray ks')) (fun κ s'' => (kas_sort vs.length).kasWp (kas_ask PW w A.in1.in1 κ (katRev false ks')) (fun p s3 => KatFin {} L m kS D' ks' e e1 (katRev false (p.toList.map fun i => (katRev false vs).getD i Value.none)) (fun s4 => Q (.done (.ret (.ref D'))) s4) s3) s'') (fun _ _ => False) s')
        rest done e { s with heap := h', toks := tk } := by
    intro rest
    induction rest with
    | nil =>
      intro i done e h' tk hi hr hd F N
      refine KatKeys.nil ?_
      have hin : i = ks.length := by simp at hi; omega
      rw [hin, List.take_length] at hd
      have hdl : done.length = vs.length := by rw [hd.1, hkl]
      obtain ⟨v1, v2, dr, hdr⟩ : ∃ v1 v2 dr, done = v1 :: v2 :: dr := by
        match done, hdl with
        | v1 :: v2 :: dr, _ => exact ⟨v1, v2, dr, rfl⟩
        | [_], q => simp at q; omega
        | [], q => simp at q; omega
      have hkk : keyKind' (List.toArray done) = pure oneType' := by
        have := hd.are
        rw [hdr] at this ⊢
        exact keyKind_strs this
      rw [hkk]
      refine wpAny_pure ?_
      refine kas_stable (c := fun i j => decide (ks.getD i [] < ks.getD j [])) (fun i => by simpa using List.lt_irrefl _) (fun i j k h1 h2 => ?_) (fun i j h1 => ?_) h7 (fun i j C hi hj hC => ?_) (fun p p1 p2 p3 => ?_)
      · simp only [decide_eq_false_iff_not, List.not_lt] at h1 h2 ⊢
        exact List.le_trans h2 h1
      · simp only [decide_eq_true_eq, decide_eq_false_iff_not] at h1 ⊢
        exact fun q => List.lt_irrefl _ (List.lt_trans h1 q)
      · have hgi : ∀ i, i < vs.length → ∃ t, done.getD i Value.none = .str (S (ks.getD i [])) t := fun i hi => by
          obtain ⟨t, ht⟩ := hd.get (List.getElem?_eq_getElem (show i < ks.length by omega))
          exact ⟨t, by rw [List.getD_eq_getElem?_getD, ht, List.getD_eq_getElem?_getD, List.getElem?_eq_getElem (show i < ks.length by omega)]; rfl⟩
        obtain ⟨t, e1⟩ := hgi i hi
        obtain ⟨u, e2⟩ := hgi j hj
        unfold kas_ask katRev
        rw [if_neg (by decide), e1, e2]
        refine kas_lt_str ?_
        rw [S_toList, S_toList]
        exact hC
      · refine KatFin.intro F N U1 fun h3 c F3 N3 => ?_
        have U2 : UpdF D' (seqObj "list" #[] e1) ((kS, seqObj "list" #[] c) :: (D', seqObj "list" #[] e1) :: allN s.heap L) (fun o2 => (kS, seqObj "list" #[] c) :: (D', o2) :: allN s.heap L) :=
          .tail (Nat.ne_of_gt l0) (.head fun p hp => Nat.ne_of_lt (l1 p hp))
        refine KasFin.intro F3 N3 U2 fun h4 c4 F4 N4 => ?_
        have y := x.ofAll (xs := [_, _]) (tk := tk) hm F4 N4 hL
        have gD := N4 _ (.tail _ (.head _))
        have nD : s.heap.get? D' = none := by
          cases q : s.heap.get? D' with
          | none => rfl
          | some o => exact absurd (l1 _ (allN_mem gD.2.1 q)) (Nat.lt_irrefl _)
        refine h D' p.toList c4 _ p1 p2 p3 ⟨y.same, y.ns, y.keep, fun z hz => ?_, ?_⟩
        · rcases List.mem_cons.mp hz with rfl | hz
          · refine ⟨gD.1, gD.2.1, ?_⟩
            cases q : s₀.heap.get? D' with
            | none => rfl
            | some o => have := x.keep _ _ q; rw [nD] at this; cases this
          · exact y.nw z hz
        · refine List.pairwise_cons.mpr ⟨fun z hz q => ?_, y.nd⟩
          have := (x.nw z hz).1
          dsimp only at q
          rw [← q, nD] at this; cases this
    | cons v rest ih =>
      intro i done e h' tk hi hr hd F N
      have hv : vs[i]? = some v := by have := hr 0; simpa using this.symm
      have hil : i < ks.length := by simp at hi; omega
      refine KatKeys.cons ?_
      refine hf i v _ _ _ hv (List.getElem?_eq_getElem hil) (x.ofAll (xs := [_, _]) hm F N hL) fun t s'' k => ?_
      obtain ⟨h2, tk2, rfl, hk⟩ := k
      refine KatBack.intro (F.kept hk) (fun p hp => ⟨hk _ _ (N p hp).1, (N p hp).2⟩) U1 fun h3 c F3 N3 => ?_
      refine ih (i + 1) (done ++ [.str (S ks[i]) t]) c h3 tk2 (by simp at hi; omega) (fun j => by have := hr (j + 1); rw [show i + 1 + j = i + (j + 1) by omega, ← this]; rfl) ?_ F3 N3
      rw [List.take_succ_eq_append_getElem hil]
      exact hd.snoc
  exact keys vs 0 [] 0 h' s.toks (by simp) (fun j => by simp) Txs.nil F' N'
/-- what the ledger gains with the sorted list -/
theorem In.sorted (x : In s₀ L l nw s) (hm : Has m l) (hL : s₀.heap.get? L = none) {D' kS : Addr} {h4 : Heap} {tk : Nat} {o o' : Obj} (N4 : News {} L h4 ((kS, o) :: (D', o') :: allN s.heap L)) (F4 : Fr {} L h4 m) (hD : s.heap.get? D' = none) :
    In s₀ L l ((D', o') :: nw) { s with heap := h4, toks := tk } := by
  have y := x.ofAll (xs := [_, _]) (tk := tk) hm F4 N4 hL
  have gD := N4 _ (.tail _ (.head _))
  refine ⟨y.same, y.ns, y.keep, fun z hz => ?_, ?_⟩
  · rcases List.mem_cons.mp hz with rfl | hz
    · refine ⟨gD.1, gD.2.1, ?_⟩
      cases q : s₀.heap.get? D' with
      | none => rfl
      | some o => have := x.keep _ _ q; rw [hD] at this; cases this
    · exact y.nw z hz
  · refine List.pairwise_cons.mpr ⟨fun z hz q => ?_, y.nd⟩
    have := (x.nw z hz).1
    dsimp only at q
    rw [← q, hD] at this; cases this
set_option maxHeartbeats 1000000 in
theorem sortT1 {f : Value} {v : Value} {k : List Nat} {Q : PySem.Fin → Shared → Prop} (x : In s₀ L l nw s) (hL : s₀.heap.get? L = none)
    (ha2 : ∀ x, argsOk "list.sort" ⟨[.ref x], [("key", f)]⟩) (ht : ∀ x, Builtin.«list.sort» ⟨[.ref x], [("key", f)]⟩ = ksk_tree x f false)
    (hf : ∀ s' (Q' : Value → Shared → Prop), In s₀ L l nw s' → (∀ t s'', Keeps s' s'' → Q' (.str (S k) t) s'') → wpAny (model PW w) A.in1.in1 (call f [v]) Q' (fun _ _ => False) s')
    (h : ∀ a c s', In s₀ L l ((a, lstO [v] c) :: nw) s' → Q (.done (.ret (.ref a))) s') :
    wpAny (model PW w) A.in1 (newList [v] >>= fun l => holding [l] (call (.builtin "list.sort") [l] [("key", f)]) >>= fun _ => ret l) Q E s := by
  obtain ⟨m, hns, hm⟩ := x.ns
  have F0 : Fr {} L s.heap m := ⟨hns, fun b o e => (by rw [none_get] at e; cases e), Nat.zero_le _⟩
  have N0 : News {} L s.heap (allN s.heap L) := fun p hp => let q := allN_of hp; ⟨q.2, q.1, none_get _⟩
  have hlt : ∀ p ∈ allN s.heap L, p.1 < s.heap.objs.size := fun p hp => Heap.lt_size (allN_of hp).2
  have hLs : L < s.heap.objs.size := F0.ns.lt
  have hD : s.heap.get? s.heap.objs.size = none := Heap.get?_none_of_le (Nat.le_refl _)
  refine wpAny_bind (wpAny_newList ?_ (by rw [sizeLine_eq]; simp))
  have keep : ∀ b o, s.heap.get? b = some o → (s.heap.push (seqObj "list" #[v] 0)).get? b = some o := fun b o q => Heap.get?_push_of_some _ q
  have hoZ : (s.heap.push (seqObj "list" #[v] 0)).get? s.heap.objs.size = some (seqObj "list" #[v] 0) := Heap.get?_push_size _ rfl
  show wpAny _ _ _ _ _ { s with heap := s.heap.push (seqObj "list" #[v] 0) }
  generalize hH : s.heap.push (seqObj "list" #[v] 0) = H at keep hoZ
  have hZL : s.heap.objs.size ≠ L := Nat.ne_of_gt hLs
  have hZn : ∀ p ∈ allN s.heap L, p.1 ≠ s.heap.objs.size := fun p hp => Nat.ne_of_lt (hlt p hp)
  generalize s.heap.objs.size = Z at *
  have F1 := F0.kept keep
  have N1 : News {} L H (allN s.heap L) := fun p hp => ⟨keep _ _ (N0 p hp).1, (N0 p hp).2⟩
  refine wpAny_bind (wpAny_holding (wpAny_call_entry_kw slot_list_sort ⟨_, hoZ, rfl⟩ entry_list_sort ?body (ha2 _)))
  case body =>
    show wpAny (model PW w) A.in1.in1 (Builtin.«list.sort» ⟨[.ref Z], [("key", f)]⟩) _ _ _
    rw [ht Z]
    have s1 := Heap.SameBut.update H Z (Obj.mapSeq fun _ => (#[] : Array Value))
    obtain ⟨e1, ho1⟩ : ∃ e1, (H.update Z (Obj.mapSeq fun _ => (#[] : Array Value))).get? Z = some (seqObj "list" #[] e1) := ⟨_, get?_update_seq hoZ fun _ => #[]⟩
    have F2 := kas_fr F1 s1 hZL (none_get _)
    have N2 := kas_news N1 s1 hZn
    unfold ksk_tree
    refine wpAny_bind (listItems_at hoZ rfl ?_)
    refine wpAny_bind (listUpdate_at hoZ rfl ?_ (by rw [sizeLine_eq]; simp) (Nat.zero_le _))
    refine wpAny_bind (seqEpoch_at ho1 rfl ?_)
    refine wpAny_bind (wpAny_newTuple ?_ (by rw [sizeLine_eq]; simp))
    refine wpAny_bind (wpAny_newList ?_ (Nat.zero_le _))
    refine wpAny_holding ?_
    generalize hH2 : H.update Z (Obj.mapSeq fun _ => (#[] : Array Value)) = H2 at *
    have F3 := (F2.push (seqObj "tuple" [v].toArray 0)).push (seqObj "list" #[] 0)
    have hZ2 : Z < (H2.push (seqObj "tuple" [v].toArray 0)).objs.size := Nat.lt_of_lt_of_le (Heap.lt_size ho1) (by rw [size_push']; exact Nat.le_succ _)
    have hLk : L < (H2.push (seqObj "tuple" [v].toArray 0)).objs.size := (F2.push _).ns.lt
    have gk := Heap.get?_push_size (H2.push (seqObj "tuple" [v].toArray 0)) (o := seqObj "list" #[] 0) rfl
    have N3 : News {} L ((H2.push (seqObj "tuple" [v].toArray 0)).push (seqObj "list" #[] 0)) (((H2.push (seqObj "tuple" [v].toArray 0)).objs.size, seqObj "list" #[] 0) :: (Z, seqObj "list" #[] e1) :: allN s.heap L) := by
      intro p hp
      rcases List.mem_cons.mp hp with rfl | hp
      · exact ⟨gk, Nat.ne_of_gt hLk, none_get _⟩
      · rcases List.mem_cons.mp hp with rfl | hp
        · exact ⟨Heap.get?_push_of_some _ (Heap.get?_push_of_some _ ho1), hZL, none_get _⟩
        · exact ⟨Heap.get?_push_of_some _ (Heap.get?_push_of_some _ (N2 p hp).1), (N2 p hp).2⟩
    have hkn : ∀ p ∈ allN s.heap L, p.1 ≠ (H2.push (seqObj "tuple" [v].toArray 0)).objs.size := fun p hp => by
      have : p.1 < H2.objs.size := Heap.lt_size (N2 p hp).1
      rw [size_push']; exact Nat.ne_of_lt (Nat.lt_succ_of_lt this)
    show wpAny _ _ (ksk_rest Z f false #[v] e1 (.ref (H2.push (seqObj "tuple" [v].toArray 0)).objs.size)) _ _ { s with heap := (H2.push (seqObj "tuple" [v].toArray 0)).push (seqObj "list" #[] 0) }
    generalize (H2.push (seqObj "tuple" [v].toArray 0)).push (seqObj "list" #[] 0) = H3 at *
    generalize (H2.push (seqObj "tuple" [v].toArray 0)).objs.size = kS at *
    have U1 : ∀ {o o' : Obj}, UpdF kS o ((kS, o) :: (Z, o') :: allN s.heap L) (fun o2 => (kS, o2) :: (Z, o') :: allN s.heap L) := fun {o o'} => .head fun p hp => by
      rcases List.mem_cons.mp hp with rfl | hp
      · exact Nat.ne_of_lt hZ2
      · exact hkn p hp
    unfold ksk_rest
    refine wpAny_bind (wpAny_rule ?_)
    show wpAny _ _ (forIn (#[v] : Array Value) PUnit.unit _ >>= _) _ _ _
    rw [← Array.forIn_toList]
    show wpAny _ _ (forIn [v] PUnit.unit _ >>= _) _ _ _
    rw [List.forIn_cons]
    refine wpAny_bind (wpAny_bind ?_)
    refine wpAny_bind (wpAny_attempt (wpAny_mono (hf { s with heap := H3 } _ (x.ofAll (xs := [_, _]) (tk := s.toks) hm F3 N3 hL) fun t s'' kq => ?_) (fun _ _ q => q) fun _ _ z => z.elim))
    obtain ⟨h4, tk4, rfl, hk4⟩ := kq
    have F4 := F3.kept hk4
    have g4 := hk4 _ _ gk
    have s5 := Heap.SameBut.update h4 kS (Obj.mapSeq (·.push (Value.str (S k) t)))
    obtain ⟨c5, g5⟩ : ∃ c5, (h4.update kS (Obj.mapSeq (·.push (Value.str (S k) t)))).get? kS = some (seqObj "list" #[Value.str (S k) t] c5) := ⟨_, get?_update_seq g4 (·.push (Value.str (S k) t))⟩
    have F5 := kas_fr F4 s5 (Nat.ne_of_gt hLk) (none_get _)
    have N5 : News {} L (h4.update kS (Obj.mapSeq (·.push (Value.str (S k) t)))) ((kS, seqObj "list" #[Value.str (S k) t] c5) :: (Z, seqObj "list" #[] e1) :: allN s.heap L) := by
      intro p hp
      rcases List.mem_cons.mp hp with rfl | hp
      · exact ⟨g5, Nat.ne_of_gt hLk, none_get _⟩
      · have q := N3 p (.tail _ hp)
        refine ⟨(s5.2 _ ?_).trans (hk4 _ _ q.1), q.2⟩
        rcases List.mem_cons.mp hp with rfl | hp
        · exact Nat.ne_of_lt hZ2
        · exact hkn p hp
    dsimp only
    refine wpAny_bind (listUpdate_at g4 rfl ?_ (by rw [sizeLine_eq]; simp) (by rw [sizeLine_eq]; simp))
    refine wpAny_pure ?_
    dsimp only
    rw [List.forIn_nil]
    refine wpAny_pure ?_
    refine wpAny_bind (listItems_at g5 rfl ?_)
    unfold ksk_end
    have hzip : (#[Value.str (S k) t] : Array Value).zip #[v] = #[(Value.str (S k) t, v)] := by simp
    have hlt1 : (#[v] : Array Value).size < 2 := by simp
    dsimp only
    rw [hzip, if_neg (by decide), if_pos hlt1, if_pos hlt1, if_neg (by decide)]
    refine wpAny_bind (wpAny_pure ?_)
    refine wpAny_bind (m := StateT.run (pure () : StateT SortSt Sem Unit) _) (wpAny_pure ?_)
    refine kat_tail (h₀ := {}) (L := L) (m := m) (e := c5) (ks := [Value.str (S k) t]) (out := [v]) (show (#[(Value.str (S k) t, v)] : Array Keyed).map (·.2) = #[v] by simp) (by simp) (by simp) rfl ?_
    refine KatFin.intro F5 N5 U1 fun h6 c6 F6 N6 => ?_
    have U2 : UpdF Z (seqObj "list" #[] e1) ((kS, seqObj "list" #[] c6) :: (Z, seqObj "list" #[] e1) :: allN s.heap L) (fun o2 => (kS, seqObj "list" #[] c6) :: (Z, o2) :: allN s.heap L) :=
      .tail (Nat.ne_of_gt hZ2) (.head fun p hp => hZn p hp)
    refine KasFin.intro F6 N6 U2 fun h7 c7 F7 N7 => ?_
    exact ⟨_, rfl, wpAny_pure (h Z c7 _ (x.sorted hm hL N7 F7 hD))⟩
/-- a new list, sorted in its place by a key: one to seven things -/
theorem sortT {f : Value} {vs : List Value} {ks : List (List Nat)} {Q : PySem.Fin → Shared → Prop} (h2 : 1 ≤ vs.length) (h7 : vs.length ≤ 7) (hkl : ks.length = vs.length) (x : In s₀ L l nw s) (hL : s₀.heap.get? L = none)
    (ha2 : ∀ x, argsOk "list.sort" ⟨[.ref x], [("key", f)]⟩) (ht : ∀ x, Builtin.«list.sort» ⟨[.ref x], [("key", f)]⟩ = ksk_tree x f false)
    (hf : ∀ (i : Nat) v k s' (Q' : Value → Shared → Prop), vs[i]? = some v → ks[i]? = some k → In s₀ L l nw s' → (∀ t s'', Keeps s' s'' → Q' (.str (S k) t) s'') → wpAny (model PW w) A.in1.in1 (call f [v]) Q' (fun _ _ => False) s')
    (h : ∀ a (p : List Nat) c s', p.length = vs.length → (∀ x ∈ p, x < vs.length) → p.Pairwise (KLex fun i j => decide (ks.getD i [] < ks.getD j [])) → In s₀ L l ((a, lstO (p.map fun i => vs.getD i .none) c) :: nw) s' → Q (.done (.ret (.ref a))) s') :
    wpAny (model PW w) A.in1 (newList vs >>= fun l => holding [l] (call (.builtin "list.sort") [l] [("key", f)]) >>= fun _ => ret l) Q E s := by
  match vs, h2, h7, hkl, hf, h with
  | [v], h2, h7, hkl, hf, h =>
    match ks, hkl with
    | [k], _ =>
      exact sortT1 (k := k) x hL ha2 ht (fun s' Q' x' hq => hf 0 v k s' Q' rfl rfl x' hq) fun a c s' x' => h a [0] c s' rfl (by simp) (List.pairwise_singleton ..) x'
  | v :: v2 :: r, h2, h7, hkl, hf, h => exact sortT2 (by simp) h7 hkl x hL ha2 ht hf h
/-- sorted(list, key=f) -/
theorem sortKL {f : Value} {D : Addr} {vs : List Value} {n : Nat} {ks : List (List Nat)} {Q : Value → Shared → Prop} (h1 : s.heap.get? D = some (lstO vs n)) (h2 : 1 ≤ vs.length) (h7 : vs.length ≤ 7) (hkl : ks.length = vs.length) (x : In s₀ L l nw s) (hL : s₀.heap.get? L = none)
    (ha1 : argsOk "sorted" ⟨[.ref D], [("key", f)]⟩) (ha2 : ∀ x, argsOk "list.sort" ⟨[.ref x], [("key", f)]⟩) (ht : ∀ x, Builtin.«list.sort» ⟨[.ref x], [("key", f)]⟩ = ksk_tree x f false)
    (hf : ∀ (i : Nat) v k s' (Q' : Value → Shared → Prop), vs[i]? = some v → ks[i]? = some k → In s₀ L l nw s' → (∀ t s'', Keeps s' s'' → Q' (.str (S k) t) s'') → wpAny (model PW w) A.in1.in1 (call f [v]) Q' (fun _ _ => False) s')
    (h : ∀ a (p : List Nat) c s', p.length = vs.length → (∀ x ∈ p, x < vs.length) → p.Pairwise (KLex fun i j => decide (ks.getD i [] < ks.getD j [])) → In s₀ L l ((a, lstO (p.map fun i => vs.getD i .none) c) :: nw) s' → Q (.ref a) s') :
    wpAny (model PW w) A (call (.builtin "sorted") [.ref D] [("key", f)]) Q E s := by
  refine call_function_entry_kw kind_sorted plain_sorted entry_sorted ha1 ?_
  unfold Builtin.«sorted»
  refine wpAny_bind (m := checkCount "sorted" 1 1 _) (wpAny_pure ?_)
  refine wpAny_bind (collect_list (isl h1) ?_ (by rw [sizeLine_eq]; omega))
  have y := x.step (s' := { s with heap := (s.heap.push (seqObj "list" #[] 0)).update s.heap.objs.size (Obj.mapSeq (· ++ vs.toArray)) }) ⟨_, s.toks, rfl, fun b o q => by
    rw [Heap.get?_update_ne _ _ _ _ (Nat.ne_of_lt (Heap.lt_size q))]
    exact Heap.get?_push_of_some _ q⟩
  exact sortT h2 h7 hkl y hL ha2 ht hf fun a p c s' p1 p2 p3 x' => ⟨_, rfl, h a p c s' p1 p2 p3 x'⟩
theorem collectCode {R : Result → Shared → Prop} {r m : Nat} {t u v : Tok} (hh : A.handled = none) (hr : s.heap.get? r = some (rngO (m : Int) t u v)) (hm : m ≤ 1000)
    (h : ∀ h' tk acc' c', Keep s.heap h' → h'.get? s.heap.objs.size = some { cls := .type "list", dict := none, data := .seq acc' c', slots := #[] } → ItemsOf (fun i v => ∃ t, v = .int (0 + (i : Int) * 1) t) acc' m → R (.ok (.ret (.ref s.heap.objs.size))) { s with heap := h', toks := tk }) :
    codeAny (model PW w) A (.builtin "proto.collect" ⟨[.ref r], []⟩) R s := by
  have hsz : Builtin.Range.rangeSize 0 (m : Int) 1 = (m : Int) := by
    rw [rangeSize_one]; split <;> omega
  refine codeAny_builtin F.entry_proto_collect ?_
  rw [Around.under_plainId F.plain_proto_collect _]
  show wpAny _ A.in1 (newList [] >>= fun l => again (.builtin "list.__iadd__" ⟨[l, .ref r], []⟩)) _ _ s
  refine wpAny_bind (wpAny_newObj_type ?_)
  refine wpAny_pure ⟨plainId_quiet F.plain_list_iadd _, codeAny_builtin F.entry_list_iadd ?_⟩
  rw [Around.under_plainId F.plain_list_iadd _]
  show wpAny _ A.in1 (Builtin.List.listExtendWith (.ref s.heap.objs.size) (.ref r) (.ref s.heap.objs.size)) _ _ _
  exact wpAny_extend_range (A := A) (R := R) (s := { s with heap := s.heap.push { cls := .type "list", data := .seq ([] : List Value).toArray } }) (n := m) hh (Heap.get?_push_of_some _ hr) (small_m (by omega) hsz) hsz (by omega) s.heap.objs.size _ 0 (Heap.get?_push_size _ rfl)
    fun h' tk acc' c' hk hS hacc => h h' tk acc' c' (fun b o q => hk b o (Nat.ne_of_lt (Heap.lt_size q)) (Heap.get?_push_of_some _ q)) hS hacc
theorem collectR {r m : Nat} {t u v : Tok} {Q : List Value → Shared → Prop} (hh : A.handled = none) (hr : s.heap.get? r = some (rngO (m : Int) t u v)) (hm : m ≤ 1000)
    (h : ∀ vs h' tk, vs.length = m → (∀ (i : Nat) x, vs[i]? = some x → ∃ t, x = .int (i : Int) t) → Keep s.heap h' → Q vs { s with heap := h', toks := tk }) : wpAny (model PW w) A (collect (.ref r)) Q E s := by
  unfold collect
  refine wpAny_bind (wpAny_runValue (collectCode hh hr hm fun h' tk acc' c' hk hS hacc => ?_))
  refine wpAny_bind (wpAny_load hS ?_)
  refine wpAny_pure (h acc'.toList h' tk (by rw [Array.length_toList]; exact hacc.1) (fun i x hx => ?_) hk)
  obtain ⟨t, ht⟩ := hacc.2 i x (by rw [← hx]; simp)
  exact ⟨t, by rw [ht]; congr 1; omega⟩
/-- sorted(range(m), key=f) -/
theorem sortKR {f : Value} {r m : Nat} {t u v : Tok} {ks : List (List Nat)} {Q : Value → Shared → Prop} (hh : A.handled = none) (h1 : s.heap.get? r = some (rngO (m : Int) t u v)) (h2 : 1 ≤ m) (h7 : m ≤ 7) (hkl : ks.length = m) (x : In s₀ L l nw s) (hL : s₀.heap.get? L = none)
    (ha1 : argsOk "sorted" ⟨[.ref r], [("key", f)]⟩) (ha2 : ∀ x, argsOk "list.sort" ⟨[.ref x], [("key", f)]⟩) (ht : ∀ x, Builtin.«list.sort» ⟨[.ref x], [("key", f)]⟩ = ksk_tree x f false)
    (hf : ∀ (i : Nat) t k s' (Q' : Value → Shared → Prop), ks[i]? = some k → In s₀ L l nw s' → (∀ t s'', Keeps s' s'' → Q' (.str (S k) t) s'') → wpAny (model PW w) A.in1.in1 (call f [.int (i : Int) t]) Q' (fun _ _ => False) s')
    (h : ∀ a (p : List Nat) ws c s', p.length = m → (∀ x ∈ p, x < m) → p.Pairwise (KLex fun i j => decide (ks.getD i [] < ks.getD j [])) → IntsAre ws (p.map fun i : Nat => (i : Int)) → In s₀ L l ((a, lstO ws c) :: nw) s' → Q (.ref a) s') :
    wpAny (model PW w) A (call (.builtin "sorted") [.ref r] [("key", f)]) Q E s := by
  refine call_function_entry_kw kind_sorted plain_sorted entry_sorted ha1 ?_
  unfold Builtin.«sorted»
  refine wpAny_bind (m := checkCount "sorted" 1 1 _) (wpAny_pure ?_)
  refine wpAny_bind (collectR hh h1 (by omega) fun vs h' tk hvl hvi hk => ?_)
  have y := x.step (s' := { s with heap := h', toks := tk }) ⟨h', tk, rfl, hk⟩
  refine sortT (ks := ks) (by omega) (by omega) (by omega) y hL ha2 ht (fun i v k s' Q' hv hk' x' hq => ?_) fun a p c s' p1 p2 p3 x' => ⟨_, rfl, ?_⟩
  · obtain ⟨t, rfl⟩ := hvi i v hv
    exact hf i t k s' Q' hk' x' hq
  · refine h a p _ c s' (by omega) (fun z hz => by have := p2 z hz; omega) p3 ?_ x'
    have : ∀ q : List Nat, (∀ z ∈ q, z < vs.length) → IntsAre (q.map fun i => vs.getD i .none) (q.map fun i : Nat => (i : Int)) := by
      intro q
      induction q with
      | nil => exact fun _ => .nil
      | cons z q ih =>
        intro hq
        have hz := hq z (.head _)
        obtain ⟨t, ht⟩ := hvi z _ (List.getElem?_eq_getElem hz)
        have e1 : vs.getD z .none = .int (z : Int) t := by rw [List.getD_eq_getElem?_getD, List.getElem?_eq_getElem hz, ← ht]; rfl
        rw [List.map_cons, List.map_cons, e1]
        exact .cons _ _ (ih fun y hy => hq y (.tail _ hy))
    exact this p p2
/-- a call of a built-in with one keyword -/
theorem cBnK {L : Addr} {env : Env} {sc : Scope} {cl : List (Str × Addr)} {x kn : Str} {id : String} {a1 ke : PySem.Expr} {args : List PySem.Expr} {pos np kp : Pos} {Q : Value → Shared → Prop} (hb : bnames.lookup x = some (.builtin id)) (hx : (x == ("__debug__" : Str)) = false)
    (e : EnvIs env L sc cl) (y : In s₀ L l nw s) (W : Wd s₀.heap) (hk : (sc.names.lookup x == some .globalImplicit) = true)
    (h : wpAny (model PW w) A (spliced (backTo pos (starEach (a1 :: args) env))) (fun vs s₂ => wpAny (model PW w) A (eval ke env) (fun kv s₃ => wpAny (model PW w) A (call (.builtin id) vs [(kn, kv)]) Q E s₃) E s₂) E s)
    (hall : (backToKw pos (keywordEach [⟨some kn, ke, kp⟩] env)).all (·.1.isSome) = true) (hkw : (backToKw pos (keywordEach [⟨some kn, ke, kp⟩] env)).any (·.1.isNone) = false)
    (hz : ∀ kv : Value, ((backToKw pos (keywordEach [⟨some kn, ke, kp⟩] env)).filterMap (·.1)).zip [kv] = [(kn, kv)])
    (hp : backTo pos (starEach (a1 :: args) env) = (false, eval a1 env) :: backTo pos (starEach args env)) (hs : (backTo pos (starEach (a1 :: args) env)).any (·.1) = false) :
    wpAny (model PW w) A (eval (.Call (.Name x np) (a1 :: args) [⟨some kn, ke, kp⟩] pos) env) Q E s := by
  refine wpAny_Call_ofName (rB e y W hk hb ?_ hx)
  refine callWith_kw (wpAny_mono h (fun vs s₂ h₂ => kwAll_cons (wpAny_mono h₂ (fun kv s₃ h₃ => kwAll_nil ?_) fun _ _ z => z)) fun _ _ z => z) hp hs hall hkw
  rw [hz kv]
  exact h₃
end
end
section
set_option maxRecDepth 100000
section
variable {s₀ s s' : Shared} {L : Addr} {l l' : List (Str × Value)} {nw nw' : List (Addr × Obj)}
/-- the base without some of its things: they stand in the ledger -/
theorem In.hideOne (x : In s₀ L l nw s) {P : Addr} {o : Obj} (hP : s₀.heap.get? P = some o) (hL : s₀.heap.get? L = none) : In { s₀ with heap := hideAll s₀.heap [P] } L l ((P, o) :: nw) s := by
  refine ⟨by obtain ⟨h, tk, e⟩ := x.same; exact ⟨h, tk, by rw [e]⟩, x.ns, fun b ob e => x.keep b ob (of_hideAll _ e), fun p hp => ?_, ?_⟩
  · rcases List.mem_cons.mp hp with rfl | hp
    · exact ⟨x.keep _ _ hP, (fun q => by dsimp only at q; rw [← q, hP] at hL; cases hL), hideAll_none _ (.head _)⟩
    · refine ⟨(x.nw p hp).1, (x.nw p hp).2.1, ?_⟩
      cases q : (hideAll s₀.heap [P]).get? p.1 with
      | none => rfl
      | some o' => have := of_hideAll _ q; rw [(x.nw p hp).2.2] at this; cases this
  · refine List.pairwise_cons.mpr ⟨fun p hp q => ?_, x.nd⟩
    have := (x.nw p hp).2.2
    dsimp only at q
    rw [← q, hP] at this; cases this
/-- a call that turned one thing of the ledger, and kept all else -/
theorem In.stepH (x : In s₀ L l nw s) {P : Addr} {o o' : Obj} (u : UpdO P o o' nw nw') (h1 : ∃ h tk, s' = { s with heap := h, toks := tk }) (h2 : Keep (hideAll s.heap [P]) s'.heap) (h3 : s'.heap.get? P = some o') : In s₀ L l nw' s' := by
  obtain ⟨h, tk, rfl⟩ := h1
  refine x.turn u (fun b ob hb e => h2 b ob (hideAll_get _ e fun q => hb (List.mem_singleton.mp q))) h3
theorem hide_wd {h : Heap} {P : List Addr} {h' : Heap} (W : Wd h') (k : Keep h' h) (hP : ∀ p ∈ P, h'.get? p = none) : Wd (hideAll h P) :=
  W.keeps fun b o e => hideAll_get _ (k b o e) fun q => by rw [hP b q] at e; cases e
/-- more states of generators -/
noncomputable def withG (s : Shared) (g : Array GenState) : Shared := { s with gens := g }
theorem In.regen (x : In s₀ L l nw s) (g : Array GenState) : In (withG s₀ g) L l nw (withG s g) :=
  ⟨by obtain ⟨h, tk, e⟩ := x.same; exact ⟨h, tk, by rw [e]; rfl⟩, x.ns, x.keep, x.nw, x.nd⟩
end
end
section
set_option maxRecDepth 100000
section
variable {M : Model} {A : Around} {R : GenEnd} {Y : Protocol} {n : Nat} {s₀ : Shared} {c : Code} {fs : List Frame} {s : Shared} {env : Env}
  {K : Flow → Sem Fin} {H : Value → Sem Fin} {gd : Bool → Bool} {lv : List Value → List Value} {rest : List Stmt} {st : Stmt} {pos p1 : Pos}
/-- what a block does next -/
noncomputable def gK (rest : List Stmt) (env : Env) (K : Flow → Sem Fin) (H : Value → Sem Fin) (gd : Bool → Bool) (lv : List Value → List Value) : Flow → Sem Fin
  | .next => (execs rest env).wrap K H gd lv
  | f => K f
theorem sgCons (h : Seg M A R Y n s₀ c ((exec st env).wrap (gK rest env K H gd lv) H gd lv) fs s) : Seg M A R Y n s₀ c ((execs (st :: rest) env).wrap K H gd lv) fs s := by
  rw [execs_cons_wrap]
  rw [Sem.wrap_congr (exec st env) (K' := gK rest env K H gd lv) (H' := H) gd lv (fun f => by cases f <;> rfl) (fun _ => rfl)]
  exact h
theorem sgX (h : wpAny M (A.over c fs) (execs [st] env) (fun f s' => Seg M A R Y n s₀ c (gK rest env K H gd lv f) fs s') (fun _ _ => False) s) : Seg M A R Y n s₀ c ((execs (st :: rest) env).wrap K H gd lv) fs s := by
  refine sgCons ?_
  have e : (exec st env).wrap (gK rest env K H gd lv) H gd lv = (execs [st] env).wrap (gK rest env K H gd lv) H gd lv := by
    rw [execs_cons_wrap]
    exact Sem.wrap_congr _ _ _ (fun f => by cases f <;> rfl) (fun _ => rfl)
  rw [e]
  exact seg_wrap (wpAny_mono h (fun _ _ x => x) fun _ _ x => x.elim)
theorem sgNil (h : Seg M A R Y n s₀ c (K .next) fs s) : Seg M A R Y n s₀ c ((execs [] env).wrap K H gd lv) fs s := h
theorem sgIf {test : PySem.Expr} {body orelse : List Stmt}
    (h : wpAny M (A.over c fs) (PySem.isTrue test env (eval test env)) (fun b s' => if b = true then Seg M A R Y n s₀ c ((execs body env).wrap (gK rest env K H gd lv) H gd lv) fs s'
      else Seg M A R Y n s₀ c ((execs orelse env).wrap (gK rest env K H gd lv) H gd lv) fs s') (fun _ _ => False) s) :
    Seg M A R Y n s₀ c ((execs (.If test body orelse pos :: rest) env).wrap K H gd lv) fs s := by
  refine sgCons ?_
  rw [exec_If]
  refine seg_bind_wrap (wpAny_standAt ?_)
  refine seg_bind_wrap (wpAny_mono h (fun b s' hb => ?_) fun _ _ x => x.elim)
  cases b with
  | true => rw [if_pos rfl] at hb; exact hb
  | false => rw [if_neg Bool.false_ne_true] at hb; exact hb
theorem sgYieldN {v g l} {k : Resume → Sem Fin} (hfs : splitAtGen fs = none) (hg : g = false) (hfg : fs.any Frame.guarded = false)
    (h : Y (n - 1) s₀ v s fun r s'' => Seg.next M A R Y n c (k r) fs s'') : Seg M A R Y n s₀ c (.yield v g l k) fs s := by
  rw [seg_iff]
  rintro Γ p rfl _
  exact ⟨_, s, Runs.yield' fs hfs, And.intro (by simp [End.quiet, hg, hfg]) h⟩
theorem sgYield {e : PySem.Expr} {ypos : Pos} (hfs : splitAtGen fs = none) (hgd : gd false = false) (hfg : fs.any Frame.guarded = false)
    (h : wpAny M (A.over c fs) (eval e env) (fun v s' => ∀ kap : Resume → Shared → Prop,
        (∀ x s'', (match x with | .ref _ => False | _ => Seg.next M A R Y n c ((execs rest env).wrap K H gd lv) fs s'') → kap (.send x) s'') → Y (n - 1) s₀ v s' kap)
      (fun _ _ => False) s) (hco : env.scope.isCoroutine = false) (hi : interactive env = false) :
    Seg M A R Y n s₀ c ((execs (.Expr (.Yield (some e) ypos) pos :: rest) env).wrap K H gd lv) fs s := by
  refine sgCons ?_
  rw [exec_Expr env _ pos hi rfl]
  show Seg M A R Y n s₀ c (.at pos fun _ => ((eval e env >>= fun v => (standAt ypos >>= fun _ => yieldOut env v)) >>= fun x =>
    dropValue (.Yield (some e) ypos) pos x).wrap (gK rest env K H gd lv) H gd lv) fs s
  have hy : ∀ v, yieldOut env v = yieldValue v := fun v => by simp only [yieldOut, hco, Bool.false_eq_true, if_false]
  simp only [hy]
  refine seg_at ?_
  rw [Sem.bind_eq_wrap', Sem.bind_eq_wrap', Sem.wrap_wrap, Sem.wrap_wrap]
  refine seg_wrap (wpAny_mono h (fun v s' h' => ?_) fun _ _ x => x.elim)
  refine seg_at (sgYieldN hfs hgd hfg ?_)
  refine h' _ fun x s'' hx => ?_
  cases x <;> first | exact hx | exact hx.elim
/-- the frame that a loop of a block leaves under itself -/
noncomputable abbrev gFr (env : Env) (K : Flow → Sem Fin) (H : Value → Sem Fin) (gd : Bool → Bool) (lv : List Value → List Value) (c : Code) (p : Pos) : Frame :=
  .ret (fun r => ((match r with | .ok f => (.pure f : Sem Flow) | .error e => .raise e).onRaise fun (x : Value) => do
        if (← field x 1) == Value.none then unsupported "frame.own-activation:exception-without-traceback"
        setFlight x env.frame).wrap K H gd lv) none (gd false) (lv []) c p []
theorem sgWhile {test : PySem.Expr} {body orelse : List Stmt}
    (h : ∀ p, Seg M A R Y n s₀ (.whileLoop test body orelse env) (M.den (.whileLoop test body orelse env)) (gFr env (gK rest env K H gd lv) H gd lv c p :: fs) s) :
    Seg M A R Y n s₀ c ((execs (.While test body orelse pos :: rest) env).wrap K H gd lv) fs s := sgCons (seg_at (seg_call h))
theorem sgFor {target iter : PySem.Expr} {body orelse : List Stmt} (hs : ∀ x, foldedSetIterable iter env x = pure x)
    (h : wpAny M (A.over c fs) (eval iter env) (fun v s₁ => wpAny M (A.over c fs) (pyIter v) (fun it s₂ => ∀ p, Seg M A R Y n s₀ (.forLoop target it body orelse env) (M.den (.forLoop target it body orelse env))
      (gFr env (gK rest env K H gd lv) H gd lv c p :: fs) s₂) (fun _ _ => False) s₁) (fun _ _ => False) s) :
    Seg M A R Y n s₀ c ((execs (.For target iter body orelse pos :: rest) env).wrap K H gd lv) fs s := by
  refine sgCons ?_
  rw [exec_For]
  refine seg_bind_wrap (wpAny_standAt ?_)
  refine seg_bind_wrap (wpAny_mono h (fun v s₁ h₁ => ?_) fun _ _ x => x.elim)
  refine seg_bind_wrap (wpAny_of_eq (hs v) ?_)
  refine seg_bind_wrap (wpAny_standAt ?_)
  refine seg_bind_wrap (wpAny_holding (wpAny_mono h₁ (fun it s₂ h₂ => ?_) fun _ _ x => x.elim))
  exact seg_call h₂
/-- a loop comes back to the block that it stands in -/
theorem sgBack {f : Flow} {c' : Code} {p : Pos} (h : Seg M A R Y n s₀ c (K f) fs s) : Seg M A R Y n s₀ c' (leafOf (.ok f)) (gFr env K H gd lv c p :: fs) s := seg_leaf (.ok f) h
end
section
variable {prog : Program} {w : World} {A : Around} {R : GenEnd} {Y : Protocol} {n : Nat} {s₀ : Shared} {fs : List Frame} {s : Shared} {env : Env}
/-- what one turn of a loop does next -/
noncomputable def gL (c : Code) : Flow → Sem Fin
  | .next => .pure (.again c)
  | .cont => .pure (.again c)
  | .brk => .pure (.done .next)
  | .ret v => .pure (.done (.ret v))
noncomputable def gH (env : Env) : Value → Sem Fin := fun e => (do noteFrame e env; theTreesLotGoes e : Sem Unit).wrap (fun _ => .raise e) .raise id id
theorem sgForLoop {x : Str} {p1 : Pos} {it : Value} {body : List Stmt} (hx : letOwnedTupleGo (.Name x p1) it = fun _ => pure ())
    (h : wpAny (model prog w) (A.over (.forLoop (.Name x p1) it body [] env) fs) (pyNext it) (fun r s' => match r with
      | none => Seg (model prog w) A R Y n s₀ (.block [] env) (leafOf (.ok .next)) fs s'
      | some v => wpAny (model prog w) (A.over (.forLoop (.Name x p1) it body [] env) fs) (storeName env x v) (fun _ s'' => Seg (model prog w) A R Y n s₀ (.forLoop (.Name x p1) it body [] env)
          ((execs body env).wrap (gL (.forLoop (.Name x p1) it body [] env)) (gH env) id id) fs s'') (fun _ _ => False) s') (fun _ _ => False) s) :
    Seg (model prog w) A R Y n s₀ (.forLoop (.Name x p1) it body [] env) ((model prog w).den (.forLoop (.Name x p1) it body [] env)) fs s := by
  show Seg _ A R Y n s₀ _ ((forTurn (.Name x p1) it body [] env).onRaise (fun x => do noteFrame x env; theTreesLotGoes x)) fs s
  unfold forTurn
  rw [Sem.onRaise_eq_wrap]
  refine seg_bind_wrap (wpAny_standAt ?_)
  refine seg_bind_wrap (wpAny_onRaise (wpAny_mono h (fun r s' hr => ?_) fun _ _ z => z.elim))
  cases r with
  | none =>
    refine seg_again rfl ?_
    exact hr
  | some v =>
    dsimp only at hr ⊢
    rw [hx]
    refine seg_bind_wrap (wpAny_pure ?_)
    refine seg_bind_wrap (wpAny_assign_Name (wpAny_mono hr (fun _ s'' h2 => ?_) fun _ _ z => z.elim))
    rw [Sem.bind_eq_wrap', Sem.wrap_wrap]
    rw [Sem.wrap_congr (execs body env) (K' := gL (.forLoop (.Name x p1) it body [] env)) (H' := gH env) _ _ (fun f => by cases f <;> rfl)
      (fun e => by show (do noteFrame e env; theTreesLotGoes e : Sem Unit).bind (fun _ => .raise e) = _; rw [Sem.bind_eq_wrap]; rfl)]
    exact h2
theorem sgWhileLoop {test : PySem.Expr} {body : List Stmt}
    (h : wpAny (model prog w) (A.over (.whileLoop test body [] env) fs) (PySem.isTrue test env (eval test env)) (fun b s' => b = true ∧ Seg (model prog w) A R Y n s₀ (.whileLoop test body [] env) ((execs body env).wrap (gL (.whileLoop test body [] env)) (gH env) id id) fs s')
      (fun _ _ => False) s) :
    Seg (model prog w) A R Y n s₀ (.whileLoop test body [] env) ((model prog w).den (.whileLoop test body [] env)) fs s := by
  refine seg_whileLoop (wpAny_mono h (fun b s' hb => ?_) fun _ _ z => z.elim)
  obtain ⟨rfl, hb⟩ := hb
  rw [if_pos rfl]
  rw [Sem.wrap_congr (execs body env) (K' := gL (.whileLoop test body [] env)) (H' := gH env) _ _ (fun f => by cases f <;> rfl) (fun e => by exact rfl)]
  exact hb
theorem sgFunc {body : List Stmt}
    (h : Seg (model prog w) A R Y n s₀ (.func body env) ((execs body env).wrap (fun f => .pure (.done (.ret (match f with | .ret v => v | _ => .none))))
      (fun e => (leaving env e).wrap (fun _ => .raise e) .raise id id) id id) fs s) :
    Seg (model prog w) A R Y n s₀ (.func body env) ((model prog w).den (.func body env)) fs s := seg_func h
end
end
section
set_option maxRecDepth 100000
section
variable {A : Around} {E : Value → Shared → Prop} {s₀ s : Shared} {L : Addr} {l : List (Str × Value)} {nw : List (Addr × Obj)} {env : Env} {sc : Scope} {cl : List (Str × Addr)} {w : World} {pos np apos kp : Pos} {Q : Value → Shared → Prop}
theorem eMk2 {a1 : PySem.Expr} {args : List PySem.Expr}
    (hb : attributeBase (.Name (PySem.Str.ofString "bytes") np) (PySem.Str.ofString "maketrans") env (eval (.Name (PySem.Str.ofString "bytes") np) env) = eval (.Name (PySem.Str.ofString "bytes") np) env)
    (hfew : ((backTo pos (starEach (a1 :: args) env)).all (fun x => !x.1) && (backToKw pos (keywordEach [] env)).all (·.1.isSome) && decide ((a1 :: args).length + ([] : List Keyword).length + (if ([] : List Keyword).isEmpty then 0 else 1) < 30)) = true)
    (hline : (apos.endLine == pos.line) = true)
    (e : EnvIs env L sc cl) (y : In s₀ L l nw s) (W : Wd s₀.heap) (hk : (sc.names.lookup (PySem.Str.ofString "bytes") == some .globalImplicit) = true)
    (hp : backTo pos (starEach (a1 :: args) env) = (false, eval a1 env) :: backTo pos (starEach args env)) (hs : (backTo pos (starEach (a1 :: args) env)).any (·.1) = false)
    (h : ∀ s', In s₀ L l nw s' → wpAny (model PW w) A (spliced (backTo pos (starEach (a1 :: args) env))) (fun vs s₂ => wpAny (model PW w) A (call (.builtin "bytes.maketrans") vs) Q E s₂) E s') :
    wpAny (model PW w) A (eval (.Call (.Attribute (.Name (PySem.Str.ofString "bytes") np) (PySem.Str.ofString "maketrans") apos) (a1 :: args) [] pos) env) Q E s :=
  eMk (T := "bytes") (id := "bytes.maketrans") hb hfew hline e y W hk (by decide +kernel) (by kernel_rfl) (by decide +kernel) (by kernel_rfl) (by decide +kernel) hp hs (by decide +kernel) h
theorem cFnK2 {x kn : Str} {a i : Nat} {dV kV : Value} {a1 ke : PySem.Expr} {args : List PySem.Expr} (r : FR x a i dV kV)
    (e : EnvIs env L sc cl) (y : In s₀ L l nw s) (W : Wd s₀.heap) (hk : (sc.names.lookup x == some .globalImplicit) = true)
    (h : wpAny (model PW w) A (spliced (backTo pos (starEach (a1 :: args) env))) (fun vs s₂ => wpAny (model PW w) A (eval ke env) (fun kv s₃ => Keep s₀.heap s₃.heap ∧ wpAny (model PW w) A (call (.ref a) vs [(kn, kv)]) Q E s₃) E s₂) E s)
    (hall : (backToKw pos (keywordEach [⟨some kn, ke, kp⟩] env)).all (·.1.isSome) = true)
    (hz : ∀ kv : Value, ((backToKw pos (keywordEach [⟨some kn, ke, kp⟩] env)).filterMap (·.1)).zip [kv] = [(kn, kv)])
    (hp : starEach (a1 :: args) env = (false, eval a1 env) :: starEach args env) :
    wpAny (model PW w) A (eval (.Call (.Name x np) (a1 :: args) [⟨some kn, ke, kp⟩] pos) env) Q E s := cFnK r.hq r.hg r.hx e y W hk h hall hz hp
end
end
section
local macro_rules | `(tactic| walk_at "bu") => alts ["R vLenB c1 c2 _;c1>sz;c2>a;i 3", "R vDecode c1 c2 c3 c4 _;c1>a;c2>a;c3>sz;c4>a;i 3", "R vEncode c1 c2 c3 _;c1>a;c2>a;c3>a;i 3", "R vMt c1 c2 _;c1>f;c2>a;i 3", "R vTranslate c1 c2 c3 _;c1>a;c2>sz;c3>a;i 3"]
local macro_rules | `(tactic| walk_at "tr") => alts ["R vTruT c1 c2 c3 _;c1>go;c2>l0;c3>a;i 2"]
local macro_rules | `(tactic| walk_at "ty") => alts ["r vTypeB _", "r vTypeBool _", "R vBytes c1 c2 c3 c4 c5 c6 _;c1>a;c2>go;c3>a;c4>a;c5>sz;c6>a;i 3"]
local macro_rules | `(tactic| walk_at "cm") => alts ["r vIsT _", "r vBoolIsN _", "r vBytesIsNotN _"]
local macro_rules | `(tactic| walk_at "bi") => alts ["R vAnd c1 _;c1>a;i 3", "R vOr c1 _;c1>a;i 3"]
local macro_rules | `(tactic| walk_at "mo") => alts ["r mo_decode c1 c2 _;c1>f;c2>f", "r mo_encode c1 c2 _;c1>f;c2>f", "r mo_translate c1 c2 _;c1>f;c2>f"]
local macro_rules | `(tactic| walk_at "ev") => alts ["R rBytes c1 _;c1>a;i 3"]
local macro_rules | `(tactic| walk_at "xs") => alts ["r xAssert _"]
local macro_rules | `(tactic| walk_at "nm") => alts ["R rB64 c1 c2 c3 c4 _;c1>a;c2>a;c3>a;c4>D;i 1"]
local macro_rules | `(tactic| walk_at "evc") => alts ["R eMk2 c1 c2 c3 c4 c5 c6 c7 d4 d5 _;c1>f;c2>f;c3>f;c4>a;c5>a;c6>a;c7>D;d4>f;d5>f;i 2", "R cFnK2 =fr_b2a_base64 c4 c5 c6 c7 _ c8 c9 d1;c4>a;c5>a;c6>a;c7>D;c8>f;c9>i 1,f;d1>f"]
section
noncomputable def al0 : List Nat := abc ++ [43, 47]
theorem al0_tab : ∀ k < 64, ((b64tab.toList).getD k 0).toNat = al0.getD k 0 := by decide +kernel
theorem al0_lt : ∀ k < 64, al0.getD k 0 < 128 := by decide +kernel
noncomputable def bW (o : List Nat) (lb lc : Nat) : List Nat × Nat := if 6 ≤ lb then bW (o ++ [al0.getD (lc / 2 ^ (lb - 6) % 64) 0]) (lb - 6) lc else (o, lb)
termination_by lb
decreasing_by omega
noncomputable def bStep (c : List Nat × Nat × Nat) (b : Nat) : List Nat × Nat × Nat := ((bW c.1 (c.2.1 + 8) ((c.2.2 * 256 + b) % 65536)).1, (bW c.1 (c.2.1 + 8) ((c.2.2 * 256 + b) % 65536)).2, (c.2.2 * 256 + b) % 65536)
noncomputable def bEnd (c : List Nat × Nat × Nat) : List Nat := if c.2.1 = 2 then c.1 ++ [al0.getD (c.2.2 % 4 * 16) 0, 61, 61] else if c.2.1 = 4 then c.1 ++ [al0.getD (c.2.2 % 16 * 4) 0, 61] else c.1
noncomputable def b64 (ms : List Nat) : List Nat := bEnd (ms.foldl bStep ([], 0, 0))
theorem bW_ok (lc : Nat) : ∀ (lb : Nat) (o : List Nat), (bW o lb lc).2 < 6 ∧ (bW o lb lc).1.length + (bW o lb lc).2 ≤ o.length + lb ∧ ((∀ c ∈ o, c < 128) → ∀ c ∈ (bW o lb lc).1, c < 128) := by
  intro lb
  induction lb using Nat.strongRecOn with
  | ind lb ih =>
    intro o
    rw [bW]
    split
    · have := ih (lb - 6) (by omega) (o ++ [al0.getD (lc / 2 ^ (lb - 6) % 64) 0])
      refine ⟨this.1, ?_, fun h => this.2.2 fun c hc => ?_⟩
      · have := this.2.1; simp only [List.length_append, List.length_singleton] at this; omega
      · rcases List.mem_append.mp hc with hc | hc
        · exact h c hc
        · rw [List.mem_singleton] at hc; rw [hc]; exact al0_lt _ (Nat.mod_lt _ (by decide))
    · exact ⟨by omega, by simp, fun h => h⟩
theorem bFold_ok : ∀ (ms : List Nat) (c : List Nat × Nat × Nat), c.2.1 < 6 → c.2.2 < 65536 → (∀ x ∈ c.1, x < 128) → (ms.foldl bStep c).2.1 < 6 ∧ (ms.foldl bStep c).2.2 < 65536 ∧ (ms.foldl bStep c).1.length ≤ c.1.length + c.2.1 + 8 * ms.length ∧ ∀ x ∈ (ms.foldl bStep c).1, x < 128
  | [], c, h1, h2, h3 => ⟨h1, h2, by rw [List.foldl_nil]; omega, h3⟩
  | m :: ms, c, h1, h2, h3 => by
    have hw := bW_ok ((c.2.2 * 256 + m) % 65536) (c.2.1 + 8) c.1
    have := bFold_ok ms (bStep c m) hw.1 (Nat.mod_lt _ (by decide)) (hw.2.2 h3)
    refine ⟨this.1, this.2.1, ?_, this.2.2.2⟩
    have h4 := this.2.2.1
    have h5 := hw.2.1
    rw [List.foldl_cons, List.length_cons]
    unfold bStep at h4 ⊢
    dsimp only at h4 ⊢
    omega
theorem b64_lt (ms : List Nat) : ∀ c ∈ b64 ms, c < 128 := by
  have h := bFold_ok ms ([], 0, 0) (by decide) (by decide) (by simp)
  unfold b64 bEnd
  split
  · intro c hc
    rcases List.mem_append.mp hc with hc | hc
    · exact h.2.2.2 c hc
    · simp only [List.mem_cons, List.not_mem_nil, or_false] at hc
      rcases hc with rfl | rfl | rfl
      · exact al0_lt _ (by omega)
      · decide
      · decide
  · split
    · intro c hc
      rcases List.mem_append.mp hc with hc | hc
      · exact h.2.2.2 c hc
      · simp only [List.mem_cons, List.not_mem_nil, or_false] at hc
        rcases hc with rfl | rfl
        · exact al0_lt _ (by omega)
        · decide
    · exact h.2.2.2
theorem b64_len (ms : List Nat) : (b64 ms).length ≤ 8 * ms.length + 3 := by
  have h := bFold_ok ms ([], 0, 0) (by decide) (by decide) (by simp)
  have := h.2.2.1
  simp only [List.length_nil, Nat.zero_add, Nat.add_zero] at this
  unfold b64 bEnd
  split
  · simp; omega
  · split
    · simp; omega
    · omega
theorem and_nat (a b : Nat) : Builtin.bitAnd (a : Int) (b : Int) = ((a &&& b : Nat) : Int) := by
  unfold Builtin.bitAnd
  rw [decide_eq_true (by omega), decide_eq_true (by omega)]
  simp
theorem or_nat (a b : Nat) : Builtin.bitOr (a : Int) (b : Int) = ((a ||| b : Nat) : Int) := by
  unfold Builtin.bitOr Builtin.bitAnd Builtin.bitNot
  rw [decide_eq_false (by omega), decide_eq_false (by omega)]
  simp only [Builtin.bitNot]
  have e : ∀ n : Nat, (-(-(n : Int) - 1) - 1).toNat = n := fun n => by omega
  rw [e, e]; omega
theorem ch_step (lc b : Nat) (hb : b < 256) : Builtin.bitAnd (Builtin.bitOr ((lc : Int) * 2 ^ 8) (b : Int)) 65535 = (((lc * 256 + b) % 65536 : Nat) : Int) := by
  have e1 : ((lc : Int) * 2 ^ 8) = ((lc * 2 ^ 8 : Nat) : Int) := by push_cast; rfl
  have e2 : (lc * 2 ^ 8 ||| b) = lc * 256 + b := by
    have := Nat.shiftLeft_add_eq_or_of_lt (b := b) (i := 8) hb lc
    rw [Nat.shiftLeft_eq] at this
    exact this.symm
  rw [e1, or_nat, e2, bitAnd_m16]
  omega
theorem ix_step (lc q : Nat) : Builtin.bitAnd ((lc : Int).fdiv (2 ^ q)) 63 = ((lc / 2 ^ q % 64 : Nat) : Int) := by
  have e1 : ((lc : Int).fdiv (2 ^ q)) = ((lc / 2 ^ q : Nat) : Int) := by
    rw [Int.fdiv_eq_ediv_of_nonneg _ (by have := Int.pow_pos (n := 2) (m := q) (by decide); omega)]
    push_cast; rfl
  rw [e1, bitAnd_m6]
  omega
section
variable {w : World} {A : Around} {E : Value → Shared → Prop} {s₀ s : Shared} {L : Addr} {l : List (Str × Value)} {nw : List (Addr × Obj)} {Q : Value → Shared → Prop} {p : Str} {t u : Tok}
theorem c_buffer {x : Array UInt8} (W : Wd s.heap) (R : Rm 2 A) (h : ∀ s', Keeps s s' → Q (.bytes x t) s') : wpAny (model PW w) A (call (.ref 162) [.bytes x t]) Q E s := by
  refine enter (i := 22) (dV := .none) (kV := .none) (n := 1) W (by decide) R (binds := [("data", .bytes x t)]) (l := [("data", .bytes x t)]) (ns := ["data"]) (fun _ _ _ => BindsTo.of_eq (by with_unfolding_all rfl)) rfl rfl (by decide +kernel) fun env L A' s₁ e R' hi hL x => ?_
  clear R
  walk_at "body"
  repeat (walk_at "m")
  exact h _ (In.done (by assumption))
theorem k_buffer {y : Array UInt8} (x : In s₀ L l nw s) (W : Wd s₀.heap) (R : Rm 2 A) (h : ∀ s', In s₀ L l nw s' → Q (.bytes y t) s') : wpAny (model PW w) A (call (.ref 162) [.bytes y t]) Q E s := c_buffer (x.wd W) R fun _ k => h _ (x.step k)
local macro_rules | `(tactic| walk_at "ct") => ctr "k_buffer" [] 2
theorem c_truth (W : Wd s.heap) (R : Rm 2 A) (h : ∀ s', Keeps s s' → Q (.bool false) s') : wpAny (model PW w) A (call (.ref 169) [.bool false]) Q E s := by
  refine enter (i := 23) (dV := .none) (kV := .none) (n := 1) W (by decide) R (binds := [("x", .bool false)]) (l := [("x", .bool false)]) (ns := ["x"]) (fun _ _ _ => BindsTo.of_eq (by with_unfolding_all rfl)) rfl rfl (by decide +kernel) fun env L A' s₁ e R' hi hL x => ?_
  clear R
  walk_at "body"
  repeat (walk_at "m")
  exact h _ (In.done (by assumption))
theorem k_truth (x : In s₀ L l nw s) (W : Wd s₀.heap) (R : Rm 2 A) (h : ∀ s', In s₀ L l nw s' → Q (.bool false) s') : wpAny (model PW w) A (call (.ref 169) [.bool false]) Q E s := c_truth (x.wd W) R fun _ k => h _ (x.step k)
local macro_rules | `(tactic| walk_at "ct") => ctr "k_truth" [] 2
theorem tIx64 {k : Nat} {i : Int} {value slice : PySem.Expr} {Q : Value → Shared → Prop} (e : In s₀ L l nw s) (hk : i = (k : Int)) (hl : k < 64) (h : ∀ t s', In s₀ L l nw s' → Q (.int ((al0.getD k 0 : Nat) : Int) t) s')
    (hs : subscripted slice false (.bytes b64tab t) (.int i u) = operate [.bytes b64tab t, .int i u] (getItem (.bytes b64tab t) (.int i u))) :
    wpAny (model PW w) A (subscriptTail value slice (.bytes b64tab t) (.int i u)) Q E s :=
  tIxB (x := b64tab.toList) (k := k) e hk hl (by decide +kernel) (al0_tab k hl) h hs
theorem c_b2a {ms : List Nat} (hm : ∀ o ∈ ms, o < 256) (hl : ms.length ≤ 100) (W : Wd s.heap) (R : Rm 6 A) (h : ∀ t' s', Keeps s s' → Q (.bytes (By (b64 ms)) t') s') : wpAny (model PW w) A (call (.ref 177) [.bytes (By ms) t] [("newline", .bool false)]) Q E s := by
  refine enter (i := 25) (dV := .none) (kV := .ref 170) (n := 5) W (by decide) R (binds := [("data", .bytes (By ms) t), ("newline", .bool false)]) (l := [("newline", .bool false), ("data", .bytes (By ms) t)]) (ns := ["data", "newline"]) (fun _ _ _ => BindsTo.of_eq (by with_unfolding_all rfl)) rfl rfl (by decide +kernel) fun env L A' s₁ e R' hi hL x => ?_
  clear R
  walk_at "body"
  repeat (walk_at "m")
  rename_i aO _ _ _ _ _ _ _ _ sE xE
  refine' iterB (σ := Addr × List Value × Nat × (List Nat × Nat × Nat) × Tok × Tok) (fun i c => c.2.2.2.1 = (ms.take i).foldl bStep ([], 0, 0) ∧ Ns c.2.1 c.2.2.2.1.1)
    (fun c => [("newline", .bool false), ("out", .ref c.1), ("leftbits", .int (c.2.2.2.1.2.1 : Int) c.2.2.2.2.1), ("leftchar", .int (c.2.2.2.1.2.2 : Int) c.2.2.2.2.2)])
    (fun c => [(c.1, lstO c.2.1 c.2.2.1)]) (_, [], 0, ([], 0, 0), _, _) e hL (by decide +kernel) R' hm ?x0 ⟨rfl, .nil⟩ ?gb ?ge
  case x0 =>
    refine' (In.forget xE ?A1).drop ?B1
    case B1 => (try dsimp only); walk_at "sl"
    case A1 => have e0 : ((0 : Nat) : Int) = 0 := rfl; (try dsimp only); rw [e0]; walk_at "sub"
  case gb =>
    rintro i tk m ⟨O, vs, n, ⟨o, lb, lc⟩, t1, t2⟩ I ob s' hv ⟨hst, hb⟩ y
    dsimp only at hst hb y ⊢
    have hfo := bFold_ok (ms.take i) ([], 0, 0) (by decide) (by decide) (by simp)
    rw [← hst] at hfo
    dsimp only at hfo
    have hm' : m < 256 := hm m (List.mem_of_getElem? hv)
    have hol : o.length ≤ 800 := by
      have := hfo.2.2.1; rw [List.length_take] at this; simp only [List.length_nil] at this; omega
    repeat (walk_at "m")
    refine' vShl (m := 8) ?c1 ?c2 rfl (by decide) (by assumption) ?_
    case c1 => omega
    case c2 => have := hfo.2.1; omega
    intro _ _ _
    repeat (walk_at "m")
    rename_i sW xW
    rw [ch_step lc m hm'] at xW
    have e8 : ((lb : Int) + 8) = ((lb + 8 : Nat) : Int) := rfl
    rw [e8] at xW
    generalize hlc : (lc * 256 + m) % 65536 = lc' at xW
    have hlc' : lc' < 65536 := by rw [← hlc]; exact Nat.mod_lt _ (by decide)
    have hx : ∃ q1 q2, In s L [("newline", .bool false), ("out", .ref O), ("leftbits", .int ((lb + 8 : Nat) : Int) q1), ("leftchar", .int (lc' : Int) q2)] [(I, ob), (O, lstO vs n)] sW := by
      refine' ⟨_, _, (In.forget xW ?A1).drop ?B1⟩
      case B1 => walk_at "sl"
      case A1 => walk_at "sub"
    clear xW
    obtain ⟨q1, q2, xW⟩ := hx
    refine' xWhile (σ := List Value × Nat × List Nat × Nat × Tok) (fun n c => n = c.2.2.2.1 ∧ Ns c.1 c.2.2.1 ∧ bW c.2.2.1 c.2.2.2.1 lc' = bW o (lb + 8) lc' ∧ c.2.2.1.length + c.2.2.2.1 ≤ o.length + lb + 8)
      (fun c => [("newline", .bool false), ("out", .ref O), ("leftbits", .int (c.2.2.2.1 : Int) c.2.2.2.2), ("leftchar", .int (lc' : Int) q2)]) (fun c => [(I, ob), (O, lstO c.1 c.2.1)]) (lb + 8) (vs, n, o, lb + 8, q1) xW ⟨rfl, hb, rfl, by dsimp only; omega⟩ ?ht
    case ht =>
      rintro n' ⟨vs', n2, o', lb', q3⟩ s3 ⟨hn, hN, hW, hsz⟩ y3
      dsimp only at hn hN hW hsz y3 ⊢
      subst hn
      have hvl : vs'.length = o'.length := by have := hN.length; simpa using this
      have hvz : vs'.length ≤ 900 := by have := hfo.1; omega
      repeat (walk_at "m")
      by_cases hge : 6 ≤ n'
      · refine ifT (by rw [decide_eq_true_eq]; omega) ?_
        repeat (walk_at "m")
        refine' vShr (m := n' - 6) ?c1 (by assumption) ?_
        case c1 => omega
        intro _ _ _
        repeat (walk_at "m")
        refine' tIx64 (k := lc' / 2 ^ (n' - 6) % 64) (by assumption) (ix_step lc' (n' - 6)) (Nat.mod_lt _ (by decide)) ?_ ?_
        rotate_left
        · with_unfolding_all rfl
        intro tE _ _
        repeat (walk_at "m")
        rename_i xE
        have e6 : ((n' : Int) - 6) = ((n' - 6 : Nat) : Int) := by omega
        rw [e6] at xE
        refine' whN xE (n' - 6) (vs' ++ [.int ((al0.getD (lc' / 2 ^ (n' - 6) % 64) 0 : Nat) : Int) tE], _, o' ++ [al0.getD (lc' / 2 ^ (n' - 6) % 64) 0], n' - 6, _) (by omega) ⟨rfl, ?h0, ?h1, ?h2⟩ ?h3 ?h4
        case h3 => (try dsimp only); walk_at "sub"
        case h4 => walk_at "sl"
        case h0 =>
          show IntsAre _ _
          dsimp only
          rw [List.map_append]
          exact IntsAre.append hN (.cons _ _ .nil)
        case h1 =>
          dsimp only
          rw [← hW, bW.eq_def o' n' lc', if_pos hge]
        case h2 => dsimp only; rw [List.length_append]; simp only [List.length_cons, List.length_nil]; omega
      · refine ifF (by rw [decide_eq_true_eq]; omega) ?_
        repeat (walk_at "m")
        refine' lqN (by assumption) (O, vs', n2, (o', n', lc'), _, _) ⟨?h1, ?h2⟩ ?h3 ?h4
        case h3 => (try dsimp only); walk_at "sub"
        case h4 => walk_at "sl"
        case h2 => exact hN
        case h1 =>
          dsimp only
          rw [bW.eq_def o' n' lc', if_neg hge] at hW
          rw [List.take_add_one, hv, List.foldl_append, ← hst]
          show _ = bStep (o, lb, lc) m
          unfold bStep
          dsimp only
          rw [hlc, ← hW]
  case ge =>
    rintro ⟨O, vs, n, ⟨o, lb, lc⟩, t1, t2⟩ s' ⟨hst, hb⟩ y
    dsimp only at hst hb y ⊢
    rw [List.take_length] at hst
    have hfo := bFold_ok ms ([], 0, 0) (by decide) (by decide) (by simp)
    rw [← hst] at hfo
    dsimp only at hfo
    have hol : o.length ≤ 800 := by
      have := hfo.2.2.1; simp only [List.length_nil] at this; omega
    have hvl : vs.length = o.length := by have := hb.length; simpa using this
    have hvz : vs.length ≤ 900 := by omega
    have hlcz := hfo.2.1
    have hb64 : b64 ms = bEnd (o, lb, lc) := by unfold b64; rw [← hst]
    have hlt : ∀ c ∈ b64 ms, c < 256 := fun c hc => Nat.lt_trans (b64_lt ms c hc) (by decide)
    repeat (walk_at "m")
    by_cases h2 : lb = 2
    · refine ifT (by rw [h2]; rfl) ?_
      have hbe : b64 ms = ((o ++ [al0.getD (lc % 4 * 16) 0]) ++ [61]) ++ [61] := by rw [hb64]; unfold bEnd; dsimp only; rw [if_pos h2]; simp
      repeat (walk_at "m")
      refine' vShl (m := 4) ?c1 ?c2 rfl (by decide) (by assumption) ?_
      case c1 => rw [bitAnd_m2]; omega
      case c2 => rw [bitAnd_m2]; omega
      intro _ _ _
      repeat (walk_at "m")
      refine' tIx64 (k := lc % 4 * 16) (by assumption) ?c1 ?c3 ?_ ?c2
      case c1 => rw [bitAnd_m2]; omega
      case c3 => omega
      case c2 => with_unfolding_all rfl
      intro _ _ _
      repeat (walk_at "m")
      refine' vBytes (ns := b64 ms) R' ?v1 ?v2 hlt ?v3 (by assumption) ?_
      case v1 => walk_at "go"
      case v2 =>
        rw [hbe]
        simp only [List.map_append, List.map_cons, List.map_nil]
        exact IntsAre.append (IntsAre.append (IntsAre.append hb (.cons _ _ .nil)) (.cons _ _ .nil)) (.cons _ _ .nil)
      case v3 => walk_at "sz"
      intro _ _ _
      repeat (walk_at "m")
      exact h _ _ (In.done (by assumption))
    · refine ifF (by simp only [beq_iff_eq]; omega) ?_
      repeat (walk_at "m")
      by_cases h4 : lb = 4
      · refine ifT (by rw [h4]; rfl) ?_
        have hbe : b64 ms = (o ++ [al0.getD (lc % 16 * 4) 0]) ++ [61] := by rw [hb64]; unfold bEnd; dsimp only; rw [if_neg h2, if_pos h4]; simp
        repeat (walk_at "m")
        refine' vShl (m := 2) ?c1 ?c2 rfl (by decide) (by assumption) ?_
        case c1 => rw [bitAnd_m4]; omega
        case c2 => rw [bitAnd_m4]; omega
        intro _ _ _
        repeat (walk_at "m")
        refine' tIx64 (k := lc % 16 * 4) (by assumption) ?c1 ?c3 ?_ ?c2
        case c1 => rw [bitAnd_m4]; omega
        case c3 => omega
        case c2 => with_unfolding_all rfl
        intro _ _ _
        repeat (walk_at "m")
        refine' vBytes (ns := b64 ms) R' ?v1 ?v2 hlt ?v3 (by assumption) ?_
        case v1 => walk_at "go"
        case v2 =>
          rw [hbe]
          simp only [List.map_append, List.map_cons, List.map_nil]
          exact IntsAre.append (IntsAre.append hb (.cons _ _ .nil)) (.cons _ _ .nil)
        case v3 => walk_at "sz"
        intro _ _ _
        repeat (walk_at "m")
        exact h _ _ (In.done (by assumption))
      · refine ifF (by simp only [beq_iff_eq]; omega) ?_
        have hbe : b64 ms = o := by rw [hb64]; unfold bEnd; dsimp only; rw [if_neg h2, if_neg h4]
        repeat (walk_at "m")
        refine' vBytes (ns := b64 ms) R' ?v1 ?v2 hlt ?v3 (by assumption) ?_
        case v1 => walk_at "go"
        case v2 =>
          rw [hbe]
          exact hb
        case v3 => walk_at "sz"
        intro _ _ _
        repeat (walk_at "m")
        exact h _ _ (In.done (by assumption))
theorem k_b2a {ms : List Nat} (x : In s₀ L l nw s) (W : Wd s₀.heap) (R : Rm 6 A) (hm : ∀ o ∈ ms, o < 256) (hl : ms.length ≤ 100) (h : ∀ t' s', In s₀ L l nw s' → Q (.bytes (By (b64 ms)) t') s') : wpAny (model PW w) A (call (.ref 177) [.bytes (By ms) t] [("newline", .bool false)]) Q E s :=
  c_b2a hm hl (x.wd W) R fun _ _ k => h _ _ (x.step k)
local macro_rules | `(tactic| walk_at "ct") => ctr "k_b2a" ["a", "a"] 3
end
end
local macro_rules | `(tactic| walk_at "ct") => ctr "k_buffer" [] 2
local macro_rules | `(tactic| walk_at "ct") => ctr "k_truth" [] 2
local macro_rules | `(tactic| walk_at "ct") => ctr "k_b2a" ["a", "a"] 3
section
/-- the signs of one piece, as the program writes them -/
noncomputable def b64s (a b : Nat) (ms : List Nat) : List Nat := (b64 ms).map (Dec.sub2 a b)
section
variable {w : World} {A : Around} {E : Value → Shared → Prop} {s₀ s : Shared} {L : Addr} {l : List (Str × Value)} {nw : List (Addr × Obj)} {Q : Value → Shared → Prop} {p : Str} {t u : Tok}
theorem c_b64e {ms : List Nat} {a b : Nat} (hm : ∀ o ∈ ms, o < 256) (hl : ms.length ≤ 100) (W : Wd s.heap) (R : Rm 8 A) (h : ∀ t' s', Keeps s s' → Q (.bytes (By (b64s a b ms)) t') s') : wpAny (model PW w) A (call (.ref 185) [.bytes (By ms) t, .bytes (By [a, b]) u]) Q E s := by
  refine enter (i := 27) (dV := .ref 178) (kV := .none) (n := 7) W (by decide) R (binds := [("s", .bytes (By ms) t), ("altchars", .bytes (By [a, b]) u)]) (l := [("altchars", .bytes (By [a, b]) u), ("s", .bytes (By ms) t)]) (ns := ["s", "altchars"]) (fun pm cd doc => by obtain ⟨o, ho, _, n, hd⟩ := W.dflt; exact BindsTo.of_defaults (T := 178) rfl ho hd (by with_unfolding_all rfl) (by with_unfolding_all rfl)) rfl rfl (by decide +kernel) fun env L A' s₁ e R' hi hL x => ?_
  clear R
  have hlt : ∀ c ∈ b64 ms, c < 256 := fun c hc => Nat.lt_trans (b64_lt ms c hc) (by decide)
  have hbl : (b64 ms).length ≤ 900 := by have := b64_len ms; omega
  walk_at "body"
  repeat (walk_at "m")
  refine ⟨rfl, ?_⟩
  repeat (walk_at "m")
  exact h _ _ (In.done (by assumption))
theorem k_b64e {ms : List Nat} {a b : Nat} (x : In s₀ L l nw s) (W : Wd s₀.heap) (R : Rm 8 A) (hm : ∀ o ∈ ms, o < 256) (hl : ms.length ≤ 100) (h : ∀ t' s', In s₀ L l nw s' → Q (.bytes (By (b64s a b ms)) t') s') : wpAny (model PW w) A (call (.ref 185) [.bytes (By ms) t, .bytes (By [a, b]) u]) Q E s :=
  c_b64e hm hl (x.wd W) R fun _ _ k => h _ _ (x.step k)
local macro_rules | `(tactic| walk_at "ct") => ctr "k_b64e" ["a", "sz"] 3
end
end
local macro_rules | `(tactic| walk_at "ct") => ctr "k_b64e" ["a", "sz"] 3
section
noncomputable def cs (a : List (List Nat)) : List (List Nat) := [] :: (if a = [] then [[]] else a)
theorem cs_jn (a : List (List Nat)) : hd' (pt a) = jn 47 (cs a) := by
  cases a with
  | nil => rfl
  | cons p a =>
    have h1 : pt (p :: a) ≠ [] := by rw [pt_cons]; simp
    rw [show hd' (pt (p :: a)) = pt (p :: a) from if_neg h1, pt_jn _ (by simp)]
    rfl
/-- what two lists of names begin with in common -/
noncomputable def cpx : List (List Nat) → List (List Nat) → List (List Nat)
  | x :: a, y :: b => if x = y then x :: cpx a b else []
  | _, _ => []
theorem cpx_comm : ∀ a b : List (List Nat), cpx a b = cpx b a
  | [], [] => rfl
  | [], _ :: _ => rfl
  | _ :: _, [] => rfl
  | x :: a, y :: b => by
    unfold cpx
    by_cases h : x = y
    · rw [if_pos h, if_pos h.symm, h, cpx_comm a b]
    · rw [if_neg h, if_neg (fun q => h q.symm)]
theorem cpx_take : ∀ (m M : List (List Nat)) (j : Nat), m.take j = M.take j → (j = m.length ∨ (j < m.length ∧ j < M.length ∧ m[j]? ≠ M[j]?)) → cpx m M = m.take j
  | [], M, j, _, _ => by rw [List.take_nil]; cases M <;> rfl
  | x :: m, [], j, h, hj => by
    cases j with
    | zero => rfl
    | succ j => simp at h
  | x :: m, y :: M, 0, _, hj => by
    rcases hj with hj | ⟨_, _, hj⟩
    · simp at hj
    · have : x ≠ y := fun q => hj (by simp [q])
      unfold cpx; rw [if_neg this]; rfl
  | x :: m, y :: M, j + 1, h, hj => by
    simp only [List.take_succ_cons, List.cons.injEq] at h
    have ih := cpx_take m M j h.2 (by
      rcases hj with hj | ⟨h1, h2, hj⟩
      · left; simpa using hj
      · right; exact ⟨by simpa using h1, by simpa using h2, by simpa using hj⟩)
    unfold cpx
    rw [if_pos h.1, List.take_succ_cons, ih]
theorem take_lt : ∀ (x : List (List Nat)) (i : Nat), i < x.length → x.take i < x
  | [], i, h => by simp at h
  | y :: x, 0, _ => by simp
  | y :: x, i + 1, h => by
    rw [List.take_succ_cons]
    exact List.cons_lt_cons_iff.mpr (.inr ⟨rfl, take_lt x i (by simpa using h)⟩)
theorem mm_ok (a b : List (List Nat)) : cpx (if b < a then b else a) (if a < b then b else a) = cpx a b ∧ ¬ (if a < b then b else a) < (if b < a then b else a) := by
  by_cases h1 : b < a
  · have h2 : ¬ a < b := fun q => List.lt_irrefl a (List.lt_trans q h1)
    rw [if_pos h1, if_neg h2]
    exact ⟨cpx_comm b a, h2⟩
  · by_cases h2 : a < b
    · rw [if_neg h1, if_pos h2]
      exact ⟨rfl, h1⟩
    · have : a = b := List.le_antisymm (by simpa using h1) (by simpa using h2)
      rw [if_neg h1, if_neg h2]
      subst this
      exact ⟨rfl, h1⟩
theorem lqB {σ : Type} {s₀ s : Shared} {L : Addr} {Q : Flow → Shared → Prop} {Inv : Nat → σ → Prop} {fl : σ → List (Str × Value)} {fw : σ → List (Addr × Obj)} {I : Addr} {o : Obj} {i : Nat} {Qb : Shared → Prop} (h : Qb s) : loopQ Inv fl fw s₀ L I o i Qb Q .brk s := h
theorem cs_head (a : List (List Nat)) : (jn 47 (cs a)).head? = some 47 := by
  rw [← cs_jn]
  unfold hd'; split
  · rfl
  · cases a with
    | nil => rename_i h; exact absurd rfl h
    | cons p a => rw [pt_cons]; rfl
section
variable {w : World} {A : Around} {E : Value → Shared → Prop} {s₀ s : Shared} {L : Addr} {l : List (Str × Value)} {nw : List (Addr × Obj)} {Q : Value → Shared → Prop} {p : Str} {t u : Tok}
set_option maxHeartbeats 1000000 in
theorem c_common {a b : List (List Nat)} {D : Addr} {m : Nat} {va vb : Tok} (hD : s.heap.get? D = some (lstO [.str (S (hd' (pt a))) va, .str (S (hd' (pt b))) vb] m)) (ha : ∀ q ∈ a, Nm q) (hb : ∀ q ∈ b, Nm q) (za : (pt a).length ≤ 250) (zb : (pt b).length ≤ 250) (W : Wd s.heap) (R : Rm 16 A)
    (h : ∀ t' s', Keeps s s' → Q (.str (S (47 :: jn 47 (cpx a b))) t') s') : wpAny (model PW w) A (call (.ref 155) [.ref D]) Q E s := by
  rw [cs_jn a, cs_jn b] at hD
  refine enterC (i := 20) (dV := .none) (kV := .none) (n := 15) W (by decide) R (binds := [("paths", .ref D)]) (ns := ["paths"]) (fun _ _ _ => by with_unfolding_all rfl) rfl (by decide +kernel) fun env L A' s₁ e R' hi hL x => ?_
  clear R
  have e : EnvIs env L (fScope (stmtAt 20)) [("curdir", L + 2), ("sep", L + 1)] := e
  have hloc : ∀ y ∈ ([("paths", Value.ref D)] : List (Str × Value)), (fScope (stmtAt 20)).names.lookup y.1 = some .local := by
    intro y hy; rw [List.mem_singleton] at hy; subst hy; exact eq_of_beq (show ((fScope (stmtAt 20)).names.lookup (PySem.Str.ofString "paths") == some NameKind.local) = true by decide +kernel)
  obtain ⟨oc, os, x⟩ := In.ofC2 (l := [("paths", .ref D)]) (n := "curdir") (c := L + 2) (n' := "sep") (c' := L + 1) x (by decide +kernel) (bindL_local (l := []) hloc (fun _ _ q => by cases q))
  rw [bindC_local hloc] at x
  have tab : Txs [.str (S (jn 47 (cs a))) va, .str (S (jn 47 (cs b))) vb] [jn 47 (cs a), jn 47 (cs b)] := Txs.cons (Txs.cons Txs.nil)
  walk_at "body"
  repeat (walk_at "m")
  refine' vMap (x.get0 hD) (by assumption) ?_
  intro M T J s2 x2
  repeat (walk_at "m")
  refine' vTupMap W (Rm.le (by assumption) (by decide)) (x2.get0 hD) tab (by simp) (by assumption) ?_
  intro P s3 x3
  repeat (walk_at "m")
  refine ifFF ?_
  repeat (walk_at "m")
  refine' tIxT (vs := [.str (S (jn 47 (cs a))) va, .str (S (jn 47 (cs b))) vb]) (v := .str (S (jn 47 (cs a))) va) ?c1 (by decide) ?c3 rfl ?_ ?c2
  case c1 => walk_at "go"
  case c3 => simp
  case c2 => with_unfolding_all rfl
  repeat (walk_at "m")
  rename_i tsep _ _ _ _ tcur _ _ sX xX
  have W2 := xX.wd W
  have hSep : sX.heap.get? (L + 1) = some (cellP os (some (.str (S [47]) tsep))) := xX.get1 (by walk_at "mem")
  have hcsn : ∀ q : List (List Nat), cs q ≠ [] := fun q => by unfold cs; simp
  have hcsf : ∀ q ∈ [a, b], ∀ z ∈ cs q, 47 ∉ z := by
    intro q hq z hz
    unfold cs at hz
    have hN : ∀ y ∈ q, Nm y := by
      rcases List.mem_cons.mp hq with rfl | hq
      · exact ha
      · rw [List.mem_singleton] at hq; subst hq; exact hb
    rcases List.mem_cons.mp hz with rfl | hz
    · simp
    · split at hz
      · rw [List.mem_singleton] at hz; subst hz; simp
      · exact (hN z hz).2.1
  have hcsz : ∀ q ∈ [a, b], (jn 47 (cs q)).length ≤ 300 := by
    intro q hq
    rw [← cs_jn]
    have : (pt q).length ≤ 250 := by
      rcases List.mem_cons.mp hq with rfl | hq
      · exact za
      · rw [List.mem_singleton] at hq; subst hq; exact zb
    unfold hd'; split
    · simp
    · omega
  refine' compIt (k := 0) (clF := fun _ => [("sep", L + 1)]) (vs := [.str (S (jn 47 (cs a))) va, .str (S (jn 47 (cs b))) vb]) (σ := List (Addr × List Value))
    (fun i c => c.length = i ∧ ∀ (j : Nat) p, c[j]? = some p → ∃ q, [a, b][j]? = some q ∧ Txs p.2 (cs q)) (fun c => c.map fun p => .ref p.1) (fun c _ => (c.map fun p => (p.1, lstO p.2 0)).reverse) []
    e R' (fun _ => rfl) (by decide) (fun _ => rfl) rfl (.inr (by walk_at "go")) ⟨rfl, fun j p q => by simp at q⟩ rfl (fun _ => rfl) ?gs ?gb ?ge
  case gs => rintro i c ⟨hc1, hc2⟩; rw [List.length_map]; rcases Nat.lt_or_ge 2 c.length with q | q; (obtain ⟨z, hz, _⟩ := hc2 2 _ (List.getElem?_eq_getElem q); cases hz); omega
  case gb =>
    rintro i v c I oI F n C s' hv ⟨hc1, hc2⟩ eC hC y
    obtain ⟨q, tq, hq, rfl⟩ : ∃ q tq, [a, b][i]? = some q ∧ v = .str (S (jn 47 (cs q))) tq := by
      match i, hv with
      | 0, hv => exact ⟨a, va, rfl, (Option.some.inj hv).symm⟩
      | 1, hv => exact ⟨b, vb, rfl, (Option.some.inj hv).symm⟩
    have hqm := List.mem_of_getElem? hq
    have h1 := hcsn q
    have h2 := hcsf q hqm
    have h3 : (jn 47 (cs q)).length ≤ 1000 := Nat.le_trans (hcsz q hqm) (by decide)
    unfold TurnOk
    repeat (walk_at "m")
    rename_i G gs sG hG xG
    refine ⟨c ++ [(G, gs)], _, ⟨by rw [List.length_append, hc1]; rfl, fun j p hj => ?_⟩, by simp, xG.perm ?_⟩
    · rcases Nat.lt_trichotomy j c.length with hlt | heq | hgt
      · rw [List.getElem?_append_left hlt] at hj; exact hc2 j p hj
      · subst heq
        rw [List.getElem?_append_right (Nat.le_refl _), Nat.sub_self] at hj
        cases hj
        exact ⟨q, by rw [hc1]; exact hq, hG⟩
      · rw [List.getElem?_eq_none (by simp; omega)] at hj; cases hj
    · show List.Perm _ ((F, lstO (c.map fun p => .ref p.1) n) :: (I, oI) :: ((c ++ [(G, gs)]).map fun p => (p.1, lstO p.2 0)).reverse)
      rw [List.map_append, List.reverse_append]
      exact (List.Perm.swap ..).trans ((List.Perm.swap ..).cons _)
  case ge =>
    rintro c F n C s' ⟨hc1, hc2⟩ hC y
    refine' compEndS xX e hL (by decide +kernel) hC y ?u ?_
    case u => walk_at "up"
    intro s4 x4
    obtain ⟨⟨Fa, ga⟩, ⟨Fb, gb⟩, rfl⟩ : ∃ p1 p2, c = [p1, p2] := by
      match c, hc1 with
      | [p1, p2], _ => exact ⟨p1, p2, rfl⟩
    obtain ⟨_, qa, hga⟩ := hc2 0 _ rfl
    obtain ⟨_, qb, hgb⟩ := hc2 1 _ rfl
    cases qa; cases qb
    dsimp only at hga hgb
    simp only [List.map_cons, List.map_nil, List.reverse_cons, List.reverse_nil, List.nil_append, List.cons_append] at x4
    repeat (walk_at "m")
    refine' xTup1 (by with_unfolding_all rfl) (by with_unfolding_all rfl) ?_
    refine' rSetComp e rfl rfl (by decide +kernel) ?_ (fun _ => rfl)
    repeat (walk_at "m")
    have W4 := x4.wd W
    have hSep4 : s4.heap.get? (L + 1) = some (cellP os (some (.str (S [47]) tsep))) := x4.get1 (by walk_at "mem")
    refine' setIt (clF := [("sep", L + 1)]) e R' (fun _ => rfl) (fun _ => rfl) rfl (x4.get1 (by walk_at "mem")) (by simp) ?sb ?se
    case sb =>
      intro i v I oI D' oD C2 s5 hv eC2 hC2 y2
      obtain ⟨q, tq, hq, rfl⟩ : ∃ q tq, [a, b][i]? = some q ∧ v = .str (S (jn 47 (cs q))) tq := by
        match i, hv with
        | 0, hv => exact ⟨a, va, rfl, (Option.some.inj hv).symm⟩
        | 1, hv => exact ⟨b, vb, rfl, (Option.some.inj hv).symm⟩
      repeat (walk_at "m")
      refine ⟨?_, _, by assumption⟩
      rw [cs_head q]; rfl
    case se =>
      intro D' C2 s5 hC2 y2
      refine' compEndN x4 hC2 y2 ?_
      intro s6 x6
      simp only [List.cons_append, List.nil_append] at x6
      refine' St1.unpack1 R'.hd rfl (x6.nw _ (.head _)).1 ?_
      intro h7 k7
      refine ⟨_, rfl, ?_⟩
      have x7 := x6.step (s' := { s6 with heap := h7 }) ⟨h7, s6.toks, rfl, k7⟩
      repeat (walk_at "m")
      rename_i sB xB
      have WB := xB.wd W
      have hCur : sB.heap.get? (L + 2) = some (cellP oc (some (.str (S [46]) tcur))) := xB.get1 (by walk_at "mem")
      have gFa : sB.heap.get? Fa = some (lstO ga 0) := xB.get1 (by walk_at "mem")
      have gFb : sB.heap.get? Fb = some (lstO gb 0) := xB.get1 (by walk_at "mem")
      have gF : sB.heap.get? F = some (lstO [.ref Fa, .ref Fb] n) := xB.get1 (by walk_at "mem")
      have hfil : ∀ q ∈ [a, b], (cs q).filter okc = q := by
        intro q hq
        have hN : ∀ y ∈ q, Nm y := by
          rcases List.mem_cons.mp hq with rfl | hq
          · exact ha
          · rw [List.mem_singleton] at hq; subst hq; exact hb
        unfold cs
        rw [List.filter_cons_of_neg (by decide)]
        split
        · rename_i h0; rw [h0]; rfl
        · exact List.filter_eq_self.mpr fun y hy => (hN y hy).okc
      refine' compIt (k := 0) (clF := fun _ => [("curdir", L + 2)]) (vs := [.ref Fa, .ref Fb]) (σ := List (Addr × List Value × Nat))
        (fun i c => c.length = i ∧ ∀ (j : Nat) p, c[j]? = some p → ∃ q, [a, b][j]? = some q ∧ Txs p.2.1 q) (fun c => c.map fun p => .ref p.1) (fun c _ => (c.map fun p => (p.1, lstO p.2.1 p.2.2)).reverse) []
        e R' (fun _ => rfl) (by decide) (fun _ => rfl) rfl (.inl ⟨n, gF⟩) ⟨rfl, fun j p q => by simp at q⟩ rfl (fun _ => rfl) ?gs ?gb ?ge
      case gs => rintro i c ⟨hc1, hc2⟩; rw [List.length_map]; rcases Nat.lt_or_ge 2 c.length with q | q; (obtain ⟨z, hz, _⟩ := hc2 2 _ (List.getElem?_eq_getElem q); cases hz); omega
      case gb =>
        rintro i v c I oI F3 n3 C3 s8 hv ⟨hc1, hc2⟩ eC hC8 y
        obtain ⟨q, Fq, gq, hq, rfl, gFq, hgq⟩ : ∃ q Fq gq, [a, b][i]? = some q ∧ v = .ref Fq ∧ sB.heap.get? Fq = some (lstO gq 0) ∧ Txs gq (cs q) := by
          match i, hv with
          | 0, hv => exact ⟨a, Fa, ga, rfl, (Option.some.inj hv).symm, gFa, hga⟩
          | 1, hv => exact ⟨b, Fb, gb, rfl, (Option.some.inj hv).symm, gFb, hgb⟩
        have hqm := List.mem_of_getElem? hq
        unfold TurnOk
        repeat (walk_at "m")
        rename_i sI xI
        have WI := xI.wd WB
        have gFq2 := xI.get0 gFq
        have hCur2 := xI.get0 hCur
        refine' compIt (k := 0) (clF := fun _ => [("curdir", L + 2)]) (vs := gq) (σ := List Value)
          (fun j c => Txs c (((cs q).take j).filter okc)) (fun c => c) (fun _ _ => []) [] eC R' (fun _ => rfl) (by decide) (fun _ => rfl) rfl (.inl ⟨0, gFq2⟩) Txs.nil rfl (fun _ => rfl) ?hs ?hb ?he
        case hs =>
          intro j c2 hc
          have h1 := hc.1
          have h2 := List.length_filter_le okc ((cs q).take j)
          have h3 := jn_sum 47 (cs q)
          have h4 := hcsz q hqm
          rw [List.length_take] at h2; omega
        case hb =>
          rintro j v c2 J oJ G k4 C4 s9 hv2 hc eC2 hC9 y2
          obtain ⟨z, uz, hz, rfl⟩ := hgq.2 j v hv2
          have hzl : z.length ≤ 1000 := by
            have h1 := jn_mem 47 (List.mem_of_getElem? hz)
            have h2 := hcsz q hqm; omega
          have htk : (cs q).take (j + 1) = (cs q).take j ++ [z] := by rw [List.take_add_one, hz]; rfl
          unfold TurnOk
          repeat (walk_at "m")
          by_cases h0 : z = []
          · subst h0
            refine ifF (by decide) ?_
            repeat (walk_at "m")
            refine ⟨c2, _, ?_, rfl, by assumption⟩
            show Txs _ _
            rw [htk, List.filter_append, List.filter_cons_of_neg (by decide), List.filter_nil, List.append_nil]
            exact hc
          · refine ifT (by simpa using h0) ?_
            repeat (walk_at "m")
            by_cases h1 : z = [46]
            · subst h1
              refine ifF (by decide) ?_
              repeat (walk_at "m")
              refine ⟨c2, _, ?_, rfl, by assumption⟩
              show Txs _ _
              rw [htk, List.filter_append, List.filter_cons_of_neg (by decide), List.filter_nil, List.append_nil]
              exact hc
            · have h2 : (z != [46]) = true := by simpa using h1
              rw [h2]
              refine ifTT ?_
              repeat (walk_at "m")
              refine ⟨c2 ++ [_], _, ?_, rfl, by assumption⟩
              show Txs _ _
              have h3 : okc z = true := by unfold okc; simp [h0, h1]
              rw [htk, List.filter_append, List.filter_cons_of_pos h3, List.filter_nil]
              exact hc.snoc
        case he =>
          rintro c2 G k4 C4 s9 hc hC9 y2
          refine' compEndN xI hC9 y2 ?_
          intro s10 x10
          simp only [List.cons_append, List.nil_append] at x10
          rw [hgq.1, List.take_length, hfil q hqm] at hc
          refine ⟨c ++ [(G, c2, k4)], _, ⟨by rw [List.length_append, hc1]; rfl, fun j p hj => ?_⟩, by simp, x10.perm ?_⟩
          · rcases Nat.lt_trichotomy j c.length with hlt | heq | hgt
            · rw [List.getElem?_append_left hlt] at hj; exact hc2 j p hj
            · subst heq
              rw [List.getElem?_append_right (Nat.le_refl _), Nat.sub_self] at hj
              cases hj
              exact ⟨q, by rw [hc1]; exact hq, hc⟩
            · rw [List.getElem?_eq_none (by simp; omega)] at hj; cases hj
          · show List.Perm _ ((F3, lstO (c.map fun p => .ref p.1) n3) :: (I, oI) :: ((c ++ [(G, c2, k4)]).map fun p => (p.1, lstO p.2.1 p.2.2)).reverse)
            rw [List.map_append, List.reverse_append]
            exact (List.Perm.swap ..).trans ((List.Perm.swap ..).cons _)
      case ge =>
        rintro c F3 n3 C3 s8 ⟨hc1, hc2⟩ hC8 y
        refine' compEndS xB e hL (by decide +kernel) hC8 y ?u ?_
        case u => walk_at "up"
        intro s9 x9
        obtain ⟨⟨Ga, va', na⟩, ⟨Gb, vb', nb⟩, rfl⟩ : ∃ p1 p2, c = [p1, p2] := by
          match c, hc1 with
          | [p1, p2], _ => exact ⟨p1, p2, rfl⟩
        obtain ⟨_, qa, hva⟩ := hc2 0 _ rfl
        obtain ⟨_, qb, hvb⟩ := hc2 1 _ rfl
        cases qa; cases qb
        dsimp only at hva hvb
        simp only [List.map_cons, List.map_nil, List.reverse_cons, List.reverse_nil, List.nil_append, List.cons_append] at x9
        repeat (walk_at "m")
        refine' vMin2 (Rm.le (k := 5) (by assumption) (by decide)) (x9.get1 (by walk_at "mem")) (x9.get1 (by walk_at "mem")) (x9.get1 (by walk_at "mem")) hva hvb x9 ?_
        intro s10 x10
        repeat (walk_at "m")
        rename_i s11 x11
        refine' vMax2 (Rm.le (k := 5) (by assumption) (by decide)) (x11.get1 (by walk_at "mem")) (x11.get1 (by walk_at "mem")) (x11.get1 (by walk_at "mem")) hva hvb x11 ?_
        intro s12 x12
        repeat (walk_at "m")
        rename_i s13 x13
        obtain ⟨vm, nm, hmm, tmm⟩ : ∃ vm nm, ((if b < a then Gb else Ga), lstO vm nm) ∈ [(Gb, lstO vb' nb), (Ga, lstO va' na)] ∧ Txs vm (if b < a then b else a) := by
          by_cases q : b < a
          · rw [if_pos q, if_pos q]; exact ⟨vb', nb, .head _, hvb⟩
          · rw [if_neg q, if_neg q]; exact ⟨va', na, .tail _ (.head _), hva⟩
        obtain ⟨vM, nM, hMM, tMM⟩ : ∃ vm nm, ((if a < b then Gb else Ga), lstO vm nm) ∈ [(Gb, lstO vb' nb), (Ga, lstO va' na)] ∧ Txs vm (if a < b then b else a) := by
          by_cases q : a < b
          · rw [if_pos q, if_pos q]; exact ⟨vb', nb, .head _, hvb⟩
          · rw [if_neg q, if_neg q]; exact ⟨va', na, .tail _ (.head _), hva⟩
        obtain ⟨hcx, hle⟩ := mm_ok a b
        have zmm : ((if b < a then b else a).map (·.length)).sum + (if b < a then b else a).length ≤ 300 := by
          rw [← pt_len]; split <;> omega
        have zMM : (if a < b then b else a).length ≤ 300 := by
          have h1 := pt_len (if a < b then b else a)
          have h2 : (pt (if a < b then b else a)).length ≤ 250 := by split <;> assumption
          omega
        generalize (if b < a then Gb else Ga) = Gm at *
        generalize (if b < a then b else a) = mm at *
        generalize (if a < b then Gb else Ga) = GM at *
        generalize (if a < b then b else a) = MM at *
        rw [← hcx] at h
        have hx : In s L [("s1", .ref Gm), ("s2", .ref GM), ("common", .ref Gm), ("isabs", .bool true)] [(Gb, lstO vb' nb), (Ga, lstO va' na), (L + 1, cellP os (some (.str (S [47]) tsep)))] s13 := by
          refine' (In.forget x13 ?A1).drop ?B1
          case B1 => (try dsimp only); walk_at "sl"
          case A1 => (try dsimp only); walk_at "sub"
        clear x13
        have gm : ∀ {l' nw' s'}, In s L l' nw' s' → (Gb, lstO vb' nb) ∈ nw' → (Ga, lstO va' na) ∈ nw' → s'.heap.get? Gm = some (lstO vm nm) := by
          intro l' nw' s' z z1 z2
          rcases List.mem_cons.mp hmm with q | q
          · cases q; exact z.get1 z1
          · rw [List.mem_singleton] at q; cases q; exact z.get1 z2
        have hjm : ∀ i, ((mm.take i).map (·.length)).sum + (mm.take i).length ≤ 300 := by
          intro i
          have := congrArg (fun l => (l.map (·.length)).sum + l.length) (List.take_append_drop i mm)
          simp only [List.map_append, List.sum_append, List.length_append] at this
          omega
        have hjz : ∀ i, (jn 47 (mm.take i)).length ≤ 300 := fun i => Nat.le_trans (jn_sum2 47 _) (hjm i)
        have gm13 : s13.heap.get? Gm = some (lstO vm nm) := by
          rcases List.mem_cons.mp hmm with q | q
          · cases q; exact hx.get1 (by walk_at "mem")
          · rw [List.mem_singleton] at q; cases q; exact hx.get1 (by walk_at "mem")
        refine' vEnum gm13 hx ?_
        intro en it oi s14 hit x14
        refine' iterE (vs := vm) (σ := Unit) (fun i _ => mm.take i = MM.take i) (fun _ => [("s1", .ref Gm), ("s2", .ref GM), ("common", .ref Gm), ("isabs", .bool true)]) (fun _ => [(Gb, lstO vb' nb), (Ga, lstO va' na), (L + 1, cellP os (some (.str (S [47]) tsep)))]) ()
          e hL (by decide +kernel) (by decide +kernel) R' hit x14 (.inr fun _ _ _ => List.mem_append_left [(L + 1, cellP os (some (.str (S [47]) tsep)))] hmm) rfl ?lb ?le
        case lb =>
          rintro i tk v _ en' oe oi' s15 hv hinv hoi y
          obtain ⟨z, uz, hz, rfl⟩ := tmm.2 i v hv
          have him : i < mm.length := by
            rcases Nat.lt_or_ge i mm.length with q | q
            · exact q
            · rw [List.getElem?_eq_none q] at hz; cases hz
          have hiM : i < MM.length := by
            rcases Nat.lt_or_ge i MM.length with q | q
            · exact q
            · exfalso
              have e1 := take_lt mm i him
              rw [hinv, List.take_of_length_le q] at e1
              exact hle e1
          obtain ⟨z2, hz2⟩ : ∃ z2, MM[i]? = some z2 := ⟨_, List.getElem?_eq_getElem hiM⟩
          obtain ⟨uz2, hvz2⟩ := tMM.get hz2
          have gM15 : s15.heap.get? GM = some (lstO vM nM) := by
            rcases List.mem_cons.mp hMM with q | q
            · cases q; exact y.get1 (by walk_at "mem")
            · rw [List.mem_singleton] at q; cases q; exact y.get1 (by walk_at "mem")
          repeat (walk_at "m")
          refine' tIx (v := .str (S z2) uz2) gM15 (by omega) ?c2 ?c3 ?_ ?c4
          case c2 => rw [tMM.1]; omega
          case c3 => simpa using hvz2
          case c4 => with_unfolding_all rfl
          repeat (walk_at "m")
          by_cases hzz : z = z2
          · refine ifF (by simp [hzz]) ?_
            repeat (walk_at "m")
            refine' lqN (by assumption) ((), oi') ⟨?h1, hoi⟩ ?h2 ?h3
            case h2 => (try dsimp only); walk_at "sub"
            case h3 => walk_at "sl"
            case h1 =>
              rw [List.take_add_one, List.take_add_one, hinv, hz, hz2, hzz]
          · refine ifT (by simp [hzz]) ?_
            repeat (walk_at "m")
            have hcp : cpx mm MM = mm.take i := cpx_take mm MM i hinv (.inr ⟨him, hiM, by rw [hz, hz2]; simpa using hzz⟩)
            refine' tLsTo (vs := vm) (gm y (by walk_at "mem") (by walk_at "mem")) (by omega) ?c2 y ?_ ?c3
            case c2 => rw [tmm.1]; omega
            case c3 => with_unfolding_all rfl
            intro G2 s17 x17
            repeat (walk_at "m")
            refine lqB ?_
            repeat (walk_at "m")
            rename_i s18 x18
            have ht3 : Txs (vm.take ((i : Int)).toNat) (mm.take i) := tmm.take i
            refine' vJoin (isl (x18.get1 (by walk_at "mem"))) ht3 ?j1 x18 ?_
            case j1 => have := hjm i; omega
            intro _ _ _
            have hjz1 := hjz i
            repeat (walk_at "m")
            rw [hcp] at h
            exact h _ _ (In.done (by assumption))
        case le =>
          rintro _ s15 hinv y
          rw [tmm.1, List.take_length] at hinv
          have hfin : cpx mm MM = mm := by rw [cpx_take mm MM mm.length (by rw [List.take_length]; exact hinv) (.inl rfl), List.take_length]
          repeat (walk_at "m")
          rename_i s18 x18
          refine' vJoin (isl (gm x18 (by walk_at "mem") (by walk_at "mem"))) tmm ?j2 x18 ?_
          case j2 => omega
          intro _ _ _
          have hjz1 := hjz mm.length
          rw [List.take_length] at hjz1
          repeat (walk_at "m")
          rw [hfin] at h
          exact h _ _ (In.done (by assumption))
theorem k_common {a b : List (List Nat)} {D : Addr} {m : Nat} {va vb : Tok} (x : In s₀ L l nw s) (W : Wd s₀.heap) (R : Rm 16 A) (hD : s.heap.get? D = some (lstO [.str (S (hd' (pt a))) va, .str (S (hd' (pt b))) vb] m)) (ha : ∀ q ∈ a, Nm q) (hb : ∀ q ∈ b, Nm q) (za : (pt a).length ≤ 250) (zb : (pt b).length ≤ 250)
    (h : ∀ t' s', In s₀ L l nw s' → Q (.str (S (47 :: jn 47 (cpx a b))) t') s') : wpAny (model PW w) A (call (.ref 155) [.ref D]) Q E s :=
  c_common hD ha hb za zb (x.wd W) R fun _ _ k => h _ _ (x.step k)
end
end
section
local macro_rules | `(tactic| walk_at "nm") => alts ["R r127 c1 c2 c3 c4 _;c1>a;c2>a;c3>a;c4>D;i 1"]
/-- what a row of sizes gives, one after the other -/
noncomputable def gst : List Nat → Option Nat → Nat → Option Nat
  | [], _, _ => none
  | z :: r, la, k => if z = 127 then none else if z = 0 then la else match k with
    | 0 => some z
    | k + 1 => gst r (some z) k
/-- nought does not stand first -/
noncomputable def gOk : List Nat → Option Nat → Bool
  | [], _ => true
  | z :: r, la => if z = 127 then true else if z = 0 then la.isSome else gOk r (some z)
noncomputable def GSt (L I : Addr) (s₀ s : Shared) : Prop := ∃ h tk, s = { s₀ with heap := h, toks := tk } ∧ ∀ b o, b ≠ L → b ≠ I → s₀.heap.get? b = some o → h.get? b = some o
noncomputable def gY (T : Nat → Option Nat) (N : Nat) (H₀ : Heap) (L I : Addr) : Protocol := fun m s₀ v s kap =>
  m = 0 ∨ ((∃ (z : Nat) (t : Tok), v = .int (z : Int) t ∧ T (N - 1 - m) = some z) ∧ GSt L I s₀ s ∧
    ∃ oL oI, s.heap.get? L = some oL ∧ s.heap.get? I = some oI ∧ ∀ s'' : Shared, Keep H₀ s''.heap → s''.heap.get? L = some oL → s''.heap.get? I = some oI → kap (.send .none) s'')
noncomputable def gP (T : Nat → Option Nat) (N : Nat) (L I : Addr) : Nat → Shared → Shared → Prop := fun n s₀ s₁ => n = 0 ∨ (T (N - n) = none ∧ GSt L I s₀ s₁)
noncomputable abbrev gR (T : Nat → Option Nat) (N : Nat) (L I : Addr) : GenEnd := fun n s₀ r s₁ => r = .ok (.ret .none) ∧ gP T N L I n s₀ s₁
noncomputable def gForT : PySem.Expr := match fBody (stmtAt 32) with | [_, .For t _ _ _ _] => t | _ => .Name "" ⟨0, 0, 0, 0⟩
noncomputable def gForB : List Stmt := match fBody (stmtAt 32) with | [_, .For _ _ b _ _] => b | _ => []
noncomputable def gK0 : Flow → Sem PySem.Fin := fun f => .pure (.done (.ret (match f with | .ret v => v | _ => .none)))
noncomputable def gH0 (env : Env) : Value → Sem PySem.Fin := fun e => (leaving env e).wrap (fun _ => .raise e) .raise id id
noncomputable def LaV (la : Option Nat) (v : Value) : Prop := match la with | none => v = .none | some z => ∃ t, v = .int (z : Int) t
section
variable {w : World} {A : Around} {s₀ s b : Shared} {env : Env} {L I G : Addr} {l : List (Str × Value)} {nw : List (Addr × Obj)} {T : Nat → Option Nat} {N : Nat} {H₀ : Heap}
theorem GSt.of (hb : ∃ h tk, b = { s₀ with heap := h, toks := tk }) (hk : ∀ c o, c ≠ L → c ≠ I → s₀.heap.get? c = some o → b.heap.get? c = some o) (x : In b L l nw s) : GSt L I s₀ s := by
  obtain ⟨h, tk, rfl⟩ := hb
  obtain ⟨h', tk', rfl⟩ := x.same
  exact ⟨h', tk', rfl, fun c o h1 h2 e => x.keep c o (hk c o h1 h2 e)⟩
/-- the generator wakes: its own things stand as they stood -/
theorem wake_in {oI : Obj} (x : In b L l [(I, oI)] s) {oL : Obj} (hoL : s.heap.get? L = some oL) {s'' : Shared} (h1 : s''.heap.get? L = some oL) (h2 : s''.heap.get? I = some oI) :
    In { s'' with heap := hideAll s''.heap [L, I] } L l [(I, oI)] s'' := by
  have hI := x.nw (I, oI) (.head _)
  refine ⟨⟨s''.heap, s''.toks, rfl⟩, let ⟨m, n, hm⟩ := x.ns; ⟨m, n.at' fun o e => ?_, hm⟩, fun c o e => of_hideAll _ e, fun p hp => ?_, List.pairwise_singleton ..⟩
  · rw [hoL] at e; cases e; exact h1
  · rw [List.mem_singleton] at hp; subst hp
    exact ⟨h2, hI.2.1, hideAll_none _ (.tail _ (.head _))⟩
structure GBase (H₀ : Heap) (L I G : Addr) (s₀ b : Shared) (vs : List Value) (m : Nat) : Prop where
  same : ∃ h tk, b = { s₀ with heap := h, toks := tk }
  kept : ∀ c o, c ≠ L → c ≠ I → s₀.heap.get? c = some o → b.heap.get? c = some o
  wd : Wd b.heap
  g : b.heap.get? G = some (lstO vs m)
  nL : b.heap.get? L = none
theorem GBase.wake {vs : List Value} {m : Nat} (W : Wd H₀) (hG : H₀.get? G = some (lstO vs m)) (nL : H₀.get? L = none) (nI : H₀.get? I = none) {s'' : Shared} (k : Keep H₀ s''.heap) :
    GBase H₀ L I G s'' { s'' with heap := hideAll s''.heap [L, I] } vs m := by
  have k2 : Keep H₀ (hideAll s''.heap [L, I]) := fun c o e => hideAll_get _ (k c o e) fun q => by
    rcases List.mem_cons.mp q with rfl | q
    · rw [nL] at e; cases e
    · rw [List.mem_singleton] at q; subst q; rw [nI] at e; cases e
  exact ⟨⟨_, _, rfl⟩, fun c o h1 h2 e => hideAll_get _ e fun q => by
    rcases List.mem_cons.mp q with rfl | q
    · exact h1 rfl
    · rw [List.mem_singleton] at q; exact h2 q, W.keeps k2, k2 _ _ hG, hideAll_none _ (.head _)⟩
/-- a yield, by the protocol -/
theorem gY_of {n : Nat} {z : Nat} {t : Tok} {oI : Obj} {c : Code} {tr : Sem PySem.Fin} {fs : List Frame} {vs : List Value} {m : Nat} (B : GBase H₀ L I G s₀ b vs m) (x : In b L l [(I, oI)] s) (hT : T (N - n) = some z)
    (W : Wd H₀) (hG : H₀.get? G = some (lstO vs m)) (nL : H₀.get? L = none) (nI : H₀.get? I = none)
    (go : ∀ n', n = n' + 1 → ∀ s'' b', GBase H₀ L I G s'' b' vs m → In b' L l [(I, oI)] s'' → Seg (model PW w) A (gR T N L I) (gY T N H₀ L I) n' s'' c tr fs s'') :
    ∀ kap : Resume → Shared → Prop, (∀ x s'', (match x with | .ref _ => False | _ => Seg.next (model PW w) A (gR T N L I) (gY T N H₀ L I) n c tr fs s'') → kap (.send x) s'') →
      gY T N H₀ L I (n - 1) s₀ (.int (z : Int) t) s kap := by
  intro kap hk
  match n with
  | 0 => exact .inl rfl
  | 1 => exact .inl rfl
  | n' + 2 =>
    obtain ⟨mm, ⟨oL, r1, r2, hoL, r3⟩, hm⟩ := id x.ns
    refine .inr ⟨⟨z, t, rfl, by rw [← hT]; congr 1; first | exact gy _ _ | omega⟩, GSt.of B.same B.kept x, oL, oI, hoL, (x.nw (I, oI) (.head _)).1, fun s'' k1 h1 h2 => hk _ s'' (go (n' + 1) rfl s'' _ (GBase.wake W hG nL nI k1) (wake_in x hoL h1 h2))⟩
noncomputable def gWhB : List Stmt := match gForB with | [_, .If _ [_, .While _ b _ _] _ _, _, _] => b | _ => []
noncomputable def gWhT : PySem.Expr := match gForB with | [_, .If _ [_, .While t _ _ _] _ _, _, _] => t | _ => .Name "" ⟨0, 0, 0, 0⟩
theorem Rm.overB {k : Nat} {c : Code} {fs : List Frame} (R : Rm (k + 3) A) (h1 : (A.over c fs).handled = A.handled) (h2 : frameCount (fs.map Frame.where_) + c.weight ≤ 3) (h3 : unitsOf (fs.map Frame.where_) + c.cUnits ≤ 9) : Rm k (A.over c fs) := by
  refine ⟨h1.trans R.hd, ?_, ?_⟩
  · have := R.dp
    show A.depth + frameCount (fs.map Frame.where_) + c.weight + k < 1000
    omega
  · have := R.un
    show A.units + unitsOf (fs.map Frame.where_) + c.cUnits + 10 * k < 9000
    omega
/-- the loop that has no end -/
theorem gWhile {vs : List Value} {m : Nat} {oI : Obj} {z : Nat} {c1 c2 : Code} {K1 K2 : Flow → Sem PySem.Fin} {H1 H2 : Value → Sem PySem.Fin} {p1 p2 : Pos} (e : EnvIs env L (fScope (stmtAt 32)) []) (hi : interactive env = false)
    (W : Wd H₀) (hG : H₀.get? G = some (lstO vs m)) (nL : H₀.get? L = none) (nI : H₀.get? I = none) (hR : ∀ c, c.weight ≤ 1 → c.cUnits ≤ 3 → Rm 3 (A.over c [gFr env K1 H1 id id c1 p1, gFr env K2 H2 id id c2 p2])) :
    ∀ (n : Nat) (s₀ s b : Shared) (lv : List (Str × Value)) (t : Tok), GBase H₀ L I G s₀ b vs m → In b L lv [(I, oI)] s → lv.lookup ("last_interval" : Str) = some (Value.int (z : Int) t) → (∀ j, T (N - n + j) = some z) → n ≤ N →
      Seg (model PW w) A (gR T N L I) (gY T N H₀ L I) n s₀ (.whileLoop gWhT gWhB [] env) ((model PW w).den (.whileLoop gWhT gWhB [] env)) [gFr env K1 H1 id id c1 p1, gFr env K2 H2 id id c2 p2] s := by
  intro n
  induction n using Nat.strongRecOn with
  | ind n ih =>
    intro s₀ s b lv t B x hl hT hn
    have W1 := B.wd
    have R1 := hR (.whileLoop gWhT gWhB [] env) (Nat.le_of_ble_eq_true rfl) (Nat.le_of_ble_eq_true rfl)
    refine sgWhileLoop ?_
    show wpAny _ _ (PySem.isTrue (.Constant (.bool true) _ _) env (eval (.Constant (.bool true) _ _) env)) _ _ _
    repeat (walk_at "m")
    refine ⟨rfl, ?_⟩
    show Seg _ _ _ _ _ _ _ (Sem.wrap _ _ _ _ (execs [.Expr (.Yield (some (.Name _ _)) _) _] env)) _ _
    refine sgYield rfl rfl rfl ?_ (by rw [e.scope]; decide +kernel) hi
    refine rL e x (by decide +kernel) hl ?_ (by decide +kernel)
    refine gY_of B x (hT 0) W hG nL nI fun n' hn' s'' b' B' x' => ?_
    refine seg_again rfl (ih n' (by omega) s'' s'' b' lv t B' x' hl (fun j => ?_) (by omega))
    rw [← hT (j + 1)]; congr 1; first | exact lp (by assumption) (by assumption) | omega
/-- the loop over the sizes -/
theorem gFor {zs : List Nat} {vs : List Value} {m : Nat} (e : EnvIs env L (fScope (stmtAt 32)) []) (hi : interactive env = false) (hzs : IntsAre vs (zs.map fun z : Nat => (z : Int)))
    (W : Wd H₀) (hG : H₀.get? G = some (lstO vs m)) (nL : H₀.get? L = none) (nI : H₀.get? I = none) (R : Rm 6 A) :
    ∀ (n : Nat) (i : Nat) (la : Option Nat) (s₀ s b : Shared) (lv : List (Str × Value)) (la' : Value) (oI : Obj), GBase H₀ L I G s₀ b vs m → In b L lv [(I, oI)] s → s.heap.IsListIter I G i → i ≤ vs.length → lv.lookup ("last_interval" : Str) = some la' → LaV la la' →
      (∀ j, T (N - n + j) = gst (zs.drop i) la j) → gOk (zs.drop i) la = true → n ≤ N →
      ∀ p, Seg (model PW w) A (gR T N L I) (gY T N H₀ L I) n s₀ (.forLoop gForT (.ref I) gForB [] env) ((model PW w).den (.forLoop gForT (.ref I) gForB [] env)) [gFr env (gK [] env gK0 (gH0 env) id id) (gH0 env) id id (.func (fBody (stmtAt 32)) env) p] s := by
  intro n
  induction n using Nat.strongRecOn with
  | ind n ih =>
    intro i la s₀ s b lv la' oI B x hit hil hlv hla hT hok hn p
    have W1 := B.wd
    have hGI : G ≠ I := fun q => by rw [q, nI] at hG; cases hG
    have R1 : Rm 3 (A.over (.forLoop gForT (.ref I) gForB [] env) [gFr env (gK [] env gK0 (gH0 env) id id) (gH0 env) id id (.func (fBody (stmtAt 32)) env) p]) := R.overB rfl (Nat.le_of_ble_eq_true rfl) (Nat.le_of_ble_eq_true rfl)
    show Seg _ _ _ _ _ _ (.forLoop (.Name _ _) _ _ _ _) _ _ _
    refine sgForLoop (by funext _; rfl) ?_
    have hgl : s.heap.IsList G vs.toArray := isl (x.keep _ _ B.g)
    have WL := Walks.list (prog := PW) (w := w) R1.hd I G hGI vs.toArray
    have noI : ∀ {h' : Heap}, (∀ b ob, b ∉ [I] → s.heap.get? b = some ob → h'.get? b = some ob) → Heap.ExtBut I s.heap h' := fun hk b ob hb e => hk b ob (fun hm => hb (List.mem_singleton.mp hm)) e
    by_cases hlt : i < vs.length
    · refine WL.item i s _ _ (by simpa using hlt) ⟨hit, hgl⟩ fun v h' tk hv hst' hk => ?_
      have hx' := noI hk
      obtain ⟨oI', ho', rit⟩ := id hst'.1
      have y := x.turn (tk := tk) (nw' := [(I, oI')]) .hit hx' ho'
      refine rStC e y B.nL (by decide +kernel) fun s₂ y₂ => ?_
      have hgz : ∃ (z : Nat) (u : Tok), zs[i]? = some z ∧ v = .int (z : Int) u := by
        have hv' : vs[i]? = some v := by simpa using hv
        obtain ⟨q, u, hq, rfl⟩ := Ints.get hzs hv'
        rw [List.getElem?_map] at hq
        obtain ⟨z, hz, rfl⟩ := Option.map_eq_some_iff.mp hq
        exact ⟨z, u, hz, rfl⟩
      obtain ⟨z, u, hz, rfl⟩ := hgz
      have hd : zs.drop i = z :: zs.drop (i + 1) := by
        obtain ⟨hl, e1⟩ := List.getElem?_eq_some_iff.mp hz
        rw [List.drop_eq_getElem_cons hl, e1]
      rw [hd] at hok
      have hT' : ∀ j, T (N - n + j) = gst (z :: zs.drop (i + 1)) la j := fun j => by rw [← hd]; exact hT j
      have hG2 : GSt L I s₀ s₂ := GSt.of B.same B.kept y₂
      show Seg _ _ _ _ _ _ _ (Sem.wrap _ _ _ _ (execs [.If _ _ _ _, .If _ _ _ _, .Expr _ _, .Assign _ _ _] env)) _ _
      have W2 := y₂.wd W1
      refine sgIf ?_
      repeat (walk_at "m")
      refine ifB (fun h127 => ?_) (fun h127 => ?_)
      · have hz7 : z = 127 := by have := eq_of_beq h127; omega
        refine sgX ?_
        refine xReturnN ?_
        show Seg _ _ _ _ _ _ _ (leafOf (.ok (.ret .none))) _ _
        refine sgBack ?_
        show Seg _ _ _ _ _ _ _ (leafOf (.ok (.ret .none))) _ _
        refine seg_end _ ⟨rfl, .inr ⟨(hT' 0).trans (by unfold gst; rw [if_pos hz7]), ?_⟩⟩
        exact GSt.of B.same B.kept (by assumption)
      · have hz7 : z ≠ 127 := fun q => by rw [q] at h127; exact absurd h127 (by decide)
        refine sgNil ?_
        show Seg _ _ _ _ _ _ _ (Sem.wrap _ _ _ _ (execs [.If _ _ _ _, .Expr _ _, .Assign _ _ _] env)) _ _
        refine sgIf ?_
        repeat (walk_at "m")
        have hN : n ≤ N := hn
        refine ifB (fun h0 => ?_) (fun h0 => ?_)
        · have hz0 : z = 0 := by have := eq_of_beq h0; omega
          subst hz0
          obtain ⟨zl, rfl⟩ : ∃ zl, la = some zl := by
            unfold gOk at hok
            rw [if_neg (by decide), if_pos rfl] at hok
            exact Option.isSome_iff_exists.mp hok
          obtain ⟨tl, rfl⟩ := hla
          show Seg _ _ _ _ _ _ _ (Sem.wrap _ _ _ _ (execs [.If _ _ _ _, .While _ _ _ _] env)) _ _
          refine sgIf ?_
          have hlv2 : List.lookup ("last_interval" : Str) ((("interval" : Str), Value.int ((0 : Nat) : Int) u) :: lv) = some (.int (zl : Int) tl) := lkMiss (by decide +kernel) hlv
          rename_i y3
          have y4 := y3.forget (Sub'.cons hlv2 Sub'.nil)
          clear y3
          refine wpAny_mono (Q := fun bb s' => bb = false ∧ In b L [("last_interval", Value.int (zl : Int) tl)] [(I, oI')] s') ?_ (fun bb s' q => ?_) fun _ _ q => q
          · repeat (walk_at "m")
            refine wpAny_is_other rfl (fun q => by cases q) ?_
            repeat (walk_at "m")
            exact ⟨rfl, by assumption⟩
          · obtain ⟨rfl, y5⟩ := q
            rw [if_neg (by decide)]
            refine sgNil ?_
            show Seg _ _ _ _ _ _ _ (Sem.wrap _ _ _ _ (execs [.While _ _ _ _] env)) _ _
            refine sgWhile fun p' => ?_
            refine gWhile e hi W hG nL nI (fun c h1 h2 => R.overB rfl ?_ ?_) n s₀ _ b _ tl B y5 lkHit (fun j => ?_) hn
            · exact Nat.add_le_add (show _ ≤ 2 from Nat.le_of_ble_eq_true rfl) h1
            · exact Nat.add_le_add (show _ ≤ 6 from Nat.le_of_ble_eq_true rfl) h2
            · rw [hT' j]; unfold gst; rw [if_neg (by decide), if_pos rfl]
        · have hz0 : z ≠ 0 := fun q => by rw [q] at h0; exact absurd h0 (by decide)
          refine sgNil ?_
          show Seg _ _ _ _ _ _ _ (Sem.wrap _ _ _ _ (execs [.Expr (.Yield (some (.Name _ _)) _) _, .Assign _ _ _] env)) _ _
          refine sgYield rfl rfl rfl ?_ (by rw [e.scope]; decide +kernel) hi
          rename_i y5
          refine rL e y5 (by decide +kernel) lkHit ?_ (by decide +kernel)
          have hT1 : ∀ j, gst (z :: zs.drop (i + 1)) la (j + 1) = gst (zs.drop (i + 1)) (some z) j := fun j => by
            conv => lhs; unfold gst
            rw [if_neg hz7, if_neg hz0]
          refine gY_of (z := z) B y5 ((hT' 0).trans (by unfold gst; rw [if_neg hz7, if_neg hz0])) W hG nL nI fun n' hn' s'' b' B' x' => ?_
          have W5 := B'.wd
          refine sgX ?_
          refine xAssign ?_
          refine rL e x' (by decide +kernel) lkHit ?_ (by decide +kernel)
          refine rStC e x' B'.nL (by decide +kernel) fun s6 x6 => ?_
          refine xNil ?_
          show Seg _ _ _ _ _ _ _ (.pure (.again _)) _ _
          have hok2 : gOk (zs.drop (i + 1)) (some z) = true := by
            conv at hok => lhs; unfold gOk
            rw [if_neg hz7, if_neg hz0] at hok
            exact hok
          refine seg_again rfl (ih n' (by omega) (i + 1) (some z) s'' s6 b' _ _ oI' B' x6 ⟨oI', (x6.nw _ (.head _)).1, rit⟩ hlt lkHit ⟨u, rfl⟩ (fun j => ?_) hok2 (by omega) p)
          rw [← hT1 j, ← hT' (j + 1)]; congr 1; first | exact lp (by assumption) (by assumption) | omega
    · have hin : i = vs.length := by omega
      subst hin
      refine WL.done s _ _ (by simpa using ⟨hit, hgl⟩) fun h' tk hk => ?_
      dsimp only
      refine sgBack ?_
      show Seg _ _ _ _ _ _ _ (leafOf (.ok (.ret .none))) _ _
      refine seg_end _ ⟨rfl, .inr ⟨(hT 0).trans (by rw [List.drop_of_length_le (by have := hzs.length; simp at this; omega)]; rfl), ?_⟩⟩
      obtain ⟨h1, tk1, e1, k1⟩ := GSt.of B.same B.kept x
      subst e1
      exact ⟨h', tk, rfl, fun c o h1 h2 e => hk c o (fun q => h2 (List.mem_singleton.mp q)) (k1 c o h1 h2 e)⟩
/-- the generator from its start -/
theorem gStart {zs : List Nat} {vs : List Value} {m : Nat} (e : EnvIs env L (fScope (stmtAt 32)) []) (hi : interactive env = false) (hzs : IntsAre vs (zs.map fun z : Nat => (z : Int)))
    (W : Wd H₀) (hG : H₀.get? G = some (lstO vs m)) (nL : H₀.get? L = none) (nI : H₀.get? I = none) (R : Rm 6 A) (B : GBase H₀ L I G s b vs m) (x : In b L [("grouping", .ref G)] [] s) (hI : I = s.heap.objs.size)
    (hT : ∀ j, T j = gst zs none j) (hok : gOk zs none = true) :
    Seg (model PW w) A (gR T N L I) (gY T N H₀ L I) N s (.func (fBody (stmtAt 32)) env) ((model PW w).den (.func (fBody (stmtAt 32)) env)) [] s := by
  have W1 := B.wd
  refine sgFunc ?_
  show Seg _ _ _ _ _ _ _ (Sem.wrap _ _ _ _ (execs [.Assign _ _ _, .For _ _ _ _ _] env)) _ _
  refine sgX ?_
  refine xAssign ?_
  repeat (walk_at "ev")
  obtain ⟨mm, nn, hm⟩ := id x.ns
  have el := e.locals
  subst el
  refine wpAny_storeName_local (e.kindOf (n := ("last_interval" : Str)) (by decide +kernel)) nn (fun h' hn hs => ?_) (by rw [e.k]; rfl)
  have x2 := x.setM (tk := s.toks + 1) (l' := [("last_interval", Value.none), ("grouping", .ref G)]) B.nL hm.cons hn hs
  refine xNil ?_
  show Seg _ _ _ _ _ _ _ (Sem.wrap _ _ _ _ (execs [.For _ _ _ _ _] env)) _ _
  refine sgFor (fun _ => rfl) ?_
  refine rL e x2 (by decide +kernel) (lkMiss (by decide +kernel) lkHit) ?_ (by decide +kernel)
  refine wpAny_pyIter_list (isl (x2.keep _ _ B.g)) fun p => ?_
  have hsz : h'.objs.size = I := by rw [hI]; exact hs.1
  have x3 := x2.pushN { cls := .type "list_iterator", data := .fields #[.ref G, .int 0 0] } rfl
  dsimp only at x3 ⊢
  rw [hsz] at x3 ⊢
  refine gFor e hi hzs W hG nL nI R N 0 none s _ b _ _ _ B x3 ⟨_, (x3.nw _ (.head _)).1, rfl, rfl⟩ (Nat.zero_le _) lkHit rfl (fun j => ?_) hok (Nat.le_refl _) p
  rw [List.drop_zero, ← hT j, Nat.sub_self, Nat.zero_add]
end
end
end
section
/-- the one ahead -/
noncomputable def prv (us : List (List (List Nat))) (i : Nat) : List (List Nat) := if i = 0 then [] else us.getD (i - 1) []
/-- what one place begins with, up to what it has in common with the one ahead -/
noncomputable def runUp (c : Nat) (u : List (List Nat)) (k : Nat) : List (List Nat) := (List.range (min k (u.length - c))).map fun j => pt (u.take (u.length - j))
noncomputable def runsL (us : List (List (List Nat))) (i : Nat) : List (List Nat) := (List.range i).flatMap fun j => runUp (cpx (prv us j) (us.getD j [])).length (us.getD j []) (us.getD j []).length
theorem hd_jn (a : List (List Nat)) : hd' (pt a) = 47 :: jn 47 a := by
  cases a with
  | nil => rfl
  | cons p a =>
    have h1 : pt (p :: a) ≠ [] := by rw [pt_cons]; simp
    rw [show hd' (pt (p :: a)) = pt (p :: a) from if_neg h1, pt_jn _ (by simp)]
theorem hd_pt {a : List (List Nat)} (h : a ≠ []) : hd' (pt a) = pt a := if_neg (fun q => h (pt_nil.mp q))
theorem cpx_pre : ∀ a b : List (List Nat), cpx a b = b.take (cpx a b).length
  | [], b => by cases b <;> rfl
  | _ :: _, [] => rfl
  | x :: a, y :: b => by
    unfold cpx
    by_cases h : x = y
    · rw [if_pos h, List.length_cons, List.take_succ_cons, ← cpx_pre a b, h]
    · rw [if_neg h]; rfl
theorem cpx_le (a b : List (List Nat)) : (cpx a b).length ≤ b.length := by
  have := congrArg List.length (cpx_pre a b)
  rw [List.length_take] at this; exact this ▸ Nat.min_le_right _ _
theorem runUp_succ (c : Nat) (u : List (List Nat)) (k : Nat) (h : k < u.length - c) : runUp c u (k + 1) = runUp c u k ++ [pt (u.take (u.length - k))] := by
  unfold runUp
  rw [Nat.min_eq_left (Nat.succ_le_of_lt h), Nat.min_eq_left (Nat.le_of_lt h), List.range_succ, List.map_append]; rfl
theorem runUp_stop (c : Nat) (u : List (List Nat)) (k : Nat) (h : ¬ k < u.length - c) : runUp c u (k + 1) = runUp c u k := by
  unfold runUp
  rw [Nat.min_eq_right (Nat.le_succ_of_le (Nat.not_lt.mp h)), Nat.min_eq_right (Nat.not_lt.mp h)]
theorem hd_lt {u : List (List Nat)} (hn : ∀ q ∈ u, q ≠ []) {c p : Nat} (h : c < p) (hp : p ≤ u.length) : (hd' (pt (u.take c))).length < (hd' (pt (u.take p))).length := by
  have h1 : u.take p ≠ [] := fun q => by have := congrArg List.length q; rw [List.length_take, List.length_nil] at this; omega
  have e : u.take p = u.take c ++ (u.drop c).take (p - c) := by rw [← List.take_add, Nat.add_sub_cancel' (Nat.le_of_lt h)]
  have hne : (u.drop c).take (p - c) ≠ [] := fun q => by have := congrArg List.length q; rw [List.length_take, List.length_drop, List.length_nil] at this; omega
  have hlen : 2 ≤ (pt ((u.drop c).take (p - c))).length := by
    obtain ⟨x, r, hx⟩ := List.exists_cons_of_ne_nil hne
    have hxm : x ∈ u := List.mem_of_mem_drop (List.mem_of_mem_take (by rw [hx]; simp))
    have := hn x hxm
    rw [hx, pt_cons]
    cases x with
    | nil => exact absurd rfl this
    | cons y x => simp
  rw [hd_pt h1, e, pt_app, List.length_append]
  by_cases h0 : u.take c = []
  · rw [h0]; show 1 < (pt []).length + _; have : (pt ([] : List (List Nat))).length = 0 := rfl; omega
  · rw [hd_pt h0]; omega
section
variable {w : World} {A : Around} {E : Value → Shared → Prop} {s₀ s : Shared} {L : Addr} {l : List (Str × Value)} {nw : List (Addr × Obj)} {Q : Value → Shared → Prop} {p : Str} {t u : Tok}
theorem k_common2 {a b : List (List Nat)} {p1 p2 : List Nat} {D : Addr} {m : Nat} {va vb : Tok} (x : In s₀ L l nw s) (W : Wd s₀.heap) (R : Rm 16 A) (e1 : p1 = hd' (pt a)) (e2 : p2 = hd' (pt b)) (hD : s.heap.get? D = some (lstO [.str (S p1) va, .str (S p2) vb] m)) (ha : (∀ q ∈ a, Nm q) ∧ (pt a).length ≤ 250) (hb : (∀ q ∈ b, Nm q) ∧ (pt b).length ≤ 250)
    (h : ∀ t' s', In s₀ L l nw s' → Q (.str (S (47 :: jn 47 (cpx a b))) t') s') : wpAny (model PW w) A (call (.ref 155) [.ref D]) Q E s := by
  subst e1 e2
  exact k_common x W R hD ha.1 hb.1 ha.2 hb.2 h
end
section
variable {w : World} {A : Around} {E : Value → Shared → Prop} {s₀ s : Shared} {L : Addr} {l : List (Str × Value)} {nw : List (Addr × Obj)} {Q : Value → Shared → Prop} {p : Str} {t u : Tok}
set_option maxHeartbeats 1000000 in
theorem c_runs {us : List (List (List Nat))} {D : Addr} {vs : List Value} {m : Nat} (hD : s.heap.get? D = some (lstO vs m)) (ht : Txs vs (us.map pt)) (hn : ∀ u ∈ us, u.length = us.length ∧ (∀ q ∈ u, Nm q) ∧ (pt u).length ≤ 250) (h7 : us.length ≤ 7) (h0 : us ≠ []) (W : Wd s.heap) (R : Rm 20 A)
    (h : ∀ F ws k s', Keeps s s' → s.heap.get? F = none → s'.heap.get? F = some (lstO ws k) → Txs ws (srt (runsL us us.length)) → Q (.ref F) s') : wpAny (model PW w) A (call (.ref 272) [.ref D]) Q E s := by
  refine enter (i := 43) (dV := .none) (kV := .none) (n := 19) W (by decide) R (binds := [("ordered", .ref D)]) (l := [("ordered", .ref D)]) (ns := ["ordered"]) (fun _ _ _ => BindsTo.of_eq (by with_unfolding_all rfl)) rfl rfl (by decide +kernel) fun env L A' s₁ e R' hi hL x => ?_
  clear R
  have hvl : vs.length = us.length := by rw [ht.1, List.length_map]
  have hpos : 0 < us.length := List.length_pos_iff.mpr h0
  have hpN : ∀ j, (∀ q ∈ prv us j, Nm q) ∧ (pt (prv us j)).length ≤ 250 := by
    intro j
    unfold prv
    split
    · exact ⟨fun q hq => by simp at hq, by simp [pt]⟩
    · rw [List.getD_eq_getElem?_getD]
      cases hg : us[j - 1]? with
      | none => exact ⟨fun q hq => by simp at hq, by simp [pt]⟩
      | some u => exact (hn u (List.mem_of_getElem? hg)).2
  have hrl : ∀ j, j ≤ us.length → (runsL us j).length ≤ j * 7 := by
    intro j
    induction j with
    | zero => intro _; simp [runsL]
    | succ j ih =>
      intro hj
      have ih := ih (Nat.le_of_succ_le hj)
      unfold runsL at ih ⊢
      rw [List.range_succ, List.flatMap_append, List.length_append]
      have : (runUp (cpx (prv us j) (us.getD j [])).length (us.getD j []) (us.getD j []).length).length ≤ 7 := by
        unfold runUp
        rw [List.length_map, List.length_range]
        have hg : us.getD j [] ∈ us := by rw [List.getD_eq_getElem?_getD, List.getElem?_eq_getElem hj]; exact List.getElem_mem _
        have hg := (hn _ hg).1
        exact Nat.le_trans (Nat.min_le_right _ _) (Nat.le_trans (Nat.sub_le _ _) (by rw [hg]; exact h7))
      simp only [List.flatMap_cons, List.flatMap_nil, List.append_nil]
      rw [Nat.succ_mul]; exact Nat.add_le_add ih this
  walk_at "body"
  repeat (walk_at "m")
  rename_i sE xE
  refine' iterL (σ := Nat × Addr × List Value × Nat × Tok) (fun i c => c.1 = i ∧ Txs c.2.2.1 (runsL us i)) (fun c => [("ordered", .ref D), ("runs", .ref c.2.1), ("ahead", .str (S (hd' (pt (prv us c.1)))) c.2.2.2.2)])
    (fun c => [(c.2.1, lstO c.2.2.1 c.2.2.2.1)]) (0, _, [], 0, _) e hL (by decide +kernel) R' ?x0 (isl (xE.get0 hD)) (.inl ⟨_, hD⟩) ⟨rfl, Txs.nil⟩ ?gb ?ge
  case x0 =>
    refine' (In.forget xE ?A1).drop ?B1
    case B1 => (try dsimp only); walk_at "sl"
    case A1 => have e0 : hd' (pt (prv us 0)) = [47] := rfl; (try dsimp only); rw [e0]; walk_at "sub"
  case gb =>
    rintro i v ⟨i', RN, acc, k, ta⟩ I o s2 hv ⟨hc1, hc2⟩ y
    dsimp only at hc1 hc2 y ⊢
    subst hc1
    obtain ⟨q, u1, hq, rfl⟩ := ht.2 i' v hv
    rw [List.getElem?_map] at hq
    obtain ⟨u, hu, rfl⟩ := Option.map_eq_some_iff.mp hq
    have hum := hn u (List.mem_of_getElem? hu)
    have hug : us.getD i' [] = u := by rw [List.getD_eq_getElem?_getD, hu]; rfl
    have hne : u ≠ [] := fun q => by rw [q] at hum; simp at hum; omega
    have hil : i' < us.length := by
      rcases Nat.lt_or_ge i' us.length with z | z
      · exact z
      · rw [List.getElem?_eq_none z] at hu; cases hu
    repeat (walk_at "m")
    rename_i sC xC
    refine' k_common2 xC W (Rm.le (by assumption) (by decide)) rfl (hd_pt hne).symm (xC.get1 (by walk_at "mem")) (hpN i') hum.2 ?_
    intro tsh _ _
    have hcl := cpx_le (prv us i') u
    have hcp := cpx_pre (prv us i') u
    obtain ⟨c, hc⟩ : ∃ c, c = (cpx (prv us i') u).length := ⟨_, rfl⟩
    rw [← hc] at hcp hcl
    have hsh : 47 :: jn 47 (cpx (prv us i') u) = hd' (pt (u.take c)) := by rw [← hd_jn, ← hcp]
    have hshz : (hd' (pt (u.take c))).length ≤ 300 := by
      have h1 := pt_app (u.take c) (u.drop c)
      rw [List.take_append_drop] at h1
      have h2 := congrArg List.length h1
      rw [List.length_append] at h2
      unfold hd'; split
      · simp
      · omega
    rw [hsh]
    repeat (walk_at "m")
    rename_i rg _ _ _ sG xG
    rw [hvl] at xG
    have haccz : ∀ k, acc.length ≤ 60 - 8 → (runUp c u k).length ≤ 7 := fun k _ => by
      unfold runUp; rw [List.length_map, List.length_range]; exact Nat.le_trans (Nat.min_le_right _ _) (Nat.le_trans (Nat.sub_le _ _) (by rw [hum.1]; exact h7))
    have hax : acc.length ≤ 49 := by
      rw [hc2.1]; exact Nat.le_trans (hrl i' (Nat.le_of_lt hil)) (Nat.mul_le_mul_right 7 (Nat.le_trans (Nat.le_of_lt hil) h7))
    have hplz : ∀ p, (hd' (pt (u.take p))).length ≤ 300 := by
      intro p
      have h1 := pt_app (u.take p) (u.drop p)
      rw [List.take_append_drop] at h1
      have h2 := congrArg List.length h1
      rw [List.length_append] at h2
      unfold hd'; split
      · simp
      · omega
    refine' iterR (m := us.length) (σ := Nat × List Value × Nat × Tok) (fun k c' => c'.1 = k ∧ Txs c'.2.1 (runsL us i' ++ runUp c u k)) (fun c' => [("ordered", .ref D), ("runs", .ref RN), ("row", .str (S (pt u)) u1), ("shared", .str (S (hd' (pt (u.take c)))) tsh), ("place", .str (S (hd' (pt (u.take (max (u.length - c'.1) c))))) c'.2.2.2)])
      (fun c' => [(I, o), (RN, lstO c'.2.1 c'.2.2.1)]) (0, acc, k, u1) e hL (by decide +kernel) R' (by omega) ?y0 (xG.get1 (by walk_at "mem")) ⟨rfl, ?i0⟩ ?gc ?gd
    case y0 =>
      refine' (In.forget xG ?A1).drop ?B1
      case B1 => (try dsimp only); walk_at "sl"
      case A1 =>
        have e0 : hd' (pt (u.take (max (u.length - 0) c))) = pt u := by
          rw [Nat.sub_zero, Nat.max_eq_left hcl, List.take_length, hd_pt hne]
        (try dsimp only); rw [e0]; walk_at "sub"
    case i0 =>
      have : runUp c u 0 = [] := by unfold runUp; rw [Nat.zero_min]; rfl
      rw [this, List.append_nil]; exact hc2
    case gc =>
      rintro k2 tk ⟨k3, acc2, n2, tp⟩ I2 o2 s3 hk2 ⟨hd1, hd2⟩ y2
      dsimp only at hd1 hd2 y2 ⊢
      subst hd1
      have ha2 : acc2.length ≤ 60 := by rw [hd2.1, List.length_append, ← hc2.1]; have := haccz k3 (by omega); omega
      by_cases hlt : k3 < u.length - c
      · have hmx : max (u.length - k3) c = u.length - k3 := Nat.max_eq_left (sb1 hlt)
        have hmx2 : max (u.length - (k3 + 1)) c = u.length - (k3 + 1) := Nat.max_eq_left (sb2 hlt)
        have hne2 : u.take (u.length - k3) ≠ [] := tk_ne hlt
        obtain ⟨a', x', hax'⟩ := snoc_of hne2
        have ha' : a' = u.take (u.length - (k3 + 1)) := by
          have hl := congrArg List.length hax'
          rw [List.length_take, List.length_append, List.length_singleton] at hl
          have h1 : a' = (a' ++ [x']).take a'.length := by simp
          rw [h1, ← hax', List.take_take]
          rw [mn1 hl]
        have hxm : ∀ q ∈ a' ++ [x'], Nm q := by rw [← hax']; exact fun q hq => hum.2.1 q (List.mem_of_mem_take hq)
        have hgt := hd_lt (fun q hq => (hum.2.1 q hq).1) (sb3 hlt) (Nat.sub_le ..)
        have hpz := hplz (u.length - k3)
        have etxt : hd' (pt (u.take (u.length - k3))) = pt a' ++ 47 :: x' := by rw [hd_pt hne2, hax', pt_snoc]
        rw [hmx, etxt] at y2
        rw [etxt] at hgt hpz
        have hT : 47 ∉ x' := (hxm x' (by simp)).2.1
        have hH := pt_last (ns := a') (fun q hq => hxm q (by simp [hq]))
        have hz3 : (pt a').length + x'.length ≤ 1000 := by rw [List.length_append, List.length_cons] at hpz; omega
        repeat (walk_at "m")
        refine ifT (by rw [decide_eq_true_eq]; omega) ?_
        repeat (walk_at "m")
        refine' lqN (by assumption) (k3 + 1, acc2 ++ [.str (S (pt a' ++ 47 :: x')) tp], _, _) ⟨rfl, ?h1⟩ ?h2 ?h3
        case h2 => (try dsimp only); rw [hmx2, ← ha']; walk_at "sub"
        case h3 => walk_at "sl"
        case h1 => dsimp only; rw [runUp_succ _ _ _ hlt, ← List.append_assoc, ← hd_pt hne2, etxt]; exact hd2.snoc
      · have hmx : max (u.length - k3) c = c := Nat.max_eq_right (sb4 hlt)
        have hmx2 : max (u.length - (k3 + 1)) c = c := Nat.max_eq_right (sb5 hlt)
        have hpz := hplz c
        rw [hmx] at y2
        repeat (walk_at "m")
        refine ifF (by rw [decide_eq_true_eq]; omega) ?_
        repeat (walk_at "m")
        refine' lqN (by assumption) (k3 + 1, acc2, n2, tp) ⟨rfl, ?h1⟩ ?h2 ?h3
        case h2 => (try dsimp only); rw [hmx2]; walk_at "sub"
        case h3 => walk_at "sl"
        case h1 => dsimp only; rw [runUp_stop _ _ _ hlt]; exact hd2
    case gd =>
      rintro ⟨k3, acc2, n2, tp⟩ s3 ⟨hd1, hd2⟩ y2
      dsimp only at hd1 hd2 y2 ⊢
      subst hd1
      rw [show max (u.length - us.length) c = c from Nat.max_eq_right (by rw [hum.1, Nat.sub_self]; exact Nat.zero_le _)] at y2
      repeat (walk_at "m")
      refine ifF (by simp) ?_
      repeat (walk_at "m")
      refine' lqN (by assumption) (i' + 1, RN, acc2, n2, _) ⟨rfl, ?h1⟩ ?h2 ?h3
      case h2 =>
        have ep : hd' (pt (prv us (i' + 1))) = pt u := by
          have : prv us (i' + 1) = u := by unfold prv; rw [if_neg (Nat.succ_ne_zero _), Nat.add_sub_cancel]; exact hug
          rw [this, hd_pt hne]
        (try dsimp only); rw [ep]; walk_at "sub"
      case h3 => walk_at "sl"
      case h1 =>
        dsimp only
        unfold runsL at hd2 ⊢
        rw [List.range_succ, List.flatMap_append]
        simp only [List.flatMap_cons, List.flatMap_nil, List.append_nil]
        rw [hug, ← hc, hum.1]; exact hd2
  case ge =>
    rintro ⟨i', RN, acc, k, ta⟩ s2 ⟨hc1, hc2⟩ y
    dsimp only at hc1 hc2 y ⊢
    rw [hvl] at hc2
    have hal : acc.length < 64 := by rw [hc2.1]; exact Nat.lt_of_le_of_lt (hrl us.length (Nat.le_refl _)) (Nat.lt_succ_of_le (Nat.le_trans (Nat.mul_le_mul_right 7 h7) (by decide)))
    repeat (walk_at "m")
    exact h _ _ _ _ (In.done (by assumption)) (In.nw (by assumption) _ (List.Mem.head _)).2.2 (In.nw (by assumption) _ (List.Mem.head _)).1 (by assumption)
theorem k_runs {us : List (List (List Nat))} {D : Addr} {vs : List Value} {m : Nat} (x : In s₀ L l nw s) (W : Wd s₀.heap) (R : Rm 20 A) (hD : s.heap.get? D = some (lstO vs m)) (ht : Txs vs (us.map pt)) (hn : ∀ u ∈ us, u.length = us.length ∧ (∀ q ∈ u, Nm q) ∧ (pt u).length ≤ 250) (h7 : us.length ≤ 7) (h0 : us ≠ [])
    (h : ∀ F ws k s', Txs ws (srt (runsL us us.length)) → In s₀ L l ((F, lstO ws k) :: nw) s' → Q (.ref F) s') : wpAny (model PW w) A (call (.ref 272) [.ref D]) Q E s :=
  c_runs hD ht hn h7 h0 (x.wd W) R fun _ _ _ _ k h1 h2 h3 => h _ _ _ _ h3 (x.more k h1 h2)
local macro_rules | `(tactic| walk_at "ct") => ctr "k_runs" ["go", "a", "a", "a", "a"] 6
end
end
local macro_rules | `(tactic| walk_at "ct") => ctr "k_runs" ["go", "a", "a", "a", "a"] 6
section
section
variable {w : World} {A : Around} {E : Value → Shared → Prop} {s₀ s : Shared} {L G : Addr} {l : List (Str × Value)} {nw : List (Addr × Obj)} {Q : Value → Shared → Prop}
theorem callGen (x : In s₀ L l nw s) (W : Wd s₀.heap) (R : Rm 2 A)
    (h : ∀ env K oK ga go s', EnvIs env K (fScope (stmtAt 32)) [] → interactive env = false → In (withG s₀ (s₀.gens.push (.fresh (.func (fBody (stmtAt 32)) env)))) L l ((ga, go) :: (K, oK) :: nw) s' → s'.heap.IsGen ga s₀.gens.size →
      (∃ m, s'.heap.Ns K m ∧ Has m [("grouping", .ref G)]) → s'.gens = s₀.gens.push (.fresh (.func (fBody (stmtAt 32)) env)) → Q (.ref ga) s') : wpAny (model PW w) A (call (.ref 206) [.ref G]) Q E s := by
  have W1 := x.wd W
  obtain ⟨o, pm, cd, doc, ho, hd, hc⟩ := W1.fn (206, 32, .none, .none) (by decide)
  have hb : BindsTo s (fdOf 32 .none .none pm cd doc) ⟨[.ref G], []⟩ [("grouping", Value.ref G)] := BindsTo.of_eq (by with_unfolding_all rfl)
  refine wpAny_call (codeAny_call_generator (fd := fdOf 32 .none .none pm cd doc) (body := fBody (stmtAt 32)) R.room ho hd rfl rfl rfl hc (hb _ _ _ _ ?_))
  refine wpAny_newFunctionEnv (fun x hx => by have := List.all_eq_true.mp (show (fScope (stmtAt 32)).names.all (fun x => x.2 != .cell) = true by decide +kernel) x hx; simpa using this) (fun x hx => ?_) (fun h₀ hn hs => ?_) rfl
  · rw [List.mem_singleton] at hx; subst hx
    exact eq_of_beq (show ((fScope (stmtAt 32)).names.lookup ("grouping" : Str) == some .local) = true by decide +kernel)
  obtain ⟨hh, tk, rfl⟩ := x.same
  dsimp only at hn hs x W1 ⊢
  have k2 : Keep hh h₀ := fun b o e => hs.extBut b o (Nat.ne_of_lt (Heap.lt_size e)) (Heap.get?_push_of_some _ e)
  obtain ⟨oK, r1, r2, hoK, r3⟩ := id hn
  refine ⟨(W1.lim).keeps k2, ?_⟩
  have y := x.more (s' := { s₀ with heap := h₀, toks := tk + 1 }) ⟨h₀, _, rfl, k2⟩ (Heap.get?_none_of_le (Nat.le_refl _)) hoK
  have z := ((y.pushN { cls := .type "generator", data := .fields #[.int (s₀.gens.size : Int) 0, .str (fdOf 32 .none .none pm cd doc).name (tk + 1), .str (fdOf 32 .none .none pm cd doc).qualname (tk + 1 + 1)] } rfl).tok (tk + 1 + 1 + 1)).regen
    (s₀.gens.push (.fresh (.func (fBody (stmtAt 32)) (newEnv (fScope (stmtAt 32)) hh.objs.size mainGlobals [] ((fdOf 32 .none .none pm cd doc).qualname ++ ".<locals>.") (some 206) cd none builtinsNs))))
  refine h _ hh.objs.size oK _ _ _ ⟨rfl, rfl, rfl, rfl, rfl, rfl⟩ ?_ z ?_ ?_ rfl
  · rfl
  · exact ⟨_, _, _, (z.nw _ (.head _)).1, rfl, rfl, rfl⟩
  · exact ⟨_, hn.push _, fun n v e => e⟩
variable {T : Nat → Option Nat} {N : Nat} {H₀ : Heap} {K I : Addr}
theorem setG_bare {s : Shared} {g : Nat} {x : GenState} (h : AllBare s.gens) (hx : x.bare = true) : AllBare (s.setGen g x).gens := fun y hy => by
  obtain ⟨k, hk, e⟩ := Array.mem_iff_getElem.mp hy
  have hk' : k < s.gens.size := by simpa [Shared.setGen] using hk
  by_cases q : k = g
  · subst q
    have : (s.setGen k x).gens[k]? = some x := setGen_self (gs := s.gens[k]) (by simp [hk'])
    rw [Array.getElem?_eq_getElem hk, e] at this
    cases this; exact hx
  · have : (s.setGen g x).gens[k]? = s.gens[k]? := by simp [Shared.setGen, Ne.symm q]
    rw [Array.getElem?_eq_getElem hk, e, Array.getElem?_eq_getElem hk'] at this
    injection this with this
    rw [this]; exact h _ (Array.getElem_mem hk')
/-- one more size of the generator -/
theorem nextG {a : Addr} {g n : Nat} {gs : GenState} {Q : Option Value → Shared → Prop} (hh : A.handled = none) (hl : s.heap.NoLimit) (hroom : A.depth < recursionLimit) (hg : s.heap.IsGen a g) (hgs : s.gens[g]? = some gs) (hb : AllBare s.gens)
    (hgo : gs.Goes (model PW w) A.in1 (gR T N K I) (gY T N H₀ K I) (n + 2) (.send .none) (s.setGen g .running)) (hn : n + 2 ≤ N)
    (hY : ∀ (z : Nat) t h tk gn gs' oK oI, AllBare gn → gn[g]? = some gs' → T (N - (n + 2)) = some z → (∀ b o, b ≠ K → b ≠ I → s.heap.get? b = some o → h.get? b = some o) → h.get? K = some oK → h.get? I = some oI →
      (∀ s'' : Shared, Keep H₀ s''.heap → s''.heap.get? K = some oK → s''.heap.get? I = some oI → gs'.Goes (model PW w) A.in1 (gR T N K I) (gY T N H₀ K I) (n + 1) (.send .none) s'') → Q (some (.int (z : Int) t)) { s with heap := h, toks := tk, gens := gn })
    (hP : ∀ h tk gn, AllBare gn → T (N - (n + 2)) = none → (∀ b o, b ≠ K → b ≠ I → s.heap.get? b = some o → h.get? b = some o) → Q none { s with heap := h, toks := tk, gens := gn }) :
    wpAny (model PW w) A (pyNext (.ref a)) Q E s := by
  unfold pyNext
  refine wpAny_bind (wpAny_attempt (wpAny_callSpecial?_slot (name := Str.ofString "__next__") hg.typeIs slot_gen_next (wpAny_call_entry slot_gen_next hg.typeIs entry_gen_next ?_ (args_gen_next _))))
  show wpAny _ A.in1 (Builtin.Generator.genWake (.ref a) (.send .none)) _ _ s
  unfold Builtin.Generator.genWake
  refine wpAny_bind (wpAny_holding (wpAny_genNumber hg (wpAny_bind (wpAny_genState hgs ?_))))
  have b1 : AllBare (s.setGen g .running).gens := setG_bare hb rfl
  cases gs with
  | running => exact hgo.elim
  | finished => exact hgo.elim
  | _ =>
    refine wpAny_bind (wpAny_roomToWake hl hroom ?_)
    show wpAny _ A.in1 (.resume g (.send .none) [] _) _ _ s
    refine wpAny_resumeQ hgs hgo (fun x s₁ hx => ?_) (fun v s₁ gs' hbr hv => ?_)
    · obtain ⟨rfl, hp⟩ := hx
      rcases hp with q | ⟨hT, h1, tk1, rfl, hk1⟩
      · exact absurd q (Nat.succ_ne_zero _)
      · show wpAny _ A.in1 (newExc (.type "StopIteration") [] >>= _) _ _ _
        refine wpAny_bind ?_
        simp only [newExc, newTuple]
        refine wpAny_bind (wpAny_newObj_type ?_ (by size_fits))
        refine wpAny_bind (m := firstArgMember _ _) (wpAny_of_eq (a := Value.none) (by first | rfl | (simp only [firstArgMember]; rfl)) ?_)
        refine wpAny_newObj_type ?_ (by size_fits)
        simp only [raiseNew]
        refine wpAny_bind (wpAny_bind (wpAny_handled ?_))
        first | rw [show A.in1.handled = none from hh] | rw [hh]
        refine wpAny_throw ?_
        refine wpAny_bind (wpAny_isInstance (T := "StopIteration") (b := true) ⟨_, Heap.get?_push_size _ rfl, rfl⟩ isSubtype_stop ?_)
        refine wpAny_pure (hP _ _ _ (setG_bare (s := { s.setGen g .running with heap := h1, toks := tk1 }) b1 rfl) hT fun b o n1 n2 e => Heap.get?_push_of_some _ (Heap.get?_push_of_some _ (hk1 b o n1 n2 e)))
    · rcases hv with q | ⟨⟨z, t, rfl, hT⟩, ⟨h1, tk1, rfl, hk1⟩, oK, oI, e1, e2, hkap⟩
      · omega
      · refine wpAny_pure ⟨_, rfl, wpAny_pure (hY z t h1 tk1 _ gs' oK oI (setG_bare (s := { s.setGen g .running with heap := h1, toks := tk1 }) b1 hbr) ?_ (by rw [← hT]; congr 1; first | exact (gy _ _).symm | exact gy _ _ | omega) hk1 e1 e2 hkap)⟩
        exact setGen_self (s := { s.setGen g .running with heap := h1, toks := tk1 }) (gs := .running) (setGen_self hgs)
end
end
section
/-- the pieces of a row of octets -/
noncomputable def cutG (T : Nat → Option Nat) : Nat → Nat → List Nat → List (List Nat)
  | 0, _, _ => []
  | f + 1, k, os => if os = [] then [] else match T k with
    | none => [os]
    | some z => os.take z :: cutG T f (k + 1) (os.drop z)
theorem cutG_nil {T : Nat → Option Nat} : ∀ f k, cutG T f k [] = []
  | 0, _ => rfl
  | f + 1, k => by unfold cutG; rw [if_pos rfl]
/-- a list that stands in the base or in the ledger -/
noncomputable def Std (b : Addr → Obj → Prop) (X : List (Addr × Obj)) (a : Addr) (o : Obj) : Prop := b a o ∨ (a, o) ∈ X
theorem Std.cons {b : Addr → Obj → Prop} {X : List (Addr × Obj)} {a : Addr} {o : Obj} {p : Addr × Obj} (h : Std b X a o) : Std b (p :: X) a o := h.imp id (List.mem_cons_of_mem _)
theorem Std.mem {b : Addr → Obj → Prop} {X : List (Addr × Obj)} {a : Addr} {o : Obj} (h : (a, o) ∈ X) : Std b X a o := .inr h
section
variable {w : World} {A : Around} {E : Value → Shared → Prop} {s₀ s : Shared} {L G : Addr} {l : List (Str × Value)} {nw X : List (Addr × Obj)} {Q : Value → Shared → Prop} {O : Addr} {ob : Obj}
theorem In.std {bb : Addr → Obj → Prop} (x : In s₀ L l nw s) (hb : ∀ a o, bb a o → s₀.heap.get? a = some o) (h : Std bb nw O ob) : s.heap.get? O = some ob := by
  rcases h with h | h
  · exact x.keep _ _ (hb _ _ h)
  · exact (x.nw _ h).1
/-- own things of the generator turn: the rest stands -/
theorem In.own {K I : Addr} {oK oI : Obj} {h' : Heap} {tk : Nat} (x : In s₀ L l nw s) (hk : ∀ b o, b ≠ K → b ≠ I → s.heap.get? b = some o → h'.get? b = some o) (hK : h'.get? K = some oK) (hI : h'.get? I = some oI)
    (k1 : K ≠ L) (k2 : s₀.heap.get? K = none) (k3 : ∀ p ∈ nw, p.1 ≠ K) (i1 : I ≠ L) (i2 : s₀.heap.get? I = none) (i3 : ∀ p ∈ nw, p.1 ≠ I) (hKI : K ≠ I) :
    In s₀ L l ((K, oK) :: (I, oI) :: nw) { s with heap := h', toks := tk } := by
  refine ⟨by obtain ⟨h, tk', e⟩ := x.same; exact ⟨h', tk, by rw [e]⟩, let ⟨m, nn, hm⟩ := x.ns; ⟨m, nn.at' fun o e => hk L o (Ne.symm k1) (Ne.symm i1) e, hm⟩, fun b o e => hk b o (fun q => ?_) (fun q => ?_) (x.keep b o e), fun p hp => ?_, ?_⟩
  · rw [q, k2] at e; cases e
  · rw [q, i2] at e; cases e
  · rcases List.mem_cons.mp hp with rfl | hp
    · exact ⟨hK, k1, k2⟩
    · rcases List.mem_cons.mp hp with rfl | hp
      · exact ⟨hI, i1, i2⟩
      · exact ⟨hk _ _ (k3 p hp) (i3 p hp) (x.nw p hp).1, (x.nw p hp).2⟩
  · refine List.pairwise_cons.mpr ⟨fun p hp => ?_, List.pairwise_cons.mpr ⟨fun p hp => Ne.symm (i3 p hp), x.nd⟩⟩
    rcases List.mem_cons.mp hp with rfl | hp
    · exact hKI
    · exact Ne.symm (k3 p hp)
local macro_rules | `(tactic| walk_at "sd") => alts ["a", "R Std.cons u1;u1>sd"]
local macro_rules | `(tactic| walk_at "go") => alts ["R In.std u1 u3 u2;u1>a;u3>a;u2>sd"]
/-- what a loop over the generator keeps -/
structure CutI (bb : Addr → Obj → Prop) (w : World) (A : Around) (T : Nat → Option Nat) (N : Nat) (H₀ : Heap) (K I ga g k : Nat) (s₀ s : Shared) (L P : Addr) (gn : Array GenState) (go : Obj) (own X : List (Addr × Obj)) (pcs : List (Addr × List Value × Nat × List Nat)) (n : Nat) (O : Addr) (ov : List Value) (m : Nat) : Prop where
  x : In (withG s₀ gn) L [("octets", .ref O), ("pieces", .ref P)] ((ga, go) :: (P, lstO (pcs.map fun q => Value.ref q.1) n) :: own ++ X) s
  o : Std bb X O (lstO ov m)
  p : ∀ q ∈ pcs, Std bb X q.1 (lstO q.2.1 q.2.2.1) ∧ Ns q.2.1 q.2.2.2
  b : AllBare gn
  isg : s.heap.IsGen ga g
  gs : ∃ gs : GenState, s.gens[g]? = some gs ∧ gs.Goes (model PW w) A.in1 (gR T N K I) (gY T N H₀ K I) (N - k) (.send .none) (s.setGen g .running)
  w : (∃ oK, own = [(K, oK)] ∧ s.heap.get? I = none) ∨ ∃ oK oI, own = [(K, oK), (I, oI)]
noncomputable def cutRest : List Stmt := (fBody (stmtAt 39)).drop 2
theorem cutI_facts {bb : Addr → Obj → Prop} {w : World} {A : Around} {T : Nat → Option Nat} {N : Nat} {H₀ : Heap} {K I ga g k : Nat} {s₀ s : Shared} {L P : Addr} {gn : Array GenState} {go : Obj} {own X : List (Addr × Obj)} {pcs : List (Addr × List Value × Nat × List Nat)} {n : Nat} {O : Addr} {ov : List Value} {m : Nat}
    (C : CutI bb w A T N H₀ K I ga g k s₀ s L P gn go own X pcs n O ov m) (hI : s₀.heap.get? I = none) :
    (K ≠ L ∧ ∀ p ∈ (ga, go) :: (P, lstO (pcs.map fun q => Value.ref q.1) n) :: X, p.1 ≠ K) ∧ (I ≠ L ∧ ∀ p ∈ (ga, go) :: (P, lstO (pcs.map fun q => Value.ref q.1) n) :: X, p.1 ≠ I) ∧ K ≠ I ∧ s₀.heap.get? K = none := by
  have hx := C.x
  have nd : List.Pairwise (fun (p q : Addr × Obj) => p.1 ≠ q.1) (([(ga, go), (P, lstO (pcs.map fun q => Value.ref q.1) n)] ++ own) ++ X) := hx.nd
  have np : Apart (own ++ ((ga, go) :: (P, lstO (pcs.map fun q => Value.ref q.1) n) :: X)) := by
    have e : own ++ ((ga, go) :: (P, lstO (pcs.map fun q => Value.ref q.1) n) :: X) = (own ++ [(ga, go), (P, lstO (pcs.map fun q => Value.ref q.1) n)]) ++ X := by simp
    rw [e]
    exact (List.Perm.append_right X (List.perm_append_comm (l₁ := [(ga, go), (P, lstO (pcs.map fun q => Value.ref q.1) n)]) (l₂ := own))).pairwise nd fun hab => Ne.symm hab
  have hm : ∀ p ∈ own ++ ((ga, go) :: (P, lstO (pcs.map fun q => Value.ref q.1) n) :: X), s.heap.get? p.1 = some p.2 ∧ p.1 ≠ L ∧ s₀.heap.get? p.1 = none := fun p hp => hx.nw p (by
    rcases List.mem_append.mp hp with q | q
    · exact .tail _ (.tail _ (List.mem_append_left _ q))
    · rcases List.mem_cons.mp q with rfl | q
      · exact .head _
      · rcases List.mem_cons.mp q with rfl | q
        · exact .tail _ (.head _)
        · exact .tail _ (.tail _ (List.mem_append_right _ q)))
  generalize (ga, go) :: (P, lstO (pcs.map fun q => Value.ref q.1) n) :: X = Z at *
  rcases C.w with ⟨oK, rfl, nI⟩ | ⟨oK, oI, rfl⟩
  · have h1 := List.pairwise_cons.mp np
    have hK := hm (K, oK) (.head _)
    refine ⟨⟨hK.2.1, fun p hp => Ne.symm (h1.1 p hp)⟩, ⟨fun q => ?_, fun p hp q => ?_⟩, fun q => ?_, hK.2.2⟩
    · obtain ⟨mm, ⟨o, _, _, e, _⟩, _⟩ := hx.ns
      rw [← q, nI] at e; cases e
    · have := (hm p (.tail _ hp)).1
      rw [q, nI] at this; cases this
    · have := hK.1
      dsimp only at this
      rw [q, nI] at this; cases this
  · have h1 := List.pairwise_cons.mp np
    have h2 := List.pairwise_cons.mp h1.2
    have hK := hm (K, oK) (.head _)
    have hI := hm (I, oI) (.tail _ (.head _))
    exact ⟨⟨hK.2.1, fun p hp => Ne.symm (h1.1 p (.tail _ hp))⟩, ⟨hI.2.1, fun p hp => Ne.symm (h2.1 p hp)⟩, h1.1 (I, oI) (.head _), hK.2.2⟩
set_option maxHeartbeats 1000000 in
theorem c_cut {os zs : List Nat} {ov gv : List Value} {O : Addr} {m m2 : Nat} {T : Nat → Option Nat} (hO : s.heap.get? O = some (lstO ov m)) (hG : s.heap.get? G = some (lstO gv m2)) (ho : Ns ov os) (hg : Ns gv zs) (hl : os.length ≤ 12) (hT : ∀ j, T j = gst zs none j) (hok : gOk zs none = true)
    (hz : ∀ j z, T j = some z → 1 ≤ z) (hbare : AllBare s.gens) (W : Wd s.heap) (R : Rm 9 A)
    (h : ∀ P X (pcs : List (Addr × List Value × Nat × List Nat)) n gn s', AllBare gn → Mk s ((P, lstO (pcs.map fun q => Value.ref q.1) n) :: X) s' → (∀ q ∈ pcs, Std (fun a o => a = O ∧ o = lstO ov m) X q.1 (lstO q.2.1 q.2.2.1) ∧ Ns q.2.1 q.2.2.2) →
      pcs.map (fun q => q.2.2.2) = cutG T 20 0 os → Q (.ref P) (withG s' gn)) : wpAny (model PW w) A (call (.ref 246) [.ref O, .ref G]) Q E s := by
  refine enter (i := 39) (dV := .none) (kV := .none) (n := 8) W (by decide) R (binds := [("octets", .ref O), ("sizes", .ref G)]) (l := [("sizes", .ref G), ("octets", .ref O)]) (ns := ["octets", "sizes"]) (fun _ _ _ => BindsTo.of_eq (by with_unfolding_all rfl)) rfl rfl (by decide +kernel) fun env L A' s₁ e R' hi' hL x => ?_
  clear R
  obtain ⟨bb, hbe⟩ : ∃ bb : Addr → Obj → Prop, bb = fun a o => a = O ∧ o = lstO ov m := ⟨_, rfl⟩
  have hbb : ∀ a o, bb a o → s.heap.get? a = some o := fun a o q => by rw [hbe] at q; rw [q.1, q.2]; exact hO
  have hbO : bb O (lstO ov m) := by rw [hbe]; exact ⟨rfl, rfl⟩
  rw [← hbe] at h
  walk_at "body"
  repeat (walk_at "m")
  rename_i P _ _ sE xE
  refine callGen xE W (R'.le (by decide)) fun env2 K oK ga go s2 e2 hi2 x2 hgen hK hgens => ?_
  obtain ⟨mK, nsK, hmK⟩ := hK
  refine wpAny_pyIter_gen hgen ?_
  have hsG : s.gens.size < (s.gens.push (.fresh (.func (fBody (stmtAt 32)) env2))).size := by simp
  generalize hgg : s.gens.size = g at hgen hsG
  obtain ⟨I, hI⟩ : ∃ I, I = s2.heap.objs.size := ⟨_, rfl⟩
  have nI2 : s2.heap.get? I = none := Heap.get?_none_of_le (by rw [hI]; exact Nat.le_refl _)
  have nI : s.heap.get? I = none := by
    cases q : s.heap.get? I with
    | none => rfl
    | some o' => have := x2.keep _ _ q; rw [nI2] at this; cases this
  have hKK := x2.nw (K, oK) (.tail _ (.head _))
  have nK : s.heap.get? K = none := hKK.2.2
  have hgs : s2.gens[g]? = some (.fresh (.func (fBody (stmtAt 32)) env2)) := by rw [hgens, ← hgg]; simp
  have hx3 : In (withG s (s.gens.push (.fresh (.func (fBody (stmtAt 32)) env2)))) L [("octets", .ref O), ("pieces", .ref P)] ((ga, go) :: (P, lstO (([] : List (Addr × List Value × Nat × List Nat)).map fun q => Value.ref q.1) 0) :: [(K, oK)] ++ []) s2 := by
    refine (x2.forget ?_).perm (.cons _ (.swap _ _ _))
    walk_at "sub"
  have close : ∀ gn4 X (pcs : List (Addr × List Value × Nat × List Nat)) n s9, AllBare gn4 → In (withG s gn4) L [] ((P, lstO (pcs.map fun q => Value.ref q.1) n) :: X) s9 → (∀ q ∈ pcs, Std bb X q.1 (lstO q.2.1 q.2.2.1) ∧ Ns q.2.1 q.2.2.2) → pcs.map (fun q => q.2.2.2) = cutG T 20 0 os → Q (.ref P) s9 := by
    intro gn4 X pcs n s9 hb4 x9 hp hc
    obtain ⟨h9, tk9, rfl⟩ := x9.same
    exact h P X pcs n gn4 { s with heap := h9, toks := tk9 } hb4 ⟨⟨h9, tk9, rfl, x9.keep⟩, fun p hp => ⟨(x9.nw p hp).1, (x9.nw p hp).2.2⟩, x9.nd⟩ hp hc
  refine codeAny_forLoop_any (fun q s' => ∃ k os' own X pcs n O' ov' m' gn', q = os'.length ∧ Ns ov' os' ∧ k + os'.length ≤ os.length ∧ pcs.length = k ∧ pcs.map (fun q => q.2.2.2) ++ cutG T (20 - k) k os' = cutG T 20 0 os ∧
    CutI bb w A' T 20 s.heap K I ga g k s s' L P gn' go own X pcs n O' ov' m') ?_ os.length ⟨0, os, [(K, oK)], [], [], 0, O, ov, m, _, rfl, ho, by omega, rfl, rfl, hx3, .inl hbO, (fun _ q => nomatch q), hbare.push rfl, hgen, ⟨_, hgs, rfl, ?_⟩, .inl ⟨oK, rfl, nI2⟩⟩
  rotate_left
  · refine gStart (b := { s2.setGen g .running with heap := hideAll s2.heap [K, I] }) e2 hi2 hg W hG nK nI ((R'.le (by decide) : Rm 7 A').in1) (GBase.wake W hG nK nI (s'' := s2.setGen g .running) x2.keep) ?_ hI hT hok
    exact ⟨⟨s2.heap, s2.toks, rfl⟩, ⟨mK, nsK, hmK⟩, fun b o q => of_hideAll _ q, fun _ hp => (nomatch hp), List.Pairwise.nil⟩
  rintro q s3 ⟨k, os', own, X, pcs, n, O', ov', m', gn', rfl, ho', hk, hpk, hc, C⟩
  have W3 : Wd (withG s gn').heap := W
  have hgn : s3.gens = gn' := by obtain ⟨h9, tk9, e9⟩ := C.x.same; rw [e9]; rfl
  obtain ⟨gs, hgs3, hgo⟩ := C.gs
  have hk12 : k ≤ 12 := le_l hk hl
  have e20 : 20 - k = (18 - k) + 2 := c20a hk12
  have ek : 20 - (18 - k + 2) = k := c20b hk12
  rw [e20] at hgo
  obtain ⟨⟨a1, a2⟩, ⟨a3, a4⟩, a5, a6⟩ := cutI_facts C nI
  have xd : In (withG s gn') L [("octets", .ref O'), ("pieces", .ref P)] ((ga, go) :: (P, lstO (pcs.map fun q => Value.ref q.1) n) :: X) s3 := C.x.drop (.cons_cons _ (.cons_cons _ (List.sublist_append_right _ _)))
  have fin : ∀ gn4 s4, AllBare gn4 → In (withG s gn4) L [("octets", .ref O'), ("pieces", .ref P)] ((P, lstO (pcs.map fun q => Value.ref q.1) n) :: X) s4 → cutG T (20 - k) k os' = (if os' = [] then [] else [os']) → wpAny (model PW w) A' (execs cutRest env) (retQ Q) (fun _ _ => False) s4 := by
    intro gn4 s4 hb4 x4 hcc
    rw [hcc] at hc
    have e4 : EnvIs env L (fScope (stmtAt 39)) [] := e
    have hbb2 : ∀ a o, bb a o → (withG s gn4).heap.get? a = some o := hbb
    have hOm := C.o
    have ho4 := ho'
    have hpp := C.p
    have hl4 : ov'.length ≤ 12 := by rw [ho'.length, List.length_map]; exact le_r hk hl
    have hpl : pcs.length ≤ 100 := by rw [hpk]; exact Nat.le_trans hk12 (by decide)
    clear hcc C hgo
    show wpAny _ _ (execs [.If _ _ _ _, .Return _ _] env) _ _ _
    cases ov' with
    | nil =>
      have hos : os' = [] := List.eq_nil_of_length_eq_zero (by have := ho4.length; simp at this; omega)
      rw [if_pos hos, List.append_nil] at hc
      repeat (walk_at "m")
      refine ifF (by simp) ?_
      repeat (walk_at "m")
      exact close _ _ _ _ _ hb4 ((In.forget (by assumption) Sub'.nil).drop (List.Sublist.refl _)) hpp hc
    | cons v r =>
      have hos : os' ≠ [] := by rintro rfl; have := ho4.length; simp at this
      rw [if_neg hos] at hc
      repeat (walk_at "m")
      refine ifT rfl ?_
      repeat (walk_at "m")
      rename_i xF
      refine close gn4 X (pcs ++ [(O', v :: r, m', os')]) _ _ hb4 (by rw [List.map_append]; exact xF.forget Sub'.nil) (fun q hq => ?_) (by rw [List.map_append]; exact hc)
      rcases List.mem_append.mp hq with hq | hq
      · exact hpp q hq
      · rw [List.mem_singleton] at hq; subst hq
        exact ⟨hOm, ho4⟩
  refine nextG (I := I) (K := K) R'.hd (xd.wd W3).lim R'.room C.isg hgs3 (by rw [hgn]; exact C.b) hgo (c20f hk12) ?_ ?_
  · intro z t h' tk gn2 gs2 oK2 oI2 hb2 hgs2 hTz hk2 hK2 hI2 hkap
    rw [ek] at hTz
    have y : In (withG s gn2) L [("octets", .ref O'), ("pieces", .ref P)] ((K, oK2) :: (I, oI2) :: (ga, go) :: (P, lstO (pcs.map fun q => Value.ref q.1) n) :: X) { s3 with heap := h', toks := tk, gens := gn2 } :=
      (xd.own (tk := tk) hk2 hK2 hI2 a1 a6 a2 a3 nI a4 a5).regen gn2
    have hgo : letOwnedTupleGo (.Name "size" ⟨0, 0, 0, 0⟩) (.ref ga) (.int (z : Int) t) = pure () := rfl
    dsimp only
    refine wpAny_pure ?_
    refine wpAny_assign_Name (rStC e y hL (by decide +kernel) fun s5 y5 => ?_)
    refine wpAny_mono (?_ : wpAny _ _ _ _ (fun _ _ => False) _) (fun _ _ h => h) (fun _ _ z => z.elim)
    have hOm : Std bb X O' (lstO ov' m') := C.o
    have hbb2 : ∀ a o, bb a o → (withG s gn2).heap.get? a = some o := hbb
    have ho4 := ho'
    have hpp := C.p
    have hl4 : ov'.length ≤ 12 := by rw [ho'.length, List.length_map]; exact le_r hk hl
    have hgen3 : ∀ s' : Shared, s'.heap.get? ga = some go → s'.heap.IsGen ga g := fun s' q => by
      obtain ⟨o, nm, qn, ho, r⟩ := C.isg
      have := (C.x.nw (ga, go) (.head _)).1
      dsimp only at this
      rw [this] at ho; cases ho
      exact ⟨go, nm, qn, q, r⟩
    have hp100 : pcs.length ≤ 100 := by rw [hpk]; exact Nat.le_trans hk12 (by decide)
    clear C hgo x x2 xE xd y hx3
    walk_at "body"
    cases ov' with
    | nil =>
      have hos : os' = [] := List.eq_nil_of_length_eq_zero (by have := ho4.length; simp at this; omega)
      repeat (walk_at "m")
      refine ifT rfl ?_
      repeat (walk_at "m")
      rename_i xF
      show wpAny (model PW w) A' (execs cutRest env) (retQ Q) (fun _ _ => False) _
      refine fin gn2 _ hb2 ?_ ?_
      · refine' (In.forget xF ?A1).drop ?B1
        case A1 => walk_at "sub"
        case B1 => walk_at "sl"
      · rw [hos, if_pos rfl, cutG_nil]
    | cons v r =>
      have hos : os' ≠ [] := by rintro rfl; have := ho4.length; simp at this
      repeat (walk_at "m")
      refine ifF (by simp) ?_
      repeat (walk_at "m")
      rename_i A1 _ _ m1 _ _ A2 _ _ sF xF
      have ez : ((z : Int)).toNat = z := Int.toNat_natCast z
      rw [ez] at xF
      have hz1 := hz k z hTz
      have hol : 0 < os'.length := List.length_pos_iff.mpr hos
      have hc2 : cutG T (20 - k) k os' = os'.take z :: cutG T (20 - (k + 1)) (k + 1) (os'.drop z) := by
        rw [c20c hk12]
        conv => lhs; unfold cutG
        rw [if_neg hos, hTz]
      rw [hc2] at hc
      have hgF : sF.gens = gn2 := by obtain ⟨h9, tk9, e9⟩ := xF.same; rw [e9]; rfl
      have xF : In (withG s gn2) L [("size", .int (z : Int) t), ("octets", .ref A2), ("pieces", .ref P)] ([(A2, lstO ((v :: r).drop z) 0), (A1, lstO ((v :: r).take z) 0), (K, oK2), (I, oI2)] ++ [(ga, go), (P, lstO ((pcs.map fun q => Value.ref q.1) ++ [.ref A1]) m1)] ++ X) sF := xF
      have xP := (xF.forget (l' := [("octets", .ref A2), ("pieces", .ref P)]) (by walk_at "sub")).perm ((List.perm_append_comm (l₁ := [(A2, lstO ((v :: r).drop z) 0), (A1, lstO ((v :: r).take z) 0), (K, oK2), (I, oI2)]) (l₂ := [(ga, go), (P, lstO ((pcs.map fun q => Value.ref q.1) ++ [.ref A1]) m1)])).append_right X)
      have xQ := xP.perm (nw' := (ga, go) :: (P, lstO ((pcs ++ [((A1, (v :: r).take z, 0, os'.take z) : Addr × List Value × Nat × List Nat)]).map fun q => Value.ref q.1) m1) :: [(K, oK2), (I, oI2)] ++ (A2, lstO ((v :: r).drop z) 0) :: (A1, lstO ((v :: r).take z) 0) :: X) (by
        rw [List.map_append]
        exact .cons _ (.cons _ ((List.perm_append_comm (l₁ := [(A2, lstO ((v :: r).drop z) 0), (A1, lstO ((v :: r).take z) 0)]) (l₂ := [(K, oK2), (I, oI2)])).append_right X)))
      refine ⟨(os'.drop z).length, by rw [List.length_drop]; exact Nat.sub_lt hol hz1, k + 1, os'.drop z, [(K, oK2), (I, oI2)], (A2, lstO ((v :: r).drop z) 0) :: (A1, lstO ((v :: r).take z) 0) :: X, pcs ++ [(A1, (v :: r).take z, 0, os'.take z)], m1, A2, (v :: r).drop z, 0, gn2, rfl, ?_, by rw [List.length_drop]; exact stp hk hz1 hol, by simp; exact hpk, ?_, xQ, .inr (.head _), fun q hq => ?_, hb2, ?_, ⟨gs2, by rw [hgF]; exact hgs2, ?_⟩, .inr ⟨_, _, rfl⟩⟩
      · show IntsAre _ _
        rw [List.map_drop]; exact IntsAre.drop ho4 z
      · rw [List.map_append, List.append_assoc]; exact hc
      · rcases List.mem_append.mp hq with hq | hq
        · exact ⟨(hpp q hq).1.cons.cons, (hpp q hq).2⟩
        · rw [List.mem_singleton] at hq; subst hq
          refine ⟨.inr (.tail _ (.head _)), ?_⟩
          show IntsAre _ _
          rw [List.map_take]; exact IntsAre.take ho4 z
      · exact hgen3 _ (xQ.nw _ (.head _)).1
      · rw [c20d hk12]
        exact hkap (sF.setGen g .running) xQ.keep (xQ.nw (K, oK2) (.tail _ (.tail _ (.head _)))).1 (xQ.nw (I, oI2) (.tail _ (.tail _ (.tail _ (.head _))))).1
  · intro h' tk gn2 hb2 hTn hk2
    rw [ek] at hTn
    dsimp only
    refine wpAny_execs_nil ?_
    show wpAny (model PW w) A' (execs cutRest env) (retQ Q) (fun _ _ => False) _
    have y : In (withG s gn2) L [("octets", .ref O'), ("pieces", .ref P)] ((P, lstO (pcs.map fun q => Value.ref q.1) n) :: X) { s3 with heap := h', toks := tk, gens := gn2 } := by
      have xe := xd.drop (List.sublist_cons_self _ _)
      refine In.regen (s := { s3 with heap := h', toks := tk }) ⟨by obtain ⟨h9, tk9, e9⟩ := xe.same; exact ⟨h', tk, by rw [e9]⟩, let ⟨m, nn, hm⟩ := xe.ns; ⟨m, nn.at' fun o e => hk2 L o (Ne.symm a1) (Ne.symm a3) e, hm⟩, fun b o q => hk2 b o (fun r => ?_) (fun r => ?_) (xe.keep b o q), fun p hp => ⟨hk2 _ _ (a2 p (.tail _ hp)) (a4 p (.tail _ hp)) (xe.nw p hp).1, (xe.nw p hp).2⟩, xe.nd⟩ gn2
      · have : s.heap.get? b = some o := q
        rw [r, a6] at this; cases this
      · have : s.heap.get? b = some o := q
        rw [r, nI] at this; cases this
    refine fin gn2 _ hb2 y ?_
    · rw [c20e hk12]
      unfold cutG
      rw [hTn]
theorem k_cut {os zs : List Nat} {ov gv : List Value} {O : Addr} {m m2 : Nat} {T : Nat → Option Nat} (x : In s₀ L l nw s) (hO : (O, lstO ov m) ∈ nw) (hG : s.heap.get? G = some (lstO gv m2)) (ho : Ns ov os) (hg : Ns gv zs) (hl : os.length ≤ 12) (hT : ∀ j, T j = gst zs none j) (hok : gOk zs none = true)
    (hz : ∀ j z, T j = some z → 1 ≤ z) (hbare : AllBare s₀.gens) (W : Wd s₀.heap) (R : Rm 9 A)
    (h : ∀ P X (pcs : List (Addr × List Value × Nat × List Nat)) n gn s', AllBare gn → In (withG s₀ gn) L l ((P, lstO (pcs.map fun q => Value.ref q.1) n) :: (X ++ nw)) s' → (∀ q ∈ pcs, (q.1, lstO q.2.1 q.2.2.1) ∈ X ++ nw ∧ Ns q.2.1 q.2.2.2) →
      pcs.map (fun q => q.2.2.2) = cutG T 20 0 os → Q (.ref P) s') : wpAny (model PW w) A (call (.ref 246) [.ref O, .ref G]) Q E s := by
  have hg0 : s.gens = s₀.gens := by obtain ⟨h9, tk9, e9⟩ := x.same; rw [e9]
  refine c_cut (x.nw _ hO).1 hG ho hg hl hT hok hz (by rw [hg0]; exact hbare) (x.wd W) R fun P X pcs n gn s' hb mk hp hc => ?_
  refine h P X pcs n gn _ hb ((x.mores mk.k mk.nw mk.nd).regen gn) (fun q hq => ⟨?_, (hp q hq).2⟩) hc
  rcases (hp q hq).1 with ⟨q1, q2⟩ | q1
  · rw [q1, q2]; exact List.mem_append_right _ hO
  · exact List.mem_append_left _ q1
end
end
section
/-- what is cut off is what the sizes mean -/
theorem cut_ok {i : Nat} (hi : i < 6) {os : List Nat} (h4 : 4 ≤ os.length) (h12 : os.length ≤ 12) : cutG (gst (szG i) none) 20 0 os = cutM os (szM i) 0 := by
  have hc := six hi
  match os, h4, h12 with
  | [a, b, c, d], _, _ => rcases hc with rfl | rfl | rfl | rfl | rfl | rfl <;> rfl
  | [a, b, c, d, e], _, _ => rcases hc with rfl | rfl | rfl | rfl | rfl | rfl <;> rfl
  | [a, b, c, d, e, f], _, _ => rcases hc with rfl | rfl | rfl | rfl | rfl | rfl <;> rfl
  | [a, b, c, d, e, f, g], _, _ => rcases hc with rfl | rfl | rfl | rfl | rfl | rfl <;> rfl
  | [a, b, c, d, e, f, g, h], _, _ => rcases hc with rfl | rfl | rfl | rfl | rfl | rfl <;> rfl
  | [a, b, c, d, e, f, g, h, i], _, _ => rcases hc with rfl | rfl | rfl | rfl | rfl | rfl <;> rfl
  | [a, b, c, d, e, f, g, h, i, j], _, _ => rcases hc with rfl | rfl | rfl | rfl | rfl | rfl <;> rfl
  | [a, b, c, d, e, f, g, h, i, j, k], _, _ => rcases hc with rfl | rfl | rfl | rfl | rfl | rfl <;> rfl
  | [a, b, c, d, e, f, g, h, i, j, k, l], _, _ => rcases hc with rfl | rfl | rfl | rfl | rfl | rfl <;> rfl
theorem szG_ok {i : Nat} (hi : i < 6) : gOk (szG i) none = true := by
  have hc := six hi
  rcases hc with rfl | rfl | rfl | rfl | rfl | rfl <;> rfl
theorem gst_pos : ∀ (zs : List Nat) (la : Option Nat) (j z : Nat), gst zs la j = some z → (∀ q, la = some q → 1 ≤ q) → 1 ≤ z
  | [], _, _, _, h, _ => by cases h
  | y :: r, la, j, z, h, hl => by
    unfold gst at h
    split at h
    · cases h
    · split at h
      · exact hl z h
      · cases j with
        | zero => cases h; omega
        | succ j => exact gst_pos r (some y) j z h fun q e => by cases e; omega
theorem cutM_sub (os : List Nat) : ∀ (ss : List Nat) (a : Nat), ∀ p ∈ cutM os ss a, p ≠ [] ∧ p.length ≤ os.length ∧ ∀ x ∈ p, x ∈ os
  | [], _, p, h => by cases h
  | z :: r, a, p, h => by
    unfold cutM at h
    rcases List.mem_append.mp h with h | h
    · split at h
      · cases h
      · rename_i hne
        rw [List.mem_singleton] at h; subst h
        refine ⟨hne, ?_, fun x hx => List.mem_of_mem_drop (List.mem_of_mem_take hx)⟩
        rw [List.length_take, List.length_drop]; omega
    · exact cutM_sub os r (a + z) p h
theorem cutM_ne {i : Nat} (hi : i < 6) {os : List Nat} (h4 : 4 ≤ os.length) : cutM os (szM i) 0 ≠ [] := by
  have hc := six hi
  match os, h4 with
  | a :: b :: c :: d :: r, _ => rcases hc with rfl | rfl | rfl | rfl | rfl | rfl <;> (unfold szM cutM; simp)
theorem cutM_7 {i : Nat} (hi : i < 6) (os : List Nat) : (cutM os (szM i) 0).length ≤ 7 := by
  refine Nat.le_trans (cutM_len os (szM i) 0) ?_
  have hc := six hi
  rcases hc with rfl | rfl | rfl | rfl | rfl | rfl <;> decide
theorem digs_mem (al : List Nat) (ha : al.length = 64) : ∀ (k v : Nat) (acc : List Nat), ∀ x ∈ digs al k v acc, x ∈ al ∨ x ∈ acc
  | 0, _, _, x, h => .inr h
  | k + 1, v, acc, x, h => by
    rcases digs_mem al ha k (v / 64) (al.getD (v % 64) 0 :: acc) x h with h | h
    · exact .inl h
    · rcases List.mem_cons.mp h with rfl | h
      · refine .inl ?_
        have hv : v % 64 < al.length := by rw [ha]; exact Nat.mod_lt _ (by decide)
        rw [List.getD_eq_getElem?_getD, List.getElem?_eq_getElem hv]
        exact List.getElem_mem hv
      · exact .inr h
theorem digs_cnt (al : List Nat) : ∀ (k v : Nat) (acc : List Nat), (digs al k v acc).length = k + acc.length
  | 0, _, _ => by simp [digs]
  | k + 1, v, acc => by
    have := digs_cnt al k (v / 64) (al.getD (v % 64) 0 :: acc)
    unfold digs
    rw [this, List.length_cons, Nat.add_right_comm, Nat.add_assoc]
theorem sgn_len (two ps : List Nat) : (sgn two ps).length = (ps.length + shortOf ps.length) / 3 * 4 - shortOf ps.length + shortOf ps.length := by
  unfold sgn
  simp only [List.length_append, List.length_take, List.length_replicate, digs_cnt, List.length_nil, Nat.add_zero]
  rw [Nat.min_eq_left (Nat.sub_le _ _)]
theorem sgn_nm {a b : Nat} (ha : a ∈ pun) (hb : b ∈ pun) {ps : List Nat} (h0 : ps ≠ []) (hl : ps.length ≤ 12) : Nm (sgn [a, b] ps) ∧ (sgn [a, b] ps).length ≤ 16 := by
  have h1 := sgn_len [a, b] ps
  have hp : 0 < ps.length := List.length_pos_iff.mpr h0
  have h3 : (ps.length + shortOf ps.length) / 3 * 4 ≥ 4 ∧ shortOf ps.length ≤ 2 ∧ (ps.length + shortOf ps.length) / 3 * 4 ≤ 16 :=
    have hs2 : shortOf ps.length ≤ 2 := Nat.le_of_lt_succ (Nat.mod_lt _ (by decide))
    ⟨short_ge hp, hs2, Nat.le_trans (Nat.mul_le_mul_right 4 (Nat.div_le_div_right (Nat.add_le_add hl hs2))) (by decide)⟩
  have hne : 4 ≤ (sgn [a, b] ps).length := by rw [h1, Nat.sub_add_cancel (short_le _)]; exact h3.1
  have hmem : ∀ x ∈ sgn [a, b] ps, x ∈ abc ++ [a, b] ∨ x = 61 := by
    intro x hx
    unfold sgn at hx
    rcases List.mem_append.mp hx with hx | hx
    · rcases digs_mem (abc ++ [a, b]) rfl _ _ _ x (List.mem_of_mem_take hx) with h | h
      · exact .inl h
      · cases h
    · exact .inr (List.eq_of_mem_replicate hx)
  have hpn : ∀ x ∈ pun, x ≠ 47 := by decide
  have habc : ∀ x ∈ abc, x ≠ 47 := by decide
  refine ⟨⟨fun q => by rw [q] at hne; simp at hne, fun q => ?_, fun q => by rw [q] at hne; simp at hne, fun q => by rw [q] at hne; simp at hne⟩, by rw [h1, Nat.sub_add_cancel (short_le _)]; exact h3.2.2⟩
  rcases hmem 47 q with h | h
  · rcases List.mem_append.mp h with h | h
    · exact habc 47 h rfl
    · rcases List.mem_cons.mp h with h | h
      · exact hpn a ha h.symm
      · rw [List.mem_singleton] at h; exact hpn b hb h.symm
  · cases h
theorem pt_sum : ∀ (ns : List (List Nat)), (∀ q ∈ ns, q.length ≤ 16) → (pt ns).length ≤ 17 * ns.length
  | [], _ => by simp [pt]
  | q :: ns, h => by
    have := pt_sum ns fun x hx => h x (.tail _ hx)
    have := h q (.head _)
    rw [pt_cons, List.length_cons]
    simp only [List.length_append, List.length_cons] at *
    omega
/-- a path of names -/
theorem fold_pt : ∀ (ns done : List (List Nat)), (∀ q ∈ ns, Nm q) → done ≠ [] → (∀ q ∈ done, Nm q) → ns.foldl jstep (pt done) = pt (done ++ ns)
  | [], done, _, _, _ => by simp
  | q :: ns, done, h, h0, hd => by
    have hq := h q (.head _)
    have e : jstep (pt done) q = pt (done ++ [q]) := by
      obtain ⟨x, p, rfl⟩ := snoc_of h0
      have hp := hd p (by simp)
      have c1 : ¬ (q.head? = some 47 ∨ pt (x ++ [p]) = []) := by
        rintro (hh | hh)
        · exact hq.2.1 (List.mem_of_head? hh)
        · rw [pt_snoc] at hh; simp at hh
      have c2 : ¬ (pt (x ++ [p])).getLast? = some 47 := by
        intro hh
        rw [pt_snoc, List.getLast?_append, List.getLast?_cons] at hh
        have hpl : p.getLast? = some (p.getLast hp.1) := List.getLast?_eq_some_getLast hp.1
        rw [hpl] at hh
        have : p.getLast hp.1 = 47 := by simpa using hh
        exact hp.2.1 (by rw [← this]; exact List.getLast_mem hp.1)
      unfold jstep
      rw [if_neg c1, if_neg c2, pt_snoc (x ++ [p])]
    rw [List.foldl_cons, e, fold_pt ns (done ++ [q]) (fun x hx => h x (.tail _ hx)) (by simp) (fun x hx => ?_), List.append_assoc]
    · rfl
    · rcases List.mem_append.mp hx with hx | hx
      · exact hd x hx
      · rw [List.mem_singleton] at hx; rw [hx]; exact hq
theorem path_ok {ns : List (List Nat)} (h : ∀ q ∈ ns, Nm q) (h0 : ns ≠ []) : ns.foldl jstep [47] = pt ns := by
  match ns, h0 with
  | q :: r, _ =>
    have hq := h q (.head _)
    have e : jstep [47] q = pt [q] := by
      have c1 : ¬ (q.head? = some 47 ∨ ([47] : List Nat) = []) := by
        rintro (hh | hh)
        · exact hq.2.1 (List.mem_of_head? hh)
        · cases hh
      unfold jstep
      rw [if_neg c1, if_pos (by rfl)]
      simp [pt]
    rw [List.foldl_cons, e, fold_pt r [q] (fun x hx => h x (.tail _ hx)) (by simp) (fun x hx => by rw [List.mem_singleton] at hx; rw [hx]; exact hq)]
    rfl
end
section
set_option maxRecDepth 100000
/-- octets in sixes, by an alphabet -/
noncomputable def e64 (al : List Nat) : List Nat → List Nat
  | [] => []
  | [x] => [al.getD (x / 4) 0, al.getD (x % 4 * 16) 0, 61, 61]
  | [x, y] => [al.getD (x / 4) 0, al.getD (x % 4 * 16 + y / 16) 0, al.getD (y % 16 * 4) 0, 61]
  | x :: y :: z :: r => al.getD (x / 4) 0 :: al.getD (x % 4 * 16 + y / 16) 0 :: al.getD (y % 16 * 4 + z / 64) 0 :: al.getD (z % 64) 0 :: e64 al r
theorem bW8 (o : List Nat) (lc : Nat) : bW o 8 lc = (o ++ [al0.getD (lc / 4 % 64) 0], 2) := by
  rw [bW, if_pos (by decide), bW, if_neg (by decide)]
theorem bW10 (o : List Nat) (lc : Nat) : bW o 10 lc = (o ++ [al0.getD (lc / 16 % 64) 0], 4) := by
  rw [bW, if_pos (by decide), bW, if_neg (by decide)]
theorem bW12 (o : List Nat) (lc : Nat) : bW o 12 lc = (o ++ [al0.getD (lc / 64 % 64) 0] ++ [al0.getD (lc % 64) 0], 0) := by
  rw [bW, if_pos (by decide), bW, if_pos (by decide), bW, if_neg (by decide)]
  simp
theorem bS0 (o : List Nat) (lc x : Nat) (hx : x < 256) : ∃ lc', bStep (o, 0, lc) x = (o ++ [al0.getD (x / 4) 0], 2, lc') ∧ lc' % 256 = x := by
  refine ⟨(lc * 256 + x) % 65536, ?_, sx0 hx⟩
  show ((bW o 8 _).1, (bW o 8 _).2, _) = _
  rw [bW8]
  have : (lc * 256 + x) % 65536 / 4 % 64 = x / 4 := by rw [sxm hx]; exact bs0 _ hx
  rw [this]
theorem bS2 (o : List Nat) (lc x y : Nat) (hx : lc % 256 = x) (hy : y < 256) : ∃ lc', bStep (o, 2, lc) y = (o ++ [al0.getD (x % 4 * 16 + y / 16) 0], 4, lc') ∧ lc' % 256 = y := by
  refine ⟨(lc * 256 + y) % 65536, ?_, sx0 hy⟩
  show ((bW o 10 _).1, (bW o 10 _).2, _) = _
  rw [bW10]
  have : (lc * 256 + y) % 65536 / 16 % 64 = x % 4 * 16 + y / 16 := by rw [sxm hy, hx]; exact bs2 _ hy
  rw [this]
theorem bS4 (o : List Nat) (lc y z : Nat) (hx : lc % 256 = y) (hz : z < 256) : ∃ lc', bStep (o, 4, lc) z = (o ++ [al0.getD (y % 16 * 4 + z / 64) 0] ++ [al0.getD (z % 64) 0], 0, lc') := by
  refine ⟨(lc * 256 + z) % 65536, ?_⟩
  show ((bW o 12 _).1, (bW o 12 _).2, _) = _
  rw [bW12]
  have h1 : (lc * 256 + z) % 65536 / 64 % 64 = y % 16 * 4 + z / 64 := by rw [sxm hz, hx]; exact bs4 _ hz
  have h2 : (lc * 256 + z) % 65536 % 64 = z % 64 := by rw [sxm hz]; exact bs5 _ _
  rw [h1, h2]
theorem b64_e : ∀ (ps : List Nat) (o : List Nat) (lc : Nat), (∀ x ∈ ps, x < 256) → bEnd (ps.foldl bStep (o, 0, lc)) = o ++ e64 al0 ps
  | [], o, lc, _ => by simp [bEnd, e64]
  | [x], o, lc, h => by
    obtain ⟨l1, e1, q1⟩ := bS0 o lc x (h x (by simp))
    rw [List.foldl_cons, e1, List.foldl_nil]
    unfold bEnd e64
    rw [if_pos rfl]
    have : l1 % 4 * 16 = x % 4 * 16 := by rw [← q1, Nat.mod_mod_of_dvd _ (⟨64, rfl⟩ : 4 ∣ 256)]
    dsimp only
    rw [this]; simp
  | [x, y], o, lc, h => by
    obtain ⟨l1, e1, q1⟩ := bS0 o lc x (h x (by simp))
    obtain ⟨l2, e2, q2⟩ := bS2 (o ++ [al0.getD (x / 4) 0]) l1 x y q1 (h y (by simp))
    rw [List.foldl_cons, e1, List.foldl_cons, e2, List.foldl_nil]
    unfold bEnd e64
    dsimp only
    rw [if_neg (by decide), if_pos rfl]
    have : l2 % 16 * 4 = y % 16 * 4 := by rw [← q2, Nat.mod_mod_of_dvd _ (⟨16, rfl⟩ : 16 ∣ 256)]
    rw [this]; simp
  | x :: y :: z :: r, o, lc, h => by
    obtain ⟨l1, e1, q1⟩ := bS0 o lc x (h x (by simp))
    obtain ⟨l2, e2, q2⟩ := bS2 (o ++ [al0.getD (x / 4) 0]) l1 x y q1 (h y (by simp))
    obtain ⟨l3, e3⟩ := bS4 (o ++ [al0.getD (x / 4) 0] ++ [al0.getD (x % 4 * 16 + y / 16) 0]) l2 y z q2 (h z (by simp))
    rw [List.foldl_cons, e1, List.foldl_cons, e2, List.foldl_cons, e3, b64_e r _ l3 fun q hq => h q (by simp [hq])]
    simp [e64]
theorem digs_mod (al : List Nat) (X : Nat) : ∀ (m r : Nat) (acc : List Nat), digs al m (X * 64 ^ m + r) acc = digs al m r acc
  | 0, _, _ => rfl
  | m + 1, r, acc => by
    unfold digs
    have h1 : (X * 64 ^ (m + 1) + r) / 64 = X * 64 ^ m + r / 64 := by rw [Nat.pow_succ, ← Nat.mul_assoc, Nat.mul_comm _ 64, Nat.mul_add_div (by decide)]
    have h2 : (X * 64 ^ (m + 1) + r) % 64 = r % 64 := by rw [Nat.pow_succ, ← Nat.mul_assoc, Nat.mul_comm _ 64, Nat.mul_add_mod]
    rw [h1, h2, digs_mod al X m (r / 64)]
theorem digs4 (al : List Nat) (X m r : Nat) (hr : r < 64 ^ m) : digs al (m + 4) (X * 64 ^ m + r) [] = al.getD (X / 262144 % 64) 0 :: al.getD (X / 4096 % 64) 0 :: al.getD (X / 64 % 64) 0 :: al.getD (X % 64) 0 :: digs al m r [] := by
  have hd : ∀ j, (X * 64 ^ m + r) / 64 ^ (m + j) = X / 64 ^ j := fun j => by
    rw [Nat.pow_add, ← Nat.div_div_eq_div_mul, Nat.mul_comm, Nat.mul_add_div (Nat.pow_pos (by decide)), Nat.div_eq_of_lt hr, Nat.add_zero]
  rw [digs_succ, digs_succ, digs_succ, digs_succ, hd 3, hd 2, hd 1, digs_mod]
  have := hd 0
  rw [Nat.add_zero] at this
  rw [this]
  simp
theorem val_app (a b : List Nat) (v : Nat) : val256 (a ++ b) v = val256 b (val256 a v) := by unfold val256; rw [List.foldl_append]
theorem val_lin : ∀ (b : List Nat) (v : Nat), val256 b v = v * 256 ^ b.length + val256 b 0
  | [], v => by simp [val256]
  | x :: b, v => by
    show val256 b (v * 256 + x) = _ + val256 b (0 * 256 + x)
    rw [val_lin b (v * 256 + x), val_lin b (0 * 256 + x), List.length_cons, Nat.pow_succ, Nat.add_mul]
    rw [Nat.mul_comm (256 ^ b.length) 256, ← Nat.mul_assoc]
    simp [Nat.add_assoc]
theorem val_lt : ∀ (b : List Nat), (∀ x ∈ b, x < 256) → val256 b 0 < 256 ^ b.length
  | [], _ => by simp [val256]
  | x :: b, h => by
    show val256 b (0 * 256 + x) < _
    rw [val_lin, List.length_cons, Nat.pow_succ]
    have h1 := val_lt b fun y hy => h y (.tail _ hy)
    have h2 := h x (.head _)
    have h3 : (0 * 256 + x + 1) * 256 ^ b.length ≤ 256 * 256 ^ b.length := Nat.mul_le_mul_right _ (by omega)
    rw [Nat.add_mul] at h3
    rw [Nat.mul_comm (256 ^ b.length) 256]
    omega
theorem sgn_eq (two ps : List Nat) : sgn two ps = (digs (abc ++ two) ((ps.length + shortOf ps.length) / 3 * 4) (val256 (ps ++ List.replicate (shortOf ps.length) 0) 0) []).take ((ps.length + shortOf ps.length) / 3 * 4 - shortOf ps.length) ++ List.replicate (shortOf ps.length) 61 := by
  unfold sgn
  simp only [digs_cnt, List.length_nil, Nat.add_zero]
theorem pow3 (k : Nat) : 256 ^ (3 * k) = 64 ^ (4 * k) := by
  rw [Nat.pow_mul, Nat.pow_mul]
theorem sgn_e (two : List Nat) : ∀ (ps : List Nat), (∀ x ∈ ps, x < 256) → sgn two ps = e64 (abc ++ two) ps
  | [], _ => by rfl
  | [x], h => by
    have hx := h x (by simp)
    rw [sgn_eq, show shortOf [x].length = 2 from rfl, show ([x].length + 2) / 3 * 4 = 0 + 4 from by simp]
    show (digs (abc ++ two) (0 + 4) (val256 [x, 0, 0] 0) []).take 2 ++ [61, 61] = _
    have e : val256 [x, 0, 0] 0 = (x * 65536) * 64 ^ 0 + 0 := by unfold val256; simp; omega
    rw [e, digs4 _ _ 0 0 (by decide)]
    have h1 : x * 65536 / 262144 % 64 = x / 4 := by have := dv1 (x := x) (y := 0) (z := 0) hx (by decide) (by decide); rwa [Nat.zero_mul, Nat.add_zero] at this
    have h2 : x * 65536 / 4096 % 64 = x % 4 * 16 := by have := dv2 (x := x) (y := 0) (z := 0) (by decide) (by decide); rwa [Nat.zero_mul, Nat.add_zero] at this
    rw [h1, h2]
    rfl
  | [x, y], h => by
    have hx := h x (by simp)
    have hy := h y (by simp)
    rw [sgn_eq, show shortOf [x, y].length = 1 from rfl, show ([x, y].length + 1) / 3 * 4 = 0 + 4 from by simp]
    show (digs (abc ++ two) (0 + 4) (val256 [x, y, 0] 0) []).take 3 ++ [61] = _
    have e : val256 [x, y, 0] 0 = (x * 65536 + y * 256) * 64 ^ 0 + 0 := by unfold val256; simp; omega
    rw [e, digs4 _ _ 0 0 (by decide)]
    have h1 : (x * 65536 + y * 256) / 262144 % 64 = x / 4 := by have := dv1 (x := x) (y := y) (z := 0) hx hy (by decide); rwa [Nat.add_zero] at this
    have h2 : (x * 65536 + y * 256) / 4096 % 64 = x % 4 * 16 + y / 16 := by have := dv2 (x := x) (y := y) (z := 0) hy (by decide); rwa [Nat.add_zero] at this
    have h3 : (x * 65536 + y * 256) / 64 % 64 = y % 16 * 4 := by have := dv3 (x := x) (y := y) (z := 0) (by decide); rwa [Nat.add_zero, Nat.zero_div, Nat.add_zero] at this
    rw [h1, h2, h3]
    rfl
  | x :: y :: z :: r, h => by
    have hx := h x (by simp)
    have hy := h y (by simp)
    have hz := h z (by simp)
    have hr : ∀ q ∈ r, q < 256 := fun q hq => h q (by simp [hq])
    have ih := sgn_e two r hr
    rw [sgn_eq] at ih ⊢
    have hs : shortOf (x :: y :: z :: r).length = shortOf r.length := by unfold shortOf; simp only [List.length_cons]; exact sh3 _
    rw [hs]
    obtain ⟨k, hk⟩ : ∃ k, r.length + shortOf r.length = 3 * k := shk r.length
    have hn : ((x :: y :: z :: r).length + shortOf r.length) / 3 * 4 = 4 * k + 4 := by
      have e3 : (x :: y :: z :: r).length + shortOf r.length = 3 * (k + 1) := by rw [Nat.mul_succ, ← hk]; exact Nat.add_right_comm r.length 3 (shortOf r.length)
      rw [e3, Nat.mul_div_cancel_left _ (by decide), Nat.mul_comm]; rfl
    have hm : (r.length + shortOf r.length) / 3 * 4 = 4 * k := by rw [hk, Nat.mul_div_cancel_left _ (by decide), Nat.mul_comm]
    rw [hm] at ih
    rw [hn]
    have hv : val256 (x :: y :: z :: r ++ List.replicate (shortOf r.length) 0) 0 = (x * 65536 + y * 256 + z) * 64 ^ (4 * k) + val256 (r ++ List.replicate (shortOf r.length) 0) 0 := by
      have e3 : val256 [x, y, z] 0 = x * 65536 + y * 256 + z := by
        show ((0 * 256 + x) * 256 + y) * 256 + z = _
        rw [Nat.zero_mul, Nat.zero_add, tri]
      rw [show x :: y :: z :: r ++ List.replicate (shortOf r.length) 0 = [x, y, z] ++ (r ++ List.replicate (shortOf r.length) 0) from by simp, val_app, e3, val_lin, List.length_append, List.length_replicate, hk, pow3]
    have hlt : val256 (r ++ List.replicate (shortOf r.length) 0) 0 < 64 ^ (4 * k) := by
      have := val_lt (r ++ List.replicate (shortOf r.length) 0) (fun q hq => by
        rcases List.mem_append.mp hq with hq | hq
        · exact hr q hq
        · rw [List.eq_of_mem_replicate hq]; decide)
      rw [List.length_append, List.length_replicate, hk, pow3] at this
      exact this
    rw [hv, digs4 _ _ _ _ hlt]
    have h1 : (x * 65536 + y * 256 + z) / 262144 % 64 = x / 4 := dv1 hx hy hz
    have h2 : (x * 65536 + y * 256 + z) / 4096 % 64 = x % 4 * 16 + y / 16 := dv2 hy hz
    have h3 : (x * 65536 + y * 256 + z) / 64 % 64 = y % 16 * 4 + z / 64 := dv3 hz
    have h4 : (x * 65536 + y * 256 + z) % 64 = z % 64 := dv4 x y z
    rw [h1, h2, h3, h4]
    have hle : shortOf r.length ≤ 4 * k := Nat.le_trans (Nat.le_trans (Nat.le_add_left _ _) (Nat.le_of_eq hk)) (Nat.mul_le_mul_right k (by decide))
    rw [Nat.sub_add_comm hle]
    simp only [List.take_succ_cons, List.cons_append]
    rw [ih]
    rfl
theorem sub_al {a b : Nat} : ∀ k < 64, Dec.sub2 a b (al0.getD k 0) = (abc ++ [a, b]).getD k 0 := by
  intro k hk
  have h62 : ∀ k < 62, al0.getD k 0 = abc.getD k 0 ∧ abc.getD k 0 ≠ 43 ∧ abc.getD k 0 ≠ 47 := by decide
  by_cases h : k < 62
  · obtain ⟨e1, e2, e3⟩ := h62 k h
    unfold Dec.sub2
    rw [e1, if_neg e2, if_neg e3, List.getD_eq_getElem?_getD, List.getD_eq_getElem?_getD, List.getElem?_append_left (by exact h)]
  · have : k = 62 ∨ k = 63 := by omega
    rcases this with rfl | rfl <;> rfl
theorem e64_sub {a b : Nat} : ∀ (ps : List Nat), (∀ x ∈ ps, x < 256) → (e64 al0 ps).map (Dec.sub2 a b) = e64 (abc ++ [a, b]) ps
  | [], _ => rfl
  | [x], h => by
    have hx := h x (by simp)
    simp only [e64, List.map_cons, List.map_nil]
    rw [sub_al _ (q1 hx), sub_al _ (q5 x)]; rfl
  | [x, y], h => by
    have hx := h x (by simp)
    have hy := h y (by simp)
    simp only [e64, List.map_cons, List.map_nil]
    rw [sub_al _ (q1 hx), sub_al _ (q2 hy), sub_al _ (q6 y)]; rfl
  | x :: y :: z :: r, h => by
    have hx := h x (by simp)
    have hy := h y (by simp)
    have hz := h z (by simp)
    simp only [e64, List.map_cons]
    rw [sub_al _ (q1 hx), sub_al _ (q2 hy), sub_al _ (q3 hz), sub_al _ (q4 z), e64_sub r fun q hq => h q (by simp [hq])]
/-- the library's signs are the law's -/
theorem b64_sgn {a b : Nat} {ps : List Nat} (h : ∀ x ∈ ps, x < 256) : b64s a b ps = sgn [a, b] ps := by
  unfold b64s b64
  rw [b64_e ps [] 0 h, List.nil_append, e64_sub ps h, sgn_e _ ps h]
end
section
theorem ahead_idx : ∀ {ps : List (List Nat)}, ps.Pairwise (fun a b => leL a b = true) → ∀ r ∈ ps, aheadOf ps r = ps.idxOf r
  | [], _, r, h => by cases h
  | q :: t, hs, r, h => by
    have hp := List.pairwise_cons.mp hs
    have hr : ∀ x ∈ t, ¬ x < q := fun x hx => List.not_lt.mpr (leL_iff.mp (hp.1 x hx))
    unfold aheadOf
    by_cases e : q = r
    · subst e
      rw [List.idxOf_cons_self]
      have : (q :: t).filter (fun x => decide (x < q)) = [] := by
        rw [List.filter_eq_nil_iff]
        intro x hx
        rcases List.mem_cons.mp hx with rfl | hx
        · simpa using List.lt_irrefl x
        · simpa using List.not_lt.mp (hr x hx)
      rw [this]; rfl
    · have hrt : r ∈ t := by
        rcases List.mem_cons.mp h with h | h
        · exact absurd h.symm e
        · exact h
      have hlt : q < r := by
        by_cases h' : q < r
        · exact h'
        · exact absurd (leL_anti (hp.1 r hrt) (leL_iff.mpr (List.not_lt.mp h'))) e
      have ih := ahead_idx hp.2 r hrt
      unfold aheadOf at ih
      rw [List.filter_cons_of_pos (by simpa using hlt), List.length_cons, ih, List.idxOf_cons]
      have : (q == r) = false := by simpa using e
      rw [this]; rfl
theorem srt_eq {a b : List (List Nat)} (h : a.Perm b) : srt a = srt b := srt_of ((srt_perm a).trans h) (srt_pair a)
theorem addN_mem (rs : List (List Nat)) : ∀ (acc : List (List Nat)) (x : List Nat), x ∈ rs.foldl addN acc ↔ x ∈ acc ∨ x ∈ rs := by
  induction rs with
  | nil => intro acc x; simp
  | cons r rs ih =>
    intro acc x
    rw [List.foldl_cons, ih]
    unfold addN
    split
    · rename_i h
      have hm : r ∈ acc := by simpa using h
      constructor
      · rintro (h | h)
        · exact .inl h
        · exact .inr (.tail _ h)
      · rintro (h | h)
        · exact .inl h
        · rcases List.mem_cons.mp h with rfl | h
          · exact .inl hm
          · exact .inr h
    · simp [or_assoc]
theorem addN_nd (rs : List (List Nat)) : ∀ (acc : List (List Nat)), acc.Nodup → (rs.foldl addN acc).Nodup := by
  induction rs with
  | nil => intro acc h; exact h
  | cons r rs ih =>
    intro acc h
    rw [List.foldl_cons]
    refine ih _ ?_
    unfold addN
    split
    · exact h
    · rename_i hn
      rw [List.nodup_append]
      refine ⟨h, by simp, fun a ha b hb e => ?_⟩
      rw [List.mem_singleton] at hb
      subst hb; subst e
      exact hn (by simpa using ha)
theorem told_mem (ns : List (List Nat)) (x : List Nat) : x ∈ tolds ns ↔ ∃ k m, k < ns.length ∧ 1 ≤ m ∧ m ≤ ns.length ∧ x = pt (((ns ++ ns).drop k).take m) := by
  unfold tolds
  rw [addN_mem]
  unfold runsTo runsAt
  simp only [List.not_mem_nil, false_or, List.mem_flatMap, List.mem_range, List.mem_map]
  constructor
  · rintro ⟨k, hk, j, hj, rfl⟩
    exact ⟨k, j + 1, hk, by omega, by omega, rfl⟩
  · rintro ⟨k, m, hk, h1, h2, rfl⟩
    exact ⟨k, hk, m - 1, by omega, by rw [show m - 1 + 1 = m by omega]⟩
theorem told_rots (ns : List (List Nat)) (x : List Nat) : x ∈ tolds ns ↔ ∃ u ∈ rots ns, ∃ m, 1 ≤ m ∧ m ≤ ns.length ∧ x = pt (u.take m) := by
  rw [told_mem]
  have key : ∀ k m, k < ns.length → m ≤ ns.length → ((ns ++ ns).drop k).take m = (ns.drop k ++ ns.take k).take m := by
    intro k m hk hm
    rw [List.drop_append_of_le_length (by omega)]
    have e : ns = ns.take k ++ ns.drop k := (List.take_append_drop k ns).symm
    conv => lhs; rw [show ns.drop k ++ ns = ns.drop k ++ (ns.take k ++ ns.drop k) by rw [← e]]
    rw [← List.append_assoc, List.take_append_of_le_length]
    rw [List.length_append, List.length_drop, List.length_take]; omega
  have rk : ∀ k, k < ns.length → ns.drop k ++ ns.take k ∈ rots ns := by
    intro k hk
    unfold rots
    rw [List.mem_map]
    by_cases h0 : k = 0
    · subst h0
      refine ⟨0, List.mem_range.mpr hk, ?_⟩
      unfold rot; simp
    · refine ⟨ns.length - k, List.mem_range.mpr (by omega), ?_⟩
      unfold rot
      rw [Nat.sub_sub_self (Nat.le_of_lt hk)]
  constructor
  · rintro ⟨k, m, hk, h1, h2, rfl⟩
    exact ⟨_, rk k hk, m, h1, h2, by rw [key k m hk h2]⟩
  · rintro ⟨u, hu, m, h1, h2, rfl⟩
    unfold rots at hu
    obtain ⟨i, hi, rfl⟩ := List.mem_map.mp hu
    have hi' := List.mem_range.mp hi
    by_cases h0 : i = 0
    · subst h0
      refine ⟨0, m, hi', h1, h2, ?_⟩
      rw [key 0 m hi' h2]
      unfold rot; simp
    · refine ⟨ns.length - i, m, by omega, h1, h2, ?_⟩
      rw [key _ m (by omega) h2]
      rfl
theorem cpx_pre' : ∀ a b : List (List Nat), cpx a b = a.take (cpx a b).length
  | [], b => by cases b <;> rfl
  | _ :: _, [] => rfl
  | x :: a, y :: b => by
    unfold cpx
    by_cases h : x = y
    · rw [if_pos h, List.length_cons, List.take_succ_cons, ← cpx_pre' a b]
    · rw [if_neg h]; rfl
theorem cpx_tk {a b : List (List Nat)} {m : Nat} (h : m ≤ (cpx a b).length) : a.take m = b.take m := by
  have h1 : (cpx a b).take m = b.take m := by rw [cpx_pre a b, List.take_take, Nat.min_eq_left h]
  have h2 : (cpx a b).take m = a.take m := by rw [cpx_pre' a b, List.take_take, Nat.min_eq_left h]
  rw [← h1, ← h2]
theorem cpx_ge : ∀ {a b : List (List Nat)} {m : Nat}, a.take m = b.take m → m ≤ a.length → m ≤ b.length → m ≤ (cpx a b).length
  | _, _, 0, _, _, _ => Nat.zero_le _
  | [], _, m + 1, _, h, _ => by simp at h
  | _ :: _, [], m + 1, _, _, h => by simp at h
  | x :: a, y :: b, m + 1, h, h1, h2 => by
    rw [List.take_succ_cons, List.take_succ_cons, List.cons.injEq] at h
    have := cpx_ge h.2 (by simpa using h1) (by simpa using h2)
    unfold cpx
    rw [if_pos h.1, List.length_cons]; omega
/-- what stands between two texts that begin alike begins so too -/
theorem pre_between : ∀ (P a x b : List Nat), P ++ a ≤ x → x ≤ P ++ b → ∃ r, x = P ++ r
  | [], _, x, _, _, _ => ⟨x, rfl⟩
  | c :: P, a, [], b, h1, _ => by
    exact absurd (List.nil_lt_cons c (P ++ a)) (List.not_lt.mpr h1)
  | c :: P, a, d :: x, b, h1, h2 => by
    rw [List.cons_append, List.cons_le_cons_iff] at h1 h2
    have hd : c = d := by
      rcases h1 with h1 | ⟨h1, _⟩
      · rcases h2 with h2 | ⟨h2, _⟩
        · omega
        · exact h2.symm
      · exact h1
    subst hd
    have h1' : P ++ a ≤ x := by
      rcases h1 with h1 | ⟨_, h1⟩
      · exact absurd h1 (Nat.lt_irrefl _)
      · exact h1
    have h2' : x ≤ P ++ b := by
      rcases h2 with h2 | ⟨_, h2⟩
      · exact absurd h2 (Nat.lt_irrefl _)
      · exact h2
    obtain ⟨r, rfl⟩ := pre_between P a x b h1' h2'
    exact ⟨r, rfl⟩
theorem cut47 : ∀ {p q a b : List Nat}, 47 ∉ p → 47 ∉ q → p ++ 47 :: a = q ++ 47 :: b → p = q ∧ a = b
  | [], [], _, _, _, _, h => ⟨rfl, by simpa using h⟩
  | [], c :: q, _, _, _, hq, h => by
    rw [List.nil_append, List.cons_append, List.cons.injEq] at h
    exact absurd (by rw [h.1]; exact .head _) hq
  | c :: p, [], _, _, hp, _, h => by
    rw [List.nil_append, List.cons_append, List.cons.injEq] at h
    exact absurd (by rw [← h.1]; exact .head _) hp
  | c :: p, d :: q, _, _, hp, hq, h => by
    rw [List.cons_append, List.cons_append, List.cons.injEq] at h
    have := cut47 (fun x => hp (.tail _ x)) (fun x => hq (.tail _ x)) h.2
    exact ⟨by rw [h.1, this.1], this.2⟩
/-- a path that begins with a run and a slash -/
theorem pt_pre : ∀ {w v : List (List Nat)} {r : List Nat}, (∀ q ∈ w, 47 ∉ q) → (∀ q ∈ v, 47 ∉ q) → pt v = pt w ++ 47 :: r → v.take w.length = w
  | [], v, _, _, _, _ => by simp
  | q :: w, [], r, _, _, h => by
    rw [pt_cons] at h; cases h
  | q :: w, p :: v, r, hw, hv, h => by
    rw [pt_cons, pt_cons] at h
    simp only [List.cons_append, List.cons.injEq, true_and, List.append_assoc] at h
    have h2 := h
    have hp := hv p (.head _)
    have hq := hw q (.head _)
    have e : ∀ z : List (List Nat), z ≠ [] → ∃ y, pt z = 47 :: y := fun z hz => by
      cases z with
      | nil => exact absurd rfl hz
      | cons a b => exact ⟨_, pt_cons a b⟩
    have hwr : ∃ y, pt w ++ 47 :: r = 47 :: y := by
      cases w with
      | nil => exact ⟨r, rfl⟩
      | cons a b => exact ⟨a ++ pt b ++ 47 :: r, by rw [pt_cons]; simp⟩
    obtain ⟨y, hy⟩ := hwr
    rw [hy] at h2
    cases v with
    | nil =>
      exfalso
      have : p = q ++ 47 :: y := by simpa [pt] using h2
      exact hp (by rw [this]; simp)
    | cons a b =>
      obtain ⟨y2, hy2⟩ := e (a :: b) (by simp)
      rw [hy2] at h2
      obtain ⟨e1, e2⟩ := cut47 hp hq h2
      have h3 : pt (a :: b) = pt w ++ 47 :: r := by rw [hy2, hy, e2]
      have ih := pt_pre (fun x hx => hw x (.tail _ hx)) (fun x hx => hv x (.tail _ hx)) h3
      rw [List.length_cons, List.take_succ_cons, ih, e1]
section
variable {us : List (List (List Nat))} {n : Nat}
theorem runs_mem (hl : ∀ u ∈ us, u.length = n) (x : List Nat) : x ∈ runsL us us.length ↔ ∃ j m, j < us.length ∧ (cpx (prv us j) (us.getD j [])).length < m ∧ m ≤ n ∧ x = pt ((us.getD j []).take m) := by
  have hj : ∀ j, j < us.length → (us.getD j []).length = n := fun j h => by
    rw [List.getD_eq_getElem?_getD, List.getElem?_eq_getElem h]; exact hl _ (List.getElem_mem h)
  unfold runsL runUp
  simp only [List.mem_flatMap, List.mem_range, List.mem_map]
  constructor
  · rintro ⟨j, h, i, hi, rfl⟩
    rw [hj j h] at hi ⊢
    exact ⟨j, n - i, h, sb3 (Nat.lt_of_lt_of_le hi (Nat.min_le_right _ _)), Nat.sub_le _ _, rfl⟩
  · rintro ⟨j, m, h, h1, h2, rfl⟩
    refine ⟨j, h, n - m, ?_, ?_⟩
    · rw [hj j h]
      have m0 := Nat.lt_of_le_of_lt (Nat.zero_le _) h1
      exact Nat.lt_min.mpr ⟨Nat.sub_lt (Nat.lt_of_lt_of_le m0 h2) m0, Nat.sub_lt_sub_left (Nat.lt_of_lt_of_le h1 h2) h1⟩
    · rw [hj j h, Nat.sub_sub_self h2]
/-- each run is told -/
theorem runs_all (hl : ∀ u ∈ us, u.length = n) (x : List Nat) : x ∈ runsL us us.length ↔ ∃ u ∈ us, ∃ m, 1 ≤ m ∧ m ≤ n ∧ x = pt (u.take m) := by
  rw [runs_mem hl]
  constructor
  · rintro ⟨j, m, h, h1, h2, rfl⟩
    refine ⟨us.getD j [], ?_, m, by omega, h2, rfl⟩
    rw [List.getD_eq_getElem?_getD, List.getElem?_eq_getElem h]; exact List.getElem_mem h
  · rintro ⟨u, hu, m, h1, h2, rfl⟩
    obtain ⟨k, hk, rfl⟩ := List.mem_iff_getElem.mp hu
    have : ∀ k (hk : k < us.length), ∃ j, j ≤ k ∧ (cpx (prv us j) (us.getD j [])).length < m ∧ (us.getD j []).take m = (us.getD k []).take m := by
      intro k
      induction k with
      | zero =>
        intro hk
        refine ⟨0, Nat.le_refl _, ?_, rfl⟩
        unfold prv
        rw [if_pos rfl]
        show ([] : List (List Nat)).length < m
        simp; omega
      | succ k ih =>
        intro hk
        by_cases hc : (cpx (prv us (k + 1)) (us.getD (k + 1) [])).length < m
        · exact ⟨k + 1, Nat.le_refl _, hc, rfl⟩
        · have e := cpx_tk (Nat.le_of_not_lt hc)
          unfold prv at e
          rw [if_neg (by omega), Nat.add_sub_cancel] at e
          obtain ⟨j, j1, j2, j3⟩ := ih (by omega)
          exact ⟨j, by omega, j2, j3.trans e⟩
    obtain ⟨j, j1, j2, j3⟩ := this k hk
    refine ⟨j, m, by omega, j2, h2, ?_⟩
    rw [j3, List.getD_eq_getElem?_getD, List.getElem?_eq_getElem hk]; rfl
/-- like ones stand side by side -/
theorem runs_nd (hl : ∀ u ∈ us, u.length = n) (hn : ∀ u ∈ us, ∀ q ∈ u, 47 ∉ q) (hs : us.Pairwise fun u v => leL (pt u) (pt v) = true) : (runsL us us.length).Nodup := by
  have hj : ∀ j, j < us.length → us.getD j [] ∈ us := fun j h => by
    rw [List.getD_eq_getElem?_getD, List.getElem?_eq_getElem h]; exact List.getElem_mem h
  have ord : ∀ i j, i ≤ j → j < us.length → leL (pt (us.getD i [])) (pt (us.getD j [])) = true := fun i j hij h => by
    rcases Nat.lt_or_eq_of_le hij with h' | rfl
    · have := List.pairwise_iff_getElem.mp hs i j (by omega) h h'
      rw [List.getD_eq_getElem?_getD, List.getD_eq_getElem?_getD, List.getElem?_eq_getElem h, List.getElem?_eq_getElem (by omega)]
      exact this
    · exact leL_iff.mpr (List.le_refl _)
  have inj : ∀ i j a b, i < us.length → j < us.length → a ≤ n → b ≤ n → pt ((us.getD i []).take a) = pt ((us.getD j []).take b) → a = b ∧ (us.getD i []).take a = (us.getD j []).take b := fun i j a b h1 h2 h3 h4 h => by
    have e := pt_inj (fun q hq => hn _ (hj i h1) q (List.mem_of_mem_take hq)) (fun q hq => hn _ (hj j h2) q (List.mem_of_mem_take hq)) h
    have := congrArg List.length e
    rw [List.length_take, List.length_take, hl _ (hj i h1), hl _ (hj j h2)] at this
    exact ⟨by omega, e⟩
  unfold runsL
  refine List.pairwise_flatMap.mpr ⟨fun j hjm => ?_, ?_⟩
  · have hjl := List.mem_range.mp hjm
    unfold runUp
    refine List.pairwise_map.mpr (List.Pairwise.imp_of_mem (fun {a b} ha hb hab q => ?_) (List.pairwise_lt_range (n := _)))
    have ha' := List.mem_range.mp ha
    have hb' := List.mem_range.mp hb
    rw [hl _ (hj j hjl)] at ha' hb' q
    have := (inj j j _ _ hjl hjl (Nat.sub_le _ _) (Nat.sub_le _ _) q).1
    exact nab this.symm hab (Nat.lt_of_lt_of_le hb' (Nat.min_le_left _ _))
  · refine List.Pairwise.imp_of_mem (fun {i j} hi hjm hij => ?_) (List.pairwise_lt_range (n := us.length))
    have hi' := List.mem_range.mp hi
    have hj' := List.mem_range.mp hjm
    intro x hx y hy e
    subst e
    unfold runUp at hx hy
    obtain ⟨a, ha, rfl⟩ := List.mem_map.mp hx
    obtain ⟨b, hb, hq⟩ := List.mem_map.mp hy
    have ha' := List.mem_range.mp ha
    have hb' := List.mem_range.mp hb
    rw [hl _ (hj i hi')] at ha' hq
    rw [hl _ (hj j hj')] at hb' hq
    obtain ⟨e1, e2⟩ := inj j i _ _ hj' hi' (Nat.sub_le _ _) (Nat.sub_le _ _) hq
    -- the one ahead of j begins so too
    have hk : j - 1 < us.length := Nat.lt_of_le_of_lt (Nat.sub_le _ _) hj'
    have hle1 := ord i (j - 1) (Nat.le_sub_one_of_lt hij) hk
    have hle2 := ord (j - 1) j (Nat.sub_le _ _) hj'
    have hpre : (us.getD (j - 1) []).take (n - b) = (us.getD j []).take (n - b) := by
      by_cases hb0 : b = 0
      · have ea : a = 0 := na0 e1 hb0 (Nat.lt_of_lt_of_le ha' (Nat.min_le_left _ _))
        subst hb0; subst ea
        rw [Nat.sub_zero, List.take_of_length_le (by rw [hl _ (hj j hj')]; exact Nat.le_refl _), List.take_of_length_le (by rw [hl _ (hj i hi')]; exact Nat.le_refl _)] at e2
        rw [e2] at hle2
        have := pt_inj (hn _ (hj i hi')) (hn _ (hj (j - 1) hk)) (leL_anti hle1 hle2)
        rw [← this, ← e2]
      · obtain ⟨w, hw⟩ : ∃ w, w = (us.getD j []).take (n - b) := ⟨_, rfl⟩
        have hwl : w.length = n - b := by rw [hw, List.length_take, hl _ (hj j hj')]; exact Nat.min_eq_left (Nat.sub_le _ _)
        have hww : ∀ u ∈ us, u.take (n - b) = w → ∃ r, pt u = pt w ++ 47 :: r := by
          intro u hu hu2
          have hd : u.drop (n - b) ≠ [] := by
            intro q
            have := congrArg List.length q
            rw [List.length_drop, hl u hu, Nat.sub_sub_self (Nat.le_of_lt (Nat.lt_of_lt_of_le hb' (Nat.min_le_left _ _)))] at this
            exact hb0 this
          obtain ⟨c, d, hcd⟩ := List.exists_cons_of_ne_nil hd
          refine ⟨c ++ pt d, ?_⟩
          conv => lhs; rw [← List.take_append_drop (n - b) u, hu2, hcd, pt_app, pt_cons]
          rfl
        obtain ⟨r1, hr1⟩ := hww _ (hj i hi') (by rw [hw, e2]; congr 1)
        obtain ⟨r2, hr2⟩ := hww _ (hj j hj') hw.symm
        have l1 := leL_iff.mp hle1
        have l2 := leL_iff.mp hle2
        rw [hr1] at l1
        rw [hr2] at l2
        obtain ⟨r, hr⟩ := pre_between (pt w ++ [47]) r1 _ r2 (by rw [List.append_assoc]; exact l1) (by rw [List.append_assoc]; exact l2)
        have := pt_pre (w := w) (v := us.getD (j - 1) []) (r := r) (fun q hq => hn _ (hj j hj') q (List.mem_of_mem_take (by rw [← hw]; exact hq))) (hn _ (hj (j - 1) hk)) (by rw [hr, List.append_assoc, List.singleton_append])
        rw [hwl] at this
        rw [this, hw]
    have hge := cpx_ge (a := us.getD (j - 1) []) (b := us.getD j []) hpre (by rw [hl _ (hj (j - 1) hk)]; exact Nat.sub_le _ _) (by rw [hl _ (hj j hj')]; exact Nat.sub_le _ _)
    unfold prv at hb'
    rw [if_neg (Nat.ne_of_gt (Nat.lt_of_le_of_lt (Nat.zero_le _) hij))] at hb'
    exact absurd hge (Nat.not_le_of_lt (sb3 (Nat.lt_of_lt_of_le hb' (Nat.min_le_right _ _))))
end
theorem runs_told {ns : List (List Nat)} (hn : ∀ q ∈ ns, Nm q) : srt (runsL (inOrd ns) (inOrd ns).length) = srt (tolds ns) := by
  have hp := inOrd_perm ns
  have hl : ∀ u ∈ inOrd ns, u.length = ns.length := fun u hu => (rots_mem (hp.mem_iff.mp hu)).1
  have h47 : ∀ u ∈ inOrd ns, ∀ q ∈ u, 47 ∉ q := fun u hu q hq => (hn q ((rots_mem (hp.mem_iff.mp hu)).2.1 q hq)).2.1
  refine srt_eq ((List.perm_ext_iff_of_nodup (runs_nd hl h47 (inOrd_pair ns)) (addN_nd _ [] List.nodup_nil)).mpr fun x => ?_)
  rw [runs_all hl]
  show _ ↔ x ∈ tolds ns
  rw [told_rots]
  constructor
  · rintro ⟨u, hu, r⟩; exact ⟨u, hp.mem_iff.mp hu, r⟩
  · rintro ⟨u, hu, r⟩; exact ⟨u, hp.mem_iff.mpr hu, r⟩
theorem sgn_lt {a b : Nat} (ha : a ∈ pun) (hb : b ∈ pun) {ps : List Nat} : ∀ x ∈ sgn [a, b] ps, x < 128 := by
  intro x hx
  have hpn : ∀ x ∈ pun, x < 128 := by decide
  have habc : ∀ x ∈ abc, x < 128 := by decide
  unfold sgn at hx
  rcases List.mem_append.mp hx with hx | hx
  · rcases digs_mem (abc ++ [a, b]) rfl _ _ _ x (List.mem_of_mem_take hx) with h | h
    · rcases List.mem_append.mp h with h | h
      · exact habc x h
      · rcases List.mem_cons.mp h with h | h
        · rw [h]; exact hpn a ha
        · rw [List.mem_singleton] at h; rw [h]; exact hpn b hb
    · cases h
  · rw [List.eq_of_mem_replicate hx]; decide
end
section
local macro_rules | `(tactic| walk_at "nm") => alts ["R rF c1 c2 c3 c4 _ c5 c6;c1>a;c2>D;c3>la;c4>go;c5>D;c6>D"]
structure WdL (h : Heap) : Prop where
  fn : ∃ o pm doc, h.get? 265 = some o ∧ o.data = .func (fdOf 42 .none .none pm (.ref 264) doc) ∧ h.CodeRec (.ref 264) (fName (stmtAt 42))
  ch : CodeHd h 264 262
  bm : ∃ mg, h.Ns mainGlobals mg ∧ h.BuiltinsAt mg 262
theorem WdL.keeps {h h' : Heap} (W : WdL h) (k : Keep h h') : WdL h' := by
  obtain ⟨⟨o, pm, doc, h1, h2, h3⟩, c, mg, g, bm, ob, b1, b2, b3, b4, b5, b6⟩ := W
  exact ⟨⟨o, pm, doc, k _ _ h1, h2, h3.keeps k⟩, c.keeps k, mg, g.keeps k, bm, ob, b1, b2, b3, b4, k _ _ b5, b6⟩
noncomputable def lamE : PySem.Expr := match fBody (stmtAt 42) with | [_, .Assign _ (.Call _ _ [⟨_, e, _⟩] _) _, _, _, _] => e | _ => .Name "" ⟨0, 0, 0, 0⟩
noncomputable def lamParams : Arguments := match lamE with | .Lambda p _ _ _ => p | _ => fParams (stmtAt 42)
noncomputable def lamBody : PySem.Expr := match lamE with | .Lambda _ b _ _ => b | _ => lamE
noncomputable def lamScope : Scope := match lamE with | .Lambda _ _ s _ => s | _ => fScope (stmtAt 42)
noncomputable def lamPos : Pos := match lamE with | .Lambda _ _ _ p => p | _ => ⟨0, 0, 0, 0⟩
section
variable {w : World} {A : Around} {E : Value → Shared → Prop} {b s : Shared} {env : Env} {L c D : Addr} {sc : Scope} {l : List (Str × Value)} {nw nw' : List (Addr × Obj)} {Q : Value → Shared → Prop}
/-- a function that the lambda has become -/
noncomputable def LamAt (h : Heap) (f : Addr) (oc : Addr × Obj) (cl : List (Str × Addr)) : Prop := ∃ qual pm ctv, h.get? f = some (kla_obj "<lambda>" qual lamParams lamBody lamScope cl pm oc.1 ctv) ∧ ∃ vs t, oc.2.data = .fields vs ∧ vs[1]? = some (.str qual t)
theorem rLam (e : EnvIs env L sc [("last", c)]) (hcode : env.code = .ref 264) (x : In b L l nw s) (W : WdL b.heap) (hm : (262, tabObj #[]) ∈ nw)
    {nwF : Array Value → List (Addr × Obj)} (h : ∀ c' oc of f o' s', In b L l ((f, of) :: (c', oc) :: nwF o') s' → LamAt s'.heap f (c', oc) [("last", c)] → Q (.ref f) s') (hu : ∀ o', UpdO 262 (tabObj #[]) (tabObj o') nw (nwF o')) :
    wpAny (model PW w) A (eval lamE env) Q E s := by
  show wpAny _ _ (eval (.Lambda lamParams lamBody lamScope lamPos) env) Q E s
  obtain ⟨_, ch, mg, hg, bm, ob, b1, b2, b3, b4, b5, b6⟩ := W
  have gP := (x.nw _ hm).1
  refine kla_eval (by rfl) ?_
  refine kla_makeFunction (mg := mg) (ps := #[]) (clos := [("last", c)]) (closureFor_of e.cells rfl) e.globals (hg.keeps x.keep) hcode (ch.keeps x.keep) gP trivial rfl (by decide) ⟨bm, ob, b1, b2, b3, b4, x.keep _ _ b5, b6⟩ fun c' ctv h' tk hx hge hlt hrec htb => ?_
  obtain ⟨c₂, oc, vs, t, e2, hoc, hd, hv⟩ := hrec
  cases e2
  have u := hu (#[] ++ #[rawInt lamPos.line, rawInt lamPos.col, .ref c'])
  generalize hnw' : nwF (#[] ++ #[rawInt lamPos.line, rawInt lamPos.col, .ref c']) = nw' at u
  have y := x.turn (tk := tk) u hx htb
  have hLs := x.lt
  have y2 : In b L l ((c', oc) :: nw') { s with heap := h', toks := tk } := by
    refine ⟨y.same, y.ns, y.keep, fun p hp => ?_, List.pairwise_cons.mpr ⟨fun p hp q => ?_, y.nd⟩⟩
    · rcases List.mem_cons.mp hp with rfl | hp
      · refine ⟨hoc, Nat.ne_of_gt (Nat.lt_of_lt_of_le hLs hge), ?_⟩
        cases q : b.heap.get? c' with
        | none => rfl
        | some o => exact absurd (Heap.lt_size (x.keep _ _ q)) (Nat.not_lt_of_le hge)
      · exact y.nw p hp
    · have hlt2 : p.1 < s.heap.objs.size := by
        obtain ⟨pre, post, e3, e4⟩ := u.split
        rw [e4] at hp
        rcases List.mem_append.mp hp with hp | hp
        · exact Heap.lt_size (x.nw p (by rw [e3]; exact List.mem_append_left _ hp)).1
        · rcases List.mem_cons.mp hp with rfl | hp
          · exact Heap.lt_size gP
          · exact Heap.lt_size (x.nw p (by rw [e3]; exact List.mem_append_right _ (.tail _ hp))).1
      dsimp only at q
      rw [← q] at hlt2
      exact absurd hlt2 (Nat.not_lt_of_le hge)
  have y3 := y2.pushN (kla_obj "<lambda>" (env.qual ++ "<lambda>") lamParams lamBody lamScope [("last", c)] ((mg "__name__").getD .none) c' ctv) rfl
  subst hnw'
  exact h c' oc _ _ _ _ y3 ⟨_, _, _, (y3.nw _ (.head _)).1, vs, t, hd, hv⟩
theorem LamAt.keeps {h h' : Heap} {f : Addr} {oc : Addr × Obj} {cl : List (Str × Addr)} (x : LamAt h f oc cl) (k : h'.get? f = h.get? f) : LamAt h' f oc cl := by
  obtain ⟨q, pm, ct, e, r⟩ := x
  exact ⟨q, pm, ct, k.trans e, r⟩
/-- a call of the lambda -/
theorem lamCall {us : List (List Nat)} {vs : List Value} {m i : Nat} {t : Tok} {f : Addr} {oc : Addr × Obj} {oC : Obj} {q : List Nat} (W : Wd s.heap) (R : Rm 7 A) (hl : LamAt s.heap f oc [("last", c)]) (hoc : s.heap.get? oc.1 = some oc.2) (hc : s.heap.get? c = some (cellP oC (some (.ref D))))
    (hD : s.heap.get? D = some (lstO vs m)) (ht : Txs vs us) (h7 : us.length ≤ 7) (hq : us[i]? = some q) (hz : q.length ≤ 500) (hq0 : q ≠ []) (hq47 : 47 ∉ q) (h : ∀ t' s', Keeps s s' → Q (.str (S (q ++ [47])) t') s') :
    wpAny (model PW w) A (call (.ref f) [.int (i : Int) t]) Q E s := by
  obtain ⟨qual, pm, ctv, hf, vs', tq, hd, hv⟩ := hl
  refine wpAny_call (kla_callFunE R.room hf rfl rfl rfl rfl ⟨_, _, _, _, rfl, hoc, hd, hv⟩ ?_)
  have hb : BindsTo s (kla_fn "<lambda>" qual lamParams lamBody lamScope [("last", c)] pm (.ref oc.1) ctv) ⟨[.int (i : Int) t], []⟩ [("i", .int (i : Int) t)] := BindsTo.of_eq (by with_unfolding_all rfl)
  refine hb _ _ _ _ ?_
  refine wpAny_newFunctionEnv (fun x hx => by have := List.all_eq_true.mp (show lamScope.names.all (fun x => x.2 != .cell) = true by decide +kernel) x hx; simpa using this) (fun x hx => ?_) (fun h₀ hn hs => ?_) rfl
  · rw [List.mem_singleton] at hx; subst hx
    exact eq_of_beq (show (lamScope.names.lookup ("i" : Str) == some .local) = true by decide +kernel)
  have k2 : Keep s.heap h₀ := fun b o e => hs.extBut b o (Nat.ne_of_lt (Heap.lt_size e)) (Heap.get?_push_of_some _ e)
  refine ⟨(W.lim).keeps k2, ?_⟩
  refine kla_codeExpr ?_
  have hL : s.heap.get? s.heap.objs.size = none := Heap.get?_none_of_le (Nat.le_refl _)
  have x : In s s.heap.objs.size [("i", .int (i : Int) t)] [] { s with heap := h₀, toks := s.toks + 1 } := ⟨⟨_, _, rfl⟩, ⟨_, hn, fun n v e => e⟩, k2, fun _ hp => (nomatch hp), List.Pairwise.nil⟩
  generalize hK : s.heap.objs.size = K at hL x ⊢
  have e : EnvIs (newEnv lamScope K mainGlobals [("last", c)] (qual ++ ".<locals>.") (some f) (.ref oc.1) none builtinsNs) K lamScope [("last", c)] := ⟨rfl, rfl, rfl, rfl, rfl, rfl⟩
  have R' : Rm 6 (A.deeper (newEnv lamScope K mainGlobals [("last", c)] (qual ++ ".<locals>.") (some f) (.ref oc.1) none builtinsNs)) := R.deeper _
  show wpAny (model PW w) (A.deeper (newEnv lamScope K mainGlobals [("last", c)] (qual ++ ".<locals>.") (some f) (.ref oc.1) none builtinsNs)) (eval lamBody (newEnv lamScope K mainGlobals [("last", c)] (qual ++ ".<locals>.") (some f) (.ref oc.1) none builtinsNs)) _ _ _
  generalize newEnv lamScope K mainGlobals [("last", c)] (qual ++ ".<locals>.") (some f) (.ref oc.1) none builtinsNs = env at e R' ⊢
  clear R
  refine wpAny_mono (?_ : wpAny _ _ _ _ (fun _ _ => False) _) (fun _ _ h => h) (fun _ _ z => z.elim)
  show wpAny _ _ (eval (.Call (.Name _ _) [_] [] _) env) _ _ _
  repeat (walk_at "m")
  have hvl : vs.length ≤ 7 := by rw [ht.1]; exact h7
  obtain ⟨t2, hvq⟩ := ht.get hq
  refine' tIx (x.get0 hD) (by omega) (by omega) (by rw [Int.toNat_natCast]; exact hvq) ?_ (by with_unfolding_all rfl)
  repeat (walk_at "m")
  have ej : [[]].foldl jstep q = q ++ [47] := by
    show jstep q [] = _
    unfold jstep
    rw [if_neg (by simp [hq0]), if_neg (by intro hh; exact hq47 (List.mem_of_getLast? hh))]
  rw [ej]
  exact h _ _ (In.done (by assumption))
/-- into the def that makes the lambda -/
theorem enterR {n : Nat} {args : List Value} {binds : List (Str × Value)} {ns : List Str}
    (W : Wd s.heap) (WL : WdL s.heap) (R : Rm (n + 1) A) (hb : ∀ pm cd doc, bindArgs (fdOf 42 .none .none pm cd doc) ⟨args, []⟩ = pure binds) (hns : binds.map (·.1) = ns)
    (hok : (ns.all (fun y => (fScope (stmtAt 42)).names.lookup y == some .local || ((fScope (stmtAt 42)).names.lookup y == some .cell && ((cellsFrom 0 (fScope (stmtAt 42)).names []).lookup y).isSome)) && !(fScope (stmtAt 42)).isCoroutine && !(fScope (stmtAt 42)).isGenerator && (fScope (stmtAt 42)).kind == .function) = true)
    (h : ∀ env L A' s₁, EnvIs env L (fScope (stmtAt 42)) (cellsFrom (L + 1) (fScope (stmtAt 42)).names []) → env.code = .ref 264 → Rm n A' → interactive env = false → s.heap.get? L = none →
      InCallC s L (bindL (fun y => (fScope (stmtAt 42)).names.lookup y) binds fun _ => none) (cellsFrom (L + 1) (fScope (stmtAt 42)).names []) (bindC (fun y => (fScope (stmtAt 42)).names.lookup y) binds fun _ => none) s₁ →
      wpAny (model PW w) A' (execs (fBody (stmtAt 42)) env) (retQ Q) (fun _ _ => False) s₁) :
    wpAny (model PW w) A (call (.ref 265) args) Q E s := by
  obtain ⟨o, pm, doc, ho, hd, hc⟩ := WL.fn
  simp only [Bool.and_eq_true, Bool.not_eq_true'] at hok
  obtain ⟨⟨⟨h2, h3⟩, h4⟩, h5⟩ := hok
  have hkf : (fScope (stmtAt 42)).kind = .function := eq_of_beq h5
  refine wpAny_call (codeAny_call_cells (fd := fdOf 42 .none .none pm (.ref 264) doc) (body := fBody (stmtAt 42)) (binds := binds) R.room ho hd W.lim hc rfl (hb _ _ _) rfl (fun x hx => ?_) (fun s₁ x => ?_) h3 h4 hkf)
  · have := List.all_eq_true.mp h2 x.1 (by rw [← hns]; exact List.mem_map_of_mem hx)
    rw [Bool.or_eq_true, Bool.and_eq_true] at this
    rcases this with q | ⟨q1, q2⟩
    · exact .inl (eq_of_beq q)
    · exact .inr ⟨eq_of_beq q1, by rw [← lkSome (cellsFrom_names _ (s.heap.objs.size + 1) 0 [] [] rfl)] at q2; exact q2⟩
  · refine wpAny_mono (h (callEnvC (fdOf 42 .none .none pm (.ref 264) doc) s.heap.objs.size 265) s.heap.objs.size _ _ ⟨rfl, rfl, rfl, rfl, rfl, hkf⟩ rfl (R.deeper _) ?_ (Heap.get?_none_of_le (Nat.le_refl _)) x) (fun f s' q => ?_) fun _ _ q => q.elim
    · show ((fScope (stmtAt 42)).kind == .module && _) = false
      rw [hkf]; rfl
    · cases f <;> exact q
theorem nm_snoc {u : List (List Nat)} (h : u ≠ []) : u = u.dropLast ++ [nmOf u] := by
  obtain ⟨a, p, rfl⟩ := snoc_of h
  simp [nmOf]
theorem nm_mem {u : List (List Nat)} (h : u ≠ []) : nmOf u ∈ u := by
  obtain ⟨a, p, rfl⟩ := snoc_of h
  simp [nmOf]
theorem swCell {cl : List (Str × Addr)} {elt iter : PySem.Expr} {x y : Str} {px py pos : Pos} {ifs : List PySem.Expr} {scope : Scope} {ln : Nat} (e : EnvIs env L sc cl) (hy : (sc.names.lookup y == some .cell) = true) :
    swapsWith (.ListComp elt [⟨.Name x px, iter, ifs, 0⟩] scope pos) (some (.Name y py)) ln env = pure false := by
  unfold swapsWith
  simp only [pos_LC]
  rw [e.kindOf hy]
  rw [show (some NameKind.cell == some NameKind.local) = false from rfl, Bool.and_false, Bool.false_and, Bool.false_and]
set_option maxHeartbeats 1000000 in
theorem c_read {us : List (List (List Nat))} {vs : List Value} {m i : Nat} {t : Tok} (hP : s.heap.get? 262 = some (tabObj #[])) (hD : s.heap.get? D = some (lstO vs m)) (ht : Txs vs (us.map pt)) (hu : ∀ u ∈ us, u ≠ [] ∧ (∀ q ∈ u, Nm q) ∧ (pt u).length ≤ 250) (h1 : 1 ≤ us.length) (h7 : us.length ≤ 7) (hi : i < us.length)
    (W : Wd (hideAll s.heap [262])) (WL : WdL (hideAll s.heap [262])) (R : Rm 12 A)
    (h : ∀ (F : Addr) (ws : List Value) (k : Nat) (p : List Nat) (o' : Array Value) (s' : Shared), (∃ h tk, s' = { s with heap := h, toks := tk }) → Keep (hideAll s.heap [262]) s'.heap → s'.heap.get? 262 = some (tabObj o') → s.heap.get? F = none → s'.heap.get? F = some (lstO ws k) → p.length = us.length → (∀ x ∈ p, x < us.length) →
      p.Pairwise (KL fun a b => nmOf (us.getD a []) ++ [47] < nmOf (us.getD b []) ++ [47]) → Txs ws (rd p (us.map nmOf) i us.length) → Q (.ref F) s') : wpAny (model PW w) A (call (.ref 265) [.ref D, .int (i : Int) t]) Q E s := by
  have kh : Keep (hideAll s.heap [262]) s.heap := fun _ _ e => of_hideAll _ e
  have hD2 : (hideAll s.heap [262]).get? D = some (lstO vs m) := hideAll_get _ hD fun q => by
    rw [List.mem_singleton] at q; rw [q, hP] at hD; cases hD
  have hvl : vs.length = us.length := by rw [ht.1, List.length_map]
  refine enterR (n := 11) (W.keeps kh) (WL.keeps kh) R (binds := [("ordered", .ref D), ("at", .int (i : Int) t)]) (ns := ["ordered", "at"]) (fun _ _ _ => by with_unfolding_all rfl) rfl (by decide +kernel) fun env L A' s₁ e hcode R' hint hL x => ?_
  clear R
  have e : EnvIs env L (fScope (stmtAt 42)) [("last", L + 1)] := e
  obtain ⟨o, x⟩ := In.ofC1 (l := [("at", .int (i : Int) t), ("ordered", .ref D)]) (n := "last") (c := L + 1) x (by
    refine bindL_local (binds := [("ordered", Value.ref D), ("at", .int (i : Int) t)]) (l := []) (fun y hy => ?_) (fun _ _ q => by cases q)
    rcases List.mem_cons.mp hy with rfl | hy
    · exact eq_of_beq (show ((fScope (stmtAt 42)).names.lookup ("ordered" : Str) == some .local) = true by decide +kernel)
    · rw [List.mem_singleton] at hy; subst hy
      exact eq_of_beq (show ((fScope (stmtAt 42)).names.lookup ("at" : Str) == some .local) = true by decide +kernel))
  have hb : bindC (fun y => (fScope (stmtAt 42)).names.lookup y) [("ordered", Value.ref D), ("at", .int (i : Int) t)] (fun _ => none) "last" = none := by with_unfolding_all rfl
  rw [hb] at x
  have x := x.hideOne hP hL
  have W1 : Wd ({ s with heap := hideAll s.heap [262] } : Shared).heap := W
  have hL2 : ({ s with heap := hideAll s.heap [262] } : Shared).heap.get? L = none := by
    cases q : (hideAll s.heap [262]).get? L with
    | none => rfl
    | some o => have := kh _ _ q; rw [hL] at this; cases this
  have hfin : ∀ F ws k p o' s' N l', In { s with heap := hideAll s.heap [262] } L l' N s' → (F, lstO ws k) ∈ N → (262, tabObj o') ∈ N → F ≠ 262 → p.length = us.length → (∀ x ∈ p, x < us.length) → p.Pairwise (KL fun a b => nmOf (us.getD a []) ++ [47] < nmOf (us.getD b []) ++ [47]) → Txs ws (rd p (us.map nmOf) i us.length) → Q (.ref F) s' := by
    intro F ws k p o' s' N l' y m1 m2 hne h1 h2 h3 h4
    refine h F ws k p o' s' ?_ y.keep (y.nw _ m2).1 ?_ (y.nw _ m1).1 h1 h2 h3 h4
    · obtain ⟨h9, tk9, e9⟩ := y.same; exact ⟨h9, tk9, e9⟩
    · cases q : s.heap.get? F with
      | none => rfl
      | some o => have := hideAll_get [262] q (by simpa using hne); have h5 := (y.nw _ m1).2.2; dsimp only at h5; rw [this] at h5; cases h5
  have WL1 : WdL ({ s with heap := hideAll s.heap [262] } : Shared).heap := WL
  have hD3 : ({ s with heap := hideAll s.heap [262] } : Shared).heap.get? D = some (lstO vs m) := hD2
  generalize ({ s with heap := hideAll s.heap [262] } : Shared) = b at *
  clear h W WL hD2 kh hP hD hL
  walk_at "body"
  refine xAssign ?_ (swCell e (by decide +kernel))
  repeat (walk_at "m")
  have hD1 := x.get0 hD3
  have W2 := x.wd W1
  refine' compIt (k := 0) (clF := fun _ => []) (vs := vs) (σ := List Value) (fun j c => Txs c ((us.take j).map nmOf)) (fun c => c) (fun _ _ => []) [] e R' (fun _ => rfl) (by decide) (fun _ => rfl) rfl (.inl ⟨m, hD1⟩) Txs.nil rfl (fun _ => rfl) ?gs ?gb ?ge
  case gs => intro j c hc; have := hc.1; simp at this; omega
  case gb =>
    intro j v c I oI F n C s' hv hc eC hC y
    obtain ⟨q, u, hq, rfl⟩ := ht.2 j v hv
    rw [List.getElem?_map] at hq
    obtain ⟨un, hun, rfl⟩ := Option.map_eq_some_iff.mp hq
    obtain ⟨hu1, hu2, hu3⟩ := hu un (List.mem_of_getElem? hun)
    have hpu : pt un = pt un.dropLast ++ 47 :: nmOf un := by
      rw [← pt_snoc, ← nm_snoc hu1]
    have hnm : 47 ∉ nmOf un := (hu2 _ (nm_mem hu1)).2.1
    have hlen : (pt un.dropLast).length + (nmOf un).length ≤ 1000 := by rw [hpu] at hu3; simp at hu3; omega
    rw [hpu] at hv ⊢
    unfold TurnOk
    repeat (walk_at "m")
    refine ⟨c ++ [_], _, ?_, rfl, by assumption⟩
    show Txs _ _
    rw [List.take_add_one, hun, List.map_append]
    exact hc.snoc
  case ge =>
    intro c F n C s' hc hC y
    refine' compEndN x hC y ?_
    intro s3 x3
    simp only [List.cons_append, List.nil_append] at x3
    rw [hvl, List.take_length] at hc
    have hcl : c.length = us.length := by rw [hc.1, List.length_map]
    have hcl7 : c.length ≤ 7 := by omega
    repeat (walk_at "m")
    refine cBnK (x := ("sorted" : Str)) (id := "sorted") (kn := ("key" : Str)) (by decide +kernel) (by decide +kernel) e (by assumption) W1 (by decide +kernel) ?_ rfl rfl (fun _ => rfl) rfl rfl
    repeat (walk_at "m")
    rename_i xR
    show wpAny _ _ (eval lamE env) _ _ _
    refine' rLam e hcode xR WL1 ?m1 ?_ ?u1
    case m1 => walk_at "mem"
    case u1 => intro o'; walk_at "uo"
    intro c' oc of f o' s4 y4 hlam
    have hofl : ∀ {N : List (Addr × Obj)} {s' : Shared}, In b L [("at", .int (i : Int) t), ("ordered", .ref D)] ((f, of) :: N) s' → LamAt s'.heap f (c', oc) [("last", L + 1)] := fun x' => hlam.keeps ((x'.nw (f, of) (.head _)).1.trans (y4.nw (f, of) (.head _)).1.symm)
    refine sortKR (m := us.length) (ks := us.map fun u => nmOf u ++ [47]) R'.hd (by rw [← hcl]; exact y4.get1 (.tail _ (.tail _ (.head _)))) h1 h7 (by rw [List.length_map]) y4 hL2 (ksk_s1 _ _) (fun _ => ksk_l1 _ _) (fun _ => ksk_t1 _ _) ?_ ?_
    · intro j tj k s' Q' hk x' hq
      rw [List.getElem?_map] at hk
      obtain ⟨uj, huj, rfl⟩ := Option.map_eq_some_iff.mp hk
      obtain ⟨hu1, hu2, hu3⟩ := hu uj (List.mem_of_getElem? huj)
      refine lamCall (us := us.map nmOf) (q := nmOf uj) (x'.wd W1) (R'.le (by decide) : Rm 9 A').in1.in1 (hofl x') (x'.get1 (.tail _ (.head _))) (x'.get1 (by walk_at "mem")) (x'.get1 (by walk_at "mem")) hc (by rw [List.length_map]; exact h7) (by rw [List.getElem?_map, huj]; rfl) ?_ ?_ ?_ hq
      · have := hu3; rw [nm_snoc hu1, pt_snoc] at this; simp at this; omega
      · exact (hu2 _ (nm_mem hu1)).1
      · exact (hu2 _ (nm_mem hu1)).2.1
    · intro ra p ws k s5 p1 p2 p3 hws y5
      have hkl : p.Pairwise (KL fun a b => nmOf (us.getD a []) ++ [47] < nmOf (us.getD b []) ++ [47]) := by
        refine List.Pairwise.imp_of_mem (fun {a b} ha hb hab => ?_) p3
        have e1 : ∀ z, z < us.length → (us.map fun u => nmOf u ++ [47]).getD z [] = nmOf (us.getD z []) ++ [47] := fun z hz => by
          rw [List.getD_eq_getElem?_getD, List.getD_eq_getElem?_getD, List.getElem?_map, List.getElem?_eq_getElem hz]; rfl
        unfold KLex at hab
        dsimp only at hab
        rw [e1 a (p2 a ha), e1 b (p2 b hb)] at hab
        rcases hab with q | ⟨q, r⟩
        · exact .inl (of_decide_eq_true q)
        · exact .inr ⟨of_decide_eq_false q, r⟩
      have hwl : ws.length ≤ 7 := by rw [hws.length, List.length_map]; omega
      have hF2 : ∀ {N l'} {s' : Shared}, In b L l' N s' → (F, lstO c n) ∈ N → s'.heap.get? F = some (lstO c n) := fun x' hm => (x'.nw _ hm).1
      clear hofl hlam x3
      repeat (walk_at "m")
      rename_i RD _ _ _ _ _ _ _ rg _ _ _ s6 x6
      have h262 : (262, tabObj o') ∈ [(RD, lstO ([] : List Value) 0), (ra, lstO ws k), (F, lstO c n), (262, tabObj o'), (L + 1, cellP o (some (.ref F)))] := by simp
      refine' iterR (m := us.length) (σ := Nat × Tok × List Value × Nat) (fun j c => c.1 < us.length ∧ ∃ done, done.length = j ∧ Txs c.2.2.1 done ∧ done ++ rd p (us.map nmOf) c.1 (us.length - j) = rd p (us.map nmOf) i us.length)
        (fun c => [("at", .int (c.1 : Int) c.2.1), ("ring", .ref ra), ("read", .ref RD)])
        (fun d => [(RD, lstO d.2.2.1 d.2.2.2), (ra, lstO ws k), (F, lstO c n), (262, tabObj o'), (L + 1, cellP o (some (.ref F)))]) (i, t, [], 0) e hL2 (by decide +kernel) R' (by omega) ?x0 (by rw [← hcl]; exact x6.get1 (by walk_at "mem")) ⟨hi, [], rfl, Txs.nil, rfl⟩ ?gb ?ge
      case x0 =>
        refine' (In.forget x6 ?A1).drop ?B1
        case B1 => (try dsimp only); walk_at "sl"
        case A1 => (try dsimp only); walk_at "sub"
      case gb =>
        rintro j tk ⟨at', ta, acc, na⟩ I oI s' hj ⟨hat, done, hdl, hacc, hdone⟩ y
        dsimp only at hat hdl hacc hdone y ⊢
        obtain ⟨a1, ha1⟩ : ∃ a1, a1 = p.getD at' 0 := ⟨_, rfl⟩
        have hpa : p[at']? = some a1 := by rw [ha1, List.getD_eq_getElem?_getD, List.getElem?_eq_getElem (by omega)]; rfl
        have hpl : a1 < us.length := p2 _ (List.mem_of_getElem? hpa)
        obtain ⟨tw, hwa⟩ : ∃ tw, ws[at']? = some (.int (a1 : Int) tw) := by
          have hlt : at' < ws.length := by rw [hws.length, List.length_map]; omega
          obtain ⟨z, tz, hz, he⟩ := Ints.get hws (List.getElem?_eq_getElem hlt)
          rw [List.getElem?_map, hpa] at hz
          cases hz
          exact ⟨tz, by rw [List.getElem?_eq_getElem hlt, he]⟩
        obtain ⟨tq, hcq⟩ : ∃ tq, c[a1]? = some (.str (S ((us.map nmOf).getD a1 [])) tq) :=
          hc.get (by rw [List.getD_eq_getElem?_getD, List.getElem?_eq_getElem (by rw [List.length_map]; exact hpl)]; rfl)
        have hal : acc.length ≤ 100 := by have := hacc.1; omega
        repeat (walk_at "m")
        refine' tIx (In.get1 (by assumption) (by walk_at "mem")) (by omega) (by omega) (by rw [Int.toNat_natCast]; exact hwa) ?_ (by with_unfolding_all rfl)
        repeat (walk_at "m")
        refine' tIx (In.get1 (by assumption) (by walk_at "mem")) (by omega) (by omega) (by rw [Int.toNat_natCast]; exact hcq) ?_ (by with_unfolding_all rfl)
        repeat (walk_at "m")
        rename_i n2 sL xL
        refine' lqN xL (a1, tw, acc ++ [.str (S ((us.map nmOf).getD a1 [])) tq], n2) ?w1 ?w2 ?w3
        case w1 =>
          refine ⟨hpl, done ++ [(us.map nmOf).getD a1 []], by simp [hdl], hacc.snoc, ?_⟩
          rw [List.append_assoc, List.singleton_append, ← hdone]
          congr 1
          rw [show us.length - j = (us.length - (j + 1)) + 1 from sb0 (by assumption)]
          show _ = (us.map nmOf).getD (p.getD at' 0) [] :: rd p (us.map nmOf) (p.getD at' 0) _
          rw [← ha1]
        case w2 => (try dsimp only); walk_at "sub"
        case w3 => (try dsimp only); walk_at "sl"
      case ge =>
        rintro ⟨at', ta, acc, na⟩ s' ⟨hat, done, hdl, hacc, hdone⟩ y
        dsimp only at hat hdl hacc hdone y ⊢
        rw [Nat.sub_self] at hdone
        repeat (walk_at "m")
        have hne : RD ≠ 262 := (List.pairwise_cons.mp y.nd).1 (262, tabObj o') (by simp)
        refine hfin RD acc na p o' _ _ _ y (.head _) (by simp) hne p1 p2 hkl ?_
        rw [← hdone]
        show Txs acc (done ++ [])
        rw [List.append_nil]; exact hacc
theorem k_read {s₀ : Shared} {us : List (List (List Nat))} {vs : List Value} {m i : Nat} {t : Tok} {nwF : Array Value → List (Addr × Obj)} (x : In s₀ L l nw s) (hm : (262, tabObj #[]) ∈ nw) (hD : s.heap.get? D = some (lstO vs m)) (ht : Txs vs (us.map pt)) (hu : ∀ u ∈ us, u ≠ [] ∧ (∀ q ∈ u, Nm q) ∧ (pt u).length ≤ 250) (h1 : 1 ≤ us.length) (h7 : us.length ≤ 7) (hi : i < us.length)
    (W : Wd s₀.heap) (WL : WdL s₀.heap) (R : Rm 12 A)
    (h : ∀ (F : Addr) (ws : List Value) (k : Nat) (p : List Nat) (o' : Array Value) (s' : Shared), In s₀ L l ((F, lstO ws k) :: nwF o') s' → p.length = us.length → (∀ x ∈ p, x < us.length) →
      p.Pairwise (KL fun a b => nmOf (us.getD a []) ++ [47] < nmOf (us.getD b []) ++ [47]) → Txs ws (rd p (us.map nmOf) i us.length) → Q (.ref F) s') (hup : ∀ o', UpdO 262 (tabObj #[]) (tabObj o') nw (nwF o')) : wpAny (model PW w) A (call (.ref 265) [.ref D, .int (i : Int) t]) Q E s := by
  have hP := x.nw _ hm
  have kk : Keep s₀.heap (hideAll s.heap [262]) := fun b o e => hideAll_get _ (x.keep b o e) fun q => by
    rw [List.mem_singleton] at q; rw [q, hP.2.2] at e; cases e
  refine c_read hP.1 hD ht hu h1 h7 hi (W.keeps kk) (WL.keeps kk) R fun F ws k p o' s' hs hk h262 hF hF' p1 p2 p3 hws => ?_
  have y := x.stepH (hup o') hs hk h262
  refine h F ws k p o' s' ⟨y.same, y.ns, y.keep, fun z hz => ?_, List.pairwise_cons.mpr ⟨fun z hz q => ?_, y.nd⟩⟩ p1 p2 p3 hws
  · rcases List.mem_cons.mp hz with rfl | hz
    · refine ⟨hF', fun q => ?_, ?_⟩
      · obtain ⟨mm, ⟨o, _, _, e, _⟩, _⟩ := x.ns
        dsimp only at q
        rw [← q, hF] at e; cases e
      · cases q : s₀.heap.get? F with
        | none => rfl
        | some o => have := x.keep _ _ q; rw [hF] at this; cases this
    · exact y.nw z hz
  · have hz2 : ∃ o, s.heap.get? z.1 = some o := by
      obtain ⟨pre, post, e1, e2⟩ := (hup o').split
      rw [e2] at hz
      rcases List.mem_append.mp hz with hz | hz
      · exact ⟨_, (x.nw z (by rw [e1]; exact List.mem_append_left _ hz)).1⟩
      · rcases List.mem_cons.mp hz with rfl | hz
        · exact ⟨_, hP.1⟩
        · exact ⟨_, (x.nw z (by rw [e1]; exact List.mem_append_right _ (.tail _ hz))).1⟩
    obtain ⟨o, ho⟩ := hz2
    dsimp only at q
    rw [← q, hF] at ho; cases ho
end
end
section
local macro_rules | `(tactic| walk_at "bu") => alts ["R vLenB c1 c2 _;c1>sz;c2>a;i 3", "R vDecode c1 c2 c3 c4 _;c1>a;c2>a;c3>sz;c4>a;i 3", "R vEncode c1 c2 c3 _;c1>a;c2>a;c3>a;i 3", "R vMt c1 c2 _;c1>f;c2>a;i 3", "R vTranslate c1 c2 c3 _;c1>a;c2>sz;c3>a;i 3"]
local macro_rules | `(tactic| walk_at "tr") => alts ["R vTruT c1 c2 c3 _;c1>go;c2>l0;c3>a;i 2"]
local macro_rules | `(tactic| walk_at "ty") => alts ["r vTypeB _", "r vTypeBool _", "R vBytes c1 c2 c3 c4 c5 c6 _;c1>a;c2>go;c3>a;c4>a;c5>sz;c6>a;i 3"]
local macro_rules | `(tactic| walk_at "cm") => alts ["r vIsT _", "r vBoolIsN _", "r vBytesIsNotN _"]
local macro_rules | `(tactic| walk_at "bi") => alts ["R vAnd c1 _;c1>a;i 3", "R vOr c1 _;c1>a;i 3"]
local macro_rules | `(tactic| walk_at "mo") => alts ["r mo_decode c1 c2 _;c1>f;c2>f", "r mo_encode c1 c2 _;c1>f;c2>f", "r mo_translate c1 c2 _;c1>f;c2>f"]
local macro_rules | `(tactic| walk_at "ev") => alts ["R rBytes c1 _;c1>a;i 3"]
local macro_rules | `(tactic| walk_at "xs") => alts ["r xAssert _"]
local macro_rules | `(tactic| walk_at "nm") => alts ["R rB64 c1 c2 c3 c4 _;c1>a;c2>a;c3>a;c4>D;i 1"]
local macro_rules | `(tactic| walk_at "evc") => alts ["R eMk2 c1 c2 c3 c4 c5 c6 c7 d4 d5 _;c1>f;c2>f;c3>f;c4>a;c5>a;c6>a;c7>D;d4>f;d5>f;i 2", "R cFnK2 =fr_b2a_base64 c4 c5 c6 c7 _ c8 c9 d1;c4>a;c5>a;c6>a;c7>D;c8>f;c9>i 1,f;d1>f"]
local macro_rules | `(tactic| walk_at "ct") => ctr "k_b64e" ["a", "sz"] 3
section
section
variable {w : World} {A : Around} {E : Value → Shared → Prop} {s : Shared} {D : Addr} {Q : Value → Shared → Prop}
theorem sort_ok {vs : List Value} {ps : List (List Nat)} {p : List Nat} (ht : Txs vs ps) (h1 : p.length = vs.length) (h2 : ∀ x ∈ p, x < vs.length) (h3 : p.Pairwise (KLex fun i j => decide (ps.getD i [] < ps.getD j []))) :
    Txs (p.map fun i => vs.getD i .none) (srt ps) := by
  have hl := ht.1
  have hnd : p.Nodup := h3.imp fun {a b} hab q => by
    subst q
    unfold KLex at hab
    rcases hab with q | ⟨_, q⟩
    · exact List.lt_irrefl _ (of_decide_eq_true q)
    · exact Nat.lt_irrefl _ q
  have hperm : (p.map fun i => ps.getD i []).Perm ps := by
    have := (perm_range hnd h2 h1).map fun i => ps.getD i []
    refine this.trans (List.Perm.of_eq ?_)
    refine List.ext_getElem (by simp [hl]) fun i h1 h2 => ?_
    rw [List.getElem_map, List.getElem_range, List.getD_eq_getElem?_getD, List.getElem?_eq_getElem h2]; rfl
  have hs : (p.map fun i => ps.getD i []).Pairwise fun a b => leL a b = true := by
    refine List.pairwise_map.mpr (h3.imp fun {a b} hab => ?_)
    unfold KLex at hab
    rw [leL_iff]
    rcases hab with q | ⟨q, _⟩
    · exact List.le_of_lt (of_decide_eq_true q)
    · exact List.not_lt.mp (of_decide_eq_false q)
  rw [← srt_of hperm hs]
  have : ∀ q : List Nat, (∀ x ∈ q, x < vs.length) → Txs (q.map fun i => vs.getD i .none) (q.map fun i => ps.getD i []) := by
    intro q
    induction q with
    | nil => exact fun _ => Txs.nil
    | cons z q ih =>
      intro hq
      have hz := hq z (.head _)
      obtain ⟨t, ht'⟩ := ht.get (List.getElem?_eq_getElem (show z < ps.length by omega))
      have e1 : vs.getD z .none = .str (S (ps.getD z [])) t := by
        rw [List.getD_eq_getElem?_getD, ht', List.getD_eq_getElem?_getD, List.getElem?_eq_getElem (show z < ps.length by omega)]; rfl
      rw [List.map_cons, List.map_cons, e1]
      exact (ih fun y hy => hq y (.tail _ hy)).cons
  exact this p h2
theorem wt_pt : ∀ ns : List (List Nat), wt ns = (pt ns).length
  | [] => rfl
  | q :: ns => by
    have := wt_pt ns
    rw [pt_cons, List.cons_append, List.length_cons, List.length_append]
    unfold wt at this ⊢
    simp at this ⊢
    omega
theorem starL {b : Shared} {L F : Addr} {l : List (Str × Value)} {nw : List (Addr × Obj)} {vs : List Value} {n : Nat} {Q : List Value → Shared → Prop} (h1 : s.heap.get? F = some (lstO vs n)) (x : In b L l nw s) (hz : vs.length ≤ 1000) (h : ∀ s', In b L l nw s' → Q vs s') : StarOf (model PW w) A E (.ref F) Q s := by
  have z : wpAny (model PW w) A (collect (.ref F)) Q E s := wpAny_collect_seq F (.inl rfl) h1 rfl rfl (fun h' hk => h _ (x.step ⟨h', s.toks, rfl, hk⟩)) (by rw [sizeLine_eq]; simp; omega)
  unfold StarOf notIterableAtAll
  exact wpAny_bind (wpAny_specialOf ⟨_, h1, rfl⟩ PySem.F.slot_list_iter.lookup (wpAny_pure ⟨rfl, z⟩))
theorem vIndex {b : Shared} {L F : Addr} {l : List (Str × Value)} {nw : List (Addr × Obj)} {vs : List Value} {ps : List (List Nat)} {n : Nat} {a : List Nat} {t : Tok} (h1 : s.heap.get? F = some (lstO vs n)) (ht : Txs vs ps) (hm : a ∈ ps) (hz : ps.length ≤ 1000) (x : In b L l nw s)
    (h : ∀ t' s', In b L l nw s' → Q (.int ((ps.idxOf a : Nat) : Int) t') s') : wpAny (model PW w) A (call (.builtin "list.index") [.ref F, .str (S a) t]) Q E s := by
  have hj : ps.idxOf a < ps.length := List.idxOf_lt_length_iff.mpr hm
  have hvl := ht.1
  have hel : ∀ (m : Nat) (hm : m < vs.toArray.size), ∃ u, vs.toArray[m] = .str (S (ps[m]'(by simpa [hvl] using hm))) u := fun m hm => by
    have hm2 : m < ps.length := by simpa [hvl] using hm
    obtain ⟨u, hu⟩ := ht.get (List.getElem?_eq_getElem hm2)
    refine ⟨u, ?_⟩
    obtain ⟨_, e⟩ := List.getElem?_eq_some_iff.mp hu
    simpa using e
  refine call_meets PySem.F.slot_list_index ⟨_, h1, rfl⟩ PySem.F.entry_list_index (PySem.F.args_list_index_2 _ _)
    (SeqAt.list_indexAt F vs.toArray n none #[] (.str (S a) t) (fun y => strOf y == S a) (ps.idxOf a) (by simpa [hvl] using hj) (by omega) ?_ ?_) ⟨h1, fun y hy => ?_, h _ _ (x.tok _)⟩
  · obtain ⟨u, hu⟩ := hel (ps.idxOf a) (by simpa [hvl] using hj)
    rw [hu]
    show (S _ == S a) = true
    rw [List.getElem_idxOf]
    simp
  · intro m hm2 hlt
    obtain ⟨u, hu⟩ := hel m hm2
    rw [hu]
    show (S _ == S a) = false
    have := List.not_of_lt_findIdx (p := (· == a)) (xs := ps) (i := m) hlt
    rw [S_beq]
    simpa using this
  · obtain ⟨i, hi⟩ := List.mem_iff_getElem?.mp (by simpa using hy)
    obtain ⟨p, u, _, rfl⟩ := ht.2 i y hi
    exact SeqAt.EqAt.str_str (S p) u (S a) t
set_option maxHeartbeats 1000000 in
theorem c_law {vs : List Value} {ms : List Int} {m : Nat} (hP : s.heap.get? 262 = some (tabObj #[])) (hD : s.heap.get? D = some (lstO vs m)) (hi : IntsAre vs ms) (hl : ms.length ≤ 63) (W : Wd (hideAll s.heap [262])) (WL : WdL (hideAll s.heap [262])) (hbare : AllBare s.gens) (R : Rm 40 A)
    (h : ∀ o' s', (∃ h tk gn, s' = { s with heap := h, toks := tk, gens := gn } ∧ AllBare gn) → Keep (hideAll s.heap [262]) s'.heap → s'.heap.get? 262 = some (tabObj o') → Q (.bool true) s') : wpAny (model PW w) A (call (.ref 289) [.ref D]) Q E s := by
  have kh : Keep (hideAll s.heap [262]) s.heap := fun _ _ e => of_hideAll _ e
  have hD2 : (hideAll s.heap [262]).get? D = some (lstO vs m) := hideAll_get _ hD fun q => by
    rw [List.mem_singleton] at q; rw [q, hP] at hD; cases hD
  have hvl : vs.length ≤ 63 := by rw [hi.length]; exact hl
  refine enterC (i := 46) (dV := .none) (kV := .none) (n := 39) (W.keeps kh) (by decide) R (binds := [("script", .ref D)]) (ns := ["script"]) (fun _ _ _ => by with_unfolding_all rfl) rfl (by decide +kernel) fun env L A' s₁ e R' hint hL x => ?_
  clear R
  have e : EnvIs env L (fScope (stmtAt 46)) [("ordered", L + 2), ("altchars", L + 1)] := e
  obtain ⟨oA, oB, x⟩ := In.ofC2 (l := [("script", .ref D)]) (n := "ordered") (n' := "altchars") (c := L + 2) (c' := L + 1) x (by decide +kernel) (by
    refine bindL_local (binds := [("script", Value.ref D)]) (l := []) (fun y hy => ?_) (fun _ _ q => by cases q)
    rw [List.mem_singleton] at hy; subst hy
    exact eq_of_beq (show ((fScope (stmtAt 46)).names.lookup ("script" : Str) == some .local) = true by decide +kernel))
  have hb1 : bindC (fun y => (fScope (stmtAt 46)).names.lookup y) [("script", Value.ref D)] (fun _ => none) "ordered" = none := by with_unfolding_all rfl
  have hb2 : bindC (fun y => (fScope (stmtAt 46)).names.lookup y) [("script", Value.ref D)] (fun _ => none) "altchars" = none := by with_unfolding_all rfl
  rw [hb1, hb2] at x
  have x := x.hideOne hP hL
  have W1 : Wd ({ s with heap := hideAll s.heap [262] } : Shared).heap := W
  have hL2 : ({ s with heap := hideAll s.heap [262] } : Shared).heap.get? L = none := by
    cases q : (hideAll s.heap [262]).get? L with
    | none => rfl
    | some o => have := kh _ _ q; rw [hL] at this; cases this
  have hfin : ∀ gn o' s' N l', AllBare gn → In (withG { s with heap := hideAll s.heap [262] } gn) L l' N s' → (262, tabObj o') ∈ N → Q (.bool true) s' := by
    intro gn o' s' N l' hb y m2
    refine h o' s' ?_ y.keep (y.nw _ m2).1
    obtain ⟨h9, tk9, e9⟩ := y.same; exact ⟨h9, tk9, gn, e9, hb⟩
  have WL1 : WdL ({ s with heap := hideAll s.heap [262] } : Shared).heap := WL
  have hD3 : ({ s with heap := hideAll s.heap [262] } : Shared).heap.get? D = some (lstO vs m) := hD2
  have hbare1 : AllBare ({ s with heap := hideAll s.heap [262] } : Shared).gens := hbare
  generalize ({ s with heap := hideAll s.heap [262] } : Shared) = b at *
  clear h W WL hD2 kh hP hD hL hbare
  walk_at "body"
  refine xAssign ?_
  refine wpAny_mono (Q := fun v s' => ∃ f t, v = Value.int f t ∧ In b L [("script", .ref D)] [(262, tabObj #[]), (L + 2, cellP oA none), (L + 1, cellP oB none)] s') ?_ (fun v s' hq => ?_) (fun _ _ z => z)
  · repeat (walk_at "m")
    cases vs with
    | nil =>
      refine ifFF ?_
      repeat (walk_at "m")
      exact ⟨_, _, rfl, by assumption⟩
    | cons v r =>
      refine ifTT ?_
      obtain ⟨z, tz, hz, rfl⟩ := Ints.get hi (show (v :: r)[0]? = some v from rfl)
      repeat (walk_at "m")
      refine' tIx (In.get0 (by assumption) hD3) (by decide) (by omega) rfl ?_ (by with_unfolding_all rfl)
      exact ⟨_, _, rfl, by assumption⟩
  obtain ⟨f, tf, rfl, x2⟩ := hq
  clear x
  repeat (walk_at "m")
  rename_i DM _ xM
  refine k_octets (ms := (ms.drop 1).take 12) xM W1 (R'.le (by decide)) (xM.get1 (.head _)) (IntsAre.take (IntsAre.drop hi 1) 12) (by rw [List.length_take]; omega) ?_
  intro OC ow ok s3 os ho h256 h4 h12 x3
  repeat (walk_at "m")
  rename_i sa sb st _ pa pb pab _ TT _ _ _ _ _ _ s4 x4
  have hf0 : 0 ≤ f.fmod 6 := Int.fmod_nonneg_of_pos _ (by decide)
  have hf6 : f.fmod 6 < 6 := Int.fmod_lt_of_pos _ (by decide)
  have x4' : In b L [("first", .int f tf), ("octets", .ref OC), ("two", .str (S [sa, sb]) st)] [(OC, lstO ow ok), (262, tabObj #[]), (L + 2, cellP oA none), (L + 1, cellP oB none)] s4 := by
    refine' (In.forget x4 ?A1).drop ?B1
    case B1 => walk_at "sl"
    case A1 => walk_at "sub"
  clear x4 x3 x2 xM
  have hlt6 : (f.fmod 6).toNat < 6 := by omega
  refine k_sizes (i := (f.fmod 6).toNat) x4' W1 (R'.le (by decide)) hlt6 ?_
  intro SF ST SM SG svs gs mss s5 x5 hsl hst hgs hms
  repeat (walk_at "m")
  refine' tIx (In.get1 (by assumption) (by walk_at "mem")) hf0 (by omega) hst ?_ (by with_unfolding_all rfl)
  repeat (walk_at "m")
  rename_i x6
  have hsm : (szM (f.fmod 6).toNat).length ≤ 100 := by
    have hc : (f.fmod 6).toNat = 0 ∨ (f.fmod 6).toNat = 1 ∨ (f.fmod 6).toNat = 2 ∨ (f.fmod 6).toNat = 3 ∨ (f.fmod 6).toNat = 4 ∨ (f.fmod 6).toNat = 5 := six hlt6
    rcases hc with q | q | q | q | q | q <;> rw [q] <;> decide
  generalize (f.fmod 6).toNat = ix at *
  refine k_names (two := [sa, sb]) (os := os) (ss := szM ix) x6 W1 (R'.le (by decide)) rfl (x6.get1 (by walk_at "mem")) ho (by omega) (x6.get1 (by walk_at "mem")) hms hsm ?_
  intro NF nw nk s7 hnt x7
  have hpc : ∀ p ∈ cutM os (szM ix) 0, p ≠ [] ∧ p.length ≤ 12 ∧ ∀ q ∈ p, q < 256 := fun p hp => by
    obtain ⟨q1, q2, q3⟩ := cutM_sub os (szM ix) 0 p hp
    exact ⟨q1, by omega, fun q hq => h256 q (q3 q hq)⟩
  obtain ⟨ns, hns⟩ : ∃ ns, ns = (cutM os (szM ix) 0).map (sgn [sa, sb]) := ⟨_, rfl⟩
  rw [← hns] at hnt
  have hnm : ∀ q ∈ ns, Nm q := fun q hq => by
    rw [hns] at hq
    obtain ⟨p, hp, rfl⟩ := List.mem_map.mp hq
    exact (sgn_nm pa pb (hpc p hp).1 (hpc p hp).2.1).1
  have hn16 : ∀ q ∈ ns, q.length ≤ 16 := fun q hq => by
    rw [hns] at hq
    obtain ⟨p, hp, rfl⟩ := List.mem_map.mp hq
    exact (sgn_nm pa pb (hpc p hp).1 (hpc p hp).2.1).2
  have hn0 : ns ≠ [] := fun q => by
    rw [hns, List.map_eq_nil_iff] at q
    exact cutM_ne hlt6 h4 q
  have hn7 : ns.length ≤ 7 := by rw [hns, List.length_map]; exact cutM_7 hlt6 os
  have hnz : (pt ns).length ≤ 250 := by have := pt_sum ns hn16; omega
  repeat (walk_at "m")
  refine items_star ?_ rfl
  repeat (walk_at "m")
  rename_i tsl s8 x8
  have hx8 : ∃ tb, In b L [("octets", .ref OC), ("given", .ref SG), ("names", .ref NF)] [(NF, lstO nw nk), (SG, lstO gs 0), (OC, lstO ow ok), (262, tabObj #[]), (L + 2, cellP oA none), (L + 1, cellP oB (some (.bytes (By [sa, sb]) tb)))] s8 := by
    refine' ⟨_, (In.forget x8 ?A1).drop ?B1⟩
    case B1 => walk_at "sl"
    case A1 => walk_at "sub"
  clear x8 x4' x5 x6 x7
  obtain ⟨tb, x8⟩ := hx8
  refine k_cut (os := os) (zs := szG ix) (T := gst (szG ix) none) x8 (by walk_at "mem") (x8.get1 (by walk_at "mem")) ho hgs h12 (fun _ => rfl) (szG_ok hlt6) (fun j z hz => gst_pos _ _ j z hz (fun q hq => by cases hq)) hbare1 W1 (R'.le (by decide)) ?_
  intro PC X pcs pn gn s9 hgn x9 hpcs hints
  have W9 : Wd (withG b gn).heap := W1
  have WL9 : WdL (withG b gn).heap := WL1
  have hL9 : (withG b gn).heap.get? L = none := hL2
  have hp9 : ∀ q ∈ pcs, s9.heap.get? q.1 = some (lstO q.2.1 q.2.2.1) := fun q hq => (x9.nw _ (.tail _ (hpcs q hq).1)).1
  have hfin9 : ∀ o' s' N l', In (withG b gn) L l' N s' → (262, tabObj o') ∈ N → Q (.bool true) s' := fun o' s' N l' y m => hfin gn o' s' N l' hgn y m
  rw [cut_ok hlt6 h4 h12] at hints
  have hns2 : ns = pcs.map fun q => sgn [sa, sb] q.2.2.2 := by rw [hns, ← hints, List.map_map]; rfl
  have hpq : ∀ q ∈ pcs, q.2.2.2 ≠ [] ∧ q.2.2.2.length ≤ 12 ∧ ∀ z ∈ q.2.2.2, z < 256 := fun q hq => hpc _ (by rw [← hints]; exact List.mem_map_of_mem (f := fun q : Addr × List Value × Nat × List Nat => q.2.2.2) hq)
  have hpl : pcs.length = ns.length := by rw [hns2, List.length_map]
  have x9 := x9.perm (nw' := (PC, lstO (pcs.map fun q => Value.ref q.1) pn) :: (NF, lstO nw nk) :: (SG, lstO gs 0) :: (OC, lstO ow ok) :: (262, tabObj #[]) :: (L + 2, cellP oA none) :: (L + 1, cellP oB (some (.bytes (By [sa, sb]) tb))) :: X) (.cons _ List.perm_append_comm)
  have hnsq : ∀ q ∈ pcs, Ns q.2.1 q.2.2.2 := fun q hq => (hpcs q hq).2
  clear hfin hgs hms hst hsl hpc hpcs x8 hbare1
  have hkb : Keep b.heap (withG b gn).heap := fun _ _ q => q
  generalize withG b gn = b9 at *
  have hC9 := x9.get1 (D := L + 1) (o := cellP oB (some (.bytes (By [sa, sb]) tb))) (by simp)
  have W10 := x9.wd W9
  refine' compIt (k := 0) (clF := fun _ => [("altchars", L + 1)]) (vs := pcs.map fun q => Value.ref q.1) (σ := List Value) (fun j c => Txs c (ns.take j)) (fun c => c) (fun _ _ => []) [] e R' (fun _ => rfl) (by decide) (fun _ => rfl) rfl (.inl ⟨pn, x9.get1 (by walk_at "mem")⟩) Txs.nil rfl (fun _ => rfl) ?gs ?gb ?ge
  case gs => intro j c hc; have := hc.1; rw [List.length_take] at this; omega
  case gb =>
    intro j v c I oI F n C s' hv hc eC hC y
    rw [List.getElem?_map] at hv
    obtain ⟨q, hq, rfl⟩ := Option.map_eq_some_iff.mp hv
    have hqm := List.mem_of_getElem? hq
    have hq9 := hp9 q hqm
    have hqn := hnsq q hqm
    obtain ⟨q1, q2, q3⟩ := hpq q hqm
    have hql : q.2.1.length ≤ 100 := by rw [hqn.length, List.length_map]; omega
    have hbs : b64s sa sb q.2.2.2 = sgn [sa, sb] q.2.2.2 := b64_sgn q3
    have hnz1 : b64s sa sb q.2.2.2 ≠ [] := by rw [hbs]; exact (sgn_nm pa pb q1 q2).1.1
    have hlt1 : ∀ z ∈ b64s sa sb q.2.2.2, z < 128 := by rw [hbs]; exact sgn_lt pa pb
    have hz1 : (b64s sa sb q.2.2.2).length ≤ 100 := by rw [hbs]; have := (sgn_nm pa pb q1 q2).2; omega
    unfold TurnOk
    repeat (walk_at "m")
    refine ⟨c ++ [_], _, ?_, rfl, by assumption⟩
    show Txs _ _
    have hnj : ns[j]? = some (b64s sa sb q.2.2.2) := by rw [hbs, hns2, List.getElem?_map, hq]; rfl
    rw [List.take_add_one, hnj]
    exact hc.snoc
  case ge =>
    intro c F n C s' hc hC y
    refine' compEndN x9 hC y ?_
    intro s10 x10
    simp only [List.cons_append, List.nil_append] at x10
    rw [List.length_map, hpl, List.take_length] at hc
    have hcl : c.length = ns.length := hc.1
    clear x9 y
    refine starL (x10.get1 (by walk_at "mem")) x10 (by rw [hcl]; exact Nat.le_trans hn7 (by decide)) fun s11 x11 => ?_
    repeat (walk_at "m")
    refine ⟨hkb.trans x11.keep, ?_⟩
    rw [List.append_nil]
    refine k_join (a := [47]) (ps := ns) x11 W9 (R'.le (by decide)) hc (by have := wt_pt ns; simp; omega) fun tp s12 x12 => ?_
    rw [path_ok hnm hn0]
    repeat (walk_at "m")
    rename_i RF rws rk _ hrt _ s13 x13'
    have x13 : In b9 L [("names", .ref NF), ("path", .str (S (pt ns)) tp), ("rows", .ref RF)] [(RF, lstO rws rk), (NF, lstO nw nk), (262, tabObj #[]), (L + 2, cellP oA none)] s13 := by
      refine' (In.forget x13' ?A1).drop ?B1
      case B1 => walk_at "sl"
      case A1 => walk_at "sub"
    clear x13' x12 x11 x10
    have hrots : ((List.range ns.length).map fun i => pt (rot ns i)) = (rots ns).map pt := by unfold rots; rw [List.map_map]; rfl
    rw [hrots] at hrt
    have hrl : rws.length = ns.length := by rw [hrt.1, List.length_map]; unfold rots; simp
    have hnl : 1 ≤ ns.length := List.length_pos_iff.mpr hn0
    refine cBnK (x := ("sorted" : Str)) (id := "sorted") (kn := ("key" : Str)) (by decide +kernel) (by decide +kernel) e x13 W9 (by decide +kernel) ?_ rfl rfl (fun _ => rfl) rfl rfl
    repeat (walk_at "m")
    refine sortKL (D := RF) (ks := (rots ns).map pt) (x13.get1 (by walk_at "mem")) (by rw [hrl]; exact hnl) (by rw [hrl]; exact hn7) (by rw [hrt.1]) x13 hL9 (ksk_s1 _ _) (fun _ => ksk_l1 _ _) (fun _ => ksk_t1 _ _) ?_ ?_
    · intro i v k s' Q' hv hk x' hq
      obtain ⟨k2, tk2, hk2, rfl⟩ := hrt.2 i v hv
      rw [hk] at hk2; cases hk2
      exact c_strxfrm (x'.wd W9) (R'.le (by decide) : Rm 4 A').in1.in1 fun s'' kk => hq _ _ kk
    · intro OF p ok2 s14 p1 p2 p3 x14
      have hot := sort_ok hrt p1 p2 p3
      rw [← inOrd_srt] at hot
      generalize hows : (p.map fun i => rws.getD i Value.none) = ows at hot x14
      clear p1 p2 p3 hows p
      have hul : (inOrd ns).length = ns.length := by rw [(inOrd_perm ns).length_eq]; unfold rots; simp
      have hsrt : srt ((rots ns).map pt) = (inOrd ns).map pt := (inOrd_srt ns).symm
      have hol : ows.length = ns.length := by rw [hot.1, List.length_map, hul]
      repeat (walk_at "m")
      rename_i SO sws sm _ hso x15
      rw [hsrt] at hso
      refine vNeLL (x15.get1 (by walk_at "mem")) (x15.get1 (by walk_at "mem")) (hot.tw hso) R'.units ?_
      have hpl100 : ((inOrd ns).map pt).length ≤ 100 := by rw [List.length_map, hul]; exact Nat.le_trans hn7 (by decide)
      repeat (walk_at "m")
      rename_i AF aws ak s16 hah x16
      have hO16 := x16.get1 (D := OF) (o := lstO ows ok2) (by walk_at "mem")
      have hC16 := x16.get1 (D := L + 2) (o := cellP oA (some (.ref OF))) (by walk_at "mem")
      refine' compIt (k := 0) (clF := fun _ => [("ordered", L + 2)]) (vs := ows) (σ := List Value) (fun j c => IntsAre c ((((inOrd ns).map pt).take j).map fun r => ((((inOrd ns).map pt).idxOf r : Nat) : Int))) (fun c => c) (fun _ _ => []) [] e R' (fun _ => rfl) (by decide) (fun _ => rfl) rfl (.inl ⟨ok2, hO16⟩) .nil rfl (fun _ => rfl) ?hs ?hb ?he
      case hs => intro j c hc; have := hc.length; rw [List.length_map, List.length_take] at this; omega
      case hb =>
        intro j v c I oI F n C s' hv hc eC hC y
        obtain ⟨q, u, hq, rfl⟩ := hot.2 j v hv
        have hqm := List.mem_of_getElem? hq
        unfold TurnOk
        repeat (walk_at "m")
        refine vIndex (In.get0 (by assumption) hO16) hot hqm (by omega) (by assumption) fun t' s' x' => ⟨c ++ [_], _, ?_, rfl, x'⟩
        show IntsAre _ _
        rw [List.take_add_one, hq, List.map_append]
        exact IntsAre.append hc (.cons _ _ .nil)
      case he =>
        intro c G k C s' hc hC y
        refine' compEndN x16 hC y ?_
        intro s17 x17
        simp only [List.cons_append, List.nil_append] at x17
        rw [hot.1, List.take_length] at hc
        have hps : ((inOrd ns).map pt).Pairwise (fun a b => leL a b = true) := List.pairwise_map.mpr (inOrd_pair ns)
        have hai : (((inOrd ns).map pt).map fun r => (aheadOf ((inOrd ns).map pt) r : Int)) = ((inOrd ns).map pt).map fun r => ((((inOrd ns).map pt).idxOf r : Nat) : Int) := List.map_congr_left fun r hr => by rw [ahead_idx hps r hr]
        rw [hai] at hah
        refine vNeLL (x17.get1 (by walk_at "mem")) (x17.get1 (by walk_at "mem")) (Ints.tw hah hc) R'.units ?_
        have hO17 : In b9 L [("names", .ref NF), ("path", .str (S (pt ns)) tp)] [(OF, lstO ows ok2), (NF, lstO nw nk), (262, tabObj #[]), (L + 2, cellP oA (some (.ref OF)))] s17 := by
          refine' (In.forget x17 ?A1).drop ?B1
          case B1 => walk_at "sl"
          case A1 => walk_at "sub"
        clear y x17 x16 hO16 hC16 hC hc hah hai
        have hrm : ns ∈ rots ns := by
          unfold rots
          refine List.mem_map.mpr ⟨0, List.mem_range.mpr hnl, ?_⟩
          unfold rot; simp
        have hpm : pt ns ∈ (inOrd ns).map pt := List.mem_map_of_mem ((inOrd_perm ns).mem_iff.mpr hrm)
        have hus : ∀ u ∈ inOrd ns, u.length = (inOrd ns).length ∧ (∀ q ∈ u, Nm q) ∧ (pt u).length ≤ 250 := fun u hu => by
          obtain ⟨r1, r2, r3⟩ := rots_mem ((inOrd_perm ns).mem_iff.mp hu)
          exact ⟨r1.trans hul.symm, fun q hq => hnm q (r2 q hq), by rw [r3]; exact hnz⟩
        have hu0 : inOrd ns ≠ [] := fun q => by rw [q] at hul; simp at hul; omega
        have hu7 : (inOrd ns).length ≤ 7 := by rw [hul]; exact hn7
        have h47 : ∀ q ∈ ns, 47 ∉ q := fun q hq => (hnm q hq).2.1
        have hil : ((inOrd ns).map pt).idxOf (pt ns) < (inOrd ns).length := by
          have := List.idxOf_lt_length_iff.mpr hpm
          rwa [List.length_map] at this
        have his : (inOrd ns).getD (((inOrd ns).map pt).idxOf (pt ns)) [] = ns := by
          rw [List.getD_eq_getElem?_getD, List.getElem?_eq_getElem hil]
          show (inOrd ns)[_] = ns
          have e1 : pt ((inOrd ns)[((inOrd ns).map pt).idxOf (pt ns)]) = pt ns := by
            have := List.getElem_idxOf (x := pt ns) (xs := (inOrd ns).map pt) (List.idxOf_lt_length_iff.mpr hpm)
            rwa [List.getElem_map] at this
          exact pt_inj (fun q hq => ((hus _ (List.getElem_mem hil)).2.1 q hq).2.1) h47 e1
        repeat (walk_at "m")
        refine vIndex (hO17.get1 (by walk_at "mem")) hot hpm (by omega) hO17 fun t' s18 x18 => ?_
        repeat (walk_at "m")
        generalize ((inOrd ns).map pt).idxOf (pt ns) = ip at *
        refine' k_read (us := inOrd ns) (i := ip) x18 ?m1 (x18.get1 ?m2) hot (fun u hu => ⟨fun q => by have := (hus u hu).1; rw [q] at this; simp at this; omega, (hus u hu).2⟩) (by rw [hul]; exact hnl) hu7 hil W9 WL9 (R'.le (by decide)) ?_ ?m3
        case m1 => walk_at "mem"
        case m2 => walk_at "mem"
        case m3 => intro o'; walk_at "uo"
        intro RD dws dk p o' s19 x19 p1 p2 p3 hdw
        rw [hul] at p1 p2 hdw
        rw [rd_ok h47 hn0 p1 p2 p3 (by rw [← hul]; exact hil) his] at hdw
        clear p1 p2 p3 p hO17 x18
        repeat (walk_at "m")
        refine vEqLL (x19.get1 (by walk_at "mem")) (x19.get1 (by walk_at "mem")) (hdw.tw hnt) R'.units ?_
        repeat (walk_at "m")
        rename_i RL rlv rlk _ hrl9 _ TL tlv tlk s20 htl x20
        rw [runs_told hnm] at hrl9
        refine vEqLL (x20.get1 (by walk_at "mem")) (x20.get1 (by walk_at "mem")) (hrl9.tw htl) R'.units ?_
        show Q (.bool true) _
        exact hfin9 o' _ _ _ x20 (by walk_at "mem")
end
end
end
end Mine
end

section
open PySem PySem.W PyProof.Rows PySem.Calls
set_option maxRecDepth 100000
namespace Mine
noncomputable def gO (K : Frag) (a : Addr) : Obj := (K.lookup a).getD default
noncomputable def fD (o : Obj) : FuncData := match o.data with | .func fd => fd | _ => fdOf 0 .none .none .none .none .none
noncomputable def cO (o : Obj) : Addr := match (fD o).code with | .ref c => c | _ => 0
noncomputable def fV (o : Obj) : Array Value := match o.data with | .fields vs => vs | _ => #[]
noncomputable def sT (v : Option Value) : Tok := match v with | some (.str _ t) => t | some (.int _ t) => t | some (.bytes _ t) => t | _ => 0
noncomputable def sS (v : Value) : Str := match v with | .str x _ => x | _ => Str.empty
noncomputable def sI (v : Value) : Int := match v with | .int x _ => x | _ => 0
noncomputable def sB (v : Value) : Bool := match v with | .bool x => x | _ => false
noncomputable def gV (v : Option (Option Value)) : Option Value := match v with | some x => x | _ => none
structure FnK (K : Frag) (q : Nat × Nat × Value × Value) : Prop where
  h1 : K.lookup q.1 = some (gO K q.1)
  h2 : (gO K q.1).data = .func (fdOf q.2.1 q.2.2.1 q.2.2.2 (fD (gO K q.1)).pyModule (.ref (cO (gO K q.1))) (fD (gO K q.1)).doc)
  h3 : K.lookup (cO (gO K q.1)) = some (gO K (cO (gO K q.1)))
  h4 : (gO K (cO (gO K q.1))).data = .fields (fV (gO K (cO (gO K q.1))))
  h5 : (fV (gO K (cO (gO K q.1))))[1]? = some (.str (fName (stmtAt q.2.1)) (sT ((fV (gO K (cO (gO K q.1))))[1]?)))
theorem FnK.at {K : Frag} {q : Nat × Nat × Value × Value} (x : FnK K q) {h : Heap} (X : K.In h) : FnAt h q.1 q.2.1 q.2.2.1 q.2.2.2 :=
  ⟨_, _, _, _, X _ _ x.h1, x.h2, _, _, _, _, rfl, X _ _ x.h3, x.h4, x.h5⟩
noncomputable def AllP {α : Type} (p : α → Prop) : List α → Prop
  | [] => True
  | a :: l => p a ∧ AllP p l
theorem AllP.mem {α : Type} {p : α → Prop} : ∀ {l : List α}, AllP p l → ∀ x ∈ l, p x
  | _ :: _, h, x, hx => by
    rcases List.mem_cons.mp hx with rfl | hx
    · exact h.1
    · exact h.2.mem x hx
theorem lk_mem {x : Str} {v : Value} : ∀ {l : List (Str × Value)}, l.lookup x = some v → (x, v) ∈ l
  | (y, u) :: l, h => by
    rw [List.lookup_cons] at h
    cases q : x == y with
    | true => rw [q] at h; cases h; rw [eq_of_beq q]; exact .head _
    | false => rw [q] at h; exact .tail _ (lk_mem h)
structure KFacts (K : Frag) : Prop where
  fn : AllP (FnK K) fnTab
  glob : AllP (fun p : Str × Value => nsIn K mainGlobals p.1 = some (some p.2)) globs
  bn : AllP (fun p : Str × Value => nsIn K mainGlobals p.1 = some none ∧ (p.1 == ("__name__" : Str)) = false ∧ bootBuiltins p.1 = some p.2) bnames
  b64 : nsIn K mainGlobals ("_B64" : Str) = some (some (.bytes b64tab (sT (gV (nsIn K mainGlobals ("_B64" : Str))))))
  cm : nsIn K mainGlobals ("CHAR_MAX" : Str) = some (some (.int 127 (sT (gV (nsIn K mainGlobals ("CHAR_MAX" : Str))))))
  d1 : K.lookup 178 = some (gO K 178)
  d2 : (gO K 178).cls = .type "tuple"
  d3 : (gO K 178).data = .seq #[.none]
  l1 : cO (gO K 265) = 264
  c1 : K.lookup 264 = some (gO K 264)
  c2 : (gO K 264).cls = .type "code"
  c3 : (gO K 264).data = .fields (fV (gO K 264))
  c4 : (fV (gO K 264))[11]? = some (.ref 262)
  c5 : (fV (gO K 264)).getD 11 .none = .ref 262
  c6 : (fV (gO K 264)).getD 18 .none = .str (sS ((fV (gO K 264)).getD 18 .none)) (sT (some ((fV (gO K 264)).getD 18 .none)))
  c7 : (fV (gO K 264)).getD 7 .none = .int (sI ((fV (gO K 264)).getD 7 .none)) (sT (some ((fV (gO K 264)).getD 7 .none)))
  c8 : (fV (gO K 264)).getD 9 .none = .bool (sB ((fV (gO K 264)).getD 9 .none))
  c9 : (fV (gO K 264)).getD 10 .none = .int (sI ((fV (gO K 264)).getD 10 .none)) (sT (some ((fV (gO K 264)).getD 10 .none)))
  nt : noTabs K = true
  law : nsIn K mainGlobals ("law" : Str) = some (some (.ref 289))

/-! the observation of the heap behind the top -/
noncomputable def isRf : Value → Bool | .ref _ => true | _ => false
noncomputable def isFl (o : Obj) : Bool := match o.data with | .fields _ => true | _ => false
noncomputable def bare1 (o : Obj) : Option FuncData := match o.data with | .func fd => some { fd with pyModule := .none, code := .none, doc := .none } | _ => none
noncomputable def strO (v : Option Value) : Option Str := match v with | some (.str x _) => some x | _ => none
noncomputable def fobs (K : Frag) (q : Nat × Nat × Value × Value) : Bool × Option FuncData × Option Str :=
  ((K.lookup q.1).isSome && isRf (fD (gO K q.1)).code && (K.lookup (cO (gO K q.1))).isSome && isFl (gO K (cO (gO K q.1))), bare1 (gO K q.1), strO ((fV (gO K (cO (gO K q.1))))[1]?))
noncomputable def fval (q : Nat × Nat × Value × Value) : Bool × Option FuncData × Option Str :=
  (true, some (fdOf q.2.1 q.2.2.1 q.2.2.2 .none .none .none), some (fName (stmtAt q.2.1)))
theorem look_gO {K : Frag} {a : Addr} (h : (K.lookup a).isSome = true) : K.lookup a = some (gO K a) := by
  unfold gO
  cases e : K.lookup a with
  | none => rw [e] at h; cases h
  | some o => rfl
theorem fields_fV {o : Obj} (h : isFl o = true) : o.data = .fields (fV o) := by
  unfold isFl at h
  unfold fV
  split at h
  · rename_i vs e; rw [e]
  · cases h
theorem str_sT {v : Option Value} {x : Str} (h : strO v = some x) : v = some (.str x (sT v)) := by
  unfold strO at h
  split at h
  · cases h; rfl
  · cases h
theorem FnK.of {K : Frag} {q : Nat × Nat × Value × Value} (h : fobs K q = fval q) : FnK K q := by
  unfold fobs fval at h
  simp only [Prod.mk.injEq, Bool.and_eq_true] at h
  obtain ⟨⟨⟨⟨a1, a2⟩, a3⟩, a4⟩, b, c⟩ := h
  refine ⟨look_gO a1, ?_, look_gO a3, fields_fV a4, str_sT c⟩
  clear c a4 a3 a1
  generalize gO K q.1 = o at a2 b
  unfold bare1 at b
  unfold cO fD at *
  split at b
  · rename_i fd e
    rw [e] at a2 ⊢
    dsimp only at a2 ⊢
    have e2 : ∀ m c d, fdOf q.2.1 q.2.2.1 q.2.2.2 m c d = { fdOf q.2.1 q.2.2.1 q.2.2.2 .none .none .none with pyModule := m, code := c, doc := d } := fun _ _ _ => rfl
    rw [e2, ← Option.some.inj b]
    cases fd
    dsimp only [isRf] at a2 ⊢
    split at a2
    · rfl
    · cases a2
  · cases b
theorem allP_of {α β : Type} {p : α → Prop} {f g : α → β} (k : ∀ x, f x = g x → p x) : ∀ {l : List α}, l.map f = l.map g → AllP p l
  | [], _ => trivial
  | a :: l, h => ⟨k a (List.cons.inj h).1, allP_of k (List.cons.inj h).2⟩
noncomputable def kobs (K : Frag) : List (Bool × Option FuncData × Option Str) × List (Option (Option Value)) × List (Option (Option Value)) × Option (Array UInt8) × Option Int × Value × Data × Addr × Value × Option Value × Value × Option (Option Value) × Bool :=
  (fnTab.map (fobs K), globs.map (fun p => nsIn K mainGlobals p.1), bnames.map (fun p => nsIn K mainGlobals p.1),
    (match nsIn K mainGlobals ("_B64" : Str) with | some (some (.bytes b _)) => some b | _ => none), (match nsIn K mainGlobals ("CHAR_MAX" : Str) with | some (some (.int n _)) => some n | _ => none),
    (gO K 178).cls, (gO K 178).data, cO (gO K 265), (gO K 264).cls, (fV (gO K 264))[11]?, (fV (gO K 264)).getD 11 .none, nsIn K mainGlobals ("law" : Str),
    (K.lookup 178).isSome && (K.lookup 264).isSome && isFl (gO K 264) && (match (fV (gO K 264)).getD 18 .none with | .str _ _ => true | _ => false) && (match (fV (gO K 264)).getD 7 .none with | .int _ _ => true | _ => false) &&
      (match (fV (gO K 264)).getD 9 .none with | .bool _ => true | _ => false) && (match (fV (gO K 264)).getD 10 .none with | .int _ _ => true | _ => false) && noTabs K)
noncomputable def kval : List (Bool × Option FuncData × Option Str) × List (Option (Option Value)) × List (Option (Option Value)) × Option (Array UInt8) × Option Int × Value × Data × Addr × Value × Option Value × Value × Option (Option Value) × Bool :=
  (fnTab.map fval, globs.map (fun p => some (some p.2)), bnames.map (fun _ => some none), some b64tab, some 127, .type "tuple", .seq #[.none], 264, .type "code", some (.ref 262), .ref 262, some (some (.ref 289)), true)
theorem strV {v : Value} (h : (match v with | .str _ _ => true | _ => false) = true) : v = .str (sS v) (sT (some v)) := by cases v <;> first | rfl | cases h
theorem intV {v : Value} (h : (match v with | .int _ _ => true | _ => false) = true) : v = .int (sI v) (sT (some v)) := by cases v <;> first | rfl | cases h
theorem boolV {v : Value} (h : (match v with | .bool _ => true | _ => false) = true) : v = .bool (sB v) := by cases v <;> first | rfl | cases h
theorem bn_pure : AllP (fun p : Str × Value => (p.1 == ("__name__" : Str)) = false ∧ bootBuiltins p.1 = some p.2) bnames := by
  unfold bnames
  repeat (first | exact trivial | refine ⟨⟨by kernel_rfl, by kernel_rfl⟩, ?_⟩)
theorem AllP.and {α : Type} {p q r : α → Prop} (k : ∀ x, p x → q x → r x) : ∀ {l : List α}, AllP p l → AllP q l → AllP r l
  | [], _, _ => trivial
  | a :: _, x, y => ⟨k a x.1 y.1, AllP.and k x.2 y.2⟩
theorem KFacts.of {K : Frag} (h : kobs K = kval) : KFacts K := by
  unfold kobs kval at h
  simp only [Prod.mk.injEq, Bool.and_eq_true] at h
  obtain ⟨h1, h2, h3, h4, h5, h6, h7, h8, h9, h10, h11, h12, ⟨⟨⟨⟨⟨⟨i1, i2⟩, i3⟩, i4⟩, i5⟩, i6⟩, i7⟩, i8⟩ := h
  refine ⟨allP_of (fun _ => FnK.of) h1, allP_of (fun _ => id) h2, (allP_of (p := fun p : Str × Value => nsIn K mainGlobals p.1 = some none) (fun _ => id) h3).and (fun _ a b => ⟨a, b.1, b.2⟩) bn_pure, ?_, ?_, look_gO i1, h6, h7, h8, look_gO i2, h9, fields_fV i3, h10, h11, strV i4, intV i5, boolV i6, intV i7, i8, h12⟩
  · split at h4
    · rename_i b t e; cases h4; rw [e]; rfl
    · cases h4
  · split at h5
    · rename_i n t e; cases h5; rw [e]; rfl
    · cases h5
noncomputable def codeAtH (h : Heap) (a : Addr) : Addr := match h.get? a with | some o => cO o | none => 0
noncomputable def asOf (h : Heap) : List Addr := mainGlobals :: 178 :: (fnTab.map fun q => q.1) ++ fnTab.map fun q => codeAtH h q.1
noncomputable def frH (h : Heap) : Frag := (asOf h).map fun a => (a, (h.get? a).getD default)
theorem frH_in {h : Heap} (x : (asOf h).all (fun a => (h.get? a).isSome) = true) : (frH h).In h := by
  intro a o e
  unfold frH at e
  have key : ∀ l : List Addr, l.all (fun a => (h.get? a).isSome) = true → (l.map fun a => (a, (h.get? a).getD default)).lookup a = some o → h.get? a = some o := by
    intro l
    induction l with
    | nil => intro _ e; cases e
    | cons b l ih =>
      intro x e
      simp only [List.all_cons, Bool.and_eq_true] at x
      rw [List.map_cons, List.lookup_cons] at e
      cases q : a == b with
      | true =>
        rw [q] at e; cases e
        rw [eq_of_beq q]
        cases r : h.get? b with
        | none => rw [r] at x; cases x.1
        | some _ => rfl
      | false => rw [q] at e; exact ih x.2 e
  exact key _ x e
noncomputable def hSays (h : Heap) : Prop := (∃ K : Frag, KFacts K ∧ K.In h) ∧ ∀ q ∈ [262], h.get? q = some (tabObj #[])
noncomputable def hObs (s : Shared) := ((asOf s.heap).all (fun a => (s.heap.get? a).isSome), kobs (frH s.heap), s.heap.get? 262)
theorem hSays.of {s : Shared} (e : hObs s = (true, kval, some (tabObj #[]))) : hSays s.heap := by
  unfold hObs at e
  simp only [Prod.mk.injEq] at e
  exact ⟨⟨_, KFacts.of e.2.1, frH_in e.1⟩, fun q hq => by rw [List.mem_singleton] at hq; rw [hq]; exact e.2.2⟩
theorem hSays.keeps {h h' : Heap} (x : hSays h) (k : ∀ b o, h.get? b = some o → h'.get? b = some o) : hSays h' :=
  ⟨let ⟨K, a, b⟩ := x.1; ⟨K, a, b.keeps k⟩, fun q hq => k _ _ (x.2 q hq)⟩
end Mine
end

section
open PySem PySem.W PyProof.Rows PySem.Calls
set_option maxRecDepth 100000
namespace Mine
noncomputable def vw : Program := view PW [46]
noncomputable def lo : List Str := (PW.main.scope.names.map (·.1)).filter fun n => n != ("law" : Str)
noncomputable def mods : List Str := importedModules PW.main.body
noncomputable def xT (s : Shared) : Bool := xlAt vw [] s && recOk (RowW.records (OpenRow.toRowW (OpenLaw.row PySem.Challenge.rw_il0071_01))) s
theorem left_of {p q : Program} {loose ms : List Str} {Xt : Shared → Bool} {α : Type} {Yf : Shared → α} {Ya : World → α} {N : Nat} {H₀ : Params → Heap} {gs₀ : Array GenState} {d₀ : Drawn} {k₀ m₀ : Nat} {ann : Option Value} (hm : importedModules p.main.body = ms)
    (open_ : ∀ w : World, (fencedOpening treeTable p w N).map (fun s => (s.heap, s.gens, s.drawn, s.toks)) = some (H₀ w.params, gs₀, d₀, k₀))
    (size : ∀ w : World, ((H₀ w.params).isNs mainGlobals && gs₀.size == 0, (H₀ w.params).objs.size, (H₀ w.params).nsMap mainGlobals "__annotations__") = (true, m₀, ann))
    (run : ∀ w : World, (fun os => (topRun treeTable p w m₀ ann N ⟨H₀ w.params, gs₀, d₀, k₀, os⟩ (topStub p)).map (fun s => ((staticsOk ms (H₀ w.params) s.heap && namesBound p s.heap && gensDone s && laidKept (H₀ w.params) s.heap), openSeen q loose ms Xt true s, Yf s))) = fun _ => some (true, openGood q loose, Ya w)) :
    LeftO p q loose Xt Yf Ya N true := fun w => by
  subst hm
  obtain ⟨⟨h, gs, d, k, os⟩, e, e'⟩ := Option.map_eq_some_iff.mp (open_ w)
  obtain ⟨rfl, rfl, rfl, rfl⟩ : h = H₀ w.params ∧ gs = gs₀ ∧ d = d₀ ∧ k = k₀ := by simpa using e'
  obtain ⟨z1, z2, z3⟩ : _ ∧ _ ∧ _ := by simpa only [Prod.mk.injEq] using size w
  obtain ⟨s₁, r, r'⟩ := Option.map_eq_some_iff.mp (congrFun (run w) os)
  obtain ⟨l1, l2, l3⟩ : _ ∧ _ ∧ _ := by simpa only [Prod.mk.injEq] using r'
  have t : topFrom treeTable p w N ⟨H₀ w.params, gs, d, k, os⟩ = some s₁ := by
    unfold topFrom
    dsimp only
    rw [z1, z2, z3, r]
    show (match staticsOk (importedModules p.main.body) (H₀ w.params) s₁.heap && namesBound p s₁.heap && gensDone s₁ && laidKept (H₀ w.params) s₁.heap with | true => _ | false => _) = _
    rw [l1]
  unfold openEnds
  rw [e]
  show (topFrom treeTable p w N _).map _ = _
  rw [t]
  exact congrArg some (Prod.ext l2 l3)
theorem run_fast : ∀ w : World, (fun os => (Fast.tw14082659384304107361 Fast.tw14364793385576792824 PW w 11 (some (.ref 6)) 3434 ⟨boot_heap w.params, #[], boot_drawn, boot_toks, os⟩ (topStub PW)).map (fun s =>
    ((staticsOk [] (boot_heap w.params) s.heap && namesBound PW s.heap && gensDone s && laidKept (boot_heap w.params) s.heap), Fast.tw4187177175401517315 vw lo [] xT true s, hObs s))) = fun _ => some (true, openGood vw lo, true, kval, some (tabObj #[])) := by
  intro w
  kernel_rfl
end Mine
end

section
open PySem PySem.W PyProof.Rows PySem.Calls
set_option maxRecDepth 100000
namespace Mine
theorem run_slow : ∀ w : World, (fun os => (topRun treeTable PW w 11 (some (.ref 6)) 3434 ⟨boot_heap w.params, #[], boot_drawn, boot_toks, os⟩ (topStub PW)).map (fun s =>
    ((staticsOk [] (boot_heap w.params) s.heap && namesBound PW s.heap && gensDone s && laidKept (boot_heap w.params) s.heap), openSeen vw lo [] xT true s, hObs s))) = fun _ => some (true, openGood vw lo, true, kval, some (tabObj #[])) := by
  rw [Fast.te14082659384304107361, Fast.te14364793385576792824, Fast.te4187177175401517315]
  exact run_fast
theorem lft : LeftO PW vw lo xT hObs (fun _ => (true, kval, some (tabObj #[]))) 3434 true :=
  left_of (ms := []) (by kernel_rfl) (boot_open (by kernel_rfl) (by kernel_rfl) (fun _ => by kernel_rfl)) (fun w => by kernel_rfl) run_slow
noncomputable abbrev lawRow : OpenRow := OpenLaw.row PySem.Challenge.rw_il0071_01
noncomputable def lawD : DefRec := ⟨"law", fParams (stmtAt 46), fBody (stmtAt 46), fScope (stmtAt 46), (match stmtAt 46 with | .FunctionDef _ _ _ _ _ _ _ _ _ p => p | _ => ⟨0, 0, 0, 0⟩)⟩
theorem law_said : OpenLaw.wellSaid PySem.Challenge.rw_il0071_01 = true := by
  rw [Fast.te9446332074065402090]
  kernel_rfl
theorem law_def : defOf vw lawRow.name = some (lawD, []) := by kernel_rfl
theorem law_the : lawRow.prog.theDef lawRow.name = some (lawD.params, lawD.body, lawD.scope) := by
  rw [Fast.te10235530238920679567]
  kernel_rfl
theorem law_kw : kwWritten? lawD.params.kwonlyargs lawD.params.kw_defaults = some [] := by kernel_rfl
theorem law_ok : (chainsOk vw && opensWell lawRow.prog && (frees lawRow.toRowW && lawRow.within.isEmpty)) = true := by decide +kernel
theorem law_bare : lawRow.prog.bare := ⟨rfl, rfl, rfl, rfl, rfl, by decide +kernel⟩
theorem law_promised : lawRow.toRowW.promised := ⟨[.list []], by decide +kernel, by decide +kernel⟩
theorem law_top (call : WalkO vw lo (XL vw []) (fun _ h => hSays h) lawRow.toRowW lawD [] fun f vs => PySem.call f vs) : PySem.Challenge.rw_il0071_01.Holds :=
  holds_law law_said fun said => holds_open (r := lawRow) lft (fun _ _ e => hSays.of e) (fun _ _ _ => hSays.keeps) (fun s e => xl_of s (Bool.and_eq_true_iff.mp e).1) XL.keeps law_def law_the law_kw
    (fun s e => recFacts_of (Bool.and_eq_true_iff.mp e).2) rfl said law_ok law_bare law_promised call
end Mine
end

section
open PySem PySem.W PyProof.Rows PySem.Calls
set_option maxRecDepth 100000
namespace Mine
section
variable {K : Frag} {h : Heap} {p : Program} {loose : List Str} {mean : ExcName → Option Value} {mg mb : Str → Option Value}
theorem KFacts.code (k : KFacts K) (X : K.In h) : CodeHd h 264 262 :=
  ⟨_, _, _, _, _, _, _, _, _, X _ _ k.c1, k.c2, k.c3, k.c4, k.c5, k.c6, k.c7, k.c8, k.c9, by decide⟩
theorem KFacts.wd (k : KFacts K) (X : K.In h) (T : Top p loose mean mg mb h) : Wd h := by
  refine ⟨⟨mg, mb, T.g, T.b, fun x v e => mg_of X T.g (k.glob.mem _ (lk_mem e)), fun x v e => ?_, ⟨_, mg_of X T.g k.b64⟩, ⟨_, mg_of X T.g k.cm⟩⟩, T.nolimit, fun q hq => (k.fn.mem q hq).at X, _, X _ _ k.d1, k.d2, _, k.d3⟩
  obtain ⟨h1, h2, h3⟩ := k.bn.mem _ (lk_mem e)
  exact ⟨mg_none_of X T.g h1, (T.builtins x (fun q => by dsimp only at h2; rw [q] at h2; simp at h2)).trans h3⟩
theorem KFacts.wdl (k : KFacts K) (X : K.In h) (T : Top p loose mean mg mb h) (h262 : h.get? 262 = none) : WdL h := by
  refine ⟨?_, k.code X, mg, T.g, ?_⟩
  · have x := k.fn.mem (265, 42, .none, .none) (by decide)
    have h2 := x.h2
    have h3 := x.h3
    have h4 := x.h4
    have h5 := x.h5
    dsimp only at h2 h3 h4 h5
    rw [k.l1] at h2 h3 h4 h5
    exact ⟨_, _, _, X _ _ x.h1, h2, _, _, _, _, rfl, X _ _ h3, h4, h5⟩
  · obtain ⟨bm, ob, b1, b2, b3, b4, b5, b6⟩ := T.bmain
    refine ⟨bm, ob, b1, b2, fun q => ?_, fun q => ?_, b3, b4, b5, b6⟩
    · obtain ⟨o, es, ep, e, hd, _⟩ := T.g
      rw [q, e] at b3; cases b3; rw [hd] at b6; cases b6
    · rw [q, h262] at b3; cases b3
end
/-- the script's own object -/
theorem well_list {P : Params} {h : Heap} {a : Addr} {vs : List Value} {xs : List WData} (w : Well P h (.ref a) (.list xs)) (hl : h.IsList a vs.toArray) : h.get? a = some (lstO vs 0) := by
  cases w with
  | list e _ =>
    obtain ⟨o, ho, _, n, hd⟩ := hl
    rw [e] at ho; cases ho
    injection hd with h1 h2
    rw [h1] at e; exact e
theorem law_end {K : Frag} {p : Program} {loose : List Str} {mean : ExcName → Option Value} {mg mb : Str → Option Value} {w : World} {s₁ : Shared} {P : Params} {a : Addr} {vs : List Value} {ms : List Int} {xs : List WData} {Q : Value → Shared → Prop} {E : Value → Shared → Prop}
    (k : KFacts K) (X : K.In s₁.heap) (hT : ∀ q ∈ [262], s₁.heap.get? q = some (tabObj #[])) (T : Top p loose mean mg mb s₁.heap) (hg : s₁.gens = #[]) (hL : s₁.heap.IsList a vs.toArray) (w1 : Well P s₁.heap (.ref a) (.list xs)) (hI : IntsAre vs ms) (hl : ms.length ≤ 63)
    (h : ∀ s', OldK s₁.heap s'.heap → s'.os = s₁.os → AllBare s'.gens → Q (.bool true) s') : wpAny (model PW w) callerA (call (.ref 289) [.ref a]) Q E s₁ := by
  have h262 := hT 262 (.head _)
  have C1 := k.code X
  have TA : TabsAt [(264, 262)] s₁.heap := fun q hq => by
    rw [List.mem_singleton] at hq; subst hq
    exact ⟨C1, h262⟩
  have X2 : K.In (hideAll s₁.heap [262]) := ghost_K TA X k.nt
  have T2 := ghost_top TA T
  have n262 : (hideAll s₁.heap [262]).get? 262 = none := hideAll_none _ (.head _)
  refine c_law h262 (well_list w1 hL) hI hl (k.wd X2 T2) (k.wdl X2 T2 n262) (by rw [hg]; exact AllBare.empty) ⟨rfl, by decide, by decide⟩ fun o' s' hs hk h262' => ?_
  obtain ⟨hh, tk, gn, rfl, hb⟩ := hs
  have C2 : CodeHd hh 264 262 := (k.code X2).keeps hk
  refine h _ (OldK.step_table (OldK.refl _) (C1.tab h262) (C1.tab h262) (ps := #[]) (more := o') ?_ (fun b o hb' e => hk b o (hideAll_get _ e fun q => hb' (List.mem_singleton.mp q))) (by decide)) rfl hb
  have := C2.tab h262'
  simpa using this
end Mine
end

open PySem PySem.W PySem.W.X PyProof.Rows PySem.Calls Mine
set_option maxRecDepth 100000 in
set_option maxHeartbeats 8000000 in
theorem PySem.Challenge.cw_il0071_01_holds : PySem.Challenge.rw_il0071_01.Holds := by
  refine law_top ?_
  intro w s₀ s₁ mg mb G Y fa o pm cd doc dV kV ho hd hcd hD hmg hg args vals as hpre hlay hrd hwl hlo
  obtain ⟨⟨K, kf, KX⟩, KT⟩ := Y
  refine Ground.open G ?_
  intro T B D TE TW
  have hfa : fa = 289 := Value.ref.inj (Option.some.inj (hmg.symm.trans (mg_of KX T.g kf.law)))
  subst hfa
  clear B D TE TW G ho hmg hD hcd hd
  wrow_args hpre hlay hrd hwl hlo
  all_goals (
    rename_i _ _ _ _ _ _ _ _ vs _ hL _ w1 _ hI _ hcond _
    refine law_end kf KX KT T hg hL w1 hI (by omega) fun s' h1 h2 h3 => ⟨.inl ⟨_, .bool true, [], rfl, fun _ => rfl, .bool true, ?post9, fun _ => ⟨List.nodup_nil, fun _ hq => nomatch hq⟩⟩, h1, h2, h3⟩
    case post9 => kernel_rfl)
