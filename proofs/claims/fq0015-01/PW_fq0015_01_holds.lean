import PyProof.Rows.All
import Wide.All
import OpenK.AllK
import Wide.FinOn
import Lean
import PySem.Challenge.RW_fq0015_01
open PySem PySem.W PySem.Calls PyProof.Rows
open PySem.Builtin.Int (intBits)
set_option Elab.async false
set_option maxRecDepth 100000
namespace Mine
set_option maxRecDepth 100000 in
set_option maxHeartbeats 8000000 in
open_top hd for PySem.Challenge.rw_fq0015_01
abbrev Led := List (Addr × Obj)


/-- what a call of f on vs, with the ledger news, hands back: a value and new entries of the ledger -/
def Con (w : World) (mean : ExcName → Option Value) (mg mb : Str → Option Value) (f : Addr) (d u : Nat) (news : Led) (vs : List Value) (Ret : Value → Led → Prop) : Prop :=
  ∀ (dp un : Nat) (gd : Option (List Code)) (cn : Str) (cs : Scope) (a : Addr) (ccd : Value) (cl : List (Str × Addr)) (outer : List Env) (A₀ : Around) (base h₀ : Heap) (L : Addr) (m : Str → Option Value) (s : Shared) (Q E : Value → Shared → Prop),
    Below A₀ base outer h₀ → Fr h₀ L s.heap m → (Mine.hd.heap_39 w.params).In h₀ → News h₀ L s.heap news → Top Mine.hd.view_39 (looseW Mine.hd.view_39 []) mean mg mb h₀ → cs.kind = .function →
    dp + d < recursionLimit → un + u < cLine →
    (∀ r tl h' tk', Fr h₀ L h' m → News h₀ L h' (tl ++ news) → Ret r tl → Q r { s with heap := h', toks := tk' }) →
    wpAny (model PySem.Challenge.rw_fq0015_01.row.prog w) (ktrTop dp un gd cn cs L a ccd cl outer) (call (.ref f) vs) Q E s
open PySem.Builtin.Int (intBits)

/-- small ints: below two to the k in size -/
def Bd (k : Nat) (a : Int) : Prop := a.natAbs < 2 ^ k
theorem Bd.bits {k : Nat} {a : Int} (h : Bd k a) : intBits a ≤ k := by
  unfold intBits
  split
  · omega
  · rename_i hz
    have hz' : a.natAbs ≠ 0 := by simpa using hz
    have := (Nat.log2_lt hz').mpr h
    omega
theorem Bd.mono {i j : Nat} {a : Int} (h : Bd i a) (hij : i ≤ j) : Bd j a := Nat.lt_of_lt_of_le h (Nat.pow_le_pow_right (by decide) hij)
theorem Bd.mul {i j : Nat} {a b : Int} (ha : Bd i a) (hb : Bd j b) : Bd (i + j) (a * b) := by
  unfold Bd at *
  rw [Int.natAbs_mul, Nat.pow_add]
  exact Nat.mul_lt_mul'' ha hb
theorem Bd.addx {i j : Nat} {a b c : Int} (ha : Bd i a) (hb : Bd j b) (hc : c.natAbs ≤ a.natAbs + b.natAbs) : Bd (i + j + 1) c := by
  have h1 := Bd.mono ha (Nat.le_add_right i j)
  have h2 := Bd.mono hb (Nat.le_add_left j i)
  unfold Bd at *
  rw [Nat.pow_succ]
  omega
theorem Bd.add {i j : Nat} {a b : Int} (ha : Bd i a) (hb : Bd j b) : Bd (i + j + 1) (a + b) := Bd.addx ha hb (by omega)
theorem Bd.sub {i j : Nat} {a b : Int} (ha : Bd i a) (hb : Bd j b) : Bd (i + j + 1) (a - b) := Bd.addx ha hb (by omega)
theorem Bd.neg {i : Nat} {a : Int} (ha : Bd i a) : Bd i (-a) := by unfold Bd at *; omega
theorem Bd.mod (a : Int) {k : Nat} {m : Int} (h0 : 0 < m) (hm : m.natAbs < 2 ^ k) : Bd k (a % m) := by
  unfold Bd
  have h1 := Int.emod_nonneg a (by omega : m ≠ 0)
  have h2 := Int.emod_lt_of_pos a h0
  omega
theorem Bd.modP (a : Int) : Bd 256 (a % 115792089237316195423570985008687907853269984665640564039457584007908834671663) := Bd.mod a (by decide) (by decide)
theorem Bd.of_range {a : Int} (h0 : 0 ≤ a) (h1 : a < 115792089237316195423570985008687907853269984665640564039457584007908834671663) : Bd 256 a := by
  unfold Bd
  have e : (2 : Nat) ^ 256 = 115792089237316195423570985008687907853269984665640564039457584007913129639936 := by decide
  rw [e]
  omega

section
variable {prog : Program} {w : World} {A : Around} {E : Value → Shared → Prop} {s : Shared} {a b : Int} {t u : Tok} {Q : Value → Shared → Prop}
theorem mul_bd {i j : Nat} (ha : Bd i a) (hb : Bd j b) (hi : (Nat.ble i 100000 && Nat.ble j 100000) = true) (h : ∀ t' k', Q (.int (a * b) t') { s with toks := k' }) :
    wpAny (model prog w) A (binaryOp .Mult (.int a t) (.int b u)) Q E s := by
  have hi1 : i ≤ 100000 := Nat.le_of_ble_eq_true (Bool.and_eq_true_iff.mp hi).1
  have hj1 : j ≤ 100000 := Nat.le_of_ble_eq_true (Bool.and_eq_true_iff.mp hi).2
  refine mul_int (h _ _) ?_
  have e : (2 : Nat) ^ 20 = 1048576 := by decide
  exact IntMulOk.of_bits (by have := ha.bits; omega) (by have := hb.bits; omega)
theorem pow_bd {i : Nat} (n : Nat) (ha : Bd i a) (hi : Nat.ble i 100000 = true) (hn : n ≤ 4) (h : ∀ t' k', Q (.int (a ^ n) t') { s with toks := k' }) :
    wpAny (model prog w) A (binaryOp .Pow (.int a t) (.int (n : Int) u)) Q E s := by
  have hi1 : i ≤ 100000 := Nat.le_of_ble_eq_true hi
  refine pow_int (by omega) ?_ (by rw [Int.toNat_natCast]; exact h _ _)
  have := ha.bits
  have h3 : (intBits a : Int) * (n : Int) ≤ 100000 * 4 := Int.mul_le_mul (by omega) (by omega) (by omega) (by decide)
  have e : (2 : Int) ^ 27 = 134217728 := by decide
  omega
theorem pow2 {i : Nat} (ha : Bd i a) (hi : Nat.ble i 100000 = true) (h : ∀ t' k', Q (.int (a * a) t') { s with toks := k' }) : wpAny (model prog w) A (binaryOp .Pow (.int a t) (.int 2 u)) Q E s :=
  pow_bd 2 ha hi (by decide) (by have e : a ^ 2 = a * a := by rw [Int.pow_succ, Int.pow_succ, Int.pow_zero, Int.one_mul]
                                 rw [e]; exact h)
theorem pow3 {i : Nat} (ha : Bd i a) (hi : Nat.ble i 100000 = true) (h : ∀ t' k', Q (.int (a * a * a) t') { s with toks := k' }) : wpAny (model prog w) A (binaryOp .Pow (.int a t) (.int 3 u)) Q E s :=
  pow_bd 3 ha hi (by decide) (by have e : a ^ 3 = a * a * a := by rw [Int.pow_succ, Int.pow_succ, Int.pow_succ, Int.pow_zero, Int.one_mul]
                                 rw [e]; exact h)
theorem pow4 {i : Nat} (ha : Bd i a) (hi : Nat.ble i 100000 = true) (h : ∀ t' k', Q (.int (a * a * a * a) t') { s with toks := k' }) : wpAny (model prog w) A (binaryOp .Pow (.int a t) (.int 4 u)) Q E s :=
  pow_bd 4 ha hi (by decide) (by have e : a ^ 4 = a * a * a * a := by rw [Int.pow_succ, Int.pow_succ, Int.pow_succ, Int.pow_succ, Int.pow_zero, Int.one_mul]
                                 rw [e]; exact h)
theorem mod_bd (hb : 0 < b) (h : ∀ t' k', Q (.int (a % b) t') { s with toks := k' }) : wpAny (model prog w) A (binaryOp .Mod (.int a t) (.int b u)) Q E s :=
  mod_int' (by omega) (by rw [Int.fmod_eq_emod_of_nonneg a (by omega)]; exact h _ _)
theorem sub_bd (h : ∀ t' k', Q (.int (a - b) t') { s with toks := k' }) : wpAny (model prog w) A (binaryOp .Sub (.int a t) (.int b u)) Q E s := sub_int (h _ _)
theorem add_bd (h : ∀ t' k', Q (.int (a + b) t') { s with toks := k' }) : wpAny (model prog w) A (binaryOp .Add (.int a t) (.int b u)) Q E s := add_int (h _ _)
end
theorem Bd.lit (k : Nat) {a : Int} (h : Nat.blt a.natAbs (2 ^ k) = true) : Bd k a := Nat.le_of_ble_eq_true h
theorem Bd.div {i : Nat} {a b : Int} (ha : Bd i a) (hb : 0 < b) (h0 : 0 ≤ a) : Bd i (a / b) := by
  unfold Bd at *
  have h1 : a / b ≤ a := Int.ediv_le_self b h0
  have h2 : 0 ≤ a / b := Int.ediv_nonneg h0 (by omega)
  omega
section
variable {prog : Program} {w : World} {A : Around} {E : Value → Shared → Prop} {s : Shared} {a b : Int} {t u : Tok} {Q : Value → Shared → Prop}
theorem const_bd {M : Model} {i : Int} {k : Nat} {pos : Pos} {env : Env} (h : ∀ t' k', Q (.int i t') { s with toks := k' }) : wpAny M A (eval (.Constant (.int i) k pos) env) Q E s := wpAny_Constant_int (h _ _)
theorem div_bd {i : Nat} (hb : 0 < b) (hi : Bd i b) (hi2 : Nat.ble i 8000 = true) (h : ∀ t' k', Q (.int (a / b) t') { s with toks := k' }) : wpAny (model prog w) A (binaryOp .FloorDiv (.int a t) (.int b u)) Q E s := by
  have hi3 : i ≤ 8000 := Nat.le_of_ble_eq_true hi2
  refine floordiv_int (by omega) (by rw [Int.fdiv_eq_ediv_of_nonneg a (by omega)]; exact h _ _) (.inl (PyProof.noPylong_of_log2 ?_))
  have hz : b.natAbs ≠ 0 := by omega
  have h2 : b.natAbs < 2 ^ i := hi
  have := (Nat.log2_lt hz).mpr h2
  omega
end
abbrev tup (vs : List Value) : Obj := { cls := .type "tuple", data := .seq vs.toArray }
section
variable {w : World} {mean : ExcName → Option Value} {mg mb : Str → Option Value} {f : Addr} {d u : Nat} {news : Led} {vs : List Value} {Ret : Value → Led → Prop}
theorem con_use {dp un : Nat} {gd : Option (List Code)} {cn : Str} {cs : Scope} {a : Addr} {ccd : Value} {cl : List (Str × Addr)} {outer : List Env} {A₀ : Around} {base h₀ : Heap} {L : Addr} {m : Str → Option Value} {s : Shared} {Q E : Value → Shared → Prop}
    (B : Below A₀ base outer h₀) (F : Fr h₀ L s.heap m) (X : (Mine.hd.heap_39 w.params).In h₀) (N : News h₀ L s.heap news) (T : Top Mine.hd.view_39 (looseW Mine.hd.view_39 []) mean mg mb h₀) (hk : cs.kind = .function)
    (C : Con w mean mg mb f d u news vs Ret) (hd : dp + d < recursionLimit) (hu : un + u < cLine)
    (ret : ∀ r tl h' tk', Fr h₀ L h' m → News h₀ L h' (tl ++ news) → Ret r tl → Q r { s with heap := h', toks := tk' }) :
    wpAny (model PySem.Challenge.rw_fq0015_01.row.prog w) (ktrTop dp un gd cn cs L a ccd cl outer) (call (.ref f) vs) Q E s := C _ _ _ _ _ _ _ _ _ _ _ _ _ _ _ _ _ B F X N T hk hd hu ret
/-- what the walk's end wants where a tuple of ints is handed back -/
theorem News.again {h₀ h : Heap} {L a : Addr} {o : Obj} {news : Led} (N : News h₀ L h news) (hm : (a, o) ∈ news) : News h₀ L h ((a, o) :: news) := fun p hp => by
  rcases List.mem_cons.mp hp with rfl | hp
  · exact N _ hm
  · exact N _ hp
end
/-- an int -/
def RI (v : Int) (r : Value) (tl : Led) : Prop := tl = [] ∧ ∃ t, r = .int v t
def RBool (v : Bool) (r : Value) (tl : Led) : Prop := tl = [] ∧ r = .bool v
def RBytes (n : Nat) (v : Array UInt8) (r : Value) (tl : Led) : Prop := tl = [] ∧ ∃ b t, r = .bytes b t ∧ b = v ∧ b.size = n
abbrev I3 := Int × Int × Int
abbrev I2 := Int × Int
def R3 (v : I3) (r : Value) (tl : Led) : Prop := ∃ a X Y Z tx ty tz, r = .ref a ∧ tl = [(a, tup [.int X tx, .int Y ty, .int Z tz])] ∧ (X, Y, Z) = v ∧ Bd 256 X ∧ Bd 256 Y ∧ Bd 256 Z
def R2 (v : I2) (r : Value) (tl : Led) : Prop := ∃ a X Y tx ty, r = .ref a ∧ tl = [(a, tup [.int X tx, .int Y ty])] ∧ (X, Y) = v ∧ Bd 256 X ∧ Bd 256 Y
theorem R3.mk {a : Addr} {X Y Z : Int} {tx ty tz : Tok} {v : I3} (h : (X, Y, Z) = v) (h1 : Bd 256 X) (h2 : Bd 256 Y) (h3 : Bd 256 Z) : R3 v (.ref a) [(a, tup [.int X tx, .int Y ty, .int Z tz])] := ⟨_, _, _, _, _, _, _, rfl, rfl, h, h1, h2, h3⟩
theorem R2.mk {a : Addr} {X Y : Int} {tx ty : Tok} {v : I2} (h : (X, Y) = v) (h1 : Bd 256 X) (h2 : Bd 256 Y) : R2 v (.ref a) [(a, tup [.int X tx, .int Y ty])] := ⟨_, _, _, _, _, rfl, rfl, h, h1, h2⟩
theorem RI.mk {v x : Int} {t : Tok} (h : x = v) : RI v (.int x t) [] := ⟨rfl, _, by rw [h]⟩
section
variable {h₀ h' : Heap} {L : Addr} {m : Str → Option Value} {news : Led} {s : Shared} {Q : Value → Shared → Prop} {tk' : Nat} {a : Addr} {X Y Z : Int} {tx ty tz : Tok}
theorem end3 {v : I3} (hret : ∀ r tl h' tk', Fr h₀ L h' m → News h₀ L h' (tl ++ news) → R3 v r tl → Q r { s with heap := h', toks := tk' }) (F : Fr h₀ L h' m) (N : News h₀ L h' ((a, tup [.int X tx, .int Y ty, .int Z tz]) :: news))
    (e : (X, Y, Z) = v) (b1 : Bd 256 X) (b2 : Bd 256 Y) (b3 : Bd 256 Z) : Q (.ref a) { s with heap := h', toks := tk' } := hret _ [_] _ _ F N (R3.mk e b1 b2 b3)
theorem end2 {v : I2} (hret : ∀ r tl h' tk', Fr h₀ L h' m → News h₀ L h' (tl ++ news) → R2 v r tl → Q r { s with heap := h', toks := tk' }) (F : Fr h₀ L h' m) (N : News h₀ L h' ((a, tup [.int X tx, .int Y ty]) :: news))
    (e : (X, Y) = v) (b1 : Bd 256 X) (b2 : Bd 256 Y) : Q (.ref a) { s with heap := h', toks := tk' } := hret _ [_] _ _ F N (R2.mk e b1 b2)
theorem endI {v : Int} (hret : ∀ r tl h' tk', Fr h₀ L h' m → News h₀ L h' (tl ++ news) → RI v r tl → Q r { s with heap := h', toks := tk' }) (F : Fr h₀ L h' m) (N : News h₀ L h' news)
    (e : X = v) : Q (.int X tx) { s with heap := h', toks := tk' } := hret _ [] _ _ F N (RI.mk e)
theorem endB {v b : Bool} (hret : ∀ r tl h' tk', Fr h₀ L h' m → News h₀ L h' (tl ++ news) → RBool v r tl → Q r { s with heap := h', toks := tk' }) (F : Fr h₀ L h' m) (N : News h₀ L h' news)
    (e : b = v) : Q (.bool b) { s with heap := h', toks := tk' } := hret _ [] _ _ F N ⟨rfl, by rw [e]⟩
theorem endY {n : Nat} {v b : Array UInt8} (hret : ∀ r tl h' tk', Fr h₀ L h' m → News h₀ L h' (tl ++ news) → RBytes n v r tl → Q r { s with heap := h', toks := tk' }) (F : Fr h₀ L h' m) (N : News h₀ L h' news)
    (e : b = v) (en : b.size = n) : Q (.bytes b tx) { s with heap := h', toks := tk' } := hret _ [] _ _ F N ⟨rfl, _, _, rfl, e, en⟩
theorem News.one {h : Heap} {o : Obj} {news' : Led} (N : News h₀ L h news') (hm : (a, o) ∈ news') (N2 : News h₀ L h news) : News h₀ L h ((a, o) :: news) := fun p hp => by
  rcases List.mem_cons.mp hp with rfl | hp
  · exact N _ hm
  · exact N2 _ hp
theorem News.drop1 {h : Heap} {p : Addr × Obj} (N : News h₀ L h (p :: news)) : News h₀ L h news := fun q hq => N q (.tail _ hq)
end
local macro_rules | `(tactic| ktr_rel) => `(tactic| with_reducible (repeat' (first | assumption | exact Bd.modP _ | apply Bd.mul | apply Bd.add | apply Bd.sub | apply Bd.neg | exact Bd.lit 256 (by k_dflt rfl))))
local macro_rules | `(tactic| walk_at "binaryOp Mult int int") => `(tactic| (k_here; with_reducible ((refine mul_bd (by ktr_rel) (by ktr_rel) (by k_dflt rfl) ?_); intro _ _; (try dsimp only))))
local macro_rules | `(tactic| walk_at "binaryOp Pow int int") => `(tactic| (k_here; with_reducible ((first | refine pow2 (by ktr_rel) (by k_dflt rfl) ?_ | refine pow3 (by ktr_rel) (by k_dflt rfl) ?_ | refine pow4 (by ktr_rel) (by k_dflt rfl) ?_); intro _ _; (try dsimp only))))
local macro_rules | `(tactic| walk_at "binaryOp Mod int int") => `(tactic| (k_here; with_reducible ((refine mod_bd (by first | assumption | k_dflt decide | omega) ?_); intro _ _; (try dsimp only))))
local macro_rules | `(tactic| walk_at "binaryOp FloorDiv int int") => `(tactic| (k_here; with_reducible ((refine div_bd (by first | assumption | k_dflt decide | omega) (by ktr_rel) (by k_dflt rfl) ?_); intro _ _; (try dsimp only))))
local macro_rules | `(tactic| walk_at "binaryOp Sub int int") => `(tactic| (k_here; with_reducible ((refine sub_bd ?_); intro _ _; (try dsimp only))))
local macro_rules | `(tactic| walk_at "binaryOp Add int int") => `(tactic| (k_here; with_reducible ((refine add_bd ?_); intro _ _; (try dsimp only))))
local macro_rules | `(tactic| walk_at "eval Constant int") => `(tactic| (k_here; with_reducible ((refine const_bd ?_); intro _ _; (try dsimp only))))
local macro_rules | `(tactic| tb_start) => `(tactic| (first
  | (refine end3 (by with_reducible assumption) (by k_asm) (by first | k_asm | exact News.one (by k_asm) (by k_mem) (by tb_rel)) ?_ (by ktr_rel) (by ktr_rel) (by ktr_rel))
  | (refine end2 (by with_reducible assumption) (by k_asm) (by first | k_asm | exact News.one (by k_asm) (by k_mem) (by tb_rel)) ?_ (by ktr_rel) (by ktr_rel))
  | (refine' endI ?h ?f ?n ?e; (case h => with_reducible assumption); (case f => k_asm); (case n => tb_rel))
  | (refine' endB ?h ?f ?n ?e; (case h => with_reducible assumption); (case f => k_asm); (case n => tb_rel))
  | (refine' endY ?h ?f ?n ?e ?en; (case h => with_reducible assumption); (case f => k_asm); (case n => tb_rel); (case en => first | assumption | omega))))
local macro_rules | `(tactic| tb_rel) => `(tactic| (first | k_asm | exact News.drop1 (by k_asm) | exact News.drop1 (News.drop1 (by k_asm)) | exact News.drop1 (News.drop1 (News.drop1 (by k_asm))) | exact News.drop1 (News.drop1 (News.drop1 (News.drop1 (by k_asm)))) | exact News.drop1 (News.drop1 (News.drop1 (News.drop1 (News.drop1 (by k_asm))))) | exact News.drop1 (News.drop1 (News.drop1 (News.drop1 (News.drop1 (News.drop1 (by k_asm)))))) | exact News.drop1 (News.drop1 (News.drop1 (News.drop1 (News.drop1 (News.drop1 (News.drop1 (by k_asm))))))) | exact News.drop1 (News.drop1 (News.drop1 (News.drop1 (News.drop1 (News.drop1 (News.drop1 (News.drop1 (by k_asm))))))))))
local macro_rules | `(tactic| k_mem) => `(tactic| assumption)
def jdbl (p : I3) : I3 :=
  if p.2.1 = 0 then (0, 0, 0) else
  let ysq := p.2.1 * p.2.1 % 115792089237316195423570985008687907853269984665640564039457584007908834671663
  let S := 4 * p.1 * ysq % 115792089237316195423570985008687907853269984665640564039457584007908834671663
  let M := (3 * (p.1 * p.1) + 0 * (p.2.2 * p.2.2 * p.2.2 * p.2.2)) % 115792089237316195423570985008687907853269984665640564039457584007908834671663
  let nx := (M * M - 2 * S) % 115792089237316195423570985008687907853269984665640564039457584007908834671663
  let ny := (M * (S - nx) - 8 * (ysq * ysq)) % 115792089237316195423570985008687907853269984665640564039457584007908834671663
  let nz := 2 * p.2.1 * p.2.2 % 115792089237316195423570985008687907853269984665640564039457584007908834671663
  (nx, ny, nz)
set_option maxHeartbeats 8000000 in
theorem con_toj (w : World) (mean : ExcName → Option Value) (mg mb : Str → Option Value) (news : Led) (p : Addr) (x y : Int) (tx ty : Tok)
   (hp : (p, tup [.int x tx, .int y ty]) ∈ news) (bx : Bd 256 x) (bY : Bd 256 y) : Con w mean mg mb 53 1 8 news [.ref p] (R3 (x, y, 1)) := by
  unfold Con
  w_on
  k_fill
  intro dp un gd cn cs a' ccd cl outer A₀ base h₀ L m s Q E B F X N T hk hd hu hret
  w_strict (
  refine wpAny_call ?_
  k_dflt ktr_enter
  k_steps
  (tb_start; rfl))
set_option maxHeartbeats 8000000 in
theorem con_dbl (w : World) (mean : ExcName → Option Value) (mg mb : Str → Option Value) (news : Led) (p : Addr) (x y z : Int) (tx ty tz : Tok)
   (hp : (p, tup [.int x tx, .int y ty, .int z tz]) ∈ news) (bx : Bd 256 x) (bY : Bd 256 y) (bz : Bd 256 z) :
   Con w mean mg mb 60 1 8 news [.ref p] (R3 (jdbl (x, y, z))) := by
  unfold Con
  w_on
  k_fill
  intro dp un gd cn cs a' ccd cl outer A₀ base h₀ L m s Q E B F X N T hk hd hu hret
  w_strict (
  refine wpAny_call ?_
  k_dflt ktr_enter
  k_steps
  all_goals tb_start
  all_goals (dsimp only [jdbl]; first | rw [if_neg (by assumption)] | rw [if_pos (by omega)]))
local macro_rules | `(tactic| walk_at "call ref") => `(tactic| (k_here; (with_reducible show wpAny _ _ (call (Value.ref 60) _) _ _ _); k_dflt (refine con_use (by k_asm) (by k_asm) (by k_asm) (by k_asm) (by k_asm) (by first | exact rfl | assumption) (con_dbl _ _ _ _ _ _ _ _ _ _ _ _ (by k_mem) (by ktr_rel) (by ktr_rel) (by ktr_rel)) (by ktr_room) (by ktr_units) ?_); intro r9 tl9 h9 tk9 F9 N9 hR9; obtain ⟨a9, X9, Y9, Z9, tx9, ty9, tz9, e1, e2, e3, b19, b29, b39⟩ := hR9; subst e1; subst e2; (try simp only [List.cons_append, List.nil_append] at N9); (try dsimp only); (try k_fold)))
local macro_rules | `(tactic| walk_at "call ref") => `(tactic| (k_here; (with_reducible show wpAny _ _ (call (Value.ref 53) _) _ _ _); k_dflt (refine con_use (by k_asm) (by k_asm) (by k_asm) (by k_asm) (by k_asm) (by first | exact rfl | assumption) (con_toj _ _ _ _ _ _ _ _ _ _ (by k_mem) (by ktr_rel) (by ktr_rel)) (by ktr_room) (by ktr_units) ?_); intro r9 tl9 h9 tk9 F9 N9 hR9; obtain ⟨a9, X9, Y9, Z9, tx9, ty9, tz9, e1, e2, e3, b19, b29, b39⟩ := hR9; subst e1; subst e2; (try simp only [List.cons_append, List.nil_append] at N9); (try dsimp only); (try k_fold)))
def jadd (p q : I3) : I3 :=
  if p.2.1 = 0 then q else
  if q.2.1 = 0 then p else
  let U1 := p.1 * (q.2.2 * q.2.2) % 115792089237316195423570985008687907853269984665640564039457584007908834671663
  let U2 := q.1 * (p.2.2 * p.2.2) % 115792089237316195423570985008687907853269984665640564039457584007908834671663
  let S1 := p.2.1 * (q.2.2 * q.2.2 * q.2.2) % 115792089237316195423570985008687907853269984665640564039457584007908834671663
  let S2 := q.2.1 * (p.2.2 * p.2.2 * p.2.2) % 115792089237316195423570985008687907853269984665640564039457584007908834671663
  if U1 = U2 then (if S1 ≠ S2 then (0, 0, 1) else jdbl p) else
  let H := U2 - U1
  let R := S2 - S1
  let H2 := H * H % 115792089237316195423570985008687907853269984665640564039457584007908834671663
  let H3 := H * H2 % 115792089237316195423570985008687907853269984665640564039457584007908834671663
  let U1H2 := U1 * H2 % 115792089237316195423570985008687907853269984665640564039457584007908834671663
  let nx := (R * R - H3 - 2 * U1H2) % 115792089237316195423570985008687907853269984665640564039457584007908834671663
  let ny := (R * (U1H2 - nx) - S1 * H3) % 115792089237316195423570985008687907853269984665640564039457584007908834671663
  let nz := H * p.2.2 * q.2.2 % 115792089237316195423570985008687907853269984665640564039457584007908834671663
  (nx, ny, nz)
set_option maxHeartbeats 8000000 in
theorem con_add (w : World) (mean : ExcName → Option Value) (mg mb : Str → Option Value) (news : Led) (p q : Addr) (x y z x' y' z' : Int) (tx ty tz tx' ty' tz' : Tok)
   (hp : (p, tup [.int x tx, .int y ty, .int z tz]) ∈ news) (bx : Bd 256 x) (bY : Bd 256 y) (bz : Bd 256 z)
   (hq : (q, tup [.int x' tx', .int y' ty', .int z' tz']) ∈ news) (bx' : Bd 256 x') (bY' : Bd 256 y') (bz' : Bd 256 z') :
   Con w mean mg mb 67 2 16 news [.ref p, .ref q] (R3 (jadd (x, y, z) (x', y', z'))) := by
  unfold Con
  w_on
  k_fill
  intro dp un gd cn cs a' ccd cl outer A₀ base h₀ L m s Q E B F X N T hk hd hu hret
  w_strict (
  refine wpAny_call ?_
  k_dflt ktr_enter
  k_steps
  all_goals tb_start
  all_goals (dsimp only [jadd])
  all_goals (first
    | rw [if_pos (show y = 0 by assumption)]
    | rw [if_neg (show ¬ y = 0 by assumption), if_pos (show y' = 0 by assumption)]
    | (rw [if_neg (show ¬ y = 0 by assumption), if_neg (show ¬ y' = 0 by assumption)]; split <;> first
        | rfl
        | contradiction
        | (split <;> first | rfl | contradiction | assumption))))
def invL : Nat → Int → Int → Int → Int → Int
  | 0, lm, _, _, _ => lm
  | k + 1, lm, low, hm, high => if 1 < low then invL k (hm - lm * (high / low)) (high - low * (high / low)) lm low else lm
theorem new_is (low high : Int) : high - low * (high / low) = high % low := by
  have := Int.emod_def high low
  omega
theorem invL_fuel : ∀ (k k' : Nat) (lm low hm high : Int), low.toNat ≤ k → low.toNat ≤ k' → invL k lm low hm high = invL k' lm low hm high := by
  intro k
  induction k with
  | zero =>
    intro k' lm low hm high h h'
    cases k' with
    | zero => rfl
    | succ k' =>
      show lm = (if 1 < low then _ else lm)
      rw [if_neg (by omega)]
  | succ k ih =>
    intro k' lm low hm high h h'
    cases k' with
    | zero =>
      show (if 1 < low then _ else lm) = lm
      rw [if_neg (by omega)]
    | succ k' =>
      show (if 1 < low then _ else lm) = (if 1 < low then _ else lm)
      by_cases hl : 1 < low
      · rw [if_pos hl, if_pos hl]
        have h2 : (high - low * (high / low)) < low := by rw [new_is]; exact Int.emod_lt_of_pos _ (by omega)
        exact ih _ _ _ _ _ (by omega) (by omega)
      · rw [if_neg hl, if_neg hl]
/-- the inverse that the loop reckons -/
def invG (lm low hm high : Int) : Int := invL low.toNat lm low hm high
theorem invG_turn {lm low hm high : Int} (h : 1 < low) : invG lm low hm high = invG (hm - lm * (high / low)) (high - low * (high / low)) lm low := by
  unfold invG
  have h2 : (high - low * (high / low)) < low := by rw [new_is]; exact Int.emod_lt_of_pos _ (by omega)
  have e : invL low.toNat lm low hm high = invL (low.toNat - 1 + 1) lm low hm high := by rw [show low.toNat - 1 + 1 = low.toNat by omega]
  rw [e]
  show (if 1 < low then _ else lm) = _
  rw [if_pos h]
  exact invL_fuel _ _ _ _ _ _ (by omega) (Nat.le_refl _)
theorem invG_end {lm low hm high : Int} (h : ¬ 1 < low) : invG lm low hm high = lm := by
  unfold invG
  rw [invL_fuel low.toNat 1 lm low hm high (Nat.le_refl _) (by omega)]
  show (if 1 < low then _ else lm) = lm
  rw [if_neg h]
def invF (a n : Int) : Int := if a = 0 then 0 else invG 1 (a % n) 0 n % n
/-- what holds between the turns -/
def InvI (a n lm low hm high : Int) : Prop := invG lm low hm high = invG 1 (a % n) 0 n ∧ 0 ≤ low ∧ low < high ∧ high ≤ n ∧
  ∃ (σ : Int) (A B : Nat), (σ = 1 ∨ σ = -1) ∧ lm = σ * A ∧ hm = -(σ * B) ∧ (A : Int) * high + B * low = n
theorem invI_start {a n : Int} (hn : 1 < n) : InvI a n 1 (a % n) 0 n :=
  ⟨rfl, Int.emod_nonneg _ (by omega), Int.emod_lt_of_pos _ (by omega), Int.le_refl _, 1, 1, 0, .inl rfl, rfl, rfl, by simp⟩
theorem invI_turn {a n lm low hm high : Int} (h : InvI a n lm low hm high) (hl : 1 < low) : InvI a n (hm - lm * (high / low)) (high - low * (high / low)) lm low := by
  obtain ⟨e, h0, h1, h2, σ, A, B, hs, e1, e2, e3⟩ := h
  have hr : 0 ≤ high / low := Int.ediv_nonneg (by omega) (by omega)
  have hm1 : 0 ≤ high % low := Int.emod_nonneg _ (by omega)
  have hm2 : high % low < low := Int.emod_lt_of_pos _ (by omega)
  refine ⟨?_, by rw [new_is]; omega, by rw [new_is]; omega, by omega, -σ, B + A * (high / low).toNat, A, ?_, ?_, ?_, ?_⟩
  · rw [← invG_turn hl]; exact e
  · rcases hs with rfl | rfl
    · exact .inr rfl
    · exact .inl rfl
  · obtain ⟨r, hr'⟩ := Int.eq_ofNat_of_zero_le hr
    rw [hr', Int.toNat_natCast, e1, e2]
    push_cast
    rw [Int.neg_mul, Int.mul_add, Int.mul_assoc]
    omega
  · rw [Int.neg_mul, Int.neg_neg]; exact e1
  · obtain ⟨r, hr'⟩ := Int.eq_ofNat_of_zero_le hr
    rw [hr', Int.toNat_natCast]
    push_cast
    rw [← e3, Int.add_mul, Int.mul_sub]
    have : (A : Int) * r * low = A * (low * r) := by rw [Int.mul_assoc, Int.mul_comm (r : Int) low]
    rw [this]
    omega
theorem Bd.of_le {k : Nat} {a b : Int} (h : Bd k b) (hab : a.natAbs ≤ b.natAbs) : Bd k a := Nat.lt_of_le_of_lt hab h
theorem invI_bd {a n lm low hm high : Int} (h : InvI a n lm low hm high) (hb : Bd 256 n) : Bd 256 lm ∧ Bd 256 low ∧ Bd 256 high ∧ (1 < low → Bd 256 (high / low)) := by
  obtain ⟨e, h0, h1, h2, σ, A, B, hs, e1, e2, e3⟩ := h
  refine ⟨?_, Bd.of_le hb (by omega), Bd.of_le hb (by omega), fun hl => Bd.div (Bd.of_le hb (by omega)) (by omega) (by omega)⟩
  have hB : 0 ≤ (B : Int) * low := Int.mul_nonneg (by omega) h0
  have hA : (A : Int) * 1 ≤ A * high := Int.mul_le_mul_of_nonneg_left (by omega) (by omega)
  refine Bd.of_le hb ?_
  have : lm.natAbs = A := by
    rw [e1, Int.natAbs_mul]
    rcases hs with rfl | rfl <;> simp
  omega
theorem invI_1 {a n lm low hm high : Int} (h : InvI a n lm low hm high) (hb : Bd 256 n) : Bd 256 lm := (invI_bd h hb).1
theorem invI_2 {a n lm low hm high : Int} (h : InvI a n lm low hm high) (hb : Bd 256 n) : Bd 256 low := (invI_bd h hb).2.1
theorem invI_3 {a n lm low hm high : Int} (h : InvI a n lm low hm high) (hb : Bd 256 n) (hl : 1 < low) : Bd 256 (high / low) := (invI_bd h hb).2.2.2 hl
theorem new_lt {a n lm low hm high : Int} (_h : InvI a n lm low hm high) (hl : 1 < low) : (high - low * (high / low)).toNat < low.toNat := by
  have hm2 : high % low < low := Int.emod_lt_of_pos _ (by omega)
  rw [new_is]
  omega
theorem inv_0 {a n : Int} (h : a = 0) : 0 = invF a n := by unfold invF; rw [if_pos h]
theorem inv_1 {a n lm low hm high : Int} (ha : a ≠ 0) (h : InvI a n lm low hm high) (hl : ¬ 1 < low) : lm % n = invF a n := by
  unfold invF
  rw [if_neg ha, ← h.1, invG_end hl]
section InvS
local macro_rules | `(tactic| ktr_rel) => `(tactic| with_reducible (repeat' (first | assumption | exact invI_1 (by assumption) (by assumption) | exact invI_2 (by assumption) (by assumption) | exact invI_3 (by assumption) (by assumption) (by assumption) | exact Bd.modP _ | apply Bd.mul | apply Bd.add | apply Bd.sub | apply Bd.neg | exact Bd.lit 256 (by k_dflt rfl))))
set_option maxHeartbeats 8000000 in
theorem con_inv (w : World) (mean : ExcName → Option Value) (mg mb : Str → Option Value) (news : Led) (a n : Int) (ta tn : Tok)
   (hn : 1 < n) (bn : Bd 256 n) : Con w mean mg mb 46 1 8 news [.int a ta, .int n tn] (RI (invF a n)) := by
  unfold Con
  w_on
  k_fill
  k_with "exec While Compare cons nil" => k_while (fun (_ : List Int) lm low hm high => InvI a n lm low hm high) (fun (_ : List Int) lm low hm high => low.toNat) "lm" "low" "hm" "high"
  k_with "state" => first | exact invI_start hn | exact invI_turn (by assumption) (by assumption)
  k_with "measure" => exact new_lt (by assumption) (by assumption)
  intro dp un gd cn cs a' ccd cl outer A₀ base h₀ L m s Q E B F X N T hk hd hu hret
  w_strict (
  refine wpAny_call ?_
  k_dflt ktr_enter
  k_steps
  all_goals tb_start
  all_goals first | exact inv_0 (by assumption) | exact inv_1 (by assumption) (by assumption) (by assumption) | trace_state)
end InvS
theorem invF_bd (a : Int) : Bd 256 (invF a 115792089237316195423570985008687907853269984665640564039457584007908834671663) := by
  unfold invF
  split
  · exact Bd.lit 256 rfl
  · exact Bd.modP _
local macro_rules | `(tactic| ktr_rel) => `(tactic| with_reducible (repeat' (first | assumption | exact Bd.modP _ | exact invF_bd _ | apply Bd.mul | apply Bd.add | apply Bd.sub | apply Bd.neg | exact Bd.lit 256 (by k_dflt rfl))))
local macro_rules | `(tactic| walk_at "call ref") => `(tactic| (k_here; (with_reducible show wpAny _ _ (call (Value.ref 46) _) _ _ _); k_dflt (refine con_use (by k_asm) (by k_asm) (by k_asm) (by k_asm) (by k_asm) (by first | exact rfl | assumption) (con_inv _ _ _ _ _ _ _ _ _ (by decide) (by ktr_rel)) (by ktr_room) (by ktr_units) ?_); intro r9 tl9 h9 tk9 F9 N9 hR9; obtain ⟨e1, t9, e2⟩ := hR9; subst e1; subst e2; (try simp only [List.cons_append, List.nil_append] at N9); (try dsimp only); (try k_fold)))
local macro_rules | `(tactic| walk_at "call ref") => `(tactic| (k_here; (with_reducible show wpAny _ _ (call (Value.ref 67) _) _ _ _); k_dflt (refine con_use (by k_asm) (by k_asm) (by k_asm) (by k_asm) (by k_asm) (by first | exact rfl | assumption) (con_add _ _ _ _ _ _ _ _ _ _ _ _ _ _ _ _ _ _ _ (by k_mem) (by ktr_rel) (by ktr_rel) (by ktr_rel) (by k_mem) (by ktr_rel) (by ktr_rel) (by ktr_rel)) (by ktr_room) (by ktr_units) ?_); intro r9 tl9 h9 tk9 F9 N9 hR9; obtain ⟨a9, X9, Y9, Z9, tx9, ty9, tz9, e1, e2, e3, b19, b29, b39⟩ := hR9; subst e1; subst e2; (try simp only [List.cons_append, List.nil_append] at N9); (try dsimp only); (try k_fold)))
def fromJ (p : I3) : I2 :=
  let z := invF p.2.2 115792089237316195423570985008687907853269984665640564039457584007908834671663
  (p.1 * (z * z) % 115792089237316195423570985008687907853269984665640564039457584007908834671663, p.2.1 * (z * z * z) % 115792089237316195423570985008687907853269984665640564039457584007908834671663)
set_option maxHeartbeats 8000000 in
theorem con_frj (w : World) (mean : ExcName → Option Value) (mg mb : Str → Option Value) (news : Led) (p : Addr) (x y z : Int) (tx ty tz : Tok)
   (hp : (p, tup [.int x tx, .int y ty, .int z tz]) ∈ news) (bx : Bd 256 x) (bY : Bd 256 y) (bz : Bd 256 z) :
   Con w mean mg mb 74 2 16 news [.ref p] (R2 (fromJ (x, y, z))) := by
  unfold Con
  w_on
  k_fill
  k_with_none
  intro dp un gd cn cs a' ccd cl outer A₀ base h₀ L m s Q E B F X N T hk hd hu hret
  w_strict (
  refine wpAny_call ?_
  k_dflt ktr_enter
  k_steps
  all_goals tb_start
  all_goals rfl)
def jmul : Nat → I3 → Int → I3
  | 0, _, _ => (0, 0, 1)
  | k + 1, a, n => if a.2.1 = 0 then (0, 0, 1) else if n = 0 then (0, 0, 1) else if n = 1 then a else if n % 2 = 0 then jdbl (jmul k a (n / 2)) else jadd (jdbl (jmul k a (n / 2))) a
def MulIH (w : World) (mean : ExcName → Option Value) (mg mb : Str → Option Value) (k : Nat) : Prop :=
  ∀ (news : Led) (p : Addr) (x y z n : Int) (tx ty tz tn : Tok), (p, tup [.int x tx, .int y ty, .int z tz]) ∈ news → Bd 256 x → Bd 256 y → Bd 256 z → 0 ≤ n → n < 1000 → n.toNat < 2 ^ k →
   Con w mean mg mb 81 (k + 3) (8 * (k + 3)) news [.ref p, .int n tn] (R3 (jmul k (x, y, z) n))
theorem mulIH_use {w : World} {mean : ExcName → Option Value} {mg mb : Str → Option Value} {k : Nat} (h : MulIH w mean mg mb k) {news : Led} {p : Addr} {x y z n : Int} {tx ty tz tn : Tok} (hp : (p, tup [.int x tx, .int y ty, .int z tz]) ∈ news) (b1 : Bd 256 x) (b2 : Bd 256 y) (b3 : Bd 256 z)
   (h0 : 0 ≤ n) (h1 : n < 1000) (h2 : n.toNat < 2 ^ k) : Con w mean mg mb 81 (k + 3) (8 * (k + 3)) news [.ref p, .int n tn] (R3 (jmul k (x, y, z) n)) := h _ _ _ _ _ _ _ _ _ _ hp b1 b2 b3 h0 h1 h2
theorem half_lt {k : Nat} {n : Int} (h0 : 0 ≤ n) (h : n.toNat < 2 ^ (k + 1)) : (n / 2).toNat < 2 ^ k := by
  rw [Nat.pow_succ] at h
  omega
theorem jmul_0 {k : Nat} {x y z n : Int} (h : y = 0) : (0, 0, 1) = jmul (k + 1) (x, y, z) n := by
  rw [jmul]
  exact (if_pos h).symm
theorem jmul_n0 {k : Nat} {x y z n : Int} (h : n = 0) : (0, 0, 1) = jmul (k + 1) (x, y, z) n := by
  rw [jmul]
  rw [if_pos h]
  split <;> rfl
theorem jmul_1 {k : Nat} {x y z n : Int} (hy : y ≠ 0) (h : n = 1) : (x, y, z) = jmul (k + 1) (x, y, z) n := by
  rw [jmul, if_neg hy, if_neg (by omega), if_pos h]
theorem jmul_e {k : Nat} {x y z n : Int} {a b : I3} (hy : y ≠ 0) (h0 : n ≠ 0) (h1 : n ≠ 1) (h2 : n % 2 = 0) (e1 : a = jmul k (x, y, z) (n / 2)) (e2 : b = jdbl a) : b = jmul (k + 1) (x, y, z) n := by
  rw [jmul, if_neg hy, if_neg h0, if_neg h1, if_pos h2, ← e1, ← e2]
theorem jmul_o {k : Nat} {x y z n : Int} {a b c : I3} (hy : y ≠ 0) (h0 : n ≠ 0) (h1 : n ≠ 1) (h2 : n % 2 ≠ 0) (e1 : a = jmul k (x, y, z) (n / 2)) (e2 : b = jdbl a) (e3 : c = jadd b (x, y, z)) : c = jmul (k + 1) (x, y, z) n := by
  rw [jmul, if_neg hy, if_neg h0, if_neg h1, if_neg h2, ← e1, ← e2, ← e3]
section MulS
local macro_rules | `(tactic| walk_at "call ref") => `(tactic| (k_here; (with_reducible show wpAny _ _ (call (Value.ref 81) _) _ _ _); k_dflt (refine con_use (by k_asm) (by k_asm) (by k_asm) (by k_asm) (by k_asm) (by first | exact rfl | assumption) (mulIH_use (by assumption) (by k_mem) (by ktr_rel) (by ktr_rel) (by ktr_rel) (by omega) (by omega) (by first | assumption | exact half_lt (by assumption) (by assumption))) (by ktr_room) (by ktr_units) ?_); intro r9 tl9 h9 tk9 F9 N9 hR9; obtain ⟨a9, X9, Y9, Z9, tx9, ty9, tz9, e1, e2, e3, b19, b29, b39⟩ := hR9; subst e1; subst e2; (try simp only [List.cons_append, List.nil_append] at N9); (try dsimp only); (try k_fold)))
set_option maxHeartbeats 8000000 in
theorem con_mul_step (w : World) (mean : ExcName → Option Value) (mg mb : Str → Option Value) (k : Nat) (IH : MulIH w mean mg mb k) : MulIH w mean mg mb (k + 1) := by
  intro news p x y z n tx ty tz tn hp bx bY bz h0 h1 h2
  unfold Con
  w_on
  k_fill
  k_with_none
  intro dp un gd cn cs a' ccd cl outer A₀ base h₀ L m s Q E B F X N T hk hd hu hret
  w_strict (
  refine wpAny_call ?_
  k_dflt ktr_enter
  k_steps
  all_goals first | (exfalso; omega) | tb_start
  all_goals first
    | exact jmul_0 (by assumption)
    | exact jmul_n0 (by assumption)
    | exact jmul_1 (by assumption) (by assumption)
    | exact jmul_e (by assumption) (by assumption) (by assumption) (by assumption) (by assumption) (by assumption)
    | exact jmul_o (by assumption) (by assumption) (by assumption) (by assumption) (by assumption) (by assumption) (by assumption))
set_option maxHeartbeats 8000000 in
theorem con_mul_zero (w : World) (mean : ExcName → Option Value) (mg mb : Str → Option Value) : MulIH w mean mg mb 0 := by
  intro news p x y z n tx ty tz tn hp bx bY bz h0 h1 h2
  have hn : n = 0 := by have e : (2 : Nat) ^ 0 = 1 := rfl
                        rw [e] at h2
                        omega
  subst hn
  unfold Con
  w_on
  k_fill
  k_with_none
  intro dp un gd cn cs a' ccd cl outer A₀ base h₀ L m s Q E B F X N T hk hd hu hret
  w_strict (
  refine wpAny_call ?_
  k_dflt ktr_enter
  k_steps
  all_goals tb_start
  all_goals rfl)
end MulS
theorem con_mul (w : World) (mean : ExcName → Option Value) (mg mb : Str → Option Value) : ∀ k, MulIH w mean mg mb k
  | 0 => con_mul_zero w mean mg mb
  | k + 1 => con_mul_step w mean mg mb k (con_mul w mean mg mb k)
local macro_rules | `(tactic| walk_at "call ref") => `(tactic| (k_here; (with_reducible show wpAny _ _ (call (Value.ref 74) _) _ _ _); k_dflt (refine con_use (by k_asm) (by k_asm) (by k_asm) (by k_asm) (by k_asm) (by first | exact rfl | assumption) (con_frj _ _ _ _ _ _ _ _ _ _ _ _ (by k_mem) (by ktr_rel) (by ktr_rel) (by ktr_rel)) (by ktr_room) (by ktr_units) ?_); intro r9 tl9 h9 tk9 F9 N9 hR9; obtain ⟨a9, X9, Y9, tx9, ty9, e1, e2, e3, b19, b29⟩ := hR9; subst e1; subst e2; (try simp only [List.cons_append, List.nil_append] at N9); (try dsimp only); (try k_fold)))
local macro_rules | `(tactic| walk_at "call ref") => `(tactic| (k_here; (with_reducible show wpAny _ _ (call (Value.ref 81) _) _ _ _); k_dflt (refine con_use (by k_asm) (by k_asm) (by k_asm) (by k_asm) (by k_asm) (by first | exact rfl | assumption) (mulIH_use (con_mul _ _ _ _ 9) (by k_mem) (by ktr_rel) (by ktr_rel) (by ktr_rel) (by omega) (by omega) (by omega)) (by ktr_room) (by ktr_units) ?_); intro r9 tl9 h9 tk9 F9 N9 hR9; obtain ⟨a9, X9, Y9, Z9, tx9, ty9, tz9, e1, e2, e3, b19, b29, b39⟩ := hR9; subst e1; subst e2; (try simp only [List.cons_append, List.nil_append] at N9); (try dsimp only); (try k_fold)))
abbrev GX : Int := 55066263022277343669578718895168534326250603453777594175500187360389116729240
abbrev GY : Int := 32670510020758816978083085130507043184471273380659243275938904335757337482424
set_option maxHeartbeats 8000000 in
theorem con_tojG (w : World) (mean : ExcName → Option Value) (mg mb : Str → Option Value) (news : Led) : Con w mean mg mb 53 1 8 news [.ref 29] (R3 (GX, GY, 1)) := by
  unfold Con
  w_on
  k_fill
  k_with_none
  intro dp un gd cn cs a' ccd cl outer A₀ base h₀ L m s Q E B F X N T hk hd hu hret
  w_strict (
  refine wpAny_call ?_
  k_dflt ktr_enter
  k_steps
  all_goals tb_start
  all_goals rfl)
section FastS
local macro_rules | `(tactic| walk_at "call ref") => `(tactic| (k_here; (with_reducible show wpAny _ _ (call (Value.ref 53) [Value.ref 29]) _ _ _); k_dflt (refine con_use (by k_asm) (by k_asm) (by k_asm) (by k_asm) (by k_asm) (by first | exact rfl | assumption) (con_tojG _ _ _ _ _) (by ktr_room) (by ktr_units) ?_); intro r9 tl9 h9 tk9 F9 N9 hR9; obtain ⟨a9, X9, Y9, Z9, tx9, ty9, tz9, e1, e2, e3, b19, b29, b39⟩ := hR9; subst e1; subst e2; (try simp only [List.cons_append, List.nil_append] at N9); (try dsimp only); (try k_fold)))
theorem fmul_end {n : Int} {a b : I3} {c : I2} (e1 : a = (GX, GY, 1)) (e2 : b = jmul 9 a n) (e3 : c = fromJ b) : c = fromJ (jmul 9 (GX, GY, 1) n) := by rw [e3, e2, e1]
theorem fadd_end {p q a b c : I3} {d : I2} (e1 : a = p) (e2 : b = q) (e3 : c = jadd a b) (e4 : d = fromJ c) : d = fromJ (jadd p q) := by rw [e4, e3, e1, e2]
set_option maxHeartbeats 8000000 in
theorem con_fmul (w : World) (mean : ExcName → Option Value) (mg mb : Str → Option Value) (news : Led) (n : Int) (tn : Tok) (h0 : 0 ≤ n) (h1 : n < 500) :
    Con w mean mg mb 88 14 120 news [.ref 29, .int n tn] (R2 (fromJ (jmul 9 (GX, GY, 1) n))) := by
  unfold Con
  w_on
  k_fill
  k_with_none
  intro dp un gd cn cs a' ccd cl outer A₀ base h₀ L m s Q E B F X N T hk hd hu hret
  w_strict (
  refine wpAny_call ?_
  k_dflt ktr_enter
  k_steps
  all_goals tb_start
  all_goals exact fmul_end (by assumption) (by assumption) (by assumption))
set_option maxHeartbeats 8000000 in
theorem con_fadd (w : World) (mean : ExcName → Option Value) (mg mb : Str → Option Value) (news : Led) (p q : Addr) (x y x' y' : Int) (tx ty tx' ty' : Tok)
   (hp : (p, tup [.int x tx, .int y ty]) ∈ news) (bx : Bd 256 x) (bY : Bd 256 y) (hq : (q, tup [.int x' tx', .int y' ty']) ∈ news) (bx' : Bd 256 x') (bY' : Bd 256 y') :
    Con w mean mg mb 95 5 40 news [.ref p, .ref q] (R2 (fromJ (jadd (x, y, 1) (x', y', 1)))) := by
  unfold Con
  w_on
  k_fill
  k_with_none
  intro dp un gd cn cs a' ccd cl outer A₀ base h₀ L m s Q E B F X N T hk hd hu hret
  w_strict (
  refine wpAny_call ?_
  k_dflt ktr_enter
  k_steps
  all_goals tb_start
  all_goals exact fadd_end (by assumption) (by assumption) (by assumption) (by assumption))
set_option maxHeartbeats 8000000 in
theorem con_faddG (w : World) (mean : ExcName → Option Value) (mg mb : Str → Option Value) (news : Led) (p : Addr) (x y : Int) (tx ty : Tok)
   (hp : (p, tup [.int x tx, .int y ty]) ∈ news) (bx : Bd 256 x) (bY : Bd 256 y) :
    Con w mean mg mb 95 5 40 news [.ref p, .ref 29] (R2 (fromJ (jadd (x, y, 1) (GX, GY, 1)))) := by
  unfold Con
  w_on
  k_fill
  k_with_none
  intro dp un gd cn cs a' ccd cl outer A₀ base h₀ L m s Q E B F X N T hk hd hu hret
  w_strict (
  refine wpAny_call ?_
  k_dflt ktr_enter
  k_steps
  all_goals tb_start
  all_goals exact fadd_end (by assumption) (by assumption) (by assumption) (by assumption))
end FastS
def isId (p : I3) : Bool := (p == ((0, 0, 0) : I3)) || (p == ((0, 0, 1) : I3))
section
variable {h : Heap} {a : Addr} {x y z : Int} {tx ty tz : Tok}
theorem reads2 (e : h.get? a = some (tup [.int x tx, .int y ty])) : Reads h (.ref a) (.tuple [.int x, .int y]) [] :=
  Reads.tuple e rfl rfl (ReadsAll.cons (as := []) (bs := []) (.int _ _) (ReadsAll.cons (as := []) (bs := []) (.int _ _) .nil))
theorem reads3 (e : h.get? a = some (tup [.int x tx, .int y ty, .int z tz])) : Reads h (.ref a) (.tuple [.int x, .int y, .int z]) [] :=
  Reads.tuple e rfl rfl (ReadsAll.cons (as := []) (bs := []) (.int _ _) (ReadsAll.cons (as := []) (bs := []) (.int _ _) (ReadsAll.cons (as := []) (bs := []) (.int _ _) .nil)))
end
theorem room_id {A : Around} {x y z : Int} (hu : A.units + 10 < cLine) : A.units + 1 + min (PyData.depthAll [PyData.tuple [.int 0, .int 0, .int 0], .tuple [.int 0, .int 0, .int 1]]) (PyData.depth (.tuple [.int x, .int y, .int z])) < cLine := by
  have h1 := Nat.min_le_left (PyData.depthAll [PyData.tuple [.int 0, .int 0, .int 0], .tuple [.int 0, .int 0, .int 1]]) (PyData.depth (.tuple [.int x, .int y, .int z]))
  have h2 : PyData.depthAll [PyData.tuple [.int 0, .int 0, .int 0], .tuple [.int 0, .int 0, .int 1]] ≤ 3 := by decide
  omega
theorem room_2 {A : Around} {x y x' y' : Int} (hu : A.units + 10 < cLine) : A.units + min (PyData.depth (.tuple [.int x, .int y])) (PyData.depth (.tuple [.int x', .int y'])) < cLine := by
  have h1 := Nat.min_le_left (PyData.depth (.tuple [.int x, .int y])) (PyData.depth (.tuple [.int x', .int y']))
  have h2 : PyData.depth (.tuple [.int x, .int y]) ≤ 3 := by
    simp only [PyData.depth, PyData.depthAll]
    decide
  omega
theorem K29 (P : Params) : ∃ t1 t2, (Mine.hd.heap_39 P).lookup 29 = some (tup [.int GX t1, .int GY t2]) := ⟨_, _, rfl⟩
theorem K30 (P : Params) : ∃ t1 t2 t3, (Mine.hd.heap_39 P).lookup 30 = some (tup [.int 0 t1, .int 0 t2, .int 0 t3]) := ⟨_, _, _, rfl⟩
theorem K31 (P : Params) : ∃ t1 t2 t3, (Mine.hd.heap_39 P).lookup 31 = some (tup [.int 0 t1, .int 0 t2, .int 1 t3]) := ⟨_, _, _, rfl⟩
theorem K32 (P : Params) : (Mine.hd.heap_39 P).lookup 32 = some (tup [.ref 30, .ref 31]) := rfl
theorem reads29 {P : Params} {h : Heap} (X : (Mine.hd.heap_39 P).In h) : Reads h (.ref 29) (.tuple [.int GX, .int GY]) [] := by
  obtain ⟨t1, t2, e⟩ := K29 P
  exact reads2 (X _ _ e)
theorem reads32 {P : Params} {h : Heap} (X : (Mine.hd.heap_39 P).In h) : Reads h (.ref 32) (.tuple [.tuple [.int 0, .int 0, .int 0], .tuple [.int 0, .int 0, .int 1]]) [] := by
  obtain ⟨t1, t2, t3, e⟩ := K30 P
  obtain ⟨u1, u2, u3, e'⟩ := K31 P
  exact Reads.tuple (X _ _ (K32 P)) rfl rfl (ReadsAll.cons (as := []) (bs := []) (reads3 (X _ _ e)) (ReadsAll.cons (as := []) (bs := []) (reads3 (X _ _ e')) .nil))
theorem isId_eq (x y z : Int) : [PyData.tuple [.int 0, .int 0, .int 0], .tuple [.int 0, .int 0, .int 1]].any (fun d => PyData.eqv d (.tuple [.int x, .int y, .int z])) = isId (x, y, z) := by
  have e (p q : Int) : (p == q) = (q == p) := Bool.beq_comm
  unfold isId
  show ((((0 : Int) == x) && (((0 : Int) == y) && (((0 : Int) == z) && true))) || ((((0 : Int) == x) && (((0 : Int) == y) && (((1 : Int) == z) && true))) || false)) = (((x == 0) && ((y == 0) && (z == 0))) || ((x == 0) && ((y == 0) && (z == 1))))
  rw [e 0 x, e 0 y, e 0 z, e 1 z, Bool.and_true, Bool.and_true, Bool.or_false]
section
variable {prog : Program} {w : World} {A : Around} {E : Value → Shared → Prop} {s : Shared} {Q : Value → Shared → Prop} {h₀ : Heap} {L : Addr} {m : Str → Option Value} {news : Led} {p q : Addr} {x y z x' y' : Int} {tx ty tz tx' ty' : Tok}
theorem in_id (F : Fr h₀ L s.heap m) (X : (Mine.hd.heap_39 w.params).In h₀) (N : News h₀ L s.heap news) (hp : (p, tup [.int x tx, .int y ty, .int z tz]) ∈ news) (hu : A.units + 10 < cLine) (h : Q (.bool (isId (x, y, z))) s) :
    wpAny (model prog w) A (compareOp .In (.ref p) (.ref 32)) Q E s :=
  SeqAt.in_tuple_reads (reads32 (X.keeps F.keep)) (reads3 (News.get N hp)) rfl rfl (room_id hu) (by rw [isId_eq]; exact h)
theorem eqv2 (x y x' y' : Int) : PyData.eqv (.tuple [.int x, .int y]) (.tuple [.int x', .int y']) = decide ((x, y) = (x', y')) := by
  show ((x == x') && ((y == y') && true)) = _
  by_cases h1 : x = x'
  · by_cases h2 : y = y'
    · subst h1 h2; simp
    · simp [h1, h2]
  · simp [h1]
theorem ne2_of {a b : Value} (ra : Reads s.heap a (.tuple [.int x, .int y]) []) (rb : Reads s.heap b (.tuple [.int x', .int y']) []) (hu : A.units + 10 < cLine) (h : Q (.bool (!decide ((x, y) = (x', y')))) s) :
    wpAny (model prog w) A (compareOp .NotEq a b) Q E s :=
  SeqAt.compareNe_reads ra rb rfl rfl (room_2 hu) (by rw [eqv2]; exact h)
theorem ne2 (N : News h₀ L s.heap news) (hp : (p, tup [.int x tx, .int y ty]) ∈ news) (hq : (q, tup [.int x' tx', .int y' ty']) ∈ news) (hu : A.units + 10 < cLine) (h : Q (.bool (!decide ((x, y) = (x', y')))) s) :
    wpAny (model prog w) A (compareOp .NotEq (.ref p) (.ref q)) Q E s := ne2_of (reads2 (News.get N hp)) (reads2 (News.get N hq)) hu h
theorem ne2G (F : Fr h₀ L s.heap m) (X : (Mine.hd.heap_39 w.params).In h₀) (N : News h₀ L s.heap news) (hp : (p, tup [.int x tx, .int y ty]) ∈ news) (hu : A.units + 10 < cLine) (h : Q (.bool (!decide ((x, y) = (GX, GY)))) s) :
    wpAny (model prog w) A (compareOp .NotEq (.ref p) (.ref 29)) Q E s := ne2_of (reads2 (News.get N hp)) (reads29 (X.keeps F.keep)) hu h
end
section IdS
local macro_rules | `(tactic| walk_at "compareOp In") => `(tactic| (k_here; (with_reducible show wpAny _ _ (compareOp CmpOp.In (Value.ref _) (Value.ref 32)) _ _ _); k_dflt (refine in_id (by k_asm) (by k_asm) (by k_asm) (by k_mem) (by ktr_units) ?_)))
set_option maxHeartbeats 8000000 in
theorem con_id (w : World) (mean : ExcName → Option Value) (mg mb : Str → Option Value) (news : Led) (p : Addr) (x y z : Int) (tx ty tz : Tok)
   (hp : (p, tup [.int x tx, .int y ty, .int z tz]) ∈ news) : Con w mean mg mb 102 1 24 news [.ref p] (RBool (isId (x, y, z))) := by
  unfold Con
  w_on
  k_fill
  k_with_none
  intro dp un gd cn cs a' ccd cl outer A₀ base h₀ L m s Q E B F X N T hk hd hu hret
  w_strict (
  refine wpAny_call ?_
  k_dflt ktr_enter
  k_steps
  all_goals tb_start
  all_goals rfl)
end IdS
def lowS (v : Int) : Int := if -v % 115792089237316195423570985008687907852837564279074904382605163141518161494337 < v then -v % 115792089237316195423570985008687907852837564279074904382605163141518161494337 else v
set_option maxHeartbeats 8000000 in
theorem con_low (w : World) (mean : ExcName → Option Value) (mg mb : Str → Option Value) (news : Led) (v : Int) (tv : Tok) : Con w mean mg mb 144 1 8 news [.int v tv] (RI (lowS v)) := by
  unfold Con
  w_on
  k_fill
  k_with_none
  intro dp un gd cn cs a' ccd cl outer A₀ base h₀ L m s Q E B F X N T hk hd hu hret
  w_strict (
  refine wpAny_call ?_
  k_dflt ktr_enter
  k_steps
  all_goals tb_start
  all_goals rfl)
open PySem.Builtin.Int (intBits)
/-- the octets of an int, the greatest first -/
def toBE (x : Int) (k : Nat) : Array UInt8 := (KTBy.low x k).reverse.toArray
def be32 (x : Int) : Array UInt8 := toBE x 32
def fromBE (b : Array UInt8) : Int := b.toList.foldl (fun (acc : Int) (c : UInt8) => acc * 256 + (c.toNat : Int)) 0
def padTo (b : Array UInt8) : Array UInt8 := Array.replicate (32 - b.size) 0 ++ b
def i2b (x : Int) : Array UInt8 := toBE x (if (intBits x + 7) / 8 = 0 then 1 else (intBits x + 7) / 8)
def enc (x y : Int) : Array UInt8 := be32 x ++ be32 y
abbrev U8 (x : Int) : Prop := 0 ≤ x ∧ x < 115792089237316195423570985008687907853269984665640564039457584007913129639936
theorem toBE_size (x : Int) (k : Nat) : (toBE x k).size = k := by
  unfold toBE
  rw [List.size_toArray, List.length_reverse, KTBy.low_length]
theorem be32_size (x : Int) : (be32 x).size = 32 := toBE_size x 32
theorem enc_size (x y : Int) : (enc x y).size = 64 := by
  unfold enc
  rw [Array.size_append, be32_size, be32_size]
theorem pow32 : (256 : Int) ^ 32 = 115792089237316195423570985008687907853269984665640564039457584007913129639936 := by decide
theorem low_little {x : Int} {n : Nat} (h0 : 0 ≤ x) (h1 : x < 256 ^ n) : (KTBy.low x n).map (fun c => ((c.toNat : Nat) : Int)) = KTBy.little n x := by
  rw [KTBy.low_ints h0 h1, ← KTBy.little_eq]
theorem little_fold : ∀ (n : Nat) (x : Int), 0 ≤ x → x < 256 ^ n → (KTBy.little n x).foldr (fun c acc => acc * 256 + c) 0 = x
  | 0, x, h0, h1 => by
    have : x = 0 := by simp at h1; omega
    subst this
    rfl
  | n + 1, x, h0, h1 => by
    show (KTBy.little n (x / 256)).foldr _ 0 * 256 + x % 256 = x
    rw [little_fold n (x / 256) (Int.ediv_nonneg h0 (by decide)) (by rw [Int.pow_succ] at h1; exact Int.ediv_lt_of_lt_mul (by decide) h1)]
    omega
theorem fold_ints : ∀ (l : List UInt8), l.foldr (fun (c : UInt8) (acc : Int) => acc * 256 + (c.toNat : Int)) 0 = (l.map fun c => ((c.toNat : Nat) : Int)).foldr (fun c acc => acc * 256 + c) 0
  | [] => rfl
  | c :: r => by rw [List.foldr_cons, fold_ints r]; rfl
theorem fromBE_toBE {x : Int} {n : Nat} (h0 : 0 ≤ x) (h1 : x < 256 ^ n) : fromBE (toBE x n) = x := by
  unfold fromBE toBE
  show ((KTBy.low x n).reverse).foldl _ 0 = x
  rw [List.foldl_reverse, fold_ints, low_little h0 h1, little_fold n x h0 h1]
theorem fromBE_be32 {x : Int} (h : U8 x) : fromBE (be32 x) = x := fromBE_toBE h.1 (by rw [pow32]; exact h.2)
theorem bits_lt {x : Int} (h0 : 0 ≤ x) {k : Nat} (h : intBits x ≤ 8 * k) : x < 256 ^ k := by
  have hn := intBits_le_iff.mp h
  have e2 : (2 : Nat) ^ 8 = 256 := by decide
  rw [Nat.pow_mul, e2] at hn
  rw [KTBy.p256]
  omega
theorem ints_inj : ∀ {l l' : List UInt8}, l.map (fun c => ((c.toNat : Nat) : Int)) = l'.map (fun c => ((c.toNat : Nat) : Int)) → l = l'
  | [], [], _ => rfl
  | [], _ :: _, h => by cases h
  | _ :: _, [], h => by cases h
  | a :: r, b :: r', h => by
    rw [List.map_cons, List.map_cons] at h
    injection h with h1 h2
    have e : a = b := by
      have : a.toNat = b.toNat := by omega
      exact UInt8.toNat_inj.mp this
    rw [e, ints_inj h2]
theorem low_more {x : Int} {k n : Nat} (h0 : 0 ≤ x) (h1 : x < 256 ^ k) (hkn : k ≤ n) : KTBy.low x n = KTBy.low x k ++ List.replicate (n - k) 0 := by
  refine ints_inj ?_
  have h2 : x < 256 ^ n := by
    refine Int.lt_of_lt_of_le h1 ?_
    rw [KTBy.p256, KTBy.p256]
    exact Int.ofNat_le.mpr (Nat.pow_le_pow_right (by decide) hkn)
  rw [List.map_append, KTBy.low_ints h0 h2, KTBy.low_ints h0 h1]
  obtain ⟨d, rfl⟩ : ∃ d, n = k + d := ⟨n - k, by omega⟩
  rw [List.range_add, List.map_append, List.map_map, Nat.add_sub_cancel_left]
  congr 1
  rw [List.map_replicate]
  refine List.ext_getElem (by simp) fun i hi1 hi2 => ?_
  rw [List.getElem_map, List.getElem_range, List.getElem_replicate]
  show x / 256 ^ (k + i) % 256 = ((0 : UInt8).toNat : Int)
  have h3 : x < 256 ^ (k + i) := by
    refine Int.lt_of_lt_of_le h1 ?_
    rw [KTBy.p256, KTBy.p256]
    exact Int.ofNat_le.mpr (Nat.pow_le_pow_right (by decide) (Nat.le_add_right _ _))
  rw [Int.ediv_eq_zero_of_lt h0 h3]
  rfl
theorem pad_i2b {x : Int} (h : U8 x) : padTo (i2b x) = be32 x := by
  obtain ⟨h0, h1⟩ := h
  have hb : intBits x ≤ 256 := Bd.bits (k := 256) (by unfold Bd; have e : (2 : Nat) ^ 256 = 115792089237316195423570985008687907853269984665640564039457584007913129639936 := by decide
                                                      rw [e]; omega)
  unfold padTo i2b be32
  rw [toBE_size]
  have hk : ∃ k, (if (intBits x + 7) / 8 = 0 then 1 else (intBits x + 7) / 8) = k ∧ k ≤ 32 ∧ intBits x ≤ 8 * k := by
    refine ⟨_, rfl, ?_, ?_⟩ <;> split <;> omega
  obtain ⟨k, e, hk1, hk2⟩ := hk
  rw [e]
  unfold toBE
  rw [low_more h0 (bits_lt h0 hk2) hk1, List.reverse_append, List.reverse_replicate]
  apply Array.ext'
  simp
theorem slot_rj : Slot "bytes" "rjust" "bytes.rjust" :=
  .of (owner := "bytes") (n := "rjust") (by rw [typeLookup_type, builtinLookup_eq_fast]; kernel_rfl) (by decide +kernel) (by decide +kernel) (by decide +kernel)
    (by first | exact .inl (by decide +kernel) | exact .inr (by decide +kernel)) (by rw [isSubtype_type]; kernel_rfl)
theorem type_rj : typeOf (.builtin "bytes.rjust") = pure (.type "method_descriptor") := by show builtinType _ = _; rw [builtinType_eq_fast]; kernel_rfl
theorem entry_rj : entryFor table "bytes.rjust" = some Builtin.«bytes.rjust» := entryFor_of_fast (by kernel_rfl)
theorem args_rj (a b c : Value) : argsOk "bytes.rjust" ⟨[a, b, c], []⟩ := by unfold argsOk; kernel_rfl
theorem slot_jn : Slot "bytes" "join" "bytes.join" :=
  .of (owner := "bytes") (n := "join") (by rw [typeLookup_type, builtinLookup_eq_fast]; kernel_rfl) (by decide +kernel) (by decide +kernel) (by decide +kernel)
    (by first | exact .inl (by decide +kernel) | exact .inr (by decide +kernel)) (by rw [isSubtype_type]; kernel_rfl)
theorem type_jn : typeOf (.builtin "bytes.join") = pure (.type "method_descriptor") := by show builtinType _ = _; rw [builtinType_eq_fast]; kernel_rfl
theorem entry_jn : entryFor table "bytes.join" = some Builtin.«bytes.join» := entryFor_of_fast (by kernel_rfl)
theorem args_jn (a b : Value) : argsOk "bytes.join" ⟨[a, b], []⟩ := by unfold argsOk; kernel_rfl
section
variable {M : Model} {A : Around} {E : Value → Shared → Prop} {h : Heap} {g : Array GenState} {d : Drawn} {tk : Nat} {os : OsState} {b c : Array UInt8} {t u v : Tok}
theorem not_long {n : Nat} (h : n ≤ 1000) : ¬ (Builtin.Bytes.tooLong n = true) := by
  unfold Builtin.Bytes.tooLong
  rw [sizeLine_eq]
  simp
  omega
theorem mk_bytes {x : Array UInt8} {Q : Value → Shared → Prop} (hx : x.size ≤ 1000) (hq : Q (.bytes x tk) ⟨h, g, d, tk + 1, os⟩) : wpAny M A (mkBytes x) Q E ⟨h, g, d, tk, os⟩ :=
  wpAny_mkBytes hq (by rw [sizeLine_eq]; omega)
theorem rjust_tree {Q : PySem.Fin → Shared → Prop} (hb : b.size ≤ 32) (hq : ∀ t' tk', Q (.done (.ret (.bytes (padTo b) t'))) ⟨h, g, d, tk', os⟩) :
   wpAny M A (Builtin.«bytes.rjust» ⟨[.bytes b t, .int 32 u, .bytes #[0] v], []⟩) Q E ⟨h, g, d, tk, os⟩ := by
  unfold Builtin.«bytes.rjust» Builtin.Bytes.padM
  wp_walk
  by_cases hs : (32 : Int) ≤ b.size
  · rw [if_pos hs]
    have e : padTo b = b := by
      unfold padTo
      have : 32 - b.size = 0 := by omega
      rw [this, Array.replicate_zero, Array.empty_append]
    wp_walk
    rw [← e]
    exact hq _ _
  · rw [if_neg hs]
    show wpAny M A (if Builtin.Bytes.tooLong 32 = true then _ else _) _ _ _
    rw [if_neg (not_long (by decide))]
    have e : padTo b = Array.replicate (32 - b.size) 0 ++ b ++ Array.replicate (32 - b.size - (32 - b.size)) 0 := by
      unfold padTo
      rw [Nat.sub_self, Array.replicate_zero, Array.append_empty]
    show wpAny M A (mkBytes (Array.replicate (32 - b.size) 0 ++ b ++ Array.replicate (32 - b.size - (32 - b.size)) 0) >>= _) _ _ _
    rw [← e]
    refine wpAny_bind (mk_bytes (by unfold padTo; rw [Array.size_append, Array.size_replicate]; omega) ?_)
    wp_walk
    exact hq _ _
theorem wp_two {β : Type} {f : Nat → β → Sem (ForInStep β)} {x y : Value} {b : β} {Q : β → Shared → Prop} {s : Shared}
    (hq : wpAny M A (forIn [0, 1] b f) Q E s) : wpAny M A (forIn [:#[x, y].size] b f) Q E s := by
  rw [Std.Legacy.Range.forIn_eq_forIn_range']
  have hsz : ([:#[x, y].size] : Std.Legacy.Range).size = 2 := by simp [Std.Legacy.Range.size]
  rw [hsz]
  exact hq
theorem wp_two' {β : Type} {f : Nat → β → Sem (ForInStep β)} {b : β} {Q : β → Shared → Prop} {s : Shared}
    (hq : wpAny M A (f 0 b) (fun r s' => match r with
      | .done b' => Q b' s'
      | .yield b' => wpAny M A (f 1 b') (fun r s' => match r with | .done b'' => Q b'' s' | .yield b'' => Q b'' s') E s') E s) : wpAny M A (forIn [0, 1] b f) Q E s := by
  rw [List.forIn_cons]
  refine wpAny_bind (wpAny_mono hq (fun r s' hr => ?_) fun _ _ e => e)
  cases r with
  | done b' => exact wpAny_pure hr
  | yield b' =>
    show wpAny M A (forIn [1] b' f) Q E s'
    rw [List.forIn_cons]
    refine wpAny_bind (wpAny_mono hr (fun r s' hr => ?_) fun _ _ e => e)
    cases r with
    | done b' => exact wpAny_pure hr
    | yield b' => exact wpAny_pure hr
theorem take_eq {id : String} : Builtin.Bytes.takeBufferQuiet? id (.bytes b t) 0 = pure (some (b, none)) := by kernel_rfl
theorem wp_take0 {id : String} {Q : Option (Array UInt8 × Option Value) → Shared → Prop} {s : Shared} (hq : Q (some (b, none)) s) : wpAny M A (Builtin.Bytes.takeBufferQuiet? id (#[Value.bytes b t, Value.bytes c u].getD 0 .none) 0) Q E s := wpAny_of_eq (take_eq (b := b) (t := t)) hq
theorem wp_take1 {id : String} {Q : Option (Array UInt8 × Option Value) → Shared → Prop} {s : Shared} (hq : Q (some (c, none)) s) : wpAny M A (Builtin.Bytes.takeBufferQuiet? id (#[Value.bytes b t, Value.bytes c u].getD 1 .none) 0) Q E s := wpAny_of_eq (take_eq (b := c) (t := u)) hq
theorem wp_long {α : Type} {n : Nat} {x y : Sem α} {Q : α → Shared → Prop} {s : Shared} (hq : wpAny M A y Q E s) (hn : n ≤ 1000) : wpAny M A (if Builtin.Bytes.tooLong n = true then x else y) Q E s := by
  rw [if_neg (not_long hn)]
  exact hq
theorem joined_two : Builtin.Bytes.joined #[] [b, c] = b ++ c := by
  show (#[] ++ b ++ #[]) ++ c = b ++ c
  rw [Array.append_empty, Array.empty_append]
set_option maxHeartbeats 8000000 in
theorem join_tree {Q : PySem.Fin → Shared → Prop} {p : Addr} (hp : h.get? p = some (tup [.bytes b t, .bytes c u])) (hb : b.size ≤ 32) (hc : c.size ≤ 32)
   (hq : ∀ t' tk', Q (.done (.ret (.bytes (b ++ c) t'))) ⟨h, g, d, tk', os⟩) : wpAny M A (Builtin.«bytes.join» ⟨[.bytes #[] v, .ref p], []⟩) Q E ⟨h, g, d, tk, os⟩ := by
  unfold Builtin.«bytes.join» Builtin.Bytes.joinM
  wp_walk using wp_two, wp_two', wp_take0, wp_take1, wp_long
  · show wpAny M A (mkBytes (Builtin.Bytes.joined #[] [b, c])) _ _ _
    rw [joined_two]
    refine mk_bytes (by rw [Array.size_append]; omega) ?_
    wp_walk
    exact hq _ _
  · show (0 * 1 + b.size) + c.size ≤ 1000
    omega
end
theorem pad_size {b : Array UInt8} (hb : b.size ≤ 32) : (padTo b).size = 32 := by
  unfold padTo
  rw [Array.size_append, Array.size_replicate]
  omega
theorem rjust_call {prog : Program} {w : World} {A : Around} {E : Value → Shared → Prop} {s : Shared} {b : Array UInt8} {t u v : Tok} {Q : Value → Shared → Prop} (hb : b.size ≤ 32) (hq : ∀ c t' tk', c = padTo b → c.size = 32 → Q (.bytes c t') { s with toks := tk' }) :
    wpAny (model prog w) A (call (.builtin "bytes.rjust") [.bytes b t, .int 32 u, .bytes #[0] v]) Q E s := by
  obtain ⟨h, g, d, tk, os⟩ := s
  exact wpAny_call_entry slot_rj (typeIs_bytes _ _ _) entry_rj (rjust_tree hb fun t' tk' => ⟨_, rfl, hq _ t' tk' rfl (pad_size hb)⟩) (args_rj _ _ _)
theorem join_call {prog : Program} {w : World} {A : Around} {E : Value → Shared → Prop} {s : Shared} {b c : Array UInt8} {t u v : Tok} {p : Addr} {Q : Value → Shared → Prop} {h₀ : Heap} {L : Addr} {news : Led} (N : News h₀ L s.heap news) (hp : (p, tup [.bytes b t, .bytes c u]) ∈ news)
    (hb : b.size ≤ 32) (hc : c.size ≤ 32) (hq : ∀ d t' tk', d = b ++ c → d.size = b.size + c.size → Q (.bytes d t') { s with toks := tk' }) :
    wpAny (model prog w) A (call (.builtin "bytes.join") [.bytes #[] v, .ref p]) Q E s := by
  have hp' := News.get N hp
  obtain ⟨h, g, d, tk, os⟩ := s
  exact wpAny_call_entry slot_jn (typeIs_bytes _ _ _) entry_jn (join_tree hp' hb hc fun t' tk' => ⟨_, rfl, hq _ t' tk' rfl Array.size_append⟩) (args_jn _ _)
theorem rjust_meth {M : Model} {A : Around} {E : Value → Shared → Prop} {s : Shared} {b : Array UInt8} {t : Tok} {pl : Sem Bool} {Q : Value × List Value → Shared → Prop} (h : Q (.builtin "bytes.rjust", [.bytes b t]) s) : wpAny M A (getMethod (.bytes b t) "rjust" pl) Q E s := by
  with_reducible exact getMethod_builtin (typeIs_bytes _ _ _) FB.plainAttrs_bytes slot_rj type_rj KBd.noRef h
theorem join_meth {M : Model} {A : Around} {E : Value → Shared → Prop} {s : Shared} {b : Array UInt8} {t : Tok} {pl : Sem Bool} {Q : Value × List Value → Shared → Prop} (h : Q (.builtin "bytes.join", [.bytes b t]) s) : wpAny M A (getMethod (.bytes b t) "join" pl) Q E s := by
  with_reducible exact getMethod_builtin (typeIs_bytes _ _ _) FB.plainAttrs_bytes slot_jn type_jn KBd.noRef h
section
variable {prog : Program} {w : World} {M : Model} {A : Around} {E : Value → Shared → Prop} {s : Shared} {b : Array UInt8} {x n : Int} {t u v : Tok}
theorem fromBE_nat (b : Array UInt8) : fromBE b = ((b.toList.foldl (fun (acc : Nat) (c : UInt8) => acc * 256 + c.toNat) 0 : Nat) : Int) := KFB.foldI_eq b.toList 0
theorem fromBE_bd {b : Array UInt8} (hl : b.size ≤ 64) : 0 ≤ fromBE b ∧ (fromBE b).natAbs < 2 ^ 512 := by
  rw [fromBE_nat]
  refine ⟨by omega, ?_⟩
  rw [Int.natAbs_natCast]
  have h1 := KFB.fold_lt b.toList 0
  rw [Nat.zero_add, Nat.one_mul, Array.length_toList] at h1
  have h2 : 256 ^ b.size ≤ 256 ^ 64 := Nat.pow_le_pow_right (by decide) hl
  have e : (256 : Nat) ^ 64 = 2 ^ 512 := by decide
  omega
theorem grown_of {x : Int} {Q : Value → Shared → Prop} (hx : x.natAbs < 2 ^ 512) (h : Q (.int x s.toks) { s with toks := s.toks + 1 }) : wpAny M A (mkIntGrown x) Q E s := by
  unfold mkIntGrown
  rw [if_neg ?_]
  · exact wpAny_mkInt h
  · have hb : bitsLine = 134217728 := by first | rfl | decide
    rw [hb]
    by_cases hz : x.natAbs = 0
    · rw [hz]; decide
    · have := (Nat.log2_lt hz).mpr hx
      omega
theorem from_tree {P : PySem.Fin → Shared → Prop} (hl : b.size ≤ 64) (h : P (.done (.ret (.int (fromBE b) s.toks))) { s with toks := s.toks + 1 }) :
    wpAny M A (Builtin.«int.from_bytes» ⟨[.type "int", .bytes b t, .str (PySem.Str.ofString "big") u], []⟩) P E s := by
  unfold Builtin.«int.from_bytes»
  refine wpAny_bind (wpAny_of_eq (a := true) KFB.type_int ?_)
  refine KFB.if_not rfl ?_
  refine wpAny_bind (wpAny_of_eq (a := true) F.conv_sub_int ?_)
  refine KFB.if_not rfl ?_
  refine wpAny_bind (wpAny_of_eq (a := [some (.bytes b t), some (.str (PySem.Str.ofString "big") u), none]) (by kernel_rfl) ?_)
  refine wpAny_bind (wpAny_of_eq (a := PySem.Str.ofString "big") (by kernel_rfl) ?_)
  refine wpAny_bind (wpAny_of_eq (a := false) rfl ?_)
  refine wpAny_bind (wpAny_of_eq (a := false) (by kernel_rfl) ?_)
  refine wpAny_bind (wpAny_of_eq (a := b) rfl ?_)
  show wpAny _ _ (mkIntGrown (fromBE b) >>= fun v => _) _ _ _
  refine wpAny_bind (grown_of (fromBE_bd hl).2 ?_)
  refine KFB.if_so (by decide +kernel) ?_
  exact wpAny_bind (wpAny_pure (wpAny_pure h))
theorem from_call {p : Addr} {h₀ : Heap} {L : Addr} {news : Led} {Q : Value → Shared → Prop} (N : News h₀ L s.heap news) (hm : (p, KFB.bound) ∈ news) (hl : b.size ≤ 64) (h : ∀ t' k, Q (.int (fromBE b) t') { s with toks := k }) :
    wpAny (model prog w) A (call (.ref p) [.bytes b t, .str (PySem.Str.ofString "big") u]) Q E s :=
  KFB.call_of (KFB.at_of N hm) (fun z => from_tree hl z) (h _ _)
/-- n octets of x -/
theorem to_call {k : Nat} {Q : Value → Shared → Prop} (hk : n = (k : Int)) (hk2 : k ≤ 64) (h0 : 0 ≤ x) (hb : intBits x ≤ 8 * k) (h : ∀ t' tk', Q (.bytes (toBE x k) t') { s with toks := tk' }) :
    wpAny (model prog w) A (call (.builtin "int.to_bytes") [.int x t, .int n u, .str (PySem.Str.ofString "big") v]) Q E s := by
  subst hk
  refine wpAny_call_entry KTBy.slot (typeIs_int s x t) KTBy.entry ?_ (KTBy.args _ _ _)
  show wpAny _ _ (Builtin.Int.intOfSelf (.int x t) >>= fun y => _) _ _ s
  refine wpAny_bind (wpAny_of_eq (a := x) rfl ?_)
  show wpAny _ _ (Builtin.Int.intBindNamed "to_bytes" ["length", "byteorder", "signed"] 0 2 [.int (k : Int) u, .str (PySem.Str.ofString "big") v] [] >>= fun l => _) _ _ s
  refine wpAny_bind (wpAny_of_eq (a := [some (.int (k : Int) u), some (.str (PySem.Str.ofString "big") v), none]) (by kernel_rfl) ?_)
  show wpAny _ _ (Builtin.Int.intIndex "int.to_bytes" (.int (k : Int) u) >>= fun n => _) _ _ s
  refine wpAny_bind (wpAny_of_eq (a := (k : Int)) rfl ?_)
  refine KFB.if_not (by rw [Bool.or_eq_false_iff]; exact ⟨decide_eq_false (by omega), decide_eq_false (by omega)⟩) ?_
  refine wpAny_bind (wpAny_of_eq (a := PySem.Str.ofString "big") (by kernel_rfl) ?_)
  refine wpAny_bind (wpAny_of_eq (a := false) rfl ?_)
  refine wpAny_bind (wpAny_of_eq (a := false) (by kernel_rfl) ?_)
  refine wpAny_ite_false (decide_eq_false (by omega)) ?_
  refine wpAny_ite_false (decide_eq_false (by omega)) ?_
  refine wpAny_ite_false (decide_eq_false (by rw [sizeLine_eq]; omega)) ?_
  refine KFB.if_not (by rw [Bool.and_eq_false_iff]; exact .inl (decide_eq_false (by omega))) ?_
  refine KFB.if_not (by rw [Bool.and_eq_false_iff]; exact .inr (decide_eq_false (show ¬ ((intBits x : Int) > 8 * (k : Int)) by omega))) ?_
  have hz : (toBE x k).size ≤ sizeLine := by rw [toBE_size, sizeLine_eq]; omega
  exact wpAny_bind (wpAny_mkBytes (wpAny_pure ⟨_, rfl, h _ _⟩) hz)
theorem to_sym {Q : Value → Shared → Prop} (hn0 : 0 ≤ n) (hn : n ≤ 64) (h0 : 0 ≤ x) (hb : (intBits x : Int) ≤ 8 * n) (h : ∀ c t' tk', c = toBE x n.toNat → c.size = n.toNat → Q (.bytes c t') { s with toks := tk' }) :
    wpAny (model prog w) A (call (.builtin "int.to_bytes") [.int x t, .int n u, .str (PySem.Str.ofString "big") v]) Q E s :=
  to_call (k := n.toNat) (by omega) (by omega) h0 (by omega) fun t' tk' => h _ t' tk' rfl (toBE_size _ _)
end
local macro_rules | `(tactic| ksw_less) => `(tactic| first | assumption | omega | ((try simp only [be32_size, enc_size, toBE_size, Array.size_append]); first | done | omega))
local macro_rules | `(tactic| walk_at "getMethod bytes") => `(tactic| (k_here; with_reducible first | refine rjust_meth ?_ | refine join_meth ?_))
local macro_rules | `(tactic| walk_at "call builtin:bytes.rjust") => `(tactic| (k_here; k_dflt (refine rjust_call (by ksw_less) ?_); intro c9 t9 k9 ec9 es9; (try dsimp only)))
local macro_rules | `(tactic| walk_at "call builtin:bytes.join") => `(tactic| (k_here; k_dflt (refine join_call (by k_asm) (by k_mem) (by ksw_less) (by ksw_less) ?_); intro c9 t9 k9 ec9 es9; (try dsimp only)))
local macro_rules | `(tactic| walk_at "call builtin:int.to_bytes") => `(tactic| (k_here; k_dflt (refine to_sym (by ksw_less) (by ksw_less) (by ksw_less) (by ksw_less) ?_); intro c9 t9 k9 ec9 es9; (try dsimp only)))
local macro_rules | `(tactic| walk_at "call ref") => `(tactic| (k_here; (with_reducible show wpAny _ _ (call (Value.ref _) [Value.bytes _ _, Value.str _ _]) _ _ _); k_dflt (refine from_call (by k_asm) (by k_mem) (by ksw_less) ?_); intro _ _; (try dsimp only)))
theorem U8.bits {x : Int} (h : U8 x) : intBits x ≤ 256 := by
  refine Bd.bits (k := 256) ?_
  unfold Bd
  have e : (2 : Nat) ^ 256 = 115792089237316195423570985008687907853269984665640564039457584007913129639936 := by decide
  rw [e]
  have := h.1
  have := h.2
  omega
theorem U8.bd {x : Int} (h : U8 x) : Bd 256 x := by
  unfold Bd
  have e : (2 : Nat) ^ 256 = 115792089237316195423570985008687907853269984665640564039457584007913129639936 := by decide
  rw [e]
  have := h.1
  have := h.2
  omega
theorem i2b_size {x : Int} (h : U8 x) : (i2b x).size ≤ 32 := by
  have := h.bits
  unfold i2b
  rw [toBE_size]
  split <;> omega
theorem i2b_le {x : Int} {b : Array UInt8} (e : b = i2b x) (h : U8 x) : b.size ≤ 32 := by rw [e]; exact i2b_size h
theorem pad_i2b_size {x : Int} (h : U8 x) : (padTo (i2b x)).size = 32 := by rw [pad_i2b h, be32_size]
set_option maxHeartbeats 8000000 in
theorem con_b2i (w : World) (mean : ExcName → Option Value) (mg mb : Str → Option Value) (news : Led) (b : Array UInt8) (tb : Tok) (hb : b.size ≤ 64) :
    Con w mean mg mb 21 1 24 news [.bytes b tb] (RI (fromBE b)) := by
  unfold Con
  w_on
  k_fill
  k_with_none
  intro dp un gd cn cs a' ccd cl outer A₀ base h₀ L m s Q E B F X N T hk hd hu hret
  w_strict (
  refine wpAny_call ?_
  k_dflt ktr_enter
  k_steps
  all_goals tb_start
  all_goals rfl)
set_option maxHeartbeats 8000000 in
theorem con_pad (w : World) (mean : ExcName → Option Value) (mg mb : Str → Option Value) (news : Led) (b : Array UInt8) (tb : Tok) (hb : b.size ≤ 32) :
    Con w mean mg mb 39 1 24 news [.bytes b tb] (RBytes 32 (padTo b)) := by
  unfold Con
  w_on
  k_fill
  k_with_none
  intro dp un gd cn cs a' ccd cl outer A₀ base h₀ L m s Q E B F X N T hk hd hu hret
  w_strict (
  refine wpAny_call ?_
  k_dflt ktr_enter
  k_steps
  all_goals tb_start
  all_goals assumption)
theorem i2b_1 {x : Int} {c : Array UInt8} (h : ((intBits x : Int) + 7) / 8 ≠ 0) (e : c = toBE x (((intBits x : Int) + 7) / 8).toNat) : c = i2b x := by
  rw [e]
  unfold i2b
  rw [if_neg (by omega)]
  congr 1
theorem i2b_2 {x : Int} {c : Array UInt8} (h : ((intBits x : Int) + 7) / 8 = 0) (e : c = toBE x (1 : Int).toNat) : c = i2b x := by
  rw [e]
  unfold i2b
  rw [if_pos (by omega)]
  rfl
set_option maxHeartbeats 8000000 in
theorem con_i2b (w : World) (mean : ExcName → Option Value) (mg mb : Str → Option Value) (news : Led) (x : Int) (tx : Tok) (hx : U8 x) :
    Con w mean mg mb 28 1 24 news [.int x tx] (RBytes (i2b x).size (i2b x)) := by
  unfold Con
  w_on
  k_fill
  k_with_none
  have hx0 := hx.1
  have hxb := hx.bits
  intro dp un gd cn cs a' ccd cl outer A₀ base h₀ L m s Q E B F X N T hk hd hu hret
  w_strict (
  refine wpAny_call ?_
  k_dflt ktr_enter
  k_steps
  all_goals first | have ei9 := i2b_1 (x := x) (by assumption) (by assumption) | have ei9 := i2b_2 (x := x) (by assumption) (by assumption)
  all_goals (have es9 := congrArg Array.size ei9)
  all_goals tb_start
  all_goals assumption)
local macro_rules | `(tactic| walk_at "call ref") => `(tactic| (k_here; (with_reducible show wpAny _ _ (call (Value.ref 21) _) _ _ _); k_dflt (refine con_use (by k_asm) (by k_asm) (by k_asm) (by k_asm) (by k_asm) (by first | exact rfl | assumption) (con_b2i _ _ _ _ _ _ _ (by ksw_less)) (by ktr_room) (by ktr_units) ?_); intro r9 tl9 h9 tk9 F9 N9 hR9; obtain ⟨e1, t9, e2⟩ := hR9; subst e1; subst e2; (try simp only [List.cons_append, List.nil_append] at N9); (try dsimp only); (try k_fold)))
local macro_rules | `(tactic| walk_at "call ref") => `(tactic| (k_here; (with_reducible show wpAny _ _ (call (Value.ref 28) _) _ _ _); k_dflt (refine con_use (by k_asm) (by k_asm) (by k_asm) (by k_asm) (by k_asm) (by first | exact rfl | assumption) (con_i2b _ _ _ _ _ _ _ (by assumption)) (by ktr_room) (by ktr_units) ?_); intro r9 tl9 h9 tk9 F9 N9 hR9; obtain ⟨e1, b9, t9, e2, ec9, es9⟩ := hR9; subst e1; subst e2; (try simp only [List.cons_append, List.nil_append] at N9); (try dsimp only); (try k_fold)))
local macro_rules | `(tactic| walk_at "call ref") => `(tactic| (k_here; (with_reducible show wpAny _ _ (call (Value.ref 39) _) _ _ _); k_dflt (refine con_use (by k_asm) (by k_asm) (by k_asm) (by k_asm) (by k_asm) (by first | exact rfl | assumption) (con_pad _ _ _ _ _ _ _ (by first | exact i2b_le (by assumption) (by assumption) | ksw_less)) (by ktr_room) (by ktr_units) ?_); intro r9 tl9 h9 tk9 F9 N9 hR9; obtain ⟨e1, b9, t9, e2, ec9, es9⟩ := hR9; subst e1; subst e2; (try simp only [List.cons_append, List.nil_append] at N9); (try dsimp only); (try k_fold)))
local macro_rules | `(tactic| walk_at "call ref") => `(tactic| (k_here; (with_reducible show wpAny _ _ (call (Value.ref 88) [Value.ref 29, Value.int _ _]) _ _ _); k_dflt (refine con_use (by k_asm) (by k_asm) (by k_asm) (by k_asm) (by k_asm) (by first | exact rfl | assumption) (con_fmul _ _ _ _ _ _ _ (by omega) (by omega)) (by ktr_room) (by ktr_units) ?_); intro r9 tl9 h9 tk9 F9 N9 hR9; obtain ⟨a9, X9, Y9, tx9, ty9, e1, e2, e3, b19, b29⟩ := hR9; subst e1; subst e2; (try simp only [List.cons_append, List.nil_append] at N9); (try dsimp only); (try k_fold)))
theorem bInts_inj {a b : Array UInt8} (h : KBw.bInts a = KBw.bInts b) : a = b := Array.toList_inj.mp (ints_inj h)
theorem bInts_app (a b : Array UInt8) : KBw.bInts (a ++ b) = KBw.bInts a ++ KBw.bInts b := by
  unfold KBw.bInts
  rw [Array.toList_append, List.map_append]
theorem picked_of {b c : Array UInt8} {n lo hi : Nat} (hn : b.size = n) (hlo : lo ≤ n) (hhi : hi ≤ n) (h : ((KBw.bInts b).drop lo).take (hi - lo) = KBw.bInts c) : KBy.picked b (some (lo : Int)) (some (hi : Int)) = c := by
  refine bInts_inj ?_
  rw [KBc.ints_picked rfl, ← h, KBw.ints_length, hn]
  have e1 : (some (lo : Int)).elim 0 (clipAt n) = lo := by
    show clipAt n (lo : Int) = lo
    unfold clipAt
    split <;> omega
  have e2 : (some (hi : Int)).elim n (clipAt n) = hi := by
    show clipAt n (hi : Int) = hi
    unfold clipAt
    split <;> omega
  rw [e1, e2]
theorem picked_to {b c : Array UInt8} {n hi : Nat} (hn : b.size = n) (hhi : hi ≤ n) (h : (KBw.bInts b).take hi = KBw.bInts c) : KBy.picked b none (some (hi : Int)) = c := by
  refine bInts_inj ?_
  rw [KBc.ints_picked rfl, ← h, KBw.ints_length, hn]
  have e2 : (some (hi : Int)).elim n (clipAt n) = hi := by
    show clipAt n (hi : Int) = hi
    unfold clipAt
    split <;> omega
  rw [e2]
  rfl
theorem picked_from {b c : Array UInt8} {n lo : Nat} (hn : b.size = n) (hlo : lo ≤ n) (h : (KBw.bInts b).drop lo = KBw.bInts c) : KBy.picked b (some (lo : Int)) none = c := by
  refine bInts_inj ?_
  rw [KBc.ints_picked rfl, ← h, KBw.ints_length, hn]
  have e1 : (some (lo : Int)).elim 0 (clipAt n) = lo := by
    show clipAt n (lo : Int) = lo
    unfold clipAt
    split <;> omega
  rw [e1]
  show List.take (n - lo) _ = _
  refine List.take_of_length_le ?_
  rw [List.length_drop, KBw.ints_length, hn]
  exact Nat.le_refl _
theorem len_be (x : Int) : (KBw.bInts (be32 x)).length = 32 := by rw [KBw.ints_length, be32_size]
theorem enc_lo (x y : Int) : KBy.picked (enc x y) (some 0) (some 32) = be32 x :=
  picked_of (lo := 0) (hi := 32) (enc_size x y) (by decide) (by decide) (by unfold enc; rw [bInts_app, List.drop_zero, Nat.sub_zero, List.take_append_of_le_length (by rw [len_be]; exact Nat.le_refl _)]; exact List.take_of_length_le (by rw [len_be]; exact Nat.le_refl _))
theorem enc_to (x y : Int) : KBy.picked (enc x y) none (some 32) = be32 x :=
  picked_to (hi := 32) (enc_size x y) (by decide) (by unfold enc; rw [bInts_app, List.take_append_of_le_length (by rw [len_be]; exact Nat.le_refl _)]; exact List.take_of_length_le (by rw [len_be]; exact Nat.le_refl _))
theorem enc_hi (x y : Int) : KBy.picked (enc x y) (some 32) (some 64) = be32 y :=
  picked_of (lo := 32) (hi := 64) (enc_size x y) (by decide) (by decide) (by
    unfold enc
    rw [bInts_app, List.drop_left' (len_be x)]
    exact List.take_of_length_le (by rw [len_be]; exact Nat.le_refl _))
/-- the told key: its first octet and its first coordinate -/
def told (c : UInt8) (x : Int) : Array UInt8 := #[c] ++ be32 x
theorem told_size (c : UInt8) (x : Int) : (told c x).size = 33 := by
  unfold told
  rw [Array.size_append, be32_size]
  rfl
theorem told_from (c : UInt8) (x : Int) : KBy.picked (told c x) (some 1) none = be32 x :=
  picked_from (lo := 1) (told_size c x) (by decide) (by unfold told; rw [bInts_app]; rfl)
section
variable {prog : Program} {w : World} {A : Around} {E : Value → Shared → Prop} {s : Shared} {value slice : PySem.Expr} {b c : Array UInt8} {t : Tok} {h₀ : Heap} {L : Addr} {m : PySem.Str → Option Value} {news : List (Addr × Obj)} {l u : Value} {lo hi : Option Int} {Q : Value → Shared → Prop}
theorem slice_B (hF : Fr h₀ L s.heap m) (hN : News h₀ L s.heap news) (hl : IsPart l lo) (hu : IsPart u hi) (hz : b.size ≤ 1000) (e : KBy.picked b lo hi = c)
    (h : ∀ d h' t' k, d = c → d.size = c.size → Fr h₀ L h' m → News h₀ L h' news → Q (.bytes d t') { s with heap := h', toks := k })
    (hs : subscripted slice false (.bytes b t) (.ref s.heap.objs.size) = operate [.ref s.heap.objs.size, .bytes b t] (getItem (.bytes b t) (.ref s.heap.objs.size)) := by with_unfolding_all rfl)
    (ht : ∀ r, letTemporaryGo value (.bytes b t) r = pure () := by intro _; with_unfolding_all rfl) :
    wpAny (model prog w) A (subscriptTail value slice (.bytes b t) (.ref s.heap.objs.size)) Q E { s with heap := s.heap.push { cls := .type "slice", data := .fields #[l, u, .none] } } :=
  KBc.slice_K hF hN rfl hl hu (by rw [KBw.ints_length]; omega) (fun h' t' k F N _ => h _ h' t' k e (by rw [e]) F N) hs ht
end
theorem enc_lo' {b : Array UInt8} {x y : Int} (h : b = enc x y) : KBy.picked b (some 0) (some 32) = be32 x := by rw [h]; exact enc_lo x y
theorem enc_to' {b : Array UInt8} {x y : Int} (h : b = enc x y) : KBy.picked b none (some 32) = be32 x := by rw [h]; exact enc_to x y
theorem enc_hi' {b : Array UInt8} {x y : Int} (h : b = enc x y) : KBy.picked b (some 32) (some 64) = be32 y := by rw [h]; exact enc_hi x y
theorem told_from' {b : Array UInt8} {x : Int} {c : UInt8} (h : b = told c x) : KBy.picked b (some 1) none = be32 x := by rw [h]; exact told_from c x
theorem from_be {b : Array UInt8} {x : Int} (h : U8 x) (e : b = be32 x) : fromBE b = x := by rw [e]; exact fromBE_be32 h
theorem from_be_bd {b : Array UInt8} {x : Int} (e : b = be32 x) (h : U8 x) : Bd 256 (fromBE b) := by rw [from_be h e]; exact h.bd
theorem two_be {a b c : Array UInt8} {x y : Int} (e1 : a = be32 x) (e2 : b = be32 y) (e : c = a ++ b) : c = enc x y := by rw [e, e1, e2]; rfl
theorem pad_be {a b : Array UInt8} {x : Int} (h : U8 x) (e1 : a = i2b x) (e : b = padTo a) : b = be32 x := by rw [e, e1]; exact pad_i2b h
local macro_rules | `(tactic| ksw_less) => `(tactic| first | assumption | omega | ((try simp only [be32_size, enc_size, toBE_size, told_size, Array.size_append]); first | done | omega))
local macro_rules | `(tactic| walk_at "subscriptTail") => `(tactic| (k_here; (with_reducible show wpAny _ _ (subscriptTail _ (Expr.Slice _ _ none _) (Value.bytes _ _) (Value.ref _)) _ _ _); (with_reducible rename Fr _ _ _ _ => F'); (with_reducible rename News _ _ _ _ => N'); k_dflt (refine slice_B (s := ⟨_, _, _, _, _⟩) F' N' (by constructor) (by constructor) (by ksw_less) (by with_reducible first | exact enc_lo' (by assumption) | exact enc_to' (by assumption) | exact enc_hi' (by assumption) | exact told_from' (by assumption)) ?_); intro c9 h9 t9 k9 ec9 es9 F9 N9; (try simp only [be32_size, enc_size, told_size] at es9); (try dsimp only)))
local macro_rules | `(tactic| ktr_rel) => `(tactic| with_reducible (repeat' (first | assumption | exact Bd.modP _ | exact invF_bd _ | exact U8.bd (by assumption) | exact from_be_bd (by assumption) (by assumption) | apply Bd.mul | apply Bd.add | apply Bd.sub | apply Bd.neg | exact Bd.lit 256 (by k_dflt rfl))))
set_option maxHeartbeats 8000000 in
theorem con_enc (w : World) (mean : ExcName → Option Value) (mg mb : Str → Option Value) (news : Led) (p : Addr) (x y : Int) (tx ty : Tok)
   (hp : (p, tup [.int x tx, .int y ty]) ∈ news) (hx : U8 x) (hy : U8 y) : Con w mean mg mb 116 3 48 news [.ref p] (RBytes 64 (enc x y)) := by
  unfold Con
  w_on
  k_fill
  k_with_none
  intro dp un gd cn cs a' ccd cl outer A₀ base h₀ L m s Q E B F X N T hk hd hu hret
  w_strict (
  refine wpAny_call ?_
  k_dflt ktr_enter
  k_steps
  all_goals (have ei9 := two_be (pad_be hx (by assumption) (by assumption)) (pad_be hy (by assumption) (by assumption)) (by assumption))
  all_goals tb_start
  all_goals assumption)
set_option maxHeartbeats 8000000 in
theorem con_dec (w : World) (mean : ExcName → Option Value) (mg mb : Str → Option Value) (news : Led) (b : Array UInt8) (x y : Int) (tb : Tok)
   (hb : b = enc x y) (hs : b.size = 64) (hx : U8 x) (hy : U8 y) : Con w mean mg mb 109 3 48 news [.bytes b tb] (R2 (x, y)) := by
  unfold Con
  w_on
  k_fill
  k_with_none
  intro dp un gd cn cs a' ccd cl outer A₀ base h₀ L m s Q E B F X N T hk hd hu hret
  w_strict (
  refine wpAny_call ?_
  k_dflt ktr_enter
  k_steps
  all_goals tb_start
  all_goals (rw [from_be hx (by assumption), from_be hy (by assumption)]))
set_option maxHeartbeats 8000000 in
theorem con_b2x (w : World) (mean : ExcName → Option Value) (mg mb : Str → Option Value) (news : Led) (b : Array UInt8) (x : Int) (tb : Tok) (hb : b = be32 x) (hx : U8 x) (hs : b.size ≤ 64) :
    Con w mean mg mb 21 1 24 news [.bytes b tb] (RI x) := by
  have h := con_b2i w mean mg mb news b tb hs
  rw [from_be hx hb] at h
  exact h
section
variable {prog : Program} {w : World} {A : Around} {E : Value → Shared → Prop} {h : Heap} {g : Array GenState} {d : Drawn} {tk : Nat} {os : OsState} {a e m : Int} {t u v : Tok}
theorem kind_pow : builtinKind "pow" = none := by decide +kernel
theorem plain_pow : plainId "pow" = true := by decide +kernel
theorem entry_pow : entryFor table "pow" = some Builtin.«pow» := entryFor_of_fast (by kernel_rfl)
theorem args_pow (a b c : Value) : argsOk "pow" ⟨[a, b, c], []⟩ := by unfold argsOk; kernel_rfl
set_option maxHeartbeats 4000000 in
theorem ipow_tree {M : Model} {Q : PySem.Fin → Shared → Prop} (hm : 1 < m) (he : 0 ≤ e)
    (hq : ∀ t' tk', Q (.done (.ret (.int ((Builtin.powMod (a % m).toNat e.toNat m.toNat : Nat) : Int) t'))) ⟨h, g, d, tk', os⟩) :
   wpAny M A (Builtin.«int.__pow__» ⟨[.int a t, .int e u, .int m v], []⟩) Q E ⟨h, g, d, tk, os⟩ := by
  unfold Builtin.«int.__pow__»
  wp_walk
  have h1 : ¬ ((m == 0) = true) := by rw [beq_iff_eq]; omega
  have h2 : ¬ ((m.natAbs == 1) = true) := by rw [beq_iff_eq]; omega
  have e1 : ((m.natAbs : Nat) : Int) = m := by omega
  have e2 : m.natAbs = m.toNat := by omega
  have e3 : e.natAbs = e.toNat := by omega
  have h3 : ¬ ((decide (m < 0) && (((Builtin.powMod (a % m).toNat e.toNat m.toNat : Nat) : Int) != 0)) = true) := by
    rw [decide_eq_false (by omega : ¬ m < 0), Bool.false_and]
    exact Bool.false_ne_true
  rw [if_neg h1]
  show wpAny M A (if (m.natAbs == 1) = true then _ else _) _ _ _
  rw [if_neg h2]
  show wpAny M A (if e < 0 then _ else _) _ _ _
  rw [if_neg (by omega)]
  show wpAny M A (retInt (if (decide (m < 0) && (((Builtin.powMod (a % (m.natAbs : Int)).toNat e.natAbs m.natAbs : Nat) : Int) != 0)) = true then _ else ((Builtin.powMod (a % (m.natAbs : Int)).toNat e.natAbs m.natAbs : Nat) : Int))) _ _ _
  rw [e1, e2, e3, if_neg h3]
  wp_walk
  exact hq _ _
set_option maxHeartbeats 4000000 in
theorem pow_tree {Q : PySem.Fin → Shared → Prop} (hm : 1 < m) (he : 0 ≤ e)
    (hq : ∀ t' tk', Q (.done (.ret (.int ((Builtin.powMod (a % m).toNat e.toNat m.toNat : Nat) : Int) t'))) ⟨h, g, d, tk', os⟩) :
   wpAny (model prog w) A (Builtin.«pow» ⟨[.int a t, .int e u, .int m v], []⟩) Q E ⟨h, g, d, tk, os⟩ := by
  unfold Builtin.«pow»
  wp_walk
  refine wpAny_of_eq F.slot_int_pow.lookup ?_
  show wpAny (model prog w) A (callSpecial? (Value.int a t) (Str.ofString "__pow__") [Value.int e u, .int m v] >>= _) _ _ _
  refine wpAny_bind (wpAny_callSpecial?_slot (name := Str.ofString "__pow__") (typeIs_int _ a t) F.slot_int_pow
    (wpAny_call_entry F.slot_int_pow (typeIs_int _ a t) F.entry_int_pow (ipow_tree hm he fun t' tk' => ?_) (by first | exact F.args_int_pow_3 _ _ _ | (unfold argsOk; kernel_rfl))))
  refine ⟨_, rfl, ?_⟩
  wp_walk
  exact hq _ _
end
theorem powMod_lt {b e m : Nat} (hm : 1 < m) : Builtin.powMod b e m < m := by
  unfold Builtin.powMod
  have step : ∀ (l : List Nat) (p : Nat), p < m → l.foldl (fun p i => if e.testBit i then p * p % m * b % m else p * p % m) p < m := by
    intro l
    induction l with
    | nil => exact fun p h => h
    | cons i r ih =>
      intro p _
      rw [List.foldl_cons]
      refine ih _ ?_
      split <;> exact Nat.mod_lt _ (by omega)
  exact step _ _ (Nat.mod_lt _ (by omega))
theorem pow_call {prog : Program} {w : World} {A : Around} {E : Value → Shared → Prop} {s : Shared} {a e m : Int} {t u v : Tok} {Q : Value → Shared → Prop} (hm : 1 < m) (he : 0 ≤ e) (hq : ∀ r t' tk', r = ((Builtin.powMod (a % m).toNat e.toNat m.toNat : Nat) : Int) → 0 ≤ r → r < m → Q (.int r t') { s with toks := tk' }) :
    wpAny (model prog w) A (call (.builtin "pow") [.int a t, .int e u, .int m v]) Q E s := by
  obtain ⟨h, g, d, tk, os⟩ := s
  refine Calls.call_function_entry kind_pow plain_pow entry_pow (args_pow _ _ _) (pow_tree hm he fun t' tk' => ⟨_, rfl, hq _ t' tk' rfl (by omega) ?_⟩)
  have := powMod_lt (b := (a % m).toNat) (e := e.toNat) (m := m.toNat) (by omega)
  omega
theorem fromJ_u (p : I3) : U8 (fromJ p).1 ∧ U8 (fromJ p).2 := by
  unfold fromJ
  dsimp only
  refine ⟨⟨Int.emod_nonneg _ (by decide), ?_⟩, Int.emod_nonneg _ (by decide), ?_⟩
  · have := Int.emod_lt_of_pos (p.1 * (invF p.2.2 115792089237316195423570985008687907853269984665640564039457584007908834671663 * invF p.2.2 115792089237316195423570985008687907853269984665640564039457584007908834671663)) (by decide : (0 : Int) < 115792089237316195423570985008687907853269984665640564039457584007908834671663)
    omega
  · have := Int.emod_lt_of_pos (p.2.1 * (invF p.2.2 115792089237316195423570985008687907853269984665640564039457584007908834671663 * invF p.2.2 115792089237316195423570985008687907853269984665640564039457584007908834671663 * invF p.2.2 115792089237316195423570985008687907853269984665640564039457584007908834671663)) (by decide : (0 : Int) < 115792089237316195423570985008687907853269984665640564039457584007908834671663)
    omega
theorem fromJ_u1 {X Y : Int} {p : I3} (e : (X, Y) = fromJ p) : U8 X := by have := (fromJ_u p).1; rw [← e] at this; exact this
theorem fromJ_u2 {X Y : Int} {p : I3} (e : (X, Y) = fromJ p) : U8 Y := by have := (fromJ_u p).2; rw [← e] at this; exact this
section
variable {prog : Program} {w : World} {A : Around} {E : Value → Shared → Prop} {s : Shared} {value slice : PySem.Expr} {b c : Array UInt8} {t u : Tok} {Q : Value → Shared → Prop} {x a : Int}
theorem add_B (hsz : b.size + c.size ≤ 1000) (h : ∀ d t' k, d = b ++ c → d.size = b.size + c.size → Q (.bytes d t') { s with toks := k }) : wpAny (model prog w) A (binaryOp .Add (.bytes b t) (.bytes c u)) Q E s :=
  KBy.add_bytes (by omega) fun t' k => h _ t' k rfl Array.size_append
theorem told_head {c : UInt8} {x : Int} : (KBw.bInts (told c x)).getD 0 0 = (c.toNat : Int) := by
  unfold told
  rw [bInts_app]
  rfl
theorem item_B {c : UInt8} {ui : Tok} {n : Int} (e : b = told c x) (en : (c.toNat : Int) = n) (h : ∀ t' k, Q (.int n t') { s with toks := k })
    (hs : subscripted slice false (.bytes b t) (.int 0 ui) = operate [.bytes b t, .int 0 ui] (getItem (.bytes b t) (.int 0 ui)) := by with_unfolding_all rfl)
    (ht : ∀ r, letTemporaryGo value (.bytes b t) r = pure () := by intro _; with_unfolding_all rfl) : wpAny (model prog w) A (subscriptTail value slice (.bytes b t) (.int 0 ui)) Q E s := by
  have hz : (KBw.bInts b).length = 33 := by rw [KBw.ints_length, e, told_size]
  refine KBw.item_K rfl (by rw [hz]; decide) (by decide) (by rw [hz]; decide) (fun t' k _ _ => ?_) hs ht
  have e0 : (KBw.bInts b).getD (0 : Int).toNat 0 = (c.toNat : Int) := by rw [e]; exact told_head
  rw [e0, en]
  exact h t' k
theorem and1 (h : ∀ t' k, Q (.int (a % 2) t') { s with toks := k }) : wpAny (model prog w) A (binaryOp .BitAnd (.int a t) (.int 1 u)) Q E s := and_int (by rw [bitAnd_m1]; exact h _ _)
end
theorem U8.modP (a : Int) : U8 (a % 115792089237316195423570985008687907853269984665640564039457584007908834671663) := by
  refine ⟨Int.emod_nonneg _ (by decide), ?_⟩
  have := Int.emod_lt_of_pos a (by decide : (0 : Int) < 115792089237316195423570985008687907853269984665640564039457584007908834671663)
  omega
theorem two_told {a b d : Array UInt8} {x : Int} {c : UInt8} (h : U8 x) (e1 : a = i2b x) (e2 : b = padTo a) (e : d = #[c] ++ b) : d = told c x := by
  rw [e, pad_be h e1 e2]
  rfl
local macro_rules | `(tactic| walk_at "call ref") => `(tactic| (k_here; (with_reducible show wpAny _ _ (call (Value.ref 21) _) _ _ _); k_dflt (refine con_use (by k_asm) (by k_asm) (by k_asm) (by k_asm) (by k_asm) (by first | exact rfl | assumption) (con_b2x _ _ _ _ _ _ _ _ (by assumption) (by first | with_reducible assumption | with_reducible exact U8.modP _ | exact ⟨by omega, by omega⟩) (by ksw_less)) (by ktr_room) (by ktr_units) ?_); intro r9 tl9 h9 tk9 F9 N9 hR9; obtain ⟨e1, t9, e2⟩ := hR9; subst e1; subst e2; (try simp only [List.cons_append, List.nil_append] at N9); (try dsimp only); (try k_fold)))
local macro_rules | `(tactic| walk_at "call ref") => `(tactic| (k_here; (with_reducible show wpAny _ _ (call (Value.ref 88) [Value.ref 29, Value.int _ _]) _ _ _); k_dflt (refine con_use (by k_asm) (by k_asm) (by k_asm) (by k_asm) (by k_asm) (by first | exact rfl | assumption) (con_fmul _ _ _ _ _ _ _ (by omega) (by omega)) (by ktr_room) (by ktr_units) ?_); intro r9 tl9 h9 tk9 F9 N9 hR9; obtain ⟨a9, X9, Y9, tx9, ty9, e1, e2, e3, b19, b29⟩ := hR9; subst e1; subst e2; have hu19 := fromJ_u1 e3; have hu29 := fromJ_u2 e3; (try simp only [List.cons_append, List.nil_append] at N9); (try dsimp only); (try k_fold)))
local macro_rules | `(tactic| walk_at "call ref") => `(tactic| (k_here; (with_reducible show wpAny _ _ (call (Value.ref 109) _) _ _ _); k_dflt (refine con_use (by k_asm) (by k_asm) (by k_asm) (by k_asm) (by k_asm) (by first | exact rfl | assumption) (con_dec _ _ _ _ _ _ _ _ _ (by assumption) (by ksw_less) (by first | with_reducible assumption | with_reducible exact U8.modP _ | exact ⟨by omega, by omega⟩) (by first | with_reducible assumption | with_reducible exact U8.modP _ | exact ⟨by omega, by omega⟩)) (by ktr_room) (by ktr_units) ?_); intro r9 tl9 h9 tk9 F9 N9 hR9; obtain ⟨a9, X9, Y9, tx9, ty9, e1, e2, e3, b19, b29⟩ := hR9; subst e1; subst e2; obtain ⟨ex9, ey9⟩ := Prod.mk.inj e3; subst ex9; subst ey9; (try simp only [List.cons_append, List.nil_append] at N9); (try dsimp only); (try k_fold)))
local macro_rules | `(tactic| walk_at "call ref") => `(tactic| (k_here; (with_reducible show wpAny _ _ (call (Value.ref 116) _) _ _ _); k_dflt (refine con_use (by k_asm) (by k_asm) (by k_asm) (by k_asm) (by k_asm) (by first | exact rfl | assumption) (con_enc _ _ _ _ _ _ _ _ _ _ (by k_mem) (by first | with_reducible assumption | with_reducible exact U8.modP _ | exact ⟨by omega, by omega⟩) (by first | with_reducible assumption | with_reducible exact U8.modP _ | exact ⟨by omega, by omega⟩)) (by ktr_room) (by ktr_units) ?_); intro r9 tl9 h9 tk9 F9 N9 hR9; obtain ⟨e1, b9, t9, e2, ec9, es9⟩ := hR9; subst e1; subst e2; (try simp only [List.cons_append, List.nil_append] at N9); (try dsimp only); (try k_fold)))
local macro_rules | `(tactic| walk_at "binaryOp Add bytes bytes") => `(tactic| (k_here; with_reducible ((refine add_B (by ksw_less) ?_); intro c9 t9 k9 ec9 es9; (try dsimp only))))
local macro_rules | `(tactic| walk_at "binaryOp BitAnd int int") => `(tactic| (k_here; with_reducible ((refine and1 ?_); intro _ _; (try dsimp only))))
local macro_rules | `(tactic| walk_at "subscriptTail") => `(tactic| (k_here; (with_reducible show wpAny _ _ (subscriptTail _ _ (Value.bytes _ _) (Value.int 0 _)) _ _ _); k_dflt (first | (refine item_B (n := 2) (by assumption) (by decide) ?_) | (refine item_B (n := 3) (by assumption) (by decide) ?_) | (refine item_B (by assumption) (by assumption) ?_)); intro _ _; (try dsimp only)))
local macro_rules | `(tactic| walk_at "call builtin:len") => `(tactic| (k_here; (with_reducible show wpAny _ _ (call (Value.builtin "len") [Value.bytes _ _]) _ _ _); k_dflt (refine len_bytes (by ksw_less) ?_)))
local macro_rules | `(tactic| walk_at "call builtin:pow") => `(tactic| (k_here; k_dflt (refine pow_call (by first | assumption | decide) (by first | assumption | decide) ?_); intro r9 t9 k9 er9 r19 r29; (try dsimp only)))
@[irreducible] def ptOf (n : Int) : I2 := fromJ (jmul 9 (GX, GY, 1) n)
theorem ptOf_eq (n : Int) : ptOf n = fromJ (jmul 9 (GX, GY, 1) n) := by unfold ptOf; rfl
theorem from_be2 {b : Array UInt8} {x : Int} (e : b = be32 x) (h : U8 x) : fromBE b = x := from_be h e
theorem enc_of {X Y n : Int} {b : Array UInt8} (e3 : (X, Y) = fromJ (jmul 9 (GX, GY, 1) n)) (e : b = enc X Y) : b = enc (ptOf n).1 (ptOf n).2 := by
  rw [ptOf_eq, ← e3]
  exact e
theorem comp_0 {x y : Int} {a b d : Array UInt8} (hy : y % 2 = 0) (e1 : a = i2b x) (e2 : b = padTo a) (e : d = #[2] ++ b) (h : U8 x) : d = told (if y % 2 = 0 then 2 else 3) x := by
  rw [if_pos hy]
  exact two_told h e1 e2 e
theorem comp_1 {x y : Int} {a b d : Array UInt8} (hy : y % 2 ≠ 0) (e1 : a = i2b x) (e2 : b = padTo a) (e : d = #[3] ++ b) (h : U8 x) : d = told (if y % 2 = 0 then 2 else 3) x := by
  rw [if_neg hy]
  exact two_told h e1 e2 e
set_option maxHeartbeats 8000000 in
theorem con_priv (w : World) (mean : ExcName → Option Value) (mg mb : Str → Option Value) (news : Led) (b : Array UInt8) (n : Int) (tb : Tok)
   (hb : b = be32 n) (hs : b.size = 32) (h0 : 0 ≤ n) (h1 : n < 500) : Con w mean mg mb 123 18 160 news [.bytes b tb] (RBytes 64 (enc (ptOf n).1 (ptOf n).2)) := by
  have hu : U8 n := ⟨h0, by omega⟩
  unfold Con
  w_on
  k_fill
  k_with_none
  intro dp un gd cn cs a' ccd cl outer A₀ base h₀ L m s Q E B F X N T hk hd hu hret
  w_strict (
  refine wpAny_call ?_
  k_dflt ktr_enter
  k_steps
  all_goals (have ei9 := enc_of (by assumption) (by assumption))
  all_goals tb_start
  all_goals assumption)
set_option maxHeartbeats 8000000 in
theorem con_comp (w : World) (mean : ExcName → Option Value) (mg mb : Str → Option Value) (news : Led) (b : Array UInt8) (x y : Int) (tb : Tok)
   (hb : b = enc x y) (hs : b.size = 64) (hx : U8 x) (hy : U8 y) : Con w mean mg mb 130 6 72 news [.bytes b tb] (RBytes 33 (told (if y % 2 = 0 then 2 else 3) x)) := by
  unfold Con
  w_on
  k_fill
  k_with_none
  intro dp un gd cn cs a' ccd cl outer A₀ base h₀ L m s Q E B F X N T hk hd hu hret
  w_strict (
  refine wpAny_call ?_
  k_dflt ktr_enter
  k_steps
  all_goals first | have ei9 := comp_0 (by assumption) (by assumption) (by assumption) (by assumption) (by assumption) | have ei9 := comp_1 (by assumption) (by assumption) (by assumption) (by assumption) (by assumption)
  all_goals (have en9 := (congrArg Array.size ei9).trans (told_size _ _))
  all_goals tb_start
  all_goals assumption)
/-- the root that pow gives, and the one of the two that is asked -/
def sqr (x : Int) : Int := ((Builtin.powMod ((x * x * x + 0 * x + 7) % 115792089237316195423570985008687907853269984665640564039457584007908834671663 % 115792089237316195423570985008687907853269984665640564039457584007908834671663).toNat (((115792089237316195423570985008687907853269984665640564039457584007908834671663 : Int) + 1) / 4).toNat (115792089237316195423570985008687907853269984665640564039457584007908834671663 : Int).toNat : Nat) : Int)
def ysel (c : UInt8) (x : Int) : Int := if sqr x % 2 = (if c = 2 then 1 else 0) then -(sqr x) % 115792089237316195423570985008687907853269984665640564039457584007908834671663 else sqr x
theorem ysel2a {x r : Int} {b : Array UInt8} (er : r = sqr x) (h : r % 2 = 1) (e : b = enc x (-r % 115792089237316195423570985008687907853269984665640564039457584007908834671663)) : b = enc x (ysel 2 x) := by
  rw [e, er]
  unfold ysel
  rw [if_pos (c := (2 : UInt8) = 2) rfl, if_pos (by rw [← er]; exact h)]
theorem ysel2b {x r : Int} {b : Array UInt8} (er : r = sqr x) (h : r % 2 ≠ 1) (e : b = enc x r) : b = enc x (ysel 2 x) := by
  rw [e, er]
  unfold ysel
  rw [if_pos (c := (2 : UInt8) = 2) rfl, if_neg (by rw [← er]; exact h)]
theorem ysel3a {x r : Int} {b : Array UInt8} (er : r = sqr x) (h : r % 2 = 0) (e : b = enc x (-r % 115792089237316195423570985008687907853269984665640564039457584007908834671663)) : b = enc x (ysel 3 x) := by
  rw [e, er]
  unfold ysel
  rw [if_neg (c := (3 : UInt8) = 2) (by decide), if_pos (by rw [← er]; exact h)]
theorem ysel3b {x r : Int} {b : Array UInt8} (er : r = sqr x) (h : r % 2 ≠ 0) (e : b = enc x r) : b = enc x (ysel 3 x) := by
  rw [e, er]
  unfold ysel
  rw [if_neg (c := (3 : UInt8) = 2) (by decide), if_neg (by rw [← er]; exact h)]
set_option maxHeartbeats 8000000 in
theorem con_dcp2 (w : World) (mean : ExcName → Option Value) (mg mb : Str → Option Value) (news : Led) (b : Array UInt8) (x : Int) (tb : Tok)
   (hb : b = told 2 x) (hs : b.size = 33) (hx : U8 x) : Con w mean mg mb 137 6 72 news [.bytes b tb] (RBytes 64 (enc x (ysel 2 x))) := by
  unfold Con
  w_on
  k_fill
  k_with_none
  intro dp un gd cn cs a' ccd cl outer A₀ base h₀ L m s Q E B F X N T hk hd hu hret
  w_strict (
  refine wpAny_call ?_
  k_dflt ktr_enter
  k_steps
  all_goals first
    | (exfalso; omega)
    | (have ei9 := ysel2a (by assumption) (by assumption) (by assumption); tb_start; assumption)
    | (have ei9 := ysel2b (by assumption) (by assumption) (by assumption); tb_start; assumption))
set_option maxHeartbeats 8000000 in
theorem con_dcp3 (w : World) (mean : ExcName → Option Value) (mg mb : Str → Option Value) (news : Led) (b : Array UInt8) (x : Int) (tb : Tok)
   (hb : b = told 3 x) (hs : b.size = 33) (hx : U8 x) : Con w mean mg mb 137 6 72 news [.bytes b tb] (RBytes 64 (enc x (ysel 3 x))) := by
  unfold Con
  w_on
  k_fill
  k_with_none
  intro dp un gd cn cs a' ccd cl outer A₀ base h₀ L m s Q E B F X N T hk hd hu hret
  w_strict (
  refine wpAny_call ?_
  k_dflt ktr_enter
  k_steps
  all_goals first
    | (exfalso; omega)
    | (have ei9 := ysel3a (by assumption) (by assumption) (by assumption); tb_start; assumption)
    | (have ei9 := ysel3b (by assumption) (by assumption) (by assumption); tb_start; assumption))
theorem con_dcp (w : World) (mean : ExcName → Option Value) (mg mb : Str → Option Value) (news : Led) (b : Array UInt8) (c : UInt8) (x : Int) (tb : Tok)
   (hb : b = told c x) (hc : c = 2 ∨ c = 3) (hs : b.size = 33) (hx : U8 x) : Con w mean mg mb 137 6 72 news [.bytes b tb] (RBytes 64 (enc x (ysel c x))) := by
  rcases hc with rfl | rfl
  · exact con_dcp2 w mean mg mb news b x tb hb hs hx
  · exact con_dcp3 w mean mg mb news b x tb hb hs hx
/-- what the loop of inv keeps: both are multiples, and no factor is common -/
def InvJ (a n lm low hm high : Int) : Prop := (∃ u, lm * a = low + n * u) ∧ (∃ u, hm * a = high + n * u) ∧ (∃ s t, s * low + t * high = 1) ∧ 0 ≤ low ∧ 1 < high
theorem invJ_turn {a n lm low hm high : Int} (h : InvJ a n lm low hm high) (hl : 1 < low) : InvJ a n (hm - lm * (high / low)) (high - low * (high / low)) lm low := by
  obtain ⟨⟨u, hu⟩, ⟨v, hv⟩, ⟨s, t, hst⟩, h0, h1⟩ := h
  refine ⟨⟨v - u * (high / low), ?_⟩, ⟨u, hu⟩, ⟨t, s + t * (high / low), ?_⟩, ?_, hl⟩
  · generalize high / low = r
    have e : lm * r * a = (lm * a) * r := by rw [Int.mul_assoc, Int.mul_comm r a, ← Int.mul_assoc]
    rw [Int.sub_mul, hv, e, hu, Int.add_mul, Int.mul_sub, Int.mul_assoc n u r]
    omega
  · generalize high / low = r
    have e : t * (low * r) = t * r * low := by rw [Int.mul_comm low r, ← Int.mul_assoc]
    rw [Int.mul_sub, Int.add_mul, e]
    omega
  · rw [new_is]; exact Int.emod_nonneg _ (by omega)
theorem invJ_end : ∀ (k : Nat) {a n lm low hm high : Int}, low.toNat ≤ k → InvJ a n lm low hm high → ∃ u, invG lm low hm high * a = 1 + n * u
  | k, a, n, lm, low, hm, high, hk, h => by
    by_cases hl : 1 < low
    · match k, hk with
      | 0, hk => omega
      | k + 1, hk =>
        rw [invG_turn hl]
        refine invJ_end k ?_ (invJ_turn h hl)
        have hm2 : high % low < low := Int.emod_lt_of_pos _ (by omega)
        rw [new_is]
        omega
    · rw [invG_end hl]
      obtain ⟨⟨u, hu⟩, _, ⟨s, t, hst⟩, h0, h1⟩ := h
      have : low = 1 := by
        by_cases hz : low = 0
        · exfalso
          rw [hz, Int.mul_zero, Int.zero_add] at hst
          have hd : high ∣ 1 := ⟨t, by rw [Int.mul_comm]; exact hst.symm⟩
          have := Int.le_of_dvd (by decide) hd
          omega
        · omega
      rw [this] at hu
      exact ⟨u, hu⟩
/-- a certificate of an inverse -/
theorem inv_cert {a z n : Int} (hn : 1 < n) (h0 : 0 ≤ z) (hz : z < n) (h : z * a % n = 1) : invF a n = z := by
  have hq : z * a = 1 + n * (z * a / n) := by have := Int.emod_add_mul_ediv (z * a) n; omega
  have ha : a ≠ 0 := by
    intro e
    rw [e, Int.mul_zero, Int.zero_emod] at h
    exact absurd h (by decide)
  unfold invF
  rw [if_neg ha]
  have hJ : InvJ a n 1 (a % n) 0 n := by
    refine ⟨⟨a / n, ?_⟩, ⟨-1, by omega⟩, ⟨z, z * (a / n) - z * a / n, ?_⟩, Int.emod_nonneg _ (by omega), hn⟩
    · rw [Int.one_mul]
      have := Int.emod_add_mul_ediv a n
      omega
    · have e1 : z * (a % n) + z * (a / n) * n = z * a := by
        rw [Int.mul_assoc, Int.mul_comm (a / n) n, ← Int.mul_add]
        congr 1
        exact Int.emod_add_mul_ediv a n
      rw [Int.sub_mul, Int.mul_comm (z * a / n) n]
      omega
  obtain ⟨u, hu⟩ := invJ_end _ (Nat.le_refl _) hJ
  generalize invG 1 (a % n) 0 n = v at hu ⊢
  have e : v = z + n * (z * u - v * (z * a / n)) := by
    have e1 : v * (z * a) = z * (v * a) := by rw [Int.mul_left_comm]
    rw [hq, hu, Int.mul_add, Int.mul_add, Int.mul_one, Int.mul_one] at e1
    rw [Int.mul_sub]
    have e2 : n * (z * u) = z * (n * u) := Int.mul_left_comm _ _ _
    have e3 : n * (v * (z * a / n)) = v * (n * (z * a / n)) := Int.mul_left_comm _ _ _
    rw [e2, e3]
    omega
  rw [e, Int.add_mul_emod_self_left]
  exact Int.emod_eq_of_lt h0 hz
/-- p, in affine form, is q; z is the inverse of the third coordinate -/
def chkJ (p : I3) (z : Int) (q : I2) : Bool :=
  decide (0 ≤ z) && decide (z < 115792089237316195423570985008687907853269984665640564039457584007908834671663) && decide (z * p.2.2 % 115792089237316195423570985008687907853269984665640564039457584007908834671663 = 1)
  && decide (p.1 * (z * z) % 115792089237316195423570985008687907853269984665640564039457584007908834671663 = q.1) && decide (p.2.1 * (z * z * z) % 115792089237316195423570985008687907853269984665640564039457584007908834671663 = q.2)
theorem chkJ_ok {p : I3} {z : Int} {q : I2} (h : chkJ p z q = true) : fromJ p = q := by
  unfold chkJ at h
  simp only [Bool.and_eq_true, decide_eq_true_eq] at h
  obtain ⟨⟨⟨⟨h0, h1⟩, h2⟩, h3⟩, h4⟩ := h
  unfold fromJ
  rw [inv_cert (by decide) h0 h1 h2]
  dsimp only
  rw [h3, h4]
/-- the points n times the base, n from 0 to 209 (printed by a program) -/
def tbl : List I2 := [(0, 0),
  (55066263022277343669578718895168534326250603453777594175500187360389116729240, 32670510020758816978083085130507043184471273380659243275938904335757337482424),
  (89565891926547004231252920425935692360644145829622209833684329913297188986597, 12158399299693830322967808612713398636155367887041628176798871954788371653930),
  (112711660439710606056748659173929673102114977341539408544630613555209775888121, 25583027980570883691656905877401976406448868254816295069919888960541586679410),
  (103388573995635080359749164254216598308788835304023601477803095234286494993683, 37057141145242123013015316630864329550140216928701153669873286428255828810018),
  (21505829891763648114329055987619236494102133314575206970830385799158076338148, 98003708678762621233683240503080860129026887322874138805529884920309963580118),
  (115780575977492633039504758427830329241728645270042306223540962614150928364886, 78735063515800386211891312544505775871260717697865196436804966483607426560663),
  (41948375291644419605210209193538855353224492619856392092318293986323063962044, 48361766907851246668144012348516735800090617714386977531302791340517493990618),
  (21262057306151627953595685090280431278183829487175876377991189246716355947009, 41749993296225487051377864631615517161996906063147759678534462689479575333124),
  (78173298682877769088723994436027545680738210601369041078747105985693655485630, 92362876758821804597230797234617159328445543067760556585160674174871431781431),
  (72488970228380509287422715226575535698893157273063074627791787432852706183111, 62070622898698443831883535403436258712770888294397026493185421712108624767191),
  (53957576663012291606402345341061437133522758407718089353314528343643821967563, 98386217607324929854432842186271083758341411730506808463586570492533445740059),
  (94111259592240215275188773285036844871058226277992966241101117022315524122714, 76870767327212528811304566602812752860184934880685532702451763239157141742375),
  (109699032664856045668214896063362497021339186688470416858630178803463338613416, 4835088675770141268294878046681321747490758260515711581034896622314066275713),
  (33301309993451753050311554695703528430361259803437469669590207169100761277412, 91711666877231500617203373035680263572492971120307578300405368749466283229019),
  (97505755694356382817881959832717013755620551362654128955029190924747025549326, 39856815248295663243990443767776362321337592747889787217974905533720651000664),
  (104059883622109321374094289636044428849728529177856482232626205340719788190730, 112122903140080327253741791678230372394936108416576609264408917599318947489825),
  (100862081773581120499222301212791081193994281440454033593790618293887747050036, 29883864782608871580821802176208615141762369223249393426421538275393411672951),
  (38901272619685732968285380035171577070479117282397203902622597987558769928140, 87393127487643849618870152207476122589010570440825041333620493866032028851544),
  (19588375357829479297593261744848590434972900972071148260168833594658324503404, 60568592333449737531184420002591396163903580402725242236305558432410218044282),
  (34773495056115281091786765947597603724784643419904767525769502836017890139287, 8470533044743364938367028725608288731153024648869546164814808839694950063162),
  (24049875635381557237058143631624836741422505207761609709712554171343558302165, 22669890352939653242079781319904043788036611953081321775127194249638113810828),
  (29908081367423272746086114569421970207888665320998202915346633185016778189308, 19705544727792599099830884487151299095417296550955739824847212341657057716097),
  (21545045623056848826483343441081830815719530893582365358444562918095175994431, 1296978981679745807043951140304019026881137717020402959957988455650813508967),
  (115090238283566018960826468250608273126387416636633736439689841211757211870926, 47185183227829754668635270747409548752084785367264057948864458978444304762303),
  (66165162229742397718677620062386824252848999675912518712054484685772795754260, 52018513869565587577673992057861898728543589604141463438466108080111932355586),
  (46375854666189782329411331467438732923135312366454677774518044107217916677258, 28872066516664221627799718496556756366588329842312456769228220433104069963108),
  (99023490166718961467148584643029653267652245207820783364668071358307234645801, 75362751621984629832705305750958516370071248757681753180287377123479199292501),
  (38862517885349586199469132990077977525522399615397327331631717567532241615208, 56796032415390392137148811074183321813766115156763923072036584114852967736264),
  (88789495143442116025801984763830218317601484092281216301053684219001740388315, 14971629676138079947354454610178388572791590863859394042797260533911845233794),
  (49378132684229722274313556995573891527709373183446262831552359577455015004672, 78123232289538034746933569305416412888858560602643272431489024958214987548923),
  (48009403158434809478298710137233764200988036438868259456275038304221065242292, 101379581344212856035375194820281365028426536613141130008386086305632315345538),
  (95440839670107969455973995843666399663662641812074432045896568980475242364517, 67400892360194400039319989411395972789004161889863182881857158544061243615929),
  (10219441022991940610048493520113102240595005085840974180672104038719657072293, 84023467742492607926612431243360899514584580916128500081114886405247779677078),
  (12619776604307790469550660645393525758448419897555601226868753617320214526993, 86272100689574882152938150858861318820088413186167100601966648021512258522745),
  (43584328072464330665967763306297595761508151294385275883849271528835646125177, 1171731419844835688478928898148416329180259014376715189840427072871218252873),
  (101419098787597942766661010883841213675986572091206578880178916574081925093625, 53748097764673089702489673031527129553025318704228137363806494938199580582828),
  (44696466249196887777481833878429299174322536392992392205634510941844339159869, 58341336599715296255997469230977942456412351469447624645098110293822755987119),
  (82592391416753704330480457266605199466589998476548643675167586509583694299127, 96352244311289141626709213538144106127822954871227876742730890119647945927428),
  (58245954963044076335222193032419637688317373475605757277584156718458924469103, 12764036181290433088658499435961200322530176588733628912045896254235383420282),
  (65977930378964483966842705159007630837451149704819265634327747226133817150731, 106574384264472205627876631445935175739834375489227447805380155393950263965849),
  (55442706224332212356956949983947160877073898960448236395042968736464621521147, 5905242281663190858892708265754696019921609450612128937011632221309721495543),
  (115136800820456833737994126771386015026287095034625623644186278108926690779567, 3479535755779840016334846590594739014278212596066547564422106861430200972724),
  (96414945312501980282409358461754977502747357521062737878469375231739675541449, 108016644921439980219149763541432916357155273945921323318636524851968650287411),
  (42072772011086351294328511389423850314698152445154323541536957340534349973349, 99133657745585934968186133288050721248258413615930917407282740640761199917928),
  (2069755349039566255304036353648839232649715781170511813011535420394543798627, 53173698995439924366951845531266805314230463309822098990695656330917108292762),
  (112485767891133126222498548010271946438760990210983300801299715976951536768791, 85739109496996784368776054024999276184984966609644199395125789597014054674947),
  (54253141229701892740678441538472478126466317116121420289154985997987923385716, 67647191893224491627918802490479062705030965032432110320079555712709270724822),
  (50111670963408569345385204828013406423962206186815367070190059614189255189955, 96344650049071302355595011727277439354119658646232861677212062449792674989672),
  (109846273198995465046214558810696509369395695668678477567979041624391316796720, 101711840700253487202274292900077312932162220876743713596510869779955653950519),
  (18752372355191540835222161239240920883340654532661984440989362140194381601434, 88478450163343634110113046083156231725329016889379853417393465962619872936244),
  (31766568681566786811585556083273569704981103744700868374944839455567139361883, 42892316439533998508363691869839348703863091985464714880496520815537080971390),
  (19511180689223863964676874168627421459323156917296991798297923962201555596949, 57367979562017697409196531308288663269903370049256107839675184520239291074509),
  (109204401742901676102938274178210524270147101032576152349016621748734496666183, 93562928090829704595527535353598406140745506107437687143296992058804640357878),
  (36122698064134239917117034944532638029925389202648589133547978226819319812203, 17027329777463400105144356958107372283640412543533161381521436991456009891579),
  (91804187441772561664481510830917750223077921964002572402238128845622951625169, 91945440139593333380184788272080657792196709314822575974121657953469941695606),
  (85443494863408502680908561006538876660936831179320971186834465657383528300823, 41574129741798670788318102088797945519763253166412892215513009393101328479924),
  (17189284425153064836001861279656763224636129289551722165462018837400972173600, 29445779904272847763706160655321487704701247799275275841430067857695472241472),
  (31361859868524256934340493392748324439250961207479738197811398391136366390587, 66949045302018276465653829790546454755295341269007016439257946146448951430658),
  (53467956276192349861948221937171498503643177269204461230384245004177138836533, 4119214727602775607932521128681884153131966461396859633231677764244527094881),
  (518559790775991926153431284348924991691752894319091408626305042091127390610, 7754554211713140270585379622151031431183921268920287121212618482407411327399),
  (53058764004935428650100139287376587679652978405430403380587712871864611556376, 2918800479109537269737873642942211407706668016660669097675760428828773803651),
  (7470696802146976875048795875680307511987987110754117830917946933599684326041, 35498370868222357101075189419100726924131867018781426271212491175192595798687),
  (103082696326686084252692006348842617458364360484939043050040089399696685644264, 40612530833850030770560071666434436443194162318210174699750855405684277524469),
  (86454928033100054822938644242727206101601557724291916072342392316125160730507, 41929975541376036990359335647717381527212342035893043668288666074313354583455),
  (11045059572793568563399009827450521654436229950346969273826455203229685425899, 26950030226550877209429637342197821712469081306958210747276495411981785794699),
  (3424845089359850216662036433701154320174571538574732765710185710213042263842, 50402943044099287338970517565438553175068884535895555750200109900004591912417),
  (101143937713719082963090668683011527973146442333401502687785111310791413372479, 38862116509156141457510692564259449296113038651200971193676748814312797774871),
  (51066658180107921513962315407412637295052131625923864803877804316114485295337, 33347816669304080943742680598459188657402202482318798658365673129240153230584),
  (42908521165389054147656703915977693567694617347068492019141574585392160469315, 108411282694261654019124559002505901449633459510310773275932971604470807505000),
  (86865106983614620555782830675279365848528790960271514243101794703912353027136, 107186483708804024343949399862843037919568693300460965445053323392260478671799),
  (18558249036237948424307693058273877802345585340121675077454343655866234916794, 102925297616426326316829909679718431975894466554508612202063072243624669625978),
  (76417524908279090471280141612151274819536228432327196024616750366929236333900, 28547740495103478414520291360192300769496233495473526474752559351111853416127),
  (79261216420675310801454986871094078214179215048846508873397145435821838777157, 112870164830798121167268857427192869563479593708946619428596289634189538482630),
  (17844299963945865753556978175977048283527667030971488871107009726265147492416, 92339455426497992527764828083353129240162541312856283586209097866972992126025),
  (53566794082043239731631458522702919010529639281102255921088692156396552332442, 52600923530647757045878761903221944743155065681530260944723915263453709490582),
  (67990777350807742601404023085488753338978132210207570380931332031538910989091, 85792528080009126161701413187313528408286619337671538805045464108358228475888),
  (40644470064564665175584579054027955840271219296244836168773903573899753995838, 89198703056127888476103653459098745055229124294272713714806438613549071761262),
  (20748939091719637471895272621629400096581453981910040513983032651039194532014, 107007136602518391288517914008460549905372181058811316095661346454061774229193),
  (109111382237769790097646325753800985432696951592160583206768965440742916720568, 101869497968125946738442255681207126574780898195001593990841056036912564106045),
  (105562457083132745572708143974180364633865373973280165462544121334166431725102, 25628918875802021943667012249582785274069049593485836199662819559539854993207),
  (53974893190710647917392856271326699739646766314291179501052839205294496567852, 22123123627253076826349264475542573056506312214169115841604592410105799074722),
  (102837171301428769333771264773335921346950557806327713809549280863721245858271, 15164023296287171181043853434909470869363674779362801745003407514667801193163),
  (67192827200719728671013143999224641878827088629569520859649981708262221161753, 103384655191190246127885605668210506147248415550730308407050901448849831220606),
  (61401677321786128624431159032263749752468788015947186556533285933672418059129, 65545782242346006913034221054137782170449115459338816031208854498684321262830),
  (54903456146219450286355757115060875348400970025202805483700188422117596624811, 7257110762626116538834930806768650551131081767862086604424125342895754982455),
  (33238836385049624224277173107813446262790356254484721792146647050258190102188, 68765426899485956695091900677198638765507724712483592192815717200004462122786),
  (24007976370911127292608057090268039794368741649196644859589589701956893165514, 108122176419818886633859099635006568033852272535729709179944422224910380249873),
  (76298145411769127142051742143984516410310388698796900364544497222460493284606, 73411481198600422535897182689311125186386648944480927088108065877811504729128),
  (95798783811477552110532139218095995588261607922943497599304995669953488256687, 62969615922034445131819050050848042428434876063790599311067024316063183397028),
  (106424249689785792809434743491778818298150289868329582003793750155851559913753, 49930311026718593748365085023583718822918480166988780383065338740169345896747),
  (10015981868058348984327315527227986149044397160813174099363811020333633533456, 47219187787383500334941697973860741060370165858155730325633999467122388338037),
  (100465062236661070713292652798360405767974933403943197785038031859530698082328, 94188634306238076314961349736363811510818492108777651132739519725941790023149),
  (52123589984427115055350294688910839421572550614785792489607179155035488918740, 110935648994881791085672996607117404349410644183587602534412205839211144014365),
  (60099623364316816814360901080340830187927628082720539824424530667494328140530, 13168532797630625326505420165580249887582853122297745568490807466396307907166),
  (9882445446243370679019973441389370914782298169440461435976781902375353582684, 96538225645603539151345674925865127760117360282144134748082597779357475014413),
  (28521334929257642662355968364187618978461680651983966049366919313167261413603, 92001216339226101051709000074262638298012195154973025878101242482331580579919),
  (73191618600684934363477573887062328895873581780579362909629019010919633615168, 107578895931616695567160590117601145860790445681836575682502992073140827825705),
  (32260807620578486927060573094567194421889620277145625073289289981635159254452, 90489276162980686059013225219161110475382237731883191038134170438145132642754),
  (102307057510119735131891022126563080960391958005135852855745919500808248060288, 4758751832773844050529323980822146180231708918603439844720489409288611158534),
  (107303582290733097924842193972465022053148211775194373671539518313500194639752, 103795966108782717446806684023742168462365449272639790795591544606836007446638),
  (22192605861032339923219300220952640740143957092649363892436849832160947841459, 46523550145918266838590957012521308010601656596758343153930544136769822884724),
  (21841708194828928921666110851241958462886709384697305319615860361086400216190, 113487651941779314094220983893393587394651167102082064827741952919143428386628),
  (23863015881719216153051207260816138099927482493539250656531368598936158919647, 4186147428965581719261549093321561779791482494625560151183589172097408281582),
  (11083056710745658442716244053978689766248928868045541316920857988142616618716, 73295948688289636522856678705391718926042994078803433438999783280726367302604),
  (109505498060993265589267516557028234335074575762343151902387717331321322442083, 34703259824710120586099512839167510148099278997938800873450731840992711239377),
  (14373907026342837540790248859274986984173658260367602253381563663365555664677, 81785417689942388173318251866511952071411678624370309798925652125755161605821),
  (97573163324582665367447127690214795536159248412174285990449644020553366942792, 113289505690612447053339725371588416733632595634688575080315168267493236300091),
  (57171719647679641348870527589448445187713379178559972218492971811710413619742, 20384627872896850454765672663812599248828542672123482939352167575322079323145),
  (22988641330376138291556463519387137775168751717144469933681756424377754723519, 43054880981465441319990816631611930439085360624934399797394257936366286280289),
  (27014530906007957169531703425481274912103442539779119437726046076907210423569, 70052204206988426097199854494650803460514936258189950471015657998938191627469),
  (52641354787079659835760017335606513692779259671592999628953750318451309889461, 64568943818380334826688611802596472118277221273089442952338325742929836584950),
  (85266034062537391250069302603695295958363496297733629154359044325623246713660, 104008187123861977772044407350424193061842796463977286446819904307346548430832),
  (107663894668589988416485732804907196067323549228812138412798187263568142054102, 64119329745161208050770810592499096484002065820040768955395483699057524509726),
  (82912915632544328137725003247398238301133292886065754328746761508550033533621, 45428548577043322980129453651062737965397557139722875099846570462824032485896),
  (10368879287274847063683326775245528892741533064032799844366072780982279055029, 42641425814606490851272551281672045263853946447473496814652144068027627890509),
  (114152903724621333860948567490368962046201128763751000060784744139047430517897, 18179381626911943442892238595623401469111522068766957311520922177387435689861),
  (106134458340345658891368879553264730672951336951557149795602277080076735987097, 111437454760900401415457100214588370191818201503160573158882948552237860521948),
  (75877098474662534417929450349056078294512972958195098726037530636752650087936, 73465368254320768818737410323553632318291283168879707900928649380068364463054),
  (3414570185207774988195907254638111010663682235814498718978778746795753512785, 110308138054162063872434202072244781559310362415331225986456498158446496177588),
  (100123071679209893182588265588059937212528901448156035976966973357987233384486, 97120429522865428736604364081867499884484173130052754040658916206897719370828),
  (33158942591319202694013880364699812464227945537966885412147324692873653802917, 29916548433595920274169576651554938867030867506507533063627691297992682067500),
  (8867615028791025514053889708816324119300371263542482224594222618236029461047, 270978666408934671010140251149040886335834074615197330399395361317583393906),
  (74901340345789065325870760596348306623878342739272826068162779513906431781301, 14607169553442007236852410049041684566594265431374316230317606814245957553771),
  (112646285902968154960007259049732142913051411320680941933393840099389647122915, 46665699167462702249052103304923986648651527250540480428802282851073771668982),
  (88697642802751524418503359630328367758668035510641882938485860024669701757335, 2235526159614022905352095433317649097888860456206003419057354640784531036435),
  (49739765455947337879790908850139477504649012398313168454724745098982761739033, 71531864240966930926898922546635941869813841859894270770914769905489190838066),
  (59757199831985803063258861155590945323274916778537213861841761251128847378561, 3265850877202437352564708587060002316627909249385655507505588671348225171796),
  (23971227478092690611538379282579297124953800109492367109857348294863777014350, 42342609885299334444880650568116455571250837701978463648617679521175848103706),
  (42781960159024299958163639356878453190501432691827926213851649420102986506453, 26209845635735715128050436215405957538148584136159453271268754283021438363749),
  (71399313078669323736839153632635091547116725378263694980262817026165186043096, 179593823837196588405975400113484208972710106943832594511212919018539390569),
  (24828425838661184004508991236528869451602486262452741052427930022653646024550, 95102828470472291776057093815337685767671390421043125321484024336620242893052),
  (62678930172269932477902255736020956717314077750425124610689359450727554566103, 80582304425855373188316584032686331214527449736457838674641405739003129319630),
  (1452956467390776672598891683932543545232174773492717225355396872020281653030, 106210708175899152125714648298078812110806714734723933720377354113807359517220),
  (96777944576529843568623616193189594549923900341665273466455852419764434212376, 64928530209935528785837570607755040990449330411455168881156857032989327663638),
  (62745322646023684649132862278503088745975977733828615989586254929015600332510, 50597082332597324974253255629963107396520164163220179884187305565840999305806),
  (109628320075014294585128273792245302750581353998426074461709755028240539938840, 84444862329296695876149043708775677522579449438989329283646898689475448450853),
  (13661162488437223529780284863135746668136193310617544625790232689185646836628, 2725141752305645042166600835056169004588978063377366177153458734851714954166),
  (6837409311353477924704052842829386921883425040852518766345125123292025262229, 110555121555173290121244810177399070178759354136801374237318263535601981977878),
  (60482279861598026324891450061129012879196844844107541081542560732800263163697, 27860816461268183000230875585871877467313356846664789799312981791088511128849),
  (66646791630234139326591577184550968087417857699212399989636571843745903321001, 41134078302871723405986629958118560145935354479189196992992326575558874723897),
  (18939936175372704966619684659281995043335291131987687519984341675584925753169, 5110273247445873872395706108786991187530164512137465706847085393651236853835),
  (108287646372315250302004005968822622659575701687997551487890294546296222460635, 14541502562254259379822306259007623778368668276607103686021787278623201921150),
  (72684187906851243154820870568882143514420580027524807114087003696949417009746, 78821263099311291696988575287842738809998108579516346852160608780521684167922),
  (64336328363324589193023297699494412037520396928488829115368943381874835486321, 4343413078510091680011139600749557020698247330833368888798096413980913401324),
  (2220586410656542041604888376447395590484524605150821384768686228340123705829, 93687866685570228163978706142802425194183936814373096343597243148879373166652),
  (55837964219594216510207769692756283781741289506789867286834193280478987231570, 10750941633473690337302627383362798953472099004883015364910493478992747808719),
  (95116920250629159313071011249909344535487102319134194920427406418235055776571, 50533298526941319069989456159343178155167789960000412095042682770948899901347),
  (107102038646057268894400709182185766605027441091438117970905818045598729025219, 2112802716716561397916579912080045259470782930197091582866471640269026402267),
  (105843638853845532152862916360193031110420926036306437523680207832221757421012, 22691537929016007652134668400843972683670496397840361315899993088541157403021),
  (14191455994323772597241090149390194844060070267542625335030526433746129697775, 59126208799956174503414670523558307681557031009492850963639610510104987553361),
  (79400103836873923914306025192710379553266435369020656067274159416374944994079, 46718793984773011761475690259268575378836288781779476952917696030642000926464),
  (102048760830321828768081791276307427149263690371200632361572597076110309494039, 74764135891182919145292307591951793510138634376657003767602225680526827077017),
  (402275873819480217527543954245978242749948912216697339260697277277855307913, 19411896589701336237661297174692886517905212093130893753719983191330346751652),
  (71758299447215210679689704755843958591836307604804183950299428072268280459664, 72500263821549970948711038545103897381435913118987103230063346505786086063778),
  (40310417929055891074976476877034803677213564495612382129320555979658680066630, 80021093934540213408010330224258582906083447608942586519179154315665352282518),
  (76324976100530430353194997599784992873440551575879895172590683900121005569689, 49613788427938901901593788608815108065140686210466220884072483877520420727879),
  (7790783317267172834968346439942667919217608571414102463069902506006924306820, 69452029575773680160251682212807681667599179573624670895785471803329369233316),
  (65727268194460842226259506794187686335369294489790141766765219956999760507792, 36788598630313333837149743479231637099120786861251587459717240627379645006483),
  (27303378310515721253835587113321634772016550731739363511996237148455257483898, 80582819723974876869430539657814775212783941947283350410906753482659064435287),
  (21953210293445555741227665834918102399959447528097380295455576322773804400492, 110657083551555239721457722293944467723860174388616998315789722813223957056615),
  (92510378049832975603433425070862023925662627126255680785170759286499546284080, 85862364091183472844949602725054138465018815696031165869588378499961359112979),
  (113840266466707930654249274604802839738770258324647988476677705146803600128323, 24834797637471105417801710308529470732916716831133430723719877741587502287517),
  (89197320653178998083960634031017990577948064961146565164925393211651089084823, 50224652933564676709972338867828804863403702552222326295504708117299468001430),
  (111340558129144448273974239175381450982826818168398471162932675867905506011066, 52884404251623360387220478293990039142305802128337157307956879335458953843719),
  (5464809303252995874953543585647330288383287016402159030275723405378895635859, 88359735778659955871396998177945573731869575625065315132521753796457392781880),
  (74861612528838161890295125250396748370840079405967972369619411947203405361669, 74060639572798535227261152852429407095321284548306599266827704900172938807464),
  (75443948778699775046128059925343762707883891751088032521369965712281412101871, 952164613442323294656842609631821712946557045285039678103421684085639781279),
  (22862385227380654633693337396541561752810459689518149724905750175381976175449, 90880888130827765093783091928648069067711279903853834156390274315646376332885),
  (23741880451902211857013286590982730645815446494508729746407845098176557337656, 43836354831252764346671538997472244187173804128227773368689841922200253711432),
  (112767559906969517734070371214491624918866404620157571634690161902250515369787, 72845164100190755887951991952383548389585920995792030639934862876119291927272),
  (98783134429321140083261292432560895618865606245854656202083437161273957180778, 33346416117646425768999778791292938120152021244092585128065165430592659792010),
  (89093725069898870759440270708690878122404820739397193930600736323439916952442, 89892298240076621396356304884672556839265805771802613627057472344782897261926),
  (88666181792127916028615215592330649249749175863139225491038114953247066886417, 41904977563618648328334195867598547024675554493689198618556218409739940242132),
  (47580243025605880414593334321954152015206523755790410380589201402504367108226, 102947817352291381686018618598139799018868317663726522284403103102832473247252),
  (35398400821360451346887634736984847467023299617824124526114352581549297186050, 53121743005111592187212573826605385061569135115754153432241703352318484833335),
  (54575377476888227190831071069348117083842300900801169613971251305642785447346, 47525779811200040351165049385863153961607384583209587497432566523721512796995),
  (25085111011303344800188373044680703837765876382350035707289315497163872923114, 86085765363740117895288682158008141911008766971235030046930514741528291806455),
  (11389927412185599381799110556350307549607661367524275704041642338913360852769, 49101322349177748124396489944478922055078114798222581627607954673488157877177),
  (93577719503396212705244754738501379599178324086222710735103003326043181764134, 65059353907962383266645837844067088973384727978344416062157140180157580647533),
  (58984353052567919006407847957941176819626280797157042458749748447561891336783, 82232232262558124442849219940080972064877404963607463551891156976046999335809),
  (81857878982413351540166761521739340822176274163993188838627145151780228462982, 26187831543868930940862049240612970883979451882984997105154225522578749941802),
  (72579943475897111868398330638151128130564279293434598704225447005658478650882, 73309658257140196555676596514180248862682522064083019693436054718687843082148),
  (95957891894990729355270031496487107059399126207385021429854283717661932963342, 44721874067887808626641797746327608285619629136628441072893666153160679394644),
  (30032394919472790467988971727410972979310286425239140521900473361152951968668, 22277685188809170405177006727264185967367379000578171481308640657496331841873),
  (32689246034042578872614241160583588786066595296215897679470354239779065172676, 17031140399023531624116139639174860620403101325481993387488041113355368075127),
  (28270213161222568084468826043166589826121572158439298411196580581451194901697, 104621395788367269150683872247391636489961620009570244621971766612600602777931),
  (101287925013493180773139835151155600992565969277909678471863678035270454529754, 107190086214868430698883457595956703212448989000381679512228466477243968419095),
  (18740831963075304116777719791611157219400384592622537648279499181172967622131, 67334671486432354227415419650166616859323905020665712436700679052752860674239),
  (49526425839599482516486226608051261709343003736393485128250591202913013131353, 92846148294287107954443737530111402651710931441266929791802260204322737433872),
  (22954890585207122889251967381603371830627834321913959524326177267671147195950, 104206378955696402340434681165371975264627518216232525222532493416245989761814),
  (104636257136777222030931176343564671670738470582329300346982886260914249815071, 111165209081081873588991858942615202093957299729365687782184333975453144109349),
  (97531464950862927129847078102679476204008792981122835101383963017073138734930, 65655049125671561629383094125662919487530953892186460947532479988067800895220),
  (106562784561476301201583192391224029924652000542575817118033048327603765469708, 49177817498499342586423374160813043550471194176795492147952960816434132886078),
  (59505331166034729106108168770718792418213360056441445208537234036851029690467, 59448801799278824640214036038274712689596663706051409202445601496682942096175),
  (9004701624049978067721371958062827067943548542203699441232548532372884924738, 115321471407261187725354861332410961654550114008487992451177158045678792388081),
  (15278684021746418331198785085650597023916133154062385408616397547139775732078, 96997299790602937281314267083938505373333625496910680148665785479192336686170),
  (107689660931187166085688873154037254359731846987428948899748031796913562285642, 12119059790264126209589871950908639775766756580166858413087630880863832269490),
  (66896929154692082838721907972522440072056472987644237677769089634952026750677, 65336297583373778891183756423697437346537036324599968642759710868331660816260),
  (80697136530146350966936194947773803941220487725929799888115927507800240897408, 43056387872664932853685962488869284413277974682883010132567836002827948712995),
  (92883563547733953747193399241467975295201508608352798513009429659680796014075, 114610965210433134803810343179237635280663098111701848326472592228175073260197),
  (115353821915465809481755899893437437675065522484666040342125980872402050249997, 30533262590578091637320766344920562300570398419635207956351517798025380622552),
  (48872971247045634641793246833235405276896513926495150962651988439194565084199, 108375830245422400309737425552627726530461265594975751665636191469912494666415),
  (64022754770321198110432962454405456733381756250342463267858180476037835859617, 93044553973374080419019178558525363683298601925090745394396664743351837484888),
  (98879156933177389840416984995088389875452749400071622272110283723346378312556, 106981877284678530338366015191332753367222176062661361963868627641192812207067),
  (37476671261892964425067828896482050341777889507916926498371020081068698184547, 5533057497538203730746641347676920855809685099750290728358882752425957503861),
  (37234630966694290699669461809854574262039327626606668695077795866704216261481, 71031524387010190232313533625527089028357812785024111356754585878543896147211),
  (104116022349196062766839468859157274517254565610206821119731726173617693930322, 49545355878969033437633325017101074148462498754476980213385681245294645934717),
  (56776692445230616629432297205307529057934336962899922316048180220453958247829, 102550639392716941899956119763943184352704475327295390114931727022151475346920),
  (57530156420888156521475094364415218704229008374207888062885627448441579442579, 91534989503531398104469143498949820734176139792910479046624792680007842056940)]
/-- the inverses that the checks want -/
def cert : List (List Int) := [[0],
  [1, 83174505189910067536517124096019359197644205712500122884473429251812128958118, 37732016455592228448156445462498416408852156224504820822700452822953572406827, 51410371224343505175735237779717742742449279174368213043924160179634069610828, 105137230106821427605700623407056246816456425641028349624909559744443607050119, 10011127431907312015240835315946756750623215227532844913172879915361523444494, 29674822334021181273991182927079649595429069259578300730925882756396423714529, 38088852744037220562027430095389377592540589219958907919633870903796388577335, 78121607983460147158929247163275718564440747767735578558118342855862542659174, 34111139290015595864716040645674134990806286657333183717913164249145163688851, 43151502331327495908668208900787506017727462031088271485076058491670110710674],
  [83174505189910067536517124096019359197644205712500122884473429251812128958118, 37732016455592228448156445462498416408852156224504820822700452822953572406827, 59664832417146707126806872219604076862365003220931845411494403815142639582090, 67434378132316600878127537816705696754995518552770503114048744213234755981245, 47926390301166162146341608226564267161702985075467085554249245385825307698873, 101088464310614723967126391269293358943597672414203856418037031189166485817561, 28784235094671112167371497141535642449450705727913634606627370454618656176175, 45512966968396999460140169522373370079308813210811792244604467455698204117929, 21517090273633415541847347291395496867925796213662939569307891567049314928844, 34339942770360082529727447956075528456276486484852912093936960153184379388506, 82653987964764592327515075858024836297104734099288782951569952546681041177949],
  [15877653025403141340703038558535355836294042661790195892768531101004629927315, 51410371224343505175735237779717742742449279174368213043924160179634069610828, 54577463449038221779767670439623653131895912847683284160137023464290154774540, 24754177142400168752650909401879108562752224394928842535738356001504802075577, 38481504551828624814099969440923030333377953766310206939991383915948143285273, 21780114866434964842766118282177024771060225712091236411660359237083132332841, 34343326510603340138401980407541554106621399186318633799930198801102084523635, 4392001885075489301686772800327760775673266721102277671371783434096081904710, 80776925650456018850463154986475796937770059201997373124064498401819412273173, 89021064427224432823696490579264589338668775147565130578903351925347351929818, 94900165124239271979943702129491045193070132609198189149671214962883040826344],
  [70686184026762035838859944853645981504759627492080944382114173618537362913619, 105137230106821427605700623407056246816456425641028349624909559744443607050119, 69081642741140449488652108984351200891644467478469502924253688776187913134585, 104572543788755820799017685271299538049165719930237705536133495446260068330864, 83566163868681285151092103498597662557448558938989870415656345904642703026728, 7763210748307745613871090786021109104216165894080887399927051029031874517940, 38257015437753373346047720537867542015536952449034577423060008571701448556744, 101098613222992577489673361940494416599074972681248647828113243120333767624193, 36400704673750084548879151650963776710377640413708887259370690920683685716214, 16937524146137245221216868838784539809475169499651791864014453267160674192679, 4051847825410527754152005271178991719156678895518686706292199595123748683389],
  [66657077962199087664045484347419204300439014068749100703266382235726596273569, 10011127431907312015240835315946756750623215227532844913172879915361523444494, 47866727977303180462840262280543217933165690672440963051938986029901786849373, 91883711082113522564276236659411760848960188453153332662294070847647339002412, 37702012775592307955393909199876206552960282338471123147857947844099978796125, 112828130027571145624084984686307305777919592393604057284553102822005980131061, 27644107193562724345520990290012634983878624291271010536583116960583982008765, 53028918685908246250119850628899795020981741069436539283644690031986536401142, 35171847810509302712724453669259896149256574487608984393664325777532361545955, 99296809141790056447793098518590539414966560137619913097305021953369700757172, 37372880329579151393370528576778562064233230275550274171210567681070806199211],
  [77433235487380466890559428888709429613840032198159317598751654406418110423870, 29674822334021181273991182927079649595429069259578300730925882756396423714529, 50144530789858565859255901414297395474478559682630576953270568779447345463412, 95621106232342717062632804346848055230726682377461951168283577346101146497412, 35438329244841470931009018709166861199987892576857176849169006852059119731188, 13940715938621527134927317154678869698496074608510582088564337631137938245463, 13094641650565842504914886521190448843138765414138317207507719745990417728155, 96967727826673187098370845434593815054056351230770808044114736485197749392988, 76043040284204673503236354971761878386552923280945964071054420617245925396299, 11226145293934169161969337870085577259427982698238489935920595454724028732373, 1895481433958526070305742475659719985941371563885878680864011304141884689689],
  [68630397971506920476931254015416856838666120859616052544738079794755705986723, 38088852744037220562027430095389377592540589219958907919633870903796388577335, 87949175905799208022366108036840139852762642045706920154903482822120798061920, 17135723284415783310523163899348393885380040655216696950700830092612123668655, 84838145694257499366827477892487405338242747396497454516184116840880143178486, 31504722896837683389244057554855552072369340436219490361070574678593609226911, 58611725690371280809902275326353170187347284030658871623114443911117958664942, 26627425041950379561364002104736527858174800193643149984898504386564593160159, 60098120791093836643499118434127408064892376055260561398837226917296969057295, 80920177203963676347611100284575612283253250913847041971211211697392964241832, 48881396841735197320856694134094804790431518552805555233798011346269800521800],
  [6050317517152619848185118403330367626900871899984578894960649971364540042135, 78121607983460147158929247163275718564440747767735578558118342855862542659174, 34839536624988055067172160481885105818893213563391174948864400764999208982412, 114453425548549719770120685115486527671749678361842225762738906640613473474268, 59241666957557833276613059660890528590900753132051079472288818109940604583270, 31505423622783339840703465473919475823498016117003533019022108809643933608350, 48119993043402561930459372459138967149470012177667192752148818770810790183376, 23442304921879537869516225677765693585647037425708648991514035354579483558854, 32276832626965022519725560427398274493475463357660856852977627407802648624522, 48019047443762176330263339901149489770606005533086797414933405630382478184236, 69656030811246126592645782286329787410139538944250870338445244846828063054178],
  [33870476188463207450943657917292094569491269636975185650380454200234636118344, 34111139290015595864716040645674134990806286657333183717913164249145163688851, 9476375040746675848220143793943862797869322300512488888195715295747129829593, 66969556317677172845720596849652527130762597785198979381492611811645775117310, 76664843211036443009801060672662426976841318206728646448255149181852876011852, 31222035899204017649130505109724999266248557601635977680700975656247555150323, 98846410547476027726331258225697044101293294158866329195768083806492180907302, 11859470624747476716978437227924340444236164405106280897319324696049594452160, 16783554848647211426668006345051635985686508257236933492317748475207707572993, 104482174536715641732685598143440364662094823627562562527629655390959089592232, 90284111046575897446242441747741100163647255292102482191762179392190233501282],
  [105209555497132177568434637888844274363295247855545789233554800861191650341225, 43151502331327495908668208900787506017727462031088271485076058491670110710674, 61008887356373408725115578947658550104541525748994478377426247170168152042908, 5617151156580022949534274196121884718731234480075934876028705608509926709161, 26587413132163269949005611313253607138780198197625132349942975980401013335468, 53261715106530079533763866992989705553015138836500764501224177999592182934211, 62943933633690124142589744347535183957290595359282422047065573354756821293925, 37739937892624935919969980157036606813887120072555257839374647578132363678858, 33626229008302416008728101484876169877286076880972285666387538690566365796850, 97841296093804235619174482271369014866681039482477656682623415521847897167175, 79308519611985290944275437609344266170307576512891598065279874631308517006305],
  [72569377785787298189552216345037512868878773354359522201241217934425560094346, 90260009669921258217578399229245262446406023474304902254795933737198192812867, 16475721293317866122989254119078353550229126330762575666105918066173886514920, 36570607106210852999771757677968326873271961319740048678493705214775625715746, 57790782801679543231646360824523790137612473846292781718167415279937900164815, 16361332466738358621142952355279501959124654489280263716080312644921865636578, 51677314598467530242806920810139054263277489839615840182114773036334782081125, 64198438584764694011399313289148630555451122745347786740889242377597869794983, 97641155222209425816317717156469153895823862273326375817123136572627289005051, 98348714782000521651602509245753132256117406105821158385401311658433616993351, 10049423048258742361214444086872902198317076582036316584819030498113362862120],
  [11063061882690413129626279974183494708269329109072204869887816460196186319463, 66722807568415798503996882117430330018605992805282693790718229962522734745714, 107615046092163087091839194591228252815111787735369691829451442832325497352592, 1130684618688360583270460112418057767542911583532539517178853367460810813920, 17630200855789980990878208746828390719386014443772507334501302088111481137315, 10396284510938764456019624796446495276257298373989794972290343784932283765754, 98306921768580035909294892708242884250759245038388163819110831126441367104315, 47158194796394792196272221057625424151268226891133140254373668122388898787785, 65607738774543056071523997138313453294049176909036943377336309771150169751125, 18450923418236814570953690103488864586040462832592369456038407323684168909435, 105693837769729037628745189880264170495610000147152989737245757433632182831293],
  [33021794895804610881480688951003511869390630816319797741410573531744257891713, 31321336845348074122957826748988969909593901702202159336836983120194851095440, 33208266568362144055971238855710336942788905204741396726902070859792237744795, 22809536614158232336921259516149169355927023150021251807652451097886901100967, 43754522862694304927623047251750850588481718996657799953449326859052955465431, 6397963529305491693905212982845255367134662930440174763945066490121554013775, 86954518986212844956259050184055901445737255825105390111204744621326384693360, 74234975493822418455486804112360078925518123633124585488379550050478523048048, 111798259451117377487246038030824392699288052670110227655420461049752099244767, 17347148818859863628228719426509727946547421545131041586529892327942601356563, 51271999463003182602933219095410307573691484986577628663248916250931053960654],
  [60834673564106368055635332238521193003795992256135639093648760764028825751489, 10464606811927168450269177742698359003875668665547057887775726258014988875902, 24664096694015077674889041121571486820879775350490439746470137851946022216590, 12238033536879283682871315321853703247413402424975482433365756317171039188677, 63048574941259432779266982090224738508263110273801367093653762641451093524464, 82546467366566325869674441663611210448981377963623933624842777923469925156020, 60452742019805336268165903879459215500299364980461158004821899863270158487697, 57800433825673764906576734598912803618891663072387516929489328910829928489358, 18620449952089505687011304951453291117833707741239688092208563620719308772867, 111555417396176987794497237333382853367438431993458663354001770539759993802563, 69793926645582432028342530094725781093353996824729453452327654983751165208608],
  [19863554777592988435310569647253457956965387365262738705910870337854354862658, 108796582782828439560064479111175632903714278743221344163101022939023836396414, 4727730300741972458599940464101676408241258203734210203825759994195684837176, 100162317823567736467871068701637905713506773865793436420686065188818127383453, 4982238911728103805813207839743129484914345246204773333578455807108137245772, 85720331315202420677704370476590110876466961232244765992605483734518716290977, 55074078363344119879162903819044926372512863632059551847545899866683449270687, 88945094981719401351688303994172510031770027678812961505087554978305570288766, 105481881804806304939034227762682370448834931488957008944146343689534101093224, 30396264103355973338556507076637681933389524019995282803455525113051980647518, 108452507315758611365066321698039985889086760373100044937207141573829314784903],
  [49906870910788986264653152184500212253829070066206151089273372821145496569100, 5339095193376612354614601265620864427444932356559684249603322000450443229543, 49938191152649990112301376427043802630781440693394666269838256983939645919915, 63653785668828540042208694878973525415436578335856850516202851079881346169526, 96982050238284825684399127219958224250301634697258057959028876113041414733434, 59005456238948767241677626917945233810932481547284837772451909181183765638516, 44498778963872292642189040244075819711226256529790883204452401444204507657272, 77998385004085786731758696960494803246386073304193449536785188113624582076379, 68336303495520936458300492807816311660041858187039397258536343319090888662129, 97348310500057018813457334340231955874723093037079787131525932219871908685674, 25760167570232639830751462032003554604067544268153898240908382966520896819271],
  [74480196207221002024842424382909766101512763831407216912035162464657391293020, 54462512596230728813393386322903597044853713985516867954973080314374483439053, 14892882120580514678478176869442666976013022551349090001870868411245314153129, 59642264544399315362280561210041941895202165340718248677751293003382825360528, 96838301394483157623726940138162650823165154933192521709370874679919866181641, 74384293404996126706328769968174607037418106288285168851432406635915808068664, 18536228725865076012151438357974781039774335435604722531688959559250155403191, 9014590619164306326034670748339396042899247435252274697151933220273388050847, 107913681296872874527564800781000283301387148106800963074106480852050216292176, 12315062466415384102505015120189775213386766404446502931966967334245071227533, 59890636094394653133491869237763785013706471511521771680568046545850622852715],
  [71950577052671025854940876634677987955560568792832144809243070025649154995893, 31795705618700471283138302849545881055774386669973567127800377537035342644381, 41711627197873234071871712064002385394653957033829812350296068643304998898647, 94009970422686649211216819847821420922120393937647927252749824823837898961288, 38120555704765378530354534239831025989473480325066358348827413012769921943104, 4246015110220154565481152444382944333925662556378537184251702090564868066262, 111666316444607981993103547647512126430579158994423233991772010740197712930906, 1617830658521833644344045216770109202359132126213226445113321121041854154220, 95670277414521235310914694065339958759630338063133346518133241017889638349440, 7744103200342699124253776842599950530430433204032656660334596572854955150246, 47988166436702131110028366622238787441576987889342346581095070281857400242386],
  [62407123616426789737415539337459431374075294263375207530885298386503070926452, 57860059284736636507283252630961177762746967439717486013123971780295457334719, 55823178149183710132600691875612408685212993208845409141616122604083872275695, 111781309146036364793289966413136900412326294444890050536390276501996029432550, 9880905610966254834954342067854359774141075536883914488646932348077659287749, 109656322589024731011407795836584918490903779539983343296036639540523460314553, 31171058584685163716820005932914827946057165611822315549501036447917053771848, 15830280634828720361019637517548260482206906357475345382477967495958280881083, 100958427781001745593820713655257261706282461384717658804678008812515980306771, 33816873022800398063338913325580918139325683337076639721933410793610601919101, 37917459669943653042692167869430898873474575455313263084942631563990021143570],
  [58153252428908006151572323859234454332934963975305500045759498652317216645794, 102736005983815683987061578606745987280855787648157245258967801560904748420981, 102437814203836480341327060722164858675302659594966947951779201339390622004639, 18763318550638000462273841996106370322797976654427830986825988822304705626724, 71112225567123046788949805388366518398415190045416633567303134887590434020540, 53239728079418277389419721394207200171603644635364977957100336361974426756795, 12766041095556881727325650725583785231573197768813156792569794827584127240687, 17046758840571956696681130327446072389836780980653288686285209985648339689623, 112975823431500097010188516972939648127974670216992577191573960742939163376185, 52993415965626920574934206356955143817293742933191260798399211025369788843931, 11273148010712347348601191460926242255681118220156093734990213688811425986718],
  [929276775107592634361229509482089835091956349260420874764980735440648564906, 73971986261735016116215832798807134719347278250751096126319681268779669899284, 48949102410084045919699833392383947885978898390071716032857930257499960812146, 12667327137748052880176475826564297800788288008178884677414674272456417772598, 9798119861136632213491201376255772164051227933553831996715356693545548303826, 109777540678342128189369674407618758011364801838208523541542232872782207681546, 80911444796285893914784010265306557072177516411938255191814687067698696406165, 38455441551596986345054300021060465817092772724870459442666989673372678259231, 55471117133548427015043303642207599361321938285872596019417135305042852142726, 97929506444544420812992052808858361566231798035652745788642344282214141593340, 97391296415829964044142126688210099098780577037670097209764876327029243269176],
  [64786881942344890937964451182584115877262578579382709796511799161679910461099, 107710311686634616849753541028532361295824575384338471256348989891530252384879, 71309081869450882686107496757999479042646180258385125949069791346057783307817, 32673779400925496421766097849304333563113917444761607181774664190117709654842, 17950804109741931746675550283744085890312497717758406860409543684581541525386, 114345617625118329152532250239049349225972881305103381290796785912171237490446, 61375867980314378778694379803749543796118089503328336149734460036046999739218, 51540426841707836021483456125763039292378441462384080612553243425652391440089, 3744203411287092234792281306446949093188155486418894048310829407576683173748, 41822843904706108675105283679134021150721787739595369491372101658063575785532, 41480114563884920371114960846834813743605227936780232929028292558895480619626],
  [75192188299799306769667571180615583006097461703613369643327233122664137640370, 108354015197873719484957158889197237711504601095371712109659352458236619290974, 70252921285786567841052640777629830102729997915003328685238396035756847257947, 57468643563661215124277355731866640764535836286241852466447385218013127712287, 52506407340327547166659684028630602750394644693221493833111971530943318040404, 105760253539006749280150890864875190656946235978433206641944202763653731563531, 17870628275180205851499910549233029598843639249549324064896883907404460480027, 74781284797940240848966746275938242944303901093162837470252200642676092233819, 64084966680054970899205268144973942895414271776031012037878531014166207755965, 28623180010149650912148073470995607635351882139199884236251523352441447113589, 92485241807094415571383810770995244260291621585909701324395620859717437325763],
  [92234297766821223050755713687989893562538638352883577192587888939568046874472, 109386824632441612715956019249650123635089116663388732820590644378093852295672, 90199226828289387433066398182114117204330548985217973971485772259431901692981, 77595102247881536914570865478065394071651942752960096981364000389523960983814, 85609637707478667932864231978748772633480161016448660817149854643265235428435, 10755502434186910981196821863751178409791607144345819449305515822772851358124, 57608572475232041349139791826281558124088455392845197935414703509751997237903, 3045824711654937643586114829273791510953221357102596239445811507273443136655, 29332899497450416608742645019131530929934911016004483979796029900442659975218, 51246352793860082499506790654880773094354008618391591873638126260224506374619, 24259578493535321981812767946349107800573321376651431313741038178204708666235],
  [109926015908233300384161711703148562348881572705840465181433879803286114846035, 75996920494934109008511138557752156242954463967161110519954925809596577914578, 31264194481821436916481637952283198235296658063663664173904043089355888643751, 33748924528461029359138061116535602972918557634471185932612230811320565886642, 60939921324399361047379778141196535992934630077932105608646270799881112309227, 97614436597401946861010320442530145756985928259930058848708939642734374258973, 33376394991302209831717952728803556094008694516996723016977576046023441940101, 93237148269299752915802410466194042444150451270373760784135542550820837303905, 47301178013307141380367456922545897285005878289703186875683221314463834786201, 47682239996545157461303033444216811409424579034205113980890093751847230943961, 39918838207909443472944600361525431800336464380364467713553552258171609500409],
  [8708487641028835339527527076039977697175060246887227349744115490340537177040, 103139663204683957968817300383461882621556393307880814941162944769866513397071, 108589216344857777667626765814457637344042237816307196196206702154181409731290, 73672102488429288333924836101725314826168966956907238382040617427904104499080, 3740409833659125496425455349550383416354471196426873196026353576510614342789, 71648234101928139415317161125608318972512398249204124014083923682938900121016, 98190772377831750092990845905927364076290864016434559269168093099892697206868, 49553842645743360415612635727955198414486572279945536584861858131416455628087, 25733342330851461530457940937056563891478175380882144099890535632379535506038, 58202271447040175212304525584033113919712250576179287438692788554432727637104, 12303274880754438893134905570522757937925284033677041044316818747354040757815],
  [43802896676535896371223446297898822041036647647185921045029359007727928644890, 107114891270440594486497851131155334119832099255637527641104632242198552341830, 10684723447891128051395123562317176721105053660509244285047673085979903415839, 17389692588046794988681697155621916966797015994826451935471354545818404213803, 45674098102663999064569341917570187586992883482969630487701098717147336198896, 29752805916016458864496375584929794579229968755149350538344111309360097669594, 57968266286891602004803589776966454551587114005942288754891687407840477382522, 88196658331296102819214127242117328349210625403984874473917951559808071580732, 60819141199300335484998285624737342588281109202131826858205978420195380515798, 103517101240644706072231221373380088197214892866375114017960905363910997991958, 18823082451505976337303830179892210520668677602753483184325648547240365622133],
  [46365977887337297186781274852804951195593447963172147051004690251360650759183, 69160058621045236064612489816427043431790340203210534609411323447904329627788, 96853202716894073812670263881671742439708422963919034815615727144775810827937, 75840095134870597087254277806418972057991026023162854651574158689253131625530, 55091943621598405634700036345047109394097115837101655855498748029139637902002, 99338575935595908543109090255613169267593079277468797719638534506693939864536, 105365130464504436953224631841847693361984765835689082852124408168607724608453, 29588064796414634746215484899574963311662817421795978041464044464944006573978, 61203328245543019725732224245742045457403994238312853136021231008583302466894, 51824116956292477253480168417614162078848936079523647081979204120849295204055, 70024391241130599205616386280949763093115961332820385388844949751556117373709],
  [33514011900740747231737670630985592128382762517627625201378558990005282997044, 107849552024676237027421252484663227409244752994387719681674917209571353834865, 49740218428257717491614187387922721992522900812723209375290428667328763969620, 49886215692777479964500351446674911287798520460210566131772685351803103062824, 100987459014482199645178106277475869212092778104998055061968127891742113544913, 92563193723106254267764505701605543276849167213836326626319912173758491955892, 76366503138990026445706624900306492930694180569387328845761024408608498339847, 36564594006779892296968928844189842140031138699886368873983572297340771493954, 9276094044398695944574100061687536552581779881620369703742743505297649342601, 70915576669815654398713294547003494699312539391080552455573925400774581375773, 20702835634705180905808563240017359356379023212542775576618877883238319191946],
  [109360519179729718272373671917034236916761828788467505078602843718890699150766, 3397239027358226963286116004203880226359184554687381843327028181146112478277, 31236226146299761218694837226828249370128093425679042630136765923183000935696, 102917284118225809638901059504273212600918435988740636913278220558031524033566, 8666973746699161199242245009003690781405699553368547666886916879288034910830, 51345684233833063238112077541908721121231558812081443672012342856756567147466, 59858412646587013990589288083270599896487833852532597918385484778744105562647, 37497607044157200370668835375814683382466777739513831493361388236805439231994, 33485351604150621157114710085042059717640348883330433620642011054951276111637, 42105486883718621483498301981387000588956395270225902637440881590813788618034, 81666310250967397428488218238473443617586697867081240636303559018418098607726],
  [40284411914038358887223502785768815368117650903132402341270137580473516056053, 54545299131648465333550184149207467797136246020421487138204252072886476525841, 76349407357747969274397181992157170642156116563074308067746921575021609200753, 32419147915138123004365749901255510248629331258840948705010327650563395609308, 60967419967585065488159524777327428248740984359045944644511566087467914614705, 47803385948488435944771215675431844987374742014153140765432214892903520918272, 10136001262347132997737964028968676577845937025971396093315412223528078231439, 15713793374522643115177821195733855587967811427522518566248871941827232088468, 18397526919661587653555204859317385977851344087750652952004686863391200414799, 75752944973718224124970039454886968528072720165019687167721497084998676021646, 67683304526635810300865370143735979551747837856493227152750406716542449158044],
  [70219794805943807970668115888144845426970406456572315343547754183576299714394, 48277044661857641103718395384662447925906522877818258544652563443410271604087, 90251222516534720195283625154466467543433659071020827875973935934153553857875, 53356436438633187338433392870557935790386897954909801188713128956502946074586, 94395656888278161312577724984553474381542776938352715991936832807153156474569, 1095455617216146311650587551106844385932991889971230713546679002776628468139, 108334656840838014301137349291609409079264376637814398739389540335690787591389, 47166755670898379212113092995823456342136519039738830005404758484801795772888, 28303870964754918193167183451476740653487088125592572841122531042620898548352, 18837657044270027290125675224033357481659501201205162501120575864469119772807, 78047654279425536721437825651878671210656822173952413023478614747387768139950],
  [50640573084431175486733274734355813874090588643637367739463730412737209720685, 106016318307805480443139604901287395477440228096423691104317693685900312265477, 105602522269404848785056822422617844610712653966562962391728669741045930246962, 9070635339293316131404097072436264648444184484956619836514035966964660169983, 112684005217310596848843891969722649820519066183709428133887777778890227066869, 57805207644558790979399135968023860374314927241455837674484086784238728880586, 65899110223187947557488974692061177530363634614523448876937655177777654281630, 10630049966615554667550916629342486785454146647765611296119918614633084992033, 78189550110407053704682683649571763769073233506300134397762041078364811172420, 45950717564059914491383528322878023510826806267748058767806548940300166849821, 37202266642033242232373356009269469834014396217051074716304727293038313427542],
  [96261620332139251057262659472035869250161406823151526567347150186503838115393, 110395502056210659121897167217578604606524549987625276131059703967534950957299, 114455940932277761507414476834805661768602495732319697946856054634188952702610, 109696446172615734724574522327022020074553682964642607748746846985031385360914, 107258342014082279769716404693614542332913023114906746852517780959545478348778, 66688243898619569164649288950662508367209603076869969450874647572010064356112, 79166830432298351960254565591396393190573693345862984176067720344529266874090, 51138831719809339204244413261426406301205028174412906461586685153644232804803, 89016217638391264959508494466981674486102372903468762183201524680289812421981, 5011092640769612371267109889859108396559607213855388925670009156863440943423, 56015327745726793966601067120939187731191196641583537554062585307074698333139],
  [37896089349701144120978481140418041807374784702037106184406788854817493154355, 68946582211585266417490610420795558678793263811250787808775343945726169390904, 43002512788376241079309891197917494382224214796272358584909964707769774062477, 1604631321958762512817325345911413696654562541945678329774429043475898790036, 87051344147646505981985574049261986199169820883653647091790706971973553285926, 31353360891032346902570878810895011438805228032766507980859529639904011932772, 99112720086543643072996272646155026471210877252668304360956894770249224188306, 16570940754546878255895166417601398840574779023989805526997361240074344239179, 8940972575391506021195236910042512670796949502616884893377804374163277935164, 60876056156726564965346986109191685784934915516782252202530014623279644601203, 37650722410597633384956862352797043757883719233259229010762739599252421592690],
  [101856816320244180680012622925689637937487467671357286505430040189270591709488, 108419558146370737938313031261367992706285007660162721222534282444483621472407, 103049251877628897999352819336878460568214146528833349314153091001182582552520, 104354620184586018686851978303565568087432974454102909001802567914540857041116, 20453153019344857452035223301365320295943686570702134598249360068771965195865, 105930261424230700275553300711143703793039920755551195700750944979989984175468, 37670096113857367284170506416098645504209004329492573929588048061529968540284, 106197220936351497395290815928420266106459790882661784523743169856882105247291, 73612245719564886059314039612985858719414935830618894669929895675024166041466, 26723678471531358291491360012441768370813106803281812233258118601234196989133, 46563992451569008635956104158417577213596060618904421456159485266079834409686],
  [63373597655532137761659341291098141922665815609263752433512026959345693871481, 115503708806572656701054881613824509610381222327857134882055483934151217031668, 84804233625417740356221742401641509323857524168485697464874509913000099610982, 24999941215059651279872404570306148557863421780745284591042943362174749435605, 59545522312347777498647451002986199245982601701604528659624865112565252021694, 89792651610256453517963451710280334662230861412692556222504268831946428657956, 42242461007998237765146374361432155866165680222570938529844613738041117870949, 14607033106319113294391810905115966270709868743018109112822337658769386230702, 2979232597725929139617029039602681052275451869077528447731678510827531794347, 70288311387768765775305757837410537754606909035876705743310847540307644766382, 6470183769178303233704505633035030685533901507141068540151605655150861117591],
  [62840971177839035377957427712001052237751671475577835846014921145114981037620, 107414097735136717939463977360988185322438015168782843904392730469428025850994, 50369594530440000735613236706364999272505825831700284151395888955087356086646, 48583487852789080953284469979450971421535924779398831133115589136682950848174, 89990527377711990207715076010487755612682952581796295571994024926720655721456, 102454899724104257952190513222036471799880596950431649366701969962913849796208, 100654827914411381016248171114034422578870160177832640148353871927324698960152, 62975383712738540690041572577647479110397208972145667620715553815667794225254, 50680754554075068617795342649354535100245892568401329053725754123051317297786, 18763269256320487381232693142448210043454010710687521401710349501869516256207, 36602200833485480199717616688781129467535572001265634085894005094384906312277],
  [12685709769640928554317494495401723117094701104298353663435313549758664236831, 51676463937436058178538531728528259853826921413659241980649425815671459394277, 44508209344992949039251633506588864119063611797525913083502806754067596541443, 111615082834646571678846021757843793405230346897472579278124145123015845199785, 80908153668223010685414773539964273218216901604508657263117682379393609912612, 15418047084835623231745187771241916625746163750401397274650358787490227719499, 104255777754046887992248887775729916475538442954632336123397672742060463506092, 70878954949893375114392898713789488551068671128987019569199784452065351002373, 92668148455921516229566568147557360924694214026624144222845942062401816882034, 110760529446937921415494442925414257487584821860339565042378984563913045178012, 46077959056899653184861362842894199869382619236983451216512601773122366367599],
  [57721947856690177607856873766306506235945214313072601597148074814328243552915, 84793277002778619176006748613713049110574285618053508003558091837551673172441, 13308234692477578130564053690831052454242733717453579700314088265569485477723, 104698870875011112745672225329365825850971582203372267326096968515589692170226, 42642948182762334941322298222248598100509061471251065641793784842697069241410, 48332174317851816011626965704659812979996683556311946660899871278991443110437, 3431993411061533060430736932431169067879512167346727307801752925998390414585, 40062568008560921097348403173128508544398833159567457752028165489682669743756, 19329712158152463094975038467658025647948752266337093655690681009780289220092, 60935201077176243449291631680719288551099946783400088350780644120825907245140, 65918348585563255712903858582245034781115008565077423850744657937483685573413],
  [20115955350184009405107052082873306208323738377252750884719948510856631549656, 78273402943727857650831951813037241333514801899662005780848203370858119740377, 57468358633287055483913881772228291365938673770911647582005361945251667649115, 71262091285108973317543460790913471642694270076212951598871363811642886993592, 47321047647539357619131618241545882437211291470441335934538212145771405728752, 17291069938782051179716649274464696852020774749058535248171969067439047173747, 65676220806937715962424409128947299383251922453001173500246497063239172615709, 113148826051748976473636688657112679771499096809170617577580955176600075734804, 31456857125721002082797847219852327086861336423469655006774618096149167748463, 77577139321575019127134806434453141521971943690223846989469104458931109427528, 75885715544334121595518604319719840947112486089122191258652238555463766902848],
  [33487514051402605032988041960075759036239915939922084462376593278138660825588, 80312819173343519726883936155648313522736487194267541721273003155936716290755, 13496368713914773989259159089552318054933543857220788968746323453498490465158, 96399829654219642605645816229858302942564046550498133655763504613686179732270, 98331162953983443624659352889447735419311772644843377748648961680719793946821, 295701799556500863218056684100542792032048401756663054433285458795929475451, 75986983822372834275522782387664083975496652954590038745641284157939433263577, 113964982344824066236387712738467421121142183142198115605039040036887935089079, 71534687395040051455619567621880132253462301241750845858633943930643932669645, 52843423903029971723770789499199059941070392621578754455962335877605790294984, 45660306196535676353699660569600412501240105568495873718666896016227338019965],
  [8072939801633209720238490537550906640216498522343886684745264979802564465726, 19818446004857721722856013032200518422421970617007954605672424286135646168579, 56882851295118327032049645302072348148302109516642236496019050791411535241001, 31141018280811808997414378206221541809641826407830768559931559066893176491686, 78680581404143598489221086786550215057659367912153902363936817166562945852397, 25042267280277602191145206751747937085003713280691217851656134595627151656895, 37541645729724775225956532539906365023512448909948418071750290635804711240993, 17375599582245189072897695066319343712168402579103933660643706015478408465278, 46923781556216780754984331384034041405067249363496315458833322359450467338011, 81399958729299124776098755183484095529031258455464699578085336943408490004586, 6834754618005157343265954367501231423074345360704639027592366517214813194851],
  [15586637494753992035656621799887301766362520942674201878406955497460323358696, 13844304601526683243247776533328808449804365225838234619918739792236049805772, 62871316199812421830791215120060026341535490388383590017189062862899318507557, 27151187075889348787932043873007139285291337626062089347175142220173362213535, 12398648849921183141533624926080716458848052444789622601666059902933167560544, 69685375578669712922803626291529527928235944597027601248538518000054625626311, 82889279995132091262737147025302399574551112321242957394090762138074215903062, 94943071665905231844305027187625359533244662549469408503317590126522626885777, 91681373839974998994800662448580318465308476721661281081528113763387827486194, 92516705084263568073626827233733569046688768053638192160080092356529490903632, 12060788785953055879276549275380961608285339684957955959431534643062394797002],
  [19342995480038144506739357079973000634663998100379172023024187441410518796204, 45449944331595325946975943987439198157243694449167036723175639422193337188612, 110563312290249699524452274737801487916791039156251417913061226769344798472835, 56840001153005071007557853868232223392780888830918364729836518609157428350773, 90177084312335233561017544569940842730009171933879971311285414089510422701500, 37421249695866466461753058045787190715767949556471165451230481547690795906677, 12580665493316044040019169318012542022339970969935772373870232113718457773658, 47549064110498738224319048360663982036390592691892223810065873596538622785123, 84627714269030224212961893426239865927826590814419983525647879621325097532234, 48485486606972597146965457712939005139720226594036782245404613418668759983253, 110795545346276000114917027371797526861785068442584427612600490681283866283255],
  [23024482878408320817319011392514838258284902765978461147148668827951313475435, 8752531851145433920767687899103395634295396440097445383638449817744954526658, 46261584120841363858829315399383755163909310920504580850553001552603689210942, 31701303315065051960058596633839709339893483383225799889023686456339678088249, 26496346546541486543541363218880357404610437630262377997274167068674099325348, 66927741193349037999171481338212985867730410229836584448001682746490817186525, 50216163360469987042854335275271883770591629108171907025332518894467357142789, 105651791268763544308922673078720847981069862203233838661129955391961697626939, 91295079022626555445438402305921352136778955598955762916219283824073631931725, 101927856307784017186664614455818340993184205503057509669141513248468866253953, 95996156432369496775886177930004024025554514597282856760303365546445701650566],
  [107538547641417195041311902406580690726890626643601514543292224284899743255913, 82221460295184140070737747470705156396215111283849949535784617292091625537051, 106333873497047053388952802187708106976879085495424094200113459859370052115070, 22178451910024542610416267670701332158382309262364472111130993538585230099097, 99003623257741923411909682153651389867891198164750571109765668366098057737861, 1927968005072706293107855782774146584074925522631303795356449805181850779623, 111437643264779861098007591652872144115292985005850573834714531286051530659058, 82132824967877199445123521647644506498020218323103001011262800871741413220318, 19989886656564894345608272771929223160518741107371878921142300682661757525551, 19501121539941508173560403578716341102492940619309140568845156435916796973173, 115613696046160762637556159914103872631274403361202369346486033841219772825033],
  [41101901626691294361796774378286593118155447400017851150752779537359215498786, 83696638074909521962679672814319088937122870027380256024865276989950354209201, 13649357043886537536771390762156242563780278501880240134661396827069365978403, 57035167121051316783631213317853299759381612821209153631449553872383769157054, 53469011419351322367956202604919476112280873397535186857042569062141157377572, 22820676299396784604469816298884428457179238477340052167594348253872858912172, 78997452130795587950502269715136133540028013239241770688404976961843905100962, 112199581643589521276334804189546505063421647216252165698211002870950623426828, 98589283309566868816811833083070156745532725049587323852963357971787537292005, 37856730419507806215836166724806024818502501025939588377364422246224598236102, 39769881993432966623924835816263983501873854365830983689685979079500899733194],
  [30979248767095945849102308796389033247865411513004265420498724836596387981781, 112692864118699302505333363392910478023554749468472244531777051895983823447999, 14507735104665797024280354142060592107100635026584522380716331392978814798700, 17164549642515784708948910566394807207192063916306821785277241088702328213265, 42887713887511220194731491155086197181557218856382919398130244200354666809670, 101034211835490031201780550354925608610454871024275722340746300826385980716518, 62978874303569451656931369236725116191859457665944465967041746640969007845901, 27300971959672837195136767405682499079374358270417183499154560464207947754399, 1364436022985634896876783438983406889110875794383622272332884799623154987440, 6447705010737280935851193565253767825624228531272860486380700174109327959791, 19265475485482422748601312522931604715821065722113068265048594098189759312526],
  [41662557678763608696327499382166202528249364613818926967920316512231630982480, 29639314089944201618783974835914631751532628595873975920260172238218538730007, 24603225113969974472063351930896774472065122032124651716222100970369158212225, 58788211746733106811423071695172149926338221185768323629703995844700721483471, 60736749019880844952909091961098046824937237299593454559672758202269287574562, 32899248367572280144391383055397330581536526534602119412436729908530551271327, 25923989303252322816911467085939417649093469154475580827395765302947414995885, 53129889794236220172280803719928442222608798395877493617748669701225852282088, 80727039574866605258860656738210065069226295729062073804850575438918309674176, 111726923633926276840832467999637206934580450079671568977281694639654168654681, 8799194378220842616669083255890580259662928065315914345359618389126854908331],
  [77157647223035452123954738361222204298034044097134701739811757013944758103073, 43437475253123744536545627790207383222065508087464169352367992929865170786345, 54240148702288160301513636946558126267930385122650176016874137936460099761322, 67852097008432420108862229989463638155889889736026211744876357124330267240384, 18149318025029536999909610323431298781724454712036019859631725524751403731548, 97833795879038741294970893404218144527353798023054594523723827135896423143083, 10656835287161352128337158576834768099655656470949428576571013119790544330914, 19861661481371295935523769283351088765212176048253335324638775018634950984025, 74655001319456541127927151462892799394190471079606363894857441772027791432665, 78387866629810345279566351415315337894593648775339208240446333834239717492592, 109726561627854243361998102613784968999897329688930158145795143434558402168574],
  [82615197654437008411068553983761826325440032612767988480917623968487721154607, 12742656134746438393779378007180397201813509499149912982429709972335419739600, 85423800448659055757863357113327259610214425475562682071738736279715922583705, 37002508613276967472183961669605319735892746102600362921704503093631850864544, 86534981259550633469153496248895301534435379091985254493115797623035732129247, 96423706368257023632868779590012291199087617102760348198573475079736885607872, 108059580171708998646690621034080320689317895244548024824622837036514111980395, 6035004332776449514365471458093612482559846882262664532429027004294777294539, 44815502025373175841382971402719403405300191316262245375891586542876668554743, 86759342814241470625157446351291441630021228755910553602454360672994388904683, 78291690512182569904573486089113676892978911413708467648892509498121651436350],
  [37599300517238442538430195748790626692992068354956596899038232314953117824285, 20298761849891722024330365494268261313693823188512687654962377805808421119220, 113386535259865344542000579880173834149645845745595397360178779246528648404474, 79758701391623054372610916213547106925050723066864023142365178329958395441099, 84907262083591627851828498694069962023066614675072763638964900277930194721182, 52462335996212422314836357483062473503655516307805157517054111933094832350341, 38824116274701489474063711224555396959052239927073595224032066846985046486995, 115666694977495404052852529604109487134627216035851621707722120604375959568516, 62648231867672018559643530895443319602806140639312816601755854166363497809940, 109504964392004794135108939027620149575464980729997106839191376725115026269027, 42948754099929011088017464597984720776391984218588977632985344304751734939330],
  [76707673389106997627767723949703431430777811757784059596204107420315528015280, 90049855697637324854826557837297166961747185177002812611767292970155943222142, 11089790958524337995389024259475828464779926311955949386394657751470217163554, 67781252697292024334005385092282407805627528068922218282115083268119553678970, 100469769765470369233260936202025575509119916721720182292342763744057594876968, 71597887236842305624079001878776591340985861039511472999710003050453205230470, 43277280763264265058564185287929251120785761073487424568178073515824095408679, 100387952890148710008490834581772208947362517630815734988521238379497919607192, 110719475256531009405838756162785588371039016028550301810786879433339955684651, 7468207780079033240373435358983216035743457339374601362776134073537744669707, 66993174059313210823672765889790858870487302953578493344132627662737142210384],
  [104031482385293361037975520613947946917792172219142384088609415189877151482754, 97739311662135140501583422772428915941171809502954047310262626638717133025964, 31012125876002944256252498581576665433766176818323691007280403527857605449495, 100329273296387168718647655541436213641311339648631098657855046955586961282135, 34754059022650624906763723999165408334232613956923953409709483737383861971606, 65763528728504811728122880756147263735219864977554903563848414698887745150988, 103292069108630906955613778989338626581961494102763332591309971083377763846014, 109697049827050987973360013948190675486638169956204445326013160415185806137931, 54275931436998983140527237549039861460021480492061378809758659764494468502768, 105958264367256126252610844863118222404842039329912784034715037107922542010243, 48165536916363177142543641154583711015323517166106476959303403776603010316861],
  [92893713642266002253885999539709540759848023131345552246002515739540375716148, 108179519194494971210650451043829581542314641498911833437631048680945030118244, 94563817989442188664905628987779479095214876057199624859169644909369005567560, 101843963293398582824067513481178802278041762127432195185194091237805939269426, 84500455460245965175661292905383133930691531604754105449655664574047044655436, 29775036703234416767837896517269968017606530842997215847302671843907327068199, 44095350441930402014495570039003270520035028943838361809984493367223654333334, 67641124503023864612068938646786085395788360414234543637621363172903857179433, 42009216714979657697377045446862727237917681812449716384519370074676924048484, 83249676044422933327969836824992342988579305296150696708383674179109651902531, 33245740534809586209763530261427602027834264069673331900972297487174161995059],
  [39388267618242940386909829416415137925111162575592838267977878312761749431266, 80832784289307396402986756665010477662267474154802203867898695041293783063091, 47882592319689415772273702617298365912336743978388374612289196559840784852630, 16907787917759920429823551708614983406911749582343066487993339181654396772210, 33755814425055422166921565012160073666626973135429209324183228364078030213419, 106286723884559828078304607450140397332045174066423586862689172373725418433894, 27863379732170141698854242140336256121960633471898703903963914943238202559975, 7210992737204826610200605177817589395660354282296039613841669649706865523693, 27692768668950609788324103347670603823714000665135949368550303528200180609081, 62081484439478499928241724987641078802579422428627928837930166783728728775628, 98087190339282092578343103881766607365627283382089601987183621551975753065587],
  [35245553459765553119866515543493881426024119358110232772910320180747212513476, 7143431482554054512008636346641240056828830255915973776303392628479459885421, 45751789912766009139181060654749506388218016827057063586992366352005809915876, 27503041931332299202960988093444817693553747296890057279861531619754854778740, 84815933957600063049682007510950581266740536499917205946089112577724529078823, 83406918840945871806508349531751964544244061511712608732068331869612552319625, 111132619703748735502852436489294414430101230236249683896831174092672131286278, 38261332819989647498130549789965066787130455421950075706434207218715628795524, 76375952474278071341492572301234908243035194531484057325294564939177582222311, 105540181768759667195235880905317881629052641846270921896700578208440175797295, 96678115063836537879818556115720723623987283634328322343805382206983058680624],
  [20217414625009106339345058622480157964056523166276837130393005368902878425137, 64265745840864724276934771950559657499153911097538942960238005872726396674604, 115238986048193938150607531796769740861227774706143754744429333966780172892092, 18385112401631987946100393111462053832662724691346268837400379355717221433621, 6581685570654744765008888047630216505138927656580239153391762893696327267263, 22408619319752635564786718195551825389183137381591731684604313647850187502088, 99258329024529208785103457565258423672621516940490501162052009207192402644661, 101179349281478217722692037563724652397237381229440321689537526870111423914914, 4037007910875592442933146066377105880244683124795696781270007886504738059817, 48175685606412340595201578565977652797586669009045376303068875371949389428929, 882029323689553231906093597516919127502744372527036151120494430960108322970],
  [19159543424353478322511576340370782886857737540335073989567855707167115752141, 42400790203900276237142938777780218092462733400028571824478151528169480866293, 43744365338759247896935919418717089924464015421770318481810323270557642496821, 114471042087570199200204257899656548451216152071459067920916828247086712326419, 40319679860711588632401084202616284883541906420888249985429174394111655708403, 3277323688516656151401474473650777139239897362535211904877932142855361168315, 39414981686822256503646229932281828710017192274064183750207887911874976805398, 56810626616533263736746604856967500689095786547478905557261375261028571567832, 66146602717086338521085772618706571776671169804184326045782608880570991752085, 34668235075059945166362969958864422190668560806940766412493732982976539705286, 42208101608858479844870737291300737144747132753179337846798170703639222304199],
  [13237398786305801254153651424357255179877710445829237600774035123731712545431, 61589460027619401136904832620006691478570052659468006411287911203367845001728, 112287781384078542002432521947712650475378458145171019829381138492947970314427, 108911999278327101964109207372721198775136081116132207474235345876239188367180, 66906066156029624478465045833552524486449246823095218783508638681672462882582, 24877938193725375106773076700581571745166136660693263973228046902236485691060, 95350640671058458018481282719393788048410318246965692123380954394974235522969, 42079763634303848234348367781936709001215674528823674481174558922330552473923, 91105550101667426186122986903979433103281971803196699148697542416554557495775, 35662728584054868864680878157630535326204038156655544909246589813162286053830, 95416204345035827920463793522381822580087105518280411543198683806759270221479],
  [85809501780358093783601585880202499222102251409272205634115453216244109160360, 64749682845803010026194133173232988235575912066342951860845470111537770304261, 17452488814214765057511932618090545646935508961283201276307552672142309012917, 97840598459789484015451357134991782548190982678588943670216886974380078125210, 24448342573241402348909801620153305730051099499931366581124461907832620509820, 88910097005527261862774126384297407472153205137531797674316794398175922613045, 50910627359250045184370668729320314874422310076636592964191308788710416117810, 33525223257839625457796385373432854682614894635082516049972502001294829583320, 109063819227505576285867458212796124212355618982124972532386472241953935903862, 81080485267961235903733812918987521848035346675568952659981653047581254002280, 11360381215210098068484742515286254898047409659700865323242603366947027939991],
  [62860334949777199243846781510941340753810030540804303788949368481568517306293, 85501492105142029436802917824205080905057988953423130777277334484839277247386, 63546886328952212225645683727244223254050599778439492399669781933804505231661, 111740266479005997215152428884950371408232196898321672532589143125576899956294, 13019119667636757727415245997218232778046634428293989066496582264422401313643, 42246195916068135275144355777071320131567456756212321277169688858566238163089, 31294900068032898746320945874804478391573959868340978219198221898148140788990, 5387960090967401320183879612375326390060673087698225189006382047430098949564, 25549058893950349804489832759213964935768490770249585185081459462483718372785, 16814461388057293891207000950454629993324489274188819114030006317546307737237, 74312673918316283078269033121282213531427839000190869122703564991606910524150],
  [54618450189923494157597593670333587768639763479464470261783740504488414140351, 1930988469515460839322060645146086315706001551828613756927013626513655678517, 39618257369027851255377742446301040442177184135450333532747179337070717469129, 76854209525404423841715229094852766433840194557380032563438028632083387865994, 104793554639287798007201857278630728291783359541804734826674816886416536515188, 106694331299498272424948635149420506807095628791619007974207048983345682173699, 35302298479788767579181393795182075986081103848029771593178636241383251213805, 38652417884689686603894794886847232237367878437469422902883692826756922277553, 17029092290929736673416756158503108404242493233329184511892531781198425816270, 9549505363853683726550528620461156301481167479256885830913237563142412375261, 74467077690562149640554558652674285401544750833972072521363570683175265050378],
  [65962902660551642487840278243805062089752303975245366846933634214022811527504, 45970042171730193407891441708022746802686264720048585737278102693742838292916, 56416073929763096060012497049661257034509209764860643764434313044170950856841, 74152817199349993793196874696283937198833973985878190450741972567200880870086, 39255928147828994501600999141560455036616874512416872300863066797548478707183, 91412402634092207719194715080886228350458224885857282190380936337036104162107, 76752896306602769647674227632265144294926010984611255169257668016149544666643, 77541155859804680184949989450218380304972332802791082154171460943075007399970, 1454164598341973447091559915711679791701406987093993732140330957954196252802, 59681078460423654007417650283811605333149183895236604479329588305599659642220, 58934486302620646270898553141479144915222058454811147152610607615167048220583],
  [112809865584574649391909149805573052411958638418871667409027598268580078943596, 34690338973311134070674947070888392863602068332654755729038570888448837419399, 17456807053628999055423700698522325050361296718882161581970201979057633473089, 45606042866862246036871760969771728510480572831860247293241364052785482839017, 23117630019072476708024725211166333512840723339889184967958694197401401593407, 94636638431708151257747154373936373969874565238097434773120836300063733624084, 98201101451176008776750992059888021967153352338095839884959679897033520961857, 72602853767471651657739358046907067821086319419532787668900304043538846716302, 97013927576588429138250393124719618014013020448592861264157581526648411620029, 78009156429337535056384826683137751108278543259745493271057612549947157246965, 96987166588055014581147429512870509153986709413918287233489708987001697189681],
  [70480313866141188330348943973761694087322866643765929507552385296656594766494, 18497445899639411647864283129248037995478460699443700719235973367465120098437, 58622053315666061589297232787639174065248759417334238773791179658804155225127, 1394876883359958809497887042188625739873600195801778839458073474376873710957, 13123526263787368105968626252142966910240973179557415638768050993122326491714, 372097884967510921779605037318698824467783349573416838639697215967899503866, 61851909950153887032427110107540734928469067178201036638200466205371630894395, 72983832023457915013293435932141153945806320423332386316655715748386782380341, 59175401882548028326027701353780036933432653188317609451309224193245457860701, 21993615080018408140128906653164404810710853907255384565958674209276046652283, 25435434349807457339184003834384435691260384684438339545353401842180284136194],
  [102499535435457526783473457729254254449005449513368348882719574218253780425491, 17858400085096117661147199999360628353281746347903219746457700775698435955494, 6140245707882311219168644142922607227612574226616421048960404146397026667319, 63416877297402445973212856055521426646039754236440002802708309799417698551786, 73022677103893653880414532945092500873526188051270087436498417403423807622196, 31650317709871664714456745481432857393280708982983497256982624064319938763059, 32279510909005654450533509450537013368820459095813662833931360117670052757604, 69159539056481362230693728879648397727847624805538740665688392348356359983871, 21281939516767952107192439339321439345547821162588786717465771085396946797582, 59077742041459557122912811839293979701727518763614345687767742630200428375143, 31400610478022345641432898368152540289827889668199056830682816754102955396256],
  [71004798044111991050705281049758848038261183262369122318121037965383503079138, 38280604184903193581997316723967584411124155436331089357997937299034930438050, 87995858818724708765327159387992034442428014045611108051297763340576196931177, 17511828273297366334813577353670888468081994783000026964603900900071242110719, 55587540486387762722337376709635308698222709077165312406081374057064963109211, 114911725839556495875194242497689303884044418535551734317870691914487110631921, 32231613933025766537520462651390612219033707420968274428439402309489343571317, 61124673432161223554791200487259793164670607974204970138921556447441704127307, 92303365315978647489730416369048568279401431824071788063311802380897489080976, 101655177881728095917131160596691027446255006422379913609625198359982131478670, 43339534622861326341949290531639779583990824213782933700732364463844141155926],
  [57695409518650721745456724909330508469611109697748185805733433472964832605294, 58217318094999122706638172359547999938180066318049136708410841471244019082545, 109052688304363067223865841011138973711318142514959479856840596472920689621312, 9666888779136811885993759530347182604909329158975837924876815501758163687252, 73919317490225325128393920415309266975375014459208021319543361665239522106922, 26791460289645546392140860156312805530848531269210201006382680826354586904817, 102498066085015014088212783986194904873932926911370711590075232543042894232760, 110937248541650738874721521170008441733093642043317120517401334619249226384545, 87470566984205200967273197917123641459144078126771839045388144532225463022492, 17771562467740981452960848094532612251473233887062227676337108699446710102981, 2632243906270898869868939621592697755505886386802833265108349304340146323350],
  [83313910775649210265598410984113061138469760667247532088426367158423740269562, 61336252966159867643926228319026184921630421146464334911945942097083797732107, 90741276740394524787117062454702075399960527075185396776283472201541217092564, 105215534807927277719849638158843369897327109970786300041975156084783023913690, 23425168732511414353061423229547510679265934023425770999992158005546386377515, 109722397937535391905827222900212337853374226878215701230994005068934851146761, 63027464081141966893935284806168889861790201467378640077515734665002228445356, 4729928951708170651159393424122812008872765111681412076872184098055949284474, 28632439785636227729009628942116780569479846041972409819088869535519616105501, 108864716242761636836401707314903106712048896266259613176037827966427954167045, 40566997551528603429448691692562425624375751434156551536804468728486714244568],
  [74771654222491438253688217250598694700246275521717982903366352023717190132278, 45198173865645274327817336817225697697869291060882718325243910044769237159106, 80384696056423332220932637021049175346538928070731709095009659584304438346811, 19253138064890474909957469487411238234825373007994345435995082801051124726753, 50673121477885441945308665534086305707680420625909784603758348574192549007170, 102375087461864757683187675081237537717427810999290781216214536665779841475860, 80150957676207748849768404496120402364066289776451813294886283642083648527194, 73198164598044838457880622235259945491825368253591711789001900685137547794225, 58802558918290116020767830008293749064715566619409439347916203039478086360071, 29713302454405910371318103987703514290400752163637107086713345470061349314602, 79341776980346223884142494954422302313624695219000433606674380164204747225291],
  [42288217161459765146073182524595132888448976545127334101732080903433846380669, 78963685055644333249702698098554109390648833323608291214186523226863357912066, 21831267784701583575693401621160229526564570721581949139439925635832180889654, 93468449448179055908170273838279764373965238388218020385071849053701191847983, 58071182334922615449455902771107102901161856308459165630188096429832641964142, 72231688622405106121778357965461114986054006267688077893219253134692567429550, 8119059883991985335944350882802659219427472652279431879939099697506719926087, 65396484023170928863230630477538567409645862134367214115132333111923025815201, 111969549047386493261981170816604371176671012984385026692833041681116866502321, 27306318446230559001091142775117775650342663630798795076671621765806875707117, 112131778040005819778402388225365286223083609737096808258849601850170660337738],
  [15925381623197027295304272722637167599348825069746918797228145612623672835374, 66283298297469985288044133168972122854323431295709902218568919994086472992159, 41164210109417190389318412476021404545254303978308358996482828511308888836721, 115028744615651223816760049671120019074230294910630558413464559649956151320421, 101605921900016211366808233854160340144569653390572929116463640731582003099689, 17653758385252671334296906059266461663148977753979616392669807113002685929012, 90623546539726047283017694517945554644477643939275179101107533137649314845343, 115212953059244929462821016937361492138103753810148076031425293122268885907308, 114555624750856813912945627347552588848349226843985156160564507591237255723757, 114954912955754249885308540419667149467040922721181280062628861931525313287844, 3348353450584617079295100289465261724547650877939122625478151811684289565013],
  [86808536367760583101709224383339801690010212992711264990568775521672361561625, 73370230975808481166681808750195886900244751643712083890833073826738918154936, 18408578918679682305764107154448606807470155522318032459337140219449957360316, 90912970980918783008597697183326927765498896366925736972105282530036414757034, 70688372611306877208064446957428148005891480727774563825994030752548997674237, 76872108904458070618023535872761990030356784765532445266233751258058091181930, 21486568727131591634091252306685096419059931940903541150120649848303242267962, 70644276049525966887864043988884296908290696618222112469740650792303078856095, 5778557376090421222367796711844609927247317750867641239241774006492185075410, 75983052042050182144179931097110111859207501803195610841356611579128977012351, 59195813911059767591110433933621127763687805849788620115642232415757288343199],
  [114948914546614965475732759861233757513257830887096083400252790396552847070842, 17543437832763795154310454831046821712300380948235832733010519553309173243764, 103999576118261710697419769974557106925327147829780345553312477551127882738069, 93665603980706103620085599304577787709403150107117025081950498925584183064087, 109458014717822553947430122205326966236643270227317165972190325855970865476431, 15870038456833537162704406138291078860872270648945054992572490001664386938247, 62975177736894860651208780616442685854161239786922253913564127614882097850956, 107018224873470652479491517161890234382236990301633534231334598614850892533775, 109454437897496626868702123394343755577231516862908283128147072118542689069460, 6184420859523011005392598772934165106096092352987257057733514747635555219898, 78385152309602508858258925121842717517044315733309101795244272230320160989151],
  [93379239738599365888824761752060144258501168651252392215952752282301892549525, 94632883297928208314252980718211462509683261385709764522548442030423324039618, 12899310269183105633488802925918527803949989901269951957766413153373121315270, 36627221993707164515712530186652847216116213663448488215794410686247443159010, 57377919925225578040992261156306768970030708973570336874407897793971270752484, 75011244628656841427183049970133093131198951988161834754623773038435093954599, 34735105793144961119186885243018386775984656897014728934137350421550919330854, 79301741303414220097512421965555235413471109043333917573256489961320792942275, 94492202033285109782535135776365753442911772414847084340969808616256994001660, 85677818923007083546419939965931807572428664855911123136041661421386168644178, 4213708457346818278603540352847650113166021612985577741590863066084460421046],
  [45420931637826082075567895049640367788828390737913227691207064989863225094232, 34067757062072984338385325372297530195063665478456876169407063100665999449531, 25040012198117334439935064863986131883474447500968718741864535298023696391311, 30037682984015441295191830640601141148139884608981144091162916049587293208083, 39220177655279942347447184257682772336470916616768245021865536347203188587067, 21284300320756834037224375264298606240743982407777995226734627763853124769025, 73029847218046810026341484114745494237371900694937829016375292875840508830121, 69232334047196159538381213832224804951864618503011385622602448911898266200482, 13016487802593470342992228478859548842502749666810897057498526038035152640753, 89797103220432035255045771758941557430425086527879088011374463703619095408048, 21966466588683866933129913571164201495553707938957887498745706769312769123812],
  [26866978255908589421694839733393008974864917149355997484291375352374967038661, 54965818290460763155889443660955280586226313191740515050453099545246118923070, 36708540037979987520393882917267737942075719739175416752031382470986648146788, 101870941002848172040224181621485444194925424119341106336853204528999941300908, 100683356322740625567255436627705565754799820993398811272671762508695849121259, 101720334139647195317148117129938139545216542293953596244750884064074274860934, 43376102254820877587926629087030682063520578274138322676680386915110422347434, 13133392862566891340946608366419638850626918596648043672922419262083904470289, 65067265261571395582492971561940840008905368524618635923829603793324903072831, 113117997226174511238358636593772903993470427528938060973025292581344875391991, 22709451433733758428774266848667309080151895385345439977272722230963967893475],
  [38757679307033706661671720032639754304530647527026959739514595490397437147230, 109007646169200766220594492182258177123398545695121158771637692307096412267130, 10507629778546357481500677520142044778873686628595888818052447807405332847352, 114999908953174480337571517297615393823599233947674387102347367982509212308761, 78515963781277507229272399978418539342963661196687779916601203491469608997246, 112118637455442496882148712829698317693932209213421562582217069284851750039583, 2558001601748779449698049173584181455262956463024724226165518372690169837968, 28960460305305677723199232469287099219663110298792617037965388842568500091657, 105649134567724003856975279046092136191741910779399251885076289195111118815605, 2767029517264522568327371978484071728985799433495342942665630208069617703368, 50644958312140402751835545543069439166123718882321819909230329877641326002241],
  [37372262224732103010422687750432644896986195781356396923230445457188778241718, 29861009929020277853509395117791775756145464253214855595433353958265344494337, 48739882272922610786105250210151406365536018721801404943923491247088132175022, 44444305484369152761980437345641094333828017983602345215521749080921933505270, 59796899527898363149080304680499948335083083560377092675512216290165384438953, 95298661781366632742596695928615693678038008896251357956415158439973865116805, 2508515910136888003865700597284631329780958837419871554225086535065461134748, 11895229699502674368160967144527377671184790791273724467649677212108134751878, 4211897642326687120979536013760350811661804879350175686579332216994484586396, 48583428763279810228335173271300387123705633011785036882569792548793544652136, 102727261616324206324351451304690973484390229622228183996039625598981643575244],
  [74796795031576173838156483235544201464997748998387249165141840848646878650708, 21980508750211827579151773153928665504325301288888262298636817085196009798682, 47765236093277981066844620702531533766293981129526915900056110275039736619700, 104895764121593106218161535901470712612289855902193743858435093531032230810642, 1296802230754851760299324668426768623545871289437369993883367217675821694830, 107325434320343021322369774783760636612435710578500067275668554194178400691629, 37047152075444167402956725792398945926357569411364549068838188828279336603907, 54238888946104268449515276041212802413036905904170510072655963527901816321986, 48737197983844732903904837814345504534057093860122758517350639497649012936854, 32191547113284339981959957951465435853157477416917134769400240181169727634888, 52244005996633571712046685935984078362374487855930955391014550227257629435544],
  [82973127233725029645413674893583496625924662943546743464001408615104130917563, 73144443150829108932092967523402405901363556236009776841313615813660528054333, 52485297842397229698474562163178674428387486823671652973428124645086233922931, 115723272045718155038631439096071439663820106998015344755257638563814752741152, 102922906237934091865308421459169302002537944484548684514230325543522346486897, 83023098364952329727738321740465773371044806648794098254253998635257952941909, 37604754238791705920209650854897453909404942084255599044311613846579819822567, 45225933001608582157541889257439239161373839808392259071014680425947209832156, 14018768478834873085534604161261228618117165697508634721234680666649688402886, 77865286369211791687362242793315301241232552209687890612153024137267453054852, 58853780629905615969113677378625276116830686331526409360558461484869768530495],
  [69070718292179283900203010963884875138148112878241893020705337479372299389801, 32941447451778954766039559519085549941602380668961969337980873879201232522892, 9396988408835812037859232498257395342363958445438443470758973767673898126156, 10550531415240873670209086427098755817268682340571424595502069909173330430930, 63032325611396581866712456911925814845109124618006326908834565508225096073439, 86201099897130680239371514821257771995246022956810437256238063986671368442866, 91408503591222689463859870594813721074528521059498243961608249494810908225826, 15043548714309394115417864742227935504843361813510127774866333192128095784962, 4022387752634086345150336667972107221123745432163079672989897562002687171824, 74063140289861544162865747843442016717669437753129091708760149348080568118392, 15876847139941670857088912576308399537467817407053150445263235176675216382117],
  [7584289702913310387297804991730282924826798979439803649958007487039146442809, 105592052785907232437024044134545247768662550050684077290198357394403819898885, 11809900104708717316321583994262241500657577119107014509381519699245569275931, 31943542022960020683733055866994566685052208711078375395621264558518307357245, 59194364458400786651286561166532711546239140518944371899374178258515087832750, 51268864928705079903037701100114455007466712356974553942335332126600584221002, 36409833544084160568251901380274295987352640054427264103603587636265820084645, 70041017179825499015367968131029190757813047963880911095875223792295079164283, 110402809527845930079306526267216480413192014417668551672038956182347297848935, 60830278475748136138576019279520476908458205031702383022357261636696328157569, 92536177512106150450566924627887672210689869166227159190804788669577241895685],
  [59498384492008826714137991113105999503854314593599549123984907263383094338502, 26789290870561487303432156162988197809971949879340520942048780246459726546953, 63610268423791602283437899662621454630449178083677042675538418878376156847319, 114302074070710631689004710015267604010993237334360206619637090038025877444069, 83531361075751905834702447059478785614957223399797810457786504208405728710233, 30673619111299241863785074807232657712416272115653746435670666652370169754256, 58747357560004346569052625401892125199934195951244207661307988533138029579673, 46365838806948180880412809925637390711398594579477697045505642802833233314764, 65404933748093069207010476295969118514002456694422254889695765651507066446492, 27180764679277305257054524027703791531943633349401590332999796177046232818554, 43591904563281374269553765406396654648583189298930008432414689412107021367879],
  [68150452058661767749085944367266712592740094276576415808785687502633570745300, 86333137927989187188263727079853286582436843457814980298619198940437300537199, 86296332832612417798541950419950481945418076140621254045441424932917377091655, 102118455452896476530019537814056528675702886160473201391500981833316808299249, 4176914329185315680049469052743400186528705881452932844066751858479679872210, 106274379659374764788185662481583392600709988314959871078936202478042727360328, 6862132010418058611572410913401158313099431470677749514313088800620632695902, 82585747690866374048682096541401827458844257152328938997360843884695748780497, 74101534017011834931571588656439477451040987061302596624847972388743305860457, 104090850829791382013178178193006767105484447614424124246810814802194884463515, 112217539909220421380503023777464030243146932536098540073376951972649166239724],
  [15273024958684676381934757619915476875472134715302486279589312503122311366648, 58927495375205496852421318690670608402246070788953908188651096349769255103264, 35732147686528069331660702743682857860311844929521321488081877741567750849191, 25038675649290622738448746225851943879902576076182966731845779709421139614698, 70167906974163512591233777617136871274209805523451992352472611466635252313823, 86572130506831900968929990467073015257223761757499809058301471860559415050413, 76371073710898068260547018079136284009637076425781564246972876953697789630075, 91676636489037233421902765164964337893797263741242309411796894022352326138863, 74683029162023572349231293043488528928475031271343756891189897341612278306314, 64946817372878393459120478183223010023834398025098353924036975431451330178081, 77720432428051227202618606424661590845350760178064436889073516956575148626783],
  [12606833791084800465639156923104133601786810132343798109888362323467477798260, 87612259233617208791437223325464486805197780777568230212319983296896219533718, 33545879717583054401257951225942294327577689563634477301885194181761487586192, 2612487300784139893684627665797680983056780937082355334823147095943851001437, 110225987911139341621614401341018485663885142082242167453238112058857514051324, 23527170188256883329599242636526041286525371482614420086701011052946940904094, 1352026898482971062261186751398139260694432082593912077396603661685131106183, 27917171560105894410360681338889356601963014745762729027839865245049028033052, 91217283701788054080105432777940852776740789233286995895176253336716121821579, 66582142237850076648644031648665940207793012715265660698315261724394134632391, 64697360361922862913207988438033180512056409298471960055186540839935517695145],
  [54121381802645817258656118765569555317122356035378800812208638163543499825946, 1947890320431915124549075256355108096707728301377877322072261882538976117653, 60739611779631654890397186783225011597653729506305601777728410667754961014129, 26607879699178712314676823605726047792800534264938698337375312004681622383420, 55223412220003090859484208652712014019340980195960667635779465300289101094239, 22515471184867681273774730619905587015527560344883250694828448471280167968929, 13199328336109272729539150199809061584553609536185434239100700826193989610419, 29644743476859955265405914625831219991840414861131565383602570910343592845578, 105842371931408997248104505851478994491698444300145907755961893526684109311507, 23440600526804684186382501268887991933819077002024661273633297549217262355743, 15883758854278774809980572969362454304498669572107782045256122969474554628473],
  [84792543176106484824167593380332713254854330086211241719541407593301300031001, 90043263980985826130507328352284097766552672472652296270680269809802802686532, 13700939300506704393997174157182024309430090171769016779967961225039518282115, 103042292226907461058503956487763350661105913279214293320976576865316448849482, 12271071207526148537240107570307572615317269255188792551985953221505424294811, 57982878627810022469462025746818566188260754898093912274850237504385376685915, 90692434320464963232978092533365187395293979020741521639432937504012643415974, 42698072769691875602448355853646195185843813337664778054910337125698321105640, 60052558142295447439896689707265486926099027936021101081444646347592349025061, 85806572605262904326477991909890110851547649143919971420085476859741744754787, 1046100742098765221036656306208695824385719403329144841675828063766100320981],
  [100392863001071489028675891483691079359186463416527788421876119589831277354600, 9169164046202121141570479731745097555449586732456472220715503472285975056531, 61647611156185932639818235415536555324420587919193121779760703335381062957220, 93588022607689417060503578393057167458536830476299444051894519726599265277617, 98089742410424138660027235339704187503296713799621022036271589585481192925883, 4831567952760841168835574784662905027988058072040367277400042830238833212346, 87817801635372958869527488483063078907951210462691752448410866205409816539875, 46832448605181830835248460613117038495281247990512633540665181838782555184413, 109303621376748483309961615408046527311364322165819488216967962387238768448521, 80950334872796968550430702350680626470138634773817817984737310027743936070057, 43614539441092842251637163234855854741015248647580738048170851784431703641728],
  [78388341243762847578955487733222096252953826903753378884454034368741708983042, 67624544019921083511684048121965239547087836479741481763803230761326873537677, 3599477756461555974486484865138160977038831256561905947946553452454914569415, 553716552955797430824185616654054335595201645839201602933501757455859161507, 26943953490299539443955050082572149657496422087360703472419457045162817849643, 4219121750741801919160308672058702608927403184479515334514168256419137221782, 1145662868331781706841267932703788594175743642160603490885128820542039628770, 51643328963497972293669732189039594060120218117940290216928171928426637214064, 95274620216727617981605255901304734381396310835234079393234711436873176799943, 61045731746966716858217900146759860095862805604788727571263614403418492359205, 109323516244834629783038792913903420742298230923391516051573684395371264387363],
  [60109321806374541996234646947376884771087076286462951059893547800889677498746, 46055904981554194349846484864734585951309631989071778278150320141592156161482, 54475565825034997957114916188184869612984740083664846202443362664766155072203, 6147650399597600887978294211320972231964986093013234623378099652402850450458, 29262585891543020399988365202666656132215697005881235458215478240148625188747, 45043534892008250328648519281077664439393926632503742509085187135881572462202, 101722565656875974517231362487874024345121565498479502228605643686776420862920, 49367558330218035452875909560242621686966462234875704581212839530208586514038, 81806248873938293681737180529993424364303983474414201971653194777333131979052, 10149258095014286531076944080544230440488612316655426343990520650128898777078, 18054767671005805272299300014176156082419514533065979334184365985982878653722],
  [108577069078319969867092564789945893521248282898920554295269161500021184998899, 51112256517648360077664726818017983126474041175567831259737204266476323132221, 46551680823574526192144420232789165731115749779753548664845423249107454101937, 95130912317426924111411906478074918192083424958972318699695403691598886218571, 40622467872552835865764368325475193828519829212568467763114669829282234213019, 7246513123183288028065181149379331886179726201423824755860774479555928746951, 102171056867005054849837671511982296724807169925991145315475060447013474208981, 18273592799413131392788875975708619400639204077358904310654699099988084714851, 66352460079678435059064171396206492173667773470313172098664745267640002121813, 13980916509502830273913305750477600141420470492691179419567474463798863667590, 43574771246050053996471679830571687303207939722067747462467064492929513734701],
  [101311116385515791812308223286361768455174147326036975493933117868209160325550, 108314096403881137194147753062873087254256479212561956636497312444157569181249, 94872751556812761501879083604537460858399404790667991263683567613857201788956, 1989703663388861913433243634126826900900211837542785240659970360132810852228, 97216678463503164472561329091274700017995095126934693634805711570283096711486, 21839653577155713849565282767894307534919913865830872934893022757471935356928, 20393699689123215632965601986191730382608111826137210212127320258794459341780, 40319483154951550576901047305264790139515699879213834855514171388988575650877, 37281761563544680975567067612339870745360717980831638706656978542047281797374, 94294524566591080111458343336419441954870117292921454341900578938049048317776, 39623270274285097628127324308483919635986829547359443188215344797033400985721],
  [1106736822943913155585269816781029267635950831857587662399345222450705260075, 51575622737532969293496566229783252730115162229038573485100376751302384149159, 8489407520605751905243577476505500131165623194382364824711759330646205631470, 17894346024087271833925318489733077403391152152993554563426826426493031500961, 64185916656772686261867869154816293268193872305951726820836762080468784493929, 86063041360844355313745504522757639517160133612373216072071677394912906985116, 41845605035783663244458135982808967583313309326037879324052500629865414203672, 21369553632114056261657630976541789910684598620517301153588257767876954889475, 95945136470119561752208615614376048143094288245963854772049606885202101028041, 55400362991612234329481083613532950796543249204458656032788765073323977007441, 107782859163458660643437597215856557998411835549077299855197516571485398705671],
  [86072949663574824813717209699842287926378381519294278130335824068690496365565, 44317533875853149276876935889149855546186982537196867875065576126250374416799, 54152729987728282021296853134589029383781443201781421616293257858182105100706, 50680401467919869242820972716384617112937108336210033168294325490973049697509, 16964237122324906446512495017795063961617955294982046406937602052268945502874, 111142597261449392667144168871154988184499092531932485997822535810798967690267, 111436743772405011304303180923521308962772144165885054148051493160809313235609, 27409317023490775000141731760343477535254950207966216377016852436406335967902, 11070587366283049258722259200921619106432238949992615910630597985494689938392, 66511898178626387991416383253070895577034698957796827458678074940725902641395, 49012528875789295708874141602481430787148312266297892082286853202891022605471],
  [66603419318262312658989408800159887980238051896454211733489148320047681716825, 72333016715464100373192521477654867461652162263063462576885211274126408747308, 43557089975225899545355632755706165519546043280433080539700160045461734041869, 72226504566151408600889118638120824849096203320167995983587921176159239757897, 85290605483471399089435384577009956597969189528274615587214495301056977561816, 32587682665709139422569373134485232238173895309818500305769181153119994137073, 69733827142778469829532735881150681262118538582699608218871589337136382567552, 51031049871871588377877497126412195095548441482873125661806870652604521291332, 50772744457513295313133076465261535321426471818305108298825006834064105593761, 76825542916618205290285541630605117482662027602830232143762898444780504436258, 56135388392816066676785757275084462276471522523807028568289251075910825267071],
  [76634470252185267678715119793228520053081033652864337322266474990291192908079, 56041977553900293904479106217774703969762243057811063934552410781901822773385, 103745957301488204135642060857640650920160827683100475777296218758165087730690, 48505265907395116071040055829605160129659972633715257762465842612091064560541, 75571673019246358518269091921245306671059756627407634210711317707375191476643, 49900091356706887703000354916649505898373709760085829668434917012894751345978, 32391460637268085748490302508827073106775116178641441334927048640295846974595, 112826571901153036688532966363756501179200230296174759043885870288592539410914, 54158532644724360850601106346173614416178301507271684957684424504061544713699, 13002104419989336372688952348984254445471933836126349524701043822159813469907, 30288924130144285132882173494917440704118044216054802268307310263297112263037],
  [64001103881801099280706411855000265221950637644684709060908739161765733447668, 74160180314811085492328846181495276927774350510966736253711464494984136511464, 53875190682158307443351237195814138259409304890565218601962469733313039298635, 76162889026213546985344049832917362879163994825262260379334746208347787799410, 68028871401343503288599212464318984924425130850809351048363057581837474400603, 20046230536852715056367763193383231063720569172144655522798289012672915176308, 53310818147746228125691187460926696780850513045249394050349798627285118390213, 47027372998339213690412283843007246080694011023019749641723904494922443482671, 106013273721089998614884368402718042108608037041750089075480896429936181499387, 80945897677695390301929803037714109175047017831520199765630024877023706857974, 9162923013173698896812543002759319988358021648273355064655591905526877642339],
  [30204099230029124475508797049845228874542921163054078329254658342703091001132, 68607803168348550842513709588424927495559877682762629509720239647475405953318, 10635207226843181108262780007554464586612493276868265574791593388992710733680, 44310859808303411886693846169830631548959105611758050561597213082114121730334, 105401097450638659010535338221292607535832169937330434215295092774300551329312, 36109758005562093349783131045932675101755080611109958793723375213977244037636, 33582728210986027802514982011466648619077502123683512277149791487520816090601, 104687428063229744936405596454447797542095098958981142109528463845801631578358, 94601541406021829219604367244441566122592624451199104803069779689515362396300, 66958516483240219280390088717522598679433637994861397084997184232168025260425, 30292822881343031648762519273144454234207125683357987207787134760574978106692],
  [77027487293348482696824896622299430350634777853081232206284131602777707160135, 38626240191575457552549454560213799986822731746449724156959169868544659094485, 20109729940170917347135184247488518244302958779362574479726605582424280088598, 63686718529973504555397787453078810690278427891426190843716915347195139326241, 82189782394275018666757539961673748759377557041182081540136548500740661584312, 61788918872451250549270599972045996246324704276369419243719775596556729681521, 74596575974268920715164839524052749089728833707487821897729828460622213031872, 103233561683594910948282112948266567368171480392003134657169871614706593108262, 56859170310770418744932869051058112673702075411548461037554103379668857328146, 62104543279092734619915209138776920062102746522302410023691145174507518307576, 22929876891562061459233501242364987417436226304109163387980994753945775670250],
  [101023109501477936300717992500120322916422625991261233614880235976695445111191, 78118136535831386439220772765524339827807794775458055199593270645122845801087, 19249637681660793705564947791125539018977788953099248393608962380596797869802, 113894146505047332115913925071358196260534058013491472037484904517833404317566, 66510336695676230433127612616990947147961588643490319614592740717699714663187, 46260525793477700252851239627593619231480780139368131337321559586173268109199, 45749260229461418043941667342599165756379956051088300844524740758176757595667, 112566914371967326286484330293395899805562384070776784805332166842736208399115, 46816128955641640161853877941390207623045494904476832702662728570935719144850, 76410194108956963096445212567203331398110983473134398661908256270498416325643, 9866245543863539098001505933136248153906928121583661531779705082245613467953],
  [61059632102714156821922318281562824274806815958471938692673850899789932982141, 94907550577749782067978471325467662028343016405065197524410156277690687517521, 88468342335711563938109513406501746025244193102168163914800924779367537336857, 35827965347960850137777425599267822542990131006530944968574470259832588994990, 99521395664188896889084775942066338853300802674113913310293558557579561680522, 3482550115302436203535551456789582324644146870593522703400977557672091182532, 28613143339264237930523202403585352149405687859081393350809424803875156901799, 76131076134144017006649305140709624740740120907304945798862070883630418764319, 1123022943853122702103217433722099697627943630694543286680797294229087604973, 44616285759814118610591274873835983229375403917916865470821986992903817612560, 114846949421960475448078596277706679002683251052622021540861989654929806982411],
  [21606049935188488193969195278419109488395904610433810872596216747856489413367, 72582256050305838868764253953811776397262046699702407593863025195861469114753, 6470293997174005834750986210245405872710990398561472463648435940653932911858, 32194651278003837861495568103976209519127522799099515135214995751359971735681, 55610411787177153564187460547482989789455736333066045506415082607297613128966, 4723861677385572786097450954021908837757182767017795484813695174115458945649, 7182042395984591650877517876630466756495579478432205774018371274485139272921, 25812579783376390180637015158782735144568337883145409681884333493675509525120, 66901120251393527753968362625712677254575310477301933483033800608871377323827, 15742764501320184158290827875295267906167601211291052136818191608201696098560, 19795370495374406024578722205026623377471562508049412469871230820512318498181],
  [22364633332330201589899291454829894168085875985517620001774164731425948448523, 86134328238083113308482237259752720304272924397713070956608803022291743271036, 16033562000420069760175491883698292298725030731789555712250420306069835081846, 24469135721944426024975027146895948091724256982288973136925136285028436891229, 5869314599004400103624037853369926863428647826965620333836190334724724325378, 70201739603302346029595409613413135175660482088426818513017460945324406521058, 40567180930433440507402103875954281930237938933543802370400748543610131107878, 27428072142472750872485235618268236860013604228069284477095833352655798158016, 74309437977938786717947601013465473797576381575577554907729266574019674426970, 33781230612931262542187128932104235812116820536462121187646174644825300036495, 34298566169949845949868965626651943179059946174958488725074007689592344697308],
  [75573773290501985611730240238723658032836827129917944046655471782227226877426, 53729103110134302244028284766525739502224260055873472852824079848129245603537, 60022493569432861563525095908299134036765188182627667561234843669210073117886, 48370643856523764963341055244103668546960636377709350753215796901614909146369, 35653854331958721523012498543983923339153310565887984489515193419853282568437, 20911796382378204473434354603352648166630073865536477342915193398416505769258, 82954493096366375490449759020025861152703823530143717572282234456363898385949, 104678066213718540757916970247382266538750513172998615333961931773057116464238, 47106147645149885970186298364771949845913036764937876656656532112063615490537, 39042136271463661162624446776721711635849399780266176724371821705746813787325, 35222254460348196394728978253853261366213483417717839443253820781616984887643],
  [26744936804901779298221673789533347973932939893837840007918173928186561598317, 70555668619567765864066616496528581603832424879550680118364066144394676036303, 26132887204288191726666099913003726008252083602961994277222181809120580898627, 65139998364331804333449188006863527700735152546030982264694993860507500376751, 36199716910382022573389225361398159066657053303218937663038318494482518919239, 88426512621793434841014064502357817713158367973120726954786029400983002045390, 5038015544227989708749131269655734265647875301478095698857325065370928351827, 115661642538716154775437799718236902708597820765530555995512805976407503392252, 6815110647698511198715763997829625429585390868710636437804748907515023147544, 101749327095447565966623869887804015531642418829580907875574928082516414202362, 107649290728241136864788694453350633551369659185355744944291697481026234950281],
  [7567492825276531929146995714106004563837574985133192778652439964918515282698, 13074286694848058667209350075340564695639978282281096219485465419776104758418, 7945512968637787936426654308389069389949819999578144589200814022864989124889, 87742702819610042581696461223607611795469173886248764828160747800377113377936, 32975824026835313875525126186224817483227107887183046891791421453654848785844, 13643697209233359028906124435843404170284193254337359824740799508433050651279, 43397515822994336081167372826562835830446383954250978615470133802511670737524, 79192357886533782436913326378822560813395587178416198085995708688311942695693, 20391130841268728833478905526356002711831770008982175582052382285575050026110, 93184495521876346783387442779618241017733858566951438178200434824109761365218, 12393689537489970458583756242456694188197495134410313327899626160910811249912],
  [32044886502258622046132133219165074379402634613208205304212596109414092289272, 98987096076818871142210526744896708780803452377906661738573929475003884954656, 55977424333849695599313720627049874403617827320040723078305803163013271248318, 5443980149091455638763150415385356736104056438211536004457828888968048460707, 89009968737240204356151418794918613554023274148799088644544111892822779595281, 24615036803959155533772287533491390843658595558066322474833315832069977058580, 1136588628189168399338395934898379717436393191685502180942400798698905743314, 24037186487430858877377456618150127485665578901955877419099299685707743486766, 100758681060621541715841941154984113237997466960050009861460706743786660083546, 108391881520158870154217523778749273942430206451026876216244961621581179932200, 18274565197978313828194003381810702562144054056293341939680074550042143896295],
  [65677088498466233271384943715612912371046974470388386851258159046814995315761, 31407253536139630054659250573580991644740566445673535255716315451882795106491, 76528751256040836591120838387534680530534488542036530052769511069136397851798, 52416198004359379770345562299974526422419917144334469507531670066136053544961, 43274764094522822593389455488139782676573733874371360294528510509123350811276, 96315429980308334073955458139943897691832038210017263572219045783006426596105, 3017540984261013224565095948416519309077972726312144584413445532786249707415, 63160051275756170943783526011631563588595877397491404095586830370279507274723, 40289355061462503488001406522745781041390561504335523944817245904718074846001, 71797682625741360848030880333173574770761284073426236471266771251094724804616, 99687672554561201957249065676103484990950104629580830689355459814336989071030],
  [26504904281453958295607115193537556994421677758549037758010455365457902533394, 8262518082632775501352359258989358132129596037184973909122975294401569599522, 76853949540265956653817655041591299803063907573773914705420761758175820931855, 44685971088952099656360505077201552921878783111593031695343020493248156344876, 81287893638881330368113210467637673929558432023148615935252457363771840420916, 36809410620179309516995559336021455733044563242593591620982423968376681135551, 47557643317323952971598411922960993547992498620190649879671696679400845726504, 31614544469893444915181216087196105096862062188208361099473207766018687316407, 109626052633827706989335361049824988118982680661437749798370383059086308884400, 80838106211555376867297510088929036557600439373370442468858646976574515109302, 6170169807608582197184877413964507109886309079349686268556275250513321062270],
  [4532375904435108205729763288765716195136940991254243183274223679957537490985, 29243488207392085136958337995656903665039951703384120188056652319130261056763, 18507705447190474075718456317344281700185984427690451544076072654148990110573, 42366053233544254546629702054535062233261625500172406126468417532813275697884, 93772850759595127471308087224085642066107298882875000271073813638375702223595, 113304196092155989720579663016530299776324711733262488012723115645312660774472, 92997303480294971954343590296352323503093855863364096988282797390031576599287, 21768211090165958760587927215497267478332798655596780318288113159812804309413, 50596183775094054008050084885051240418105171417681831299401908317011003053230, 93279590268077454593944457964531793819452993812021098538844719052848875819554, 36104906313883168450812630643781141822978574243855584140229647282834988372549],
  [74748651100425790043670616978967597802559139422186198114604864413288539019445, 70169048974622675281492290847771946697180128351169149028954949322295926030341, 42422632150058862318799031601774098041099013207946597320877378384240566754522, 9277923058286651070290314249206261254962033477572617834088763954261051867105, 113289618839343331274086714480115094693600519635168706414872738982265950647798, 98816870921229194517566463122271307452717684668983955965474277406104487051322, 53518485408074454282324392136418321003591088959515366233201746290212362251578, 109452668375298150934897670220197474655651972664169647558892593945444148671930, 45329212904471840871482435333860461848437873641243910564608817464011455448696, 111356104081020862870006795189489969554694100727532890569737410312534170174901, 46460760022029795864873710970024528144257035473093518491945512235907863949692],
  [62661834468339156044701452733639483130231994661004927616993204191158227324038, 3716495377511864024580038150878515286764158009437114004031891516753663458526, 109004910073535047647033542541330140495788986708871043012204253450580268140303, 34305527797004738951920541825556502986208329120096041123317013150612762186523, 18787989172668369389670117298058794801494751855334528522413155648768037309955, 15810481923502343655348230509036398034289851281318683784066036356497192133589, 64548845887402015064655730253445736540773231123339883295814556890141956659448, 103590869487749819709153169070596483167047773421120074087994421150272026574213, 76072608009472568279555105783502813773336121608942198383633089931628586632541, 39111793275689492731540255920930377500062720896461229536626185215743670843728, 27099665991142301896843535372669966458691502962669116124697683106646083102200],
  [46869308602068680555454962925813834109226411546755052512506904309438346996693, 99212172040067553314167300431362342370701473392891915221773480735577795156373, 84899078386571391138768449473976476421241594182949877025227241753519316774044, 94708556001006479261910901781420910416256740833580528106148878972728006753445, 77052724986878628043239595962521332939587852578143459790282055861493986361077, 37793856929863528145245282443952228940967797963975997819616538477206288677611, 84886078428360395143450732648642720089676367213202538990430560104687103380397, 31939373516238149425246730523711415343365633168694288395218916516423386875345, 61144288504012284945104505592156490270278726902001641271186259723603162167583, 25653190570216184935838107261340189502048170011878393079898813301012405670360, 19207419548122048717784216320984417634421565020430474457121918188544401376544],
  [111157873116682183548322959333746391238736789992457366447746888105496770659841, 90508108520766895299506142796742073522090754723121285060259509922450918572468, 113378238824316815773573237500826787917159060342224084457158595752208303486276, 95016155130621981538935468581837545806543672137693198361040764238699450986917, 42964005129996790989330472437463271286060087054989800493021651142800152081777, 84216059285712786605905093862912779191845555296142179389442810586680835889781, 54994469417437515444988114969390317402007177738634560399161027808851741654046, 25310196335476164741349846501881087204141521371354020005474562075309384492289, 52448327106892792746215647415347083967453869111794231091349818652606061947874, 34881639235780958896115947719352566980645342987733177065003418718774350637185, 49147890475625518541407767905438769327260738597257092833341423942654367175487],
  [62926872409053804775678249897055291521757119971505957599026554411647565855414, 108170189208820292426771521000042602060007345712572104947643468595622149057654, 60645776650614929887028880872671540856350616956282175766971563506720501151020, 111378053930817213104051833300350466922778230333124119670285756885925564599550, 35065014742060978294886291658543210658915351519008795254592996883589962998801, 54440227620055583153547011884459594919047613065610290402055653497831638591587, 94462079116491144848652896662274913514424375911764668806520711935815329521940, 98950895723791666985625756242594402723885905217369906679823787332798105307717, 59335623615365829590538475529320296081713224873610239633912903256421482593147, 34145746506552659600604507574693658425842770683969330740691695091176069629706, 87917515128156073423981522628573021477857605199917249180440549792724665412790],
  [74627739453864982951527945787577547726828090232765607068598412026334918289957, 29629791105458611422905837252877819201110273437066326236485801065437875474342, 66768390601501584954654556634897934561404551270885663133812032671064021765688, 77192981827361826988768818964891491181510440366063957961932035836890369690460, 94048398244518904274512386738791047827129216677282642625589421543569238146127, 23979356905276339180264061942809414089421525555118465852574503164761299510612, 71165062498112834280983157915315374869635957230183610273659342563412636851500, 94666815737802583886498469321659166143029958664843474890554205304040680559720, 20814230154100535337590463025154932098773976397937021611201716148912795539642, 8887266878671484380017566865538776831965185409845663354312350299501208144296, 47310777696182585786768035608612814944161132937658917632619850623968641915802],
  [31732814092047608611803484549102106750324296343834044856853630833969092078435, 63254550074204347153955129290181678632345869015815655083584913955600456040662, 70157703944558443758710891905993748625319327568900426016703843642358112230235, 45663516814608447695765909450437212565340864649987341335503716638118742748374, 62962956128927910483007837655838602109504563810263931329495019832905928249345, 85865483976481075109364036452146074317221960695466693036994865152167136099560, 90287909828721655198770837528514566740155696287180129094367657292671428798745, 91768115176647966067862200154995494359103651684953265770493448970966035654231, 3875322566245247664421938473757305432312788366950813969053800141479823403505, 100750601618925866362712701524821818808793198562656342522914439347818726583993, 62502930583705074273032932084952150052487454882830554126338640737012912459860],
  [90274732030628594057733517318095771477904207374733462828397083784475165418501, 23816715729911848214598792737614463470092311974046804395801500090043561683255, 53937683502353097662395443047008462659961825769196725039860445429596460333558, 4654800030921332185045410645702330744217504945300416027939912343142528213065, 8815086477266704738219763382024156545480097156459667315951622996327137367157, 16899979255463739115727693250334432549654345123539078107779498941603407976556, 74311876804438445059045443431805413309191388708696334087550984512809801964531, 34776497402942582372599668560067407880010530276041608031035868335638040521462, 107188011971225689023651457796204605103852340200929670036991786291628701534814, 15207379343861745231494132409543843670180379324655497834733526390925529130828, 42969926237202623304429413627243967323114789587414766006202360228471730801349],
  [51777836982271857313843503788455398712027977315773198607926870168119076690367, 6190094427468211512377885788323772533847654041256068568700790914109419843682, 73833677192973206148121432066520551877887261523319552384861769399612566340104, 51307978036484997686396080921633961455428883911224604829418914110415278809266, 49558895984019340215970190819374357552801283291349661260505431444077231393014, 28964301032927845584009928747991922742308516158084530292619346383791839087369, 11290409806344961500012811774987621923942456295886033029570561162038606901528, 94461470450401154278356233618165857220952881589277477455124841468426884227097, 34686192781172262001325113588379633357521239048004318885437270528958054513396, 5517389272319182014655609212856046139897979199218365213865842655576238634407, 99292168262541741825240353096163518838382044606325135974164868556411339608466],
  [48363359351572045825134993792337672011764291305503617138727261152939368756704, 91475382959195475038715658434839819457815195683861045139272835967050104989244, 38583530946705509222914913507090252679845114296302288996636971100816274974370, 41224085774187801197620758419374746554711690863608676671360616204485357899006, 93733786626487217578102565081878153176529440839384809530726152518609010711982, 98687204586965386372938061860478561312788117832131797420813038633390643906778, 51176495674120969547810337466497671195606401490004856687033299627273871714482, 24801053676130517787191226423034884444990627594996477890514685517502208327424, 45418872156279297715129344837007152156861793115305200856567738012517453511015, 94201533049416277069943799449165457589942613666078269218608832135796472214048, 102940514886338804154587765891309825428384011760841711020554863128203400283684],
  [106638783456458197620653893054400102090654694976194272685146734214743977563496, 104699990835096021613604120125306640208556677224510465862100131606470472854355, 27606223649146313491320808098702092930905242970631560654144433347997970074356, 87387893429310708462070790063831043503201515362413637873611409963938003519016, 74190509815593218752451181368697991425413157322153913888538442231068648081146, 54657539440454912130913790128357779224953053271220944847076181626828794557821, 41319380634552002381234223047111768058666738268752413951213206352157744301288, 96102140662442053716414775368473930267265456713121249893910245434316989565125, 81132887627043405668262217764834729282653584163357097283300893024662965613793, 60638584173169894737451962743759411332460714727307737012954588076543158270668, 55479749713460162412862889022701038391460708947455410934618063376843206400874],
  [35667778413808822971445526838283894151592489990556766025778644882187217738952, 98128259031005676907257161657167324842853881451597191432778960334655544190368, 113292727064486857408115437532430335285195814272457775342184031861450842846634, 79992565778249775439664512571751468475819582791591645829238351471665531732393, 32144885142658978656954880569703629723806957298561354037715869554001648911545, 40567519602337164757803972632046836521288356222845064315941401534020880914936, 76070336726147626858294588794183215286361950775065052026349972265035750747094, 66395747769295048302834164261557615765907822790885370443041141031967861338912, 80639801119143721473477610094119275232097045102094118919704630198527977403235, 39494419910704536703430293684871044401965912494086743828601443941041842774188, 36822556294377155644948994221280211232835777059139809411081323669892252305151],
  [44230911166290263709333720137379374059067396661523153584089978130578963039148, 65809985550143177425561035678005403383664225278147170929872412578132069082238, 57777220272424058460007906360750967887305447343738873194596782162123689305480, 50686700005453454692695648714805770385178089179773780609754113197850207210427, 44471759629165877097480920025311482188829051771534816350515956317858521399103, 103272340444773634249018491240900632814028962488897905799859796949438878146084, 13431897293166132902752362588576315401801032627849557489743375429104198931267, 73802732301763697020061204887902750580469844391063343841959861176703425876673, 42331586835597742000719213405281075072429527562786289125117374296514582467280, 65509628680567267154749594330660260640274000756406829545656408689529610980571, 108657736703647388300403159294661627359300514918040059386619279843242655331013],
  [32883510874329508381881810948608663713409435742636345356215823736754520847904, 31744703425465192795227028040303670196126622984524609420051262454911959062484, 28416553501617233139378311979488320495452860476145497459173429460233921285901, 92752145783625955558111120631989796309349917116670183961395671356570781171583, 94165724428870866460316153317758481338125851161017908157244147341246539121368, 108528623101179712901255266126673544352938336399849298060552746629066375778800, 84412900954591074985453586841909320363397542634169689934849173829695554311457, 65748892261002704144649483353662580488958346356922983946211070181962171358051, 13672830260160231714292501094085054553918248940435139723230253891025290167889, 19913864425672818488152552564712991415309021635493284611917513688654040328556, 39453349928198287621206358406468996884888531128265319490355088328927914420789],
  [34498060149885071732186220188606090187956290783355847445195062725542971193022, 53759537318090408014139332010526712390504299269644833870311593988929135990810, 72678430684716569041337561013273001841103687759983990577496318575333130642217, 34127163714935541437898858844638080252147941540780222665142592518791481726165, 15738019086261851057977670924464683227155164618172613269224506983065569061467, 72505466895332529674766331799683770941318684328709481288614527565758420733277, 56029219776613981799568495572903244521537076878673687076446817340058468171984, 68117867921184559691743440867823843150518308622298598431249680963487867296017, 95840787043533295295721304788778277848937127981110030925925281466419234157410, 98557606487909272818429642484670852183142921850892709226082866875149408152977, 24714485196784827117747554999102487039774873462230883509365785159834739048507],
  [67763985301410425229070118417541145677069543478561546229274924844994297415702, 99529289570543076195147691575275446012290282517748833805743559897814215682962, 96454407797393538279052013420656360196300218711335298138910407227956697197802, 114961887143375289216862840757598992794735730425277870422224130004524369676011, 54604801615125017789871158347023321277686922778367005266592019850550969998821, 52471029688855143366125100346453189210369065200233591495188930546335925983062, 49115692828627492129829470468591184082277627503329309236454051287263874870097, 31979141319758516780164234433600064634921051273263685138159716727775678546204, 9695786988192579922720799165910553859357798593591818532683303224118226193102, 92947545492955479610644788538086113427349480569410150077495227954942379270114, 95830872417638827657190707571691239414742403079552628462275098360757350227285],
  [71174072305169149314460055254968096159367725405508816650675304101830678798673, 104148098584958993624550208937877576530553365087436193457695431189127953399911, 33216850575110183117249031301672816036856229227163233815988624238726618404997, 75880439832483353648539031798256883618360746454133729126923714473333785420401, 4626691636782828449423751185295432109213128819819847787171560773639267777475, 36886942264913193945762919865942735125252653829993734240569219410463008215496, 87110561438842757860454905262893527141645733008156667776479396727441550919783, 82672324925225221745227445322796352215330247808870426615501011844349737003859, 110520655270329740052524008200109813543245877432681841089076667522449769659259, 5015285233872852833145342829374045869291631787746993130009997433953986133729, 103038416973241110410192065268122704799529902695367977987880484414969056372069],
  [103442524725595778917004055331375595151547644758774210252021532731353702577531, 22006999580348539991945975933829253125563026442387439758901363390231754045178, 90242897865860007754140544184876760378341905030291562111839465363688859739334, 33906162397702206248475559871500624542903915084240785885931773263836932019949, 28831320694510167832131098754951342829914964853418701762585905248210074127808, 91320491216583245703110075813996099675995872045779083639391537048266979382959, 74781181965904690928780944184925166284598440964965451234553075765716955650766, 3664761236595416174202039446514963880421521678706326689884627397103388359522, 1197388059492027469929581137257278528619233996758142151983768945533792685687, 57765490428176998724057317332946402904870559754333985380885365370053400368616, 2511048194867940013718537553778454009010473382310978460425330088759525857526],
  [39440170642010004543485365545278812107395446066257822146743344711992732137799, 57023695485165280013352653324600530123740247483628800616821399294975943150151, 92276867725500355710120093315553004969410463024793308951722193168520861257050, 61767868009534490860759699280046028460738965028378818695782608774904681909091, 107702659886242944454053580757134363644552774457423278832619041059778158512836, 101844400889773018341459860098782614547933061444232319782885084842743019518736, 20719375627953696981198044046291826125289535733689916831556960906646870986435, 112126254496833162204122619202434488501070554900873823824714745720305368811501, 97078283722727557209671833753919750260139751502146059321964762324289491253878, 7985074299263197626910688114624696534041101953708615083960708284813832982899, 61985865029379032205602227926618774100566235235889397384049722499030731744295],
  [56128964692753436462887086041552556745561195693733647186057758367832826169506, 86524326779600771472703633318563726144360960060384857798089840491312891447898, 56462727236263942650539214379011209489378477130810213823791826078975536152706, 61073195921593166890180878552672853867174054436078152639813742988860459881713, 69742027743675537046473613907503703306707579297681514496577321853472277113247, 19690765475843733277809122832104137162495462131921633693955502137358160356571, 10346225699230736335712395641315881388103547718817300903876063612952894142459, 95029742162013269301272941424977066173651101309111454203079463025961289242589, 86977018867009230846827161313685963093777618131742071234538485807855275048733, 101895739111958002038853622786656606891563107032327318401457369273347163707935, 106826546584210360456237137707211985501366097086334169552082312559224551385202],
  [101506806748300876911259450608325342222782085301313888720701744582830127629186, 86150302413663969267835737605220665450100059211291881790708825383200817801526, 42848146169159251326245795292994683532128402968790563241951991970092628408070, 105518138803021857436664021117555660689476643207679168390920865016918635694952, 101364183801184139892260776952536313292083793325296403592593582095442481920677, 92525898389821656457438836037597967442754889172414735424515118469136473078024, 61463834540355294317808496284995917006748781272948265353955485070345475755335, 51963022502689940988425035140558086946975800233623942963474103911922474157983, 106403340449424090652540603806463210375616322324524051791072414365992613199386, 35019137244565665885842675966321019825236690410962834981459459783046990549925, 96912220933086902742647973948789322369037098941811211648146628800571277000668],
  [113845313403146464492851268470766011727141899214508512122725000392314514245224, 64322789038022347391043671449101501300588280826609954810331301012866612634755, 37859328074157422420481499415542444399280447104786378882100553595188804412405, 68191732564485676273892827047029910271181663814416689200363587277212510733736, 73615811788185161745227499674307461535276486781124421565281624653624482736773, 47606334016882029137282276369768984396414171684717407824838858000334787483863, 96661685470569387577186861497000054263507172553265025440356514770450322278699, 60448950557985974350287422403560900028526374199969106518492964444402484065719, 51473418121585488545721926046739873856475852218555740991051692610556347180504, 87118184499813922346709174605511378639609500013411418541515947751076277800414, 14259142508876176972199405300394616909964854538003914029449260296612048055097],
  [16005645304482971348540160708442396412278795585165259525378791253142185595156, 9695156816643116309385597683992737345298115391525511728205624591544704430685, 9866316016462673683040037775277114494662248055997701444712647637910780296329, 93706502307189665531056677154644775953596737598360070854784800393342946990595, 100515393253090882034163229310973860355257061202138671635615890675262272446133, 83410193378844231502979388026822336593233846740448397285742942892358791927848, 22587990435486454777720332525363761657272610695584710198412944910888050516741, 86029235483882451657609681266970068133235491833178234486288210420892164540581, 33779070569079034155588030264301765818668246159001121278023508284205751532905, 46645444381855658283323316984506138302877642480441937018984078464973446288867, 42231296776176144723958180573549833223738510355053944915489297718745052108551],
  [105602116792580925458635149878164695363059224888477704340059544498369860773827, 99367937577567518201004537515770897614251309748200518326053188298924745808187, 60899908779861450745081145975709378428371373419550257397391131456089965194708, 45529978422039511411653420298989960564723604083955083370232656328636672567227, 103093930696749477255314655738231740350128566683403398314112531410751354810549, 29316695121968292727130252259855792682048569591697189139318930157006788963698, 11132940415194368274924543473580070324092346698135607960788517408760856513591, 16379279153696352980563418228589957513568542750587991468687832529306073136662, 98903724273724111472917978120628633775644065162570609731712383507247305289679, 36258190466757229961676116684351317308650976759472236072636429135431451551782, 14520012351630795662091323908881889968544500674468981843211539741418243521446],
  [6621097909587109651228838229894249659291736746781198900662215360711900424881, 458043255985934484651129054893808843179883902818556993227154163403774481294, 51684307977830833603186098214944635316261744793455771587718049378980375745819, 96995316840287223915683311433736954931214945850105370898959381939497780551108, 25284495920464557967602108979261119290970524085416384343809479514979041962760, 60468135726502367096606547260640886318344668495950807517028631337151262627675, 31379009270222935621476750314978174945134481217692038355343521787861789295625, 95527682392148408848230193833675573470719039486480170939171507534736806613667, 104121252796955619030156390361400218200501081278667896017578963636100546396274, 3671535112702505335401102847829580944441542218312475261470083650912010784803, 3600736307783965192388679544136918733549493477383786945521267252382530039671],
  [111707423327710183334684243987586079039318544073574353891673354104458567971896, 81136730715626834032990570912630606933388132108566362421734094632080261315379, 46457961044144258837541283653351710051864017981343904705408905450688202753431, 75712479278291735176950777522182946094071566831973512521231551312909970060571, 13359946686543457066409948690354177707803725349856052411316516893237493915178, 82338634925459262872445697799627767890317544646419580974906920215415550491144, 12439032094126156443989509162964906297797047674725744126785726452648299225765, 14026162221676654683406486037288906804033462211455868864611918946905162441531, 66271370757965048860549553632129719185208938438146096613624799820397633699780, 89824325851518034082221643050842954432798894390079179568582942709372022383184, 62589147353714894631376556786407578713059368452171118020267513898633409733038],
  [76079196463582786785633729575235333612524521277066350612417777819008865324510, 94041720146702971212185701610226606046075370602944984123792368797078879811808, 246922590922444640141776802107011760496520996100463475105912712974750104336, 26679840052939963415767977297183411207108293432963688698885285682275503213265, 12160003151023102100483605736289070920543178685962264587203337954714407899789, 69171880973476439390263880799031609274340544684267617717723308782462833255879, 89174912109079916548793457464170893808993046735893711746601708984574494166453, 102811542619779223781335587556052884551376345525934359015244324624574335662015, 68201564680954920901226420801172332465817724145830708776636622031453686616805, 103045930084351218948821042531611786344803126781551866233749432461811855899936, 14827939945992307366419524272160533209671584769212846715660777892795581369875],
  [14661664861390466763451024278326815633473841312003309023932356017682403507051, 63187341674240436037103575112074249660967172732393934652482680511939829159243, 90865441551803908644125005490113887362494628930706871971094490197490066698395, 16249954120097114493134911652475501371080404328810868975865436551927413883299, 35651833025102422804720904379125040048689643784844404214830671445626734419241, 42113061618482753915348679336928158016206765179387546878554639827174966088815, 98017146269880293274289340815843159391209381815432759591004814249220098910442, 66629242214163379840190639085667603506954973755986800051638547470209946208967, 79851240115460790865134299456419824694977242065489460595320294484048269956928, 97966578213493440479131845765781272246860364249403870372100470943852543095860, 15062641328327612326880227682035952521379972030686882819428188412745534554018],
  [46177476230802150089929211557744291502031328402848044936805077539297849217999, 66619040886308748921323561842633718576135237803105045714088997177810584633873, 17644484530825082066594108645980953947591083692909082086285951941127106182337, 11157169441585469182236928725297154253021538042115561098238636025389566145188, 9911562104540989916116427229690928465055448599086689485023835136240977057181, 2683852796430359876057346742238838556118337573420692508574427368717266589006, 52066052517713101032587959657001609983839895872908414806404734424860443186436, 54768757281603258820755423616528930423149478956483877075196275548046348837708, 26787917172997456888775582782220000180540346858177958439036937365324186788650, 29119587404345099738600736687197712874996171226731331594886291314250788939440, 31028621810079311302489124232047789907362005696607967926287111991339653125728],
  [11725074158159528262172864252879430801221230348642778563766350390483676992611, 98427051707760834449014691237268086551567732055433991136526598445450756878889, 33629069584125203307018785367216964053585624649680270415301417572389013354447, 79291478825350154987612511960967930446063709614762016197811100779399729554513, 69239552955245481780681334273209203066412686706905644629516198244951536390241, 38175764276706516025134903364234273004830359953045932559547012519553917918412, 35031253933583624883728497714921282749740983174041171241590382104320248816870, 75038052993561162774780026106152890425875971285921920892069128962577830311011, 6255613379716941546249414087316099600931591724579453392195522647189812115743, 28650251463170922820620518748593726719756150500447885492660670514369581801927, 111965958587345635974228466547469637186599959217977397898941788534869905329406],
  [106961223121133292860341270268133369124230455979374694360024317863546593055893, 16941449497018750384530194791714826149325868280806700574618147650036570221901, 40202086973215553583311233680337700139983596646614950908543955698137220988424, 26664066317435750405692146233820167055922332602981880530117941518451985927559, 14137853233824957160042578052367891308103706265115918216335587962053564576254, 68371674762004183399684995548237667356966885631162442277452214376036429469950, 24417175433336902856768687406322451047021565728929702747214762254105481804659, 27691769387926547801653854080646952605082431189445784333530605543700593670659, 68065232325123623375273853313764813814604583262027134664650331935264947061464, 20995758831319786568975193584135990089530844849969301687814186481386648322433, 11985289078812320582774930478832394903916117829167534771224959370154512051628],
  [16948025100788895664183625347509800112752317875200388900975925044412763325265, 38641884247443581052834579043575729144997309384301738642776841421865833196683, 67184377069466094460364045043583658684703586715857548602057466356418720257888, 114075707088936829529783279568267848808653284210877161900280190557087786118506, 5602752383812573130289686824856160824979979041333457648922596516227729283974, 80189242181430258708251266434019025095437733210031077215235872784358747963222, 76675958500090320565580422826087335625159605441647944445796883063370809026950, 112481299407446215557906767017498758579150065176626549255735780273494353414517, 77463552851401629721761498974425569749469451861874172071154171690026939195907, 41678163274361493687510804555875159262692704747577361559209504230861023250218, 61753422170970717255862962166585767471506996416024301208933461118216325761366],
  [71912520271921627291121695731959360642316185184056144501144080977863272871527, 44003196562157729461600276712399143738306975642735883041916044341486266270255, 36911420609840881924198901541891753348778911630706287458141941079449740564537, 103226483739953094988715295812998951906948714709284713982047030951500584657615, 93411939843087167518818713442054010907326719165286053035765630587165810866663, 3732643874094725153527348593711596538990683696282889214933534491286220643588, 89113291508260429801413441862899491064985961778064705458708139380015881086401, 76322345178947770739930604633358185242663527584052347770894299602640314418062, 105440457934703766225537133326426586712156292504061877526096294972892227536237, 39859610401493110157055342860277080247573714301974417508872730712719316182475, 14240513530871319921575779060862110777209174399315015863444504884156661146772],
  [98109175759303395741561362075989035408580234788123374106858605079645366355685, 97246232027281751909436861661596307416218033759072025893297870898654223265202, 96820844245984448630841555313611514174249497060062076525381050217824162242452, 3579759283763150975508968216145454190993866455993320031077913918286509122504, 11599218137089850262121801061159471948115079241264374835728751538711467649707, 92792464297948494296520678495640194327581374459279245596224049984006668150131, 3610676049849883758084924892481710467124857519915095640098140797746967045549, 54687080722766875254008767407690724817106514508490784659165066052196244973312, 76372694215490238402095587529189239538668161585913209715444848467182919616418, 63769952295910355471957368714810918372943765293805257266341352727583112391679, 59444842325884001370850608237350554597778192680935087119156715655779030282355],
  [63000618982015198825013139622167904047131335591845812424113619083763492823901, 37673394358440496518006080655964269621286044864979131785762266452142721092752, 11093233849349409776034689998040998979830535080530639117968117229226986723164, 77053777827705060631572282540164654006436416597021651840670764308618882633103, 22493781448244561544629777639171236163307963058362022102198955068371483011227, 87782737212520439922686446008816340335183960005168023115941180406681150660841, 39734751322901429022787993648321546822502221528052242433625902632746955060816, 64499891972954735828919527229726484780033908466072884044493994667816038159034, 80567288611396656307524600575113840138853027395175677215988554916035911493321, 66582851871081093201724495631590482663537622623523835506798275561073564290643, 72533054255978702512505822729500862456958819707813785532704078570513269652006],
  [79964037459374433285780512773227691741418619842572306775596109058086527917002, 99788900304873309926669360212434161641361968871934185113057164388996059672641, 44950497035664045313330148239175403111297797946515063442972200933310820577808, 68568024687547606076890152366704530162882995761631426340991528165277313147131, 78139101364039615584127184064264728198971282889897354857476169699243985648193, 94589199467886238736250523351793647883732597860788158248267573808854028311791, 72986224080380996555160150041811347091533736278510068595983293575476926572760, 75177287920810712673282550665568491405830735563362804375683245843744690018949, 43593231891156578145105163563936674282211965318286221921631266542586572594841, 111843531077764381863249747500588564819636632653000901606561496775009126597970, 22861842316927443104074630409750514982744275251966547864373043090493402927176],
  [63979129275654399840581786540896782239509753481765496025019634049463192048296, 81029347126273628372182410477288054266180574213974657608433536516888917932944, 105178697358710931675281339713188309123461362343981078618749508153156422272273, 55124233914496894995404263434845925160758265442260333600682051641795392310236, 91666160569075819576397758926829760473534769016660515623962984307706461083933, 106434033364260495711036354821874680911546292261619773515001032680259063315544, 57134113652612992009038909051784425923143317110904936572952905201846280416329, 21795837639707702724094373976967510778055309208456728988650142857955499688497, 36963190738912052552493898455307995833780419648439170017248982464232754533556, 104558448996976505204264926695197694545882933464967775288868045992670620233522, 7937675513615889424358536220598242495875537362919219606060429137504464300731],
  [32475178236259077346805086609852100503948029892434461090748358329067105042291, 108944588325848013955202157455320157745270427292062984832363416081088198719097, 51251239650740285037515939493551778448432277477708920079918733353528605596733, 80304283535859517685601439764580515040730921322490363928855774558447731831921, 92891054456694313606935532902189659975628209630449315981257716829618491928901, 85536541848757182848754523155397354861248434440308943571890635017746650808226, 52237555244918087856605918605887584251546092335561034504985771212041729140587, 77748531974077098521398686576257473165044504607976088611564254347815761996098, 23713206252015434257500589490612445063908554858797951474896761286251160066221, 31803573039266159821407728409310143862445693367350516460471892934717744738200, 14353786211769174797585214470756415721345427800440905560932795225058249098132],
  [80241936522260851950728586368081845058441934581584285174430770133645083263503, 5808381899213143408733979876804016937388835038575654531223702224120569819582, 5346028648516428307672925969650494932067959790367080430847200600834492755450, 66449096710881718876511590729720497697521608943323258564585958138970408857589, 40563553303993276390842021736837109410657376320974793659696917917732304489251, 36543798723157886141788681135279893569937131270540614328902130998123892045808, 6754231909087799951717258423465628854566603276484522738883527720446621961015, 97890543574005831949619647336407070684942742603221605721045704526490223266783, 89742308410519732822465127422431370573207584029437869645176420489147732148722, 52249794607068448388873166463862326004799812522359525674278980878641944389806, 14277394147649629326454842343032409038035958755987403487490300504541048766542],
  [111969255440859652443719160945313509002520103533753960808371409015408528556078, 85945591810343689817707197093565982617533193538707943282133225402957997206710, 47318123635746204353969746567175067512747947214992129606634757017121670161206, 112320412450260026170483348672085096101732856870726711924380378968798582669588, 46152533193800261866289436816404751867355373864091547791912215645026273186053, 30629710294963063552108765867724230421009818055651705005993036383763484358095, 11709437137705913317084837613963506441530140194566523387469871687135141005490, 90709066798143345562923546841363870309982543412368351759753408814696559305549, 40187991331571263085586933892326404051081180659848575387963120089768936665584, 18416689350324776040126201573936953781036915157421399449625038050743147456208, 80034952275932579293940874522555030724469639019173513420601541068981717254849],
  [24482889709110198748833521865292859619542621434623643322592574205840953649807, 50151708760065982945141552867871232534379850028560657890944070542138677645231, 49827834827746719026710561278839767440752015836187101165907004815169481967339, 113492057518771964989295221597529123440493526160463543467330888145751240798672, 106857440847580205849435622722332107382747706953516827626370950423194262395024, 69579440306101896661809770310525001465838552218527645199953942376196380043878, 13214709607510666421635850857687950903621583374504944814988872948722814073122, 57177107036236894947029296547946307458959570959823844808149852289705145976210, 74163959870201392620181745533268419147287629980979011085407539686720262264283, 86154385010777663704667089378792296824080462119405141523000815955754259598401, 78458290984482186027151194954405806478265250488975030696679889744280453472050],
  [64765401496722666871573364512946730713107125222721903023340614600719759004975, 50058823296127541365671550455035838970782767250336704011381734374276469106762, 55697468048285393241480659746025925572197954307899636734585707843909960320624, 66686720871123218979204952319154479085134291148744839362876336779236942808018, 39594368219753732632839727028111170787391909732758819459358383433796041866881, 5357843202645373148537308957531754772574086836688097471560207574008339871002, 22508218885689203308917478106051112165990909551606204155764422893544142198827, 113629025540680940273158102868988208515400358130190957510265547752414949499186, 28955212227313845965849073775486642889285727970204806014503306187566987126991, 105390255329850016073241575158009190203528112961981940775758983905754495493788, 88218063436475956726155570865040287002585882419061340885443730012882057197106],
  [9124504302696503553459286639459046862586061235890674078707034443937008089978, 92771732603455435297255618953547354822533290083134045681771892100877757296726, 16270449175716736881360962001145369560031279235091013762206584123207948141035, 102847669260653218503411227178071985674377678163326230162319639581389697357513, 68772772673771496141561688158526173080392918267746481583544575723279198458773, 18344387522084941454127203709188470895458939737828343382261148329116330484118, 112671116518631737977857031001401228232168976911277641579977376544433455294184, 92689836674007494636458542286284336582812569724389561161888155146164048472583, 112023689633778111018816393087893024848449355734114251724063473545403701441185, 51868135835677339494364086642257197970394952720009516873712113411374266382278, 442093869953163817298426525652450214610870535552404397431580894366063467079],
  [98828843776028894002069090140856833999635734435886890790566843137720911198950, 38780948309432404008568211382886572971100551241213276594689515856637915958927, 46454384808437420138692078110151863423865364732680083867139754289885093475279, 8966342111701114288733200423860556193148889739369259271896234526023274567832, 30100281842481367973004732171213182298269196722934228742070927617308227319415, 50343226410932676848299900038113292794105131528624509643862826145006338728781, 67865333306864872964464849413365776315599028326153372011510959073736841163665, 7820770071878937333943638408949516963185759425998045191563813907315900877812, 32468805862780168096533661594945791421504539624607236182736859099560148711064, 7551686778659493333633621666888245072137108605195181272947834979587140228933, 29963561063377046472911571730709264642803859191179178086455700906353458344324],
  [82333123107715309585783336512637958114949390345701565910693306355980159024349, 33790731818607747610182867625345340658248932140916345457277436222598659396745, 26337115666136595581091050140510728536445670150364957429969336315453676025314, 78915951801071997963647617777082662999670583023872278511590272512804599150565, 97083782454983596448226497731700085921980203679693762956312166490190042573339, 15861734459305780549621301182483535048139942049650297220757042324611491678695, 103012629048417760229343813532490148800274683867989389409068034109478145526170, 101549082336945321263256182633087555757298739848792689605901251560949135532820, 91080811691523901295511142222779146768578133888847768379224955637944968066917, 99735786906915922864771661938106595646271739044762136189852099856270229158380, 1600816965348067018236382302457713169478946015137819251200895965931557527407],
  [29253465302944844249760046445650802124038025099354474132546344096292282015978, 108134941179648406786444474846108229130732003816821728441655894827099440882148, 7587225290541911879352865441300319491340196243528338123130002149763203555863, 86197858990284811480191021185239523657571150718918555056573666099917357416937, 71721762557377187175167311571876443955660821628686277254502551120091366648945, 5515380696367295510043040890892874608740485998158568217800746186269369638694, 34865227639903991178979414800160647693122093018440095394342793638763728857398, 54345053158127274148499575201815620750243821227360677820857959554717809061669, 18098943267455169939208982168801724378704450117621339122029507209371943951464, 1207500813525110939438327690004748590749611528693395312727660998146269834883, 9011546980878426165948738140941600954937854744366906543259738292760820105704],
  [111387276937963588100640329510635324982389793723082589751676704109322264371453, 89814891930501204071091469325190123764969072039919382148512798846459384969862, 81102179262260170821993888531713763597945289182721549272738614314690654936817, 24893998859449195897888887853932469984018342012251714532986391522655309564251, 71347210697630550220438791369024621756108460182268190310046573360605743835312, 51386978862509280663400069984311641815983788682022358155621294338647219526651, 21614580997924854442781868212286708959868855586905627483736086277793406970266, 2644122891235138992208037102478996531241798329157009441845747258854567673879, 7976993014498272058705618782959589233931885079689133954482225511306360548592, 94368726757257076107122917953227153283341528424021569016189268982867808798162, 79731309081832679631423257360179300141265811116549668032965341422746322960997],
  [97097731078871141485243787658023218403399430367606587081346930409567633987898, 18212892713130700765651408299239996815056307692350287589533863600299416103797, 82275616468889791837278644914329356331457649342242502487732733380924558316768, 18498184599900066673928507641982426535791620593685047707149824155642343890238, 14574173969689426077481531692119698998918242333278444970441743114095116236707, 90506770510365853751287380198676910968407168434882564661509822752456494576745, 95357569234554583305023998606454919522416152838716284090316968164679447965263, 86126013662114189154356298625107093848143797531851207944048594161111470895064, 89328972730883017414999673438234811397280177374018617704706832426168193654120, 49438096867754803732630434920006019652579438631286199583480662242490011856608, 82196652412580639190782881456606796269346654012691260229530374371161602566287],
  [11550585789827919060142765207796567700636964984309351527337780450254672785405, 16550005240499242200676082285940663377715606421812149919039889939067449730756, 22984104210754949820018805342839736157034435120206032977976828859445580487822, 98771180318276021814579206421102465246034569218661334998986618119299291767804, 55717795660795346394008989530333976550736146273198578710181952841226570987389, 113184551468677782546008715874231982461199272288958107448625026454866756137007, 43589084671732280718080625154276462199745434925155767251655748225512918584710, 11703305511641759671982997586288867371145979446598055779959109843353944745858, 96167757569260753384052862304808652466505876900441483540741754396671048464097, 48349743453191964458831588174056345250170438169745869802980790501756550271723, 98686239694150968341444361658727725453320430079946036486424740866023569723705],
  [33698416293987002923874503067466730721798291676496731895188274951650666494029, 30340663430697334277580308395190584796306657316644610103566149091813090238487, 99859605427352124365712917569878296298298315485061896550243192800036930419334, 22596173901200496544124446860689977686377059436684098238584097421196007099319, 100391589472339156667354779418786120019411677566607296744306711119611029876387, 5298343442738574404001651102879287829059120724569743592485609377852049070745, 27178065345742108734296814830725484580613986421795971955272623712840736525714, 70889881904727786072153050503623983376846712033135537358246932796754849536367, 56313754518430379858123726582605435654811859445185448267613387782529459482520, 12203314221672074993475321891724599201051791375764594592934664158070623528012, 5403643130421799313333059369297478939521302748275743210558510713852380511870],
  [55509417257944659894991799933125513073595283465833964601848410084649466517349, 100433745252552715084043930600142294909787641090404729973200971678862631461236, 43667197030929239112216540028795717581107874005427509540480547906381029258712, 25913102047342267590805957697803188649686952365000308622653397922393375533792, 94893220546637957119070244017494622121886075703909860481389948513269121276263, 15087952583241371067418955384867446780612708895095951400233683291117840452499, 99494601128945563374923024112967111902471867746078659084139079818738101169275, 107383647277876233414356487596470048133068504779515152135795049173772489217172, 22869437990690704911951706312049786780991446559175498433017168568855728108602, 26168712888432162624619651980732681404324950390832036441258673043043568632796, 43774619208136526184740948412380235129274080171651577985983944453407447666390],
  [14282697674559859441901992073872542286901775922548040278054474694436021933128, 1243567127089776639611568424962068241222125465364832515585622035166630818206, 9551284432467618089940836100520880395109196832429954668555917342986706731655, 89240643826794959046970249544500749726890226965647898543215479737757723418084, 35520461630297685267566826036616346809588083640265988194309241019770895108608, 93948349949062109020435960831407714938581115829914788155362876124087448974185, 31053226486780962771506041206324999574485024073701608124288056993684273299418, 70211639079933979498016097102380276346532156311956000563218938033305088575538, 44545264393423747959977692476008392771020523452973260732702788749518340267567, 2498440157221406706856191355923304322317234653443977023289686725474958820347, 69150193385884547511929223796159576838415786523281291728060557546293051892886],
  [46519404975852384003490613124941592975194150316829088372958199579040406374064, 107219154406829006124317863750141354492621644713426668511085364693769342459524, 59042600862354929475761389502480634904965909635570493991219133841261581856675, 99491663295895446280167296506483978027970343067499068556088442999439900882953, 97274821699042468109480337683704172674098570234399132315600952309943374677210, 109265315544153715088838881895628921706706847970427949957379240264050038588103, 46697227288934973102502572678248580458158092768576432369784723954161705393898, 97781485546438122036365932219961089422196053173841791884538321693598163738844, 36392996820510490040003625912806523710648899556631404126937524521047665656243, 103910505484282842009107549375474523235114393273382906815565089588530194717694, 94529013213084990001423168998090108381371617762889010404717500083004986900858],
  [10658919914722067879181897322414513352328582609337080930786660129385401680328, 3705310706002359125308433470512612125552953118675410306055782767548485742954, 34907019453748667861682730994449960498023406157692957334449218594547782897181, 25865525333254120253603525956471370228843937623690570826910195220664974746909, 48788862094354367318235216545727054790338774491502709160632352633875714277105, 110856778933442979001694614707031452835461692215122064585440443605295018028541, 68946008655573549119781048582050674677719714034467310918787230000097490910032, 78474831183920388805741565601256790821107741641106994896867655543371729116955, 34289391332164024126573361018841667678684582268220273704637867056451620411669, 70181873375325437599474110010156217000763419495645216551016009959455244096570, 30103167136200305755366822627320946743861142055781186242237352946941961744484],
  [36200606845177105193725817938522886415187492505684822983300717121643083504459, 94733804517624512973868113770943033026787080849447716698481034745671092745974, 56944789754355051601722680725215837575415926025046103458962028708453562257495, 49671393288564980622222567429447573324546322953856513995825702769948724250956, 99772845381642585570989850759042303795711599490057960840530211434260050440903, 81592722511306078692614143850583882713770793402611831087407395713088890164850, 112838081459816114199127594842876993260787411956332150052551858597873531401392, 73845931996193105422159818801042483225874184655902828629722964070862658016438, 109220655594521495275580496144780813509463250471888325905930912814961689677851, 33330088761636386858716890115201343568201854788119314325803609871401999105046, 109262166987658563276472104374324633751229015596819028840594016242848230246464],
  [52765510314776263203791779599913266161172951885425336318618087472064933157514, 47440828886066028160930682626646367739729511702795613536595749905350517357520, 45827378601443541880128483889706854469703625514236735720453030084198903274653, 102454531179443017635549722118726690935054471592582221906252344699835869169271, 2468849419539118816416124358495415991109890015578207216159504506938404854171, 109732192032112011826556861490313336861676679228279463717893760268019653752528, 113377434589475844832130795191950560539769257022721330784963629040915475315457, 12305662723232464795029985477808195738757495298703208449622872355042816303889, 74335764949614807663188312012244587150079811009326945045002597060319176649608, 90711100446821883674932932775681311419010479242014994999194194500086019139381, 18186940363828506604451075892593182824854140000707542162416354054291280543836],
  [111071298992840070442372435147544902777214298265758885642009258330479889860755, 73122948432255262947574046240045815398667205859827987917706696610251166166814, 55456020009625646754104598617017411998229644779672638188451889789184807559224, 99208676678953388287176922585814192646917621961685995341376327375917771782338, 91985098879452069412714110865707827974955680515033996429773587859124828139895, 37172757228318141725981761988129961166777563103509978255934101685433123505917, 33075241189937533447479028757289240959694841042932765534973683499164301720226, 10104552650007288531189792146875646299940052477036886343115465522937470449712, 95562639620320710388428718373661156141493305749445720664026379024280837077099, 25758841550647472652703977518490698917858188327152252259591562512486446710421, 3144460460934487493023594353091045522058343245418596445021830714272632209525],
  [75049838041722509371583113158916422220491120188912858331640814494833775359177, 108519775645321081244084538966519277237276248749484196740352082563397322445655, 77093581893645678993840071965326631774362101824403339700590246179950111569648, 3772897519276942446850468060445739474426944469057486899758235195852226610064, 10961285900153417181676428993978887480239840785782765087393415971225650312990, 35370619322354854504446615006556749555988483196831848327441966243190757425161, 33619785930083478866302181761390738312218154263363484921783524118110544336384, 56611194613467258420234643141646766408309692271630878235126002105483251862667, 105590058861498550272849898723227711241558486507762718204496525427070046889913, 60455533262962170447840337873700910001628732414000066491900778984473181400410, 96131531455652973359474747484372785340474093160387289073442737720027812623177],
  [115730776121537030964111428831267575043861496782288589240363262021048268291811, 104630348759515031904882074913182904704227103122994842772108489603550791072234, 19195980094560675102679906185466200633293715567163096298814896019722845040291, 32130158377863056260168133793428607779253298618056064100172676805273326440787, 84870449177804208760061575827889116902514309879275618577705904784753969242718, 70251534718680931411037097643211533577697028160899066504381049494406155884484, 37557360476634293244739066026747526807368826535826391375094136124831404671010, 97253220447442091600759001059535339109221713365621423109286992295954881603119, 10683444529308581505073946807690125067968035582054069618079929709398505124125, 53717795680292072890422593735537626680286211555445198170567119663982948129923, 83637797507177566816837448702378802677712077694342197649515393656194053039723],
  [103446567162231353176272122513828169831104793328699178914535635806615846438464, 31327528695506305617566580555143755985112835829255840162144962011805156406093, 70277648275356572047268007413684591586288809918468197464468111682952231426244, 101208786784014672481214112383023038622087704129575784351383586642499039013839, 78897720965137109266370648298898957706193875435223859572244116797429024032218, 43970858074935481726975484915419602252691254045725867131353294193021429573103, 92144051341037914886008823690133107280825240562870068255872267540765022060119, 10870414414193245659108959950044333133611220531842509419758373792373328323625, 81389590360828247367649107391585683242305404252963951439009214599517931467889, 104180512206467171824646565978945314218114923795654587659195301369967573416929, 67471296471577416221922285778518470993823202015045393078646094266353588820677],
  [72005749932906713972460674700633195357824023780589057832927382799728137518303, 43238384193958702568152539749694906725649131164199259861852494768928878203789, 4350299393551129736494289960909650917949630684779373600539105188322966785787, 10987321974259126461903346031891893712938255987451692340112314372346369762420, 59360852372782819665732152020662747761496106630862166754507230628195301919061, 99387587901756990201815361863124061552559120346554393480366992138808764323968, 110675875669712982107941308796950016920729379360066248399525967831399779225596, 74497539606174671900785897549243658245005687890649093087959280778933966839328, 89111350475238592357670315658069251813745234814963344607380461314989719218216, 6104717624941316288765635410399129281860543976356595334282712801305508397109, 12184639538568673889034846803810778128852247837617999456608146370161009713393],
  [24777489835196707249741493487205625492042798335896453240503860990100219870110, 19025236256487582183926549674022081412212947469983700866269097510292555010200, 31245177961113339487811524517134688482494750551532543078664174839002614441536, 88743563970841054386579661980475686134432800084745945715438941449256658066209, 50820757754947917594991247933519722017031065638811539036979366305042852534814, 2349954997658675523048354276020474725870010875151383027429993630473040295043, 14341252319897438170189773835585413076091680132341291687685124602038948068827, 12441038750783001681072188267514953145773810899294686335714646182454434280382, 74929165422663205586881092284433695639383148838889441184507492763645286771965, 56909397247223976527891333008190806166335146391488452453250383018404526117377, 102238941198753294636693381054747852347871271598657215333824051722453427485926],
  [5900138795147571564431280137093283221827010294083791686537834512724490864933, 107981216572158941743645553504331087605572036713541012913198814091753540409572, 45880409458094268237005331127796598251955448135466155372932304625896811929944, 94466152779704516947500032368231183333936349489245894684372147895607649836073, 56113224384532601321005303561570420407102898084993958042071345065254481599115, 94641466682581384463137902489465798612392751023278867406914783700765827195902, 98468191117203701131210880759510438245360375287041570886351214138851520085113, 85201165756864433669881204322967585492884442804004902182688225169605557423301, 41286203192492365081075877575568342667830379482214141623764438208876115362353, 13071068332979309387257230864720354566983834251651019410055739728832854111585, 64063111322266293919308548015362642248808136640041918192405521442096822277602],
  [38872003397079067027109804931705451656288704479255439635009128191872454173558, 83734884247984958104057856107671584968331772275384543213771130140434653064401, 4756690595989458033872149937289695682925156505248642225244195187523956983325, 36427618987521001664112016556111247614056064460532438884520643305585023505749, 27735130332185743952758140910825859553727780688097000459758393328170842197272, 99621198351683788642760145570879647348351019226000384166865426870601483736334, 83213205464602540816112353856471357301573544364119783085086075266841906935214, 64894864972793817396836920339706010654098305067485729445573235523592379095969, 83492066898904190463704721110024683365787659897323068388400691222232865254547, 53010989274304564224506542929653175363337878945378928870646710708641431168125, 21806326821917921571720856580600698039379476888959211369530609468058369934277],
  [90883263742429065617611946395372307349345645444624406394244937807079477785099, 6660211097131634215123583525989684074008061625209576874844576765195389061542, 37483886439780907544802481881543613044071851460732782042523207855180579582717, 40870139133283886373571946071615117007809289894526958511986797598303405731738, 68265243844605891919123523004564007412369967117913598699230720515494868116184, 107767330194283383729301520113407609212393331478138323690429995288102959470976, 61506834896443759887750393503105548645375901394059836462655963572847222736497, 6937236123145138112025290776117712467908591893272147754398750479762210368455, 49050226218085971914005590059682196745070303970805845281842537010027631517885, 50937542973222097325740404194181765382087399586994113408380588621933820356165, 46902260958554384065194657624262332230194309530997821721561784554075125209481],
  [111140058162621974346541048317884755583301190442521919900812045517293416250086, 84203542885247375712590092013148077347037797502964781011664423579730187814930, 84957264251296327123385461120180123826331946573012635271077881700734455318484, 80532611251437978913961722424430372896865563257985689746438304228799220898836, 25660419052168196328301911209820193129587759231735859616388360498747130181093, 7222656048567668311217313175116716012156227224665852686560117210185759855782, 68215140585255739274807378810944256003024073348828200174556605511415534488172, 64327846144405984516548962249912729758966054852254835521599975068125706244430, 91330181271573272822737993877092031260463926314420069458282463559206653348660, 15895930398765380154301522489490309342354313753908196506773745647596008827098, 6213838932820523031298926225669317715359546977525476141958801569980504986687],
  [82579872648978948829203811207272406274806116769461952564559027756539315314936, 48865098740849216430886906405693516017216644280051527093426745277578301357215, 110212499451527301763852916660569747330904765042291697344136257668230657777871, 112182739869177989912490650192305315248662847708305961107102966290797754697934, 56854320258993989195296686488108247589563565416330479879032335190007582822240, 38298545987971101766539028703646844673643374806614289731832094694288729851489, 53383319303432673023023723780203831808579223153763953414073086538317260721825, 41089185062112970843941637059448233521842070553691905098859255055176498313732, 63957320240586090381177061037071049683671998616335349326685157871536421556768, 42342346260300258087752883229886329495597284412596705053527033325254364979946, 15286427935724087251848597566882014157379357167582540740878113674876111345550],
  [85845148473694661656379200008612257719683661646014061095044824419907390407956, 57801726169847636920373507089862610972106985678206802842153010673120729121778, 113799633996834430907317799416575276387239758264841648696129033253510693342161, 23604995958860162029810187714970262590568707366188415396749535377429454198472, 21261503853748832626758806852446937169654590290987105613014298220281782060546, 46861871456032341874262991370549366521347755792095224349057506028149261467767, 8738377188619795882252931017421813093307297375178999695616531742526724620393, 39845037453420014842164936556616948900732130796122657569862100850636680457800, 69144675836562844949188385136232093877898665278348589282480860356271054582843, 18657989813222777778272009865190090500196145178345069871600418936067209568614, 30083286716250433829212435599338593798986757487980474673234874782343655049009],
  [1101821834188042890486544514312914317625915413421627352398124787263758032906, 7154986714253079644770679749899317913769431902440549055922396772429903535527, 64112034200797973088980248711953328811539251945957178655877563341027176112909, 2351155335872403192450879011021930555964116501981787359560103835542182423500, 92486531834091455565752203091098363818459147801564431502317783229541792541118, 81908722337747341849203669286192728810463975950769528745492631392561046144318, 105971552808956463790996923660024133677322167834083666154036053892864096452255, 74687406633086720975494745410842422793847366998635132555790715915034508489756, 52686769516846772470595900322532040140973229890897238216035366273028538693850, 15413886801241074703783208388153744807824577491036366449182603218014503583850, 67592200570796658902764128465291559193580417771773378731046168539904371038138],
  [43004779079575764657667195334837675045494461437189524723774019234917915666013, 66504119780314531737712610060992739440449717083543268782806668379434177574392, 25269082637574844225887078463405162529670821459736763478385501706243062992641, 114422687316242693640298427372234133632422559088031099208785959223863209265654, 76167699157372859370666454657886198995399536958003043434434422074109001685620, 101179584328395730030939367222392664848001751774137987578199937404612801907323, 32800367763885658163248819576905706082533692222536375796744671879921611927575, 39515446272052209670119423173942895691706894627393712709704301324422187373160, 11646812257853381688681215349306737549950462039022894451066234041491647078142, 1007660410544190313953863563826067264502067503311375923162403293414294707008, 35758038410790518399180233793745734574160241611296800059834423539435614854692],
  [90196715921137982819148784036390617890107741487421730673318218458950438941018, 14768630437206808782976599516990079411317161083041830355911655541480610981177, 34082540167922004400963349917719565720254806412800573183533659729947347859884, 90112051879420374670268260039415034228259093481882031090206197177781074345794, 19133332415606572023758472266941177753942991533790666689948981930358057013764, 21170287483849690939999198585192858096078335810001600308553543622367515882669, 113170150859539135128928854872713775998740325373047271883083257682503320030500, 79213215204912033474155689318656576562616904772049651182409302965656188367388, 81431752875173619048329711869832544168499705169641538653650585043692394792317, 96159383442369237964838907951833168169497625246420913199590886425788931641153, 81251406340648746920599700580860273505507090521819661784646807797493133835831],
  [40156793394928827639993391330045547829895361888711421232191282588550347069774, 43972329778764400441692037349436554383972454459027872074574963712242330557916, 52741100153231019066853772865192797409519608546357615698837587512809428713853, 100705190304842730027369504450687435452125830320482842084265795411188714291183, 12071713631520346338850067383921631855238002509258696875168959321677586839487, 85949891187217252598098311158584060451718038849310587337079754667082743003165, 61956701180390471912721250287002100726795543299490928309445282671948812075008, 104982703204165410847704255963664779855746491033858200366571596527058214274708, 51112244868304021117188696176108166502546781706125173131184329254360899750095, 42101164979536348947031005287116292826779602680870536387276542787928781853741, 27309163126442341165903278043730533594105338715344027040940356018746851144113],
  [108857124828333215952910699977514681505454445866219723462475905188478562525614, 44981205193145364782330390030244954688173190529802854167254926002876652354288, 17893250044563025979127687950325591773756541231470925710477912076802755320975, 5470619011270461931044327526149190897489443527648662003305698137895653838570, 27904347664794687877346294680465144921684190380308543657647381008786222705199, 52742219667663501905062585270812898106943008273720312586673450055520308737447, 67614617908632442128944942545966708397521417865215729638988870413826891746450, 112375077703500720158376892424903747226386725969053117426602578242710784421070, 91354083644883346478471857148412288913300186578775681775008060382629769231061, 52364470248739399470853558225147834118873759224442410721046983054843657021041, 53668944082238959737540273817672698082224206602034546745095147611101180307538],
  [95077885742890802955642381775436933287829330375880362078432301072822502198134, 63513187140713027710589830328051390209491543070501832767459495024637440209695, 111193397747546643488658043266028069062519811726058626386604122827971856524660, 106736692553561062789230553255970197997999191345686525051057005043651155775056, 81656871581533687400020848040089491118107661115881995558154291633073618411388, 52197147440660000900222264521027466281643387045826014624732373179813261730898, 40184975045892329674586510650762360322166050641658833210803035396497305475305, 54062708388322913386288802087576474549727692424018727325482046866158139063008, 67919670213932775059702839185087489773012600902229907075748261372848088428878, 10108562170181522288601410734722415419968298942892995356629130025082227710538, 93153392049098524164848738930578111794330849787469617980082858109812620722739],
  [73338876619782883721903810748918540271585635117308874297797487498987554092931, 101176361969225895544469201240566557160467259479105442542911553317881856173545, 81315774658983966867836510784807055376156890003913059688766978379392839933258, 33602523868471414826086599219254906589016997276257267892890507956114517146800, 67021887748066519727019792690133184740985096367941793141005347342314641267007, 88296310339798876065207544400380727760573667967002437555286312508337737014245, 56606727161136002396001957418742837361547168942104563058236071320709163875121, 13104546040964436336961343453218850426710329792487577816084732414033615531049, 93908667262599089897983147259354297758407963862069826238540553393791216434301, 73665559317156040804983704987590255791829268876329472739833992744069664430128, 60146650985285400881698614499971255379223017377559398263639656082937352664449],
  [30522008638168957596381253420356837651129888232933463205981199126082628042891, 22781302492826730707531660482806283449757179524570786087915122791917853975090, 62232228781644751598840969323606483984819097086730906783410164284784330524433, 94687405431543920248512890532692798897977600010785498312533082799363710679620, 94543056983830309269062603772830005391498761807481181683184297175608884997600, 104669372062986392329001916217858078110785999891336542809319604814138660568708, 101660287034476934459832367095350740921831422604990853762066694411152929600635, 51211096201141967753191813099083514829807331124943004428711648152398296943300, 106864263566647256016187516503906766069559290667989551607292949430211112630227, 35622900357874348565442661485374581176219988492033814894090480005387639902981, 112138671706372193747733961399571361964535698117022687343571474132372331883813],
  [51243882513189770872683608581964117743458486366504563695886695281896856273758, 56953664944431712200677130465704156820911768884728195496161164890542794356993, 19023693895934680744679785078301553506127840936867428405551751274653108950790, 78149396202267409735290246452195144153883864000257150772519101111384753883243, 73314736623583023681702043441254839271614484902893604953350840819579790270249, 88139188014309883530936692385252219790670786270630822177194954570663301753342, 91929287907228318130342338743728037333908007876830593606543303302978513352627, 114796848990992432903418820737015171083267129107593359133111834375667591624172, 18528989893927631913829643256551204072340432360593762329659099016784259038235, 11653282808731651716856945909999812234058543849566546246824727142253573262055, 67129723546112519943970491282982781440998394080417413167871300536938797749709],
  [71917845176676070420784365353519076128900661055126390289226889803885361841220, 95424801843946051628100719269085440221916940023097337769997139648853652219323, 98397111994629099220919765053523034186825431860578592344497579280677251036131, 90480840905344633520199836246921416195781533947975711410462228517798701717767, 34630301018555132318627588890580887884810402828041433062586396938349878663004, 11645746049988195529794280900923215357189403272111434776845916091075623928372, 16677793363214834064399063642598265646627792538692501123981589065024629872111, 58441720336182931284201400052282426389235743052732844471902075878449610771869, 33814178785021974388141269147025457233887441829425679674978726649434895394227, 115619976062714302641489978704249192224523997771594261370113839233191910736199, 1808694306429505910236747335772489506338924285289628037945779817643076521117],
  [28658571837230934126013121673645299478127897257701021423290021220446104066201, 76756057923822480697509037881254959709526517454616416751636075455661005424845, 39783759549617952764209847227803504545582794018571217699171343941739435054171, 115610244253596861718263049495538329142583510167646379714609424425495563914149, 87860144020051406984775515908396574445881963941288224607399328084691916931228, 30809155813564513287405770325823513213530712488962605788564432759800390937665, 34489747662612121280461939804408250598000929888296788069872200799080784802120, 108431112883756357538351468529454625200005635921163770304884224959005305610009, 45713109259680880502581201201480939466243906795497738594782057450036418904696, 104566172155081964144133528621463459273482013244648431690533829820515363491800, 12271593117977005036672567648887020241865368600199318338284805352395820352794],
  [2830791225570794091129872811721336845905964284992524249556410246544844231442, 43495511386756158822294157283613492591974489406954293367652583670430477504836, 66825836654873191815430324019331055139672994616753672834080691991652156703753, 94046090807062981588887517426888290926038122470487590260475334659180138288577, 1791794038849854341647876909468088990913895185911193069741972677294549403145, 4593506193197796371893699584358876503621824656849452594610197480124943079436, 115231578778993391589880366207680590251170743934598091854966339328141163413943, 6654844252439054141477651385324756792282546905182933020469185275431201774720, 53658301870682363920884925646203172007639422994888443655100971384448259500706, 73030368627565575892005722881669765768313696338362806274769217997148020150356, 12409407288211007768152680247266364920698589406253289639159017905403394409825],
  [31769631928570223059384498028920577390084797536148778815460793420361143887962, 79639550865582702805459910668807382570573729945963887715279775155324041922870, 41396921934489265664066228152513461995154473360382309023898778993635088265291, 101703015216585093231701669196615720492346832411067868360816946121095534129468, 34353066394101126762130664647849095967869364594368370502778694622572557243040, 35951484302807704410772772619861123913094304049641786105750606002892060223379, 32739523146301958316277587315611961597726469600144058605612453545161074767417, 85314432986120062671735438561859019911433988910264517011890657811783489142083, 83738979861664808661214699220268778960550294235412312368716325605292986422033, 34191976168250905693237846301965239027247387754111333201103620460223782124676, 90247423994099902345422533702442214592430276017152218585368858201815798273102],
  [94309091818908223338328746739708987063037634270209565234859971643450616627832, 29533980420159715400136885264216511244216299093733597309556117506076200125386, 95481614788065455517704677046854734877880236886845327039337193143559634072136, 55859817250076702502615728844959645387371663912395346086245141054538975405504, 93488168885604554070471664495303156693477856415625268154580284081236714075303, 88535154074580919993107117611292969239168475547380270046219890245007768192779, 15568785556189574040563984683989132089058034868405775672039232273999703271875, 99611709752982642198372628586735146051805117028210664641461346740071307779124, 88451541029118567812886609036964066530058339182077992672315097799308577774524, 54273314521278321139525499946013155288403198613223627058652986999997335207775, 112254337382263619955075830453261890833038287513716696549753837504686955971973],
  [62920193164639018332633667146896921723550928651214110402884405233712474887918, 10124312715545281543052690278936188851445535820057756232491633242711747819073, 65009927877581983168633139669147257368163300586752320964536837178128709475773, 32098334893296112172042716310361467875129223986475407559865539425398150454714, 36209758889895507586411107638093102521237441022994299207088958928169639139817, 69698479493950917916741647255448867456061810188430327647243169892236663873376, 95691555532300513673503646234143099380598600433644559322856792391613728169085, 93395494443451871699265636313809058674798167590933348989596169079740702838645, 57351003476610383441427373598748431616335548213067737645333412064590313058832, 16901902852367668349454453416415074328329306131939431191955751263632081049620, 99725482086948844566021742030700854722127245278397432749493506612388403578193],
  [59552541816853701895497441515535560126624663599391978603648548050952049854658, 52963921772872411940496828230933266769524033425373602749664980801300002245075, 49910016228483218269864121384566593653528243410262879514241604322418640748764, 736186006325897330805233201752293717043424255156195647123921002191592313238, 114398178176359250732807433939283994729704072673718336605067481154957578150204, 94908284608084812892675526412024479316735779319215529206214266250427615239711, 56517158233148238445378681044327292101957517496250627438845081874813128544049, 39972452465177937950928486461366526277191108009555373140642270158263923121178, 109986491777526101931032759799667932628531605345555637049745340957376501425041, 34103251773087274984286565874990592767706928610936101033811983477993988358843, 27055764843552971217956554522185252550465683260361784392146773553875383149453],
  [72084064332378122877487698283260291459107953593370154080699310971594144817275, 85812607822900651449823397105192190175494758234736824910962461723621534598875, 67390036306134750962466089919278341464134344411209267997809837977731912506201, 104350831237066993550143428185307591159281200287828158223599966396065185721985, 77182633913297491969887880801107053099244690044550640969373812379333269627550, 7181788738996877677636141114899118170032795309828839719335473955953636635018, 111626270042970974007632880805551602983283982380545397002307222289266391574530, 29035112364923892490712066248048961244281183105328717969028583031181998826269, 5808456670453537659340285528416699306205346426498419793017436674195359222286, 59118280758238937872665355129382958149292044984010013247455942728823340262308, 105502705059810686834570219661821056904877295896538035710013340437568683684785],
  [7586818523972226660177385885702467038409624221543520266410228382557599665933, 33850847916616497440885664503487924516664583596102644884727491959861767118302, 13830745697382055908057243310925816670963838638600004271543181754965793500761, 67925484440360169374867224489835958206444121786706345993250302598136122322172, 77656091910227669134508579519337053128473780365170673418606521057764325293632, 6446114856835800096832016664400982304816222785129996416721379103197052813062, 48059657222304113206043094074495198523871931761938197213869409327568732274589, 54325858089673797175514807325002694575238169485548326082428716152255794041096, 63081295123673662856463366918602904834048842956652733208339400718480583997026, 39817945885110206843224609987716557891749351224344478580452097819569328545447, 67858968843488464547663628219101408977497144080981754278216569770154533695277],
  [42159884954786966394134244614202494589610074082214287311896542228241284000435],
  [65825422265685892898557247839318053740951616138439169588855690593099433594709],
  [28486811185965764074164824750017222473623174620063533340991683717275828433418],
  [30043755160467760950821070406560497747838328016237241671308019094349777527116],
  [7195562925662463121025328375835465386262191078264234568664709824302954174495],
  [91461017786158064233513135161653814234821145891598954271924688893081784877221],
  [19716367117806060618565131971540379201086137358136851894509334936694090664422],
  [54979079725948758037351659808909467984460449183705138443146880102875254345162],
  [37929399241928278009199398606325703103653333855254360858363790048001543151258]]
def T (n : Nat) : I2 := tbl.getD n (0, 0)
def Z (n i : Nat) : Int := (cert.getD n []).getD i 0
def opp (p : I2) : I3 := (p.1, 115792089237316195423570985008687907853269984665640564039457584007908834671663 - p.2, 1)
def aff (p : I2) : I3 := (p.1, p.2, 1)
def chkP (n : Nat) : Bool := chkJ (jmul 9 (GX, GY, 1) (n : Int)) (Z n 0) (T n)
def chkF (n : Nat) : Bool :=
  decide (0 < (T n).2) && decide ((T n).2 < 115792089237316195423570985008687907853269984665640564039457584007908834671663)
  && decide (((T n).2 * (T n).2 - (T n).1 * (T n).1 * (T n).1 - 7) % 115792089237316195423570985008687907853269984665640564039457584007908834671663 = 0)
  && decide (ysel (if (T n).2 % 2 = 0 then 2 else 3) (T n).1 = (T n).2)
  && decide (ysel (if (T n).2 % 2 = 0 then 3 else 2) (T n).1 = 115792089237316195423570985008687907853269984665640564039457584007908834671663 - (T n).2)
  && chkJ (jadd (aff (T n)) (GX, GY, 1)) (Z n 1) (T (n + 1))
  && isId (jadd (aff (T n)) (opp (T n)))
  && isId (jadd (jdbl (aff (T n))) (jdbl (opp (T n))))
  && chkJ (jadd (aff (T n)) (opp (T n))) 1 (0, 0)
def chkB (n k : Nat) : Bool := chkJ (jadd (aff (T (n + 1 + k))) (opp (T n))) (Z n (2 + k)) (T (1 + k))
theorem ckp_1 : ((List.range' 1 20).all chkP) = true := by decide +kernel
theorem ckp_21 : ((List.range' 21 20).all chkP) = true := by decide +kernel
theorem ckp_41 : ((List.range' 41 20).all chkP) = true := by decide +kernel
theorem ckp_61 : ((List.range' 61 20).all chkP) = true := by decide +kernel
theorem ckp_81 : ((List.range' 81 20).all chkP) = true := by decide +kernel
theorem ckp_101 : ((List.range' 101 20).all chkP) = true := by decide +kernel
theorem ckp_121 : ((List.range' 121 20).all chkP) = true := by decide +kernel
theorem ckp_141 : ((List.range' 141 20).all chkP) = true := by decide +kernel
theorem ckp_161 : ((List.range' 161 20).all chkP) = true := by decide +kernel
theorem ckp_181 : ((List.range' 181 20).all chkP) = true := by decide +kernel
theorem ckp_201 : ((List.range' 201 9).all chkP) = true := by decide +kernel
theorem ckf_1 : ((List.range' 1 10).all chkF) = true := by decide +kernel
theorem ckf_11 : ((List.range' 11 10).all chkF) = true := by decide +kernel
theorem ckf_21 : ((List.range' 21 10).all chkF) = true := by decide +kernel
theorem ckf_31 : ((List.range' 31 10).all chkF) = true := by decide +kernel
theorem ckf_41 : ((List.range' 41 10).all chkF) = true := by decide +kernel
theorem ckf_51 : ((List.range' 51 10).all chkF) = true := by decide +kernel
theorem ckf_61 : ((List.range' 61 10).all chkF) = true := by decide +kernel
theorem ckf_71 : ((List.range' 71 10).all chkF) = true := by decide +kernel
theorem ckf_81 : ((List.range' 81 10).all chkF) = true := by decide +kernel
theorem ckf_91 : ((List.range' 91 10).all chkF) = true := by decide +kernel
theorem ckf_101 : ((List.range' 101 10).all chkF) = true := by decide +kernel
theorem ckf_111 : ((List.range' 111 10).all chkF) = true := by decide +kernel
theorem ckf_121 : ((List.range' 121 10).all chkF) = true := by decide +kernel
theorem ckf_131 : ((List.range' 131 10).all chkF) = true := by decide +kernel
theorem ckf_141 : ((List.range' 141 10).all chkF) = true := by decide +kernel
theorem ckf_151 : ((List.range' 151 10).all chkF) = true := by decide +kernel
theorem ckf_161 : ((List.range' 161 10).all chkF) = true := by decide +kernel
theorem ckf_171 : ((List.range' 171 10).all chkF) = true := by decide +kernel
theorem ckf_181 : ((List.range' 181 10).all chkF) = true := by decide +kernel
theorem ckf_191 : ((List.range' 191 10).all chkF) = true := by decide +kernel
theorem ckb_1 : ((List.range' 1 10).all (fun n => (List.range 9).all (chkB n))) = true := by decide +kernel
theorem ckb_11 : ((List.range' 11 10).all (fun n => (List.range 9).all (chkB n))) = true := by decide +kernel
theorem ckb_21 : ((List.range' 21 10).all (fun n => (List.range 9).all (chkB n))) = true := by decide +kernel
theorem ckb_31 : ((List.range' 31 10).all (fun n => (List.range 9).all (chkB n))) = true := by decide +kernel
theorem ckb_41 : ((List.range' 41 10).all (fun n => (List.range 9).all (chkB n))) = true := by decide +kernel
theorem ckb_51 : ((List.range' 51 10).all (fun n => (List.range 9).all (chkB n))) = true := by decide +kernel
theorem ckb_61 : ((List.range' 61 10).all (fun n => (List.range 9).all (chkB n))) = true := by decide +kernel
theorem ckb_71 : ((List.range' 71 10).all (fun n => (List.range 9).all (chkB n))) = true := by decide +kernel
theorem ckb_81 : ((List.range' 81 10).all (fun n => (List.range 9).all (chkB n))) = true := by decide +kernel
theorem ckb_91 : ((List.range' 91 10).all (fun n => (List.range 9).all (chkB n))) = true := by decide +kernel
theorem ckb_101 : ((List.range' 101 10).all (fun n => (List.range 9).all (chkB n))) = true := by decide +kernel
theorem ckb_111 : ((List.range' 111 10).all (fun n => (List.range 9).all (chkB n))) = true := by decide +kernel
theorem ckb_121 : ((List.range' 121 10).all (fun n => (List.range 9).all (chkB n))) = true := by decide +kernel
theorem ckb_131 : ((List.range' 131 10).all (fun n => (List.range 9).all (chkB n))) = true := by decide +kernel
theorem ckb_141 : ((List.range' 141 10).all (fun n => (List.range 9).all (chkB n))) = true := by decide +kernel
theorem ckb_151 : ((List.range' 151 10).all (fun n => (List.range 9).all (chkB n))) = true := by decide +kernel
theorem ckb_161 : ((List.range' 161 10).all (fun n => (List.range 9).all (chkB n))) = true := by decide +kernel
theorem ckb_171 : ((List.range' 171 10).all (fun n => (List.range 9).all (chkB n))) = true := by decide +kernel
theorem ckb_181 : ((List.range' 181 10).all (fun n => (List.range 9).all (chkB n))) = true := by decide +kernel
theorem ckb_191 : ((List.range' 191 10).all (fun n => (List.range 9).all (chkB n))) = true := by decide +kernel
theorem all_p {n : Nat} (h1 : 1 ≤ n) (h2 : n < 210) : chkP n = true := by
  by_cases c1 : n < 21
  · exact List.all_eq_true.mp ckp_1 n (List.mem_range'_1.mpr ⟨by omega, by omega⟩)
  by_cases c21 : n < 41
  · exact List.all_eq_true.mp ckp_21 n (List.mem_range'_1.mpr ⟨by omega, by omega⟩)
  by_cases c41 : n < 61
  · exact List.all_eq_true.mp ckp_41 n (List.mem_range'_1.mpr ⟨by omega, by omega⟩)
  by_cases c61 : n < 81
  · exact List.all_eq_true.mp ckp_61 n (List.mem_range'_1.mpr ⟨by omega, by omega⟩)
  by_cases c81 : n < 101
  · exact List.all_eq_true.mp ckp_81 n (List.mem_range'_1.mpr ⟨by omega, by omega⟩)
  by_cases c101 : n < 121
  · exact List.all_eq_true.mp ckp_101 n (List.mem_range'_1.mpr ⟨by omega, by omega⟩)
  by_cases c121 : n < 141
  · exact List.all_eq_true.mp ckp_121 n (List.mem_range'_1.mpr ⟨by omega, by omega⟩)
  by_cases c141 : n < 161
  · exact List.all_eq_true.mp ckp_141 n (List.mem_range'_1.mpr ⟨by omega, by omega⟩)
  by_cases c161 : n < 181
  · exact List.all_eq_true.mp ckp_161 n (List.mem_range'_1.mpr ⟨by omega, by omega⟩)
  by_cases c181 : n < 201
  · exact List.all_eq_true.mp ckp_181 n (List.mem_range'_1.mpr ⟨by omega, by omega⟩)
  by_cases c201 : n < 210
  · exact List.all_eq_true.mp ckp_201 n (List.mem_range'_1.mpr ⟨by omega, by omega⟩)
  exact absurd h2 (by omega)
theorem all_f {n : Nat} (h1 : 1 ≤ n) (h2 : n < 201) : chkF n = true := by
  by_cases c1 : n < 11
  · exact List.all_eq_true.mp ckf_1 n (List.mem_range'_1.mpr ⟨by omega, by omega⟩)
  by_cases c11 : n < 21
  · exact List.all_eq_true.mp ckf_11 n (List.mem_range'_1.mpr ⟨by omega, by omega⟩)
  by_cases c21 : n < 31
  · exact List.all_eq_true.mp ckf_21 n (List.mem_range'_1.mpr ⟨by omega, by omega⟩)
  by_cases c31 : n < 41
  · exact List.all_eq_true.mp ckf_31 n (List.mem_range'_1.mpr ⟨by omega, by omega⟩)
  by_cases c41 : n < 51
  · exact List.all_eq_true.mp ckf_41 n (List.mem_range'_1.mpr ⟨by omega, by omega⟩)
  by_cases c51 : n < 61
  · exact List.all_eq_true.mp ckf_51 n (List.mem_range'_1.mpr ⟨by omega, by omega⟩)
  by_cases c61 : n < 71
  · exact List.all_eq_true.mp ckf_61 n (List.mem_range'_1.mpr ⟨by omega, by omega⟩)
  by_cases c71 : n < 81
  · exact List.all_eq_true.mp ckf_71 n (List.mem_range'_1.mpr ⟨by omega, by omega⟩)
  by_cases c81 : n < 91
  · exact List.all_eq_true.mp ckf_81 n (List.mem_range'_1.mpr ⟨by omega, by omega⟩)
  by_cases c91 : n < 101
  · exact List.all_eq_true.mp ckf_91 n (List.mem_range'_1.mpr ⟨by omega, by omega⟩)
  by_cases c101 : n < 111
  · exact List.all_eq_true.mp ckf_101 n (List.mem_range'_1.mpr ⟨by omega, by omega⟩)
  by_cases c111 : n < 121
  · exact List.all_eq_true.mp ckf_111 n (List.mem_range'_1.mpr ⟨by omega, by omega⟩)
  by_cases c121 : n < 131
  · exact List.all_eq_true.mp ckf_121 n (List.mem_range'_1.mpr ⟨by omega, by omega⟩)
  by_cases c131 : n < 141
  · exact List.all_eq_true.mp ckf_131 n (List.mem_range'_1.mpr ⟨by omega, by omega⟩)
  by_cases c141 : n < 151
  · exact List.all_eq_true.mp ckf_141 n (List.mem_range'_1.mpr ⟨by omega, by omega⟩)
  by_cases c151 : n < 161
  · exact List.all_eq_true.mp ckf_151 n (List.mem_range'_1.mpr ⟨by omega, by omega⟩)
  by_cases c161 : n < 171
  · exact List.all_eq_true.mp ckf_161 n (List.mem_range'_1.mpr ⟨by omega, by omega⟩)
  by_cases c171 : n < 181
  · exact List.all_eq_true.mp ckf_171 n (List.mem_range'_1.mpr ⟨by omega, by omega⟩)
  by_cases c181 : n < 191
  · exact List.all_eq_true.mp ckf_181 n (List.mem_range'_1.mpr ⟨by omega, by omega⟩)
  by_cases c191 : n < 201
  · exact List.all_eq_true.mp ckf_191 n (List.mem_range'_1.mpr ⟨by omega, by omega⟩)
  exact absurd h2 (by omega)
theorem all_b {n : Nat} (h1 : 1 ≤ n) (h2 : n < 201) : (fun n => (List.range 9).all (chkB n)) n = true := by
  by_cases c1 : n < 11
  · exact List.all_eq_true.mp ckb_1 n (List.mem_range'_1.mpr ⟨by omega, by omega⟩)
  by_cases c11 : n < 21
  · exact List.all_eq_true.mp ckb_11 n (List.mem_range'_1.mpr ⟨by omega, by omega⟩)
  by_cases c21 : n < 31
  · exact List.all_eq_true.mp ckb_21 n (List.mem_range'_1.mpr ⟨by omega, by omega⟩)
  by_cases c31 : n < 41
  · exact List.all_eq_true.mp ckb_31 n (List.mem_range'_1.mpr ⟨by omega, by omega⟩)
  by_cases c41 : n < 51
  · exact List.all_eq_true.mp ckb_41 n (List.mem_range'_1.mpr ⟨by omega, by omega⟩)
  by_cases c51 : n < 61
  · exact List.all_eq_true.mp ckb_51 n (List.mem_range'_1.mpr ⟨by omega, by omega⟩)
  by_cases c61 : n < 71
  · exact List.all_eq_true.mp ckb_61 n (List.mem_range'_1.mpr ⟨by omega, by omega⟩)
  by_cases c71 : n < 81
  · exact List.all_eq_true.mp ckb_71 n (List.mem_range'_1.mpr ⟨by omega, by omega⟩)
  by_cases c81 : n < 91
  · exact List.all_eq_true.mp ckb_81 n (List.mem_range'_1.mpr ⟨by omega, by omega⟩)
  by_cases c91 : n < 101
  · exact List.all_eq_true.mp ckb_91 n (List.mem_range'_1.mpr ⟨by omega, by omega⟩)
  by_cases c101 : n < 111
  · exact List.all_eq_true.mp ckb_101 n (List.mem_range'_1.mpr ⟨by omega, by omega⟩)
  by_cases c111 : n < 121
  · exact List.all_eq_true.mp ckb_111 n (List.mem_range'_1.mpr ⟨by omega, by omega⟩)
  by_cases c121 : n < 131
  · exact List.all_eq_true.mp ckb_121 n (List.mem_range'_1.mpr ⟨by omega, by omega⟩)
  by_cases c131 : n < 141
  · exact List.all_eq_true.mp ckb_131 n (List.mem_range'_1.mpr ⟨by omega, by omega⟩)
  by_cases c141 : n < 151
  · exact List.all_eq_true.mp ckb_141 n (List.mem_range'_1.mpr ⟨by omega, by omega⟩)
  by_cases c151 : n < 161
  · exact List.all_eq_true.mp ckb_151 n (List.mem_range'_1.mpr ⟨by omega, by omega⟩)
  by_cases c161 : n < 171
  · exact List.all_eq_true.mp ckb_161 n (List.mem_range'_1.mpr ⟨by omega, by omega⟩)
  by_cases c171 : n < 181
  · exact List.all_eq_true.mp ckb_171 n (List.mem_range'_1.mpr ⟨by omega, by omega⟩)
  by_cases c181 : n < 191
  · exact List.all_eq_true.mp ckb_181 n (List.mem_range'_1.mpr ⟨by omega, by omega⟩)
  by_cases c191 : n < 201
  · exact List.all_eq_true.mp ckb_191 n (List.mem_range'_1.mpr ⟨by omega, by omega⟩)
  exact absurd h2 (by omega)
abbrev PP : Int := 115792089237316195423570985008687907853269984665640564039457584007908834671663
/-- all that is asked of the point that belongs to n -/
structure Facts (n X Y : Int) : Prop where
  y0 : 0 < Y
  yP : Y < 115792089237316195423570985008687907853269984665640564039457584007908834671663
  curve : (Y * Y - X * X * X - 7) % 115792089237316195423570985008687907853269984665640564039457584007908834671663 = 0
  sel1 : ysel (if Y % 2 = 0 then 2 else 3) X = Y
  sel2 : ysel (if Y % 2 = 0 then 3 else 2) X = 115792089237316195423570985008687907853269984665640564039457584007908834671663 - Y
  next : fromJ (jmul 9 (GX, GY, 1) (n + 1)) = fromJ (jadd (X, Y, 1) (GX, GY, 1))
  id1 : isId (jadd (X, Y, 1) (X, 115792089237316195423570985008687907853269984665640564039457584007908834671663 - Y, 1)) = true
  id2 : isId (jadd (jdbl (X, Y, 1)) (jdbl (X, 115792089237316195423570985008687907853269984665640564039457584007908834671663 - Y, 1))) = true
  zero : fromJ (jadd (X, Y, 1) (X, 115792089237316195423570985008687907853269984665640564039457584007908834671663 - Y, 1)) = (0, 0)
  back : ∀ k : Int, 0 ≤ k → k < 9 → ∀ A B : Int, (A, B) = fromJ (jmul 9 (GX, GY, 1) (n + 1 + k)) → fromJ (jadd (A, B, 1) (X, 115792089237316195423570985008687907853269984665640564039457584007908834671663 - Y, 1)) = fromJ (jmul 9 (GX, GY, 1) (1 + k))
theorem pt_is {n : Nat} (h1 : 1 ≤ n) (h2 : n < 210) : fromJ (jmul 9 (GX, GY, 1) (n : Int)) = T n := chkJ_ok (all_p h1 h2)
theorem one_fact : fromJ (jmul 9 (GX, GY, 1) 1) = (GX, GY) := (pt_is (n := 1) (by decide) (by decide)).trans (by decide +kernel)
theorem all_facts {n X Y : Int} (e : (X, Y) = ptOf n) (h1 : 1 ≤ n) (h2 : n ≤ 200) : Facts n X Y := by
  obtain ⟨k, rfl⟩ := Int.eq_ofNat_of_zero_le (by omega : 0 ≤ n)
  have k1 : 1 ≤ k := by omega
  have k2 : k ≤ 200 := by omega
  rw [ptOf_eq, pt_is k1 (by omega)] at e
  have ex : X = (T k).1 := congrArg Prod.fst e
  have ey : Y = (T k).2 := congrArg Prod.snd e
  have hf := all_f k1 (by omega : k < 201)
  have hb := all_b k1 (by omega : k < 201)
  unfold chkF at hf
  simp only [Bool.and_eq_true, decide_eq_true_eq] at hf
  obtain ⟨⟨⟨⟨⟨⟨⟨⟨f1, f2⟩, f3⟩, f4⟩, f5⟩, f6⟩, f7⟩, f8⟩, f9⟩ := hf
  subst ex ey
  refine ⟨f1, f2, f3, f4, f5, ?_, f7, f8, chkJ_ok f9, ?_⟩
  · have h := pt_is (n := k + 1) (by omega) (by omega)
    rw [Int.natCast_add, Int.natCast_one] at h
    exact h.trans (chkJ_ok f6).symm
  · intro j j0 j1 A B eA
    obtain ⟨i, rfl⟩ := Int.eq_ofNat_of_zero_le j0
    have i1 : i < 9 := by omega
    have h := pt_is (n := k + 1 + i) (by omega) (by omega)
    rw [Int.natCast_add, Int.natCast_add, Int.natCast_one] at h
    rw [h] at eA
    have h' := pt_is (n := 1 + i) (by omega) (by omega)
    rw [Int.natCast_add, Int.natCast_one] at h'
    rw [h']
    have hA : A = (T (k + 1 + i)).1 := congrArg Prod.fst eA
    have hB : B = (T (k + 1 + i)).2 := congrArg Prod.snd eA
    subst hA hB
    exact chkJ_ok (List.all_eq_true.mp hb i (List.mem_range.mpr i1))
theorem two_ints {ns : List Int} {ws : List Value} (h : IntsAre ws (List.take 2 (List.take 2 ns ++ [0, 0]))) : ∃ a b ta tb, ws = [.int a ta, .int b tb] := by
  have hl : (List.take 2 (List.take 2 ns ++ [0, 0])).length = 2 := by simp
  generalize List.take 2 (List.take 2 ns ++ [0, 0]) = l at h hl
  cases h with
  | nil => cases hl
  | cons a ta h1 =>
    cases h1 with
    | nil => cases hl
    | cons b tb h2 =>
      cases h2 with
      | nil => exact ⟨a, b, ta, tb, rfl⟩
      | cons c tc h3 => simp at hl
/-- the key of n -/
def RKey (n : Int) (r : Value) (tl : Led) : Prop := tl = [] ∧ ∃ b t X Y, r = .bytes b t ∧ b = enc X Y ∧ b.size = 64 ∧ (X, Y) = ptOf n ∧ U8 X ∧ U8 Y
theorem Con.mono {w : World} {mean : ExcName → Option Value} {mg mb : Str → Option Value} {f : Addr} {d u : Nat} {news : Led} {vs : List Value} {R R' : Value → Led → Prop} (h : Con w mean mg mb f d u news vs R) (hr : ∀ r tl, R r tl → R' r tl) : Con w mean mg mb f d u news vs R' := by
  unfold Con at *
  intro dp un gd cn cs a ccd cl outer A₀ base h₀ L m s Q E B F X N T hk hd hu hret
  exact h dp un gd cn cs a ccd cl outer A₀ base h₀ L m s Q E B F X N T hk hd hu fun r tl h' tk' F' N' hR => hret r tl h' tk' F' N' (hr r tl hR)
theorem con_key (w : World) (mean : ExcName → Option Value) (mg mb : Str → Option Value) (news : Led) (b : Array UInt8) (n : Int) (tb : Tok)
   (hb : b = be32 n) (hs : b.size = 32) (h0 : 0 ≤ n) (h1 : n < 500) : Con w mean mg mb 123 18 160 news [.bytes b tb] (RKey n) :=
  (con_priv w mean mg mb news b n tb hb hs h0 h1).mono fun r tl h => by
    obtain ⟨e1, c, t, e2, e3, e4⟩ := h
    exact ⟨e1, c, t, _, _, e2, e3, e4, rfl, by rw [ptOf_eq]; exact (fromJ_u _).1, by rw [ptOf_eq]; exact (fromJ_u _).2⟩
theorem con_dcpA (w : World) (mean : ExcName → Option Value) (mg mb : Str → Option Value) (news : Led) (b : Array UInt8) (n X Y : Int) (tb : Tok)
   (hb : b = told (if Y % 2 = 0 then 2 else 3) X) (hF : Facts n X Y) (hs : b.size = 33) (hx : U8 X) : Con w mean mg mb 137 6 72 news [.bytes b tb] (RBytes 64 (enc X Y)) := by
  have h := con_dcp w mean mg mb news b _ X tb hb (by split <;> simp) hs hx
  rw [hF.sel1] at h
  exact h
theorem oct_of {u : UInt8} {k : UInt8} (h : (u.toNat : Int) = (k.toNat : Int)) : u = k := UInt8.toNat_inj.mp (by omega)
theorem par2 {u : UInt8} {Y : Int} (h : (u.toNat : Int) = 2 + Y % 2) : u = if Y % 2 = 0 then 2 else 3 := by
  split
  · exact oct_of (by rw [h]; show 2 + Y % 2 = 2; omega)
  · exact oct_of (by rw [h]; show 2 + Y % 2 = 3; omega)
theorem par3 {u : UInt8} {Y : Int} (h : (u.toNat : Int) = 3 - Y % 2) : u = if Y % 2 = 0 then 3 else 2 := by
  split
  · exact oct_of (by rw [h]; show 3 - Y % 2 = 3; omega)
  · exact oct_of (by rw [h]; show 3 - Y % 2 = 2; omega)
theorem par4 {u : UInt8} {Y : Int} (h : (u.toNat : Int) = 3 - Y % 2) : u = if (115792089237316195423570985008687907853269984665640564039457584007908834671663 - Y) % 2 = 0 then 2 else 3 := by
  split
  · exact oct_of (by rw [h]; show 3 - Y % 2 = 2; omega)
  · exact oct_of (by rw [h]; show 3 - Y % 2 = 3; omega)
theorem con_dcpB (w : World) (mean : ExcName → Option Value) (mg mb : Str → Option Value) (news : Led) (b : Array UInt8) (u : UInt8) (n X Y : Int) (tb : Tok)
   (hb : b = told u X) (hu : (u.toNat : Int) = 3 - Y % 2) (hF : Facts n X Y) (hs : b.size = 33) (hx : U8 X) : Con w mean mg mb 137 6 72 news [.bytes b tb] (RBytes 64 (enc X (115792089237316195423570985008687907853269984665640564039457584007908834671663 - Y))) := by
  rw [par3 hu] at hb
  have h := con_dcp w mean mg mb news b _ X tb hb (by split <;> simp) hs hx
  rw [hF.sel2] at h
  exact h
section
variable {prog : Program} {w : World} {A : Around} {E : Value → Shared → Prop} {s : Shared} {value slice : PySem.Expr} {b c : Array UInt8} {t u : Tok} {Q : Value → Shared → Prop} {x y a : Int} {h₀ : Heap} {L : Addr} {m : PySem.Str → Option Value} {news : List (Addr × Obj)}
theorem to32 (hx : U8 x) {v : Tok} (h : ∀ c t' tk', c = be32 x → c.size = 32 → Q (.bytes c t') { s with toks := tk' }) :
    wpAny (model prog w) A (call (.builtin "int.to_bytes") [.int x t, .int 32 u, .str (PySem.Str.ofString "big") v]) Q E s :=
  to_call (k := 32) rfl (by decide) hx.1 hx.bits fun t' tk' => h _ t' tk' rfl (be32_size x)
theorem add_T {o : UInt8} (e1 : b = #[o]) (e2 : c = be32 x) (h : ∀ d t' k, d = told o x → d.size = 33 → Q (.bytes d t') { s with toks := k }) : wpAny (model prog w) A (binaryOp .Add (.bytes b t) (.bytes c u)) Q E s :=
  add_B (by rw [e1, e2, be32_size]; show 1 + 32 ≤ 1000; decide) fun d t' k e _ => have e' : d = told o x := by rw [e, e1, e2]; rfl
                                                          h d t' k e' (by rw [e', told_size])
theorem add_E (e1 : b = be32 x) (e2 : c = be32 y) (h : ∀ d t' k, d = enc x y → d.size = 64 → Q (.bytes d t') { s with toks := k }) : wpAny (model prog w) A (binaryOp .Add (.bytes b t) (.bytes c u)) Q E s :=
  add_B (by rw [e1, e2, be32_size, be32_size]; decide) fun d t' k e _ => have e' : d = enc x y := by rw [e, e1, e2]; rfl
                                                                     h d t' k e' (by rw [e', enc_size])
theorem ne_bytes_f (e : b = c) (h : Q (.bool false) s) : wpAny (model prog w) A (compareOp .NotEq (.bytes b t) (.bytes c u)) Q E s := ne_bytes (by rw [e, bne_self_eq_false]; exact h)
theorem ne_int_f {a b : Int} (e : a = b) (h : Q (.bool false) s) : wpAny (model prog w) A (compareOp .NotEq (.int a t) (.int b u)) Q E s := ne_int (by rw [e]; simpa using h)
theorem make1 {l : Addr} {v : Int} {tv : Tok} (F : Fr h₀ L s.heap m) (N : News h₀ L s.heap news) (hl : s.heap.IsList l #[.int v tv]) (h0 : 0 ≤ v) (h1 : v < 256) (hh : A.handled = none)
    (h : ∀ o c h' t k, Fr h₀ L h' m → News h₀ L h' news → (o.toNat : Int) = v → c = #[o] → c.size = 1 → Q (.bytes c t) { s with heap := h', toks := k }) : wpAny (model prog w) A (call (.type "bytes") [.ref l]) Q E s :=
  bytes_K (vs := [.int v tv]) (ns := [v]) F N hl (.cons _ _ .nil) (by intro n hn; rw [List.mem_singleton] at hn; subst hn; exact ⟨h0, h1⟩) (by rw [sizeLine_eq]; show 1 ≤ 16777216; decide) hh fun h' t k F' N' hb => h v.toNat.toUInt8 _ h' t k F' N' (byte_back h0 h1) rfl rfl
theorem picked_m1 {o : UInt8} (h : b = told o x) : (KBy.picked b none (some (-1))).size = 32 := by
  rw [← KBw.ints_length, KBc.ints_picked rfl, List.length_take, KBw.ints_length, h, told_size]
  show min (clipAt 33 (-1) - 0) (List.drop 0 _).length = 32
  rw [List.drop_zero, KBw.ints_length, told_size]
  decide
theorem slice_S {l u' : Value} {lo hi : Option Int} {n : Nat} (hF : Fr h₀ L s.heap m) (hN : News h₀ L s.heap news) (hl : IsPart l lo) (hu : IsPart u' hi) (hz : b.size ≤ 1000) (e : (KBy.picked b lo hi).size = n)
    (h : ∀ d h' t' k, d.size = n → Fr h₀ L h' m → News h₀ L h' news → Q (.bytes d t') { s with heap := h', toks := k })
    (hs : subscripted slice false (.bytes b t) (.ref s.heap.objs.size) = operate [.ref s.heap.objs.size, .bytes b t] (getItem (.bytes b t) (.ref s.heap.objs.size)) := by with_unfolding_all rfl)
    (ht : ∀ r, letTemporaryGo value (.bytes b t) r = pure () := by intro _; with_unfolding_all rfl) :
    wpAny (model prog w) A (subscriptTail value slice (.bytes b t) (.ref s.heap.objs.size)) Q E { s with heap := s.heap.push { cls := .type "slice", data := .fields #[l, u', .none] } } :=
  slice_B hF hN hl hu hz rfl (fun d h' t' k ed _ F N => h d h' t' k (by rw [ed]; exact e) F N) hs ht
end
theorem Bd.pmy {Y : Int} (h0 : 0 < Y) (h1 : Y < 115792089237316195423570985008687907853269984665640564039457584007908834671663) : Bd 256 (115792089237316195423570985008687907853269984665640564039457584007908834671663 - Y) := Bd.of_range (by omega) (by omega)
theorem same_bytes {b c v : Array UInt8} (e1 : b = v) (e2 : c = v) : b = c := e1.trans e2.symm
theorem same_told {b c : Array UInt8} {X : Int} {o o' : UInt8} (e1 : b = told o X) (e2 : c = told o' X) (e : o' = o) : b = c := by rw [e1, e2, e]
theorem f_next {n X Y A B C D : Int} (F : Facts n X Y) (e1 : (A, B) = fromJ (jmul 9 (GX, GY, 1) (n + 1))) (e2 : (C, D) = fromJ (jadd (X, Y, 1) (GX, GY, 1))) : (A, B) = (C, D) := by rw [e1, e2, F.next]
theorem f_one {A B : Int} (e1 : (A, B) = fromJ (jmul 9 (GX, GY, 1) 1)) : (A, B) = (GX, GY) := e1.trans one_fact
section
variable {prog : Program} {w : World} {A : Around} {E : Value → Shared → Prop} {s : Shared} {Q : Value → Shared → Prop} {h₀ : Heap} {L : Addr} {m : Str → Option Value} {news : Led} {p q : Addr} {x y z x' y' : Int} {tx ty tz tx' ty' : Tok}
theorem ne2_f (N : News h₀ L s.heap news) (hp : (p, tup [.int x tx, .int y ty]) ∈ news) (hq : (q, tup [.int x' tx', .int y' ty']) ∈ news) (hu : A.units + 10 < cLine) (e : (x, y) = (x', y')) (h : Q (.bool false) s) :
    wpAny (model prog w) A (compareOp .NotEq (.ref p) (.ref q)) Q E s := ne2 N hp hq hu (by rw [decide_eq_true e]; exact h)
theorem ne2G_f (F : Fr h₀ L s.heap m) (X : (Mine.hd.heap_39 w.params).In h₀) (N : News h₀ L s.heap news) (hp : (p, tup [.int x tx, .int y ty]) ∈ news) (hu : A.units + 10 < cLine) (e : (x, y) = (GX, GY)) (h : Q (.bool false) s) :
    wpAny (model prog w) A (compareOp .NotEq (.ref p) (.ref 29)) Q E s := ne2G F X N hp hu (by rw [decide_eq_true e]; exact h)
end
theorem f_zero {n X Y A B : Int} (F : Facts n X Y) (e : (A, B) = fromJ (jadd (X, Y, 1) (X, 115792089237316195423570985008687907853269984665640564039457584007908834671663 - Y, 1))) : (A, B) = (0, 0) := e.trans F.zero
theorem f_back {n k X Y A B C D U V : Int} (F : Facts n X Y) (e1 : (A, B) = fromJ (jmul 9 (GX, GY, 1) (n + 1 + k))) (e2 : (C, D) = fromJ (jadd (A, B, 1) (X, 115792089237316195423570985008687907853269984665640564039457584007908834671663 - Y, 1))) (e3 : (U, V) = fromJ (jmul 9 (GX, GY, 1) (1 + k)))
    (h0 : 0 ≤ k) (h1 : k < 9) : (C, D) = (U, V) := by rw [e2, e3, F.back k h0 h1 A B e1]
theorem neg_mod {v N : Int} (h0 : 0 ≤ v) (h1 : v < N) : -v % N = if v = 0 then 0 else N - v := by
  split
  · rename_i h
    subst h
    simp
  · have e : -v = (N - v) + N * (-1) := by omega
    rw [e, Int.add_mul_emod_self_left]
    exact Int.emod_eq_of_lt (by omega) (by omega)
/-- the lower one of v and what is left of N -/
def LowOf (L v : Int) : Prop := L = lowS v ∧ (L = v ∨ L = 115792089237316195423570985008687907852837564279074904382605163141518161494337 - v) ∧ 2 * L < 115792089237316195423570985008687907852837564279074904382605163141518161494337
theorem lowS_is {v : Int} (h0 : 0 ≤ v) (h1 : v < 115792089237316195423570985008687907852837564279074904382605163141518161494337) : lowS v = if v = 0 then 0 else if 115792089237316195423570985008687907852837564279074904382605163141518161494337 - v < v then 115792089237316195423570985008687907852837564279074904382605163141518161494337 - v else v := by
  unfold lowS
  rw [neg_mod h0 h1]
  split <;> rename_i h
  · rw [if_neg (by omega)]; exact h
  · rfl
theorem lowOf {v : Int} (h0 : 0 ≤ v) (h1 : v < 115792089237316195423570985008687907852837564279074904382605163141518161494337) : LowOf (lowS v) v := by
  refine ⟨rfl, ?_, ?_⟩ <;> rw [lowS_is h0 h1] <;> split <;> (try split) <;> omega
theorem low_eq {L M v : Int} (e1 : L = lowS v) (e2 : M = lowS (-v % 115792089237316195423570985008687907852837564279074904382605163141518161494337)) (h0 : 0 ≤ v) (h1 : v < 115792089237316195423570985008687907852837564279074904382605163141518161494337) : L = M := by
  rw [e1, e2, neg_mod h0 h1, lowS_is h0 h1]
  by_cases hv : v = 0
  · rw [if_pos hv, if_pos hv, lowS_is (by omega) (by omega), if_pos rfl]
  · rw [if_neg hv, if_neg hv, lowS_is (v := 115792089237316195423570985008687907852837564279074904382605163141518161494337 - v) (by omega) (by omega), if_neg (show ¬ (115792089237316195423570985008687907852837564279074904382605163141518161494337 - v = 0) by omega)]
    split <;> split <;> omega
def RLow (v : Int) (r : Value) (tl : Led) : Prop := tl = [] ∧ ∃ L t, r = .int L t ∧ LowOf L v
theorem con_lowL (w : World) (mean : ExcName → Option Value) (mg mb : Str → Option Value) (news : Led) (v : Int) (tv : Tok) (h0 : 0 ≤ v) (h1 : v < 115792089237316195423570985008687907852837564279074904382605163141518161494337) : Con w mean mg mb 144 1 8 news [.int v tv] (RLow v) :=
  (con_low w mean mg mb news v tv).mono fun r tl h => by
    obtain ⟨e1, t, e2⟩ := h
    exact ⟨e1, _, t, e2, lowOf h0 h1⟩
theorem notin2_f {prog : Program} {w : World} {A : Around} {E : Value → Shared → Prop} {s : Shared} {Q : Value → Shared → Prop} {h₀ : Heap} {L : Addr} {news : Led} {p : Addr} {x y k : Int} {tx ty tk : Tok} (N : News h₀ L s.heap news) (hp : (p, tup [.int x tx, .int y ty]) ∈ news) (e : k = x ∨ k = y) (h : Q (.bool false) s) :
    wpAny (model prog w) A (compareOp .NotIn (.int k tk) (.ref p)) Q E s :=
  notin_tuple_ints (News.isTup N hp) (.cons _ _ (.cons _ _ .nil)) (by
    have : ([x, y].any fun z => z == k) = true := by
      rw [List.any_cons, List.any_cons, Bool.or_eq_true, Bool.or_eq_true, beq_iff_eq, beq_iff_eq]
      rcases e with e | e
      · exact .inl e.symm
      · exact .inr (.inl e.symm)
    rw [this]
    exact h)
theorem notin2_t {prog : Program} {w : World} {A : Around} {E : Value → Shared → Prop} {s : Shared} {Q : Value → Shared → Prop} {h₀ : Heap} {L : Addr} {news : Led} {p : Addr} {x y k : Int} {tx ty tk : Tok} (N : News h₀ L s.heap news) (hp : (p, tup [.int x tx, .int y ty]) ∈ news) (e1 : k ≠ x) (e2 : k ≠ y) (h : Q (.bool true) s) :
    wpAny (model prog w) A (compareOp .NotIn (.int k tk) (.ref p)) Q E s :=
  notin_tuple_ints (News.isTup N hp) (.cons _ _ (.cons _ _ .nil)) (by
    have : ([x, y].any fun z => z == k) = false := by
      rw [List.any_cons, List.any_cons, List.any_nil, Bool.or_false, Bool.or_eq_false_iff, beq_eq_false_iff_ne, beq_eq_false_iff_ne]
      exact ⟨fun e => e1 e.symm, fun e => e2 e.symm⟩
    rw [this]
    exact h)
theorem ne_int_t {prog : Program} {w : World} {A : Around} {E : Value → Shared → Prop} {s : Shared} {Q : Value → Shared → Prop} {a b : Int} {t u : Tok} (e : a ≠ b) (h : Q (.bool true) s) : wpAny (model prog w) A (compareOp .NotEq (.int a t) (.int b u)) Q E s :=
  ne_int (by have e' : (a != b) = true := by simpa using e
             rw [e']; exact h)
/-- a tuple of the ledger as a comprehension's source -/
def SrcT (ax : Addr) (its : Array Value) (nw : Led) : Prop := False ∨ ∃ o, (ax, o) ∈ nw ∧ o.cls = .type "tuple" ∧ ∃ n, o.data = .seq its n
section
variable {prog : Program} {w : World} {A : Around} {E : Value → Shared → Prop} {s : Shared} {h₀ : Heap} {L : Addr} {m : Str → Option Value} {env : Env}
theorem SrcT.tup {h : Heap} {ax : Addr} {its : Array Value} {nw : Led} (x : SrcT ax its nw) (N : News h₀ L h nw) : h.IsTuple ax its := by
  rcases x with x | ⟨o, hm, r⟩
  · exact x.elim
  · exact ⟨o, (N _ hm).1, r⟩
def CompSrcT (prog : Program) (w : World) (A : Around) (h₀ : Heap) (L : Addr) (m : Str → Option Value) (env : Env) (elt : PySem.Expr) (x : Str) (scope : Scope) (cl : List (Str × Addr)) (Fin : Shared → List Value → Led → Prop) (xv : Value) (s₁ : Shared) : Prop :=
  ∃ ax its news, xv = .ref ax ∧ A.handled = none ∧ Fr h₀ L s₁.heap m ∧ News h₀ L s₁.heap news ∧ SrcT ax its news ∧ its.size ≤ sizeLine ∧
    ∀ s₂ : Shared, (∃ h, s₂ = { s₁ with heap := h }) → LCg.CompRest prog w A h₀ L m env elt x scope cl s₂ (SrcT ax its) (fun i v => its[i]? = some v) (Fin s₂) its.size 0 [] news
theorem CompSrcT.ledger {elt : PySem.Expr} {x : Str} {scope : Scope} {cl : List (Str × Addr)} {Fin : Shared → List Value → Led → Prop} {ax : Addr} {its : Array Value} {k : Nat} {news : Led} {s₁ : Shared}
    (hh : A.handled = none) (F : Fr h₀ L s₁.heap m) (N : News h₀ L s₁.heap news) (hm : (ax, ({ cls := .type "tuple", data := .seq its k } : Obj)) ∈ news) (hsz : its.size ≤ sizeLine)
    (h : ∀ g, LCg.CompRest prog w A h₀ L m env elt x scope cl { s₁ with heap := g } (SrcT ax its) (fun i v => its[i]? = some v) (Fin { s₁ with heap := g }) its.size 0 [] news) :
    CompSrcT prog w A h₀ L m env elt x scope cl Fin (.ref ax) s₁ := ⟨ax, its, news, rfl, hh, F, N, .inr ⟨_, hm, rfl, _, rfl⟩, hsz, fun _ ⟨g, e⟩ => e ▸ h g⟩
theorem comp_tup {elt iter : PySem.Expr} {x : Str} {px : Pos} {scope : Scope} {cl : List (Str × Addr)} {pos : Pos} {Q : Value → Shared → Prop} (F₀ : Fr h₀ L s.heap m)
    (hclos : closureFor scope env = pure cl) (hcell : ∀ y ∈ scope.names, y.2 ≠ .cell) (hkind : scope.kind = .function)
    (hnames : ∀ y ∈ scope.names, y.2 = .local → scope.names.lookup y.1 = some .local) (hx : scope.names.lookup x = some .local)
    (h : wpAny (model prog w) A (eval iter env) (CompSrcT prog w A h₀ L m env elt x scope cl (fun s₂ => LCg.FinE h₀ L m s₂ Q)) E s)
    (hs : ∀ x, foldedSetIterable iter env x = pure x := by intro _; rfl) :
    wpAny (model prog w) A (eval (.ListComp elt [⟨.Name x px, iter, [], 0⟩] scope pos) env) Q E s := by
  rw [eval_ListComp]
  refine wpAny_comprehension_free (use := none) rfl hs hclos hkind hnames (wpAny_mono h (fun xv s₁ h₁ => ?_) fun _ _ e => e)
  obtain ⟨ax, its, news, rfl, hh, F, N, S, hsz, R⟩ := h₁
  have hl := S.tup N
  have hlt : ax < s₁.heap.objs.size := by obtain ⟨_, e, _⟩ := hl; exact Heap.lt_size e
  refine wpAny_pyIter_tuple hl ?_
  have up : ∀ b o, s₁.heap.get? b = some o → (s₁.heap.push { cls := .type "tuple_iterator", data := .fields #[.ref ax, .int 0 0] }).get? b = some o := fun b o e => Heap.get?_push_of_some _ e
  refine LCg.block_U (Walks.tuple hh s₁.heap.objs.size ax (Nat.ne_of_lt hlt) its) hsz (fun i h st => by obtain ⟨o, e, _⟩ := st.1; exact ⟨o, e⟩)
    (fun i h h' o nw st e e' k N' S' => ⟨by obtain ⟨o', q, r⟩ := st.1; rw [e] at q; cases q; exact ⟨o, e', r⟩, S'.tup N'⟩)
    hcell hkind hx ⟨⟨_, Heap.get?_push_size _ rfl, rfl, rfl⟩, hl.push _⟩ (fun b hb => ?_)
    (F.keeps up) (N.grown up) (Nat.ne_of_lt F.ns.lt) (F.fresh) (fun p hp => Nat.ne_of_lt (Heap.lt_size (N p hp).1)) S (R _ ⟨_, rfl⟩) ?_
  · show b < (s₁.heap.push _).objs.size
    rw [Heap.size_push]
    rcases List.mem_cons.mp hb with rfl | hb
    · exact Nat.lt_succ_self _
    · rw [List.mem_singleton.mp hb]; exact Nat.lt_succ_of_lt hlt
  · intro D C h tk m' ys news' F' N' o1 hn hC₀ hD₀ hCL hDL hCD offC fin
    refine ⟨m', hn, fun h'' hs'' => fin D h'' tk (F'.change hs'' hCL hC₀) (fun p hp => ?_) o1⟩
    refine ⟨hs''.extBut _ _ ?_ (N' p hp).1, (N' p hp).2⟩
    rcases List.mem_cons.mp hp with rfl | hp
    · exact Ne.symm hCD
    · exact offC p hp
end
section
variable {prog : Program} {w : World} {A : Around} {E : Value → Shared → Prop} {s : Shared} {Q : Value → Shared → Prop} {h₀ : Heap} {L : Addr} {m : Str → Option Value} {news : Led} {p q : Addr} {a1 a2 a3 a4 a5 b1 b2 b3 b4 b5 : Bool}
theorem reads_b5 {h : Heap} {p : Addr} {o : Obj} {n : Nat} (e : h.get? p = some o) (hc : o.cls = .type "list") (hd : o.data = .seq #[.bool a1, .bool a2, .bool a3, .bool a4, .bool a5] n) :
    Reads h (.ref p) (.list [.bool a1, .bool a2, .bool a3, .bool a4, .bool a5]) [p] :=
  Reads.list e hc hd (ReadsAll.cons (as := []) (bs := []) (.bool _) (ReadsAll.cons (as := []) (bs := []) (.bool _) (ReadsAll.cons (as := []) (bs := []) (.bool _) (ReadsAll.cons (as := []) (bs := []) (.bool _) (ReadsAll.cons (as := []) (bs := []) (.bool _) .nil)))))
theorem room_b5 {A : Around} (hu : A.units + 10 < cLine) : A.units + min (PyData.depth (.list [.bool a1, .bool a2, .bool a3, .bool a4, .bool a5])) (PyData.depth (.list [.bool b1, .bool b2, .bool b3, .bool b4, .bool b5])) < cLine := by
  have h1 := Nat.min_le_left (PyData.depth (.list [.bool a1, .bool a2, .bool a3, .bool a4, .bool a5])) (PyData.depth (.list [.bool b1, .bool b2, .bool b3, .bool b4, .bool b5]))
  have h2 : PyData.depth (.list [.bool a1, .bool a2, .bool a3, .bool a4, .bool a5]) ≤ 3 := by
    simp only [PyData.depth, PyData.depthAll]
    decide
  omega
theorem ne5_f {o o' : Obj} {n n' : Nat} (N : News h₀ L s.heap news) (hp : (p, o) ∈ news) (hq : (q, o') ∈ news) (hc : o.cls = .type "list") (hc' : o'.cls = .type "list")
    (hd : o.data = .seq #[.bool a1, .bool a2, .bool a3, .bool a4, .bool a5] n) (hd' : o'.data = .seq #[.bool b1, .bool b2, .bool b3, .bool b4, .bool b5] n') (hu : A.units + 10 < cLine)
    (e1 : a1 = b1) (e2 : a2 = b2) (e3 : a3 = b3) (e4 : a4 = b4) (e5 : a5 = b5) (h : Q (.bool false) s) :
    wpAny (model prog w) A (compareOp .NotEq (.ref p) (.ref q)) Q E s := by
  subst e1 e2 e3 e4 e5
  refine SeqAt.compareNe_reads (reads_b5 (News.get N hp) hc hd) (reads_b5 (News.get N hq) hc' hd') rfl rfl (room_b5 hu) ?_
  have e : PyData.eqv (.list [.bool a1, .bool a2, .bool a3, .bool a4, .bool a5]) (.list [.bool a1, .bool a2, .bool a3, .bool a4, .bool a5]) = true := by
    cases a1 <;> cases a2 <;> cases a3 <;> cases a4 <;> cases a5 <;> rfl
  rw [e]
  exact h
end
theorem f_id1 {n X Y a b c a' b' c' A B C : Int} (F : Facts n X Y) (e1 : (a, b, c) = (X, Y, 1)) (e2 : (a', b', c') = (X, 115792089237316195423570985008687907853269984665640564039457584007908834671663 - Y, 1))
    (e3 : (A, B, C) = jadd (a, b, c) (a', b', c')) : isId (A, B, C) = true := by rw [e3, e1, e2]; exact F.id1
theorem f_id2 {n X Y a b c a' b' c' A B C A' B' C' U V W : Int} (F : Facts n X Y) (e1 : (a, b, c) = (X, Y, 1)) (e2 : (a', b', c') = (X, 115792089237316195423570985008687907853269984665640564039457584007908834671663 - Y, 1))
    (e3 : (A, B, C) = jdbl (a, b, c)) (e4 : (A', B', C') = jdbl (a', b', c')) (e5 : (U, V, W) = jadd (A, B, C) (A', B', C')) : isId (U, V, W) = true := by rw [e5, e3, e4, e1, e2]; exact F.id2
theorem f_id5 {n X Y a b c : Int} (F : Facts n X Y) (e1 : (a, b, c) = (X, Y, 1)) : isId (a, b, c) = false := by
  have h := F.y0
  rw [e1]
  unfold isId
  have e : ∀ z w : Int, (((X, Y, z) : I3) == ((0, 0, w) : I3)) = false := by
    intro z w
    rw [beq_eq_false_iff_ne]
    intro k
    have := congrArg (fun t : I3 => t.2.1) k
    dsimp only at this
    omega
  rw [e, e]
  rfl
theorem ge_int_f {prog : Program} {w : World} {A : Around} {E : Value → Shared → Prop} {s : Shared} {Q : Value → Shared → Prop} {a b : Int} {t u : Tok} (e : a < b) (h : Q (.bool false) s) : wpAny (model prog w) A (compareOp .GtE (.int a t) (.int b u)) Q E s :=
  ge_int (by have e' : decide (b ≤ a) = false := decide_eq_false (by omega)
             rw [e']; exact h)
local macro_rules | `(tactic| ktr_rel) => `(tactic| with_reducible (repeat' (first | assumption | exact Bd.modP _ | exact invF_bd _ | exact U8.bd (by assumption) | exact from_be_bd (by assumption) (by assumption) | exact Bd.pmy (by assumption) (by assumption) | apply Bd.mul | apply Bd.add | apply Bd.sub | apply Bd.neg | exact Bd.lit 256 (by k_dflt rfl))))
local macro_rules | `(tactic| walk_at "assign Tuple") => `(tactic| (k_here; (with_reducible rename IntsAre _ (List.take 2 (List.take 2 _ ++ [0, 0])) => hI9); (have hI8 := two_ints hI9); (clear hI9); (obtain ⟨a9, b9, ta9, tb9, e9⟩ := hI8); (subst e9); walk_at "assign Tuple"))
local macro_rules | `(tactic| walk_at "call builtin:int.to_bytes") => `(tactic| (k_here; k_dflt (refine to32 (by first | with_reducible assumption | with_reducible exact U8.modP _ | exact ⟨by omega, by omega⟩) ?_); intro c9 t9 k9 ec9 es9; (try dsimp only)))
local macro_rules | `(tactic| walk_at "call ref") => `(tactic| (k_here; (with_reducible show wpAny _ _ (call (Value.ref 123) _) _ _ _); k_dflt (refine con_use (by k_asm) (by k_asm) (by k_asm) (by k_asm) (by k_asm) (by first | exact rfl | assumption) (con_key _ _ _ _ _ _ _ _ (by assumption) (by ksw_less) (by omega) (by omega)) (by ktr_room) (by ktr_units) ?_; intro r9 tl9 h9 tk9 F9 N9 hR9; obtain ⟨e1, b9, t9, X9, Y9, e2, ec9, es9, e3, hu19, hu29⟩ := hR9; subst e1; subst e2; have hF9 := all_facts e3 (by omega) (by omega); have y09 := hF9.y0; have yP9 := hF9.yP; clear e3; (try simp only [List.cons_append, List.nil_append] at N9); (try dsimp only); (try k_fold))))
local macro_rules | `(tactic| walk_at "call ref") => `(tactic| (k_here; (with_reducible show wpAny _ _ (call (Value.ref 109) _) _ _ _); k_dflt (refine con_use (by k_asm) (by k_asm) (by k_asm) (by k_asm) (by k_asm) (by first | exact rfl | assumption) (con_dec _ _ _ _ _ _ _ _ _ (by assumption) (by ksw_less) (by first | with_reducible assumption | with_reducible exact U8.modP _ | exact ⟨by omega, by omega⟩) (by first | with_reducible assumption | with_reducible exact U8.modP _ | exact ⟨by omega, by omega⟩)) (by ktr_room) (by ktr_units) ?_; intro r9 tl9 h9 tk9 F9 N9 hR9; obtain ⟨a9, X9, Y9, tx9, ty9, e1, e2, e3, b19, b29⟩ := hR9; subst e1; subst e2; obtain ⟨ex9, ey9⟩ := Prod.mk.inj e3; subst ex9; subst ey9; (try simp only [List.cons_append, List.nil_append] at N9); (try dsimp only); (try k_fold))))
local macro_rules | `(tactic| walk_at "call ref") => `(tactic| (k_here; (with_reducible show wpAny _ _ (call (Value.ref 130) _) _ _ _); k_dflt (refine con_use (by k_asm) (by k_asm) (by k_asm) (by k_asm) (by k_asm) (by first | exact rfl | assumption) (con_comp _ _ _ _ _ _ _ _ _ (by assumption) (by ksw_less) (by first | with_reducible assumption | with_reducible exact U8.modP _ | exact ⟨by omega, by omega⟩) (by first | with_reducible assumption | with_reducible exact U8.modP _ | exact ⟨by omega, by omega⟩)) (by ktr_room) (by ktr_units) ?_; intro r9 tl9 h9 tk9 F9 N9 hR9; obtain ⟨e1, b9, t9, e2, ec9, es9⟩ := hR9; subst e1; subst e2; (try simp only [List.cons_append, List.nil_append] at N9); (try dsimp only); (try k_fold))))
local macro_rules | `(tactic| walk_at "call ref") => `(tactic| (k_here; (with_reducible show wpAny _ _ (call (Value.ref 137) _) _ _ _); k_dflt (refine con_use (by k_asm) (by k_asm) (by k_asm) (by k_asm) (by k_asm) (by first | exact rfl | assumption) (con_dcpA _ _ _ _ _ _ _ _ _ _ (by with_reducible assumption) (by assumption) (by ksw_less) (by first | with_reducible assumption | with_reducible exact U8.modP _ | exact ⟨by omega, by omega⟩)) (by ktr_room) (by ktr_units) ?_; intro r9 tl9 h9 tk9 F9 N9 hR9; obtain ⟨e1, b9, t9, e2, ec9, es9⟩ := hR9; subst e1; subst e2; (try simp only [List.cons_append, List.nil_append] at N9); (try dsimp only); (try k_fold))))
local macro_rules | `(tactic| walk_at "call ref") => `(tactic| (k_here; (with_reducible show wpAny _ _ (call (Value.ref 137) _) _ _ _); k_dflt (refine con_use (by k_asm) (by k_asm) (by k_asm) (by k_asm) (by k_asm) (by first | exact rfl | assumption) (con_dcpB _ _ _ _ _ _ _ _ _ _ _ (by with_reducible assumption) (by with_reducible assumption) (by assumption) (by ksw_less) (by first | with_reducible assumption | with_reducible exact U8.modP _ | exact ⟨by omega, by omega⟩)) (by ktr_room) (by ktr_units) ?_; intro r9 tl9 h9 tk9 F9 N9 hR9; obtain ⟨e1, b9, t9, e2, ec9, es9⟩ := hR9; subst e1; subst e2; (try simp only [List.cons_append, List.nil_append] at N9); (try dsimp only); (try k_fold))))
local macro_rules | `(tactic| walk_at "call ref") => `(tactic| (k_here; (with_reducible show wpAny _ _ (call (Value.ref 88) [Value.ref 29, Value.int _ _]) _ _ _); k_dflt (refine con_use (by k_asm) (by k_asm) (by k_asm) (by k_asm) (by k_asm) (by first | exact rfl | assumption) (con_fmul _ _ _ _ _ _ _ (by omega) (by omega)) (by ktr_room) (by ktr_units) ?_; intro r9 tl9 h9 tk9 F9 N9 hR9; obtain ⟨a9, X9, Y9, tx9, ty9, e1, e2, e3, b19, b29⟩ := hR9; subst e1; subst e2; (try simp only [List.cons_append, List.nil_append] at N9); (try dsimp only); (try k_fold))))
local macro_rules | `(tactic| walk_at "call ref") => `(tactic| (k_here; (with_reducible show wpAny _ _ (call (Value.ref 95) [Value.ref _, Value.ref _]) _ _ _); k_dflt (refine con_use (by k_asm) (by k_asm) (by k_asm) (by k_asm) (by k_asm) (by first | exact rfl | assumption) (con_fadd _ _ _ _ _ _ _ _ _ _ _ _ _ _ _ (by k_mem) (by ktr_rel) (by ktr_rel) (by k_mem) (by ktr_rel) (by ktr_rel)) (by ktr_room) (by ktr_units) ?_; intro r9 tl9 h9 tk9 F9 N9 hR9; obtain ⟨a9, X9, Y9, tx9, ty9, e1, e2, e3, b19, b29⟩ := hR9; subst e1; subst e2; (try simp only [List.cons_append, List.nil_append] at N9); (try dsimp only); (try k_fold))))
local macro_rules | `(tactic| walk_at "call ref") => `(tactic| (k_here; (with_reducible show wpAny _ _ (call (Value.ref 95) [Value.ref _, Value.ref 29]) _ _ _); k_dflt (refine con_use (by k_asm) (by k_asm) (by k_asm) (by k_asm) (by k_asm) (by first | exact rfl | assumption) (con_faddG _ _ _ _ _ _ _ _ _ _ (by k_mem) (by ktr_rel) (by ktr_rel)) (by ktr_room) (by ktr_units) ?_; intro r9 tl9 h9 tk9 F9 N9 hR9; obtain ⟨a9, X9, Y9, tx9, ty9, e1, e2, e3, b19, b29⟩ := hR9; subst e1; subst e2; (try simp only [List.cons_append, List.nil_append] at N9); (try dsimp only); (try k_fold))))
local macro_rules | `(tactic| walk_at "call ref") => `(tactic| (k_here; (with_reducible show wpAny _ _ (call (Value.ref 53) _) _ _ _); k_dflt (refine con_use (by k_asm) (by k_asm) (by k_asm) (by k_asm) (by k_asm) (by first | exact rfl | assumption) (con_toj _ _ _ _ _ _ _ _ _ _ (by k_mem) (by ktr_rel) (by ktr_rel)) (by ktr_room) (by ktr_units) ?_; intro r9 tl9 h9 tk9 F9 N9 hR9; obtain ⟨a9, X9, Y9, Z9, tx9, ty9, tz9, e1, e2, e3, b19, b29, b39⟩ := hR9; subst e1; subst e2; (try simp only [List.cons_append, List.nil_append] at N9); (try dsimp only); (try k_fold))))
local macro_rules | `(tactic| walk_at "call ref") => `(tactic| (k_here; (with_reducible show wpAny _ _ (call (Value.ref 60) _) _ _ _); k_dflt (refine con_use (by k_asm) (by k_asm) (by k_asm) (by k_asm) (by k_asm) (by first | exact rfl | assumption) (con_dbl _ _ _ _ _ _ _ _ _ _ _ _ (by k_mem) (by ktr_rel) (by ktr_rel) (by ktr_rel)) (by ktr_room) (by ktr_units) ?_; intro r9 tl9 h9 tk9 F9 N9 hR9; obtain ⟨a9, X9, Y9, Z9, tx9, ty9, tz9, e1, e2, e3, b19, b29, b39⟩ := hR9; subst e1; subst e2; (try simp only [List.cons_append, List.nil_append] at N9); (try dsimp only); (try k_fold))))
local macro_rules | `(tactic| walk_at "call ref") => `(tactic| (k_here; (with_reducible show wpAny _ _ (call (Value.ref 67) _) _ _ _); k_dflt (refine con_use (by k_asm) (by k_asm) (by k_asm) (by k_asm) (by k_asm) (by first | exact rfl | assumption) (con_add _ _ _ _ _ _ _ _ _ _ _ _ _ _ _ _ _ _ _ (by k_mem) (by ktr_rel) (by ktr_rel) (by ktr_rel) (by k_mem) (by ktr_rel) (by ktr_rel) (by ktr_rel)) (by ktr_room) (by ktr_units) ?_; intro r9 tl9 h9 tk9 F9 N9 hR9; obtain ⟨a9, X9, Y9, Z9, tx9, ty9, tz9, e1, e2, e3, b19, b29, b39⟩ := hR9; subst e1; subst e2; (try simp only [List.cons_append, List.nil_append] at N9); (try dsimp only); (try k_fold))))
local macro_rules | `(tactic| walk_at "call ref") => `(tactic| (k_here; (with_reducible show wpAny _ _ (call (Value.ref 116) _) _ _ _); k_dflt (refine con_use (by k_asm) (by k_asm) (by k_asm) (by k_asm) (by k_asm) (by first | exact rfl | assumption) (con_enc _ _ _ _ _ _ _ _ _ _ (by k_mem) (by first | with_reducible assumption | with_reducible exact U8.modP _ | exact ⟨by omega, by omega⟩) (by first | with_reducible assumption | with_reducible exact U8.modP _ | exact ⟨by omega, by omega⟩)) (by ktr_room) (by ktr_units) ?_; intro r9 tl9 h9 tk9 F9 N9 hR9; obtain ⟨e1, b9, t9, e2, ec9, es9⟩ := hR9; subst e1; subst e2; (try simp only [List.cons_append, List.nil_append] at N9); (try dsimp only); (try k_fold))))
local macro_rules | `(tactic| walk_at "call ref") => `(tactic| (k_here; (with_reducible show wpAny _ _ (call (Value.ref 102) _) _ _ _); k_dflt (refine con_use (by k_asm) (by k_asm) (by k_asm) (by k_asm) (by k_asm) (by first | exact rfl | assumption) (con_id _ _ _ _ _ _ _ _ _ _ _ _ (by k_mem)) (by ktr_room) (by ktr_units) ?_; intro r9 tl9 h9 tk9 F9 N9 hR9; obtain ⟨e1, e2⟩ := hR9; subst e1; subst e2; (try simp only [List.cons_append, List.nil_append] at N9); (try dsimp only); (try k_fold))))
local macro_rules | `(tactic| walk_at "call ref") => `(tactic| (k_here; (with_reducible show wpAny _ _ (call (Value.ref 144) _) _ _ _); k_dflt (refine con_use (by k_asm) (by k_asm) (by k_asm) (by k_asm) (by k_asm) (by first | exact rfl | assumption) (con_lowL _ _ _ _ _ _ _ (by omega) (by omega)) (by ktr_room) (by ktr_units) ?_; intro r9 tl9 h9 tk9 F9 N9 hR9; obtain ⟨e1, L9, t9, e2, eL9, eM9, eN9⟩ := hR9; subst e1; subst e2; (try simp only [List.cons_append, List.nil_append] at N9); (try dsimp only); (try k_fold))))
local macro_rules | `(tactic| walk_at "compareOp NotEq bytes bytes") => `(tactic| (k_here; k_dflt (refine ne_bytes_f (by with_reducible first | exact same_bytes (by assumption) (by assumption) | exact same_told (by assumption) (by assumption) (par2 (by assumption)) | exact same_told (by assumption) (by assumption) (par4 (by assumption))) ?_); (try dsimp only)))
local macro_rules | `(tactic| walk_at "compareOp NotEq int int") => `(tactic| (k_here; k_dflt (first | refine ne_int_f (by with_reducible first | exact Facts.curve (by assumption) | exact low_eq (by assumption) (by assumption) (by omega) (by omega)) ?_ | refine ne_int_t (by omega) ?_ | refine ne_int_f (by omega) ?_); (try dsimp only)))
local macro_rules | `(tactic| walk_at "compareOp NotEq ref ref") => `(tactic| (k_here; k_dflt (first
  | (refine ne2_f (by k_asm) (by k_mem) (by k_mem) (by ktr_units) (by with_reducible first | exact f_next (by assumption) (by assumption) (by assumption) | exact f_zero (by assumption) (by assumption) | exact f_back (by assumption) (by assumption) (by assumption) (by assumption) (by omega) (by omega) | rfl) ?_)
  | (refine ne2G_f (by k_asm) (by k_asm) (by k_asm) (by k_mem) (by ktr_units) (by with_reducible exact f_one (by assumption)) ?_)
  | (refine ne5_f (by k_asm) (by k_mem) (by k_mem) (by rfl) (by rfl) (by rfl) (by rfl) (by ktr_units) (by with_reducible exact f_id1 (by assumption) (by assumption) (by assumption) (by assumption)) (by with_reducible exact f_id2 (by assumption) (by assumption) (by assumption) (by assumption) (by assumption) (by assumption)) (by k_dflt rfl) (by k_dflt rfl) (by with_reducible exact f_id5 (by assumption) (by assumption)) ?_)); (try dsimp only)))
local macro_rules | `(tactic| walk_at "call type:bytes") => `(tactic| (k_here; (with_reducible show wpAny _ _ (call (Value.type _) [Value.ref _]) _ _ _); k_dflt (refine make1 (by k_asm) (by k_asm) (News.isList (by k_asm) (by k_mem)) (by omega) (by omega) rfl ?_); intro o9 c9 h9 t9 k9 F9 N9 eo9 ec9 es9; (try dsimp only)))
local macro_rules | `(tactic| walk_at "subscriptTail") => `(tactic| (k_here; (with_reducible show wpAny _ _ (subscriptTail _ (Expr.Slice none _ none _) (Value.bytes _ _) (Value.ref _)) _ _ _); (with_reducible rename Fr _ _ _ _ => F'); (with_reducible rename News _ _ _ _ => N'); k_dflt (refine slice_S (s := ⟨_, _, _, _, _⟩) F' N' (by constructor) (by constructor) (by ksw_less) (by with_reducible exact picked_m1 (by assumption)) ?_); intro c9 h9 t9 k9 es9 F9 N9; (try dsimp only)))
local macro_rules | `(tactic| walk_at "binaryOp Add bytes bytes") => `(tactic| (k_here; with_reducible ((first | refine add_T (by assumption) (by assumption) ?_ | refine add_E (by assumption) (by assumption) ?_ | refine add_B (by k_dflt ksw_less) ?_); intro c9 t9 k9 ec9 es9; (try simp only [List.size_toArray, List.length_cons, List.length_nil] at es9); (try dsimp only))))
local macro_rules | `(tactic| walk_at "compareOp GtE int int") => `(tactic| (k_here; k_dflt (refine ge_int_f (by with_reducible assumption) ?_); (try dsimp only)))
local macro_rules | `(tactic| walk_at "compareOp NotIn int ref") => `(tactic| (k_here; k_dflt (first | refine notin2_f (by k_asm) (by k_mem) (by with_reducible assumption) ?_ | refine notin2_t (by k_asm) (by k_mem) (by omega) (by omega) ?_); (try dsimp only)))
local macro_rules | `(tactic| walk_at "eval ListComp") => `(tactic| (k_here; lcg_look; k_dflt (refine comp_tup (F₀ := by k_asm) (by rfl) (by decide) (by rfl) (by decide) (by rfl) ?_)))
local macro_rules | `(tactic| walk_at "CompSrcT") => `(tactic| (k_here; k_dflt (refine CompSrcT.ledger (by rfl) (by k_asm) (by k_asm) (by k_mem) (by first | size_fits | exact Nat.le_of_ble_eq_true rfl) ?_; intro g'; lcg_lit)))
local macro_rules | `(tactic| walk_at "subscriptTail BinOp") => `(tactic| (k_here; k_dflt (refine kba_turn (value' := PySem.Expr.Name (PySem.Str.ofString "_") ⟨0, 0, 0, 0⟩) (fun _ => rfl) ?_)))
local macro_rules | `(tactic| walk_at "CompRest") => `(tactic| with_unfolding_all (refine LCg.CompRest.succ ?_; intro v' I' oI' C' oC' D' m' h' tk' E' hv' hC' hx' F' N' off' ne'; lcg_open hv'))
local macro_rules | `(tactic| walk_at "CompEnd") => `(tactic| (k_here; k_dflt (refine LCg.CompEnd.intro (by k_asm) (by k_asm) _ (by exact fun p hp => hp) (by with_reducible assumption) (by exact Or.inr ⟨_, by k_mem, rfl, _, rfl⟩) ?_)))
set_option maxHeartbeats 40000000 in
theorem law_holds : PySem.Challenge.rw_fq0015_01.Holds := Mine.hd (by
  w_on
  w_strict (
  k_go0
  k_with_none
  (all_goals try k_fold)
  k_steps))
end Mine
theorem PySem.Challenge.cw_fq0015_01_holds : PySem.Challenge.rw_fq0015_01.Holds := by
  exact Mine.law_holds
