import PyProof.Rows.All
import Wide.All
import OpenK.AllK
import Wide.FinOn
import PySem.Challenge.RW_pg0224_01
open PySem PySem.W PySem.Calls PyProof.Rows
set_option Elab.async false
set_option rowWalk.seconds 0
namespace Mine
set_option maxRecDepth 100000 in
set_option maxHeartbeats 8000000 in
open_top hd for PySem.Challenge.rw_pg0224_01
def Halt (P : Prop) : Prop := P
theorem halt {P : Prop} (h : Halt P) : P := h
theorem Halt.out {P : Prop} (h : P) : Halt P := h
theorem fr_as {h₀ h : Heap} {L : Addr} {m : Str → Option Value} (ps : List (Str × Value)) (F : Fr h₀ L h m) (e : ∀ p ∈ ps, m p.1 = some p.2) : Fr h₀ L h (kstB m ps) := by
  have : kstB m ps = m := funext fun y => kstB_eq e fun _ => rfl
  rw [this]; exact F
/-- no entry of the ledger's part stands at d -/
abbrev NeAll (d : Addr) (l : List (Addr × Obj)) : Prop := ∀ p ∈ l, p.1 ≠ d
theorem NeAll.of_lt {d : Addr} {l : List (Addr × Obj)} (h : AllLt d l) : NeAll d l := by
  induction l with
  | nil => intro p hp; cases hp
  | cons q r ih =>
    intro p hp
    rcases List.mem_cons.mp hp with rfl | hp
    · exact Nat.ne_of_lt h.1
    · exact ih h.2 p hp
theorem neAll_le {D d : Nat} {l : List (Addr × Obj)} (h : AllLt D l) (hd : @LE.le Nat _ D d) : ∀ p ∈ l, p.1 ≠ d := by
  induction l with
  | nil => intro p hp; cases hp
  | cons q r ih =>
    intro p hp
    rcases List.mem_cons.mp hp with rfl | hp
    · exact Nat.ne_of_lt (Nat.lt_of_lt_of_le h.1 hd)
    · exact ih h.2 p hp
theorem fr_gen {h₀ h : Heap} {L : Addr} {m : Str → Option Value} (ps : List (Str × Value)) (F : Fr h₀ L h m) (e : ∀ p ∈ ps, m p.1 = some p.2) : ∃ m₁, Fr h₀ L h (kstB m₁ ps) := ⟨m, fr_as ps F e⟩
theorem fr_put {h₀ h : Heap} {L : Addr} {m : Str → Option Value} {x : Str} {v : Value} (ps : List (Str × Value)) (F : Fr h₀ L h (fun y => if y = x then some v else m y)) (e : ∀ p ∈ ps, m p.1 = some p.2) (hx : (ps.all fun p => decide (p.1 ≠ x)) = true) : ∃ m₁, Fr h₀ L h (kstB m₁ ((x, v) :: ps)) := by
  refine fr_gen _ F fun p hp => ?_
  rcases List.mem_cons.mp hp with rfl | hp
  · exact if_pos rfl
  · have := of_decide_eq_true (List.all_eq_true.mp hx p hp)
    rw [if_neg this]
    exact e p hp
theorem sub_cons {α : Type} {a : α} {l l' : List α} (h : a ∈ l') (hs : ∀ p ∈ l, p ∈ l') : ∀ p ∈ a :: l, p ∈ l' := fun p hp => by
  rcases List.mem_cons.mp hp with rfl | hp
  · exact h
  · exact hs p hp
theorem room {a b c d X : Nat} (h : a + b < X) (e : Nat.ble (c + d) b = true) : a + c + d < X := Nat.lt_of_le_of_lt (by rw [Nat.add_assoc]; exact Nat.add_le_add_left (Nat.le_of_ble_eq_true e) a) h
theorem sub_nil {α : Type} {l' : List α} : ∀ p ∈ ([] : List α), p ∈ l' := fun p hp => nomatch hp
theorem sub_app {α : Type} {l₁ l₂ l' : List α} (h₁ : ∀ p ∈ l₁, p ∈ l') (h₂ : ∀ p ∈ l₂, p ∈ l') : ∀ p ∈ l₁ ++ l₂, p ∈ l' := fun p hp => (List.mem_append.mp hp).elim (h₁ p) (h₂ p)
def StopExpr : Prop := True
theorem haltIf {P : Prop} (_ : StopExpr) (h : Halt P) : P := h
example (w : World) : (Mine.hd.heap_39 w.params = Mine.hd.heap_39 w.params) ∧ PySem.Challenge.rw_pg0224_01 = PySem.Challenge.rw_pg0224_01 := by
  w_top off
  k_fill
  exact ⟨rfl, rfl⟩
local macro_rules | `(tactic| walk_at "exec While Compare cons nil") => `(tactic| (refine halt ?_))
local macro_rules | `(tactic| walk_at "call ref") => `(tactic| (refine halt ?_))
local macro_rules | `(tactic| walk_at "exec For Tuple Call cons nil") => `(tactic| (refine halt ?_))
local macro_rules | `(tactic| walk_at "eval ListComp") => `(tactic| (refine halt ?_))
local macro_rules | `(tactic| walk_at "CompSrc") => `(tactic| (refine halt ?_))
local macro_rules | `(tactic| walk_at "pyIter ref") => `(tactic| (refine halt ?_))
local macro_rules | `(tactic| walk_at "binaryOp Mult ref int") => `(tactic| (refine halt ?_))
local macro_rules | `(tactic| walk_at "binaryOp Mult int int") => `(tactic| (refine halt ?_))
local macro_rules | `(tactic| walk_at "binaryOp LShift int int") => `(tactic| (refine halt ?_))
local macro_rules | `(tactic| walk_at "binaryOp BitXor int int") => `(tactic| (refine halt ?_))
local macro_rules | `(tactic| walk_at "binaryOp RShift int int") => `(tactic| (refine halt ?_))
local macro_rules | `(tactic| walk_at "setItem ref int int") => `(tactic| (refine halt ?_))
local macro_rules | `(tactic| walk_at "exec Expr") => `(tactic| (refine haltIf (by assumption) ?_))
local macro_rules | `(tactic| k_all) => `(tactic| first | assumption | exact NeAll.of_lt (‹AllLt _ _›) | exact NeAll.of_lt (‹_ ∧ AllLt _ _›).2 | exact NeAll.of_lt (‹_ ∧ _ ∧ AllLt _ _›).2.2 | exact NeAll.of_lt (‹_ ∧ _ ∧ _ ∧ AllLt _ _›).2.2.2 | exact NeAll.of_lt (‹_ ∧ _ ∧ _ ∧ _ ∧ AllLt _ _›).2.2.2.2 | exact NeAll.of_lt (‹_ ∧ _ ∧ _ ∧ _ ∧ _ ∧ AllLt _ _›).2.2.2.2.2 | exact NeAll.of_lt (‹_ ∧ _ ∧ _ ∧ _ ∧ _ ∧ _ ∧ AllLt _ _›).2.2.2.2.2.2 | exact NeAll.of_lt (‹_ ∧ _ ∧ _ ∧ _ ∧ _ ∧ _ ∧ _ ∧ AllLt _ _›).2.2.2.2.2.2.2 | exact NeAll.of_lt (‹_ ∧ _ ∧ _ ∧ _ ∧ _ ∧ _ ∧ _ ∧ _ ∧ AllLt _ _›).2.2.2.2.2.2.2.2 | exact NeAll.of_lt (‹_ ∧ _ ∧ _ ∧ _ ∧ _ ∧ _ ∧ _ ∧ _ ∧ _ ∧ AllLt _ _›).2.2.2.2.2.2.2.2.2 | exact NeAll.of_lt (‹_ ∧ _ ∧ _ ∧ _ ∧ _ ∧ _ ∧ _ ∧ _ ∧ _ ∧ _ ∧ AllLt _ _›).2.2.2.2.2.2.2.2.2.2 | exact NeAll.of_lt (‹_ ∧ _ ∧ _ ∧ _ ∧ _ ∧ _ ∧ _ ∧ _ ∧ _ ∧ _ ∧ _ ∧ AllLt _ _›).2.2.2.2.2.2.2.2.2.2.2 | (refine neAll_le (by assumption) ?_; (try dsimp only); omega))
local macro_rules | `(tactic| walk_at "mine sub") => `(tactic| ((repeat (refine sub_cons ?k1 ?_; (case k1 => k_mem))); (intro p hp; first | (cases hp; done) | (repeat (first | exact hp | refine List.Mem.tail _ ?_)))))
variable {w : World} {p : Program} {loose : List Str} {mean : ExcName → Option Value} {mg mb : Str → Option Value}
   {dp un : Nat} {gd : Option (List Code)} {cn : Str} {cs : Scope} {a : Addr} {ccd : Value} {cl : List (Str × Addr)} {outer : List Env} {A₀ : Around} {base h₀ : Heap} {L : Addr} {m : Str → Option Value} {s : Shared} {Q E : Value → Shared → Prop} {rest : List (Addr × Obj)}
def sBody : Stmt → List Stmt
  | .FunctionDef _ _ b _ _ _ _ _ _ _ => b
  | _ => []
def sParams : Stmt → Arguments
  | .FunctionDef _ ps _ _ _ _ _ _ _ _ => ps
  | _ => default
def sScope : Stmt → Scope
  | .FunctionDef _ _ _ _ _ _ sc _ _ _ => sc
  | _ => default
def nthS : List Stmt → Nat → Stmt
  | x :: _, 0 => x
  | _ :: r, n + 1 => nthS r n
  | [], _ => default
def i2dInner : Stmt := nthS (sBody (nthS PySem.Challenge.pw_pg0224_01.main.body 7)) 1
def d2iInner : Stmt := nthS (sBody (nthS PySem.Challenge.pw_pg0224_01.main.body 8)) 0
def digit (x n i : Nat) : Nat := (x / 2 ^ (n * i)) % 2 ^ n
theorem nat_and_low (X k : Nat) : X &&& (X / 2 ^ k * 2 ^ k) = X / 2 ^ k * 2 ^ k := by
  apply Nat.eq_of_testBit_eq
  intro i
  rw [Nat.testBit_and, ← Nat.shiftLeft_eq, ← Nat.shiftRight_eq_div_pow, Nat.testBit_shiftLeft, Nat.testBit_shiftRight]
  by_cases h : i ≥ k
  · rw [Nat.add_sub_cancel' h]; simp
  · simp [h]
theorem xor_low (X k : Nat) : Builtin.bitXor (X : Int) ((X / 2 ^ k * 2 ^ k : Nat) : Int) = ((X % 2 ^ k : Nat) : Int) := by
  rw [bitXor_and]
  have e2 : Builtin.bitAnd (X : Int) ((X / 2 ^ k * 2 ^ k : Nat) : Int) = ((X / 2 ^ k * 2 ^ k : Nat) : Int) := by
    unfold Builtin.bitAnd
    have h1 : (0 : Int) ≤ (X : Int) := by omega
    have h2 : (0 : Int) ≤ ((X / 2 ^ k * 2 ^ k : Nat) : Int) := Int.natCast_nonneg _
    rw [decide_eq_true h1, decide_eq_true h2]
    show (((X : Int).toNat &&& ((X / 2 ^ k * 2 ^ k : Nat) : Int).toNat : Nat) : Int) = _
    rw [Int.toNat_natCast, Int.toNat_natCast, nat_and_low]
  rw [e2]
  have h3 := Nat.mod_add_div' X (2 ^ k)
  omega
theorem digit_lo (x n a i : Nat) (hi : i < a) : digit (x % 2 ^ (n * a)) n i = digit x n i := by
  unfold digit
  have h1 : n * a = n * i + n * (a - i) := by rw [← Nat.mul_add]; congr 1; omega
  have h2 : n * (a - i) = n + n * (a - i - 1) := by
    have : a - i = 1 + (a - i - 1) := by omega
    conv => lhs; rw [this]
    rw [Nat.mul_add, Nat.mul_one]
  rw [h1, Nat.pow_add, Nat.mod_mul_right_div_self, h2, Nat.pow_add, Nat.mod_mul_right_mod]
theorem digit_hi (x n a i : Nat) : digit (x / 2 ^ (n * a)) n i = digit x n (a + i) := by
  unfold digit
  rw [Nat.div_div_eq_div_mul, ← Nat.pow_add, ← Nat.mul_add]
theorem hi_lt (x n a b : Nat) (hx : x < 2 ^ (n * (a + b))) : x / 2 ^ (n * a) < 2 ^ (n * b) := by
  apply Nat.div_lt_of_lt_mul
  rw [← Nat.pow_add, ← Nat.mul_add]
  exact hx
theorem digit_one (x n : Nat) (h : x < 2 ^ n) : digit x n 0 = x := by
  unfold digit
  rw [Nat.mul_zero, Nat.pow_zero, Nat.div_one, Nat.mod_eq_of_lt h]
theorem intBits_lt (y k : Nat) (h : y < 2 ^ k) : Builtin.Int.intBits (y : Int) ≤ k := by
  unfold Builtin.Int.intBits
  split
  · exact Nat.zero_le _
  · rename_i hy
    have hy : (y : Int) ≠ 0 := by simpa using hy
    have := (Nat.log2_lt (n := y) (k := k) (by omega)).mpr h
    simp only [Int.natAbs_natCast]
    omega
theorem getD_set (ds : List Int) (k j : Nat) (v : Int) (hk : k < ds.length) : (ds.set k v).getD j 0 = if j = k then v else ds.getD j 0 := by
  simp only [List.getD_eq_getElem?_getD, List.getElem?_set]
  by_cases h : k = j
  · subst h; simp [hk]
  · rw [if_neg h, if_neg (Ne.symm h)]
set_option maxRecDepth 100000 in
set_option maxHeartbeats 8000000 in
theorem inner1 {params : Arguments} {body : List Stmt} {scope : Scope} (hp : params = sParams i2dInner) (hb : body = sBody i2dInner) (hsc : scope = sScope i2dInner) {n : Nat} {tn : Tok} {la f' c' b : Nat} {q : Str} {dc pm ct : Value} {oc o1 o2 o3 : Obj} {vs' : Array Value} {t' : Tok}
   (d1 : oc.data = .fields vs') (d2 : vs'[1]? = some (.str q t')) (c1 : o1.data = .cell (some (.ref f'))) (c2 : o2.data = .cell (some (.ref la))) (c3 : o3.data = .cell (some (.int (n : Int) tn)))
   (hla : b + 1 + 1 + 1 < la) (hc' : c' ≠ la) (hf' : f' ≠ la) (hn : 1 ≤ n) (hn2 : n < 10) (h48 : NeAll la rest) (sz : Nat) :
   ∀ {dp un : Nat} {gd : Option (List Code)} {cn : Str} {cs : Scope} {a : Addr} {ccd : Value} {cl : List (Str × Addr)} {outer : List Env} {A₀ : Around} {base h₀ : Heap} {L : Addr} {m : Str → Option Value} {s : Shared} {Q E : Value → Shared → Prop}
   {x l r : Nat} {tx tl tr : Tok} {items : List Value} {ds : List Int}
   (B : Below A₀ base outer h₀) (F : Fr h₀ L s.heap m) (X : (Mine.hd.heap_39 w.params).In h₀) (C1 : CodeHd h₀ 52 48) (T : Top p loose mean mg mb h₀) (hk : cs.kind = .function)
   (N : News h₀ L s.heap ((la, listOf items.toArray 0) :: (f', fnMade "inner" q params body scope [("n", b + 1), ("inner", b + 1 + 1 + 1), ("a_digits", b + 1 + 1)] dc pm c' ct) :: (c', oc) :: (b + 1 + 1 + 1, o1) :: (b + 1 + 1, o2) :: (b + 1, o3) :: rest))
   (hd : dp + sz + 1 < recursionLimit) (hu : un + 20 * sz + 40 < cLine)
   (hi : IntsAre items ds) (hlr : l < r) (hr : r ≤ ds.length) (hdl : ds.length < 1000) (hsz : r - l = sz) (hs2 : sz < 100) (hx2 : x < 2 ^ (n * sz))
   (ret : ∀ (items' : List Value) (ds' : List Int) h' tk', IntsAre items' ds' → ds'.length = ds.length → (∀ j : Nat, j < ds.length → ds'.getD j 0 = if l ≤ j ∧ j < r then (digit x n (j - l) : Int) else ds.getD j 0) → Fr h₀ L h' m →
     News h₀ L h' ((la, listOf items'.toArray 0) :: (f', fnMade "inner" q params body scope [("n", b + 1), ("inner", b + 1 + 1 + 1), ("a_digits", b + 1 + 1)] dc pm c' ct) :: (c', oc) :: (b + 1 + 1 + 1, o1) :: (b + 1 + 1, o2) :: (b + 1, o3) :: rest) → Q .none { s with heap := h', toks := tk' }),
   wpAny (model Challenge.rw_pg0224_01.row.prog w) (ktrTop dp un gd cn cs L a ccd cl outer) (call (.ref f') [.int (x : Int) tx, .int (l : Int) tl, .int (r : Int) tr]) Q E s := by
  conv at hb => rhs; whnf
  conv at hsc => rhs; whnf
  conv at hp => rhs; whnf
  subst hb hsc hp
  induction sz using Nat.strongRecOn with
  | _ sz ih =>
  intro dp un gd cn cs a ccd cl outer A₀ base h₀ L m s Q E x l r tx tl tr items ds B F X C1 T hk N hd hu hi hlr hr hdl hsz hs2 hx2 ret
  refine wpAny_call ?_
  k_dflt (refine' code_nest ?k1 ?k2 ?k3 ?k4 ?k5 ?kA ?kF ?kK ?k6 ?k7 ?k8 ?k9 ?kB ?_ ?c2 ?c3 ?c4 ?c5; (case kA => exact rfl); (case kF => exact rfl); (case kK => first | assumption | exact rfl); (case k1 => k_asm); (case k2 => k_asm); (case k3 => k_asm); (case k4 => k_asm); (case k5 => k_asm); (case k6 => k_mem); (case k7 => exact codeRec_news (by k_asm) (by k_mem) (by assumption) (by assumption)); (case k8 => (first | exact Nat.lt_of_le_of_lt (Nat.le_add_right dp _) hd | (show dp < recursionLimit; omega))); (case k9 => exact BindsTo.of_eq rfl); (case c5 => decide); (case kB => exact locs rfl); (case c2 => exact rfl); (case c3 => exact rfl); (case c4 => exact rfl); k_whole; intro g' L' h' FG' F' N' B' X' T'; (try dsimp only); (try k_lift B'); (try k_fold))
  have C1' : CodeHd g' 52 48 := C1.keeps FG'.keep
  replace F' := fr_gen [("x", .int (x : Int) tx), ("L", .int (l : Int) tl), ("R", .int (r : Int) tr)] F' (by intro p hp; simp only [List.mem_cons, List.not_mem_nil, or_false] at hp; rcases hp with rfl | rfl | rfl <;> rfl)
  obtain ⟨m1, F'⟩ := F'
  repeat' (first | (k_unfold; (try dsimp only)) | walk1 | (dsimp only; walk1))
  · refine Halt.out ?_
    try dsimp only
    refine ksa_set (by k_asm) (by k_asm) (by k_upd) hi (by omega) (by omega) (by omega) ?_
    intro h2 F2 N2 i2 e2 _
    repeat' (first | (k_unfold; (try dsimp only)) | walk1 | (dsimp only; walk1))
    rename (l : Int) + 1 = (r : Int) => hlr1
    have hs1 : sz = 1 := by omega
    refine ret _ _ _ _ i2 e2 ?_ (by k_asm) (by k_asm)
    intro j hj
    rw [getD_set _ _ _ _ (by omega)]
    subst hs1
    rw [Nat.mul_one] at hx2
    by_cases hjl : j = l
    · subst hjl
      rw [if_pos (by omega), if_pos (by omega), Nat.sub_self, digit_one x n hx2]
    · rw [if_neg (by omega), if_neg (by omega)]
  · refine Halt.out ?_
    try dsimp only
    refine PyProof.Rows.rshift_int (by omega) ?_
    rename (l : Int) + 1 ≠ (r : Int) => hlr1
    obtain ⟨a1, ha1⟩ : ∃ a1 : Nat, a1 = (l + r) / 2 - l := ⟨_, rfl⟩
    obtain ⟨b1, hb1⟩ : ∃ b1 : Nat, b1 = r - (l + r) / 2 := ⟨_, rfl⟩
    have hab : sz = a1 + b1 := by omega
    have ha0 : 0 < a1 := by omega
    have hb0 : 0 < b1 := by omega
    have hmid : ((l : Int) + (r : Int)).fdiv (2 ^ (1 : Int).toNat) = ((l + a1 : Nat) : Int) := by
      rw [Int.fdiv_eq_ediv_of_nonneg _ (by decide)]
      show ((l : Int) + (r : Int)) / 2 = _
      omega
    rw [hmid]
    try dsimp only
    repeat' (first | (k_unfold; (try dsimp only)) | walk1 | (dsimp only; walk1))
    refine Halt.out ?_
    try dsimp only
    have hsh : (((l + a1 : Nat) : Int) - (l : Int)) * (n : Int) = ((n * a1 : Nat) : Int) := by
      have : (((l + a1 : Nat) : Int) - (l : Int)) = (a1 : Int) := by omega
      rw [this, Int.natCast_mul, Int.mul_comm]
    have hnl : n * a1 ≤ 1000 := Nat.le_trans (Nat.mul_le_mul (Nat.le_of_lt hn2) (show a1 ≤ 100 by omega)) (by decide)
    have hnn : n < 2 ^ 64 := by omega
    refine PyProof.Rows.mul_int ?_ (IntMulOk.of_right (intBits_lt n 64 hnn))
    rw [hsh]
    try dsimp only
    repeat' (first | (k_unfold; (try dsimp only)) | walk1 | (dsimp only; walk1))
    refine Halt.out ?_
    try dsimp only
    refine PyProof.Rows.rshift_int (Int.natCast_nonneg _) ?_
    have hup : (x : Int).fdiv (2 ^ (((n * a1 : Nat) : Int)).toNat) = ((x / 2 ^ (n * a1) : Nat) : Int) := by
      rw [Int.toNat_natCast, Int.fdiv_eq_ediv_of_nonneg _ (Int.le_of_lt (Int.pow_pos (by decide)))]
      simp
    rw [hup]
    repeat' (first | (k_unfold; (try dsimp only)) | walk1 | (dsimp only; walk1))
    refine Halt.out ?_
    try dsimp only
    have hxx : x / 2 ^ (n * a1) < 2 ^ (n * b1) := hi_lt x n a1 b1 (hab ▸ hx2)
    have hnb : n * b1 ≤ 1000 := Nat.le_trans (Nat.mul_le_mul (Nat.le_of_lt hn2) (show b1 ≤ 100 by omega)) (by decide)
    have hbt := intBits_lt _ _ hxx
    refine PyProof.Rows.lshift_int (Int.natCast_nonneg _) (by omega) ?_
    rw [Int.toNat_natCast]
    repeat' (first | (k_unfold; (try dsimp only)) | walk1 | (dsimp only; walk1))
    refine Halt.out ?_
    try dsimp only
    have hxr : Builtin.bitXor (x : Int) (((x / 2 ^ (n * a1) : Nat) : Int) * 2 ^ (n * a1)) = ((x % 2 ^ (n * a1) : Nat) : Int) := by
      rw [← xor_low]; simp
    refine PyProof.Rows.xor_int ?_
    rw [hxr]
    repeat' (first | (k_unfold; (try dsimp only)) | walk1 | (dsimp only; walk1))
    refine Halt.out ?_
    try dsimp only
    refine ih a1 (by omega) B' (by assumption) X' C1' T' rfl (by assumption) (by show dp + 1 + a1 + 1 < recursionLimit; omega) (by show un + 3 + 20 * a1 + 40 < cLine; omega) hi (by omega) (by omega) hdl (by omega) (by omega) (Nat.mod_lt _ (Nat.pow_pos (by decide))) ?_
    intro it1 ds1 h1 tk1 i1 l1 g1 F1 N1
    try dsimp only
    repeat' (first | (k_unfold; (try dsimp only)) | walk1 | (dsimp only; walk1))
    refine Halt.out ?_
    try dsimp only
    refine ih b1 (by omega) B' (by assumption) X' C1' T' rfl (by assumption) (by show dp + 1 + b1 + 1 < recursionLimit; omega) (by show un + 3 + 20 * b1 + 40 < cLine; omega) i1 (by omega) (by omega) (by omega) (by omega) (by omega) hxx ?_
    intro it2 ds2 h2 tk2 i2 l2 g2 F2 N2
    try dsimp only
    repeat' (first | (k_unfold; (try dsimp only)) | walk1 | (dsimp only; walk1))
    refine ret _ _ _ _ i2 (by omega) ?_ (by k_asm) (by k_asm)
    intro j hj
    rw [g2 j (by omega), g1 j hj]
    by_cases h1 : l + a1 ≤ j ∧ j < r
    · rw [if_pos h1, if_pos (by omega), digit_hi]
      congr 2; omega
    · rw [if_neg h1]
      by_cases h2 : l ≤ j ∧ j < l + a1
      · rw [if_pos h2, if_pos (by omega), digit_lo _ _ _ _ (by omega)]
      · rw [if_neg h2, if_neg (by omega)]
def q48 : Str := (Str.ofString "_int2digits" ++ Str.ofString ".<locals>.") ++ Str.ofString "inner"
/-- a maker's table in the ledger: empty, or with its def's code -/
inductive TS where
  | empty
  | made (c : Nat) (oc : Obj) (vs : Array Value) (t : Tok)
def T48 : TS → List (Addr × Obj)
  | .empty => [(48, tabObj #[])]
  | .made c oc _ _ => [(48, tabObj (#[] ++ #[rawInt ((59 : Nat) : Int), rawInt ((4 : Nat) : Int), .ref c])), (c, oc)]
def ok48 : TS → Prop
  | .empty => True
  | .made _ oc vs t => oc.data = .fields vs ∧ vs[1]? = some (.str q48 t)
theorem lt_two_pow_bits (x : Nat) : x < 2 ^ Builtin.Int.intBits (x : Int) := by
  unfold Builtin.Int.intBits
  split
  · rename_i h
    have : (x : Int) = 0 := by simpa using h
    have : x = 0 := by omega
    subst this; decide
  · simp only [Int.natAbs_natCast]
    exact Nat.lt_log2_self
def ndig (x n : Nat) : Nat := (Builtin.Int.intBits (x : Int) + n - 1) / n
theorem ndig_pow (x n : Nat) (hn : 1 ≤ n) : x < 2 ^ (n * ndig x n) := by
  refine Nat.lt_of_lt_of_le (lt_two_pow_bits x) (Nat.pow_le_pow_right (by decide) ?_)
  unfold ndig
  have h1 := Nat.div_add_mod (Builtin.Int.intBits (x : Int) + n - 1) n
  have h2 := Nat.mod_lt (Builtin.Int.intBits (x : Int) + n - 1) (show 0 < n by omega)
  omega
theorem allLt_mem {d : Addr} {l : List (Addr × Obj)} (h : AllLt d l) : ∀ p ∈ l, @LT.lt Nat _ p.1 d := by
  induction l with
  | nil => intro p hp; cases hp
  | cons q r ih =>
    intro p hp
    rcases List.mem_cons.mp hp with rfl | hp
    · exact h.1
    · exact ih h.2 p hp
theorem apart48 {c : Nat} {oc : Obj} {vs : Array Value} {t : Tok} (h : AllLt c rest) : ∀ p ∈ rest, NeAll p.1 (T48 .empty) → NeAll p.1 (T48 (.made c oc vs t)) := by
  intro p hp hne q hq
  simp only [T48, List.mem_cons, List.not_mem_nil, or_false] at hq
  rcases hq with rfl | rfl
  · exact hne (48, tabObj #[]) (.head _)
  · exact Ne.symm (Nat.ne_of_lt (allLt_mem h p hp))
set_option maxRecDepth 100000 in
set_option maxHeartbeats 8000000 in
theorem i2d {u : TS} (hu48 : ok48 u) {x n : Nat} {t1 t2 : Tok}
   (B : Below A₀ base outer h₀) (F : Fr h₀ L s.heap m) (X : (Mine.hd.heap_39 w.params).In h₀) (C1 : CodeHd h₀ 52 48) (N : News h₀ L s.heap (T48 u ++ rest)) (T : Top p loose mean mg mb h₀) (hk : cs.kind = .function)
   (h48 : NeAll 48 rest)
   (hd : dp + 110 < recursionLimit) (hu : un + 2100 < cLine)
   (hn : 1 ≤ n) (hn2 : n < 10) (hk2 : ndig x n < 100)
   (ret : ∀ u' la items ds h' tk', ok48 u' → (∀ p ∈ rest, NeAll p.1 (T48 u) → NeAll p.1 (T48 u')) → IntsAre items ds → ds.length = ndig x n → (∀ j, j < ndig x n → ds.getD j 0 = (digit x n j : Int)) → NeAll la (T48 u' ++ rest) → Fr h₀ L h' m → News h₀ L h' ((la, listOf items.toArray 0) :: (T48 u' ++ rest)) → Q (.ref la) { s with heap := h', toks := tk' }) :
   wpAny (model Challenge.rw_pg0224_01.row.prog w) (ktrTop dp un gd cn cs L a ccd cl outer) (call (.ref 53) [.int (x : Int) t1, .int (n : Int) t2]) Q E s := by
  have hk0 : (((Builtin.Int.intBits (x : Int) : Nat) : Int) + (n : Int) - 1).fdiv (n : Int) = ((ndig x n : Nat) : Int) := by
    rw [Int.fdiv_eq_ediv_of_nonneg _ (by omega)]
    unfold ndig
    have : ((Builtin.Int.intBits (x : Int) : Nat) : Int) + (n : Int) - 1 = ((Builtin.Int.intBits (x : Int) + n - 1 : Nat) : Int) := by omega
    rw [this]; simp
  have hpow := ndig_pow x n hn
  obtain ⟨k, hkk⟩ : ∃ k, k = ndig x n := ⟨_, rfl⟩
  rw [← hkk] at hk2 ret hk0 hpow
  cases u with
  | empty =>
    simp only [T48, List.cons_append, List.nil_append] at N
    refine wpAny_call ?_
    k_dflt (refine' code_defC ?k1 ?k2 ?k3 ?k4 ?k5 ?kA ?kF ?kK ?k6 ?k7 ?k8 ?k9 ?kB ?kD ?_ ?c2 ?c3 ?c4; (case kA => exact rfl); (case kF => exact rfl); (case kK => first | assumption | exact rfl); (case k1 => k_asm); (case k2 => k_asm); (case k3 => k_asm); (case k4 => k_asm); (case k5 => k_asm); (case k6 => k_is); (case k7 => k_is); (case k8 => (first | exact Nat.lt_of_le_of_lt (Nat.le_add_right dp _) hd | (show dp < recursionLimit; omega))); (case k9 => first | exact BindsTo.of_eq rfl | (refine' kp_binds ?kx ?ke; (case kx => k_in); (case ke => exact fun _ => rfl))); (case kB => exact rfl); (case kD => decide +kernel); (case c2 => exact rfl); (case c3 => exact rfl); (case c4 => exact rfl); k_whole; intro g' L' h' tk' cells' FG' F' N' Y' B' X' T' l1; (try k_lt l1); have hY := CellsAre.three Y'; obtain ⟨o1, o2, o3, hE', d1, d2, d3⟩ := hY; subst hE'; clear Y'; (try simp only [List.cons_append, List.nil_append] at N'); (try dsimp only); (try k_lift B'); (try k_fold))
    have C1' : CodeHd g' 52 48 := C1.keeps FG'.keep
    have hRest : AllLt L' rest := l1.2
    replace F' := fr_gen [("a", .int (x : Int) t1)] F' (by intro p hp; simp only [List.mem_singleton] at hp; subst hp; rfl)
    obtain ⟨m1, F'⟩ := F'
    replace d3 : o3.data = .cell (some (.int (n : Int) t2)) := d3
    replace d2 : o2.data = .cell none := d2
    replace d1 : o1.data = .cell none := d1
    repeat' (first | (k_unfold; (try dsimp only)) | walk1 | (dsimp only; walk1))
    refine Halt.out ?_
    simp only [hk0]
    refine KM.mul (by assumption) (by assumption) (by is_list) (by l_ints) (by omega) (by omega) (by simp; omega) ?_
    intro la hA FA NA l2 i2 N2 e1 e2 e3 e4
    k_lt l2
    simp only [Int.toNat_natCast, List.flatten_replicate_singleton] at NA i2 e1 e2
    have hN2 : N2 = k := by rw [← e2]; simp
    subst hN2
    clear e3 e4 e2
    repeat' (first | (k_unfold; (try dsimp only)) | walk1 | (dsimp only; walk1))
    · rename_i l' hq1 lx1 hq2 oA dA f' c' oc' vs' t' ct' dc' hq3 tq dq1 dq2 lx2 lx3 hq4 oB FF NN dB hx0
      refine Halt.out ?_
      try dsimp only
      have hk1 : 0 < N2 := by
        rcases Nat.eq_zero_or_pos N2 with h | h
        · subst h; simp at hpow; omega
        · exact h
      refine inner1 (l := 0) (c' := c') (f' := f') (la := la) (b := L') (rest := (l', listOf #[Value.int 0 tk'] 0) :: (48, tabObj (#[] ++ #[rawInt ((59 : Nat) : Int), rawInt ((4 : Nat) : Int), .ref c'])) :: rest) rfl rfl rfl dq1 dq2 dB dA d3 (by omega) (by omega) (by omega) hn hn2 (by k_all) N2 B' FF X' C1' T' rfl (cb_drop NN (by walk_at "mine sub")) (by show dp + 1 + N2 + 1 < recursionLimit; omega) (by show un + 3 + 20 * N2 + 40 < cLine; omega) i2 (by omega) (by simp) (by simp; omega) (by omega) (by omega) hpow ?_
      intro it1 ds1 hh1 tk1 i1 ln1 g1 F1 N1
      try dsimp only
      repeat' (first | (k_unfold; (try dsimp only)) | walk1 | (dsimp only; walk1))
      refine ret (.made c' oc' vs' t') la it1 ds1 _ _ ⟨dq1, dq2⟩ (apart48 lx2.2.2.2.2.2.2) i1 (by rw [ln1]; simp) (fun j hj => ?_) ?_ (by k_asm) (cb_drop (by k_asm) ?_)
      · rw [g1 j (by simpa using hj), if_pos (by omega), Nat.sub_zero]
      · simp only [T48, List.cons_append, List.nil_append]; k_all
      · simp only [T48, List.cons_append, List.nil_append]; walk_at "mine sub"
    · rename_i l' hq1 lx1 hq2 oA dA f' c' oc' vs' t' ct' dc' hq3 tq dq1 dq2 lx2 lx3 hq4 oB FF NN dB hx0 kF kN kT kX
      have hx00 : x = 0 := by omega
      have hk1 : N2 = 0 := by
        subst hx00; rw [hkk]; unfold ndig
        show (0 + n - 1) / n = 0
        exact Nat.div_eq_of_lt (by omega)
      refine ret (.made c' oc' vs' t') la _ _ _ _ ⟨dq1, dq2⟩ (apart48 lx2.2.2.2.2.2.2) i2 (by simp) (fun j hj => by omega) ?_ (by k_asm) (cb_drop kN ?_)
      · simp only [T48, List.cons_append, List.nil_append]; k_all
      · simp only [T48, List.cons_append, List.nil_append]; walk_at "mine sub"
  | made c oc vs t =>
    simp only [T48, List.cons_append, List.nil_append] at N
    obtain ⟨hoc, hvs⟩ := hu48
    refine wpAny_call ?_
    k_dflt (refine' code_defC ?k1 ?k2 ?k3 ?k4 ?k5 ?kA ?kF ?kK ?k6 ?k7 ?k8 ?k9 ?kB ?kD ?_ ?c2 ?c3 ?c4; (case kA => exact rfl); (case kF => exact rfl); (case kK => first | assumption | exact rfl); (case k1 => k_asm); (case k2 => k_asm); (case k3 => k_asm); (case k4 => k_asm); (case k5 => k_asm); (case k6 => k_is); (case k7 => k_is); (case k8 => (first | exact Nat.lt_of_le_of_lt (Nat.le_add_right dp _) hd | (show dp < recursionLimit; omega))); (case k9 => first | exact BindsTo.of_eq rfl | (refine' kp_binds ?kx ?ke; (case kx => k_in); (case ke => exact fun _ => rfl))); (case kB => exact rfl); (case kD => decide +kernel); (case c2 => exact rfl); (case c3 => exact rfl); (case c4 => exact rfl); k_whole; intro g' L' h' tk' cells' FG' F' N' Y' B' X' T' l1; (try k_lt l1); have hY := CellsAre.three Y'; obtain ⟨o1, o2, o3, hE', d1, d2, d3⟩ := hY; subst hE'; clear Y'; (try simp only [List.cons_append, List.nil_append] at N'); (try dsimp only); (try k_lift B'); (try k_fold))
    have C1' : CodeHd g' 52 48 := C1.keeps FG'.keep
    have hRest : AllLt L' rest := l1.2.2
    replace F' := fr_gen [("a", .int (x : Int) t1)] F' (by intro p hp; simp only [List.mem_singleton] at hp; subst hp; rfl)
    obtain ⟨m1, F'⟩ := F'
    replace d3 : o3.data = .cell (some (.int (n : Int) t2)) := d3
    replace d2 : o2.data = .cell none := d2
    replace d1 : o1.data = .cell none := d1
    repeat' (first | (k_unfold; (try dsimp only)) | walk1 | (dsimp only; walk1))
    refine Halt.out ?_
    simp only [hk0]
    refine KM.mul (by assumption) (by assumption) (by is_list) (by l_ints) (by omega) (by omega) (by simp; omega) ?_
    intro la hA FA NA l2 i2 N2 e1 e2 e3 e4
    k_lt l2
    simp only [Int.toNat_natCast, List.flatten_replicate_singleton] at NA i2 e1 e2
    have hN2 : N2 = k := by rw [← e2]; simp
    subst hN2
    clear e3 e4 e2
    repeat' (first | (k_unfold; (try dsimp only)) | walk1 | (dsimp only; walk1))
    · rename_i l' hq1 lx1 hq2 oA dA f' ct' dc' hq3 tq lx2 hq4 oB FF NN dB hx0
      refine Halt.out ?_
      try dsimp only
      have hk1 : 0 < N2 := by
        rcases Nat.eq_zero_or_pos N2 with h | h
        · subst h; simp at hpow; omega
        · exact h
      refine inner1 (l := 0) (c' := c) (f' := f') (la := la) (b := L') (rest := (l', listOf #[Value.int 0 tk'] 0) :: (48, tabObj (#[] ++ #[rawInt ((59 : Nat) : Int), rawInt ((4 : Nat) : Int), .ref c])) :: rest) rfl rfl rfl hoc hvs dB dA d3 (by omega) (by omega) (by omega) hn hn2 (by k_all) N2 B' FF X' C1' T' rfl (cb_drop NN (by walk_at "mine sub")) (by show dp + 1 + N2 + 1 < recursionLimit; omega) (by show un + 3 + 20 * N2 + 40 < cLine; omega) i2 (by omega) (by simp) (by simp; omega) (by omega) (by omega) hpow ?_
      intro it1 ds1 hh1 tk1 i1 ln1 g1 F1 N1
      try dsimp only
      repeat' (first | (k_unfold; (try dsimp only)) | walk1 | (dsimp only; walk1))
      refine ret (.made c oc vs t) la it1 ds1 _ _ ⟨hoc, hvs⟩ (fun _ _ h => h) i1 (by rw [ln1]; simp) (fun j hj => ?_) ?_ (by k_asm) (cb_drop (by k_asm) ?_)
      · rw [g1 j (by simpa using hj), if_pos (by omega), Nat.sub_zero]
      · simp only [T48, List.cons_append, List.nil_append]; k_all
      · simp only [T48, List.cons_append, List.nil_append]; walk_at "mine sub"
    · rename_i l' hq1 lx1 hq2 oA dA f' ct' dc' hq3 tq lx2 hq4 oB FF NN dB hx0 kF kN kT kX
      have hx00 : x = 0 := by omega
      have hk1 : N2 = 0 := by
        subst hx00; rw [hkk]; unfold ndig
        show (0 + n - 1) / n = 0
        exact Nat.div_eq_of_lt (by omega)
      refine ret (.made c oc vs t) la _ _ _ _ ⟨hoc, hvs⟩ (fun _ _ h => h) i2 (by simp) (fun j hj => by omega) ?_ (by k_asm) (cb_drop kN ?_)
      · simp only [T48, List.cons_append, List.nil_append]; k_all
      · simp only [T48, List.cons_append, List.nil_append]; walk_at "mine sub"
def valR (f : Nat → Nat) (n l : Nat) : Nat → Nat
  | 0 => 0
  | k + 1 => f l + 2 ^ n * valR f n (l + 1) k
theorem valR_add (f : Nat → Nat) (n : Nat) : ∀ (a b l : Nat), valR f n l (a + b) = valR f n l a + 2 ^ (n * a) * valR f n (l + a) b
  | 0, b, l => by simp [valR]
  | a + 1, b, l => by
    have e : a + 1 + b = (a + b) + 1 := by omega
    rw [e, valR, valR, valR_add f n a b (l + 1), Nat.mul_add, ← Nat.mul_assoc, ← Nat.pow_add, ← Nat.add_assoc]
    have e1 : n + n * a = n * (a + 1) := by rw [Nat.mul_add, Nat.mul_one, Nat.add_comm]
    have e2 : l + 1 + a = l + (a + 1) := by omega
    rw [e1, e2]
theorem valR_lt (f : Nat → Nat) (n : Nat) : ∀ (k l : Nat), (∀ j, l ≤ j → j < l + k → f j < 2 ^ n) → valR f n l k < 2 ^ (n * k)
  | 0, l, _ => by simp [valR]
  | k + 1, l, h => by
    rw [valR]
    have h1 := h l (Nat.le_refl _) (by omega)
    have h2 := valR_lt f n k (l + 1) (fun j a b => h j (by omega) (by omega))
    have h3 : 2 ^ n * (valR f n (l + 1) k + 1) ≤ 2 ^ n * 2 ^ (n * k) := Nat.mul_le_mul_left _ h2
    have e : 2 ^ (n * (k + 1)) = 2 ^ n * 2 ^ (n * k) := by rw [← Nat.pow_add, Nat.mul_add, Nat.mul_one, Nat.add_comm]
    rw [e]
    rw [Nat.mul_add, Nat.mul_one] at h3
    omega
set_option maxRecDepth 100000 in
set_option maxHeartbeats 8000000 in
theorem inner2 {params : Arguments} {body : List Stmt} {scope : Scope} (hp : params = sParams d2iInner) (hb : body = sBody d2iInner) (hsc : scope = sScope d2iInner) {n : Nat} {tn : Tok} {ld f' c' b : Nat} {q : Str} {dc pm ct : Value} {oc o1 o2 o3 : Obj} {vs' : Array Value} {t' : Tok} {items : List Value} {ep : Nat} {ds : List Int} {f : Nat → Nat}
   (d1 : oc.data = .fields vs') (d2 : vs'[1]? = some (.str q t')) (c1 : o1.data = .cell (some (.ref f'))) (c2 : o2.data = .cell (some (.int (n : Int) tn))) (c3 : o3.data = .cell (some (.ref ld)))
   (hn : 1 ≤ n) (hn2 : n < 10) (hi : IntsAre items ds) (hdl : ds.length < 100) (hf : ∀ j, j < ds.length → ds.getD j 0 = (f j : Int)) (hfb : ∀ j, j < ds.length → f j < 2 ^ n) (sz : Nat) :
   ∀ {dp un : Nat} {gd : Option (List Code)} {cn : Str} {cs : Scope} {a : Addr} {ccd : Value} {cl : List (Str × Addr)} {outer : List Env} {A₀ : Around} {base h₀ : Heap} {L : Addr} {m : Str → Option Value} {s : Shared} {Q E : Value → Shared → Prop}
   {l r : Nat} {tl tr : Tok}
   (B : Below A₀ base outer h₀) (F : Fr h₀ L s.heap m) (X : (Mine.hd.heap_39 w.params).In h₀) (C1 : CodeHd h₀ 59 55) (T : Top p loose mean mg mb h₀) (hk : cs.kind = .function)
   (N : News h₀ L s.heap ((f', fnMade "inner" q params body scope [("n", b + 1 + 1), ("inner", b + 1 + 1 + 1), ("digits", b + 1)] dc pm c' ct) :: (c', oc) :: (b + 1 + 1 + 1, o1) :: (b + 1 + 1, o2) :: (b + 1, o3) :: (ld, listOf items.toArray ep) :: rest))
   (hd : dp + sz + 1 < recursionLimit) (hu : un + 20 * sz + 40 < cLine)
   (hlr : l < r) (hr : r ≤ ds.length) (hsz : r - l = sz)
   (ret : ∀ t' h' tk', Fr h₀ L h' m →
     News h₀ L h' ((f', fnMade "inner" q params body scope [("n", b + 1 + 1), ("inner", b + 1 + 1 + 1), ("digits", b + 1)] dc pm c' ct) :: (c', oc) :: (b + 1 + 1 + 1, o1) :: (b + 1 + 1, o2) :: (b + 1, o3) :: (ld, listOf items.toArray ep) :: rest) → Q (.int (valR f n l sz : Int) t') { s with heap := h', toks := tk' }),
   wpAny (model Challenge.rw_pg0224_01.row.prog w) (ktrTop dp un gd cn cs L a ccd cl outer) (call (.ref f') [.int (l : Int) tl, .int (r : Int) tr]) Q E s := by
  conv at hb => rhs; whnf
  conv at hsc => rhs; whnf
  conv at hp => rhs; whnf
  subst hb hsc hp
  induction sz using Nat.strongRecOn with
  | _ sz ih =>
  intro dp un gd cn cs a ccd cl outer A₀ base h₀ L m s Q E l r tl tr B F X C1 T hk N hd hu hlr hr hsz ret
  refine wpAny_call ?_
  k_dflt (refine' code_nest ?k1 ?k2 ?k3 ?k4 ?k5 ?kA ?kF ?kK ?k6 ?k7 ?k8 ?k9 ?kB ?_ ?c2 ?c3 ?c4 ?c5; (case kA => exact rfl); (case kF => exact rfl); (case kK => first | assumption | exact rfl); (case k1 => k_asm); (case k2 => k_asm); (case k3 => k_asm); (case k4 => k_asm); (case k5 => k_asm); (case k6 => k_mem); (case k7 => exact codeRec_news (by k_asm) (by k_mem) (by assumption) (by assumption)); (case k8 => (first | exact Nat.lt_of_le_of_lt (Nat.le_add_right dp _) hd | (show dp < recursionLimit; omega))); (case k9 => exact BindsTo.of_eq rfl); (case c5 => decide); (case kB => exact locs rfl); (case c2 => exact rfl); (case c3 => exact rfl); (case c4 => exact rfl); k_whole; intro g' L' h' FG' F' N' B' X' T'; (try dsimp only); (try k_lift B'); (try k_fold))
  have C1' : CodeHd g' 59 55 := C1.keeps FG'.keep
  replace F' := fr_gen [("L", .int (l : Int) tl), ("R", .int (r : Int) tr)] F' (by intro p hp; simp only [List.mem_cons, List.not_mem_nil, or_false] at hp; rcases hp with rfl | rfl <;> rfl)
  obtain ⟨m1, F'⟩ := F'
  repeat' (first | (k_unfold; (try dsimp only)) | walk1 | (dsimp only; walk1))
  · rename (l : Int) + 1 = (r : Int) => hlr1
    have hs1 : sz = 1 := by omega
    subst hs1
    rw [Int.toNat_natCast, hf l (by omega)]
    have e1 : valR f n l 1 = f l := by simp [valR]
    rw [e1] at ret
    exact ret _ _ _ (by k_asm) (by k_asm)
  · refine Halt.out ?_
    try dsimp only
    refine PyProof.Rows.rshift_int (by omega) ?_
    rename (l : Int) + 1 ≠ (r : Int) => hlr1
    obtain ⟨a1, ha1⟩ : ∃ a1 : Nat, a1 = (l + r) / 2 - l := ⟨_, rfl⟩
    obtain ⟨b1, hb1⟩ : ∃ b1 : Nat, b1 = r - (l + r) / 2 := ⟨_, rfl⟩
    have hab : sz = a1 + b1 := by omega
    have ha0 : 0 < a1 := by omega
    have hb0 : 0 < b1 := by omega
    have hmid : ((l : Int) + (r : Int)).fdiv (2 ^ (1 : Int).toNat) = ((l + a1 : Nat) : Int) := by
      rw [Int.fdiv_eq_ediv_of_nonneg _ (by decide)]
      show ((l : Int) + (r : Int)) / 2 = _
      omega
    rw [hmid]
    try dsimp only
    repeat' (first | (k_unfold; (try dsimp only)) | walk1 | (dsimp only; walk1))
    refine Halt.out ?_
    try dsimp only
    have hsh : (((l + a1 : Nat) : Int) - (l : Int)) * (n : Int) = ((n * a1 : Nat) : Int) := by
      have : (((l + a1 : Nat) : Int) - (l : Int)) = (a1 : Int) := by omega
      rw [this, Int.natCast_mul, Int.mul_comm]
    have hnl : n * a1 ≤ 1000 := Nat.le_trans (Nat.mul_le_mul (Nat.le_of_lt hn2) (show a1 ≤ 100 by omega)) (by decide)
    have hnn : n < 2 ^ 64 := by omega
    refine PyProof.Rows.mul_int ?_ (IntMulOk.of_right (intBits_lt n 64 hnn))
    rw [hsh]
    try dsimp only
    repeat' (first | (k_unfold; (try dsimp only)) | walk1 | (dsimp only; walk1))
    refine Halt.out ?_
    try dsimp only
    refine ih b1 (by omega) B' (by assumption) X' C1' T' rfl (by assumption) (by show dp + 1 + b1 + 1 < recursionLimit; omega) (by show un + 3 + 20 * b1 + 40 < cLine; omega) (by omega) hr (by omega) ?_
    intro tv1 hh1 tk1 F1 N1
    try dsimp only
    repeat' (first | (k_unfold; (try dsimp only)) | walk1 | (dsimp only; walk1))
    refine Halt.out ?_
    try dsimp only
    have hxx := valR_lt f n b1 (l + a1) (fun j h1 h2 => hfb j (by omega))
    have hnb : n * b1 ≤ 1000 := Nat.le_trans (Nat.mul_le_mul (Nat.le_of_lt hn2) (show b1 ≤ 100 by omega)) (by decide)
    have hbt := intBits_lt _ _ hxx
    refine PyProof.Rows.lshift_int (Int.natCast_nonneg _) (by omega) ?_
    rw [Int.toNat_natCast]
    repeat' (first | (k_unfold; (try dsimp only)) | walk1 | (dsimp only; walk1))
    refine Halt.out ?_
    try dsimp only
    refine ih a1 (by omega) B' (by assumption) X' C1' T' rfl (by assumption) (by show dp + 1 + a1 + 1 < recursionLimit; omega) (by show un + 3 + 20 * a1 + 40 < cLine; omega) (by omega) (by omega) (by omega) ?_
    intro tv2 hh2 tk2 F2 N2
    try dsimp only
    repeat' (first | (k_unfold; (try dsimp only)) | walk1 | (dsimp only; walk1))
    have hfin : ((valR f n (l + a1) b1 : Nat) : Int) * 2 ^ (n * a1) + ((valR f n l a1 : Nat) : Int) = ((valR f n l sz : Nat) : Int) := by
      rw [hab, valR_add, Nat.mul_comm (2 ^ (n * a1))]
      simp
      omega
    rw [hfin]
    exact ret _ _ _ (by k_asm) (by k_asm)
def q55 : Str := (Str.ofString "_digits2int" ++ Str.ofString ".<locals>.") ++ Str.ofString "inner"
def T55 : TS → List (Addr × Obj)
  | .empty => [(55, tabObj #[])]
  | .made c oc _ _ => [(55, tabObj (#[] ++ #[rawInt ((74 : Nat) : Int), rawInt ((4 : Nat) : Int), .ref c])), (c, oc)]
def ok55 : TS → Prop
  | .empty => True
  | .made _ oc vs t => oc.data = .fields vs ∧ vs[1]? = some (.str q55 t)
theorem apart55 {c : Nat} {oc : Obj} {vs : Array Value} {t : Tok} (h : AllLt c rest) : ∀ p ∈ rest, NeAll p.1 (T55 .empty) → NeAll p.1 (T55 (.made c oc vs t)) := by
  intro p hp hne q hq
  simp only [T55, List.mem_cons, List.not_mem_nil, or_false] at hq
  rcases hq with rfl | rfl
  · exact hne (55, tabObj #[]) (.head _)
  · exact Ne.symm (Nat.ne_of_lt (allLt_mem h p hp))
set_option maxRecDepth 100000 in
set_option maxHeartbeats 8000000 in
theorem d2i {u : TS} (hu55 : ok55 u) {n : Nat} {t2 : Tok} {ld : Nat} {xs : List Value} {ep : Nat} {ds : List Int} {f : Nat → Nat}
   (B : Below A₀ base outer h₀) (F : Fr h₀ L s.heap m) (X : (Mine.hd.heap_39 w.params).In h₀) (C1 : CodeHd h₀ 59 55) (N : News h₀ L s.heap ((ld, listOf xs.toArray ep) :: (T55 u ++ rest))) (T : Top p loose mean mg mb h₀) (hk : cs.kind = .function)
   (h55 : NeAll 55 rest) (hld : ld ≠ 55)
   (hd : dp + 110 < recursionLimit) (hu : un + 2100 < cLine)
   (hn : 1 ≤ n) (hn2 : n < 10) (hi : IntsAre xs ds) (hk2 : ds.length < 100) (hf : ∀ j, j < ds.length → ds.getD j 0 = (f j : Int)) (hfb : ∀ j, j < ds.length → f j < 2 ^ n)
   (ret : ∀ u' t' h' tk', ok55 u' → (∀ p ∈ rest, NeAll p.1 (T55 u) → NeAll p.1 (T55 u')) → Fr h₀ L h' m → News h₀ L h' ((ld, listOf xs.toArray ep) :: (T55 u' ++ rest)) → Q (.int (valR f n 0 ds.length : Int) t') { s with heap := h', toks := tk' }) :
   wpAny (model Challenge.rw_pg0224_01.row.prog w) (ktrTop dp un gd cn cs L a ccd cl outer) (call (.ref 60) [.ref ld, .int (n : Int) t2]) Q E s := by
  cases u with
  | empty =>
    simp only [T55, List.cons_append, List.nil_append] at N
    refine wpAny_call ?_
    k_dflt (refine' code_defC ?k1 ?k2 ?k3 ?k4 ?k5 ?kA ?kF ?kK ?k6 ?k7 ?k8 ?k9 ?kB ?kD ?_ ?c2 ?c3 ?c4; (case kA => exact rfl); (case kF => exact rfl); (case kK => first | assumption | exact rfl); (case k1 => k_asm); (case k2 => k_asm); (case k3 => k_asm); (case k4 => k_asm); (case k5 => k_asm); (case k6 => k_is); (case k7 => k_is); (case k8 => (first | exact Nat.lt_of_le_of_lt (Nat.le_add_right dp _) hd | (show dp < recursionLimit; omega))); (case k9 => first | exact BindsTo.of_eq rfl | (refine' kp_binds ?kx ?ke; (case kx => k_in); (case ke => exact fun _ => rfl))); (case kB => exact rfl); (case kD => decide +kernel); (case c2 => exact rfl); (case c3 => exact rfl); (case c4 => exact rfl); k_whole; intro g' L' h' tk' cells' FG' F' N' Y' B' X' T' l1; (try k_lt l1); have hY := CellsAre.three Y'; obtain ⟨o1, o2, o3, hE', d1, d2, d3⟩ := hY; subst hE'; clear Y'; (try simp only [List.cons_append, List.nil_append] at N'); (try dsimp only); (try k_lift B'); (try k_fold))
    have C1' : CodeHd g' 59 55 := C1.keeps FG'.keep
    have hRest : AllLt L' rest := l1.2.2
    obtain ⟨m1, F'⟩ := fr_gen [] F' (fun p hp => nomatch hp)
    replace d3 : o3.data = .cell (some (.ref ld)) := d3
    replace d2 : o2.data = .cell (some (.int (n : Int) t2)) := d2
    replace d1 : o1.data = .cell none := d1
    repeat' (first | (k_unfold; (try dsimp only)) | walk1 | (dsimp only; walk1))
    · rename_i f' c' oc' vs' t' ct' dc' hq3 tq dq1 dq2 lx2 lx3 hq4 oB FF NN dB hx0
      refine Halt.out ?_
      try dsimp only
      refine inner2 (l := 0) (c' := c') (f' := f') (ld := ld) (b := L') (rest := (55, tabObj (#[] ++ #[rawInt ((74 : Nat) : Int), rawInt ((4 : Nat) : Int), .ref c'])) :: rest) rfl rfl rfl dq1 dq2 dB d2 d3 hn hn2 hi hk2 hf hfb ds.length B' FF X' C1' T' rfl (cb_drop NN (by walk_at "mine sub")) (by show dp + 1 + ds.length + 1 < recursionLimit; omega) (by show un + 3 + 20 * ds.length + 40 < cLine; omega) hx0 (by omega) (by omega) ?_
      intro tv1 hh1 tk1 F1 N1
      try dsimp only
      repeat' (first | (k_unfold; (try dsimp only)) | walk1 | (dsimp only; walk1))
      refine ret (.made c' oc' vs' t') _ _ _ ⟨dq1, dq2⟩ (apart55 lx2.2.2.2.2.2) (by k_asm) (cb_drop (by k_asm) ?_)
      simp only [T55, List.cons_append, List.nil_append]; walk_at "mine sub"
    · rename_i f' c' oc' vs' t' ct' dc' hq3 tq dq1 dq2 lx2 lx3 hq4 oB FF NN dB hx0 kF kN kT kX
      have hx00 : ds.length = 0 := by omega
      rw [hx00] at ret
      refine ret (.made c' oc' vs' t') _ _ _ ⟨dq1, dq2⟩ (apart55 lx2.2.2.2.2.2) (by k_asm) (cb_drop kN ?_)
      simp only [T55, List.cons_append, List.nil_append]; walk_at "mine sub"
  | made c oc vs t =>
    obtain ⟨hoc, hvs⟩ := hu55
    simp only [T55, List.cons_append, List.nil_append] at N
    refine wpAny_call ?_
    k_dflt (refine' code_defC ?k1 ?k2 ?k3 ?k4 ?k5 ?kA ?kF ?kK ?k6 ?k7 ?k8 ?k9 ?kB ?kD ?_ ?c2 ?c3 ?c4; (case kA => exact rfl); (case kF => exact rfl); (case kK => first | assumption | exact rfl); (case k1 => k_asm); (case k2 => k_asm); (case k3 => k_asm); (case k4 => k_asm); (case k5 => k_asm); (case k6 => k_is); (case k7 => k_is); (case k8 => (first | exact Nat.lt_of_le_of_lt (Nat.le_add_right dp _) hd | (show dp < recursionLimit; omega))); (case k9 => first | exact BindsTo.of_eq rfl | (refine' kp_binds ?kx ?ke; (case kx => k_in); (case ke => exact fun _ => rfl))); (case kB => exact rfl); (case kD => decide +kernel); (case c2 => exact rfl); (case c3 => exact rfl); (case c4 => exact rfl); k_whole; intro g' L' h' tk' cells' FG' F' N' Y' B' X' T' l1; (try k_lt l1); have hY := CellsAre.three Y'; obtain ⟨o1, o2, o3, hE', d1, d2, d3⟩ := hY; subst hE'; clear Y'; (try simp only [List.cons_append, List.nil_append] at N'); (try dsimp only); (try k_lift B'); (try k_fold))
    have C1' : CodeHd g' 59 55 := C1.keeps FG'.keep
    have hRest : AllLt L' rest := l1.2.2.2
    obtain ⟨m1, F'⟩ := fr_gen [] F' (fun p hp => nomatch hp)
    replace d3 : o3.data = .cell (some (.ref ld)) := d3
    replace d2 : o2.data = .cell (some (.int (n : Int) t2)) := d2
    replace d1 : o1.data = .cell none := d1
    repeat' (first | (k_unfold; (try dsimp only)) | walk1 | (dsimp only; walk1))
    · rename_i f' ct' dc' hq3 tq lx2 hq4 oB FF NN dB hx0
      refine Halt.out ?_
      try dsimp only
      refine inner2 (l := 0) (c' := c) (f' := f') (ld := ld) (b := L') (rest := (55, tabObj (#[] ++ #[rawInt ((74 : Nat) : Int), rawInt ((4 : Nat) : Int), .ref c])) :: rest) rfl rfl rfl hoc hvs dB d2 d3 hn hn2 hi hk2 hf hfb ds.length B' FF X' C1' T' rfl (cb_drop NN (by walk_at "mine sub")) (by show dp + 1 + ds.length + 1 < recursionLimit; omega) (by show un + 3 + 20 * ds.length + 40 < cLine; omega) hx0 (by omega) (by omega) ?_
      intro tv1 hh1 tk1 F1 N1
      try dsimp only
      repeat' (first | (k_unfold; (try dsimp only)) | walk1 | (dsimp only; walk1))
      refine ret (.made c oc vs t) _ _ _ ⟨hoc, hvs⟩ (fun _ _ h => h) (by k_asm) (cb_drop (by k_asm) ?_)
      simp only [T55, List.cons_append, List.nil_append]; walk_at "mine sub"
    · rename_i f' ct' dc' hq3 tq lx2 hq4 oB FF NN dB hx0 kF kN kT kX
      have hx00 : ds.length = 0 := by omega
      rw [hx00] at ret
      refine ret (.made c oc vs t) _ _ _ ⟨hoc, hvs⟩ (fun _ _ h => h) (by k_asm) (cb_drop kN ?_)
      simp only [T55, List.cons_append, List.nil_append]; walk_at "mine sub"
set_option maxRecDepth 100000 in
set_option maxHeartbeats 8000000 in
theorem d21 {x b n : Nat} {t1 t2 t3 : Tok} {news : List (Addr × Obj)}
   (B : Below A₀ base outer h₀) (F : Fr h₀ L s.heap m) (X : (Mine.hd.heap_39 w.params).In h₀) (N : News h₀ L s.heap news) (T : Top p loose mean mg mb h₀) (hk : cs.kind = .function)
   (hd : dp + 110 < recursionLimit) (hu : un + 2100 < cLine)
   (hx : x < 2 ^ 40) (hb : 0 < b) (hb2 : b < 1000)
   (ret : ∀ lt t4 t5 h' tk', AllLt lt news → Fr h₀ L h' m → News h₀ L h' ((lt, { cls := .type "tuple", data := .seq #[.int ((x / b : Nat) : Int) t4, .int ((x % b : Nat) : Int) t5] }) :: news) → Q (.ref lt) { s with heap := h', toks := tk' }) :
   wpAny (model Challenge.rw_pg0224_01.row.prog w) (ktrTop dp un gd cn cs L a ccd cl outer) (call (.ref 39) [.int (x : Int) t1, .int (b : Int) t2, .int (n : Int) t3]) Q E s := by
  have hbits := intBits_lt x 40 hx
  refine wpAny_call ?_
  k_dflt (refine' code_def ?k1 ?k2 ?k3 ?k4 ?k5 ?kA ?kF ?kK ?k6 ?k7 ?k8 ?k9 ?kB ?_ ?c2 ?c3 ?c4 ?c5; (case kA => exact rfl); (case kF => exact rfl); (case kK => first | assumption | exact rfl); (case k1 => k_asm); (case k2 => k_asm); (case k3 => k_asm); (case k4 => k_asm); (case k5 => k_asm); (case k6 => k_is); (case k7 => k_is); (case k8 => (first | exact Nat.lt_of_le_of_lt (Nat.le_add_right dp _) hd | (show dp < recursionLimit; omega))); (case k9 => first | exact BindsTo.of_eq rfl | (refine' kp_binds ?kx ?ke; (case kx => k_in); (case ke => exact fun _ => rfl))); (case c5 => decide); (case kB => exact locs rfl); (case c2 => exact rfl); (case c3 => exact rfl); (case c4 => exact rfl); k_whole; intro g' L' h' FG' F' N' B' X' T'; (try dsimp only); (try k_lift B'); (try k_fold))
  have e1 : (x : Int).fdiv (b : Int) = ((x / b : Nat) : Int) := by rw [Int.fdiv_eq_ediv_of_nonneg _ (by omega)]; simp
  have e2 : (x : Int).fmod (b : Int) = ((x % b : Nat) : Int) := by rw [Int.fmod_eq_emod_of_nonneg _ (by omega)]; simp
  have hlt : AllLt h'.objs.size news := allLt_of fun p hp => Heap.lt_size (N' p hp).1
  repeat' (first | (k_unfold; (try dsimp only)) | walk1 | (dsimp only; walk1))
  rename News h₀ L _ (_ :: _) => NN
  rw [e1, e2] at NN
  exact ret _ _ _ _ _ hlt (by k_asm) NN
theorem News.ne {h₀ h : Heap} {L : Addr} {led : List (Addr × Obj)} {x y : Nat} {o1 o2 : Obj} (N : News h₀ L h led) (h1 : (x, o1) ∈ led) (h2 : (y, o2) ∈ led) (hne : o1 ≠ o2) : x ≠ y := fun e => by
  subst e
  have a := (N _ h1).1
  have b := (N _ h2).1
  rw [a] at b
  exact hne (Option.some.inj b)
def notStr1 (ps : Array Value) : Prop := ∀ q t, ps[1]? ≠ some (.str q t)
theorem code_ne {oc : Obj} {vs ps : Array Value} {q : Str} {t : Tok} (h1 : oc.data = .fields vs) (h2 : vs[1]? = some (.str q t)) (h3 : notStr1 ps) : oc ≠ tabObj ps := fun e => by
  subst e
  have : ps = vs := by injection h1
  subst this
  exact h3 _ _ h2
theorem tab48_get (u : TS) : ∃ ps, (48, tabObj ps) ∈ T48 u ∧ notStr1 ps := by
  cases u with
  | empty => exact ⟨#[], .head _, fun q t h => by simp at h⟩
  | made c oc vs t => exact ⟨_, .head _, fun q t h => by simp [rawInt] at h⟩
theorem tab55_get (u : TS) : ∃ ps, (55, tabObj ps) ∈ T55 u ∧ notStr1 ps := by
  cases u with
  | empty => exact ⟨#[], .head _, fun q t h => by simp at h⟩
  | made c oc vs t => exact ⟨_, .head _, fun q t h => by simp [rawInt] at h⟩
theorem t55_ne48 {h₀ h : Heap} {L : Addr} {led : List (Addr × Obj)} {u v : TS} (N : News h₀ L h led) (hv : ok55 v) (s1 : ∀ p ∈ T48 u, p ∈ led) (s2 : ∀ p ∈ T55 v, p ∈ led) : NeAll 48 (T55 v) := by
  obtain ⟨ps, hm, hps⟩ := tab48_get u
  cases v with
  | empty => intro p hp; simp [T55] at hp; subst hp; decide
  | made c oc vs t =>
    intro p hp
    simp only [T55, List.mem_cons, List.not_mem_nil, or_false] at hp
    rcases hp with rfl | rfl
    · exact (show (55 : Nat) ≠ 48 by decide)
    · exact News.ne N (s2 _ (.tail _ (.head _))) (s1 _ hm) (code_ne hv.1 hv.2 hps)
theorem t48_ne55 {h₀ h : Heap} {L : Addr} {led : List (Addr × Obj)} {u v : TS} (N : News h₀ L h led) (hu : ok48 u) (s1 : ∀ p ∈ T48 u, p ∈ led) (s2 : ∀ p ∈ T55 v, p ∈ led) : NeAll 55 (T48 u) := by
  obtain ⟨ps, hm, hps⟩ := tab55_get v
  cases u with
  | empty => intro p hp; simp [T48] at hp; subst hp; decide
  | made c oc vs t =>
    intro p hp
    simp only [T48, List.mem_cons, List.not_mem_nil, or_false] at hp
    rcases hp with rfl | rfl
    · exact (show (48 : Nat) ≠ 55 by decide)
    · exact News.ne N (s1 _ (.tail _ (.head _))) (s2 _ hm) (code_ne hu.1 hu.2 hps)
theorem NeAll.append {d : Addr} {l l' : List (Addr × Obj)} (h : NeAll d l) (h' : NeAll d l') : NeAll d (l ++ l') := fun p hp => (List.mem_append.mp hp).elim (h p) (h' p)
/-- the two tables' part of a ledger -/
def TB (u v : TS) : List (Addr × Obj) := T48 u ++ T55 v
def okB (u v : TS) : Prop := ok48 u ∧ ok55 v
/-- rest keeps clear of both tables -/
def Clear (rest : List (Addr × Obj)) : Prop := NeAll 48 rest ∧ NeAll 55 rest
/-- _int2digits over both tables -/
theorem i2dB {u v : TS} (hB : okB u v) {x n : Nat} {t1 t2 : Tok}
   (B : Below A₀ base outer h₀) (F : Fr h₀ L s.heap m) (X : (Mine.hd.heap_39 w.params).In h₀) (C1 : CodeHd h₀ 52 48) (N : News h₀ L s.heap (TB u v ++ rest)) (T : Top p loose mean mg mb h₀) (hk : cs.kind = .function)
   (hc : Clear rest)
   (hd : dp + 110 < recursionLimit) (hu : un + 2100 < cLine)
   (hn : 1 ≤ n) (hn2 : n < 10) (hk2 : ndig x n < 100)
   (ret : ∀ u' la items ds h' tk', okB u' v → (∀ p ∈ rest, NeAll p.1 (TB u v) → NeAll p.1 (TB u' v)) → IntsAre items ds → ds.length = ndig x n → (∀ j, j < ndig x n → ds.getD j 0 = (digit x n j : Int)) → NeAll la (TB u' v ++ rest) → Fr h₀ L h' m → News h₀ L h' ((la, listOf items.toArray 0) :: (TB u' v ++ rest)) → Q (.ref la) { s with heap := h', toks := tk' }) :
   wpAny (model Challenge.rw_pg0224_01.row.prog w) (ktrTop dp un gd cn cs L a ccd cl outer) (call (.ref 53) [.int (x : Int) t1, .int (n : Int) t2]) Q E s := by
  unfold TB at N ret
  rw [List.append_assoc] at N
  refine i2d hB.1 (rest := T55 v ++ rest) B F X C1 N T hk (NeAll.append (t55_ne48 N hB.2 (fun p hp => List.mem_append_left _ hp) (fun p hp => List.mem_append_right _ (List.mem_append_left _ hp))) hc.1) hd hu hn hn2 hk2 ?_
  intro u' la items ds h' tk' h1 hap h2 h3 h4 h5 h6 h7
  exact ret u' la items ds h' tk' ⟨h1, hB.2⟩ (fun p hp h => NeAll.append (hap p (List.mem_append_right _ hp) fun q hq => h q (List.mem_append_left _ hq)) fun q hq => h q (List.mem_append_right _ hq)) h2 h3 h4 (by rw [List.append_assoc]; exact h5) h6 (by rw [List.append_assoc]; exact h7)
/-- _digits2int over both tables; the list stands anywhere in the rest -/
theorem d2iB {u v : TS} (hB : okB u v) {n : Nat} {t2 : Tok} {ld : Nat} {xs : List Value} {ep : Nat} {ds : List Int} {f : Nat → Nat}
   (B : Below A₀ base outer h₀) (F : Fr h₀ L s.heap m) (X : (Mine.hd.heap_39 w.params).In h₀) (C1 : CodeHd h₀ 59 55) (N : News h₀ L s.heap (TB u v ++ rest)) (hld : (ld, listOf xs.toArray ep) ∈ rest) (T : Top p loose mean mg mb h₀) (hk : cs.kind = .function)
   (hc : Clear rest)
   (hd : dp + 110 < recursionLimit) (hu : un + 2100 < cLine)
   (hn : 1 ≤ n) (hn2 : n < 10) (hi : IntsAre xs ds) (hk2 : ds.length < 100) (hf : ∀ j, j < ds.length → ds.getD j 0 = (f j : Int)) (hfb : ∀ j, j < ds.length → f j < 2 ^ n)
   (ret : ∀ v' t' h' tk', okB u v' → (∀ p ∈ rest, NeAll p.1 (TB u v) → NeAll p.1 (TB u v')) → Fr h₀ L h' m → News h₀ L h' (TB u v' ++ rest) → Q (.int (valR f n 0 ds.length : Int) t') { s with heap := h', toks := tk' }) :
   wpAny (model Challenge.rw_pg0224_01.row.prog w) (ktrTop dp un gd cn cs L a ccd cl outer) (call (.ref 60) [.ref ld, .int (n : Int) t2]) Q E s := by
  unfold TB at N ret
  have N' : News h₀ L s.heap ((ld, listOf xs.toArray ep) :: (T55 v ++ (T48 u ++ rest))) := cb_drop N fun p hp => by
    simp only [List.mem_cons, List.mem_append] at hp ⊢
    rcases hp with rfl | hp | hp | hp
    · exact .inr hld
    · exact .inl (.inr hp)
    · exact .inl (.inl hp)
    · exact .inr hp
  refine d2i hB.2 (rest := T48 u ++ rest) B F X C1 N' T hk (NeAll.append (t48_ne55 N hB.1 (fun p hp => List.mem_append_left _ (List.mem_append_left _ hp)) (fun p hp => List.mem_append_left _ (List.mem_append_right _ hp))) hc.2) (hc.2 _ hld) hd hu hn hn2 hi hk2 hf hfb ?_
  intro v' t' h' tk' h1 hap h2 h3
  refine ret v' t' h' tk' ⟨hB.1, h1⟩ (fun p hp h => NeAll.append (fun q hq => h q (List.mem_append_left _ hq)) (hap p (List.mem_append_right _ hp) fun q hq => h q (List.mem_append_right _ hq))) h2 (cb_drop h3 fun p hp => ?_)
  simp only [List.mem_cons, List.mem_append] at hp ⊢
  rcases hp with (hp | hp) | hp
  · exact .inr (.inr (.inl hp))
  · exact .inr (.inl hp)
  · exact .inr (.inr (.inr hp))
theorem offI_of_ne {I : Addr} {it : Obj} : ∀ {l : List (Addr × Obj)}, NeAll I l → OffI I it l
  | [], _ => trivial
  | p :: r, h => ⟨.inl (h p (.head _)), offI_of_ne fun q hq => h q (.tail _ hq)⟩
theorem NeAll.cons {d : Addr} {p : Addr × Obj} {l : List (Addr × Obj)} (h : @Ne Nat p.1 d) (hl : NeAll d l) : NeAll d (p :: l) := fun q hq => by
  rcases List.mem_cons.mp hq with rfl | hq
  · exact h
  · exact hl q hq
section
variable {prog : Program} {A : Around} {env : Env} {x : Str} {body : List Stmt} {QF : Flow → Shared → Prop} {EE : Value → Shared → Prop}
theorem unr_mono {L : Addr} {s₁ : Shared} {I : Addr} {it : Obj} {r1 r2 : (Str → Option Value) → List (Addr × Obj) → Prop} {Q1 : Flow → Shared → Prop} {f : Flow} {s₂ : Shared}
    (h : ∀ m n, r1 m n → r2 m n) (k : UnrPost h₀ L s₁ I it r1 Q1 f s₂) : UnrPost h₀ L s₁ I it r2 Q1 f s₂ := by
  cases f with
  | ret v => exact k
  | brk => exact k
  | next => obtain ⟨h', tk, m', n', a, b, c, d, e⟩ := k; exact ⟨h', tk, m', n', a, b, c, d, h _ _ e⟩
  | cont => obtain ⟨h', tk, m', n', a, b, c, d, e⟩ := k; exact ⟨h', tk, m', n', a, b, c, d, h _ _ e⟩
theorem rev_ind {I : Addr} {lp : Addr × Obj} (P : List Value → (Str → Option Value) → List (Addr × Obj) → Prop)
    (hz : ∀ m news h tk, P [] m news → Fr h₀ env.locals h m → News h₀ env.locals h news → QF .next { s with heap := h, toks := tk })
    (hs : ∀ v r m news (it : Obj) h tk, P (v :: r) m news → it.cls = .type "list_reverseiterator" → Fr h₀ env.locals h (fun y => if y = x then some v else m y) → News h₀ env.locals h ((I, it) :: news) →
      wpAny (model prog w) A (execs body env) (UnrPost h₀ env.locals { s with heap := h, toks := tk } I it (fun m' n' => lp ∈ n' ∧ P r m' n') QF) EE { s with heap := h, toks := tk }) :
    ∀ ws m news, P ws m news → RevRest prog w A EE h₀ env x body QF s I lp ws m news := by
  intro ws
  induction ws with
  | nil => exact fun m news hP => RevRest.zero fun h tk F N => hz m news h tk hP F N
  | cons v r ih => exact fun m news hP => RevRest.succ fun it h tk hc F N => wpAny_mono (hs v r m news it h tk hP hc F N) (fun f s₂ k => unr_mono (fun m' n' q => ⟨q.1, ih m' n' q.2⟩) k) fun _ _ e => e
end
def numHL (n : Nat) : Nat → List Nat → Nat
  | acc, [] => acc
  | acc, e :: es => numHL n (acc * 2 ^ n + e) es
def dvq (b n : Nat) : Nat → List Nat → List Nat
  | _, [] => []
  | r, e :: es => (r * 2 ^ n + e) / b :: dvq b n ((r * 2 ^ n + e) % b) es
def dvr (b n : Nat) : Nat → List Nat → Nat
  | r, [] => r
  | r, e :: es => dvr b n ((r * 2 ^ n + e) % b) es
theorem dv_num (b n : Nat) (hb : 0 < b) : ∀ (es : List Nat) (q r : Nat), r < b → numHL n (b * q + r) es = b * numHL n q (dvq b n r es) + dvr b n r es ∧ dvr b n r es < b
  | [], q, r, h => ⟨rfl, h⟩
  | e :: es, q, r, h => by
    have h1 := dv_num b n hb es (q * 2 ^ n + (r * 2 ^ n + e) / b) ((r * 2 ^ n + e) % b) (Nat.mod_lt _ hb)
    have h2 : (b * q + r) * 2 ^ n + e = b * (q * 2 ^ n + (r * 2 ^ n + e) / b) + (r * 2 ^ n + e) % b := by
      have := Nat.div_add_mod (r * 2 ^ n + e) b
      rw [Nat.add_mul, Nat.mul_add, Nat.mul_assoc]
      omega
    rw [numHL, h2]
    exact h1
theorem numHL_append (n : Nat) : ∀ (es : List Nat) (acc e : Nat), numHL n acc (es ++ [e]) = numHL n acc es * 2 ^ n + e
  | [], _, _ => rfl
  | x :: es, acc, e => by rw [List.cons_append, numHL, numHL, numHL_append n es]
theorem valR_congr {f g : Nat → Nat} (n : Nat) : ∀ (k l l' : Nat), (∀ j, j < k → f (l + j) = g (l' + j)) → valR f n l k = valR g n l' k
  | 0, _, _, _ => rfl
  | k + 1, l, l', h => by
    have h0 := h 0 (by omega)
    rw [Nat.add_zero, Nat.add_zero] at h0
    rw [valR, valR, h0, valR_congr n k (l + 1) (l' + 1) (fun j hj => by have := h (j + 1) (by omega); rw [show l + 1 + j = l + (j + 1) by omega, show l' + 1 + j = l' + (j + 1) by omega]; exact this)]
theorem numHL_rev (n : Nat) : ∀ es : List Nat, numHL n 0 es.reverse = valR (fun j => es.getD j 0) n 0 es.length
  | [] => rfl
  | e :: es => by
    rw [List.reverse_cons, numHL_append, numHL_rev n es, List.length_cons, valR, Nat.mul_comm, Nat.add_comm]
    have : valR (fun j => (e :: es).getD j 0) n (0 + 1) es.length = valR (fun j => es.getD j 0) n 0 es.length :=
      valR_congr n _ _ _ fun j _ => by simp [Nat.add_comm 1 j]
    rw [this]; rfl
theorem valR_digit (n : Nat) : ∀ (k x : Nat), x < 2 ^ (n * k) → valR (fun j => digit x n j) n 0 k = x
  | 0, x, h => by simp at h; simp [valR, h]
  | k + 1, x, h => by
    rw [valR]
    have e1 : valR (fun j => digit x n j) n (0 + 1) k = valR (fun j => digit (x / 2 ^ n) n j) n 0 k :=
      valR_congr n _ _ _ fun j _ => by
        have := digit_hi x n 1 j
        rw [Nat.mul_one] at this
        simp only [Nat.zero_add]
        exact this.symm
    rw [e1, valR_digit n k (x / 2 ^ n) (by have := hi_lt x n 1 k (by rw [Nat.add_comm]; exact h); rwa [Nat.mul_one] at this)]
    have e2 : digit x n 0 = x % 2 ^ n := by unfold digit; simp
    rw [e2, Nat.add_comm]
    exact Nat.div_add_mod x (2 ^ n)
theorem dvq_len (b n : Nat) : ∀ (es : List Nat) (r : Nat), (dvq b n r es).length = es.length
  | [], _ => rfl
  | e :: es, r => by rw [dvq, List.length_cons, List.length_cons, dvq_len b n es]
theorem dvq_lt (b n : Nat) (hb : 0 < b) : ∀ (es : List Nat) (r : Nat), r < b → (∀ e ∈ es, e < 2 ^ n) → ∀ q ∈ dvq b n r es, q < 2 ^ n
  | [], _, _, _, _, hq => by cases hq
  | e :: es, r, hr, he, q, hq => by
    rw [dvq] at hq
    rcases List.mem_cons.mp hq with rfl | hq
    · apply Nat.div_lt_of_lt_mul
      have h1 := he e (.head _)
      have h2 : (r + 1) * 2 ^ n ≤ b * 2 ^ n := Nat.mul_le_mul_right _ hr
      rw [Nat.add_mul, Nat.one_mul] at h2
      omega
    · exact dvq_lt b n hb es _ (Nat.mod_lt _ hb) (fun e h => he e (.tail _ h)) q hq
set_option maxRecDepth 100000 in
set_option maxHeartbeats 8000000 in
theorem dmp {u v : TS} (hB : okB u v) {x b : Nat} {t1 t2 : Tok}
   (B : Below A₀ base outer h₀) (F : Fr h₀ L s.heap m) (X : (Mine.hd.heap_39 w.params).In h₀) (C1 : CodeHd h₀ 52 48) (C2 : CodeHd h₀ 59 55) (N : News h₀ L s.heap (TB u v ++ rest)) (T : Top p loose mean mg mb h₀) (hk : cs.kind = .function)
   (hc : Clear rest)
   (hd : dp + 120 < recursionLimit) (hu : un + 2200 < cLine)
   (hx0 : 0 < x) (hx : x < 4096) (hb0 : 8 ≤ b) (hb : b ≤ 64)
   (ret : ∀ u' v' lt t4 t5 h' tk', okB u' v' → (∀ p ∈ rest, NeAll p.1 (TB u v) → NeAll p.1 (TB u' v')) → Fr h₀ L h' m → News h₀ L h' ((lt, { cls := .type "tuple", data := .seq #[.int ((x / b : Nat) : Int) t4, .int ((x % b : Nat) : Int) t5] }) :: (TB u' v' ++ rest)) → Q (.ref lt) { s with heap := h', toks := tk' }) :
   wpAny (model Challenge.rw_pg0224_01.row.prog w) (ktrTop dp un gd cn cs L a ccd cl outer) (call (.ref 67) [.int (x : Int) t1, .int (b : Int) t2]) Q E s := by
  obtain ⟨n, hn⟩ : ∃ n, n = Builtin.Int.intBits (b : Int) := ⟨_, rfl⟩
  have hn1 : n ≤ 7 := by rw [hn]; exact intBits_lt b 7 (by omega)
  have hn0 : 1 ≤ n := by
    rcases Nat.eq_zero_or_pos n with h | h
    · have := lt_two_pow_bits b; rw [← hn, h] at this; simp at this; omega
    · exact h
  refine wpAny_call ?_
  k_dflt (refine' code_def ?k1 ?k2 ?k3 ?k4 ?k5 ?kA ?kF ?kK ?k6 ?k7 ?k8 ?k9 ?kB ?_ ?c2 ?c3 ?c4 ?c5; (case kA => exact rfl); (case kF => exact rfl); (case kK => first | assumption | exact rfl); (case k1 => k_asm); (case k2 => k_asm); (case k3 => k_asm); (case k4 => k_asm); (case k5 => k_asm); (case k6 => k_is); (case k7 => k_is); (case k8 => (first | exact Nat.lt_of_le_of_lt (Nat.le_add_right dp _) hd | (show dp < recursionLimit; omega))); (case k9 => first | exact BindsTo.of_eq rfl | (refine' kp_binds ?kx ?ke; (case kx => k_in); (case ke => exact fun _ => rfl))); (case c5 => decide); (case kB => exact locs rfl); (case c2 => exact rfl); (case c3 => exact rfl); (case c4 => exact rfl); k_whole; intro g' L' h' FG' F' N' B' X' T'; (try dsimp only); (try k_lift B'); (try k_fold))
  have C1' : CodeHd g' 52 48 := C1.keeps FG'.keep
  have C2' : CodeHd g' 59 55 := C2.keeps FG'.keep
  replace F' := fr_gen [("a", .int (x : Int) t1), ("b", .int (b : Int) t2)] F' (by intro p hp; simp only [List.mem_cons, List.not_mem_nil, or_false] at hp; rcases hp with rfl | rfl <;> rfl)
  obtain ⟨m1, F'⟩ := F'
  repeat' (first | (k_unfold; (try dsimp only)) | walk1 | (dsimp only; walk1))
  refine Halt.out ?_
  rw [← hn]
  have hnd : ndig x n < 100 := by
    unfold ndig
    have := intBits_lt x 12 (by omega)
    exact Nat.lt_of_le_of_lt (Nat.div_le_self _ _) (by omega)
  refine i2dB hB B' (by assumption) X' C1' (by assumption) T' rfl hc (by show dp + 1 + 110 < recursionLimit; exact room hd rfl) (by show un + 3 + 2100 < cLine; exact room hu rfl) hn0 (by omega) hnd ?_
  intro u1 la items ds h1 tk1 hB1 hap1 hi hlen hdig hla F1 N1
  try dsimp only
  have hes : ∃ es : List Nat, ds = es.map (fun (e : Nat) => (e : Int)) ∧ es.length = ndig x n ∧ (∀ j, j < ndig x n → es.getD j 0 = digit x n j) := by
    refine ⟨(List.range (ndig x n)).map (fun j => digit x n j), ?_, by simp, ?_⟩
    · apply List.ext_getElem
      · simp [hlen]
      · intro j h1 h2
        have := hdig j (by omega)
        rw [List.getD_eq_getElem?_getD, List.getElem?_eq_getElem h1] at this
        simpa using this
    · intro j hj
      simp [List.getD_eq_getElem?_getD, hj]
  obtain ⟨es, rfl, hesl, hesd⟩ := hes
  have hesb : ∀ e ∈ es.reverse, e < 2 ^ n := by
    intro e he
    rw [List.mem_reverse] at he
    obtain ⟨j, hj, rfl⟩ := List.getElem_of_mem he
    have := hesd j (by omega)
    rw [List.getD_eq_getElem?_getD, List.getElem?_eq_getElem hj] at this
    simp only [Option.getD_some] at this
    rw [this]; exact Nat.mod_lt _ (Nat.pow_pos (by decide))
  have hnum : numHL n 0 es.reverse = x := by
    rw [numHL_rev, hesl]
    have := valR_digit n (ndig x n) x (ndig_pow x n hn0)
    refine Eq.trans (valR_congr n _ _ _ fun j hj => ?_) this
    rw [Nat.zero_add]; exact hesd j hj
  have hir : ∀ {vs : List Value} {ns : List Int}, IntsAre vs ns → IntsAre vs.reverse ns.reverse := by
    intro vs ns h
    induction h with
    | nil => exact .nil
    | cons i t h ih => rw [List.reverse_cons, List.reverse_cons]; exact IntsAre.append ih (.cons i t .nil)
  have hi2 := hir hi
  rw [← List.map_reverse] at hi2
  repeat' (first | (k_unfold; (try dsimp only)) | walk1 | (dsimp only; walk1))
  refine Halt.out ?_
  rename_i lq hq3 ll hq4 I hq5 FF NN lI
  refine iter_revUnr (I := I) (ax := la) (lo := listOf items.toArray 0) (vs := items) (by rfl) FF NN (offI_of_ne (by k_all)) (by k_mem) (by rfl) (by rfl) ?_
  refine rev_ind (fun ws m2 nw => ∃ (es' : List Nat) (qs : List Value) (qn : List Nat) (r c : Nat) (tr tn tb : Tok), nw = ((lq, listOf qs.toArray c) :: (la, listOf items.toArray 0) :: (TB u1 v ++ rest)) ∧ (∀ p ∈ ([("r", .int (r : Int) tr), ("n", .int (n : Int) tn), ("b", .int (b : Int) tb), ("q_digits", .ref lq)] : List (Str × Value)), m2 p.1 = some p.2) ∧
    IntsAre ws (es'.map fun (e : Nat) => (e : Int)) ∧ (∀ e ∈ es', e < 2 ^ n) ∧ r < b ∧ IntsAre qs (qn.map fun (e : Nat) => (e : Int)) ∧ qn ++ dvq b n r es' = dvq b n 0 es.reverse ∧ dvr b n r es' = dvr b n 0 es.reverse) ?_ ?_ _ _ _ ?_
  · rintro m2 nw h2 tk2 ⟨es', qs, qn, r, c, tr, tn, tb, rfl, hm2, hi3, heb, hrb, hqi, hq, hr⟩ F2 N2
    cases es' with
    | cons e es' => cases hi3
    | nil =>
    clear hi3
    try dsimp only
    obtain ⟨m3, F2⟩ := fr_gen _ F2 hm2
    rw [dvq, List.append_nil] at hq
    rw [dvr] at hr
    have hql : qs.length = qn.length := by rw [hqi.length, List.length_map]
    have hqn : qn.length = ndig x n := by rw [hq, dvq_len, List.length_reverse, hesl]
    have hdn := dv_num b n (by omega) es.reverse 0 0 (by omega)
    rw [Nat.mul_zero, Nat.zero_add, hnum, ← hq, ← hr] at hdn
    have hdv : x / b = numHL n 0 qn ∧ x % b = r := by
      constructor
      · rw [hdn.1, Nat.mul_add_div (by omega), Nat.div_eq_of_lt hdn.2, Nat.add_zero]
      · rw [hdn.1, Nat.mul_add_mod, Nat.mod_eq_of_lt hdn.2]
    repeat' (first | (k_unfold; (try dsimp only)) | walk1 | (dsimp only; walk1))
    refine kl_reverse (its := qs.toArray) (l := qs.reverse) (by k_asm) (by k_asm) (by simp) (by k_upd) (by rw [sizeLine_eq]; simp; omega) ?_
    intro h4 F4 N4
    try dsimp only
    repeat' (first | (k_unfold; (try dsimp only)) | walk1 | (dsimp only; walk1))
    refine Halt.out ?_
    have hqr := hir hqi
    rw [← List.map_reverse] at hqr
    have hqb := dvq_lt b n (by omega) es.reverse 0 (by omega) hesb
    rw [← hq] at hqb
    have hgd : ∀ j, j < qn.length → ∃ h : j < qn.reverse.length, qn.reverse.getD j 0 = qn.reverse[j] ∧ qn.reverse[j] ∈ qn := fun j hj => by
      have h1 : j < qn.reverse.length := by rw [List.length_reverse]; exact hj
      exact ⟨h1, by rw [List.getD_eq_getElem?_getD, List.getElem?_eq_getElem h1]; rfl, List.mem_reverse.mp (List.getElem_mem h1)⟩
    refine d2iB (f := fun j => qn.reverse.getD j 0) (ld := lq) (xs := qs.reverse) (ep := c) (ds := qn.reverse.map fun (e : Nat) => (e : Int)) (rest := (lq, listOf qs.reverse.toArray c) :: rest) hB1 B' (by assumption) X' C2' (cb_drop (by assumption) ?_) (.head _) T' rfl ⟨NeAll.cons ?_ hc.1, NeAll.cons ?_ hc.2⟩ (by show dp + 1 + 110 < recursionLimit; exact room hd rfl) (by show un + 3 + 2100 < cLine; exact room hu rfl) hn0 (by omega) hqr (by simp; omega) ?_ ?_ ?_
    · (repeat' (first | with_reducible exact List.mem_cons_self | with_reducible assumption | with_reducible refine List.mem_cons_of_mem _ ?_ | (with_reducible refine List.mem_append_left _ ?_; with_reducible assumption) | with_reducible refine List.mem_append_right _ ?_ | with_reducible exact sub_nil | with_reducible refine sub_cons ?_ ?_ | with_reducible refine sub_app ?_ ?_ | intro p hp))
    · obtain ⟨ps, hm, _⟩ := tab48_get u1
      exact Ne.symm (NeAll.of_lt ll.2 _ (List.mem_append_left _ (List.mem_append_left _ hm)))
    · obtain ⟨ps, hm, _⟩ := tab55_get v
      exact Ne.symm (NeAll.of_lt ll.2 _ (List.mem_append_left _ (List.mem_append_right _ hm)))
    · intro j hj
      rw [List.length_map, List.length_reverse] at hj
      obtain ⟨h1, h2, h3⟩ := hgd j hj
      simp [List.getD_eq_getElem?_getD, hj]
    · intro j hj
      rw [List.length_map, List.length_reverse] at hj
      obtain ⟨h1, h2, h3⟩ := hgd j hj
      rw [h2]; exact hqb _ h3
    · intro v2 t6 h5 tk5 hB2 hap2 F5 N5
      try dsimp only
      repeat' (first | (k_unfold; (try dsimp only)) | walk1 | (dsimp only; walk1))
      have hval : valR (fun j => qn.reverse.getD j 0) n 0 (qn.reverse.map fun (e : Nat) => (e : Int)).length = x / b := by
        rw [hdv.1, List.length_map, ← numHL_rev, List.reverse_reverse]
      rename News h₀ L _ _ => NN9
      rw [hval] at NN9
      have hrr := hdv.2
      subst hrr
      refine ret u1 v2 _ t6 tr _ _ hB2 (fun p hp h => hap2 p (.tail _ hp) (hap1 p hp h)) (by k_asm) (cb_drop NN9 ?_)
      (repeat' (first | with_reducible exact List.mem_cons_self | with_reducible assumption | with_reducible refine List.mem_cons_of_mem _ ?_ | (with_reducible refine List.mem_append_left _ ?_; with_reducible assumption) | with_reducible refine List.mem_append_right _ ?_ | with_reducible exact sub_nil | with_reducible refine sub_cons ?_ ?_ | with_reducible refine sub_app ?_ ?_ | intro p hp))
  · rintro v1 r1 m2 nw it h2 tk2 ⟨es', qs, qn, r, c, tr, tn, tb, rfl, hm2, hi3, heb, hrb, hqi, hq, hr⟩ hit F2 N2
    cases es' with
    | nil => cases hi3
    | cons e es' =>
    cases hi3 with
    | cons _ te hi3 =>
    obtain ⟨m3, F2⟩ := fr_put [("r", .int (r : Int) tr), ("n", .int (n : Int) tn), ("b", .int (b : Int) tb), ("q_digits", .ref lq)] F2 hm2 (by rfl)
    repeat' (first | (k_unfold; (try dsimp only)) | walk1 | (dsimp only; walk1))
    refine Halt.out ?_
    try dsimp only
    have hrb2 := intBits_lt r 7 (by omega)
    refine PyProof.Rows.lshift_int (Int.natCast_nonneg _) (by omega) ?_
    repeat' (first | (k_unfold; (try dsimp only)) | walk1 | (dsimp only; walk1))
    refine Halt.out ?_
    have hcast : (r : Int) * 2 ^ ((n : Int)).toNat + (e : Int) = ((r * 2 ^ n + e : Nat) : Int) := by rw [Int.toNat_natCast]; simp
    rw [hcast]
    have he2 := heb e (.head _)
    have hp7 : 2 ^ n ≤ 2 ^ 7 := Nat.pow_le_pow_right (by decide) hn1
    have hp8 : r * 2 ^ n ≤ 64 * 2 ^ 7 := Nat.mul_le_mul (by omega) hp7
    refine d21 B' F2 X' N2 T' rfl (by show dp + 1 + 110 < recursionLimit; exact room hd rfl) (by show un + 3 + 2100 < cLine; exact room hu rfl) (by omega) (by omega) (by omega) ?_
    intro lt t4 t5 h3 tk3 hlt F3 N3
    simp only [AllLt] at hlt
    try dsimp only
    repeat' (first | (k_unfold; (try dsimp only)) | walk1 | (dsimp only; walk1))
    have hlens := congrArg List.length hq
    rw [List.length_append, dvq_len, dvq_len, List.length_reverse, List.length_cons] at hlens
    have hql : qs.length = qn.length := by rw [hqi.length, List.length_map]
    refine append_K (by k_asm) (by k_asm) (by k_upd) ?_ (by rw [List.size_toArray, sizeLine_eq]; omega)
    intro h4 F4 N4
    simp only [List.push_toArray] at N4
    try dsimp only
    repeat' (first | (k_unfold; (try dsimp only)) | walk1 | (dsimp only; walk1))
    refine UnrEnd.intro (by k_asm) (by k_asm) ((lq, listOf (qs ++ [Value.int (((r * 2 ^ n + e) / b : Nat) : Int) t4]).toArray (c + 1)) :: (la, listOf items.toArray 0) :: (TB u1 v ++ rest)) (by walk_at "mine sub") (by refine NeAll.cons ?_ (NeAll.cons ?_ (by k_all)) <;> (try dsimp only) <;> omega) ⟨by k_mem, es', _, qn ++ [(r * 2 ^ n + e) / b], (r * 2 ^ n + e) % b, c + 1, t5, tn, tb, rfl, ?_, hi3, fun e' he' => heb e' (.tail _ he'), Nat.mod_lt _ (by omega), ?_, ?_, ?_⟩
    · intro p hp; simp only [List.mem_cons, List.not_mem_nil, or_false] at hp; rcases hp with rfl | rfl | rfl | rfl <;> rfl
    · rw [List.map_append]; exact IntsAre.append hqi (.cons _ _ .nil)
    · rw [List.append_assoc]; exact hq
    · exact hr
  · exact ⟨es.reverse, [], [], 0, 0, _, _, _, rfl, by intro p hp; simp only [List.mem_cons, List.not_mem_nil, or_false] at hp; rcases hp with rfl | rfl | rfl | rfl <;> first | rfl | (rw [hn]; rfl), hi2, hesb, by (first | lia | omega), .nil, rfl, rfl⟩
set_option maxRecDepth 100000 in
set_option maxHeartbeats 8000000 in
theorem idm {u v : TS} (hB : okB u v) {x b : Nat} {t1 t2 : Tok}
   (B : Below A₀ base outer h₀) (F : Fr h₀ L s.heap m) (X : (Mine.hd.heap_39 w.params).In h₀) (C1 : CodeHd h₀ 52 48) (C2 : CodeHd h₀ 59 55) (N : News h₀ L s.heap (TB u v ++ rest)) (T : Top p loose mean mg mb h₀) (hk : cs.kind = .function)
   (hc : Clear rest)
   (hd : dp + 130 < recursionLimit) (hu : un + 2300 < cLine)
   (hx0 : 0 < x) (hx : x < 4096) (hb0 : 8 ≤ b) (hb : b ≤ 64)
   (ret : ∀ u' v' lt t4 t5 h' tk', okB u' v' → (∀ p ∈ rest, NeAll p.1 (TB u v) → NeAll p.1 (TB u' v')) → Fr h₀ L h' m → News h₀ L h' ((lt, { cls := .type "tuple", data := .seq #[.int ((x / b : Nat) : Int) t4, .int ((x % b : Nat) : Int) t5] }) :: (TB u' v' ++ rest)) → Q (.ref lt) { s with heap := h', toks := tk' }) :
   wpAny (model Challenge.rw_pg0224_01.row.prog w) (ktrTop dp un gd cn cs L a ccd cl outer) (call (.ref 74) [.int (x : Int) t1, .int (b : Int) t2]) Q E s := by
  refine wpAny_call ?_
  k_dflt (refine' code_def ?k1 ?k2 ?k3 ?k4 ?k5 ?kA ?kF ?kK ?k6 ?k7 ?k8 ?k9 ?kB ?_ ?c2 ?c3 ?c4 ?c5; (case kA => exact rfl); (case kF => exact rfl); (case kK => first | assumption | exact rfl); (case k1 => k_asm); (case k2 => k_asm); (case k3 => k_asm); (case k4 => k_asm); (case k5 => k_asm); (case k6 => k_is); (case k7 => k_is); (case k8 => (first | exact Nat.lt_of_le_of_lt (Nat.le_add_right dp _) hd | (show dp < recursionLimit; omega))); (case k9 => first | exact BindsTo.of_eq rfl | (refine' kp_binds ?kx ?ke; (case kx => k_in); (case ke => exact fun _ => rfl))); (case c5 => decide); (case kB => exact locs rfl); (case c2 => exact rfl); (case c3 => exact rfl); (case c4 => exact rfl); k_whole; intro g' L' h' FG' F' N' B' X' T'; (try dsimp only); (try k_lift B'); (try k_fold))
  have C1' : CodeHd g' 52 48 := C1.keeps FG'.keep
  have C2' : CodeHd g' 59 55 := C2.keeps FG'.keep
  replace F' := fr_gen [("a", .int (x : Int) t1), ("b", .int (b : Int) t2)] F' (by intro p hp; simp only [List.mem_cons, List.not_mem_nil, or_false] at hp; rcases hp with rfl | rfl <;> rfl)
  obtain ⟨m1, F'⟩ := F'
  repeat' (first | (k_unfold; (try dsimp only)) | walk1 | (dsimp only; walk1))
  · exfalso; (first | lia | omega)
  refine Halt.out ?_
  refine dmp hB B' (by assumption) X' C1' C2' (by assumption) T' rfl hc (by show dp + 1 + 120 < recursionLimit; exact room hd rfl) (by show un + 3 + 2200 < cLine; exact room hu rfl) hx0 hx hb0 hb ?_
  intro u' v' lt t4 t5 h1 tk1 hB' hap F1 N1
  try dsimp only
  repeat' (first | (k_unfold; (try dsimp only)) | walk1 | (dsimp only; walk1))
  exact ret _ _ _ _ _ _ _ hB' hap (by k_asm) (by k_asm)
theorem allObj_mono {k k' : List (Addr × Obj) → Prop} (h : ∀ its, k its → k' its) : ∀ {ws : List (Addr × String)}, AllObj ws k → AllObj ws k'
  | [], a => h _ a
  | _ :: _, a => fun o ho => allObj_mono (k := fun its => k (_ :: its)) (k' := fun its => k' (_ :: its)) (fun its q => h _ q) (a o ho)
theorem allObj_mono' {ws : List (Addr × String)} : ∀ {k k' : List (Addr × Obj) → Prop}, (∀ its, k its → k' its) → AllObj ws k → AllObj ws k' := fun h a => allObj_mono h a
section
variable {prog : Program} {A : Around} {env : Env} {target : PySem.Expr} {body : List Stmt} {QF : Flow → Shared → Prop} {EE : Value → Shared → Prop}
theorem unrW_mono {L : Addr} {s₁ : Shared} {its : List (Addr × Obj)} {r1 r2 : (Str → Option Value) → List (Addr × Obj) → Prop} {Q1 : Flow → Shared → Prop} {f : Flow} {s₂ : Shared}
    (h : ∀ m n, r1 m n → r2 m n) (k : UnrPostW h₀ L s₁ its r1 Q1 f s₂) : UnrPostW h₀ L s₁ its r2 Q1 f s₂ := by
  cases f with
  | ret v => exact k
  | brk => exact k
  | next => obtain ⟨h', tk, m', n', a, b, c, d, e⟩ := k; exact ⟨h', tk, m', n', a, b, c, d, h _ _ e⟩
  | cont => obtain ⟨h', tk, m', n', a, b, c, d, e⟩ := k; exact ⟨h', tk, m', n', a, b, c, d, h _ _ e⟩
theorem items_ind {ws : List (Addr × String)} {keep : List (Addr × Obj)} (P : List Itm → (Str → Option Value) → List (Addr × Obj) → Prop)
    (hz : ∀ m news h tk, P [] m news → Fr h₀ env.locals h m → News h₀ env.locals h news → QF .next { s with heap := h, toks := tk })
    (hs : ∀ a r m news v h tk, P (a :: r) m news → a.Is v h → Fr h₀ env.locals h m → AllObj ws (fun its => News h₀ env.locals h (its ++ news) →
      wpAny (model prog w) A (assign target env v) (fun _ s₂ => wpAny (model prog w) A (execs body env) (UnrPostW h₀ env.locals { s with heap := h, toks := tk } its (fun m' n' => SubL keep n' ∧ P r m' n') QF) EE s₂) EE { s with heap := h, toks := tk })) :
    ∀ xs m news, P xs m news → ItemsRest prog w A EE h₀ env target body QF s ws keep xs m news := by
  intro xs
  induction xs with
  | nil => exact fun m news hP h tk F N => hz m news h tk hP F N
  | cons a r ih =>
    intro m news hP v h tk hv F
    refine allObj_mono' (fun its q N => ?_) (hs a r m news v h tk hP hv F)
    exact wpAny_mono (q N) (fun _ s₂ k => wpAny_mono k (fun f s₃ k' => unrW_mono (fun m' n' q' => ⟨q'.1, ih m' n' q'.2⟩) k') fun _ _ e => e) fun _ _ e => e
end
section
variable {prog : Program} {A : Around} {env : Env} {elt : PySem.Expr} {x : Str} {scope : Scope} {cl2 : List (Str × Addr)} {S : List (Addr × Obj) → Prop} {P : Nat → Value → Prop} {Fin : List Value → List (Addr × Obj) → Prop} {news : List (Addr × Obj)} {n : Nat}
theorem comp_ind (P' : Nat → List Value → List (Addr × Obj) → Prop)
    (hz : ∀ ys news, P' n ys news → Fin ys news)
    (hs : ∀ i v ys news I oI C oC D m₂ h tk (E' : Value → Shared → Prop), i < n → P' i ys news → P i v → LCg.NsObj oC m₂ → m₂ x = some v → Fr h₀ L h m → News h₀ L h ((I, oI) :: (C, oC) :: (D, LCg.lst ys) :: news) → LCg.Off3 I C D news → ((@Ne Nat I C) ∧ (@Ne Nat I D) ∧ (@Ne Nat C D)) →
      wpAny (model prog w) A (eval elt (compEnvC scope cl2 C env)) (LCg.CompEnd h₀ L m { s with heap := h, toks := tk } I oI C oC D (LCg.lst ys) S (fun y news' => P' (i + 1) (ys ++ [y]) news')) E' { s with heap := h, toks := tk })
    (h0 : P' 0 [] news) : LCg.CompRest prog w A h₀ L m env elt x scope cl2 s S P Fin n 0 [] news := by
  have key : ∀ (j i : Nat) (ys : List Value) (news : List (Addr × Obj)), i + j = n → P' i ys news → LCg.CompRest prog w A h₀ L m env elt x scope cl2 s S P Fin j i ys news := by
    intro j
    induction j with
    | zero =>
      intro i ys news hi hy
      have e : i = n := by (first | lia | omega)
      subst e
      exact LCg.CompRest.zero (hz ys news hy)
    | succ j ih =>
      intro i ys news hi hy
      refine LCg.CompRest.succ ?_
      intro v I oI C oC D m₂ h tk E' hv hC hx F N off ne
      refine wpAny_mono (hs i v ys news I oI C oC D m₂ h tk E' (by (first | lia | omega)) hy hv hC hx F N off ne) (fun y s₂ hq => ?_) fun _ _ e => e
      obtain ⟨h', tk', nw, e, F', N', off', hS, hp⟩ := hq
      exact ⟨h', tk', nw, e, F', N', off', hS, ih (i + 1) _ _ (by (first | lia | omega)) hp⟩
  exact key n 0 [] news (by (first | lia | omega)) h0
end
theorem strs_snoc {y : Str} {t : Tok} {vs : List Value} {ys : List Str} (h : StrsAre vs ys) : StrsAre (vs ++ [.str y t]) (ys ++ [y]) := by
  induction h with
  | nil => exact .cons y t .nil
  | cons z u r ih => exact .cons z u ih
theorem take_snoc {α : Type} (l : List α) (i : Nat) (x : α) (h : l[i]? = some x) : l.take (i + 1) = l.take i ++ [x] := by
  rw [List.take_add_one, h]; rfl
def sFor : Stmt → List Stmt
  | .For _ _ b _ _ => b
  | _ => []
def lwDef : Stmt := nthS PySem.Challenge.pw_pg0224_01.main.body 15
def lwTail : Stmt := nthS (sFor (nthS (sBody lwDef) 1)) 5
def bitStr (bits : List Nat) : Str := ⟨(bits.map (48 + ·)).toArray⟩
theorem join_bits (l : List Nat) : PySem.Txt.join (Str.ofString "") (l.map fun b => bitStr [b]) = bitStr l := by
  show Builtin.Str.glued _ _ = _
  rw [StrLaws.glued_eq_join, show Str.ofString "" = (⟨#[]⟩ : Str) from by decide +kernel]
  induction l with
  | nil => rfl
  | cons b r ih =>
    rw [List.map_cons, join_nil_cons, ih]
    show (⟨(bitStr [b]).cps ++ (bitStr r).cps⟩ : Str) = bitStr (b :: r)
    have e : (bitStr [b]).cps ++ (bitStr r).cps = (bitStr (b :: r)).cps := by
      unfold bitStr
      simp
    rw [e]
theorem str_bit (b : Nat) (h : b ≤ 1) : Str.ofString (toString (b : Int)) = bitStr [b] := by
  match b, h with
  | 0, _ => decide +kernel
  | 1, _ => decide +kernel
set_option maxRecDepth 100000 in
set_option maxHeartbeats 8000000 in
theorem lw_tail {stmt : Stmt} {scope : Scope} (hst : stmt = lwTail) (hsc : scope = sScope lwDef) {g' : Heap} {L' : Addr} {m2 : Str → Option Value} {Df lq j : Nat} {wsf qs : List Value} {bits : List Nat} {QF : Flow → Shared → Prop} {EE : Value → Shared → Prop}
   (X : (Mine.hd.heap_39 w.params).In g') (T : Top p loose mean mg mb g') (F : Fr g' L' s.heap m2) (hm : ∀ p ∈ ([("figures", .ref Df), ("words", .ref lq)] : List (Str × Value)), m2 p.1 = some p.2)
   (N : News g' L' s.heap ((Df, listOf wsf.toArray 0) :: (lq, listOf qs.toArray j) :: rest)) (hI : IntsAre wsf (bits.map fun (e : Nat) => (e : Int))) (hb : ∀ b ∈ bits, b ≤ 1) (hbl : bits.length ≤ 100) (hql : qs.length ≤ 100) (hne : NeAll lq rest) (hdf : Df ≠ lq)
   (ret : ∀ (h' : Heap) (tk' : Nat) (t : Tok), Fr g' L' h' m2 → News g' L' h' ((lq, listOf (qs ++ [Value.str (bitStr bits.reverse) t]).toArray (j + 1)) :: rest) → QF .next { s with heap := h', toks := tk' }) :
   wpAny (model Challenge.rw_pg0224_01.row.prog w) ((ktrTop dp un gd cn cs L a ccd cl outer).deeper (envOf (Str.ofString "_law_words") scope L' 86 (.ref 85))) (exec stmt (envOf (Str.ofString "_law_words") scope L' 86 (.ref 85))) QF EE s := by
  conv at hst => rhs; whnf
  conv at hsc => rhs; whnf
  subst hst hsc
  have F0 := F
  replace F := fr_as _ F hm
  have em : kstB m2 ([("figures", .ref Df), ("words", .ref lq)] : List (Str × Value)) = m2 := funext fun y => kstB_eq hm fun _ => rfl
  repeat' (first | (k_unfold; (try dsimp only)) | walk1 | (dsimp only; walk1))
  refine Halt.out ?_
  k_dflt (refine LCg.ListComp_U (F₀ := by k_asm) (by with_unfolding_all rfl) (by decide) (by rfl) (by decide) (by rfl) ?_)
  repeat' (first | (k_unfold; (try dsimp only)) | walk1 | (dsimp only; walk1))
  refine Halt.out ?_
  rename_i Dr vr hqr FFr NNr hIr hCr lr
  rw [← List.map_reverse] at hIr
  have hvl : vr.length = bits.length := by rw [hIr.length, List.length_map, List.length_reverse]
  refine LCg.CompSrc.ledger (by rfl) FFr NNr (.head _) (by rw [sizeLine_eq]; simp; (first | lia | omega)) ?_
  intro gheap
  try dsimp only
  have hoff : ∀ (i : Nat) (fv : Value), vr.toArray[i]? = some fv → ∃ b t, bits.reverse[i]? = some b ∧ fv = .int (b : Int) t ∧ b ≤ 1 := by
    intro i fv h
    obtain ⟨k, t, e, hk⟩ := IntsAre.at hIr i fv (by simpa using h)
    rw [List.getElem?_map] at hk
    cases hbi : bits.reverse[i]? with
    | none => rw [hbi] at hk; cases hk
    | some b =>
      rw [hbi] at hk
      have : k = (b : Int) := (Option.some.inj hk).symm
      subst this
      exact ⟨b, t, rfl, e, hb b (List.mem_reverse.mp (List.mem_of_getElem? hbi))⟩
  refine comp_ind (fun i ys nw => nw = _ ∧ StrsAre ys ((bits.reverse.take i).map fun b => bitStr [b])) ?_ ?_ ⟨rfl, .nil⟩
  · rintro ys nw ⟨rfl, hys⟩
    intro D h6 tk6 F6 N6 off6
    try dsimp only
    repeat' (first | (k_unfold; (try dsimp only)) | walk1 | (dsimp only; walk1))
    refine KT.join_B 1 (l := bits.reverse.take vr.toArray.size) (g := fun b => bitStr [b]) (News.isList N6 (.head _)) ?_ (by intro a _; exact Nat.le_of_eq rfl) (by simp; (first | lia | omega)) (by decide) ?_
    · have := hys.carried
      rw [List.map_map] at this
      exact this
    intro t6 k6
    have htk : bits.reverse.take vr.toArray.size = bits.reverse := List.take_of_length_le (by simp; (first | lia | omega))
    rw [htk, join_bits]
    try dsimp only
    repeat' (first | (k_unfold; (try dsimp only)) | walk1 | (dsimp only; walk1))
    rw [em] at F6
    have N7 : News g' L' h6 ((lq, listOf qs.toArray j) :: rest) := cb_drop N6 fun p hp => .tail _ (.tail _ (.tail _ hp))
    refine append_K F6 N7 (Upd.head hne) ?_ (by rw [sizeLine_eq]; simp; (first | lia | omega))
    · intro h7 F7 N7
      exact ret _ _ _ F7 (by simpa using N7)
  · rintro i fv ys nw Ic oIc Cc oCc Dc mc hc6 tkc Ec hin ⟨rfl, hys⟩ hPv hNs hmc Fc Nc offc nec
    obtain ⟨b, tb, hbi, rfl, hb1⟩ := hoff i fv hPv
    repeat' (first | (k_unfold; (try dsimp only)) | walk1 | (dsimp only; walk1))
    refine LCg.CompEnd.intro Fc Nc _ (fun p hp => hp) offc (.inr ⟨_, .head _, rfl, _, rfl⟩) ⟨rfl, ?_⟩
    rw [take_snoc _ _ _ hbi, List.map_append, str_bit b hb1]
    exact strs_snoc hys
theorem ne_TB {h₀ h : Heap} {L : Addr} {led : List (Addr × Obj)} {u v : TS} {d : Nat} {o : Obj} {xs : Array Value} {e : Nat} (N : News h₀ L h led) (hB : okB u v) (hm : (d, o) ∈ led) (hd : o.data = .seq xs e) (hs : ∀ p ∈ TB u v, p ∈ led) : NeAll d (TB u v) := by
  have key : ∀ p ∈ TB u v, ∃ fs, p.2.data = .fields fs := by
    intro p hp
    rcases List.mem_append.mp hp with hp | hp
    · cases u with
      | empty => simp only [T48, List.mem_cons, List.not_mem_nil, or_false] at hp; subst hp; exact ⟨_, rfl⟩
      | made c oc vs t =>
        simp only [T48, List.mem_cons, List.not_mem_nil, or_false] at hp
        rcases hp with rfl | rfl
        · exact ⟨_, rfl⟩
        · exact ⟨_, hB.1.1⟩
    · cases v with
      | empty => simp only [T55, List.mem_cons, List.not_mem_nil, or_false] at hp; subst hp; exact ⟨_, rfl⟩
      | made c oc vs t =>
        simp only [T55, List.mem_cons, List.not_mem_nil, or_false] at hp
        rcases hp with rfl | rfl
        · exact ⟨_, rfl⟩
        · exact ⟨_, hB.2.1⟩
  intro p hp
  refine News.ne N (hs p hp) hm fun e => ?_
  obtain ⟨fs, h⟩ := key p hp
  rw [e, hd] at h
  cases h
theorem TB_48 (u v : TS) : ∃ o, (48, o) ∈ TB u v := let ⟨_, h, _⟩ := tab48_get u; ⟨_, List.mem_append_left _ h⟩
theorem TB_55 (u v : TS) : ∃ o, (55, o) ∈ TB u v := let ⟨_, h, _⟩ := tab55_get v; ⟨_, List.mem_append_right _ h⟩
theorem clear_cons {d : Nat} {o : Obj} {u v : TS} {r : List (Addr × Obj)} (h : NeAll d (TB u v)) (hr : Clear r) : Clear ((d, o) :: r) := by
  obtain ⟨_, h1⟩ := TB_48 u v
  obtain ⟨_, h2⟩ := TB_55 u v
  exact ⟨NeAll.cons (Ne.symm (h _ h1)) hr.1, NeAll.cons (Ne.symm (h _ h2)) hr.2⟩
theorem tb_lt {d : Nat} {u v : TS} {r : List (Addr × Obj)} (h : AllLt d (TB u v ++ r)) : 48 < d ∧ 55 < d := by
  obtain ⟨p1, h1, _⟩ := tab48_get u
  obtain ⟨p2, h2, _⟩ := tab55_get v
  exact ⟨allLt_mem h _ (List.mem_append_left _ (List.mem_append_left _ h1)), allLt_mem h _ (List.mem_append_left _ (List.mem_append_right _ h2))⟩
theorem take_sum_le : ∀ (ws : List Nat) (j : Nat), j < ws.length → (ws.take j).sum + ws.getD j 0 ≤ ws.sum
  | [], j, h => by cases h
  | a :: r, 0, _ => by simp
  | a :: r, j + 1, h => by
    have := take_sum_le r j (by simpa using h)
    simp only [List.take_succ_cons, List.sum_cons, List.getD_cons_succ]
    (first | lia | omega)
theorem ints_drop {vs : List Value} {ns : List Int} (h : IntsAre vs ns) : ∀ j : Nat, j < ns.length → ∃ tw, vs.drop j = .int (ns.getD j 0) tw :: vs.drop (j + 1) := by
  induction h with
  | nil => intro j hj; cases hj
  | cons i t h ih =>
    intro j hj
    cases j with
    | zero => exact ⟨t, rfl⟩
    | succ j =>
      obtain ⟨tw, e⟩ := ih j (by simpa using hj)
      refine ⟨tw, ?_⟩
      rw [List.drop_succ_cons, e]
      simp
theorem sum_cast (l : List Nat) : (l.map fun (e : Nat) => (e : Int)).sum = (l.sum : Int) := by
  induction l with
  | nil => rfl
  | cons a l ih => simp [ih]
theorem sum_le8 (l : List Nat) (h : ∀ e ∈ l, 1 ≤ e ∧ e ≤ 8) : l.length ≤ l.sum ∧ l.sum ≤ 8 * l.length := by
  induction l with
  | nil => simp
  | cons a l ih =>
    have h1 := h a (.head _)
    have h2 := ih fun e he => h e (.tail _ he)
    simp only [List.length_cons, List.sum_cons]
    (first | lia | omega)
def wordBits (q sz : Nat) : List Nat := (List.range sz).map fun i => q / 2 ^ i % 2
def wordOf (ws : List Nat) (k sz : Nat) : Str := bitStr (wordBits ((2 * (ws.take k).sum + ws.getD k 0) * 2 ^ sz / (2 * ws.sum)) sz).reverse
def GoodWord (ws : List Nat) (k : Nat) (W : Str) : Prop := ∃ sz, 2 ≤ sz ∧ sz ≤ 6 ∧ ws.sum ≤ ws.getD k 0 * 2 ^ (sz - 1) ∧ W = wordOf ws k sz
theorem bits_eq {ds : List Int} {q sz : Nat} (hl : ds.length = ndig q 1) (hd : ∀ j, j < ndig q 1 → ds.getD j 0 = (digit q 1 j : Int)) (hle : ndig q 1 ≤ sz) :
    ds ++ (List.replicate ((sz : Int) - (ds.length : Int)).toNat [(0 : Int)]).flatten = (wordBits q sz).map fun (e : Nat) => (e : Int) := by
  have hp := ndig_pow q 1 (by decide)
  rw [Nat.one_mul] at hp
  have hn : ((sz : Int) - (ds.length : Int)).toNat = sz - ds.length := by (first | lia | omega)
  rw [hn, List.flatten_replicate_singleton]
  apply List.ext_getElem?
  intro i
  unfold wordBits
  rw [List.getElem?_append, List.map_map, List.getElem?_map]
  by_cases h1 : i < ds.length
  · rw [if_pos h1, List.getElem?_eq_getElem h1, List.getElem?_range (by (first | lia | omega))]
    have := hd i (by (first | lia | omega))
    rw [List.getD_eq_getElem?_getD, List.getElem?_eq_getElem h1] at this
    simp only [Option.getD_some] at this
    rw [this]
    simp [digit]
  · rw [if_neg h1, List.getElem?_replicate]
    by_cases h2 : i < sz
    · rw [if_pos (by (first | lia | omega)), List.getElem?_range h2]
      have h3 : q / 2 ^ i = 0 := Nat.div_eq_of_lt (Nat.lt_of_lt_of_le hp (Nat.pow_le_pow_right (by decide) (by (first | lia | omega))))
      simp [h3]
    · rw [if_neg (by (first | lia | omega)), List.getElem?_eq_none (by simpa using h2)]
      rfl
theorem wordBits_le {q sz : Nat} : ∀ b ∈ wordBits q sz, b ≤ 1 := by
  intro b hb
  obtain ⟨i, _, rfl⟩ := List.mem_map.mp hb
  (first | lia | omega)
theorem wordBits_len {q sz : Nat} : (wordBits q sz).length = sz := by simp [wordBits]
set_option maxRecDepth 100000 in
set_option maxHeartbeats 8000000 in
theorem lawWords {u v : TS} (hB : okB u v) {lw ep : Nat} {vs : List Value} {ws : List Nat}
   (B : Below A₀ base outer h₀) (F : Fr h₀ L s.heap m) (X : (Mine.hd.heap_39 w.params).In h₀) (C1 : CodeHd h₀ 52 48) (C2 : CodeHd h₀ 59 55) (N : News h₀ L s.heap (TB u v ++ rest)) (T : Top p loose mean mg mb h₀) (hk : cs.kind = .function)
   (hc : Clear rest) (hlwne : NeAll lw (TB u v)) (hlw : (lw, listOf vs.toArray ep) ∈ rest)
   (hd : dp + 150 < recursionLimit) (hu : un + 2500 < cLine)
   (hi : IntsAre vs (ws.map fun (e : Nat) => (e : Int))) (hwl : ws.length = 4) (hwb : ∀ e ∈ ws, 1 ≤ e ∧ e ≤ 8)
   (ret : ∀ u' v' (la : Nat) qs Ws h' tk', okB u' v' → StrsAre qs Ws → Ws.length = 4 → (∀ k W, Ws[k]? = some W → GoodWord ws k W) → NeAll la (TB u' v' ++ rest) → NeAll lw (TB u' v') → Fr h₀ L h' m → News h₀ L h' ((la, listOf qs.toArray 4) :: (TB u' v' ++ rest)) → Q (.ref la) { s with heap := h', toks := tk' }) :
   wpAny (model Challenge.rw_pg0224_01.row.prog w) (ktrTop dp un gd cn cs L a ccd cl outer) (call (.ref 86) [.ref lw]) Q E s := by
  refine wpAny_call ?_
  k_dflt (refine' code_def ?k1 ?k2 ?k3 ?k4 ?k5 ?kA ?kF ?kK ?k6 ?k7 ?k8 ?k9 ?kB ?_ ?c2 ?c3 ?c4 ?c5; (case kA => exact rfl); (case kF => exact rfl); (case kK => first | assumption | exact rfl); (case k1 => k_asm); (case k2 => k_asm); (case k3 => k_asm); (case k4 => k_asm); (case k5 => k_asm); (case k6 => k_is); (case k7 => k_is); (case k8 => (first | exact Nat.lt_of_le_of_lt (Nat.le_add_right dp _) hd | (show dp < recursionLimit; omega))); (case k9 => first | exact BindsTo.of_eq rfl | (refine' kp_binds ?kx ?ke; (case kx => k_in); (case ke => exact fun _ => rfl))); (case c5 => decide); (case kB => exact locs rfl); (case c2 => exact rfl); (case c3 => exact rfl); (case c4 => exact rfl); k_whole; intro g' L' h' FG' F' N' B' X' T'; (try dsimp only); (try k_lift B'); (try k_fold))
  have C1' : CodeHd g' 52 48 := C1.keeps FG'.keep
  have C2' : CodeHd g' 59 55 := C2.keeps FG'.keep
  replace F' := fr_gen [("weights", .ref lw)] F' (by intro p hp; simp only [List.mem_cons, List.not_mem_nil, or_false] at hp; rcases hp with rfl; rfl)
  obtain ⟨m1, F'⟩ := F'
  replace N' : News g' L' h' ((lw, listOf vs.toArray ep) :: (TB u v ++ rest)) := cb_drop N' fun p hp => by
    rcases List.mem_cons.mp hp with rfl | hp
    · exact List.mem_append_right _ hlw
    · exact hp
  repeat' (first | (k_unfold; (try dsimp only)) | walk1 | (dsimp only; walk1))
  refine Halt.out ?_
  rename_i lq hq1 ll hq2 FF NN
  refine For_turns FF ?_
  repeat' (first | (k_unfold; (try dsimp only)) | walk1 | (dsimp only; walk1))
  refine ktu_enum (lo := listOf vs.toArray ep) (vs := vs) (by rfl) (by assumption) (by assumption) (by k_mem) (by rfl) (by rfl) rfl ?_
  intro I lI
  k_lt lI
  refine items_ind (fun xs m2 nw => ∃ (j : Nat) (u1 v1 : TS) (qs : List Value) (Ws : List Str), xs = enumItems j (vs.drop j) ∧ j ≤ 4 ∧ StrsAre qs Ws ∧ Ws.length = j ∧ (∀ k W, Ws[k]? = some W → GoodWord ws k W) ∧ okB u1 v1 ∧ (NeAll lq (TB u1 v1) ∧ NeAll lw (TB u1 v1) ∧ NeAll I (TB u1 v1) ∧ NeAll (I + 1) (TB u1 v1)) ∧ nw = ((lq, listOf qs.toArray j) :: (lw, listOf vs.toArray ep) :: (TB u1 v1 ++ rest)) ∧ (∀ p ∈ ([("words", .ref lq), ("weights", .ref lw)] : List (Str × Value)), m2 p.1 = some p.2)) ?_ ?_ _ _ _ ?_
  · rintro m2 nw h2 tk2 ⟨j, u1, v1, qs, Ws, hxs, hj5, hqs, hWl, hWg, hB1, ⟨hn1, hn2, hn3, hn4⟩, rfl, hm2⟩ F2 N2
    have hj4 : j = 4 := by
      rcases Nat.lt_or_ge j 4 with h | h
      · obtain ⟨tw, hdj⟩ := ints_drop hi j (by rw [List.length_map]; (first | lia | omega))
        rw [hdj] at hxs
        cases hxs
      · (first | lia | omega)
    subst hj4
    obtain ⟨m3, F2⟩ := fr_gen _ F2 hm2
    try dsimp only
    repeat' (first | (k_unfold; (try dsimp only)) | walk1 | (dsimp only; walk1))
    rename_i kF kN _ _
    exact ret u1 v1 lq qs Ws _ _ hB1 hqs hWl hWg (NeAll.append hn1 fun q hq => NeAll.of_lt ll.2 q (List.mem_append_right _ hq)) hn2 kF (cb_drop kN fun p hp => by
      rcases List.mem_cons.mp hp with rfl | hp
      · exact .head _
      · exact .tail _ (.tail _ hp))
  · rintro a1 r1 m2 nw v1 h2 tk2 ⟨j, u1, v1, qs, Ws, hxs, hj5, hqs, hWl, hWg, hB1, ⟨hn1, hn2, hn3, hn4⟩, rfl, hm2⟩ hv F2
    have hj4 : j < 4 := by
      rcases Nat.lt_or_ge j 4 with h | h
      · exact h
      · rw [List.drop_eq_nil_of_le (by rw [hi.length, List.length_map]; (first | lia | omega))] at hxs; cases hxs
    obtain ⟨tw, hdj⟩ := ints_drop hi j (by rw [List.length_map]; (first | lia | omega))
    rw [hdj] at hxs
    obtain ⟨wj, hwj⟩ : ∃ wj : Nat, wj = ws.getD j 0 := ⟨_, rfl⟩
    have hwj2 : (ws.map fun (e : Nat) => (e : Int)).getD j 0 = (wj : Int) := by
      rw [hwj]; simp only [List.getD_eq_getElem?_getD, List.getElem?_map]
      rw [List.getElem?_eq_getElem (by (first | lia | omega))]; rfl
    rw [hwj2] at hxs
    simp only [enumItems, List.cons.injEq] at hxs
    obtain ⟨rfl, rfl⟩ := hxs
    have hwjb : 1 ≤ wj ∧ wj ≤ 8 := hwb wj (by
      rw [hwj, List.getD_eq_getElem?_getD, List.getElem?_eq_getElem (by (first | lia | omega))]; exact List.getElem_mem _)
    obtain ⟨S, hS⟩ : ∃ S : Nat, S = ws.sum := ⟨_, rfl⟩
    have hSb := sum_le8 ws hwb
    have hSc := sum_cast ws
    rw [← hS] at hSb hSc
    obtain ⟨Tt, tt, rfl, hTt⟩ := hv
    refine AllObj.cons (fun oE hE => AllObj.cons (fun oI hI => AllObj.nil (fun N2 => ?_)))
    simp only [List.cons_append, List.nil_append] at N2
    obtain ⟨m3, F2⟩ := fr_gen _ F2 hm2
    repeat' (first | (k_unfold; (try dsimp only)) | walk1 | (dsimp only; walk1))
    refine Halt.out ?_
    rename_i FF2 NN2
    refine While_inv2 (fun kk m' nw => nw = ((I + 1, oE) :: (I, oI) :: (lq, listOf qs.toArray j) :: (lw, listOf vs.toArray ep) :: (TB u1 v1 ++ rest)) ∧ ∃ (sz : Nat) (tz : Tok), (∀ p ∈ ([("size", .int (sz : Int) tz), ("weight", .int (wj : Int) tw), ("k", .int (j : Int) tt), ("words", .ref lq), ("weights", .ref lw)] : List (Str × Value)), m' p.1 = some p.2) ∧ 2 ≤ sz ∧ sz ≤ 6 ∧ kk = 6 - sz) FF2 NN2
      ⟨rfl, 2, _, by intro p hp; simp only [List.mem_cons, List.not_mem_nil, or_false] at hp; rcases hp with rfl | rfl | rfl | rfl | rfl <;> rfl, by (first | lia | omega), by (first | lia | omega), rfl⟩ ?_
    rintro kk m5 nw h5 tk5 F5 N5 ⟨rfl, sz, tz, hm5, hz1, hz2, rfl⟩
    obtain ⟨m6, F5⟩ := fr_gen _ F5 hm5
    repeat' (first | (k_unfold; (try dsimp only)) | walk1 | (dsimp only; walk1))
    refine Halt.out ?_
    try dsimp only
    have hwbits := intBits_lt wj 4 (by (first | lia | omega))
    refine PyProof.Rows.lshift_int (by (first | lia | omega)) (by (first | lia | omega)) ?_
    have hsh1 : (wj : Int) * 2 ^ ((sz : Int) - 1).toNat = ((wj * 2 ^ (sz - 1) : Nat) : Int) := by
      have : ((sz : Int) - 1).toNat = sz - 1 := by (first | lia | omega)
      rw [this]; simp
    rw [hsh1]
    repeat' (first | (k_unfold; (try dsimp only)) | walk1 | (dsimp only; walk1))
    · rename _ < List.sum _ => htest
      rw [hSc] at htest
      have hlt6 : sz < 6 := by
        rcases Nat.lt_or_ge sz 6 with h | h
        · exact h
        · have : sz = 6 := by (first | lia | omega)
          subst this
          have : wj * 2 ^ (6 - 1) = wj * 32 := rfl
          (first | lia | omega)
      refine ⟨_, _, _, _, _, rfl, by assumption, by assumption, ?_, rfl, sz + 1, _, by intro p hp; simp only [List.mem_cons, List.not_mem_nil, or_false] at hp; rcases hp with rfl | rfl | rfl | rfl | rfl <;> rfl, by (first | lia | omega), by (first | lia | omega), rfl⟩
      (first | lia | omega)
    · rename ¬ (_ < List.sum _) => htest
      rw [hSc] at htest
      rename_i D' ws' hq4 FF4 NN4 hI4 hC4 hL4 lD4 hq5 tq5 tr5 FF5 NN5
      have hszS : S ≤ wj * 2 ^ (sz - 1) := by (first | lia | omega)
      refine Halt.out ?_
      try dsimp only
      obtain ⟨C, hC⟩ : ∃ C : Nat, C = (ws.take j).sum := ⟨_, rfl⟩
      have hC2 : 2 * (List.take ((j : Int)).toNat (ws.map fun (e : Nat) => (e : Int))).sum = ((2 * C : Nat) : Int) := by
        rw [Int.toNat_natCast, ← List.map_take, sum_cast, ← hC]; simp
      have hCS := take_sum_le ws j (by (first | lia | omega))
      rw [← hC, ← hwj, ← hS] at hCS
      refine PyProof.Rows.mul_int ?_ (IntMulOk.of_left (by decide))
      rw [hC2]
      repeat' (first | (k_unfold; (try dsimp only)) | walk1 | (dsimp only; walk1))
      refine Halt.out ?_
      try dsimp only
      obtain ⟨M, hM⟩ : ∃ M : Nat, M = 2 * C + wj := ⟨_, rfl⟩
      have hM2 : ((2 * C : Nat) : Int) + (wj : Int) = (M : Int) := by (first | lia | omega)
      rw [hM2]
      have hMb := intBits_lt M 6 (by (first | lia | omega))
      refine PyProof.Rows.lshift_int (by (first | lia | omega)) (by (first | lia | omega)) ?_
      have hMs : (M : Int) * 2 ^ ((sz : Int)).toNat = ((M * 2 ^ sz : Nat) : Int) := by rw [Int.toNat_natCast]; simp
      rw [hMs]
      repeat' (first | (k_unfold; (try dsimp only)) | walk1 | (dsimp only; walk1))
      refine Halt.out ?_
      try dsimp only
      refine PyProof.Rows.mul_int ?_ (IntMulOk.of_left (by decide))
      have hS2 : 2 * (ws.map fun (e : Nat) => (e : Int)).sum = ((2 * S : Nat) : Int) := by rw [hSc]; simp
      rw [hS2]
      repeat' (first | (k_unfold; (try dsimp only)) | walk1 | (dsimp only; walk1))
      refine Halt.out ?_
      rename_i FF6 NN6
      obtain ⟨m7, F7⟩ := fr_gen [("size", .int (sz : Int) tz), ("weight", .int (wj : Int) tw), ("k", .int (j : Int) tt), ("words", .ref lq), ("weights", .ref lw)] FF6 (by intro p hp; simp only [List.mem_cons, List.not_mem_nil, or_false] at hp; rcases hp with rfl | rfl | rfl | rfl | rfl <;> rfl)
      clear FF6
      have hDn := ne_TB NN6 hB1 (.head _) rfl (fun p hp => by simp only [List.mem_append, List.mem_cons]; simp only [hp, true_or, or_true])
      have hclr1 : Clear ((D', listOf ws'.toArray 0) :: (I + 1, oE) :: (I, oI) :: (lq, listOf qs.toArray j) :: (lw, listOf vs.toArray ep) :: rest) := clear_cons hDn (clear_cons hn4 (clear_cons hn3 (clear_cons hn1 (clear_cons hn2 hc))))
      have hpow6 : 2 ^ sz ≤ 64 := Nat.le_trans (Nat.pow_le_pow_right (by decide) hz2) (by decide)
      have hxlt : M * 2 ^ sz < 4096 := Nat.lt_of_le_of_lt (Nat.mul_le_mul_left M hpow6) (by (first | lia | omega))
      refine idm hB1 (rest := (D', listOf ws'.toArray 0) :: (I + 1, oE) :: (I, oI) :: (lq, listOf qs.toArray j) :: (lw, listOf vs.toArray ep) :: rest) B' F7 X' C1' C2' (cb_drop NN6 ?_) T' rfl hclr1 (by show dp + 1 + 130 < recursionLimit; exact room hd rfl) (by show un + 3 + 2300 < cLine; exact room hu rfl) (Nat.mul_pos (by (first | lia | omega)) (Nat.pow_pos (by decide))) hxlt (by (first | lia | omega)) (by (first | lia | omega)) ?_
      · (repeat' (first | with_reducible exact List.mem_cons_self | with_reducible assumption | with_reducible refine List.mem_cons_of_mem _ ?_ | (with_reducible refine List.mem_append_left _ ?_; with_reducible assumption) | with_reducible refine List.mem_append_right _ ?_ | with_reducible exact sub_nil | with_reducible refine sub_cons ?_ ?_ | with_reducible refine sub_app ?_ ?_ | intro p hp))
      intro u2 v2 lt t4 t5 h6 tk6 hB2 hap2 F8 N8
      try dsimp only
      repeat' (first | (k_unfold; (try dsimp only)) | walk1 | (dsimp only; walk1))
      refine Halt.out ?_
      obtain ⟨qv, hqv⟩ : ∃ qv, qv = M * 2 ^ sz / (2 * S) := ⟨_, rfl⟩
      rw [← hqv] at N8 ⊢
      have hqb : qv < 2 ^ sz := by
        rw [hqv]; apply Nat.div_lt_of_lt_mul
        exact Nat.mul_lt_mul_of_pos_right (by (first | lia | omega)) (Nat.pow_pos (by decide))
      have hnd1 : ndig qv 1 ≤ sz := by
        have := intBits_lt qv sz hqb
        unfold ndig; rw [Nat.div_one]; (first | lia | omega)
      obtain ⟨tup, htup⟩ : ∃ tup : Obj, tup = { cls := Value.type "tuple", data := Data.seq #[Value.int (qv : Int) t4, Value.int ((M * 2 ^ sz % (2 * S) : Nat) : Int) t5] } := ⟨_, rfl⟩
      rw [← htup] at N8
      have hclr2 : Clear ((lt, tup) :: (D', listOf ws'.toArray 0) :: (I + 1, oE) :: (I, oI) :: (lq, listOf qs.toArray j) :: (lw, listOf vs.toArray ep) :: rest) := clear_cons (ne_TB N8 hB2 (.head _) (by rw [htup]) (fun p hp => .tail _ (List.mem_append_left _ hp))) hclr1
      refine i2dB (n := 1) (x := qv) hB2 (rest := (lt, tup) :: (D', listOf ws'.toArray 0) :: (I + 1, oE) :: (I, oI) :: (lq, listOf qs.toArray j) :: (lw, listOf vs.toArray ep) :: rest) B' F8 X' C1' (cb_drop N8 ?_) T' rfl hclr2 (by show dp + 1 + 110 < recursionLimit; exact room hd rfl) (by show un + 3 + 2100 < cLine; exact room hu rfl) (by decide) (by decide) (by (first | lia | omega)) ?_
      · (repeat' (first | with_reducible exact List.mem_cons_self | with_reducible assumption | with_reducible refine List.mem_cons_of_mem _ ?_ | (with_reducible refine List.mem_append_left _ ?_; with_reducible assumption) | with_reducible refine List.mem_append_right _ ?_ | with_reducible exact sub_nil | with_reducible refine sub_cons ?_ ?_ | with_reducible refine sub_app ?_ ?_ | intro p hp))
      intro u3 la items ds h7 tk7 hB3 hap3 hi3 hlen3 hdig3 hla3 F9 N9
      have N10 : News g' L' h7 ((la, listOf items.toArray 0) :: (I + 1, oE) :: (I, oI) :: (lq, listOf qs.toArray j) :: (lw, listOf vs.toArray ep) :: (TB u3 v2 ++ rest)) := cb_drop N9 (by
        (repeat' (first | with_reducible exact List.mem_cons_self | with_reducible assumption | with_reducible refine List.mem_cons_of_mem _ ?_ | (with_reducible refine List.mem_append_left _ ?_; with_reducible assumption) | with_reducible refine List.mem_append_right _ ?_ | with_reducible exact sub_nil | with_reducible refine sub_cons ?_ ?_ | with_reducible refine sub_app ?_ ?_ | intro p hp)))
      clear N9
      have hne1 : @Ne Nat lq la := hla3 (lq, listOf qs.toArray j) (by (repeat' (first | with_reducible exact List.mem_cons_self | with_reducible assumption | with_reducible refine List.mem_cons_of_mem _ ?_ | (with_reducible refine List.mem_append_left _ ?_; with_reducible assumption) | with_reducible refine List.mem_append_right _ ?_)))
      try dsimp only
      repeat' (first | (k_unfold; (try dsimp only)) | walk1 | (dsimp only; walk1))
      refine Halt.out ?_
      have hlen4 : ds.length ≤ sz := by (first | lia | omega)
      try dsimp only
      refine KM.mul (by assumption) (by assumption) (by is_list) (by l_ints) (by (first | lia | omega)) (by (first | lia | omega)) (by simp; (first | lia | omega)) ?_
      intro lz hA FA NA l2 i2 N2z e1 e2 e3 e4
      k_lt l2
      have stop : StopExpr := trivial
      repeat' (first | (k_unfold; (try dsimp only)) | walk1 | (dsimp only; walk1))
      refine Halt.out ?_
      rename_i Df wsf hqf hIf lf hqg FFg NNg
      clear stop
      rw [bits_eq hlen3 hdig3 hnd1] at hIf
      have ha1 : NeAll lq (TB u3 v2) := hap3 (lq, listOf qs.toArray j) (by (repeat' (first | with_reducible exact List.mem_cons_self | with_reducible assumption | with_reducible refine List.mem_cons_of_mem _ ?_ | (with_reducible refine List.mem_append_left _ ?_; with_reducible assumption) | with_reducible refine List.mem_append_right _ ?_))) (hap2 (lq, listOf qs.toArray j) (by (repeat' (first | with_reducible exact List.mem_cons_self | with_reducible assumption | with_reducible refine List.mem_cons_of_mem _ ?_ | (with_reducible refine List.mem_append_left _ ?_; with_reducible assumption) | with_reducible refine List.mem_append_right _ ?_))) hn1)
      have ha2 : NeAll lw (TB u3 v2) := hap3 (lw, listOf vs.toArray ep) (by (repeat' (first | with_reducible exact List.mem_cons_self | with_reducible assumption | with_reducible refine List.mem_cons_of_mem _ ?_ | (with_reducible refine List.mem_append_left _ ?_; with_reducible assumption) | with_reducible refine List.mem_append_right _ ?_))) (hap2 (lw, listOf vs.toArray ep) (by (repeat' (first | with_reducible exact List.mem_cons_self | with_reducible assumption | with_reducible refine List.mem_cons_of_mem _ ?_ | (with_reducible refine List.mem_append_left _ ?_; with_reducible assumption) | with_reducible refine List.mem_append_right _ ?_))) hn2)
      have ha3 : NeAll I (TB u3 v2) := hap3 (I, oI) (by (repeat' (first | with_reducible exact List.mem_cons_self | with_reducible assumption | with_reducible refine List.mem_cons_of_mem _ ?_ | (with_reducible refine List.mem_append_left _ ?_; with_reducible assumption) | with_reducible refine List.mem_append_right _ ?_))) (hap2 (I, oI) (by (repeat' (first | with_reducible exact List.mem_cons_self | with_reducible assumption | with_reducible refine List.mem_cons_of_mem _ ?_ | (with_reducible refine List.mem_append_left _ ?_; with_reducible assumption) | with_reducible refine List.mem_append_right _ ?_))) hn3)
      have ha4 : NeAll (I + 1) (TB u3 v2) := hap3 (I + 1, oE) (by (repeat' (first | with_reducible exact List.mem_cons_self | with_reducible assumption | with_reducible refine List.mem_cons_of_mem _ ?_ | (with_reducible refine List.mem_append_left _ ?_; with_reducible assumption) | with_reducible refine List.mem_append_right _ ?_))) (hap2 (I + 1, oE) (by (repeat' (first | with_reducible exact List.mem_cons_self | with_reducible assumption | with_reducible refine List.mem_cons_of_mem _ ?_ | (with_reducible refine List.mem_append_left _ ?_; with_reducible assumption) | with_reducible refine List.mem_append_right _ ?_))) hn4)
      have hrq : NeAll lq rest := fun q hq => NeAll.of_lt ll.2 q (List.mem_append_right _ hq)
      have hrI : NeAll I rest := fun q hq => NeAll.of_lt lI.2.2 q (List.mem_append_right _ hq)
      have hrI1 : NeAll (I + 1) rest := fun q hq => neAll_le lI.2.2 (Nat.le_succ I) q (List.mem_append_right _ hq)
      have lI1 := lI.1
      have lI2 := lI.2.1
      have lqw := ll.1
      have NNh : News g' L' hqg ((Df, listOf wsf.toArray 0) :: (lq, listOf qs.toArray j) :: ((I + 1, oE) :: (I, oI) :: (lw, listOf vs.toArray ep) :: (TB u3 v2 ++ rest))) := cb_drop NNg (by
        (repeat' (first | with_reducible exact List.mem_cons_self | with_reducible assumption | with_reducible refine List.mem_cons_of_mem _ ?_ | (with_reducible refine List.mem_append_left _ ?_; with_reducible assumption) | with_reducible refine List.mem_append_right _ ?_ | with_reducible exact sub_nil | with_reducible refine sub_cons ?_ ?_ | with_reducible refine sub_app ?_ ?_ | intro p hp)))
      try dsimp only
      refine lw_tail (by rfl) (by rfl) X' T' FFg (by intro p hp; simp only [List.mem_cons, List.not_mem_nil, or_false] at hp; rcases hp with rfl | rfl <;> rfl) NNh hIf wordBits_le (by rw [wordBits_len]; (first | lia | omega)) ?_ ?_ ?_ ?_
      · rw [hqs.length]; (first | lia | omega)
      · exact NeAll.cons (by (first | lia | omega)) (NeAll.cons (by (first | lia | omega)) (NeAll.cons (by (first | lia | omega)) (NeAll.append ha1 hrq)))
      · have := lf; (first | lia | omega)
      intro h8 tk8 t8 F10 N11
      try dsimp only
      repeat' (first | (k_unfold; (try dsimp only)) | walk1 | (dsimp only; walk1))
      refine ⟨h8, tk8, _, (lq, listOf (qs ++ [Value.str (bitStr (wordBits qv sz).reverse) t8]).toArray (j + 1)) :: (lw, listOf vs.toArray ep) :: (TB u3 v2 ++ rest), rfl, F10, cb_drop N11 ?_, ?_, ?_, j + 1, u3, v2, qs ++ [Value.str (bitStr (wordBits qv sz).reverse) t8], Ws ++ [bitStr (wordBits qv sz).reverse], rfl, by (first | lia | omega), strs_snoc hqs, by rw [List.length_append, hWl]; rfl, ?_, hB3, ⟨ha1, ha2, ha3, ha4⟩, rfl, by intro p hp; simp only [List.mem_cons, List.not_mem_nil, or_false] at hp; rcases hp with rfl | rfl <;> rfl⟩
      · (repeat' (first | with_reducible exact List.mem_cons_self | with_reducible assumption | with_reducible refine List.mem_cons_of_mem _ ?_ | (with_reducible refine List.mem_append_left _ ?_; with_reducible assumption) | with_reducible refine List.mem_append_right _ ?_ | with_reducible exact sub_nil | with_reducible refine sub_cons ?_ ?_ | with_reducible refine sub_app ?_ ?_ | intro p hp))
      · have e1 : ∀ q ∈ ([(I + 1, oE), (I, oI)] : List (Addr × Obj)), NeAll q.1 ((lq, listOf (qs ++ [Value.str (bitStr (wordBits qv sz).reverse) t8]).toArray (j + 1)) :: (lw, listOf vs.toArray ep) :: (TB u3 v2 ++ rest)) := by
          intro q hq
          simp only [List.mem_cons, List.not_mem_nil, or_false] at hq
          rcases hq with rfl | rfl
          · exact NeAll.cons (by show @Ne Nat _ _; (first | lia | omega)) (NeAll.cons (by show @Ne Nat _ _; (first | lia | omega)) (NeAll.append ha4 hrI1))
          · exact NeAll.cons (by show @Ne Nat _ _; (first | lia | omega)) (NeAll.cons (by show @Ne Nat _ _; (first | lia | omega)) (NeAll.append ha3 hrI))
        exact fun p hp q hq => e1 q hq p hp
      · exact ⟨.tail _ (.head _), trivial⟩
      · intro k W hk
        rw [List.getElem?_append] at hk
        by_cases h : k < Ws.length
        · rw [if_pos h] at hk
          exact hWg k W hk
        · rw [if_neg h] at hk
          have hk0 : k - Ws.length = 0 := by
            rcases Nat.eq_zero_or_pos (k - Ws.length) with h | h
            · exact h
            · rw [List.getElem?_eq_none (by simp only [List.length_cons, List.length_nil]; (first | lia | omega))] at hk; cases hk
          rw [hk0] at hk
          have hkj : k = j := by (first | lia | omega)
          subst hkj
          have hW : W = bitStr (wordBits qv sz).reverse := (Option.some.inj hk).symm
          refine ⟨sz, hz1, hz2, by rw [← hS, ← hwj]; exact hszS, ?_⟩
          rw [hW]
          unfold wordOf
          rw [← hC, ← hwj, ← hS, ← hM, ← hqv]
  · exact ⟨0, u, v, [], [], rfl, by (first | lia | omega), .nil, rfl, (by intro k W h; cases h), hB, ⟨fun q hq => NeAll.of_lt ll.2 q (List.mem_append_left _ hq), hlwne, fun q hq => NeAll.of_lt lI.2.2 q (List.mem_append_left _ hq), fun q hq => neAll_le lI.2.2 (Nat.le_succ I) q (List.mem_append_left _ hq)⟩, rfl, by intro p hp; simp only [List.mem_cons, List.not_mem_nil, or_false] at hp; rcases hp with rfl | rfl <;> rfl⟩
set_option maxRecDepth 100000 in
set_option maxHeartbeats 8000000 in
theorem bisect_ints {la : Nat} {vs : List Value} {ns : List Int} {n : Nat} {x : Int} {t : Tok}
   (B : Below A₀ base outer h₀) (F : Fr h₀ L s.heap m) (X : (Mine.hd.heap_39 w.params).In h₀) (N : News h₀ L s.heap rest) (hla : (la, listOf vs.toArray n) ∈ rest) (T : Top p loose mean mg mb h₀) (hk : cs.kind = .function)
   (hd : dp + 10 < recursionLimit) (hu : un + 50 < cLine)
   (hi : IntsAre vs ns) (hn : ns.length < 100) (hs : ∀ i j : Nat, i ≤ j → j < ns.length → ns.getD i 0 ≤ ns.getD j 0)
   (ret : ∀ (r : Int) t' h' tk', 0 ≤ r → r ≤ ns.length → (∀ i : Nat, (i : Int) < r → ns.getD i 0 ≤ x) → (∀ i : Nat, r ≤ (i : Int) → i < ns.length → x < ns.getD i 0) → Fr h₀ L h' m → News h₀ L h' rest → Q (.int r t') { s with heap := h', toks := tk' }) :
   wpAny (model Challenge.rw_pg0224_01.row.prog w) (ktrTop dp un gd cn cs L a ccd cl outer) (call (.ref 32) [.ref la, .int x t]) Q E s := by
  refine wpAny_call ?_
  k_dflt (refine' code_def ?k1 ?k2 ?k3 ?k4 ?k5 ?kA ?kF ?kK ?k6 ?k7 ?k8 ?k9 ?kB ?_ ?c2 ?c3 ?c4 ?c5; (case kA => exact rfl); (case kF => exact rfl); (case kK => first | assumption | exact rfl); (case k1 => k_asm); (case k2 => k_asm); (case k3 => k_asm); (case k4 => k_asm); (case k5 => k_asm); (case k6 => k_is); (case k7 => k_is); (case k8 => (first | exact Nat.lt_of_le_of_lt (Nat.le_add_right dp _) hd | (show dp < recursionLimit; omega))); (case k9 => first | exact BindsTo.of_eq rfl | (refine' kp_binds ?kx ?ke; (case kx => k_in); (case ke => exact fun _ => rfl))); (case c5 => decide); (case kB => exact locs rfl); (case c2 => exact rfl); (case c3 => exact rfl); (case c4 => exact rfl); k_whole; intro g' L' h' FG' F' N' B' X' T'; (try dsimp only); (try k_lift B'); (try k_fold))
  replace F' := fr_gen [("lo", .int 0 202), ("hi", .none), ("a", .ref la), ("x", .int x t), ("key", .none)] F' (by intro p hp; simp only [List.mem_cons, List.not_mem_nil, or_false] at hp; rcases hp with rfl | rfl | rfl | rfl | rfl <;> rfl)
  obtain ⟨m1, F'⟩ := F'
  replace N' : News g' L' h' ((la, listOf vs.toArray n) :: rest) := cb_drop N' fun p hp => by
    rcases List.mem_cons.mp hp with rfl | hp
    · exact hla
    · exact hp
  repeat' (first | (k_unfold; (try dsimp only)) | walk1 | (dsimp only; walk1))
  refine Halt.out ?_
  rename_i hq1 FF NN
  refine While_inv2 (fun k m' nw => nw = (la, listOf vs.toArray n) :: rest ∧ ∃ (lo hi : Nat) (t1 t2 : Tok), (∀ p ∈ ([("lo", .int (lo : Int) t1), ("hi", .int (hi : Int) t2), ("a", .ref la), ("x", .int x t)] : List (Str × Value)), m' p.1 = some p.2) ∧ lo ≤ hi ∧ hi ≤ ns.length ∧ (∀ i : Nat, i < lo → ns.getD i 0 ≤ x) ∧ (∀ i : Nat, hi ≤ i → i < ns.length → x < ns.getD i 0) ∧ hi - lo = k) FF NN
    ⟨rfl, 0, ns.length, _, _, by intro p hp; simp only [List.mem_cons, List.not_mem_nil, or_false] at hp; rcases hp with rfl | rfl | rfl | rfl <;> rfl, by (first | lia | omega), by (first | lia | omega), by intro i hi; (first | lia | omega), by intro i h1 h2; (first | lia | omega), rfl⟩ ?_
  rintro k m₁ nw h₁ tk₁ F₁ N₁ ⟨rfl, lo, hi', t1, t2, hm1, b2, b3, b4, b5, b6⟩
  obtain ⟨m2, F₁⟩ := fr_gen _ F₁ hm1
  repeat' (first | (k_unfold; (try dsimp only)) | walk1 | (dsimp only; walk1))
  · rename_i hlt _ tq hx _ F5 N5
    have e : ((lo : Int) + (hi' : Int)).fdiv 2 = (((lo + hi') / 2 : Nat) : Int) := by rw [Int.fdiv_eq_ediv_of_nonneg _ (by (first | lia | omega))]; (first | lia | omega)
    rw [e, Int.toNat_natCast] at hx
    rw [e] at F5
    refine ⟨_, _, _, _, _, rfl, F5, N5, ?_, rfl, lo, (lo + hi') / 2, _, _, by intro p hp; simp only [List.mem_cons, List.not_mem_nil, or_false] at hp; rcases hp with rfl | rfl | rfl | rfl <;> rfl, by (first | lia | omega), by (first | lia | omega), b4, ?_, rfl⟩
    · (first | lia | omega)
    · intro i h1 h2
      exact Int.lt_of_lt_of_le hx (hs _ _ h1 h2)
  · rename_i hlt _ tq hx _ F5 N5
    have e : ((lo : Int) + (hi' : Int)).fdiv 2 = (((lo + hi') / 2 : Nat) : Int) := by rw [Int.fdiv_eq_ediv_of_nonneg _ (by (first | lia | omega))]; (first | lia | omega)
    have e2 : (((lo + hi') / 2 : Nat) : Int) + 1 = (((lo + hi') / 2 + 1 : Nat) : Int) := by (first | lia | omega)
    rw [e, Int.toNat_natCast] at hx
    rw [e, e2] at F5
    refine ⟨_, _, _, _, _, rfl, F5, N5, ?_, rfl, (lo + hi') / 2 + 1, hi', _, _, by intro p hp; simp only [List.mem_cons, List.not_mem_nil, or_false] at hp; rcases hp with rfl | rfl | rfl | rfl <;> rfl, by (first | lia | omega), by (first | lia | omega), ?_, b5, rfl⟩
    · (first | lia | omega)
    · intro i h1
      exact Int.le_trans (hs i ((lo + hi') / 2) (by (first | lia | omega)) (by (first | lia | omega))) (by (first | lia | omega))
  · rename_i hge kF kN _ _
    exact ret _ _ _ _ (by (first | lia | omega)) (by (first | lia | omega)) (fun i h1 => b4 i (by (first | lia | omega))) (fun i h1 h2 => b5 i (by (first | lia | omega)) h2) kF (cb_drop kN fun p hp => .tail _ hp)
def slt (a b : Str) : Prop := a.cps.toList < b.cps.toList
theorem slt_le {x y b : Str} (h1 : slt x y) (h2 : ¬ slt b y) : slt x b := by
  by_cases h : slt x b
  · exact h
  · exact absurd (List.lt_of_le_of_lt (List.not_lt.mp h) h1) h2
set_option maxRecDepth 100000 in
set_option maxHeartbeats 8000000 in
theorem bisect_strs {la : Nat} {vs : List Value} {ys : List Str} {n : Nat} {x : Str} {t t2 : Tok}
   (B : Below A₀ base outer h₀) (F : Fr h₀ L s.heap m) (X : (Mine.hd.heap_39 w.params).In h₀) (N : News h₀ L s.heap rest) (hla : (la, listOf vs.toArray n) ∈ rest) (T : Top p loose mean mg mb h₀) (hk : cs.kind = .function)
   (hd : dp + 10 < recursionLimit) (hu : un + 50 < cLine)
   (hi : StrsAre vs ys) (hn : ys.length < 100) (hs : ∀ (i j : Nat) (a b : Str), i < j → ys[i]? = some a → ys[j]? = some b → ¬ slt b a)
   (ret : ∀ (r : Nat) t' h' tk', r ≤ ys.length → (∀ (i : Nat) (a : Str), i < r → ys[i]? = some a → ¬ slt x a) → (∀ (i : Nat) (a : Str), r ≤ i → ys[i]? = some a → slt x a) → Fr h₀ L h' m → News h₀ L h' rest → Q (.int (r : Int) t') { s with heap := h', toks := tk' }) :
   wpAny (model Challenge.rw_pg0224_01.row.prog w) (ktrTop dp un gd cn cs L a ccd cl outer) (call (.ref 32) [.ref la, .str x t, .int 0 t2, .none]) Q E s := by
  refine wpAny_call ?_
  k_dflt (refine' code_def ?k1 ?k2 ?k3 ?k4 ?k5 ?kA ?kF ?kK ?k6 ?k7 ?k8 ?k9 ?kB ?_ ?c2 ?c3 ?c4 ?c5; (case kA => exact rfl); (case kF => exact rfl); (case kK => first | assumption | exact rfl); (case k1 => k_asm); (case k2 => k_asm); (case k3 => k_asm); (case k4 => k_asm); (case k5 => k_asm); (case k6 => k_is); (case k7 => k_is); (case k8 => (first | exact Nat.lt_of_le_of_lt (Nat.le_add_right dp _) hd | (show dp < recursionLimit; omega))); (case k9 => first | exact BindsTo.of_eq rfl | (refine' kp_binds ?kx ?ke; (case kx => k_in); (case ke => exact fun _ => rfl))); (case c5 => decide); (case kB => exact locs rfl); (case c2 => exact rfl); (case c3 => exact rfl); (case c4 => exact rfl); k_whole; intro g' L' h' FG' F' N' B' X' T'; (try dsimp only); (try k_lift B'); (try k_fold))
  replace F' := fr_gen [("lo", .int 0 t2), ("hi", .none), ("a", .ref la), ("x", .str x t), ("key", .none)] F' (by intro p hp; simp only [List.mem_cons, List.not_mem_nil, or_false] at hp; rcases hp with rfl | rfl | rfl | rfl | rfl <;> rfl)
  obtain ⟨m1, F'⟩ := F'
  have hvl := hi.length
  replace N' : News g' L' h' ((la, listOf vs.toArray n) :: rest) := cb_drop N' fun p hp => by
    rcases List.mem_cons.mp hp with rfl | hp
    · exact hla
    · exact hp
  repeat' (first | (k_unfold; (try dsimp only)) | walk1 | (dsimp only; walk1))
  refine Halt.out ?_
  rename_i hq1 FF NN
  refine While_inv2 (fun k m' nw => nw = (la, listOf vs.toArray n) :: rest ∧ ∃ (lo hi : Nat) (t1 t2 : Tok), (∀ p ∈ ([("lo", .int (lo : Int) t1), ("hi", .int (hi : Int) t2), ("a", .ref la), ("x", .str x t)] : List (Str × Value)), m' p.1 = some p.2) ∧ lo ≤ hi ∧ hi ≤ ys.length ∧ (∀ (i : Nat) (a : Str), i < lo → ys[i]? = some a → ¬ slt x a) ∧ (∀ (i : Nat) (a : Str), hi ≤ i → ys[i]? = some a → slt x a) ∧ hi - lo = k) FF NN
    ⟨rfl, 0, ys.length, _, _, by intro p hp; simp only [List.mem_cons, List.not_mem_nil, or_false] at hp; rcases hp with rfl | rfl | rfl | rfl <;> rfl, Nat.zero_le _, Nat.le_refl _, (fun i a h1 => absurd h1 (Nat.not_lt_zero i)), (fun i a h1 h2 => by rw [List.getElem?_eq_none h1] at h2; cases h2), rfl⟩ ?_
  rintro k m₁ nw h₁ tk₁ F₁ N₁ ⟨rfl, lo, hi', t1, t2, hm1, b2, b3, b4, b5, b6⟩
  obtain ⟨m2, F₁⟩ := fr_gen _ F₁ hm1
  repeat' (first | (k_unfold; (try dsimp only)) | walk1 | (dsimp only; walk1))
  · rename_i hlt _ F5 N5
    have e : ((lo : Int) + (hi' : Int)).fdiv 2 = (((lo + hi') / 2 : Nat) : Int) := by rw [Int.fdiv_eq_ediv_of_nonneg _ (by (first | lia | omega))]; (first | lia | omega)
    rw [e] at F5 ⊢
    rename StrsAre _ _ => hi
    refine item_strsA (News.isList N5 (.head _)) hi (by (first | lia | omega)) (by (first | lia | omega)) (by (first | lia | omega)) ?_
    intro t7
    rw [Int.toNat_natCast]
    obtain ⟨y, hy⟩ : ∃ y, ys[(lo + hi') / 2]? = some y := ⟨_, List.getElem?_eq_getElem (by (first | lia | omega))⟩
    rw [List.getD_eq_getElem?_getD, hy, Option.getD_some]
    try dsimp only
    repeat' (first | (k_unfold; (try dsimp only)) | walk1 | (dsimp only; walk1))
    · rename_i hx _ F6 N6
      refine ⟨_, _, _, _, _, rfl, F6, N6, ?_, rfl, lo, (lo + hi') / 2, _, _, by intro p hp; simp only [List.mem_cons, List.not_mem_nil, or_false] at hp; rcases hp with rfl | rfl | rfl | rfl <;> rfl, by (first | lia | omega), by (first | lia | omega), b4, ?_, rfl⟩
      · (first | lia | omega)
      · intro i a h1 h2
        rcases Nat.lt_or_ge ((lo + hi') / 2) i with h | h
        · exact slt_le hx (hs _ _ _ _ h hy h2)
        · have : i = (lo + hi') / 2 := by (first | lia | omega)
          subst this
          rw [hy] at h2
          cases h2
          exact hx
    · rename_i hx _ F6 N6
      have e2 : (((lo + hi') / 2 : Nat) : Int) + 1 = (((lo + hi') / 2 + 1 : Nat) : Int) := by (first | lia | omega)
      rw [e2] at F6
      refine ⟨_, _, _, _, _, rfl, F6, N6, ?_, rfl, (lo + hi') / 2 + 1, hi', _, _, by intro p hp; simp only [List.mem_cons, List.not_mem_nil, or_false] at hp; rcases hp with rfl | rfl | rfl | rfl <;> rfl, by (first | lia | omega), by (first | lia | omega), ?_, b5, rfl⟩
      · (first | lia | omega)
      · intro i a h1 h2 h3
        rcases Nat.lt_or_ge i ((lo + hi') / 2) with h | h
        · exact hx (slt_le h3 (hs _ _ _ _ h h2 hy))
        · have : i = (lo + hi') / 2 := by (first | lia | omega)
          subst this
          rw [hy] at h2
          cases h2
          exact hx h3
  · rename_i hge kF kN _ _
    exact ret _ _ _ _ (by (first | lia | omega)) (fun i a h1 => b4 i a (by (first | lia | omega))) (fun i a h1 h2 => b5 i a (by (first | lia | omega)) h2) kF (cb_drop kN fun p hp => .tail _ hp)
set_option maxRecDepth 100000 in
set_option maxHeartbeats 8000000 in
theorem insort {la : Nat} {vs : List Value} {ys : List Str} {n : Nat} {x : Str} {t : Tok}
   (B : Below A₀ base outer h₀) (F : Fr h₀ L s.heap m) (X : (Mine.hd.heap_39 w.params).In h₀) (N : News h₀ L s.heap ((la, listOf vs.toArray n) :: rest)) (hla : NeAll la rest) (T : Top p loose mean mg mb h₀) (hk : cs.kind = .function)
   (hd : dp + 20 < recursionLimit) (hu : un + 100 < cLine)
   (hi : StrsAre vs ys) (hn : ys.length < 100) (hs : ∀ (i j : Nat) (a b : Str), i < j → ys[i]? = some a → ys[j]? = some b → ¬ slt b a)
   (ret : ∀ (r : Nat) (qs : List Value) n' h' tk', r ≤ ys.length → (∀ (i : Nat) (a : Str), i < r → ys[i]? = some a → ¬ slt x a) → (∀ (i : Nat) (a : Str), r ≤ i → ys[i]? = some a → slt x a) → StrsAre qs (ys.take r ++ x :: ys.drop r) → Fr h₀ L h' m → News h₀ L h' ((la, listOf qs.toArray n') :: rest) → Q .none { s with heap := h', toks := tk' }) :
   wpAny (model Challenge.rw_pg0224_01.row.prog w) (ktrTop dp un gd cn cs L a ccd cl outer) (call (.ref 23) [.ref la, .str x t]) Q E s := by
  refine wpAny_call ?_
  k_dflt (refine' code_def ?k1 ?k2 ?k3 ?k4 ?k5 ?kA ?kF ?kK ?k6 ?k7 ?k8 ?k9 ?kB ?_ ?c2 ?c3 ?c4 ?c5; (case kA => exact rfl); (case kF => exact rfl); (case kK => first | assumption | exact rfl); (case k1 => k_asm); (case k2 => k_asm); (case k3 => k_asm); (case k4 => k_asm); (case k5 => k_asm); (case k6 => k_is); (case k7 => k_is); (case k8 => (first | exact Nat.lt_of_le_of_lt (Nat.le_add_right dp _) hd | (show dp < recursionLimit; omega))); (case k9 => first | exact BindsTo.of_eq rfl | (refine' kp_binds ?kx ?ke; (case kx => k_in); (case ke => exact fun _ => rfl))); (case c5 => decide); (case kB => exact locs rfl); (case c2 => exact rfl); (case c3 => exact rfl); (case c4 => exact rfl); k_whole; intro g' L' h' FG' F' N' B' X' T'; (try dsimp only); (try k_lift B'); (try k_fold))
  replace F' := fr_gen [("lo", .int 0 189), ("hi", .none), ("a", .ref la), ("x", .str x t), ("key", .none)] F' (by intro p hp; simp only [List.mem_cons, List.not_mem_nil, or_false] at hp; rcases hp with rfl | rfl | rfl | rfl | rfl <;> rfl)
  obtain ⟨m1, F'⟩ := F'
  repeat' (first | (k_unfold; (try dsimp only)) | walk1 | (dsimp only; walk1))
  refine Halt.out ?_
  refine bisect_strs B' F' X' N' (.head _) T' rfl (by show dp + 1 + 10 < recursionLimit; exact room hd rfl) (by show un + 3 + 50 < cLine; exact room hu rfl) hi hn hs ?_
  intro r t7 h7 tk7 hr h1 h2 F7 N7
  try dsimp only
  repeat' (first | (k_unfold; (try dsimp only)) | walk1 | (dsimp only; walk1))
  rename_i FF NN
  have hvl := hi.length
  have e : kl_ins vs.toArray.toList (r : Int) (.str x t) = vs.take r ++ .str x t :: vs.drop r := by
    unfold kl_ins
    simp only [Int.toNat_natCast]
    rw [if_neg (by (first | lia | omega)), Nat.min_eq_left (by (first | lia | omega))]
  refine kl_insert FF NN (by simp [Builtin.List.listFitsIndex]; (first | lia | omega)) e (Upd.head hla) (by rw [sizeLine_eq]; simp; (first | lia | omega)) ?_
  intro h8 F8 N8
  try dsimp only
  repeat' (first | (k_unfold; (try dsimp only)) | walk1 | (dsimp only; walk1))
  rename_i kF kN _ _
  refine ret r _ (n + 1) _ _ hr h1 h2 ?_ kF kN
  exact StrsAre.append' (hi.take' r) (.cons x t (hi.drop' r))
theorem occ_full (s sub : Str) (hi : Nat) : ∀ (l : List Nat) (st : Array Nat × Nat), st.fst.size = 1 → (forIn l st (StrLaws.occBody s sub hi 1)).run.fst = st.fst
  | [], st, h => rfl
  | a :: l, st, h => by
    rw [List.forIn_cons]
    unfold StrLaws.occBody
    rw [if_neg (by rw [h]; simp)]
    exact occ_full s sub hi l _ h
theorem occ_empty (s : Str) (k hi : Nat) (h : k ≤ hi) : Builtin.Str.occurrences s (Str.ofString "") k hi 1 = [k] := by
  rw [StrLaws.occ_eq]
  have e0 : Str.ofString "" = (⟨#[]⟩ : Str) := by decide +kernel
  have e : hi + 1 - k = (hi - k) + 1 := by (first | lia | omega)
  rw [e, List.range'_succ, List.forIn_cons, e0]
  have e1 : StrLaws.occBody s ⟨#[]⟩ hi 1 k (#[], k) = pure (ForInStep.yield (#[k], k + (⟨#[]⟩ : Str).length)) := by
    unfold StrLaws.occBody
    rw [if_pos]
    · rfl
    · refine ⟨⟨⟨by simp, Nat.le_refl _⟩, by show k + 0 ≤ hi; (first | lia | omega)⟩, ?_⟩
      rw [StrLaws.subAt_eq]
      show (List.take 0 _ == []) = true
      simp
  rw [e1]
  have := occ_full s ⟨#[]⟩ hi (List.range' (k + 1) (hi - k)) (#[k], k + (⟨#[]⟩ : Str).length) rfl
  show (forIn (List.range' (k + 1) (hi - k)) (#[k], k + (⟨#[]⟩ : Str).length) (StrLaws.occBody s ⟨#[]⟩ hi 1)).run.fst.toList = [k]
  rw [this]
section
open Builtin Builtin.Str
theorem gives_find_range (x y : Str) (i j : Int) (t u v v2 : Tok) : Gives (Builtin.«str.find» ⟨[.str x t, .str y u, .int i v, .int j v2], []⟩) (.int (match occurrences x y (fromIndex x.length i) (min (fromIndex x.length j) x.length) 1 with | k :: _ => (k : Int) | [] => -1)) := by
  show Gives (match occurrences x y (fromIndex x.length i) (min (fromIndex x.length j) x.length) 1 with | k :: _ => retInt k | [] => (do rule "str.find.not-found"; retInt (-1))) _
  cases occurrences x y (fromIndex x.length i) (min (fromIndex x.length j) x.length) 1 with
  | nil => exact .rule (.of_eq rfl)
  | cons k _ => exact .of_eq rfl
theorem find_empty {prog : Program} {A : Around} {EE : Value → Shared → Prop} {x : Str} {i j : Nat} {t u v v2 : Tok} (h1 : i ≤ j) (h2 : j ≤ x.length) (hq : Q (.int (i : Int) s.toks) { s with toks := s.toks + 1 }) :
    wpAny (model prog w) A (call (.builtin "str.find") [.str x t, .str (Str.ofString "") u, .int (i : Int) v, .int (j : Int) v2]) Q EE s := by
  refine call_gives F.slot_str_find (typeIs_str _ _ _) F.entry_str_find (F.args_str_find_4 _ _ _ _) (gives_find_range x _ i j t u v v2) ?_
  have e1 : ∀ n : Nat, fromIndex x.length (n : Int) = n := by
    intro n
    unfold fromIndex
    rw [if_neg (by (first | lia | omega))]
    (first | lia | omega)
  rw [e1, e1, Nat.min_eq_left h2, occ_empty x i j h1]
  exact hq
end
def allBits : Nat → List (List Nat)
  | 0 => [[]]
  | n + 1 => (allBits n).flatMap fun l => [0 :: l, 1 :: l]
theorem mem_allBits : ∀ (bs : List Nat), (∀ b ∈ bs, b ≤ 1) → bs ∈ allBits bs.length
  | [], _ => .head _
  | b :: r, h => by
    have ih := mem_allBits r fun c hc => h c (.tail _ hc)
    have hb := h b (.head _)
    refine List.mem_flatMap.mpr ⟨r, ih, ?_⟩
    match b, hb with
    | 0, _ => exact .head _
    | 1, _ => exact .tail _ (.head _)
set_option maxRecDepth 100000 in
theorem split_dec : ∀ n ∈ ([2, 3, 4, 5, 6] : List Nat), ∀ bs ∈ allBits n, PySem.Txt.split (bitStr bs ++ Str.ofString "...") (Str.ofString "...") = [bitStr bs, Str.ofString ""] ∧ (Builtin.Str.occurrences (bitStr bs ++ Str.ofString "...") (Str.ofString "...") 0 (bitStr bs ++ Str.ofString "...").length 1).isEmpty = false := by decide +kernel
theorem split_word {bs : List Nat} (hb : ∀ b ∈ bs, b ≤ 1) (hb1 : 2 ≤ bs.length) (hb2 : bs.length ≤ 6) : PySem.Txt.split (bitStr bs ++ Str.ofString "...") (Str.ofString "...") = [bitStr bs, Str.ofString ""] ∧ (Builtin.Str.occurrences (bitStr bs ++ Str.ofString "...") (Str.ofString "...") 0 (bitStr bs ++ Str.ofString "...").length 1).isEmpty = false := by
  refine split_dec bs.length ?_ bs (mem_allBits bs hb)
  match bs.length, hb1, hb2 with
  | 2, _, _ => simp
  | 3, _, _ => simp
  | 4, _, _ => simp
  | 5, _, _ => simp
  | 6, _, _ => simp
theorem starts_bits (bs gs : List Nat) : PySem.Txt.startswith (bitStr gs) (bitStr bs) = decide (bs <+: gs) := by
  rw [Bool.eq_iff_iff, decide_eq_true_iff]
  unfold PySem.Txt.startswith
  rw [StrLaws.subAt_eq, List.drop_zero]
  have e1 : (bitStr gs).cps.toList = gs.map (48 + ·) := rfl
  have e2 : (bitStr bs).cps.toList = bs.map (48 + ·) := rfl
  have e3 : (bitStr bs).length = bs.length := by show ((bs.map (48 + ·)).toArray).size = _; simp
  have e4 : (bitStr gs).length = gs.length := by show ((gs.map (48 + ·)).toArray).size = _; simp
  rw [e1, e2, e3, e4, Bool.and_eq_true, decide_eq_true_iff, beq_iff_eq, ← List.map_take, List.map_inj_right (fun x y h => by (first | lia | omega)), List.prefix_iff_eq_take]
  constructor
  · rintro ⟨_, h⟩
    exact h.symm
  · intro h
    refine ⟨?_, h.symm⟩
    have := congrArg List.length h
    rw [List.length_take] at this
    (first | lia | omega)
theorem bit_len (bs : List Nat) : (bitStr bs).length = bs.length := by show ((bs.map (48 + ·)).toArray).size = _; simp
set_option maxRecDepth 100000 in
set_option maxHeartbeats 8000000 in
theorem ellMatch {bs gs : List Nat} {t1 t2 : Tok}
   (B : Below A₀ base outer h₀) (F : Fr h₀ L s.heap m) (X : (Mine.hd.heap_39 w.params).In h₀) (N : News h₀ L s.heap rest) (T : Top p loose mean mg mb h₀) (hk : cs.kind = .function)
   (hd : dp + 20 < recursionLimit) (hu : un + 100 < cLine)
   (hb : ∀ b ∈ bs, b ≤ 1) (hb1 : 2 ≤ bs.length) (hb2 : bs.length ≤ 6) (hg : ∀ b ∈ gs, b ≤ 1) (hg2 : gs.length ≤ 100)
   (ret : ∀ (h' : Heap) (tk' : Nat), Fr h₀ L h' m → News h₀ L h' rest → Q (.bool (decide (bs <+: gs))) { s with heap := h', toks := tk' }) :
   wpAny (model Challenge.rw_pg0224_01.row.prog w) (ktrTop dp un gd cn cs L a ccd cl outer) (call (.ref 81) [.str (bitStr bs ++ Str.ofString "...") t1, .str (bitStr gs) t2]) Q E s := by
  refine wpAny_call ?_
  k_dflt (refine' code_def ?k1 ?k2 ?k3 ?k4 ?k5 ?kA ?kF ?kK ?k6 ?k7 ?k8 ?k9 ?kB ?_ ?c2 ?c3 ?c4 ?c5; (case kA => exact rfl); (case kF => exact rfl); (case kK => first | assumption | exact rfl); (case k1 => k_asm); (case k2 => k_asm); (case k3 => k_asm); (case k4 => k_asm); (case k5 => k_asm); (case k6 => k_is); (case k7 => k_is); (case k8 => (first | exact Nat.lt_of_le_of_lt (Nat.le_add_right dp _) hd | (show dp < recursionLimit; omega))); (case k9 => first | exact BindsTo.of_eq rfl | (refine' kp_binds ?kx ?ke; (case kx => k_in); (case ke => exact fun _ => rfl))); (case c5 => decide); (case kB => exact locs rfl); (case c2 => exact rfl); (case c3 => exact rfl); (case c4 => exact rfl); k_whole; intro g' L' h' FG' F' N' B' X' T'; (try dsimp only); (try k_lift B'); (try k_fold))
  replace F' := fr_gen [("want", .str (bitStr bs ++ Str.ofString "...") t1), ("got", .str (bitStr gs) t2)] F' (by intro p hp; simp only [List.mem_cons, List.not_mem_nil, or_false] at hp; rcases hp with rfl | rfl <;> rfl)
  obtain ⟨m1, F'⟩ := F'
  repeat' (first | (k_unfold; (try dsimp only)) | walk1 | (dsimp only; walk1))
  · rename _ = true => hc
    rw [(split_word hb hb1 hb2).2] at hc
    cases hc
  refine KSpl.split1 F' N' (by decide) ?_ (by rw [Str.length_append, bit_len, sizeLine_eq, show (Str.ofString "...").length = 3 from by decide +kernel]; (first | lia | omega))
  intro D l h6 k6 hl hS F6 N6 l6

  rw [(split_word hb hb1 hb2).1] at hl
  have hgl := bit_len gs
  have hbl := bit_len bs
  obtain ⟨ta, l2, rfl, hl2⟩ := KSpl.cons_of hl
  obtain ⟨tb, l3, rfl, hl3⟩ := KSpl.cons_of hl2
  have hl4 := KSpl.nil_of hl3
  subst hl4
  simp only [strValues, List.map_cons, List.map_nil] at N6 hS
  try dsimp only
  repeat' (first | (k_unfold; (try dsimp only)) | walk1 | (dsimp only; walk1))
  · rename Txt.startswith _ _ = true => hs
    rename (_ : Int) < _ => hlt
    rw [starts_bits, decide_eq_true_iff] at hs
    have := hs.length_le
    (first | lia | omega)
  · rename Txt.startswith _ _ = true => hs
    rename News _ _ _ _ => NN
    rename Fr g' L' _ _ => FF
    rename ¬ ((_ : Int) < _) => hge
    rw [starts_bits, decide_eq_true_iff] at hs
    rw [decide_eq_true hs] at ret
    refine For_invVF FF (by rfl) (by rfl) ?_
    repeat' (first | (k_unfold; (try dsimp only)) | walk1 | (dsimp only; walk1))
    refine Halt.out ?_
    refine iter_listUnr rfl FF NN (.tail _ (.head _)) rfl (vs := [.str (Str.ofString "") tb]) rfl ?_
    intro I lI
    refine ListRest.succ ?_
    intro it h9 tk9 hit F9 N9
    try dsimp only
    repeat' (first | (k_unfold; (try dsimp only)) | walk1 | (dsimp only; walk1))
    refine find_empty (by (first | lia | omega)) (Nat.le_refl _) ?_
    try dsimp only
    repeat' (first | (k_unfold; (try dsimp only)) | walk1 | (dsimp only; walk1))
    rename News g' L' _ _ => NL
    rename Fr g' L' _ _ => FL
    refine UnrEnd.intro FL NL ((D, listOf #[Value.str (Str.ofString "") tb] (0 + 1)) :: rest) ?_ ?_ ⟨.head _, ?_⟩
    · (repeat' (first | with_reducible exact List.mem_cons_self | with_reducible assumption | with_reducible refine List.mem_cons_of_mem _ ?_ | (with_reducible refine List.mem_append_left _ ?_; with_reducible assumption) | with_reducible refine List.mem_append_right _ ?_ | with_reducible exact sub_nil | with_reducible refine sub_cons ?_ ?_ | with_reducible refine sub_app ?_ ?_ | intro p hp))
    · intro p hp
      exact Nat.ne_of_lt (lI p (List.Mem.tail _ hp))
    refine ListRest.zero ?_
    intro h10 tk10 F10 N10
    try dsimp only
    repeat' (first | (k_unfold; (try dsimp only)) | walk1 | (dsimp only; walk1))
    rename_i kF kN _ _
    exact ret _ _ kF (cb_drop kN fun p hp => .tail _ hp)
  · rename_i hs kF kN _ _
    rw [starts_bits] at hs
    rw [← hs]
    exact ret _ _ kF (cb_drop kN fun p hp => .tail _ (.tail _ hp))
  · rename _ = (0 : Int) => h0
    (first | lia | omega)
/-- value of a bit list, top bit first -/
def tv : List Nat → Nat
  | [] => 0
  | b :: r => b * 2 ^ r.length + tv r
theorem tv_lt : ∀ (l : List Nat), (∀ b ∈ l, b ≤ 1) → tv l < 2 ^ l.length
  | [], _ => by simp [tv]
  | b :: r, h => by
    have h1 := tv_lt r fun c hc => h c (.tail _ hc)
    have hb := h b (.head _)
    have h2 : b * 2 ^ r.length ≤ 1 * 2 ^ r.length := Nat.mul_le_mul_right _ hb
    simp only [tv, List.length_cons, Nat.pow_succ]
    (first | lia | omega)
theorem tv_append : ∀ (l r : List Nat), tv (l ++ r) = tv l * 2 ^ r.length + tv r
  | [], r => by simp [tv]
  | b :: l, r => by
    simp only [List.cons_append, tv, tv_append l r, List.length_append, Nat.pow_add, Nat.add_mul, Nat.mul_assoc, Nat.add_assoc]
theorem tv_rev_bits (q : Nat) : ∀ (n : Nat), tv (wordBits q n).reverse = q % 2 ^ n
  | 0 => by simp [wordBits, tv, Nat.mod_one]
  | n + 1 => by
    have e : wordBits q (n + 1) = wordBits q n ++ [q / 2 ^ n % 2] := by
      unfold wordBits
      rw [List.range_succ, List.map_append]
      rfl
    rw [e, List.reverse_append]
    show tv ((q / 2 ^ n % 2) :: (wordBits q n).reverse) = _
    rw [tv, tv_rev_bits q n, List.length_reverse, wordBits_len, Nat.pow_succ, Nat.mod_mul, Nat.mul_comm (2 ^ n) _, Nat.add_comm]
/-- lexicographic order out of the order of the intervals -/
theorem lex_of_tv : ∀ (u v x y : List Nat), (∀ b ∈ u, b ≤ 1) → (∀ b ∈ v, b ≤ 1) → (tv u + 1) * 2 ^ v.length ≤ tv v * 2 ^ u.length → u ++ x < v ++ y
  | [], v, x, y, hu, hv, h => by
    have := tv_lt v hv
    simp only [tv, List.length_nil, Nat.pow_zero] at h
    (first | lia | omega)
  | a :: u, [], x, y, hu, hv, h => by
    simp only [tv, List.length_nil, Nat.pow_zero] at h
    (first | lia | omega)
  | a :: u, b :: v, x, y, hu, hv, h => by
    have ha := hu a (.head _)
    have hb := hv b (.head _)
    have h1 := tv_lt u fun c hc => hu c (.tail _ hc)
    have h2 := tv_lt v fun c hc => hv c (.tail _ hc)
    rw [List.cons_append, List.cons_append, List.cons_lt_cons_iff]
    simp only [tv, List.length_cons, Nat.pow_succ] at h
    have p1 : 0 < 2 ^ u.length := Nat.pow_pos (by decide)
    have p2 : 0 < 2 ^ v.length := Nat.pow_pos (by decide)
    match a, b, ha, hb with
    | 0, 1, _, _ => exact .inl (by decide)
    | 0, 0, _, _ =>
      refine .inr ⟨rfl, lex_of_tv u v x y (fun c hc => hu c (.tail _ hc)) (fun c hc => hv c (.tail _ hc)) ?_⟩
      simp only [Nat.zero_mul, Nat.zero_add, ← Nat.mul_assoc] at h
      exact Nat.le_of_mul_le_mul_right h (by decide)
    | 1, 1, _, _ =>
      refine .inr ⟨rfl, lex_of_tv u v x y (fun c hc => hu c (.tail _ hc)) (fun c hc => hv c (.tail _ hc)) ?_⟩
      simp only [Nat.one_mul, ← Nat.mul_assoc] at h
      have h3 := Nat.le_of_mul_le_mul_right h (by decide)
      have e1 : (2 ^ u.length + tv u + 1) * 2 ^ v.length = 2 ^ v.length * 2 ^ u.length + (tv u + 1) * 2 ^ v.length := by
        rw [Nat.add_assoc, Nat.add_mul, Nat.mul_comm (2 ^ u.length)]
      rw [e1, Nat.add_mul (2 ^ v.length) (tv v)] at h3
      exact Nat.le_of_add_le_add_left h3
    | 1, 0, _, _ =>
      simp only [Nat.one_mul, Nat.zero_mul, Nat.zero_add, ← Nat.mul_assoc] at h
      have h3 := Nat.le_of_mul_le_mul_right h (by decide)
      have h4 : tv v * 2 ^ u.length < 2 ^ v.length * 2 ^ u.length := Nat.mul_lt_mul_of_pos_right h2 p1
      have h5 : 2 ^ u.length * 2 ^ v.length ≤ (2 ^ u.length + tv u + 1) * 2 ^ v.length := Nat.mul_le_mul_right _ (by (first | lia | omega))
      rw [Nat.mul_comm (2 ^ u.length)] at h5
      (first | lia | omega)
/-- the interval of a good word lies inside its letter's stretch -/
theorem good_iv {ws : List Nat} {k sz : Nat} (hS : 0 < ws.sum) (hk : k < ws.length) (h2 : ws.sum ≤ ws.getD k 0 * 2 ^ (sz - 1)) (hz : 2 ≤ sz) :
    ∀ q, q = (2 * (ws.take k).sum + ws.getD k 0) * 2 ^ sz / (2 * ws.sum) → (ws.take k).sum * 2 ^ sz ≤ q * ws.sum ∧ (q + 1) * ws.sum ≤ ((ws.take k).sum + ws.getD k 0) * 2 ^ sz := by
  intro q hq
  obtain ⟨z, rfl⟩ : ∃ z, sz = z + 1 := ⟨sz - 1, by (first | lia | omega)⟩
  simp only [Nat.add_sub_cancel] at h2
  obtain ⟨P, hP⟩ : ∃ P, P = 2 ^ z := ⟨_, rfl⟩
  have e : 2 ^ (z + 1) = 2 * P := by rw [hP, Nat.pow_succ, Nat.mul_comm]
  rw [e] at hq ⊢
  rw [← hP] at h2
  obtain ⟨C, hC⟩ : ∃ C, C = (ws.take k).sum := ⟨_, rfl⟩
  obtain ⟨wk, hw⟩ : ∃ wk, wk = ws.getD k 0 := ⟨_, rfl⟩
  obtain ⟨S, hSe⟩ : ∃ S, S = ws.sum := ⟨_, rfl⟩
  rw [← hC, ← hw, ← hSe] at hq ⊢
  rw [← hw, ← hSe] at h2
  rw [← hSe] at hS
  clear hC hw hSe
  have h3 := Nat.div_add_mod ((2 * C + wk) * (2 * P)) (2 * S)
  have h4 := Nat.mod_lt ((2 * C + wk) * (2 * P)) (show 2 * S > 0 by (first | lia | omega))
  rw [← hq] at h3
  have e1 : (2 * C + wk) * (2 * P) = 4 * (C * P) + 2 * (wk * P) := by
    rw [Nat.add_mul, Nat.mul_mul_mul_comm, Nat.mul_left_comm wk 2 P]
  have e2 : 2 * S * q = 2 * (q * S) := by rw [Nat.mul_assoc, Nat.mul_comm S q]
  have e3 : C * (2 * P) = 2 * (C * P) := Nat.mul_left_comm _ _ _
  have e4 : (C + wk) * (2 * P) = 2 * (C * P) + 2 * (wk * P) := by rw [Nat.add_mul, Nat.mul_left_comm C, Nat.mul_left_comm wk]
  have e5 : (q + 1) * S = q * S + S := by rw [Nat.add_mul, Nat.one_mul]
  rw [e1, e2] at h3
  rw [e1] at h4
  rw [e3, e4, e5]
  (first | lia | omega)
structure Coded (ws : List Nat) (k : Nat) (b : List Nat) : Prop where
  bits : ∀ c ∈ b, c ≤ 1
  len2 : 2 ≤ b.length
  len6 : b.length ≤ 6
  lo : (ws.take k).sum * 2 ^ b.length ≤ tv b * ws.sum
  hi : (tv b + 1) * ws.sum ≤ ((ws.take k).sum + ws.getD k 0) * 2 ^ b.length
theorem coded_of_good {ws : List Nat} {k : Nat} {W : Str} (hS : 0 < ws.sum) (hk : k < ws.length) (h : GoodWord ws k W) : ∃ b, W = bitStr b ∧ Coded ws k b := by
  obtain ⟨sz, h1, h2, h3, rfl⟩ := h
  obtain ⟨q, hq⟩ : ∃ q, q = (2 * (ws.take k).sum + ws.getD k 0) * 2 ^ sz / (2 * ws.sum) := ⟨_, rfl⟩
  have hi := good_iv hS hk h3 h1 q hq
  have hlt : q < 2 ^ sz := by
    have h4 := take_sum_le ws k hk
    have h5 : (q + 1) * ws.sum ≤ 2 ^ sz * ws.sum := Nat.le_trans hi.2 (by rw [Nat.mul_comm (2 ^ sz)]; exact Nat.mul_le_mul_right _ h4)
    have := Nat.le_of_mul_le_mul_right h5 hS
    (first | lia | omega)
  refine ⟨(wordBits q sz).reverse, by unfold wordOf; rw [← hq], ?_⟩
  have e : (wordBits q sz).reverse.length = sz := by rw [List.length_reverse, wordBits_len]
  have e2 : tv (wordBits q sz).reverse = q := by rw [tv_rev_bits, Nat.mod_eq_of_lt hlt]
  exact ⟨fun c hc => wordBits_le c (List.mem_reverse.mp hc), by (first | lia | omega), by (first | lia | omega), by rw [e, e2]; exact hi.1, by rw [e, e2]; exact hi.2⟩
theorem read_val {ws : List Nat} {k : Nat} {b t : List Nat} (h : Coded ws k b) (hS : 0 < ws.sum) (ht : ∀ c ∈ t, c ≤ 1) {wide : Nat} (hw : b.length ≤ wide) (hl : wide ≤ (b ++ t).length) :
    (ws.take k).sum * 2 ^ wide ≤ tv ((b ++ t).take wide) * ws.sum ∧ tv ((b ++ t).take wide) * ws.sum < ((ws.take k).sum + ws.getD k 0) * 2 ^ wide := by
  obtain ⟨n, rfl⟩ : ∃ n, wide = b.length + n := ⟨wide - b.length, by (first | lia | omega)⟩
  rw [List.length_append] at hl
  have e : (b ++ t).take (b.length + n) = b ++ t.take n := by
    rw [List.take_append, List.take_of_length_le (by (first | lia | omega)), Nat.add_sub_cancel_left]
  have hn : (t.take n).length = n := by rw [List.length_take]; (first | lia | omega)
  have h1 := tv_lt (t.take n) fun c hc => ht c (List.mem_of_mem_take hc)
  rw [e, tv_append, hn]
  rw [hn] at h1
  have h2 := Nat.mul_le_mul_right (2 ^ n) h.lo
  have h3 := Nat.mul_le_mul_right (2 ^ n) h.hi
  rw [Nat.pow_add]
  have e1 : (ws.take k).sum * (2 ^ b.length * 2 ^ n) = (ws.take k).sum * 2 ^ b.length * 2 ^ n := (Nat.mul_assoc _ _ _).symm
  have e2 : ((ws.take k).sum + ws.getD k 0) * (2 ^ b.length * 2 ^ n) = ((ws.take k).sum + ws.getD k 0) * 2 ^ b.length * 2 ^ n := (Nat.mul_assoc _ _ _).symm
  rw [e1, e2]
  refine ⟨Nat.le_trans h2 ?_, Nat.lt_of_lt_of_le ?_ h3⟩
  · rw [Nat.mul_right_comm]
    exact Nat.mul_le_mul_right _ (Nat.le_add_right _ _)
  · rw [Nat.mul_right_comm]
    refine Nat.mul_lt_mul_of_pos_right ?_ hS
    rw [Nat.add_mul, Nat.one_mul]
    (first | lia | omega)
theorem take_sum_step : ∀ (ws : List Nat) (k : Nat), k < ws.length → (ws.take (k + 1)).sum = (ws.take k).sum + ws.getD k 0
  | [], k, h => by cases h
  | a :: r, 0, _ => by simp
  | a :: r, k + 1, h => by
    have := take_sum_step r k (by simpa using h)
    simp only [List.take_succ_cons, List.sum_cons, List.getD_cons_succ]
    rw [this]; (first | lia | omega)
theorem take_sum_mono (ws : List Nat) {j k : Nat} (h : j ≤ k) (hk : k ≤ ws.length) : (ws.take j).sum ≤ (ws.take k).sum := by
  induction k with
  | zero => have : j = 0 := by (first | lia | omega)
            subst this; exact Nat.le_refl _
  | succ k ih =>
    rcases Nat.lt_or_ge k j with h1 | h1
    · have : j = k + 1 := by (first | lia | omega)
      subst this; exact Nat.le_refl _
    · have := ih h1 (by (first | lia | omega))
      rw [take_sum_step ws k (by (first | lia | omega))]
      (first | lia | omega)
theorem coded_lt {ws : List Nat} {j k : Nat} {b c x y : List Nat} (hb : Coded ws j b) (hc : Coded ws k c) (hS : 0 < ws.sum) (hjk : j < k) (hk : k < ws.length) : b ++ x < c ++ y := by
  refine lex_of_tv b c x y hb.bits hc.bits ?_
  have h1 := Nat.mul_le_mul_right (2 ^ c.length) hb.hi
  have h2 := Nat.mul_le_mul_right (2 ^ b.length) hc.lo
  have h3 : (ws.take j).sum + ws.getD j 0 ≤ (ws.take k).sum := by
    rw [← take_sum_step ws j (by (first | lia | omega))]
    exact take_sum_mono ws hjk (by (first | lia | omega))
  have h4 : ((ws.take j).sum + ws.getD j 0) * 2 ^ b.length * 2 ^ c.length ≤ (ws.take k).sum * 2 ^ c.length * 2 ^ b.length := by
    rw [Nat.mul_right_comm (ws.take k).sum]
    exact Nat.mul_le_mul_right _ (Nat.mul_le_mul_right _ h3)
  have h5 := Nat.le_trans h1 (Nat.le_trans h4 h2)
  rw [Nat.mul_right_comm (tv b + 1), Nat.mul_right_comm (tv c)] at h5
  exact Nat.le_of_mul_le_mul_right h5 hS
theorem coded_one {ws : List Nat} {j k : Nat} {b c x : List Nat} (hb : Coded ws j b) (hc : Coded ws k c) (hS : 0 < ws.sum) (hj : j < ws.length) (hk : k < ws.length) (h1 : b <+: x) (h2 : c <+: x) : j = k := by
  obtain ⟨y, rfl⟩ := h1
  obtain ⟨z, hz⟩ := h2
  rcases Nat.lt_trichotomy j k with h | h | h
  · have := coded_lt (x := y) (y := z) hb hc hS h hk
    rw [hz] at this
    exact absurd this (List.lt_irrefl _)
  · exact h
  · have := coded_lt (x := z) (y := y) hc hb hS h hj
    rw [hz] at this
    exact absurd this (List.lt_irrefl _)
section
open PySem.Spec PyProof.V PyProof.Rows.LCg
variable {prog : Program} {A : Around} {E : Value → Shared → Prop} {env : Env}
/-- what a turn of a comprehension over enumerate(list) hands on -/
def EcEnd (h₀ : Heap) (L : Addr) (m : Str → Option Value) (s₁ : Shared) (own : List (Addr × Obj)) (ls : Addr × Obj) (J : List (Addr × Obj) → Prop) (s₂ : Shared) : Prop :=
  ∃ h' tk nw, s₂ = { s₁ with heap := h', toks := tk } ∧ Fr h₀ L h' m ∧ News h₀ L h' (own ++ nw) ∧ (∀ q ∈ own, NeAll q.1 nw) ∧ ls ∈ nw ∧ J nw
set_option maxHeartbeats 2000000 in
theorem ec_block {elt iter c : PySem.Expr} {x y : Str} {px py tp : Pos} {kk : Nat} {scope : Scope} {cl : List (Str × Addr)} {pos : Pos} {s₂ : Shared} {l it : Nat} {lo : Obj} {vs : List Value} {n : Nat} {nw₀ : List (Addr × Obj)}
    {RR : Value → Addr → Result → Shared → Prop} (J : Nat → List Value → List (Addr × Obj) → Prop)
    (hh : A.handled = none) (hsz : vs.length ≤ sizeLine) (hlc : lo.cls = .type "list") (hld : lo.data = .seq vs.toArray n) (hli : l < it)
    (hcell : ∀ z ∈ scope.names, z.2 ≠ .cell) (hkind : scope.kind = .function) (hx : scope.names.lookup x = some .local) (hy : scope.names.lookup y = some .local) (hxy : ¬ x = y)
    (he : IsEnum s₂.heap (it + 1) it 0 .none) (hit : s₂.heap.IsListIter it l 0)
    (F : Fr h₀ L s₂.heap m) (N : News h₀ L s₂.heap nw₀) (hm : (l, lo) ∈ nw₀) (hLi : @LT.lt Nat _ L it) (hi0 : h₀.get? it = none) (he0 : h₀.get? (it + 1) = none) (off : ∀ p ∈ nw₀, @LT.lt Nat _ p.1 it)
    (h0 : J 0 [] nw₀)
    (step : ∀ (i : Nat) (v : Value) (t : Tok) (ys : List Value) (nw : List (Addr × Obj)) (C D : Nat) (oE oI oC : Obj) (m₂ : Str → Option Value) (h : Heap) (tk : Nat) (E' : Value → Shared → Prop),
      vs[i]? = some v → J i ys nw → (l, lo) ∈ nw → oE.cls = .type "enumerate" → oI.cls = .type "list_iterator" → NsObj oC m₂ → m₂ x = some (.int (i : Int) t) → m₂ y = some v → Fr h₀ L h m →
      News h₀ L h ((it + 1, oE) :: (it, oI) :: (C, oC) :: (D, lst ys) :: nw) → (∀ q ∈ [(it + 1, oE), (it, oI), (C, oC), (D, lst ys)], NeAll q.1 nw) → (it + 1 < D ∧ D < C) →
      wpAny (model prog w) A (isTrue c (compEnvC scope cl C env) (eval c (compEnvC scope cl C env))) (fun okb s₃ => if okb = true then
        wpAny (model prog w) A (eval elt (compEnvC scope cl C env)) (fun z s₄ => EcEnd h₀ L m { s₂ with heap := h, toks := tk } [(it + 1, oE), (it, oI), (C, oC), (D, lst ys)] (l, lo) (J (i + 1) (ys ++ [z])) s₄) E' s₃
        else EcEnd h₀ L m { s₂ with heap := h, toks := tk } [(it + 1, oE), (it, oI), (C, oC), (D, lst ys)] (l, lo) (J (i + 1) ys) s₃) E' { s₂ with heap := h, toks := tk })
    (hRR : ∀ (D C : Nat) h tk m' ys nw, Fr h₀ L h m → News h₀ L h ((D, lst ys) :: nw) → NeAll D nw → h.Ns C m' → h₀.get? C = none → h₀.get? D = none → @Ne Nat C L → @Ne Nat D L → @Ne Nat C D → NeAll C nw → J vs.length ys nw → RR (.ref D) C (.ok .next) { s₂ with heap := h, toks := tk }) :
    wpAny (model prog w) A (newList []) (fun acc s₃ => wpAny (model prog w) A (newFunctionEnv scope env.globals cl [] env.qual none .none (some env)) (fun cenv s₄ =>
      codeAny (model prog w) A (.compStart (.ListComp elt [⟨.Tuple [.Name x px, .Name y py] kk tp, iter, [c], 0⟩] scope pos) 0 (.ref (it + 1)) acc { cenv with scope := relabel scope env }) (RR acc cenv.locals) s₄) E s₃) E s₂ := by
  refine wpAny_newObj_type (wpAny_newFunctionEnv hcell (by intro z hz; simp at hz) (fun h₁ hns₁ hsb₁ => ?_) hkind)
  dsimp only at hns₁ hsb₁ ⊢
  generalize hH2 : s₂.heap.push { cls := .type "list", dict := none, data := .seq ([] : List Value).toArray } = H2 at hns₁ hsb₁ ⊢
  obtain ⟨D, hD⟩ : ∃ D : Nat, D = s₂.heap.objs.size := ⟨_, rfl⟩
  have hC : H2.objs.size = D + 1 := by rw [← hH2, Heap.size_push, hD]
  rw [hC] at hns₁ hsb₁ ⊢
  rw [← hD]
  have hIlt : it + 1 < D := by rw [hD]; exact Heap.lt_size he
  have old : ∀ b o, s₂.heap.get? b = some o → h₁.get? b = some o := fun b o e => hsb₁.extBut b o (Nat.ne_of_lt (Nat.lt_succ_of_lt (by rw [hD]; exact Heap.lt_size e))) (Heap.get?_push_of_some _ (hH2 ▸ Heap.get?_push_of_some _ e))
  have hacc : h₁.get? D = some (lst []) := hsb₁.extBut _ _ (Nat.ne_of_lt (Nat.lt_succ_self _)) (Heap.get?_push_of_some _ (hH2 ▸ hD ▸ Heap.get?_push_size _ rfl))
  have fresh₀ : ∀ a : Nat, @LE.le Nat _ D a → h₀.get? a = none := fun a ha => by
    cases e : h₀.get? a with
    | none => rfl
    | some o => exact absurd (Heap.lt_size (F.keep _ _ e)) (Nat.not_lt.mpr (by rw [← hD]; exact ha))
  have hD₀ := fresh₀ D (Nat.le_refl _)
  have hC₀ := fresh₀ (D + 1) (Nat.le_succ _)
  have hDL : @Ne Nat D L := fun e => absurd (Nat.lt_trans (Nat.lt_succ_self _) hIlt) (Nat.not_lt.mpr (Nat.le_of_lt (by rw [e]; exact hLi)))
  have hCL : @Ne Nat (D + 1) L := fun e => absurd hLi (Nat.not_lt.mpr (by rw [← e]; (first | lia | omega)))
  have hl : s₂.heap.IsList l vs.toArray := ⟨lo, (N _ hm).1, hlc, n, hld⟩
  have W := KTurns.ofWalksU (elts := [.Name x px, .Name y py]) (k := kk) (pos := tp) (WalksT.enumerate (prog := prog) (w := w) (A := A) hh (it + 1) it l (Nat.succ_ne_self _) (ktu_ne 1 hli) (Nat.ne_of_lt hli) vs.toArray).toU
  have hasz : vs.toArray.size = vs.length := by simp
  rw [hasz] at W
  have loop : ∀ s₃ : Shared, s₃ = { s₂ with heap := h₁, toks := s₂.toks + ([] : List (Str × Value)).length } →
      codeAny (model prog w) A (.compLoop (.ListComp elt [⟨.Tuple [.Name x px, .Name y py] kk tp, iter, [c], 0⟩] scope pos) 0 (.ref (it + 1)) (.ref D) (compEnvC scope cl (D + 1) env)) (RR (.ref D) (D + 1)) s₃ := by
    rintro s₃ rfl
    refine kct_loop
      (fun k s' => ∃ h' tk i ys m' nw, s' = { s₂ with heap := h', toks := tk } ∧ i ≤ vs.length ∧ k = vs.length + 1 - i ∧ ys.length ≤ i ∧ ((∃ ov, IsEnum h' (it + 1) it i ov) ∧ h'.IsListIter it l i ∧ h'.IsList l vs.toArray) ∧ Fr h₀ L h' m ∧ h'.Ns (D + 1) m' ∧
        News h₀ L h' ((D, lst ys) :: nw) ∧ (NeAll (it + 1) nw ∧ NeAll it nw ∧ NeAll (D + 1) nw ∧ NeAll D nw) ∧ (l, lo) ∈ nw ∧ J i ys nw) ?_ (vs.length + 1)
      ⟨h₁, _, 0, [], _, nw₀, rfl, Nat.zero_le _, rfl, Nat.le_refl _, ⟨⟨_, old _ _ he⟩, hit.at fun o e => old _ o e, hl.at fun o e => old _ o e⟩, F.keeps old, hns₁, fun p hp => ?_,
        ⟨fun p hp => ?_, fun p hp => Nat.ne_of_lt (off p hp), fun p hp => ?_, fun p hp => ?_⟩, hm, h0⟩
    · rintro k s' ⟨h', tk, i, ys, m', nw, rfl, hi, rfl, hyl, hst, F', hn', N', ⟨o1, o2, o3, o4⟩, hm', hJ⟩
      by_cases hlt : i < vs.length
      · refine W.item i _ _ _ hlt hst fun v h₂ tk₂ hMd hk₂ => ?_
        refine W.go i v _ _ _ hMd fun h₃ hP hst₃ hk₃ => ?_
        obtain ⟨T, vals, rfl, ⟨t, v, hv, rfl⟩, hT⟩ := hP
        have hv' : vs[i]? = some v := by simpa using hv
        have up₃ : ∀ (c : Nat) o, @Ne Nat c (it + 1) → @Ne Nat c it → h'.get? c = some o → h₃.get? c = some o := fun c o h1 h2 e => hk₃ c o (by simp [h1, h2]) (hk₂ c o (by simp [h1, h2]) e)
        refine kcp_assign (env := compEnvC scope cl (D + 1) env) hh hT (lookup_relabel_local hx) (lookup_relabel_local hy) (by simp [compEnvC, relabel, hkind]) (hn'.at' fun o e => up₃ _ o (by (first | lia | omega)) (by (first | lia | omega)) e) fun h₄ tk₄ hn₄ hs₄ => ?_
        replace hs₄ : ∀ (c : Nat) o, @Ne Nat c (D + 1) → h₃.get? c = some o → h₄.get? c = some o := hs₄
        replace hn₄ : h₄.Ns (D + 1) _ := hn₄
        have up : ∀ (c : Nat) o, @Ne Nat c (it + 1) → @Ne Nat c it → @Ne Nat c (D + 1) → h'.get? c = some o → h₄.get? c = some o := fun c o h1 h2 h3 e => hs₄ c o h3 (up₃ c o h1 h2 e)
        obtain ⟨⟨ov, hE₃⟩, ⟨oI, heI, hcI, hdI⟩, hL₃⟩ := hst₃
        have heE : h₄.get? (it + 1) = some _ := hs₄ _ _ (by (first | lia | omega)) hE₃
        have heI₄ : h₄.get? it = some oI := hs₄ _ _ (by (first | lia | omega)) heI
        obtain ⟨oE, hoE⟩ : ∃ oE : Obj, h₄.get? (it + 1) = some oE ∧ oE.cls = .type "enumerate" ∧ ∀ h : Heap, h.get? (it + 1) = some oE → ∃ ov, IsEnum h (it + 1) it ((i + 1 : Nat) : Int) ov := ⟨_, heE, rfl, fun h e => ⟨_, e⟩⟩
        obtain ⟨oC, heC, hoC⟩ := ns_obj hn₄
        have F₄ : Fr h₀ L h₄ m := ⟨F'.ns.at' fun o e => up _ o (by (first | lia | omega)) (by (first | lia | omega)) (Ne.symm hCL) e, fun c o e => up c o (fun q => by subst q; rw [he0] at e; cases e) (fun q => by subst q; rw [hi0] at e; cases e) (fun q => by subst q; rw [hC₀] at e; cases e) (F'.keep c o e), F'.above⟩
        have N₄ : News h₀ L h₄ ((it + 1, oE) :: (it, oI) :: (D + 1, oC) :: (D, lst ys) :: nw) := fun q hq => by
          rcases List.mem_cons.mp hq with rfl | hq
          · exact ⟨hoE.1, by show @Ne Nat _ _; (first | lia | omega), he0⟩
          rcases List.mem_cons.mp hq with rfl | hq
          · exact ⟨heI₄, by show @Ne Nat _ _; (first | lia | omega), hi0⟩
          rcases List.mem_cons.mp hq with rfl | hq
          · exact ⟨heC, hCL, hC₀⟩
          · have z := N' q hq
            refine ⟨?_, z.2⟩
            rcases List.mem_cons.mp hq with rfl | hq
            · exact up _ _ (by show @Ne Nat _ _; (first | lia | omega)) (by show @Ne Nat _ _; (first | lia | omega)) (by show @Ne Nat _ _; (first | lia | omega)) z.1
            · exact up _ _ (o1 q hq) (o2 q hq) (o3 q hq) z.1
        have fin : ∀ (ys' : List Value) (h₅ : Heap) (tk₅ : Nat) (nw₅ : List (Addr × Obj)), ys'.length ≤ i + 1 → Fr h₀ L h₅ m → News h₀ L h₅ ((it + 1, oE) :: (it, oI) :: (D + 1, oC) :: (D, lst ys') :: nw₅) → (NeAll (it + 1) nw₅ ∧ NeAll it nw₅ ∧ NeAll (D + 1) nw₅ ∧ NeAll D nw₅) → (l, lo) ∈ nw₅ → J (i + 1) ys' nw₅ →
            ∃ q', q' < vs.length + 1 - i ∧ (∃ h' tk i ys m' nw, ({ s₂ with heap := h₅, toks := tk₅ } : Shared) = { s₂ with heap := h', toks := tk } ∧ i ≤ vs.length ∧ q' = vs.length + 1 - i ∧ ys.length ≤ i ∧ ((∃ ov, IsEnum h' (it + 1) it i ov) ∧ h'.IsListIter it l i ∧ h'.IsList l vs.toArray) ∧ Fr h₀ L h' m ∧ h'.Ns (D + 1) m' ∧
        News h₀ L h' ((D, lst ys) :: nw) ∧ (NeAll (it + 1) nw ∧ NeAll it nw ∧ NeAll (D + 1) nw ∧ NeAll D nw) ∧ (l, lo) ∈ nw ∧ J i ys nw) := by
          intro ys' h₅ tk₅ nw₅ hl₅ F₅ N₅ o₅ hm₅ hJ₅
          exact ⟨vs.length + 1 - (i + 1), by (first | lia | omega), h₅, tk₅, i + 1, ys', _, nw₅, rfl, hlt, rfl, hl₅, ⟨hoE.2.2 h₅ (N₅ _ (.head _)).1, ⟨oI, (N₅ _ (.tail _ (.head _))).1, hcI, hdI⟩, ⟨lo, (N₅ _ (.tail _ (.tail _ (.tail _ (.tail _ hm₅))))).1, hlc, n, hld⟩⟩, F₅, hoC.ns (N₅ _ (.tail _ (.tail _ (.head _)))).1, fun q hq => N₅ q (.tail _ (.tail _ (.tail _ hq))), o₅, hm₅, hJ₅⟩
        refine wpAny_mono (step i v t ys nw (D + 1) D oE oI oC _ h₄ _ _ hv' hJ hm' hoE.2.1 hcI hoC (by simp [hxy]) (by simp) F₄ N₄ ?_ ⟨hIlt, Nat.lt_succ_self _⟩) (fun okb s₅ h₅ => ?_) fun _ _ e => e
        · intro q hq
          simp only [List.mem_cons, List.not_mem_nil, or_false] at hq
          rcases hq with rfl | rfl | rfl | rfl
          · exact o1
          · exact o2
          · exact o3
          · exact o4
        cases okb with
        | false =>
          simp only [Bool.false_eq_true, if_false] at h₅ ⊢
          obtain ⟨h₅, tk₅, nw₅, rfl, F₅, N₅, o₅, hm₅, hJ₅⟩ := h₅
          exact fin ys h₅ tk₅ nw₅ (Nat.le_succ_of_le hyl) F₅ N₅ ⟨o₅ _ (.head _), o₅ _ (.tail _ (.head _)), o₅ _ (.tail _ (.tail _ (.head _))), o₅ _ (.tail _ (.tail _ (.tail _ (.head _))))⟩ hm₅ hJ₅
        | true =>
          simp only [if_true] at h₅ ⊢
          refine wpAny_mono h₅ (fun z s₆ h₆ => ?_) fun _ _ e => e
          obtain ⟨h₅, tk₅, nw₅, rfl, F₅, N₅, o₅, hm₅, hJ₅⟩ := h₆
          have zD := (N₅ (D, lst ys) (.tail _ (.tail _ (.tail _ (.head _))))).1
          have p1 : NeAll (it + 1) nw₅ := o₅ _ (.head _)
          have p2 : NeAll it nw₅ := o₅ _ (.tail _ (.head _))
          have p3 : NeAll (D + 1) nw₅ := o₅ _ (.tail _ (.tail _ (.head _)))
          have p4 : NeAll D nw₅ := o₅ _ (.tail _ (.tail _ (.tail _ (.head _))))
          refine append_at (hsz := by show ys.toArray.size ≤ sizeLine; rw [List.size_toArray]; exact Nat.le_trans hyl (Nat.le_trans hi hsz)) zD fun h₆ hs₆ hD₆ => ?_
          refine fin (ys ++ [z]) h₆ _ nw₅ (by rw [List.length_append, List.length_singleton]; exact Nat.succ_le_succ hyl) (F₅.change hs₆ hDL hD₀) (fun q hq => ?_) ⟨p1, p2, p3, p4⟩ hm₅ hJ₅
          have z := fun h => N₅ q h
          rcases List.mem_cons.mp hq with rfl | hq
          · exact ⟨hs₆.extBut _ _ (by show @Ne Nat _ _; (first | lia | omega)) (z (.head _)).1, (z (.head _)).2⟩
          rcases List.mem_cons.mp hq with rfl | hq
          · exact ⟨hs₆.extBut _ _ (by show @Ne Nat _ _; (first | lia | omega)) (z (.tail _ (.head _))).1, (z (.tail _ (.head _))).2⟩
          rcases List.mem_cons.mp hq with rfl | hq
          · exact ⟨hs₆.extBut _ _ (by show @Ne Nat _ _; (first | lia | omega)) (z (.tail _ (.tail _ (.head _)))).1, (z (.tail _ (.tail _ (.head _)))).2⟩
          rcases List.mem_cons.mp hq with rfl | hq
          · exact ⟨hD₆.trans (congrArg some (lst_snoc ys _)), hDL, hD₀⟩
          · have zz := z (.tail _ (.tail _ (.tail _ (.tail _ hq))))
            exact ⟨hs₆.extBut _ _ (p4 q hq) zz.1, zz.2⟩
      · have hin : i = vs.length := by (first | lia | omega)
        subst hin
        refine W.done _ _ _ hst fun h₂ tk₂ hk₂ => ?_
        have up : ∀ (c : Nat) o, @Ne Nat c (it + 1) → @Ne Nat c it → h'.get? c = some o → h₂.get? c = some o := fun c o h1 h2 e => hk₂ c o (by simp [h1, h2]) e
        refine hRR D (D + 1) h₂ tk₂ m' ys nw ⟨F'.ns.at' fun o e => up _ o (by (first | lia | omega)) (by (first | lia | omega)) e, fun c o e => up c o (fun q => by subst q; rw [he0] at e; cases e) (fun q => by subst q; rw [hi0] at e; cases e) (F'.keep c o e), F'.above⟩ (fun q hq => ?_) o4 (hn'.at' fun o e => up _ o (by (first | lia | omega)) (by (first | lia | omega)) e) hC₀ hD₀ hCL hDL (by (first | lia | omega)) o3 hJ
        have z := N' q hq
        refine ⟨?_, z.2⟩
        rcases List.mem_cons.mp hq with rfl | hq
        · exact up _ _ (by show @Ne Nat _ _; (first | lia | omega)) (by show @Ne Nat _ _; (first | lia | omega)) z.1
        · exact up _ _ (o1 q hq) (o2 q hq) z.1
    · rcases List.mem_cons.mp hp with rfl | hp
      · exact ⟨hacc, hDL, hD₀⟩
      · exact ⟨old _ _ (N p hp).1, (N p hp).2⟩
    · exact Nat.ne_of_lt (Nat.lt_succ_of_lt (off p hp))
    · have := off p hp; exact Nat.ne_of_lt (by show @LT.lt Nat _ _ _; (first | lia | omega))
    · have := off p hp; exact Nat.ne_of_lt (by show @LT.lt Nat _ _ _; (first | lia | omega))
  exact codeAny_compStart_list (loop _ rfl) (wpAny_pyIter_enum (old _ _ he) (loop _ rfl))
theorem NeAll.off1 {D : Addr} : ∀ {l : List (Addr × Obj)}, NeAll D l → Off1 D l
  | [], _ => trivial
  | _ :: _, h => ⟨h _ (.head _), NeAll.off1 fun q hq => h q (.tail _ hq)⟩
theorem off1_ne {D : Addr} : ∀ {l : List (Addr × Obj)}, Off1 D l → NeAll D l
  | [], _ => fun q hq => nomatch hq
  | _ :: _, h => fun q hq => by
    rcases List.mem_cons.mp hq with rfl | hq
    · exact h.1
    · exact off1_ne h.2 q hq
def EcSrc (prog : Program) (w : World) (A : Around) (h₀ : Heap) (L : Addr) (m : Str → Option Value) (env : Env) (c elt : PySem.Expr) (x y : Str) (scope : Scope) (cl : List (Str × Addr)) (Fin : Shared → List Value → List (Addr × Obj) → Prop) (xv : Value) (s₁ : Shared) : Prop :=
  ∃ (l it n : Nat) (lo : Obj) (vs : List Value) (nw₀ : List (Addr × Obj)) (J : Nat → List Value → List (Addr × Obj) → Prop), xv = .ref (it + 1) ∧ A.handled = none ∧ vs.length ≤ sizeLine ∧ lo.cls = .type "list" ∧ lo.data = .seq vs.toArray n ∧ l < it ∧
    IsEnum s₁.heap (it + 1) it 0 .none ∧ s₁.heap.IsListIter it l 0 ∧ Fr h₀ L s₁.heap m ∧ News h₀ L s₁.heap nw₀ ∧ (l, lo) ∈ nw₀ ∧ @LT.lt Nat _ L it ∧ h₀.get? it = none ∧ h₀.get? (it + 1) = none ∧ (∀ p ∈ nw₀, @LT.lt Nat _ p.1 it) ∧ J 0 [] nw₀ ∧
    (∀ (i : Nat) (v : Value) (t : Tok) (ys : List Value) (nw : List (Addr × Obj)) (C D : Nat) (oE oI oC : Obj) (m₂ : Str → Option Value) (h : Heap) (tk : Nat) (E' : Value → Shared → Prop),
      vs[i]? = some v → J i ys nw → (l, lo) ∈ nw → oE.cls = .type "enumerate" → oI.cls = .type "list_iterator" → NsObj oC m₂ → m₂ x = some (.int (i : Int) t) → m₂ y = some v → Fr h₀ L h m →
      News h₀ L h ((it + 1, oE) :: (it, oI) :: (C, oC) :: (D, lst ys) :: nw) → (∀ q ∈ [(it + 1, oE), (it, oI), (C, oC), (D, lst ys)], NeAll q.1 nw) → (it + 1 < D ∧ D < C) →
      wpAny (model prog w) A (isTrue c (compEnvC scope cl C env) (eval c (compEnvC scope cl C env))) (fun okb s₃ => if okb = true then
        wpAny (model prog w) A (eval elt (compEnvC scope cl C env)) (fun z s₄ => EcEnd h₀ L m { s₁ with heap := h, toks := tk } [(it + 1, oE), (it, oI), (C, oC), (D, lst ys)] (l, lo) (J (i + 1) (ys ++ [z])) s₄) E' s₃
        else EcEnd h₀ L m { s₁ with heap := h, toks := tk } [(it + 1, oE), (it, oI), (C, oC), (D, lst ys)] (l, lo) (J (i + 1) ys) s₃) E' { s₁ with heap := h, toks := tk }) ∧ ∀ ys nw, J vs.length ys nw → Fin s₁ ys nw
theorem ec_enum {elt c : PySem.Expr} {x y : Str} {scope : Scope} {cl : List (Str × Addr)} {l n : Nat} {lo : Obj} {vs : List Value} {nw₀ : List (Addr × Obj)} {Fin : Shared → List Value → List (Addr × Obj) → Prop} {s₁ : Shared}
    (J : Nat → Nat → List Value → List (Addr × Obj) → Prop)
    (hh : A.handled = none) (F : Fr h₀ L s₁.heap m) (N : News h₀ L s₁.heap nw₀) (hm : (l, lo) ∈ nw₀) (hlc : lo.cls = .type "list") (hld : lo.data = .seq vs.toArray n) (hsz : vs.length ≤ sizeLine)
    (rest : ∀ it : Nat, AllLt it nw₀ → J it 0 [] nw₀ ∧
    (∀ (i : Nat) (v : Value) (t : Tok) (ys : List Value) (nw : List (Addr × Obj)) (C D : Nat) (oE oI oC : Obj) (m₂ : Str → Option Value) (h : Heap) (tk : Nat) (E' : Value → Shared → Prop),
      vs[i]? = some v → J it i ys nw → (l, lo) ∈ nw → oE.cls = .type "enumerate" → oI.cls = .type "list_iterator" → NsObj oC m₂ → m₂ x = some (.int (i : Int) t) → m₂ y = some v → Fr h₀ L h m →
      News h₀ L h ((it + 1, oE) :: (it, oI) :: (C, oC) :: (D, lst ys) :: nw) → (∀ q ∈ [(it + 1, oE), (it, oI), (C, oC), (D, lst ys)], NeAll q.1 nw) → (it + 1 < D ∧ D < C) →
      wpAny (model prog w) A (isTrue c (compEnvC scope cl C env) (eval c (compEnvC scope cl C env))) (fun okb s₃ => if okb = true then
        wpAny (model prog w) A (eval elt (compEnvC scope cl C env)) (fun z s₄ => EcEnd h₀ L m { s₁ with heap := h, toks := tk } [(it + 1, oE), (it, oI), (C, oC), (D, lst ys)] (l, lo) (J it (i + 1) (ys ++ [z])) s₄) E' s₃
        else EcEnd h₀ L m { s₁ with heap := h, toks := tk } [(it + 1, oE), (it, oI), (C, oC), (D, lst ys)] (l, lo) (J it (i + 1) ys) s₃) E' { s₁ with heap := h, toks := tk }) ∧ ∀ g : Heap, ∀ ys nw, J it vs.length ys nw → Fin { s₁ with heap := g } ys nw) :
    wpAny (model prog w) A (call (.type "enumerate") [.ref l]) (EcSrc prog w A h₀ L m env c elt x y scope cl Fin) E s₁ := by
  have hax := N _ hm
  have hl : s₁.heap.IsList l vs.toArray := ⟨lo, hax.1, hlc, n, hld⟩
  refine call_enumerate_list hl fun h' hE hI hsz' hk => ?_
  have lt : ∀ p ∈ nw₀, @LT.lt Nat _ p.1 s₁.heap.objs.size := fun p hp => Heap.lt_size (N p hp).1
  obtain ⟨r1, r2, r3⟩ := rest s₁.heap.objs.size (allLt_of lt)
  exact ⟨l, s₁.heap.objs.size, n, lo, vs, nw₀, J _, rfl, hh, hsz, hlc, hld, Heap.lt_size hax.1, hE, hI, F.keeps hk, N.grown hk, hm, F.ns.lt, ktu_new F (Nat.le_refl _), ktu_new F (Nat.le_add_right _ _), lt, r1, r2, r3 h'⟩
theorem ec_Assign {elt iter c : PySem.Expr} {x y z : Str} {px py tp pz : Pos} {kk : Nat} {scope : Scope} {cl : List (Str × Addr)} {pos spos : Pos} {s : Shared} {Q : Flow → Shared → Prop} (_F₀ : Fr h₀ L s.heap m) (hLe : env.locals = L)
    (hsw : swapsWith (.ListComp elt [⟨.Tuple [.Name x px, .Name y py] kk tp, iter, [c], 0⟩] scope pos) (some (.Name z pz)) spos.line env = pure true)
    (hclos : closureFor scope env = pure cl) (hcell : ∀ z ∈ scope.names, z.2 ≠ .cell) (hkind : scope.kind = .function)
    (hnames : ∀ z ∈ scope.names, z.2 = .local → scope.names.lookup z.1 = some .local) (hx : scope.names.lookup x = some .local) (hy : scope.names.lookup y = some .local) (hxy : ¬ x = y)
    (hz : env.kindOf z = some .local) (hp : (env.scope.kind == .class || (env.scope.kind == .module && env.locals != env.globals)) = false)
    (h : wpAny (model prog w) A (eval iter env) (EcSrc prog w A h₀ L m env c elt x y scope cl (fun s₂ => FinA h₀ L m s₂ z Q)) E s)
    (hs : ∀ x, foldedSetIterable iter env x = pure x := by intro _; rfl) :
    wpAny (model prog w) A (exec (.Assign [.Name z pz] (.ListComp elt [⟨.Tuple [.Name x px, .Name y py] kk tp, iter, [c], 0⟩] scope pos) spos) env) Q E s := by
  subst hLe
  rw [exec_Assign_Name_used _ _ _ _ hsw]
  refine wpAny_bind (wpAny_standAt (wpAny_bind ?_))
  show wpAny _ A (do let _ ← comprehension (.ListComp elt [⟨.Tuple [.Name x px, .Name y py] kk tp, iter, [c], 0⟩] scope pos) scope env _ (newList []) false (eval iter env) (some (assign (.Name z pz) env))) _ _ s
  refine wpAny_bind (wpAny_mono (wpAny_comprehension_free (use := some (assign (.Name z pz) env)) (Q := fun _ s' => Q .next s') rfl hs hclos hkind hnames
    (wpAny_mono h (fun xv s₁ h₁ => ?_) fun _ _ e => e)) (fun _ s' hq => wpAny_pure (wpAny_pure hq)) fun _ _ e => e)
  obtain ⟨l, it, n, lo, vs, nw₀, J, rfl, hh, hsz, hlc, hld, hli, hE, hI, F, N, hm, hLi, hi0, he0, off, h0, step, fin⟩ := h₁
  refine wpAny_pyIter_enum hE ?_
  refine ec_block J hh hsz hlc hld hli hcell hkind hx hy hxy hE hI F N hm hLi hi0 he0 off h0 step ?_
  intro D C h' tk m' ys nw F' N' o1 hn hC₀ hD₀ hCL hDL hCD offC hJ
  show wpAny _ A (assign (.Name z pz) env (.ref D)) _ _ _
  refine wpAny_assign_Name (wpAny_storeName_local hz F'.ns (fun h₂ hn₂ hs₂ => ?_) hp)
  have hL₀ : h₀.get? env.locals = none := Heap.get?_none_of_le F'.above
  have F₂ : Fr h₀ env.locals h₂ (fun q => if q = z then some (.ref D) else m q) := ⟨hn₂, fun b o e => hs₂.extBut b o (fun q => by rw [q, hL₀] at e; cases e) (F'.keep b o e), F'.above⟩
  refine ⟨m', hn.sameBut hs₂ hCL, fun h'' hs'' => fin ys nw hJ D h'' _ (F₂.change hs'' hCL hC₀) (fun p hp => ?_) (NeAll.off1 o1)⟩
  have zz : h₂.get? p.1 = some p.2 := hs₂.extBut _ _ (N' p hp).2.1 (N' p hp).1
  refine ⟨hs''.extBut _ _ ?_ zz, (N' p hp).2⟩
  rcases List.mem_cons.mp hp with rfl | hp
  · exact Ne.symm hCD
  · exact offC p hp
end
section
open PySem.Spec PyProof.V PyProof.Rows.LCg
variable {prog : Program} {A : Around} {E : Value → Shared → Prop} {env : Env}
def ScSrc (prog : Program) (w : World) (A : Around) (h₀ : Heap) (L : Addr) (m : Str → Option Value) (env : Env) (elt : PySem.Expr) (x : Str) (scope : Scope) (cl : List (Str × Addr)) (Fin : Shared → List Value → List (Addr × Obj) → Prop) (xv : Value) (s₁ : Shared) : Prop :=
  ∃ (y : Str) (t : Tok) (nw : List (Addr × Obj)), xv = .str y t ∧ A.handled = none ∧ Fr h₀ L s₁.heap m ∧ News h₀ L s₁.heap nw ∧ (y.cps.all (· < 128)) = true ∧ y.cps.size ≤ sizeLine ∧
    ∀ g : Heap, CompRest prog w A h₀ L m env elt x scope cl { s₁ with heap := g } (fun _ => True) (SignAt y) (Fin { s₁ with heap := g }) y.cps.size 0 [] nw
theorem sc_ListComp {elt iter : PySem.Expr} {x : Str} {px : Pos} {scope : Scope} {cl : List (Str × Addr)} {pos : Pos} {s : Shared} {Q : Value → Shared → Prop} (_F₀ : Fr h₀ L s.heap m)
    (hclos : closureFor scope env = pure cl) (hcell : ∀ y ∈ scope.names, y.2 ≠ .cell) (hkind : scope.kind = .function)
    (hnames : ∀ y ∈ scope.names, y.2 = .local → scope.names.lookup y.1 = some .local) (hx : scope.names.lookup x = some .local)
    (h : wpAny (model prog w) A (eval iter env) (ScSrc prog w A h₀ L m env elt x scope cl (fun s₂ => FinE h₀ L m s₂ Q)) E s)
    (hs : ∀ x, foldedSetIterable iter env x = pure x := by intro _; rfl) :
    wpAny (model prog w) A (eval (.ListComp elt [⟨.Name x px, iter, [], 0⟩] scope pos) env) Q E s := by
  rw [eval_ListComp]
  refine wpAny_comprehension_free (use := none) rfl hs hclos hkind hnames (wpAny_mono h (fun xv s₁ h₁ => ?_) fun _ _ e => e)
  obtain ⟨y, t, nw, rfl, hh, F, N, hasc, hsz, R⟩ := h₁
  refine wpAny_pyIter_ascii hasc ?_
  refine block_U (S := fun _ => True) (Walks.strAscii hh _ y t) hsz (fun i h st => by obtain ⟨o, e, _⟩ := st; exact ⟨o, e⟩) (fun i h h' o nw st e e' _ _ _ => by obtain ⟨o', q, r⟩ := st; rw [e] at q; cases q; exact ⟨o, e', r⟩) hcell hkind hx ⟨_, Heap.get?_push_size _ rfl, rfl, rfl⟩ (fun b hb => ?_)
    (F.keeps fun _ _ e => Heap.get?_push_of_some _ e) (N.grown fun _ _ e => Heap.get?_push_of_some _ e) (Nat.ne_of_lt F.ns.lt) (next_is_new F) (fun p hp => Nat.ne_of_lt (Heap.lt_size (N p hp).1)) trivial (R _) ?_
  · rw [List.mem_singleton.mp hb]
    show s₁.heap.objs.size < (s₁.heap.push _).objs.size
    rw [Heap.size_push]; exact Nat.lt_succ_self _
  · intro D C h tk m' ys nw' F' N' o1 hn hC₀ hD₀ hCL hDL hCD offC fin
    refine ⟨m', hn, fun h'' hs'' => fin D h'' tk (F'.change hs'' hCL hC₀) (fun p hp => ?_) o1⟩
    refine ⟨hs''.extBut _ _ ?_ (N' p hp).1, (N' p hp).2⟩
    rcases List.mem_cons.mp hp with rfl | hp
    · exact Ne.symm hCD
    · exact offC p hp
end
theorem bit_to {gs : List Nat} {k : Nat} (h : k ≤ gs.length) : Txt.slice (bitStr gs) none (some (k : Int)) = bitStr (gs.take k) := by
  have e := eq_of_beq (slice_closes_toL (x := bitStr gs) (j := (k : Int)) (by (first | lia | omega)) (by rw [bit_len]; (first | lia | omega)))
  rw [e]
  unfold bitStr
  simp [List.map_take]
theorem bit_from {gs : List Nat} {k : Nat} (h : k ≤ gs.length) : Txt.slice (bitStr gs) (some (k : Int)) none = bitStr (gs.drop k) := by
  rw [slice_from_eq (x := bitStr gs) (i := (k : Int)) (b := (gs.length : Int)) (by (first | lia | omega)) (by rw [bit_len]; (first | lia | omega)) (by rw [bit_len])]
  unfold bitStr
  have e : ((gs.length : Int) - (k : Int)).toNat = gs.length - k := by (first | lia | omega)
  rw [e]
  show (⟨(List.take (gs.length - k) (List.drop ((k : Int)).toNat (gs.map (48 + ·)))).toArray⟩ : Str) = ⟨((gs.drop k).map (48 + ·)).toArray⟩
  rw [Int.toNat_natCast, List.map_drop, List.take_of_length_le (by simp)]
theorem bit_getD (gs : List Nat) {i : Nat} (h : i < gs.length) : (bitStr gs).cps.getD i 0 = 48 + gs[i] := by
  unfold bitStr
  simp [h]
theorem bit_rev (gs : List Nat) (u : Tok) : Txt.sliceBy (bitStr gs) none none (-1, u) = bitStr gs.reverse := by
  refine str_ext_getD ?_ fun i hi => ?_
  · rw [step_rev_len, bit_len, bit_len, List.length_reverse]
  · rw [step_rev_len, bit_len] at hi
    rw [step_rev_getD _ _ _ (by rw [bit_len]; exact hi), bit_len, bit_getD _ (by (first | lia | omega)), bit_getD _ (by rw [List.length_reverse]; exact hi), List.getElem_reverse]
theorem ints_snoc {k : Int} {t : Tok} {vs : List Value} {ks : List Int} (h : IntsAre vs ks) : IntsAre (vs ++ [.int k t]) (ks ++ [k]) := h.append (.cons k t .nil)
theorem valR_cons (f g : Nat → Nat) (n : Nat) : ∀ (k l : Nat), (∀ j, f (l + j + 1) = g (l + j)) → valR f n (l + 1) k = valR g n l k
  | 0, l, _ => rfl
  | k + 1, l, h => by
    rw [valR, valR, valR_cons f g n k (l + 1) (fun j => by have := h (j + 1); rw [show l + (j + 1) + 1 = l + 1 + j + 1 by (first | lia | omega), show l + (j + 1) = l + 1 + j by (first | lia | omega)] at this; exact this)]
    have := h 0
    simp only [Nat.add_zero] at this
    rw [this]
theorem valR_bits : ∀ (l : List Nat), valR (fun j => l.getD j 0) 1 0 l.length = tv l.reverse
  | [] => rfl
  | a :: r => by
    have e := valR_cons (fun j => (a :: r).getD j 0) (fun j => r.getD j 0) 1 r.length 0 (fun j => by simp)
    rw [List.length_cons, valR, e, valR_bits r, List.reverse_cons, tv_append]
    simp [tv]
    (first | lia | omega)
def lrDef : Stmt := nthS PySem.Challenge.pw_pg0224_01.main.body 16
def lrBody : List Stmt := sFor (nthS (sBody lrDef) 3)
theorem bit_ascii (bs : List Nat) (h : ∀ b ∈ bs, b ≤ 1) : ((bitStr bs).cps.all (· < 128)) = true := by
  rw [Array.all_eq_true']
  intro c hc
  have hc' : c ∈ bs.map (48 + ·) := by simpa [bitStr] using hc
  obtain ⟨b, hb, rfl⟩ := List.mem_map.mp hc'
  have := h b hb
  simp; (first | lia | omega)
set_option maxRecDepth 100000 in
set_option maxHeartbeats 8000000 in
theorem lr_number {stmt : Stmt} {scope : Scope} (hst : stmt = nthS lrBody 0) (hsc : scope = sScope lrDef) {g' : Heap} {L' : Addr} {m2 : Str → Option Value} {u v : TS} (hB : okB u v) {gs : List Nat} {wide : Nat} {tg tw : Tok} {oW oT : Obj} {QF : Flow → Shared → Prop} {EE : Value → Shared → Prop}
   (B : Below (ktrTop dp un gd cn cs L a ccd cl outer) base (envX cn cs L a ccd cl :: outer) g') (X : (Mine.hd.heap_39 w.params).In g') (T : Top p loose mean mg mb g') (C1 : CodeHd g' 52 48) (C2 : CodeHd g' 59 55) (F : Fr g' L' s.heap m2)
   (N : News g' L' s.heap ((L' + 1 + 1 + 1, oW) :: (L' + 1 + 1, oT) :: (TB u v ++ rest))) (hW : oW.data = .cell (some (.int (wide : Int) tw))) (hT : oT.data = .cell (some (.str (bitStr gs) tg)))
   (hc : Clear ((L' + 1 + 1 + 1, oW) :: (L' + 1 + 1, oT) :: rest)) (hg : ∀ b ∈ gs, b ≤ 1) (hgl : gs.length ≤ 100) (hw1 : 2 ≤ wide) (hw2 : wide ≤ 6) (hwg : wide ≤ gs.length)
   (hd : dp + 145 < recursionLimit) (hu : un + 2480 < cLine)
   (ret : ∀ (v' : TS) (h' : Heap) (tk' : Nat) (t : Tok), okB u v' → (∀ p ∈ (L' + 1 + 1 + 1, oW) :: (L' + 1 + 1, oT) :: rest, NeAll p.1 (TB u v) → NeAll p.1 (TB u v')) → Fr g' L' h' (fun y => if y = Str.ofString "number" then some (.int (tv (gs.take wide) : Int) t) else m2 y) → News g' L' h' ((L' + 1 + 1 + 1, oW) :: (L' + 1 + 1, oT) :: (TB u v' ++ rest)) → QF .next { s with heap := h', toks := tk' }) :
   wpAny (model Challenge.rw_pg0224_01.row.prog w) ((ktrTop dp un gd cn cs L a ccd cl outer).deeper (envOfC (Str.ofString "_law_read") scope L' 91 (.ref 90))) (exec stmt (envOfC (Str.ofString "_law_read") scope L' 91 (.ref 90))) QF EE s := by
  conv at hst => rhs; whnf
  conv at hsc => rhs; whnf
  subst hst hsc
  have hgn := bit_len gs
  repeat' (first | (k_unfold; (try dsimp only)) | walk1 | (dsimp only; walk1))
  refine Halt.out ?_
  k_dflt (refine sc_ListComp (_F₀ := by k_asm) (by with_unfolding_all rfl) (by decide) (by rfl) (by decide) (by rfl) ?_)
  repeat' (first | (k_unfold; (try dsimp only)) | walk1 | (dsimp only; walk1))
  rename_i h8 t8 k8 F8' N8' le8 h9 t9 k9 F9 N9
  clear F8' N8' le8
  rw [bit_to hwg, bit_rev]
  obtain ⟨l, hl⟩ : ∃ l, l = (gs.take wide).reverse := ⟨_, rfl⟩
  rw [← hl]
  have hll : l.length = wide := by rw [hl, List.length_reverse, List.length_take]; (first | lia | omega)
  have hlb : ∀ b ∈ l, b ≤ 1 := fun b hb => hg b (List.mem_of_mem_take (List.mem_reverse.mp (hl ▸ hb)))
  refine ⟨_, _, _, rfl, by rfl, F9, N9, bit_ascii _ hlb, ?_, ?_⟩
  · show (bitStr l).length ≤ sizeLine
    rw [bit_len, sizeLine_eq]; (first | lia | omega)
  intro gheap
  try dsimp only
  refine comp_ind (fun i ys nw => nw = _ ∧ IntsAre ys ((l.take i).map fun (b : Nat) => (b : Int))) ?_ ?_ ⟨rfl, .nil⟩
  · rintro ys nw ⟨rfl, hys⟩
    intro D h6 tk6 F6 N6 off6
    try dsimp only
    repeat' (first | (k_unfold; (try dsimp only)) | walk1 | (dsimp only; walk1))
    refine Halt.out ?_
    have hsz : (bitStr l).cps.size = l.length := bit_len l
    rw [hsz, List.take_length] at hys
    have hDn := ne_TB N6 hB (.head _) rfl (fun p hp => .tail _ (.tail _ (.tail _ (List.mem_append_left _ hp))))
    refine d2iB hB (n := 1) (f := fun j => l.getD j 0) (rest := (D, LCg.lst ys) :: (L' + 1 + 1 + 1, oW) :: (L' + 1 + 1, oT) :: rest) B F6 X C2 (cb_drop N6 ?_) (.head _) T rfl (clear_cons hDn hc) (by show dp + 1 + 110 < recursionLimit; exact room hd rfl) (by show un + 3 + 2100 < cLine; exact room hu rfl) (by decide) (by decide) hys (by rw [List.length_map]; (first | lia | omega)) ?_ ?_ ?_
    · (repeat' (first | with_reducible exact List.mem_cons_self | with_reducible assumption | with_reducible refine List.mem_cons_of_mem _ ?_ | (with_reducible refine List.mem_append_left _ ?_; with_reducible assumption) | with_reducible refine List.mem_append_right _ ?_ | with_reducible exact sub_nil | with_reducible refine sub_cons ?_ ?_ | with_reducible refine sub_app ?_ ?_ | intro p hp))
    · intro j hj
      rw [List.length_map] at hj
      rw [List.getD_eq_getElem?_getD, List.getElem?_map, List.getElem?_eq_getElem hj]
      show ((l[j] : Nat) : Int) = ((l.getD j 0 : Nat) : Int)
      rw [List.getD_eq_getElem?_getD, List.getElem?_eq_getElem hj]; rfl
    · intro j hj
      rw [List.length_map] at hj
      have := hlb l[j] (List.getElem_mem hj)
      show l.getD j 0 < 2 ^ 1
      rw [List.getD_eq_getElem?_getD, List.getElem?_eq_getElem hj, Option.getD_some]
      (first | lia | omega)
    · intro v' t' h' tk' hB' hap F7 N7
      rw [List.length_map, valR_bits, hl, List.reverse_reverse]
      try dsimp only
      repeat' (first | (k_unfold; (try dsimp only)) | walk1 | (dsimp only; walk1))
      rename_i hx Fx Nx
      refine ret v' _ _ _ hB' (fun p hp h => hap p (.tail _ hp) h) Fx (cb_drop Nx ?_)
      (repeat' (first | with_reducible exact List.mem_cons_self | with_reducible assumption | with_reducible refine List.mem_cons_of_mem _ ?_ | (with_reducible refine List.mem_append_left _ ?_; with_reducible assumption) | with_reducible refine List.mem_append_right _ ?_ | with_reducible exact sub_nil | with_reducible refine sub_cons ?_ ?_ | with_reducible refine sub_app ?_ ?_ | intro p hp))
  · rintro i fv ys nw Ic oIc Cc oCc Dc mc hc6 tkc Ec hin ⟨rfl, hys⟩ hPv hNs hmc Fc Nc offc nec
    obtain ⟨c, tc, hc, rfl⟩ := hPv
    obtain ⟨b, hb, rfl⟩ : ∃ b, l[i]? = some b ∧ c = 48 + b := by
      have e : (bitStr l).cps[i]? = (l.map (48 + ·))[i]? := by unfold bitStr; simp
      rw [e, List.getElem?_map] at hc
      cases hb : l[i]? with
      | none => rw [hb] at hc; cases hc
      | some b => rw [hb] at hc; exact ⟨b, rfl, (Option.some.inj hc).symm⟩
    have hb1 := hlb b (List.mem_of_getElem? hb)
    match b, hb1 with
    | 0, _ =>
      rw [show (⟨#[48 + 0]⟩ : Str) = Str.ofString "0" from by decide +kernel] at *
      repeat' (first | (k_unfold; (try dsimp only)) | walk1 | (dsimp only; walk1))
      refine LCg.CompEnd.intro Fc Nc _ (fun p hp => hp) offc trivial ⟨rfl, ?_⟩
      rw [take_snoc _ _ _ hb, List.map_append]
      exact ints_snoc hys
    | 1, _ =>
      rw [show (⟨#[48 + 1]⟩ : Str) = Str.ofString "1" from by decide +kernel] at *
      repeat' (first | (k_unfold; (try dsimp only)) | walk1 | (dsimp only; walk1))
      refine LCg.CompEnd.intro Fc Nc _ (fun p hp => hp) offc trivial ⟨rfl, ?_⟩
      rw [take_snoc _ _ _ hb, List.map_append]
      exact ints_snoc hys
theorem bit_at {qs : List Value} {bs : List (List Nat)} (hq : StrsAre qs (bs.map bitStr)) {i : Nat} {v : Value} (h : qs[i]? = some v) : ∃ b t, bs[i]? = some b ∧ v = .str (bitStr b) t := by
  obtain ⟨y, t, rfl, hy⟩ := hq.item i v h
  rw [List.getElem?_map] at hy
  cases hb : bs[i]? with
  | none => rw [hb] at hy; cases hy
  | some b =>
    rw [hb] at hy
    exact ⟨b, t, rfl, by rw [← Option.some.inj hy]⟩
set_option maxRecDepth 100000 in
set_option maxHeartbeats 8000000 in
theorem lr_begun {stmt : Stmt} {scope : Scope} (hst : stmt = nthS lrBody 2) (hsc : scope = sScope lrDef) {g' : Heap} {L' : Addr} {m2 : Str → Option Value} {bs : List (List Nat)} {gs : List Nat} {qs : List Value} {lq eq : Nat} {tg : Tok} {oT : Obj} {QF : Flow → Shared → Prop} {EE : Value → Shared → Prop}
   (B : Below (ktrTop dp un gd cn cs L a ccd cl outer) base (envX cn cs L a ccd cl :: outer) g') (X : (Mine.hd.heap_39 w.params).In g') (T : Top p loose mean mg mb g') (F : Fr g' L' s.heap m2) (hm : m2 (Str.ofString "words") = some (.ref lq))
   (N : News g' L' s.heap ((L' + 1 + 1, oT) :: (lq, listOf qs.toArray eq) :: rest)) (hT : oT.data = .cell (some (.str (bitStr gs) tg)))
   (hq : StrsAre qs (bs.map bitStr)) (hbl : bs.length ≤ 100) (hbb : ∀ b ∈ bs, (∀ c ∈ b, c ≤ 1) ∧ 2 ≤ b.length ∧ b.length ≤ 6) (hg : ∀ b ∈ gs, b ≤ 1) (hgl : gs.length ≤ 100)
   (hd : dp + 145 < recursionLimit) (hu : un + 2480 < cLine)
   (ret : ∀ (D : Nat) (rs : List Value) (h' : Heap) (tk' : Nat), IntsAre rs (((List.range bs.length).filter fun k => decide (bs.getD k [] <+: gs)).map fun (k : Nat) => (k : Int)) → NeAll D ((L' + 1 + 1, oT) :: (lq, listOf qs.toArray eq) :: rest) → Fr g' L' h' (fun y => if y = Str.ofString "begun" then some (.ref D) else m2 y) → News g' L' h' ((D, listOf rs.toArray rs.length) :: (L' + 1 + 1, oT) :: (lq, listOf qs.toArray eq) :: rest) → QF .next { s with heap := h', toks := tk' }) :
   wpAny (model Challenge.rw_pg0224_01.row.prog w) ((ktrTop dp un gd cn cs L a ccd cl outer).deeper (envOfC (Str.ofString "_law_read") scope L' 91 (.ref 90))) (exec stmt (envOfC (Str.ofString "_law_read") scope L' 91 (.ref 90))) QF EE s := by
  conv at hst => rhs; whnf
  conv at hsc => rhs; whnf
  subst hst hsc
  have hgn := bit_len gs
  have F0 := F
  replace F := fr_as [("words", .ref lq)] F (by intro p hp; simp only [List.mem_cons, List.not_mem_nil, or_false] at hp; rcases hp with rfl; exact hm)
  have em : kstB m2 ([("words", .ref lq)] : List (Str × Value)) = m2 := funext fun y => kstB_eq (by intro p hp; simp only [List.mem_cons, List.not_mem_nil, or_false] at hp; rcases hp with rfl; exact hm) fun _ => rfl
  k_dflt (refine ec_Assign (_F₀ := by k_asm) (by rfl) (by with_unfolding_all rfl) (by with_unfolding_all rfl) (by decide) (by rfl) (by decide) (by rfl) (by rfl) (by decide) (by rfl) (by rfl) ?_)
  repeat' (first | (k_unfold; (try dsimp only)) | walk1 | (dsimp only; walk1))
  have hql := hq.length
  rw [List.length_map] at hql
  refine ec_enum (vs := qs) (fun it i ys nw => nw = (L' + 1 + 1, oT) :: (lq, listOf qs.toArray eq) :: rest ∧ IntsAre ys (((List.range i).filter fun k => decide (bs.getD k [] <+: gs)).map fun (k : Nat) => (k : Int))) (by rfl) F N (.tail _ (.head _)) rfl rfl (by rw [sizeLine_eq]; (first | lia | omega)) ?_
  intro it lit
  refine ⟨⟨rfl, .nil⟩, ?_, ?_⟩
  · rintro i fv ti ys nw C D oE oI oC m3 h3 tk3 E3 hfv ⟨rfl, hys⟩ hmem hE hI hC hx hy F3 N3 off3 ⟨hiD, hDC⟩
    obtain ⟨bi, tb, hbi, rfl⟩ := bit_at hq hfv
    have hbc := hbb bi (List.mem_of_getElem? hbi)
    have hbn := bit_len bi
    repeat' (first | (k_unfold; (try dsimp only)) | walk1 | (dsimp only; walk1))
    refine Halt.out ?_
    refine ellMatch B F3 X N3 T rfl (by show dp + 1 + 20 < recursionLimit; exact room hd rfl) (by show un + 3 + 100 < cLine; exact room hu rfl) hbc.1 hbc.2.1 hbc.2.2 hg hgl ?_
    intro h4 tk4 F4 N4
    try dsimp only
    have hbd : bs.getD i [] = bi := by rw [List.getD_eq_getElem?_getD, hbi]; rfl
    have key : ∀ b : Bool, decide (bi <+: gs) = b → ((List.range (i + 1)).filter fun k => decide (bs.getD k [] <+: gs)) = ((List.range i).filter fun k => decide (bs.getD k [] <+: gs)) ++ (if b then [i] else []) := by
      intro b e
      rw [List.range_succ, List.filter_append, List.filter_cons, hbd, e]
      rfl
    cases hdec : decide (bi <+: gs) with
    | true =>
      have k1 := key true hdec
      repeat' (first | (k_unfold; (try dsimp only)) | walk1 | (dsimp only; walk1))
      refine ⟨h4, tk4, (L' + 1 + 1, oT) :: (lq, listOf qs.toArray eq) :: rest, rfl, F4, N4, off3, hmem, rfl, ?_⟩
      rw [k1, List.map_append]
      exact ints_snoc hys
    | false =>
      have k1 := key false hdec
      repeat' (first | (k_unfold; (try dsimp only)) | walk1 | (dsimp only; walk1))
      refine ⟨h4, tk4, (L' + 1 + 1, oT) :: (lq, listOf qs.toArray eq) :: rest, rfl, F4, N4, off3, hmem, rfl, ?_⟩
      rw [k1, List.map_append]
      simpa using hys
  · rintro g ys nw ⟨rfl, hys⟩
    repeat' (first | (k_unfold; (try dsimp only)) | walk1 | (dsimp only; walk1))
    rename_i D5 h5 tk5 F5 N5 o5
    rw [hql] at hys
    rw [em] at F5
    exact ret D5 ys h5 tk5 hys (NeAll.cons o5.1 (NeAll.cons o5.2.1 (off1_ne o5.2.2))) F5 N5
theorem bnd_getD (ws : List Nat) (wide i : Nat) (h : i < 4) : ((List.range 4).map fun k => (((ws.take k).sum * 2 ^ wide : Nat) : Int)).getD i 0 = (((ws.take i).sum * 2 ^ wide : Nat) : Int) := by
  rw [List.getD_eq_getElem?_getD, List.getElem?_map, List.getElem?_range h]; rfl
theorem bis_val {ws : List Nat} {k wide x : Nat} (hwl : ws.length = 4) (hk : k < 4) (h1 : (ws.take k).sum * 2 ^ wide ≤ x) (h2 : x < ((ws.take k).sum + ws.getD k 0) * 2 ^ wide) {r : Int} (hr0 : 0 ≤ r) (hr : r ≤ 4)
    (ha : ∀ i : Nat, (i : Int) < r → ((List.range 4).map fun k => (((ws.take k).sum * 2 ^ wide : Nat) : Int)).getD i 0 ≤ (x : Int))
    (hb : ∀ i : Nat, r ≤ (i : Int) → i < 4 → (x : Int) < ((List.range 4).map fun k => (((ws.take k).sum * 2 ^ wide : Nat) : Int)).getD i 0) : r = (k : Int) + 1 := by
  rcases Int.lt_trichotomy r ((k : Int) + 1) with h | h | h
  · have := hb k (by (first | lia | omega)) hk
    rw [bnd_getD _ _ _ hk] at this
    (first | lia | omega)
  · exact h
  · have := ha (k + 1) (by (first | lia | omega))
    rw [bnd_getD _ _ _ (by (first | lia | omega)), take_sum_step ws k (by (first | lia | omega))] at this
    (first | lia | omega)
set_option maxRecDepth 100000 in
set_option maxHeartbeats 8000000 in
theorem lr_letter {stmt : Stmt} {scope : Scope} (hst : stmt = nthS lrBody 1) (hsc : scope = sScope lrDef) {g' : Heap} {L' : Addr} {m2 : Str → Option Value} {ws : List Nat} {k wide V lb lw ep nb : Nat} {bys vs : List Value} {tn : Tok} {oS : Obj} {QF : Flow → Shared → Prop} {EE : Value → Shared → Prop}
   (B : Below (ktrTop dp un gd cn cs L a ccd cl outer) base (envX cn cs L a ccd cl :: outer) g') (X : (Mine.hd.heap_39 w.params).In g') (T : Top p loose mean mg mb g')
   (F : Fr g' L' s.heap (kstB m2 ([("number", .int (V : Int) tn), ("bounds", .ref lb)] : List (Str × Value))))
   (N : News g' L' s.heap ((L' + 1, oS) :: (lb, listOf bys.toArray nb) :: (lw, listOf vs.toArray ep) :: rest)) (hS : oS.data = .cell (some (.ref lw)))
   (hi : IntsAre vs (ws.map fun (e : Nat) => (e : Int))) (hwl : ws.length = 4) (hwb : ∀ e ∈ ws, 1 ≤ e ∧ e ≤ 8)
   (hb : IntsAre bys ((List.range 4).map fun k => (((ws.take k).sum * 2 ^ wide : Nat) : Int)))
   (hk : k < 4) (h1 : (ws.take k).sum * 2 ^ wide ≤ V * ws.sum) (h2 : V * ws.sum < ((ws.take k).sum + ws.getD k 0) * 2 ^ wide)
   (hd : dp + 145 < recursionLimit) (hu : un + 2480 < cLine)
   (ret : ∀ (h' : Heap) (tk' : Nat) (t : Tok), Fr g' L' h' (fun y => if y = Str.ofString "letter" then some (.int (k : Int) t) else kstB m2 ([("number", .int (V : Int) tn), ("bounds", .ref lb)] : List (Str × Value)) y) → News g' L' h' ((L' + 1, oS) :: (lb, listOf bys.toArray nb) :: (lw, listOf vs.toArray ep) :: rest) → QF .next { s with heap := h', toks := tk' }) :
   wpAny (model Challenge.rw_pg0224_01.row.prog w) ((ktrTop dp un gd cn cs L a ccd cl outer).deeper (envOfC (Str.ofString "_law_read") scope L' 91 (.ref 90))) (exec stmt (envOfC (Str.ofString "_law_read") scope L' 91 (.ref 90))) QF EE s := by
  conv at hst => rhs; whnf
  conv at hsc => rhs; whnf
  subst hst hsc
  obtain ⟨S, hSS⟩ : ∃ S : Nat, S = ws.sum := ⟨_, rfl⟩
  have hSb := sum_le8 ws hwb
  have hSc := sum_cast ws
  rw [← hSS] at hSb hSc h1 h2
  repeat' (first | (k_unfold; (try dsimp only)) | walk1 | (dsimp only; walk1))
  refine Halt.out ?_
  try dsimp only
  rw [hSc]
  refine PyProof.Rows.mul_int ?_ (IntMulOk.of_right (intBits_lt S 64 (by (first | lia | omega))))
  try dsimp only
  rw [← Int.natCast_mul]
  repeat' (first | (k_unfold; (try dsimp only)) | walk1 | (dsimp only; walk1))
  refine Halt.out ?_
  rename_i h3 tk3 t3 F3 N3
  refine bisect_ints B F3 X N3 (.tail _ (.head _)) T rfl (by show dp + 1 + 10 < recursionLimit; exact room hd rfl) (by show un + 3 + 50 < cLine; exact room hu rfl) hb (by simp) ?_ ?_
  · intro i j hij hj
    have hj4 : j < 4 := by simpa using hj
    rw [bnd_getD _ _ _ (by (first | lia | omega)), bnd_getD _ _ _ hj4]
    have := Nat.mul_le_mul_right (2 ^ wide) (take_sum_mono ws hij (by (first | lia | omega)))
    (first | lia | omega)
  intro r t4 h4 tk4 hr0 hr ha hb' F4 N4
  have hr1 : r = (k : Int) + 1 := bis_val hwl hk h1 h2 hr0 (by simpa using hr) ha (fun i hi1 hi2 => hb' i hi1 (by simpa using hi2))
  subst hr1
  try dsimp only
  repeat' (first | (k_unfold; (try dsimp only)) | walk1 | (dsimp only; walk1))
  rename_i h5 F5 N5
  have e : (k : Int) + 1 - 1 = (k : Int) := by (first | lia | omega)
  rw [e] at F5
  exact ret _ _ _ F5 N5
set_option maxRecDepth 100000 in
set_option maxHeartbeats 8000000 in
theorem lr_cut {stmt : Stmt} {scope : Scope} (hst : stmt = nthS lrBody 4) (hsc : scope = sScope lrDef) {g' : Heap} {L' : Addr} {m2 : Str → Option Value} {bs : List (List Nat)} {b t : List Nat} {k lq eq : Nat} {qs : List Value} {tl tg : Tok} {oT : Obj} {QF : Flow → Shared → Prop} {EE : Value → Shared → Prop}
   (X : (Mine.hd.heap_39 w.params).In g') (T : Top p loose mean mg mb g')
   (F : Fr g' L' s.heap (kstB m2 ([("words", .ref lq), ("letter", .int (k : Int) tl)] : List (Str × Value))))
   (N : News g' L' s.heap ((L' + 1 + 1, oT) :: (lq, listOf qs.toArray eq) :: rest)) (hT : oT.data = .cell (some (.str (bitStr (b ++ t)) tg)))
   (hq : StrsAre qs (bs.map bitStr)) (hbl : bs.length ≤ 100) (hb : bs[k]? = some b) (hl : (b ++ t).length ≤ 100) (hTq : lq ≠ L' + 1 + 1) (hTr : NeAll (L' + 1 + 1) rest)
   (ret : ∀ (h' : Heap) (tk' : Nat) (oT' : Obj) (t' : Tok), oT'.data = .cell (some (.str (bitStr t) t')) → Fr g' L' h' (kstB m2 ([("words", .ref lq), ("letter", .int (k : Int) tl)] : List (Str × Value))) → News g' L' h' ((L' + 1 + 1, oT') :: (lq, listOf qs.toArray eq) :: rest) → QF .next { s with heap := h', toks := tk' }) :
   wpAny (model Challenge.rw_pg0224_01.row.prog w) ((ktrTop dp un gd cn cs L a ccd cl outer).deeper (envOfC (Str.ofString "_law_read") scope L' 91 (.ref 90))) (exec stmt (envOfC (Str.ofString "_law_read") scope L' 91 (.ref 90))) QF EE s := by
  conv at hst => rhs; whnf
  conv at hsc => rhs; whnf
  subst hst hsc
  have hbn := bit_len (b ++ t)
  have hbb := bit_len b
  have hkl : k < bs.length := (List.getElem?_eq_some_iff.mp hb).1
  repeat' (first | (k_unfold; (try dsimp only)) | walk1 | (dsimp only; walk1))
  rw [show (List.map bitStr bs).getD ((k : Int)).toNat Str.empty = bitStr b from by rw [Int.toNat_natCast, List.getD_eq_getElem?_getD, List.getElem?_map, hb]; rfl]
  have hlb : b.length ≤ (b ++ t).length := by simp
  repeat' (first | (k_unfold; (try dsimp only)) | walk1 | (dsimp only; walk1))
  rename_i h3 t3 k3 le3 h4 o4 F4 N4 d4
  rw [show Txt.slice (bitStr (b ++ t)) (some ((bitStr b).length : Int)) none = bitStr t from by rw [hbb, bit_from hlb, List.drop_left]] at d4
  exact ret _ _ _ _ d4 F4 N4
set_option maxRecDepth 100000 in
set_option maxHeartbeats 8000000 in
theorem lr_append {stmt : Stmt} {scope : Scope} (hst : stmt = nthS lrBody 3) (hsc : scope = sScope lrDef) {g' : Heap} {L' : Addr} {m2 : Str → Option Value} {k D nb lt j : Nat} {bg rs : List Value} {ks : List Int} {tl : Tok} {QF : Flow → Shared → Prop} {EE : Value → Shared → Prop}
   (X : (Mine.hd.heap_39 w.params).In g') (T : Top p loose mean mg mb g')
   (F : Fr g' L' s.heap (kstB m2 ([("begun", .ref D), ("letter", .int (k : Int) tl), ("letters", .ref lt)] : List (Str × Value))))
   (N : News g' L' s.heap ((D, listOf bg.toArray nb) :: (lt, listOf rs.toArray j) :: rest))
   (hb : IntsAre bg [(k : Int)]) (hrs : IntsAre rs ks) (hrl : ks.length ≤ 10) (hlt : D ≠ lt) (hltr : NeAll lt rest) (hd : dp + 145 < recursionLimit) (hu : un + 2480 < cLine)
   (ret : ∀ (h' : Heap) (tk' : Nat) (rs' : List Value), IntsAre rs' (ks ++ [(k : Int)]) → Fr g' L' h' (kstB m2 ([("begun", .ref D), ("letter", .int (k : Int) tl), ("letters", .ref lt)] : List (Str × Value))) → News g' L' h' ((lt, listOf rs'.toArray (j + 1)) :: rest) → QF .next { s with heap := h', toks := tk' }) :
   wpAny (model Challenge.rw_pg0224_01.row.prog w) ((ktrTop dp un gd cn cs L a ccd cl outer).deeper (envOfC (Str.ofString "_law_read") scope L' 91 (.ref 90))) (exec stmt (envOfC (Str.ofString "_law_read") scope L' 91 (.ref 90))) QF EE s := by
  conv at hst => rhs; whnf
  conv at hsc => rhs; whnf
  subst hst hsc
  obtain ⟨tb, vs', rfl, hb'⟩ := hb.cons_inv
  obtain rfl := hb'.nil_inv
  have hrl2 := hrs.length
  repeat' (first | (k_unfold; (try dsimp only)) | walk1 | (dsimp only; walk1))
  rename_i lx hx ltx h5 F5 N5
  rw [List.push_toArray] at N5
  exact ret h5 _ _ (ints_snoc hrs) F5 (cb_drop N5 fun p hp => .tail _ (.tail _ hp))
theorem coded_mem {ws : List Nat} {bs : List (List Nat)} (h : ∀ (k : Nat) (b : List Nat), bs[k]? = some b → Coded ws k b) {b : List Nat} (hb : b ∈ bs) : ∃ k, Coded ws k b := by
  obtain ⟨k, hk, rfl⟩ := List.mem_iff_getElem.mp hb
  exact ⟨k, h k _ (List.getElem?_eq_getElem hk)⟩
theorem filter_one (p : Nat → Bool) (k : Nat) : ∀ n, k < n → (∀ j, j < n → (p j = true ↔ j = k)) → (List.range n).filter p = [k]
  | 0, h, _ => by (first | lia | omega)
  | n + 1, h, hp => by
    rw [List.range_succ, List.filter_append]
    by_cases hk : k = n
    · subst hk
      have e : (List.range k).filter p = [] := List.filter_eq_nil_iff.mpr fun j hj hpj => by
        have hj' := List.mem_range.mp hj
        have := (hp j (by (first | lia | omega))).mp hpj
        (first | lia | omega)
      rw [e, List.filter_cons, (hp k (by (first | lia | omega))).mpr rfl]
      rfl
    · rw [filter_one p k n (by (first | lia | omega)) fun j hj => hp j (by (first | lia | omega))]
      have e : p n = false := by
        cases hpn : p n with
        | false => rfl
        | true => exact absurd ((hp n (by (first | lia | omega))).mp hpn).symm hk
      rw [List.filter_cons, e]
      rfl
theorem only_one {ws : List Nat} {bs : List (List Nat)} {gs : List Nat} {k : Nat} (hbl : bs.length = 4) (hwl : ws.length = 4) (hS : 0 < ws.sum) (hbc : ∀ (k : Nat) (b : List Nat), bs[k]? = some b → Coded ws k b) (hk : k < 4) (hp : bs.getD k [] <+: gs) :
    ((List.range bs.length).filter fun k => decide (bs.getD k [] <+: gs)) = [k] := by
  have get : ∀ j, j < 4 → bs[j]? = some (bs.getD j []) := fun j hj => by rw [List.getD_eq_getElem?_getD, List.getElem?_eq_getElem (by (first | lia | omega))]; rfl
  rw [hbl]
  refine filter_one _ k 4 hk fun j hj => ?_
  rw [decide_eq_true_iff]
  constructor
  · intro h
    exact coded_one (hbc j _ (get j hj)) (hbc k _ (get k hk)) hS (by (first | lia | omega)) (by (first | lia | omega)) h hp
  · rintro rfl
    exact hp
set_option maxRecDepth 100000 in
set_option maxHeartbeats 8000000 in
theorem lr_turn {stmts : List Stmt} {scope : Scope} (hst : stmts = lrBody) (hsc : scope = sScope lrDef) {g' : Heap} {L' : Addr} {m2 : Str → Option Value} {u v : TS} (hB : okB u v)
   {ws : List Nat} {bs : List (List Nat)} {gs t : List Nat} {k wide j lt lb lw lq ep eq nb : Nat} {rs bys vs qs : List Value} {ks : List Int} {tg tw : Tok} {oW oT oS : Obj} {QF : Flow → Shared → Prop} {EE : Value → Shared → Prop}
   (B : Below (ktrTop dp un gd cn cs L a ccd cl outer) base (envX cn cs L a ccd cl :: outer) g') (X : (Mine.hd.heap_39 w.params).In g') (T : Top p loose mean mg mb g') (C1 : CodeHd g' 52 48) (C2 : CodeHd g' 59 55) (F : Fr g' L' s.heap m2)
   (hm1 : m2 (Str.ofString "words") = some (.ref lq)) (hm2 : m2 (Str.ofString "bounds") = some (.ref lb)) (hm3 : m2 (Str.ofString "letters") = some (.ref lt))
   (N : News g' L' s.heap ((L' + 1 + 1 + 1, oW) :: (L' + 1 + 1, oT) :: (L' + 1, oS) :: (lt, listOf rs.toArray j) :: (lb, listOf bys.toArray nb) :: (lw, listOf vs.toArray ep) :: (lq, listOf qs.toArray eq) :: (TB u v ++ rest)))
   (hW : oW.data = .cell (some (.int (wide : Int) tw))) (hT : oT.data = .cell (some (.str (bitStr gs) tg))) (hS : oS.data = .cell (some (.ref lw)))
   (hc : Clear ((L' + 1 + 1 + 1, oW) :: (L' + 1 + 1, oT) :: (L' + 1, oS) :: (lt, listOf rs.toArray j) :: (lb, listOf bys.toArray nb) :: (lw, listOf vs.toArray ep) :: (lq, listOf qs.toArray eq) :: rest))
   (hi : IntsAre vs (ws.map fun (e : Nat) => (e : Int))) (hwl : ws.length = 4) (hwb : ∀ e ∈ ws, 1 ≤ e ∧ e ≤ 8)
   (hb : IntsAre bys ((List.range 4).map fun k => (((ws.take k).sum * 2 ^ wide : Nat) : Int))) (hrs : IntsAre rs ks) (hrl : ks.length ≤ 10)
   (hq : StrsAre qs (bs.map bitStr)) (hbl : bs.length = 4) (hbc : ∀ (k : Nat) (b : List Nat), bs[k]? = some b → Coded ws k b) (hwm : ∀ b ∈ bs, b.length ≤ wide)
   (hk : k < 4) (hgs : gs = bs.getD k [] ++ t) (hg : ∀ b ∈ gs, b ≤ 1) (hgl : gs.length ≤ 100) (hw1 : 2 ≤ wide) (hw2 : wide ≤ 6) (hwg : wide ≤ gs.length)
   (hd : dp + 145 < recursionLimit) (hu : un + 2480 < cLine)
   (hlt : (lt ≠ L' + 1 ∧ lt ≠ L' + 1 + 1 ∧ lt ≠ L' + 1 + 1 + 1 ∧ lt ≠ lb ∧ lt ≠ lw ∧ lt ≠ lq)) (hltr : NeAll lt rest) (hltB : NeAll lt (TB u v))
   (hTn : (lb ≠ L' + 1 + 1 ∧ lw ≠ L' + 1 + 1 ∧ lq ≠ L' + 1 + 1)) (hTr : NeAll (L' + 1 + 1) rest) (hTB : NeAll (L' + 1 + 1) (TB u v))
   (ret : ∀ (v' : TS) (oT' : Obj) (rs' : List Value) (t' : Tok) (m' : Str → Option Value) (h' : Heap) (tk' : Nat), okB u v' → (∀ p ∈ (L' + 1 + 1 + 1, oW) :: (L' + 1 + 1, oT) :: (L' + 1, oS) :: (lt, listOf rs.toArray j) :: (lb, listOf bys.toArray nb) :: (lw, listOf vs.toArray ep) :: (lq, listOf qs.toArray eq) :: rest, NeAll p.1 (TB u v) → NeAll p.1 (TB u v')) →
      IntsAre rs' (ks ++ [(k : Int)]) → oT'.data = .cell (some (.str (bitStr t) t')) → m' (Str.ofString "words") = some (.ref lq) → m' (Str.ofString "bounds") = some (.ref lb) → m' (Str.ofString "letters") = some (.ref lt) → Fr g' L' h' m' →
      News g' L' h' ((L' + 1 + 1 + 1, oW) :: (L' + 1 + 1, oT') :: (L' + 1, oS) :: (lt, listOf rs'.toArray (j + 1)) :: (lb, listOf bys.toArray nb) :: (lw, listOf vs.toArray ep) :: (lq, listOf qs.toArray eq) :: (TB u v' ++ rest)) → QF .next { s with heap := h', toks := tk' }) :
   wpAny (model Challenge.rw_pg0224_01.row.prog w) ((ktrTop dp un gd cn cs L a ccd cl outer).deeper (envOfC (Str.ofString "_law_read") scope L' 91 (.ref 90))) (execs stmts (envOfC (Str.ofString "_law_read") scope L' 91 (.ref 90))) QF EE s := by
  conv at hst => rhs; whnf
  conv at hsc => rhs; whnf
  subst hst hsc
  have hgn := bit_len gs
  have ev : ∀ p ∈ ([("words", .ref lq), ("bounds", .ref lb), ("letters", .ref lt)] : List (Str × Value)), m2 p.1 = some p.2 := by
    intro p hp
    simp only [List.mem_cons, List.not_mem_nil, or_false] at hp
    rcases hp with rfl | rfl | rfl
    · exact hm1
    · exact hm2
    · exact hm3
  clear hm1 hm2 hm3
  refine wpAny_execs_cons ?_
  refine lr_number (rest := (L' + 1, oS) :: (lt, listOf rs.toArray j) :: (lb, listOf bys.toArray nb) :: (lw, listOf vs.toArray ep) :: (lq, listOf qs.toArray eq) :: rest) (by rfl) (by rfl) hB B X T C1 C2 F (cb_drop N ?_) hW hT hc hg hgl hw1 hw2 hwg hd hu ?_
  · (repeat' (first | with_reducible exact List.mem_cons_self | with_reducible assumption | with_reducible refine List.mem_cons_of_mem _ ?_ | (with_reducible refine List.mem_append_left _ ?_; with_reducible assumption) | with_reducible refine List.mem_append_right _ ?_ | with_reducible exact sub_nil | with_reducible refine sub_cons ?_ ?_ | with_reducible refine sub_app ?_ ?_ | intro p hp))
  intro v1 h1 tk1 tn hB1 hap1 F1 N1
  obtain ⟨m3, F1⟩ := fr_put [("words", .ref lq), ("bounds", .ref lb), ("letters", .ref lt)] F1 ev (by rfl)
  replace N1 : News g' L' h1 ((L' + 1 + 1 + 1, oW) :: (L' + 1 + 1, oT) :: (L' + 1, oS) :: (lt, listOf rs.toArray j) :: (lb, listOf bys.toArray nb) :: (lw, listOf vs.toArray ep) :: (lq, listOf qs.toArray eq) :: (TB u v1 ++ rest)) := cb_drop N1 (by
    (repeat' (first | with_reducible exact List.mem_cons_self | with_reducible assumption | with_reducible refine List.mem_cons_of_mem _ ?_ | (with_reducible refine List.mem_append_left _ ?_; with_reducible assumption) | with_reducible refine List.mem_append_right _ ?_ | with_reducible exact sub_nil | with_reducible refine sub_cons ?_ ?_ | with_reducible refine sub_app ?_ ?_ | intro p hp)))
  have hbk : bs[k]? = some (bs.getD k []) := by rw [List.getD_eq_getElem?_getD, List.getElem?_eq_getElem (by (first | lia | omega))]; rfl
  obtain ⟨b, hb0⟩ : ∃ b, b = bs.getD k [] := ⟨_, rfl⟩
  rw [← hb0] at hbk hgs
  have hcb := hbc k b hbk
  have hSb := sum_le8 ws hwb
  have hS0 : 0 < ws.sum := by (first | lia | omega)
  have hbw := hwm b (List.mem_of_getElem? hbk)
  have htb : ∀ c ∈ t, c ≤ 1 := fun c hc => hg c (by rw [hgs]; exact List.mem_append_right _ hc)
  have hrv := read_val hcb hS0 htb hbw (by rw [← hgs]; exact hwg)
  rw [← hgs] at hrv
  try dsimp only
  refine wpAny_execs_cons ?_
  refine lr_letter (ep := ep) (nb := nb) (rest := (L' + 1 + 1 + 1, oW) :: (L' + 1 + 1, oT) :: (lt, listOf rs.toArray j) :: (lq, listOf qs.toArray eq) :: (TB u v1 ++ rest)) (by rfl) (by rfl) B X T (fr_as [("number", .int (tv (gs.take wide) : Int) tn), ("bounds", .ref lb)] F1 (by intro p hp; simp only [List.mem_cons, List.not_mem_nil, or_false] at hp; rcases hp with rfl | rfl <;> rfl)) (cb_drop N1 ?_) hS hi hwl hwb hb hk hrv.1 hrv.2 hd hu ?_
  · (repeat' (first | with_reducible exact List.mem_cons_self | with_reducible assumption | with_reducible refine List.mem_cons_of_mem _ ?_ | (with_reducible refine List.mem_append_left _ ?_; with_reducible assumption) | with_reducible refine List.mem_append_right _ ?_ | with_reducible exact sub_nil | with_reducible refine sub_cons ?_ ?_ | with_reducible refine sub_app ?_ ?_ | intro p hp))
  intro h2 tk2 t2 F2 N2
  obtain ⟨m4, F2⟩ := fr_gen [("letter", .int (k : Int) t2), ("words", .ref lq), ("bounds", .ref lb), ("letters", .ref lt)] F2 (by intro p hp; simp only [List.mem_cons, List.not_mem_nil, or_false] at hp; rcases hp with rfl | rfl | rfl | rfl <;> rfl)
  try dsimp only
  refine wpAny_execs_cons ?_
  refine lr_begun (eq := eq) (rest := (L' + 1 + 1 + 1, oW) :: (L' + 1, oS) :: (lt, listOf rs.toArray j) :: (lb, listOf bys.toArray nb) :: (lw, listOf vs.toArray ep) :: (TB u v1 ++ rest)) (by rfl) (by rfl) B X T F2 rfl (cb_drop N2 ?_) hT hq (by (first | lia | omega)) ?_ hg hgl hd hu ?_
  · (repeat' (first | with_reducible exact List.mem_cons_self | with_reducible assumption | with_reducible refine List.mem_cons_of_mem _ ?_ | (with_reducible refine List.mem_append_left _ ?_; with_reducible assumption) | with_reducible refine List.mem_append_right _ ?_ | with_reducible exact sub_nil | with_reducible refine sub_cons ?_ ?_ | with_reducible refine sub_app ?_ ?_ | intro p hp))
  · intro b' hb'
    obtain ⟨k', hck⟩ := coded_mem hbc hb'
    exact ⟨hck.bits, hck.len2, hck.len6⟩
  intro D bg h3 tk3 hbg hDn F3 N3
  have hflt : ((List.range bs.length).filter fun k => decide (bs.getD k [] <+: gs)) = [k] := only_one hbl hwl hS0 hbc hk (by rw [← hb0, hgs]; exact List.prefix_append _ _)
  rw [hflt] at hbg
  obtain ⟨m5, F3⟩ := fr_gen [("begun", .ref D), ("letter", .int (k : Int) t2), ("words", .ref lq), ("bounds", .ref lb), ("letters", .ref lt)] F3 (by intro p hp; simp only [List.mem_cons, List.not_mem_nil, or_false] at hp; rcases hp with rfl | rfl | rfl | rfl | rfl <;> rfl)
  try dsimp only
  refine wpAny_execs_cons ?_
  refine lr_append (nb := bg.length) (j := j) (rest := (L' + 1 + 1 + 1, oW) :: (L' + 1 + 1, oT) :: (L' + 1, oS) :: (lb, listOf bys.toArray nb) :: (lw, listOf vs.toArray ep) :: (lq, listOf qs.toArray eq) :: (TB u v1 ++ rest)) (by rfl) (by rfl) X T (fr_as [("begun", .ref D), ("letter", .int (k : Int) t2), ("letters", .ref lt)] F3 (by intro p hp; simp only [List.mem_cons, List.not_mem_nil, or_false] at hp; rcases hp with rfl | rfl | rfl <;> rfl)) (cb_drop N3 ?_) hbg hrs hrl ?_ ?_ hd hu ?_
  · (repeat' (first | with_reducible exact List.mem_cons_self | with_reducible assumption | with_reducible refine List.mem_cons_of_mem _ ?_ | (with_reducible refine List.mem_append_left _ ?_; with_reducible assumption) | with_reducible refine List.mem_append_right _ ?_ | with_reducible exact sub_nil | with_reducible refine sub_cons ?_ ?_ | with_reducible refine sub_app ?_ ?_ | intro p hp))
  · exact Ne.symm (hDn (lt, listOf rs.toArray j) (by (repeat' (first | with_reducible exact List.mem_cons_self | with_reducible assumption | with_reducible refine List.mem_cons_of_mem _ ?_ | (with_reducible refine List.mem_append_left _ ?_; with_reducible assumption) | with_reducible refine List.mem_append_right _ ?_))))
  · have hltB1 : NeAll lt (TB u v1) := hap1 (lt, listOf rs.toArray j) (by (repeat' (first | with_reducible exact List.mem_cons_self | with_reducible assumption | with_reducible refine List.mem_cons_of_mem _ ?_ | (with_reducible refine List.mem_append_left _ ?_; with_reducible assumption) | with_reducible refine List.mem_append_right _ ?_))) hltB
    obtain ⟨q1, q2, q3, q4, q5, q6⟩ := hlt
    exact NeAll.cons (Ne.symm q3) (NeAll.cons (Ne.symm q2) (NeAll.cons (Ne.symm q1) (NeAll.cons (Ne.symm q4) (NeAll.cons (Ne.symm q5) (NeAll.cons (Ne.symm q6) (NeAll.append hltB1 hltr))))))
  intro h4 tk4 rs' hrs' F4 N4
  obtain ⟨m6, F4⟩ := fr_gen [("letter", .int (k : Int) t2), ("words", .ref lq), ("bounds", .ref lb), ("letters", .ref lt)] F4 (by intro p hp; simp only [List.mem_cons, List.not_mem_nil, or_false] at hp; rcases hp with rfl | rfl | rfl | rfl <;> rfl)
  try dsimp only
  refine wpAny_execs_cons ?_
  rw [hgs] at hT hgl
  refine lr_cut (eq := eq) (rest := (L' + 1 + 1 + 1, oW) :: (L' + 1, oS) :: (lt, listOf rs'.toArray (j + 1)) :: (lb, listOf bys.toArray nb) :: (lw, listOf vs.toArray ep) :: (TB u v1 ++ rest)) (by rfl) (by rfl) X T (fr_as [("words", .ref lq), ("letter", .int (k : Int) t2)] F4 (by intro p hp; simp only [List.mem_cons, List.not_mem_nil, or_false] at hp; rcases hp with rfl | rfl <;> rfl)) (cb_drop N4 ?_) hT hq (by (first | lia | omega)) hbk hgl hTn.2.2 ?_ ?_
  · (repeat' (first | with_reducible exact List.mem_cons_self | with_reducible assumption | with_reducible refine List.mem_cons_of_mem _ ?_ | (with_reducible refine List.mem_append_left _ ?_; with_reducible assumption) | with_reducible refine List.mem_append_right _ ?_ | with_reducible exact sub_nil | with_reducible refine sub_cons ?_ ?_ | with_reducible refine sub_app ?_ ?_ | intro p hp))
  · have hTB1 : NeAll (L' + 1 + 1) (TB u v1) := hap1 (L' + 1 + 1, oT) (by (repeat' (first | with_reducible exact List.mem_cons_self | with_reducible assumption | with_reducible refine List.mem_cons_of_mem _ ?_ | (with_reducible refine List.mem_append_left _ ?_; with_reducible assumption) | with_reducible refine List.mem_append_right _ ?_))) hTB
    exact NeAll.cons (by show @Ne Nat _ _; (first | lia | omega)) (NeAll.cons (by show @Ne Nat _ _; (first | lia | omega)) (NeAll.cons hlt.2.1 (NeAll.cons hTn.1 (NeAll.cons hTn.2.1 (NeAll.append hTB1 hTr)))))
  intro h5 tk5 oT' t5 hT5 F5 N5
  try dsimp only
  refine wpAny_execs_nil ?_
  exact ret v1 oT' rs' t5 _ h5 tk5 hB1 hap1 hrs' hT5 rfl rfl rfl F5 (cb_drop N5 (by
    (repeat' (first | with_reducible exact List.mem_cons_self | with_reducible assumption | with_reducible refine List.mem_cons_of_mem _ ?_ | (with_reducible refine List.mem_append_left _ ?_; with_reducible assumption) | with_reducible refine List.mem_append_right _ ?_ | with_reducible exact sub_nil | with_reducible refine sub_cons ?_ ?_ | with_reducible refine sub_app ?_ ?_ | intro p hp))))
theorem NeAll.tl {d : Addr} {p : Addr × Obj} {l : List (Addr × Obj)} (h : NeAll d (p :: l)) : NeAll d l := fun q hq => h q (.tail _ hq)
/-- the own part of _law_read's ledger -/
def lrOwn (L' : Nat) (oW oT oS : Obj) (lt lb lw lq : Nat) (rs bys vs qs : List Value) (j nb ep eq : Nat) : List (Addr × Obj) :=
  [(L' + 1 + 1 + 1, oW), (L' + 1 + 1, oT), (L' + 1, oS), (lt, listOf rs.toArray j), (lb, listOf bys.toArray nb), (lw, listOf vs.toArray ep), (lq, listOf qs.toArray eq)]
theorem flat_len (bs : List (List Nat)) (hb : ∀ b ∈ bs, b.length ≤ 6) : ∀ ms : List Nat, (ms.flatMap fun k => bs.getD k []).length ≤ 6 * ms.length
  | [] => Nat.le_refl _
  | k :: r => by
    have ih := flat_len bs hb r
    rw [List.flatMap_cons, List.length_append, List.length_cons]
    have : (bs.getD k []).length ≤ 6 := by
      rw [List.getD_eq_getElem?_getD]
      cases h : bs[k]? with
      | none => simp
      | some b => exact hb b (List.mem_of_getElem? h)
    (first | lia | omega)
theorem flat_bits (bs : List (List Nat)) (hb : ∀ b ∈ bs, ∀ c ∈ b, c ≤ 1) (ms : List Nat) : ∀ c ∈ (ms.flatMap fun k => bs.getD k []), c ≤ 1 := by
  intro c hc
  obtain ⟨k, _, hk⟩ := List.mem_flatMap.mp hc
  rw [List.getD_eq_getElem?_getD] at hk
  cases h : bs[k]? with
  | none => rw [h] at hk; simp at hk
  | some b => rw [h] at hk; exact hb b (List.mem_of_getElem? h) c hk
set_option maxRecDepth 100000 in
set_option maxHeartbeats 8000000 in
theorem lr_loop {body : List Stmt} {scope : Scope} (hst : body = lrBody) (hsc : scope = sScope lrDef) {g' : Heap} {L' : Addr} {u v₀ : TS}
   {ws tl : List Nat} {bs : List (List Nat)} {wide lt lb lw lq ep eq nb I n : Nat} {bys vs qs : List Value} {kf : List Int} {tw : Tok} {oW oS : Obj} {x : Str} {QF : Flow → Shared → Prop} {EE : Value → Shared → Prop}
   (B : Below (ktrTop dp un gd cn cs L a ccd cl outer) base (envX cn cs L a ccd cl :: outer) g') (X : (Mine.hd.heap_39 w.params).In g') (T : Top p loose mean mg mb g') (C1 : CodeHd g' 52 48) (C2 : CodeHd g' 59 55)
   (hW : oW.data = .cell (some (.int (wide : Int) tw))) (hS : oS.data = .cell (some (.ref lw)))
   (hi : IntsAre vs (ws.map fun (e : Nat) => (e : Int))) (hwl : ws.length = 4) (hwb : ∀ e ∈ ws, 1 ≤ e ∧ e ≤ 8)
   (hb : IntsAre bys ((List.range 4).map fun k => (((ws.take k).sum * 2 ^ wide : Nat) : Int)))
   (hq : StrsAre qs (bs.map bitStr)) (hbl : bs.length = 4) (hbc : ∀ (k : Nat) (b : List Nat), bs[k]? = some b → Coded ws k b) (hwm : ∀ b ∈ bs, b.length ≤ wide)
   (htl : 6 ≤ tl.length) (htl2 : tl.length ≤ 10) (htb : ∀ c ∈ tl, c ≤ 1) (hw1 : 2 ≤ wide) (hw2 : wide ≤ 6)
   (hd : dp + 145 < recursionLimit) (hu : un + 2480 < cLine)
   (hlt : (lt ≠ L' + 1 ∧ lt ≠ L' + 1 + 1 ∧ lt ≠ L' + 1 + 1 + 1 ∧ lt ≠ lb ∧ lt ≠ lw ∧ lt ≠ lq)) (hltr : NeAll lt rest)
   (hTn : (lb ≠ L' + 1 + 1 ∧ lw ≠ L' + 1 + 1 ∧ lq ≠ L' + 1 + 1)) (hTr : NeAll (L' + 1 + 1) rest)
   (hI : L' + 1 < I ∧ L' + 1 + 1 < I ∧ L' + 1 + 1 + 1 < I ∧ lt < I ∧ lb < I ∧ lw < I ∧ lq < I) (hIr : NeAll I rest) (hcr : Clear rest)
   (hx : x ≠ Str.ofString "words" ∧ x ≠ Str.ofString "bounds" ∧ x ≠ Str.ofString "letters")
   (fin : ∀ (v : TS) (oT : Obj) (rs : List Value) (m : Str → Option Value) (h : Heap) (tk j : Nat), okB u v → (∀ p ∈ rest, NeAll p.1 (TB u v₀) → NeAll p.1 (TB u v)) → NeAll lt (TB u v) → IntsAre rs kf → m (Str.ofString "letters") = some (.ref lt) → Fr g' L' h m →
      News g' L' h (lrOwn L' oW oT oS lt lb lw lq rs bys vs qs kf.length nb ep eq ++ (TB u v ++ rest)) → QF .next { s with heap := h, toks := tk }) :
   ∀ (ms : List Nat) (i : Nat) (v : TS) (oT : Obj) (rs : List Value) (ks : List Int) (gs : List Nat) (tg : Tok) (m : Str → Option Value), (∀ k ∈ ms, k < 4) → kf = ks ++ ms.map (fun (k : Nat) => (k : Int)) → kf.length ≤ 10 → ms.length ≤ 3 → gs = (ms.flatMap fun k => bs.getD k []) ++ tl → okB u v → (∀ p ∈ rest, NeAll p.1 (TB u v₀) → NeAll p.1 (TB u v)) →
     oT.data = .cell (some (.str (bitStr gs) tg)) → IntsAre rs ks → (∀ d ∈ [L' + 1, L' + 1 + 1, L' + 1 + 1 + 1, lt, lb, lw, lq, I], NeAll d (TB u v)) → m (Str.ofString "words") = some (.ref lq) → m (Str.ofString "bounds") = some (.ref lb) → m (Str.ofString "letters") = some (.ref lt) →
     RangeRest Challenge.rw_pg0224_01.row.prog w ((ktrTop dp un gd cn cs L a ccd cl outer).deeper (envOfC (Str.ofString "_law_read") scope L' 91 (.ref 90))) EE g' (envOfC (Str.ofString "_law_read") scope L' 91 (.ref 90)) x body QF s I 0 n ms.length i m (lrOwn L' oW oT oS lt lb lw lq rs bys vs qs ks.length nb ep eq ++ (TB u v ++ rest)) := by
  intro ms
  induction ms with
  | nil =>
    intro i v oT rs ks gs tg m hms hkf hkl hml hgs hBv hap hT hrs hne hm1 hm2 hm3
    refine RangeRest.zero ?_
    intro h tk F N
    have e : kf = ks := by simpa using hkf
    subst e
    exact fin v oT rs m h tk 0 hBv hap (hne lt (by simp)) hrs hm3 F N
  | cons k r ih =>
    intro i v oT rs ks gs tg m hms hkf hkl hml hgs hBv hap hT hrs hne hm1 hm2 hm3
    have hkf2 := congrArg List.length hkf
    rw [List.length_append, List.length_map, List.length_cons] at hkf2
    rw [List.length_cons] at hml
    have hb6 : ∀ b ∈ bs, b.length ≤ 6 := fun b hb => by obtain ⟨_, hc⟩ := coded_mem hbc hb; exact hc.len6
    have hbb : ∀ b ∈ bs, ∀ c ∈ b, c ≤ 1 := fun b hb => by obtain ⟨_, hc⟩ := coded_mem hbc hb; exact hc.bits
    have hfl := flat_len bs hb6 (k :: r)
    have hfb := flat_bits bs hbb (k :: r)
    have hgl : gs.length = ((k :: r).flatMap fun k => bs.getD k []).length + tl.length := by rw [hgs, List.length_append]
    rw [List.length_cons] at hfl
    refine RangeRest.succ ?_
    intro t h tk F N
    have n1 := hne (L' + 1) (by simp)
    have n2 := hne (L' + 1 + 1) (by simp)
    have n3 := hne (L' + 1 + 1 + 1) (by simp)
    have n4 := hne lt (by simp)
    have n5 := hne lb (by simp)
    have n6 := hne lw (by simp)
    have n7 := hne lq (by simp)
    have n8 := hne I (by simp)
    have z1 : @Ne Nat (L' + 1) I := Nat.ne_of_lt hI.1
    have z2 : @Ne Nat (L' + 1 + 1) I := Nat.ne_of_lt hI.2.1
    have z3 : @Ne Nat (L' + 1 + 1 + 1) I := Nat.ne_of_lt hI.2.2.1
    obtain ⟨it, hit⟩ : ∃ it, it = itR (0 + ((i + 1 : Nat) : Int)) ((n : Int) - ((i + 1 : Nat) : Int)) := ⟨_, rfl⟩
    rw [← hit] at N ⊢
    refine lr_turn (rest := (I, it) :: rest) (j := ks.length) (ep := ep) (eq := eq) (nb := nb) (t := (r.flatMap fun k => bs.getD k []) ++ tl) hst hsc hBv B X T C1 C2 F (by rw [if_neg (Ne.symm hx.1)]; exact hm1) (by rw [if_neg (Ne.symm hx.2.1)]; exact hm2) (by rw [if_neg (Ne.symm hx.2.2)]; exact hm3) (cb_drop N ?_) hW hT hS ?_ hi hwl hwb hb hrs (by (first | lia | omega)) hq hbl hbc hwm (hms k (.head _)) ?_ ?_ (by (first | lia | omega)) hw1 hw2 (by (first | lia | omega)) hd hu hlt (NeAll.cons (by (first | lia | omega)) hltr) n4 hTn (NeAll.cons (Ne.symm z2) hTr) n2 ?_
    · unfold lrOwn
      intro p hp
      simp only [List.mem_append, List.mem_cons, List.not_mem_nil, or_false] at hp ⊢
      rcases hp with h | h | h | h | h | h | h | h | h | h <;> simp only [h, true_or, or_true]
    · exact clear_cons n3 (clear_cons n2 (clear_cons n1 (clear_cons n4 (clear_cons n5 (clear_cons n6 (clear_cons n7 (clear_cons n8 hcr)))))))
    · rw [hgs, List.flatMap_cons, List.append_assoc]
    · intro c hc
      rw [hgs] at hc
      rcases List.mem_append.mp hc with hc | hc
      · exact hfb c hc
      · exact htb c hc
    intro v' oT' rs' t' m' h' tk' hB' hap' hrs' hT' hm1' hm2' hm3' F' N'
    have e1 : NeAll (L' + 1) (TB u v') := hap' (L' + 1, oS) (by (repeat' (first | with_reducible exact List.mem_cons_self | with_reducible assumption | with_reducible refine List.mem_cons_of_mem _ ?_ | (with_reducible refine List.mem_append_left _ ?_; with_reducible assumption) | with_reducible refine List.mem_append_right _ ?_))) n1
    have e2 : NeAll (L' + 1 + 1) (TB u v') := hap' (L' + 1 + 1, oT) (by (repeat' (first | with_reducible exact List.mem_cons_self | with_reducible assumption | with_reducible refine List.mem_cons_of_mem _ ?_ | (with_reducible refine List.mem_append_left _ ?_; with_reducible assumption) | with_reducible refine List.mem_append_right _ ?_))) n2
    have e3 : NeAll (L' + 1 + 1 + 1) (TB u v') := hap' (L' + 1 + 1 + 1, oW) (by (repeat' (first | with_reducible exact List.mem_cons_self | with_reducible assumption | with_reducible refine List.mem_cons_of_mem _ ?_ | (with_reducible refine List.mem_append_left _ ?_; with_reducible assumption) | with_reducible refine List.mem_append_right _ ?_))) n3
    have e4 : NeAll lt (TB u v') := hap' (lt, listOf rs.toArray ks.length) (by (repeat' (first | with_reducible exact List.mem_cons_self | with_reducible assumption | with_reducible refine List.mem_cons_of_mem _ ?_ | (with_reducible refine List.mem_append_left _ ?_; with_reducible assumption) | with_reducible refine List.mem_append_right _ ?_))) n4
    have e5 : NeAll lb (TB u v') := hap' (lb, listOf bys.toArray nb) (by (repeat' (first | with_reducible exact List.mem_cons_self | with_reducible assumption | with_reducible refine List.mem_cons_of_mem _ ?_ | (with_reducible refine List.mem_append_left _ ?_; with_reducible assumption) | with_reducible refine List.mem_append_right _ ?_))) n5
    have e6 : NeAll lw (TB u v') := hap' (lw, listOf vs.toArray ep) (by (repeat' (first | with_reducible exact List.mem_cons_self | with_reducible assumption | with_reducible refine List.mem_cons_of_mem _ ?_ | (with_reducible refine List.mem_append_left _ ?_; with_reducible assumption) | with_reducible refine List.mem_append_right _ ?_))) n6
    have e7 : NeAll lq (TB u v') := hap' (lq, listOf qs.toArray eq) (by (repeat' (first | with_reducible exact List.mem_cons_self | with_reducible assumption | with_reducible refine List.mem_cons_of_mem _ ?_ | (with_reducible refine List.mem_append_left _ ?_; with_reducible assumption) | with_reducible refine List.mem_append_right _ ?_))) n7
    have e8 : NeAll I (TB u v') := hap' (I, it) (by (repeat' (first | with_reducible exact List.mem_cons_self | with_reducible assumption | with_reducible refine List.mem_cons_of_mem _ ?_ | (with_reducible refine List.mem_append_left _ ?_; with_reducible assumption) | with_reducible refine List.mem_append_right _ ?_))) n8
    have hks : (ks ++ [(k : Int)]).length = ks.length + 1 := by simp
    refine UnrEnd.intro F' N' (lrOwn L' oW oT' oS lt lb lw lq rs' bys vs qs (ks ++ [(k : Int)]).length nb ep eq ++ (TB u v' ++ rest)) ?_ ?_ ?_
    · unfold lrOwn
      rw [hks]
      intro p hp
      simp only [List.mem_append, List.mem_cons, List.not_mem_nil, or_false] at hp ⊢
      rcases hp with h | (h | h | h | h | h | h | h) | h | h <;> simp only [h, true_or, or_true]
    · unfold lrOwn
      exact NeAll.append (NeAll.cons z3 (NeAll.cons z2 (NeAll.cons z1 (NeAll.cons (by show @Ne Nat _ _; (first | lia | omega)) (NeAll.cons (by show @Ne Nat _ _; (first | lia | omega)) (NeAll.cons (by show @Ne Nat _ _; (first | lia | omega)) (NeAll.cons (by show @Ne Nat _ _; (first | lia | omega)) (fun q hq => nomatch hq)))))))) (NeAll.append e8 hIr)
    · refine ih (i + 1) v' oT' rs' (ks ++ [(k : Int)]) _ t' m' (fun k hk => hms k (.tail _ hk)) (by rw [hkf, List.map_cons, List.append_assoc]; rfl) hkl (by (first | lia | omega)) rfl hB' (fun p hp h => hap' p (by simp only [List.mem_cons, hp, or_true]) (hap p hp h)) hT' hrs' ?_ hm1' hm2' hm3'
      intro d hd
      simp only [List.mem_cons, List.not_mem_nil, or_false] at hd
      rcases hd with rfl | rfl | rfl | rfl | rfl | rfl | rfl | rfl <;> assumption
set_option maxRecDepth 100000 in
set_option maxHeartbeats 8000000 in
theorem lawRead {u v : TS} (hB : okB u v) {lw ep lq eq : Nat} {vs qs : List Value} {ws : List Nat} {bs : List (List Nat)} {k0 k1 k2 : Nat} {gs tl : List Nat} {tt : Tok}
   (B : Below A₀ base outer h₀) (F : Fr h₀ L s.heap m) (X : (Mine.hd.heap_39 w.params).In h₀) (C1 : CodeHd h₀ 52 48) (C2 : CodeHd h₀ 59 55) (N : News h₀ L s.heap (TB u v ++ rest)) (T : Top p loose mean mg mb h₀) (hk : cs.kind = .function)
   (hc : Clear rest) (hlwne : NeAll lw (TB u v)) (hlqne : NeAll lq (TB u v)) (hlw : (lw, listOf vs.toArray ep) ∈ rest) (hlq : (lq, listOf qs.toArray eq) ∈ rest)
   (hd : dp + 150 < recursionLimit) (hu : un + 2500 < cLine)
   (hi : IntsAre vs (ws.map fun (e : Nat) => (e : Int))) (hwl : ws.length = 4) (hwb : ∀ e ∈ ws, 1 ≤ e ∧ e ≤ 8)
   (hq : StrsAre qs (bs.map bitStr)) (hbl : bs.length = 4) (hbc : ∀ (k : Nat) (b : List Nat), bs[k]? = some b → Coded ws k b)
   (hk0 : k0 < 4) (hk1 : k1 < 4) (hk2 : k2 < 4) (hgs : gs = bs.getD k0 [] ++ (bs.getD k1 [] ++ (bs.getD k2 [] ++ tl))) (htl : tl.length = 6) (htb : ∀ c ∈ tl, c ≤ 1)
   (ret : ∀ (v' : TS) (la : Nat) (rs : List Value) (h' : Heap) (tk' : Nat), okB u v' → IntsAre rs [(k0 : Int), (k1 : Int), (k2 : Int)] → NeAll la (TB u v' ++ rest) → (∀ p ∈ rest, NeAll p.1 (TB u v) → NeAll p.1 (TB u v')) → Fr h₀ L h' m → News h₀ L h' ((la, listOf rs.toArray 3) :: (TB u v' ++ rest)) → Q (.ref la) { s with heap := h', toks := tk' }) :
   wpAny (model Challenge.rw_pg0224_01.row.prog w) (ktrTop dp un gd cn cs L a ccd cl outer) (call (.ref 91) [.ref lw, .ref lq, .str (bitStr gs) tt]) Q E s := by
  refine wpAny_call ?_
  k_dflt (refine' code_defC ?k1 ?k2 ?k3 ?k4 ?k5 ?kA ?kF ?kK ?k6 ?k7 ?k8 ?k9 ?kB ?kD ?_ ?c2 ?c3 ?c4; (case kA => exact rfl); (case kF => exact rfl); (case kK => first | assumption | exact rfl); (case k1 => k_asm); (case k2 => k_asm); (case k3 => k_asm); (case k4 => k_asm); (case k5 => k_asm); (case k6 => k_is); (case k7 => k_is); (case k8 => (first | exact Nat.lt_of_le_of_lt (Nat.le_add_right dp _) hd | (show dp < recursionLimit; omega))); (case k9 => first | exact BindsTo.of_eq rfl | (refine' kp_binds ?kx ?ke; (case kx => k_in); (case ke => exact fun _ => rfl))); (case kB => exact rfl); (case kD => decide +kernel); (case c2 => exact rfl); (case c3 => exact rfl); (case c4 => exact rfl); k_whole; intro g' L' h' tk' cells' FG' F' N' Y' B' X' T' l1; (try k_lt l1); have hY := CellsAre.three Y'; obtain ⟨o1, o2, o3, hE', d1, d2, d3⟩ := hY; subst hE'; clear Y'; (try simp only [List.cons_append, List.nil_append] at N'); (try dsimp only); (try k_lift B'); (try k_fold))
  have C1' : CodeHd g' 52 48 := C1.keeps FG'.keep
  have C2' : CodeHd g' 59 55 := C2.keeps FG'.keep
  obtain ⟨m1, F'⟩ := fr_gen [("words", .ref lq)] F' (by intro p hp; simp only [List.mem_cons, List.not_mem_nil, or_false] at hp; rcases hp with rfl; rfl)
  replace d3 : o3.data = .cell (some (.ref lw)) := d3
  replace d2 : o2.data = .cell (some (.str (bitStr gs) tt)) := d2
  replace d1 : o1.data = .cell none := d1
  replace l1 : AllLt L' (TB u v ++ rest) := allLt_of l1
  have hlwL : lw < L' := allLt_mem (p := (lw, listOf vs.toArray ep)) l1 (List.mem_append_right _ hlw)
  have hlqL : lq < L' := allLt_mem (p := (lq, listOf qs.toArray eq)) l1 (List.mem_append_right _ hlq)
  replace N' : News g' L' h' ((L' + 1 + 1 + 1, o1) :: (L' + 1 + 1, o2) :: (L' + 1, o3) :: (lw, listOf vs.toArray ep) :: (lq, listOf qs.toArray eq) :: (TB u v ++ rest)) := cb_drop N' fun p hp => by
    simp only [List.mem_cons, List.mem_append] at hp ⊢
    rcases hp with h | h | h | h | h | h | h
    · simp only [h, true_or, or_true]
    · simp only [h, true_or, or_true]
    · simp only [h, true_or, or_true]
    · subst h; simp only [hlw, true_or, or_true]
    · subst h; simp only [hlq, true_or, or_true]
    · simp only [h, true_or, or_true]
    · simp only [h, true_or, or_true]
  repeat' (first | (k_unfold; (try dsimp only)) | walk1 | (dsimp only; walk1))
  refine Halt.out ?_
  k_dflt (refine LCg.ListComp_U (F₀ := by k_asm) (by with_unfolding_all rfl) (by decide) (by rfl) (by decide) (by rfl) ?_)
  repeat' (first | (k_unfold; (try dsimp only)) | walk1 | (dsimp only; walk1))
  refine Halt.out ?_
  have hql : qs.length = 4 := by rw [hq.length, List.length_map, hbl]
  refine LCg.CompSrc.ledger (by rfl) (by k_asm) N' (.tail _ (.tail _ (.tail _ (.tail _ (.head _))))) (by rw [sizeLine_eq]; simp; (first | lia | omega)) ?_
  intro gheap
  try dsimp only
  refine comp_ind (fun i ys nw => nw = _ ∧ IntsAre ys ((bs.take i).map fun b => (b.length : Int))) ?_ ?_ ⟨rfl, .nil⟩
  · rintro ys nw ⟨rfl, hys⟩
    intro D h6 tk6 F6 N6 off6
    try dsimp only
    repeat' (first | (k_unfold; (try dsimp only)) | walk1 | (dsimp only; walk1))
    rw [List.take_of_length_le (show bs.length ≤ qs.toArray.size by simp; (first | lia | omega))] at hys
    refine max_list_N (by rfl) F6 N6 (News.isList N6 (.head _)) hys (by rw [List.length_map]; (first | lia | omega)) ?_
    intro h7 M t7 tk7 F7 N7 hM hMm
    obtain ⟨bw, hbw, rfl⟩ := List.mem_map.mp hM
    obtain ⟨kw, hcw⟩ := coded_mem hbc hbw
    obtain ⟨wide, hwide⟩ : ∃ wide, wide = bw.length := ⟨_, rfl⟩
    rw [← hwide]
    rw [← hwide] at hMm
    have hw2 : 2 ≤ wide := by have := hcw.len2; (first | lia | omega)
    have hw6 : wide ≤ 6 := by have := hcw.len6; (first | lia | omega)
    have hwm : ∀ b ∈ bs, b.length ≤ wide := fun b hb => by have := hMm _ (List.mem_map.mpr ⟨b, hb, rfl⟩); (first | lia | omega)
    clear hcw hMm hM hwide hbw hys N6 F6
    replace N7 := cb_drop N7 fun p hp => List.Mem.tail _ hp
    try dsimp only
    repeat' (first | (k_unfold; (try dsimp only)) | walk1 | (dsimp only; walk1))
    refine Halt.out ?_
    rename_i h8 o1' F8 N8 d1' h9 tk9 t9 u9 v9 hr9 F9 N9 k9
    refine LCg.CompSrc.range (by rfl) F9 N9 hr9 (by decide) (by rfl) (by rw [sizeLine_eq]; decide) ?_
    intro gheap2
    try dsimp only
    refine comp_ind (fun i ys nw => nw = _ ∧ IntsAre ys ((List.range i).map fun k => (((ws.take k).sum * 2 ^ wide : Nat) : Int))) ?_ ?_ ⟨rfl, .nil⟩
    · rintro ys nw ⟨rfl, hys⟩
      intro D h6 tk6 F6 N6 off6
      try dsimp only
      repeat' (first | (k_unfold; (try dsimp only)) | walk1 | (dsimp only; walk1))
      refine Halt.out ?_
      rename_i lt hA ltl hA2 FA NA h9' tk9' t9' u9' v9' hr9' F9' N9' k9'
      have hysl : ys.length = 4 := by rw [hys.length, List.length_map, List.length_range]
      have offD := off1_ne off6
      replace N9' : News g' L' h9' (lrOwn L' o1' o2 o3 lt D lw lq [] ys vs qs 0 ys.length ep eq ++ (TB u v ++ rest)) := cb_drop N9' (by
        unfold lrOwn
        intro p hp
        simp only [List.mem_append, List.mem_cons, List.not_mem_nil, or_false] at hp ⊢
        rcases hp with (h | h | h | h | h | h | h) | h | h <;> simp only [h, true_or, or_true])
      have subT : ∀ p ∈ TB u v, p ∈ TB u v ++ rest := fun p hp => List.mem_append_left _ hp
      have subR : ∀ p ∈ rest, p ∈ TB u v ++ rest := fun p hp => List.mem_append_right _ hp
      have y1 : NeAll (L' + 1) (TB u v ++ rest) := neAll_le l1 (by (first | lia | omega))
      have y2 : NeAll (L' + 1 + 1) (TB u v ++ rest) := neAll_le l1 (by (first | lia | omega))
      have y3 : NeAll (L' + 1 + 1 + 1) (TB u v ++ rest) := neAll_le l1 (by (first | lia | omega))
      have y4 : NeAll lt (TB u v ++ rest) := NeAll.of_lt ltl.2.2.2.2.2.2
      have y5 : NeAll D (TB u v ++ rest) := offD.tl.tl.tl.tl.tl
      have y6 : D ≠ L' + 1 + 1 := Ne.symm (offD (L' + 1 + 1, o2) (by (repeat' (first | with_reducible exact List.mem_cons_self | with_reducible assumption | with_reducible refine List.mem_cons_of_mem _ ?_ | (with_reducible refine List.mem_append_left _ ?_; with_reducible assumption) | with_reducible refine List.mem_append_right _ ?_))))
      refine iter_rangeUnr (n := 3) (by rfl) hr9' (by decide) (by rfl) F9' N9' ?_
      intro I lI
      have hI : ∀ p ∈ lrOwn L' o1' o2 o3 lt D lw lq [] ys vs qs 0 ys.length ep eq, @LT.lt Nat _ p.1 I := fun p hp => lI p (List.mem_append_left _ hp)
      have hIn : NeAll I (TB u v ++ rest) := fun p hp => Nat.ne_of_lt (lI p (List.mem_append_right _ hp))
      have q1 := hI (L' + 1, o3) (by unfold lrOwn; simp only [List.mem_cons, true_or, or_true])
      have q2 := hI (L' + 1 + 1, o2) (by unfold lrOwn; simp only [List.mem_cons, true_or, or_true])
      have q3 := hI (L' + 1 + 1 + 1, o1') (by unfold lrOwn; simp only [List.mem_cons, true_or, or_true])
      have q4 := hI (lt, listOf (List.toArray []) 0) (by unfold lrOwn; simp only [List.mem_cons, true_or, or_true])
      have q5 := hI (D, listOf ys.toArray ys.length) (by unfold lrOwn; simp only [List.mem_cons, true_or, or_true])
      have q6 := hI (lw, listOf vs.toArray ep) (by unfold lrOwn; simp only [List.mem_cons, true_or, or_true])
      have q7 := hI (lq, listOf qs.toArray eq) (by unfold lrOwn; simp only [List.mem_cons, true_or, or_true])
      refine lr_loop (v₀ := v) (n := 3) (kf := [(k0 : Int), (k1 : Int), (k2 : Int)]) (by rfl) (by rfl) B' X' T' C1' C2' d1' d3 hi hwl hwb hys hq hbl hbc hwm (by (first | lia | omega)) (by (first | lia | omega)) htb hw2 hw6 (by (first | lia | omega)) (by (first | lia | omega)) ⟨by (first | lia | omega), by (first | lia | omega), by (first | lia | omega), by (first | lia | omega), by (first | lia | omega), by (first | lia | omega)⟩ (fun p hp => y4 p (subR p hp)) ⟨y6, by (first | lia | omega), by (first | lia | omega)⟩ (fun p hp => y2 p (subR p hp)) ⟨q1, q2, q3, q4, q5, q6, q7⟩ (fun p hp => hIn p (subR p hp)) hc ⟨by decide +kernel, by decide +kernel, by decide +kernel⟩ ?_ [k0, k1, k2] 0 v o2 [] [] gs tt _ ?_ rfl (by simp) (by simp) ?_ hB (fun p hp h => h) d2 .nil ?_ rfl rfl rfl
      · intro v' oT' rs' m' h' tk' j' hB' hap' hlt' hrs' hm' F' N'
        obtain ⟨m7, F'⟩ := fr_gen [("letters", .ref lt)] F' (by intro p hp; simp only [List.mem_cons, List.not_mem_nil, or_false] at hp; rcases hp with rfl; exact hm')
        replace N' : News g' L' h' ((lt, listOf rs'.toArray 3) :: (TB u v' ++ rest)) := cb_drop N' (by
          unfold lrOwn
          intro p hp
          simp only [List.mem_append, List.mem_cons, List.not_mem_nil, or_false] at hp ⊢
          rcases hp with h | h | h
          · subst h; simp only [List.length_cons, List.length_nil, true_or, or_true]
          · simp only [h, true_or, or_true]
          · simp only [h, true_or, or_true])
        try dsimp only
        repeat' (first | (k_unfold; (try dsimp only)) | walk1 | (dsimp only; walk1))
        rename_i kF kN _ _
        exact ret v' lt rs' _ _ hB' hrs' (NeAll.append hlt' fun p hp => y4 p (subR p hp)) hap' kF kN
      · intro k hk
        simp only [List.mem_cons, List.not_mem_nil, or_false] at hk
        rcases hk with rfl | rfl | rfl <;> assumption
      · rw [hgs]
        simp [List.flatMap_cons, List.append_assoc]
      · intro d hd
        simp only [List.mem_cons, List.not_mem_nil, or_false] at hd
        rcases hd with rfl | rfl | rfl | rfl | rfl | rfl | rfl | rfl
        · exact fun p hp => y1 p (subT p hp)
        · exact fun p hp => y2 p (subT p hp)
        · exact fun p hp => y3 p (subT p hp)
        · exact fun p hp => y4 p (subT p hp)
        · exact fun p hp => y5 p (subT p hp)
        · exact hlwne
        · exact hlqne
        · exact fun p hp => hIn p (subT p hp)
    · rintro i fv ys nw Ic oIc Cc oCc Dc mc hc6 tkc Ec hin ⟨rfl, hys⟩ hPv hNs hmc Fc Nc offc nec
      obtain ⟨tz, rfl⟩ := hPv
      repeat' (first | (k_unfold; (try dsimp only)) | walk1 | (dsimp only; walk1))
      refine Halt.out ?_
      try dsimp only
      rename_i Dz vz hz1 Fz1 Nz1 Iz Cz Lz lz hz2 tz2 tz3 Fz Nz
      have e1 : (0 + (i : Int)).toNat = i := by (first | lia | omega)
      have e2 : (List.take (0 + (i : Int)).toNat (ws.map fun (e : Nat) => (e : Int))).sum = (((ws.take i).sum : Nat) : Int) := by rw [e1, ← List.map_take, sum_cast]
      rw [e2]
      have hSb := sum_le8 ws hwb
      have hi4 : i < 4 := hin
      have hSi := take_sum_mono ws (j := i) (k := 4) (by (first | lia | omega)) (by (first | lia | omega))
      rw [show ws.take 4 = ws from List.take_of_length_le (by (first | lia | omega))] at hSi
      have hbt := intBits_lt (ws.take i).sum 6 (by (first | lia | omega))
      refine PyProof.Rows.lshift_int (by (first | lia | omega)) (by (first | lia | omega)) ?_
      rw [Int.toNat_natCast]
      try dsimp only
      refine LCg.CompEnd.intro Fz Nz _ (fun p hp => .tail _ hp) offc trivial ⟨rfl, ?_⟩
      rw [List.range_succ, List.map_append]
      have e3 : ((((ws.take i).sum : Nat) : Int) * 2 ^ wide) = (((ws.take i).sum * 2 ^ wide : Nat) : Int) := by simp
      rw [e3]
      exact ints_snoc hys
  · rintro i fv ys nw Ic oIc Cc oCc Dc mc hc6 tkc Ec hin ⟨rfl, hys⟩ hPv hNs hmc Fc Nc offc nec
    obtain ⟨bi, tb, hbi, rfl⟩ := bit_at hq (by simpa using hPv)
    have hb6 := (hbc i bi hbi).len6
    have hbn := bit_len bi
    repeat' (first | (k_unfold; (try dsimp only)) | walk1 | (dsimp only; walk1))
    refine LCg.CompEnd.intro Fc Nc _ (fun p hp => hp) offc (.inr ⟨_, .tail _ (.tail _ (.tail _ (.tail _ (.head _)))), rfl, _, rfl⟩) ⟨rfl, ?_⟩
    rw [take_snoc _ _ _ hbi, List.map_append, hbn]
    exact ints_snoc hys
section
open PySem.AutoSeq1 PySem.MeetsSeq PySem.MeetsSeq2 PySem.MeetsSeq3 PySem.SeqRoads2 PySem.SeqAt
theorem lt_loop (l b : Addr) (n n2 : Nat) (dd dd2 : Option Addr) (sl sl2 : Array (Option Value)) (k : Nat) :
    ∀ (xs ys : List Value) (ns ms : List Int) (i : Nat), IntsAre xs ns → IntsAre ys ms → ns.length = ms.length → ns.length - i = k → Meets (Builtin.«list.__eq__.loop» ⟨[.ref l, .ref b, rawInt i, rawInt 0], []⟩)
      (fun A R s => s.heap.get? l = some { cls := .type "list", dict := dd, data := .seq xs.toArray n, slots := sl } ∧ s.heap.get? b = some { cls := .type "list", dict := dd2, data := .seq ys.toArray n2, slots := sl2 } ∧
        R (.ok (.ret (.bool (decide (ns.drop i < ms.drop i))))) s) := by
  induction k with
  | zero =>
    intro xs ys ns ms i hx hy hsz hk prog w A R s h
    obtain ⟨hp, g, d, tk, os⟩ := s; obtain ⟨hl, hb, h⟩ := h
    have hxl := hx.length
    have hyl := hy.length
    wp_walk using wpAny_loadPart' hl, wpAny_loadPart' hb
    have hi1 : xs.toArray[((i : Nat) : Int).toNat]? = none := by simp; (first | lia | omega)
    have hi2 : ys.toArray[((i : Nat) : Int).toNat]? = none := by simp; (first | lia | omega)
    have hd : ns.drop i = [] := List.drop_eq_nil_of_le (by (first | lia | omega))
    have hd2 : ms.drop i = [] := List.drop_eq_nil_of_le (by (first | lia | omega))
    rw [hd, hd2] at h
    rw [hi1, hi2]
    wp_walk using wpAny_loadPart' hl, wpAny_loadPart' hb
    show R (.ok (.ret (.bool (decide (xs.toArray.size < ys.toArray.size))))) _
    have e : decide (xs.toArray.size < ys.toArray.size) = decide (([] : List Int) < []) := by
      have e1 : xs.toArray.size = ys.toArray.size := by simp; (first | lia | omega)
      rw [e1]; simp
    rw [e]
    exact h
  | succ k ih =>
    intro xs ys ns ms i hx hy hsz hk prog w A R s h
    obtain ⟨hp, g, d, tk, os⟩ := s; obtain ⟨hl, hb, h⟩ := h
    have hxl := hx.length
    have hyl := hy.length
    wp_walk using wpAny_loadPart' hl, wpAny_loadPart' hb
    have hlt : i < ns.length := by (first | lia | omega)
    have hlt2 : i < ms.length := by (first | lia | omega)
    obtain ⟨t1, hx1⟩ := hx.get i ns[i] (List.getElem?_eq_getElem hlt)
    obtain ⟨t2, hy1⟩ := hy.get i ms[i] (List.getElem?_eq_getElem hlt2)
    have hi1 : xs.toArray[((i : Nat) : Int).toNat]? = some (.int ns[i] t1) := by simpa using hx1
    have hi2 : ys.toArray[((i : Nat) : Int).toNat]? = some (.int ms[i] t2) := by simpa using hy1
    have hd : ns.drop i = ns[i] :: ns.drop (i + 1) := List.drop_eq_getElem_cons hlt
    have hd2 : ms.drop i = ms[i] :: ms.drop (i + 1) := List.drop_eq_getElem_cons hlt2
    have hc : ((i : Int) + 1) = ((i + 1 : Nat) : Int) := by push_cast; rfl
    rw [hd, hd2] at h
    rw [hi1, hi2]
    refine wpAny_bind (wpAny_eqBool_int ?_)
    by_cases he : ns[i] = ms[i]
    · have hb' : (ns[i] == ms[i]) = true := by simp [he]
      rw [hb']
      wp_walk
      rw [hc]
      exact ⟨plainId_quiet plain_eq_loop _, codeAny_builtin entry_eq_loop (by
        rw [Around.under_plainId plain_eq_loop _]
        refine ih xs ys ns ms (i + 1) hx hy hsz (by (first | lia | omega)) prog w A R _ ⟨hl, hb, ?_⟩
        have e : decide (ns[i] :: ns.drop (i + 1) < ms[i] :: ms.drop (i + 1)) = decide (ns.drop (i + 1) < ms.drop (i + 1)) := by
          rw [decide_eq_decide, List.cons_lt_cons_iff, he]
          simp
        rw [e] at h
        exact h)⟩
    · have hb' : (ns[i] == ms[i]) = false := by simp [he]
      rw [hb']
      wp_walk using wpAny_loadPart' hl, wpAny_loadPart' hb
      rw [hi1, hi2]
      refine wpAny_bind ?_
      refine (show wpAny _ _ (compareOp .Lt (.int ns[i] t1) (.int ms[i] t2)) _ _ _ from PyProof.Rows.lt_int ?_)
      refine wpAny_pure ?_
      have e : decide (ns[i] :: ns.drop (i + 1) < ms[i] :: ms.drop (i + 1)) = decide (ns[i] < ms[i]) := by
        rw [decide_eq_decide, List.cons_lt_cons_iff]
        simp [he]
      rw [e] at h
      exact h
theorem list_lt (l b : Addr) (n n2 : Nat) (dd dd2 : Option Addr) (sl sl2 : Array (Option Value)) (xs ys : List Value) (ns ms : List Int) (hx : IntsAre xs ns) (hy : IntsAre ys ms) (hsz : ns.length = ms.length) :
    Meets (Builtin.«list.__lt__» ⟨[.ref l, .ref b], []⟩)
      (fun A R s => s.heap.get? l = some { cls := .type "list", dict := dd, data := .seq xs.toArray n, slots := sl } ∧ s.heap.get? b = some { cls := .type "list", dict := dd2, data := .seq ys.toArray n2, slots := sl2 } ∧
        R (.ok (.ret (.bool (decide (ns < ms))))) s) := by
  intro prog w A R s h
  obtain ⟨hp, g, d, tk, os⟩ := s; obtain ⟨hl, hb, h⟩ := h
  have f3 := AutoSeq1.sub_list_list
  wp_walk using wpAny_loadPart' hl, wpAny_loadPart' hb
  exact ⟨plainId_quiet plain_eq_loop _, codeAny_builtin entry_eq_loop (by
    rw [Around.under_plainId plain_eq_loop _]
    exact lt_loop l b n n2 dd dd2 sl sl2 _ xs ys ns ms 0 hx hy hsz rfl prog w A R _ ⟨hl, hb, by simpa using h⟩)⟩
theorem lt_lists {prog : Program} {A : Around} {E : Value → Shared → Prop} {s : Shared} {l b : Addr} {xs ys : List Value} {ns ms : List Int} {Q : Bool → Shared → Prop} (hu : A.units < cLine) (hl : s.heap.IsList l xs.toArray) (hb : s.heap.IsList b ys.toArray) (hx : IntsAre xs ns) (hy : IntsAre ys ms) (hsz : ns.length = ms.length)
    (h : Q (decide (ns < ms)) s) : wpAny (model prog w) A (keyLt' oneType' (.ref l) (.ref b)) Q E s := by
  rw [keyLt'_oneType, oneLt'_eq]
  simp only [if_true]
  refine wpAny_bind (wpAny_cRoomFor hu ?_)
  obtain ⟨⟨c1, d1, dt1, sl1⟩, ho1, hc1, n1, hd1⟩ := hl
  obtain ⟨⟨c2, d2, dt2, sl2⟩, ho2, hc2, n2, hd2⟩ := hb
  replace hc1 : c1 = .type "list" := hc1
  replace hc2 : c2 = .type "list" := hc2
  replace hd1 : dt1 = .seq xs.toArray n1 := hd1
  replace hd2 : dt2 = .seq ys.toArray n2 := hd2
  subst hc1 hc2 hd1 hd2
  refine wpAny_bind (wpAny_callSpecialIfBound?_slot ⟨_, ho1, rfl⟩ F.slot_list_lt (call_meets F.slot_list_lt ⟨_, ho1, rfl⟩ F.entry_list_lt (F.args_list_lt_2 _ _) (list_lt l b n1 n2 d1 d2 sl1 sl2 xs ys ns ms hx hy hsz) ⟨ho1, ho2, ?_⟩))
  exact wpAny_truthy_bool h
end
theorem nlt_of_lt {a b : List Int} (h : a < b) : ¬ b < a := fun h' => List.lt_irrefl _ (List.lt_trans h h')
theorem nlt1 {a b c : List Int} (h1 : a < b) (h2 : ¬ a < c) : ¬ b < c := fun h => h2 (List.lt_trans h1 h)
theorem nlt2 {a b c : List Int} (h1 : b < c) (h2 : ¬ a < c) : ¬ a < b := fun h => h2 (List.lt_trans h h1)
set_option maxRecDepth 100000 in
set_option maxHeartbeats 8000000 in
theorem sort3 {prog : Program} {A : Around} {E : Value → Shared → Prop} {s : Shared} {news : List (Addr × Obj)} {l a0 a1 a2 n n0 n1 n2 : Nat} {v0 v1 v2 : List Value} {x0 x1 x2 : List Int} {Q : Value → Shared → Prop}
   (hu : A.units + 10 < cLine) (F : Fr h₀ L s.heap m) (N : News h₀ L s.heap news) (hl : (l, listOf #[Value.ref a0, Value.ref a1, Value.ref a2] n) ∈ news)
   (m0 : (a0, listOf v0.toArray n0) ∈ news) (m1 : (a1, listOf v1.toArray n1) ∈ news) (m2 : (a2, listOf v2.toArray n2) ∈ news)
   (i0 : IntsAre v0 x0) (i1 : IntsAre v1 x1) (i2 : IntsAre v2 x2) (e0 : x0.length = 3) (e1 : x1.length = 3) (e2 : x2.length = 3)
   (ret : ∀ (D : Nat) (c0 c1 c2 : Nat) (y0 y1 y2 : List Int) (k : Nat) (h' : Heap) (tk : Nat), List.Perm [(c0, y0), (c1, y1), (c2, y2)] [(a0, x0), (a1, x1), (a2, x2)] → ¬ y1 < y0 → ¬ y2 < y1 → NeAll D news → Fr h₀ L h' m → News h₀ L h' ((D, listOf #[Value.ref c0, Value.ref c1, Value.ref c2] k) :: news) → Q (.ref D) { s with heap := h', toks := tk }) :
   wpAny (model prog w) A (call (.builtin "sorted") [.ref l]) Q E s := by
  refine kas_sorted (vs := [Value.ref a0, Value.ref a1, Value.ref a2]) (T := .type "list") F N (News.isList N hl) (by simp) (by simp) ?_ rfl ?_
  · intro h Fh Nh v hv
    have look : ∀ (a : Nat) (o : Obj), (a, o) ∈ news → o.cls = .type "list" → Looks (model prog w) h (typeOf (.ref a)) (.type "list") := fun a o hm hc => fun _ _ _ _ k q => wpAny_typeOf ⟨o, k _ _ (Nh _ hm).1, hc⟩ q
    simp only [List.mem_cons, List.not_mem_nil, or_false] at hv
    rcases hv with rfl | rfl | rfl
    · exact look _ _ m0 rfl
    · exact look _ _ m1 rfl
    · exact look _ _ m2 rfl
  intro D ke h1 F1 N1 l1
  have L0 : h1.IsList a0 v0.toArray := News.isList N1 (.tail _ m0)
  have L1 : h1.IsList a1 v1.toArray := News.isList N1 (.tail _ m1)
  have L2 : h1.IsList a2 v2.toArray := News.isList N1 (.tail _ m2)
  have hne : NeAll D news := fun q hq => Nat.ne_of_lt (l1 q hq)
  have hu' : A.in1.in1.units < cLine := by show A.units + 1 + 1 < cLine; (first | lia | omega)
  repeat' (first | walk1 | (dsimp only; walk1) | refine lt_lists hu' L0 L1 i0 i1 (by (first | lia | omega)) ?_ | refine lt_lists hu' L1 L0 i1 i0 (by (first | lia | omega)) ?_ | refine lt_lists hu' L0 L2 i0 i2 (by (first | lia | omega)) ?_ | refine lt_lists hu' L2 L0 i2 i0 (by (first | lia | omega)) ?_ | refine lt_lists hu' L1 L2 i1 i2 (by (first | lia | omega)) ?_ | refine lt_lists hu' L2 L1 i2 i1 (by (first | lia | omega)) ?_)
  all_goals (rename_i hh cc FF NN; first | exact ret D a0 a1 a2 x0 x1 x2 _ _ _ (.refl _) (by first | assumption | exact nlt_of_lt (by assumption) | exact nlt1 (a := x0) (by assumption) (by assumption) | exact nlt1 (a := x1) (by assumption) (by assumption) | exact nlt2 (c := x1) (by assumption) (by assumption) | exact nlt2 (c := x0) (by assumption) (by assumption)) (by first | assumption | exact nlt_of_lt (by assumption) | exact nlt1 (a := x0) (by assumption) (by assumption) | exact nlt1 (a := x1) (by assumption) (by assumption) | exact nlt2 (c := x1) (by assumption) (by assumption) | exact nlt2 (c := x0) (by assumption) (by assumption)) hne FF NN | exact ret D a1 a0 a2 x1 x0 x2 _ _ _ (.swap _ _ _) (by first | assumption | exact nlt_of_lt (by assumption) | exact nlt1 (a := x0) (by assumption) (by assumption) | exact nlt1 (a := x1) (by assumption) (by assumption) | exact nlt2 (c := x1) (by assumption) (by assumption) | exact nlt2 (c := x0) (by assumption) (by assumption)) (by first | assumption | exact nlt_of_lt (by assumption) | exact nlt1 (a := x0) (by assumption) (by assumption) | exact nlt1 (a := x1) (by assumption) (by assumption) | exact nlt2 (c := x1) (by assumption) (by assumption) | exact nlt2 (c := x0) (by assumption) (by assumption)) hne FF NN | exact ret D a0 a2 a1 x0 x2 x1 _ _ _ (.cons _ (.swap _ _ _)) (by first | assumption | exact nlt_of_lt (by assumption) | exact nlt1 (a := x0) (by assumption) (by assumption) | exact nlt1 (a := x1) (by assumption) (by assumption) | exact nlt2 (c := x1) (by assumption) (by assumption) | exact nlt2 (c := x0) (by assumption) (by assumption)) (by first | assumption | exact nlt_of_lt (by assumption) | exact nlt1 (a := x0) (by assumption) (by assumption) | exact nlt1 (a := x1) (by assumption) (by assumption) | exact nlt2 (c := x1) (by assumption) (by assumption) | exact nlt2 (c := x0) (by assumption) (by assumption)) hne FF NN | exact ret D a1 a2 a0 x1 x2 x0 _ _ _ (.trans (.cons _ (.swap _ _ _)) (.swap _ _ _)) (by first | assumption | exact nlt_of_lt (by assumption) | exact nlt1 (a := x0) (by assumption) (by assumption) | exact nlt1 (a := x1) (by assumption) (by assumption) | exact nlt2 (c := x1) (by assumption) (by assumption) | exact nlt2 (c := x0) (by assumption) (by assumption)) (by first | assumption | exact nlt_of_lt (by assumption) | exact nlt1 (a := x0) (by assumption) (by assumption) | exact nlt1 (a := x1) (by assumption) (by assumption) | exact nlt2 (c := x1) (by assumption) (by assumption) | exact nlt2 (c := x0) (by assumption) (by assumption)) hne FF NN | exact ret D a2 a0 a1 x2 x0 x1 _ _ _ (.trans (.swap _ _ _) (.cons _ (.swap _ _ _))) (by first | assumption | exact nlt_of_lt (by assumption) | exact nlt1 (a := x0) (by assumption) (by assumption) | exact nlt1 (a := x1) (by assumption) (by assumption) | exact nlt2 (c := x1) (by assumption) (by assumption) | exact nlt2 (c := x0) (by assumption) (by assumption)) (by first | assumption | exact nlt_of_lt (by assumption) | exact nlt1 (a := x0) (by assumption) (by assumption) | exact nlt1 (a := x1) (by assumption) (by assumption) | exact nlt2 (c := x1) (by assumption) (by assumption) | exact nlt2 (c := x0) (by assumption) (by assumption)) hne FF NN | exact ret D a2 a1 a0 x2 x1 x0 _ _ _ (.trans (.swap _ _ _) (.trans (.cons _ (.swap _ _ _)) (.swap _ _ _))) (by first | assumption | exact nlt_of_lt (by assumption) | exact nlt1 (a := x0) (by assumption) (by assumption) | exact nlt1 (a := x1) (by assumption) (by assumption) | exact nlt2 (c := x1) (by assumption) (by assumption) | exact nlt2 (c := x0) (by assumption) (by assumption)) (by first | assumption | exact nlt_of_lt (by assumption) | exact nlt1 (a := x0) (by assumption) (by assumption) | exact nlt1 (a := x1) (by assumption) (by assumption) | exact nlt2 (c := x1) (by assumption) (by assumption) | exact nlt2 (c := x0) (by assumption) (by assumption)) hne FF NN)
structure Nice (d : PyData) (dep wt : Nat) : Prop where
  sh : d.showable = true
  nd : d.hasDict = false
  lay : d.canLay0 = true
  int : d.intsShort 13 = true
  dp : d.depth ≤ dep
  wt : d.weight ≤ wt
structure NiceAll (ds : List PyData) (dep wt : Nat) : Prop where
  sh : PyData.showableAll ds = true
  nd : PyData.hasDictAll ds = false
  lay : PyData.canLayAll0 ds = true
  int : PyData.intsShortAll 13 ds = true
  dp : PyData.depthAll ds ≤ dep
  wt : PyData.weightAll ds ≤ wt
theorem NiceAll.nil {dep wt : Nat} : NiceAll [] dep wt := ⟨by simp only [PyData.showableAll], by simp only [PyData.hasDictAll], by simp only [PyData.canLayAll0], by simp only [PyData.intsShortAll], by simp only [PyData.depthAll]; (first | lia | omega), by simp only [PyData.weightAll]; (first | lia | omega)⟩
theorem NiceAll.cons {d : PyData} {ds : List PyData} {dep w1 w2 : Nat} (a : Nice d dep w1) (b : NiceAll ds dep w2) : NiceAll (d :: ds) dep (w1 + 1 + w2) := by
  have h1 := a.dp; have h2 := b.dp; have h3 := a.wt; have h4 := b.wt
  exact ⟨by simp only [PyData.showableAll, a.sh, b.sh, Bool.and_self], by simp only [PyData.hasDictAll, a.nd, b.nd, Bool.or_self], by simp only [PyData.canLayAll0, a.lay, b.lay, Bool.and_self], by simp only [PyData.intsShortAll, a.int, b.int, Bool.and_self], by simp only [PyData.depthAll]; (first | lia | omega), by simp only [PyData.weightAll]; (first | lia | omega)⟩
theorem NiceAll.list {ds : List PyData} {dep wt : Nat} (a : NiceAll ds dep wt) : Nice (.list ds) (dep + 1) wt := by
  have h1 := a.dp; have h2 := a.wt
  exact ⟨by simp only [PyData.showable, a.sh], by simp only [PyData.hasDict, a.nd], by simp only [PyData.canLay0, a.lay], by simp only [PyData.intsShort, a.int], by simp only [PyData.depth]; (first | lia | omega), by simp only [PyData.weight]; (first | lia | omega)⟩
theorem nice_int {i : Int} (h0 : 0 ≤ i) (h4 : i < 4) (dep : Nat) : Nice (.int i) dep 3 := by
  have h : i = 0 ∨ i = 1 ∨ i = 2 ∨ i = 3 := by (first | lia | omega)
  rcases h with rfl | rfl | rfl | rfl <;> exact ⟨by decide +kernel, by decide +kernel, by decide +kernel, by decide +kernel, by simp only [PyData.depth]; (first | lia | omega), by decide +kernel⟩
theorem nice_ints (dep : Nat) : ∀ z : List Int, (∀ i ∈ z, 0 ≤ i ∧ i < 4) → NiceAll (z.map PyData.int) dep (4 * z.length)
  | [], _ => NiceAll.nil
  | i :: r, h => by
    have h1 := NiceAll.cons (nice_int (h i (.head _)).1 (h i (.head _)).2 dep) (nice_ints dep r fun j hj => h j (.tail _ hj))
    have e : 3 + 1 + 4 * r.length = 4 * (i :: r).length := by rw [List.length_cons]; (first | lia | omega)
    rw [e] at h1
    exact h1
theorem nice_str {W : Str} (h : (W.cps.all (· < 128)) = true) (hl : W.length ≤ 6) (dep : Nat) : Nice (.str W) dep 6 := by
  refine ⟨by simp only [PyData.showable], by simp only [PyData.hasDict], ?_, by simp only [PyData.intsShort], by simp only [PyData.depth]; (first | lia | omega), by simp only [PyData.weight]; exact hl⟩
  simp only [PyData.canLay0]
  unfold PyData.strOk
  rw [Array.all_eq_true'] at h ⊢
  intro c hc
  have := h c hc
  simp only [decide_eq_true_eq] at this ⊢
  (first | lia | omega)
theorem nice_strs (dep : Nat) : ∀ z : List Str, (∀ W ∈ z, (W.cps.all (· < 128)) = true ∧ W.length ≤ 6) → NiceAll (z.map PyData.str) dep (7 * z.length)
  | [], _ => NiceAll.nil
  | i :: r, h => by
    have h1 := NiceAll.cons (nice_str (h i (.head _)).1 (h i (.head _)).2 dep) (nice_strs dep r fun j hj => h j (.tail _ hj))
    have e : 6 + 1 + 7 * r.length = 7 * (i :: r).length := by rw [List.length_cons]; (first | lia | omega)
    rw [e] at h1
    exact h1
theorem Nice.fits {d : PyData} {dep wt : Nat} (h : Nice d dep wt) (h1 : dep ≤ 64) (h2 : wt ≤ 1000) : d.shown.length ≤ sizeLine := by
  have hd := h.dp; have hw := h.wt
  have := shown_le13 (d := d) (by
    unfold PyData.layable0
    simp only [Bool.and_eq_true, decide_eq_true_eq]
    exact ⟨⟨h.lay, by (first | lia | omega)⟩, by have : (2 : Nat) ^ 20 = 1048576 := (by decide); (first | lia | omega)⟩) h.int
  rw [sizeLine_eq]; (first | lia | omega)
theorem via_list {a n : Nat} {news : List (Addr × Obj)} {vs : List Value} {ds : List PyData} (hm : (a, listOf vs.toArray n) ∈ news) (r : ReadsViaAll h₀ news vs ds) : ReadsVia h₀ news (.ref a) (.list ds) := fun h hk hn => by
  obtain ⟨as, ra⟩ := r h hk hn
  exact ⟨a :: as, .list (hn _ hm) rfl rfl (by rw [List.toList_toArray]; exact ra)⟩
theorem via_ints {news : List (Addr × Obj)} {vs : List Value} {z : List Int} (h : IntsAre vs z) : ReadsViaAll h₀ news vs (z.map PyData.int) := fun hp _ _ => ⟨[], readsAll_of_ints h⟩
theorem via_strs {news : List (Addr × Obj)} {vs : List Value} {z : List Str} (h : StrsAre vs z) : ReadsViaAll h₀ news vs (z.map PyData.str) := fun hp _ _ => ⟨[], h.reads hp⟩
def lawDef : Stmt := nthS PySem.Challenge.pw_pg0224_01.main.body 17
def lawB (k : Nat) : Stmt := nthS (sBody lawDef) k
set_option maxRecDepth 100000 in
set_option maxHeartbeats 8000000 in
theorem law_numbers {stmt : Stmt} {scope : Scope} (hst : stmt = lawB 0) (hsc : scope = sScope lawDef) {g : Heap} {L fa : Addr} {cd : Value} {m2 : Str → Option Value} {ls : Addr} {items : List Value} {ns : List Int} {QF : Flow → Shared → Prop} {EE : Value → Shared → Prop}
   (X : (Mine.hd.heap_39 w.params).In g) (T : Top p loose mean mg mb g) (F : Fr g L s.heap (kstB m2 ([("script", .ref ls)] : List (Str × Value)))) (N : News g L s.heap rest)
   (hl : g.IsList ls items.toArray) (hi : IntsAre items ns) (hn : ns.length ≤ 63)
   (ret : ∀ (D : Nat) (vs : List Value) (n : Nat) (h' : Heap) (tk' : Nat), IntsAre vs (ns.take 7 ++ [2, 0, 4, 1, 27, 9, 24].drop ns.length) → AllLt D rest → Fr g L h' (fun y => if y = Str.ofString "numbers" then some (.ref D) else kstB m2 ([("script", .ref ls)] : List (Str × Value)) y) → News g L h' ((D, listOf vs.toArray n) :: rest) → QF .next { s with heap := h', toks := tk' }) :
   wpAny (model Challenge.rw_pg0224_01.row.prog w) (callerA.deeper (envOfC (Str.ofString "law") scope L fa cd)) (exec stmt (envOfC (Str.ofString "law") scope L fa cd)) QF EE s := by
  conv at hst => rhs; whnf
  conv at hsc => rhs; whnf
  subst hst hsc
  iterate 40 (first | (k_unfold; (try dsimp only)) | walk1 | (dsimp only; walk1))
  rename_i D1 ws1 h1 l1 hI1 hC1 hL1 l2 h2 F2 N2 l3
  obtain ⟨ns2, hns2, hnl2⟩ : ∃ ns2 : List Int, ns2 = [2, 0, 4, 1, 27, 9, 24] ∧ ns2.length = 7 := ⟨_, rfl, rfl⟩
  obtain ⟨vs2, hi2, N2'⟩ : ∃ vs2 : List Value, IntsAre vs2 ns2 ∧ News g L h2 ((l2, listOf vs2.toArray 0) :: (D1, listOf ws1.toArray 0) :: rest) := ⟨_, hns2 ▸ .cons _ _ (.cons _ _ (.cons _ _ (.cons _ _ (.cons _ _ (.cons _ _ (.cons _ _ .nil)))))), N2⟩
  clear N2
  try dsimp only
  refine kmk_slice_ints (s := ⟨h2, s.gens, s.drawn, _, s.os⟩) F2 N2' (News.isList N2' (.head _)) (IsPart.int _ _) IsPart.none hi2 (kmk_from hi2 (by (first | lia | omega))) rfl ?_ (by with_unfolding_all rfl) (by intro _; with_unfolding_all rfl) (kmk_sz hi2 (by rw [hnl2, sizeLine_eq]; decide))
  intro D3 ws3 h3 F3 N3 l4 hI3 hC3 hL3
  rw [Int.toNat_natCast, hns2] at hI3
  clear N2' hi2
  repeat' (first | (k_unfold; (try dsimp only)) | walk1 | (dsimp only; walk1))
  rename_i D4 ws4 h4 hI4 l6 h5 F5 N5
  exact ret D4 ws4 0 h5 _ hI4 l6.2.2.2 F5 (cb_drop N5 fun p hp => by
    rcases List.mem_cons.mp hp with rfl | hp
    · exact .head _
    · exact .tail _ (.tail _ (.tail _ (.tail _ hp))))
def wts (ns : List Int) : List Nat := (ns.take 4).map fun v => (1 + v % 8).toNat
theorem wts_cast (ns : List Int) : (wts ns).map (fun (e : Nat) => (e : Int)) = (ns.take 4).map fun v => 1 + v % 8 := by
  unfold wts
  rw [List.map_map]
  apply List.map_congr_left
  intro v _
  show (((1 + v % 8).toNat : Nat) : Int) = 1 + v % 8
  (first | lia | omega)
theorem wts_len (ns : List Int) (h : ns.length = 7) : (wts ns).length = 4 := by unfold wts; simp [h]
theorem wts_bd (ns : List Int) : ∀ e ∈ wts ns, 1 ≤ e ∧ e ≤ 8 := by
  intro e he
  obtain ⟨v, _, rfl⟩ := List.mem_map.mp he
  show 1 ≤ (1 + v % 8).toNat ∧ (1 + v % 8).toNat ≤ 8
  (first | lia | omega)
set_option maxRecDepth 100000 in
set_option maxHeartbeats 8000000 in
theorem law_weights {stmt : Stmt} {scope : Scope} (hst : stmt = lawB 1) (hsc : scope = sScope lawDef) {g : Heap} {L fa : Addr} {cd : Value} {m2 : Str → Option Value} {D n : Nat} {vs : List Value} {ns : List Int} {oS : Obj} {QF : Flow → Shared → Prop} {EE : Value → Shared → Prop}
   (X : (Mine.hd.heap_39 w.params).In g) (T : Top p loose mean mg mb g) (F : Fr g L s.heap (kstB m2 ([("numbers", .ref D)] : List (Str × Value)))) (N : News g L s.heap ((L + 1, oS) :: (D, listOf vs.toArray n) :: rest)) (hS : oS.data = .cell none)
   (hi : IntsAre vs ns) (hn : ns.length = 7) (hne : D ≠ L + 1) (hrne : NeAll (L + 1) rest)
   (ret : ∀ (lw : Nat) (ws : List Value) (oS' : Obj) (k : Nat) (h' : Heap) (tk' : Nat), IntsAre ws ((wts ns).map fun (e : Nat) => (e : Int)) → oS'.data = .cell (some (.ref lw)) → NeAll lw ((L + 1, oS') :: (D, listOf vs.toArray n) :: rest) → Fr g L h' (kstB m2 ([("numbers", .ref D)] : List (Str × Value))) → News g L h' ((lw, listOf ws.toArray k) :: (L + 1, oS') :: (D, listOf vs.toArray n) :: rest) → QF .next { s with heap := h', toks := tk' }) :
   wpAny (model Challenge.rw_pg0224_01.row.prog w) (callerA.deeper (envOfC (Str.ofString "law") scope L fa cd)) (exec stmt (envOfC (Str.ofString "law") scope L fa cd)) QF EE s := by
  conv at hst => rhs; whnf
  conv at hsc => rhs; whnf
  subst hst hsc
  repeat' (first | (k_unfold; (try dsimp only)) | walk1 | (dsimp only; walk1))
  refine Halt.out ?_
  k_dflt (refine LCg.ListComp_U (F₀ := by k_asm) (by with_unfolding_all rfl) (by decide) (by rfl) (by decide) (by rfl) ?_)
  repeat' (first | (k_unfold; (try dsimp only)) | walk1 | (dsimp only; walk1))
  rename_i D1 ws1 h1 F1 N1 hI1 hC1 hL1 l1
  have hw1 : ws1.length = 4 := by rw [hI1.length, hC1, hn]; rfl
  refine LCg.CompSrc.ledger (by rfl) F1 N1 (.head _) (by rw [sizeLine_eq]; simp; (first | lia | omega)) ?_
  intro gheap
  try dsimp only
  refine comp_ind (fun i ys nw => nw = _ ∧ IntsAre ys (((ns.take 4).take i).map fun v => 1 + v % 8)) ?_ ?_ ⟨rfl, .nil⟩
  · rintro ys nw ⟨rfl, hys⟩
    rw [List.take_of_length_le (show (ns.take 4).length ≤ ws1.toArray.size by rw [← hI1.length]; simp), ← wts_cast] at hys
    intro Dr h6 tk6 F6 N6 off6
    simp only [LCg.Off1, and_true] at off6
    try dsimp only
    repeat' (first | (k_unfold; (try dsimp only)) | walk1 | (dsimp only; walk1))
    rename_i h7 o7 F7 N7 d7
    exact ret Dr ys o7 ys.length h7 _ hys d7 (NeAll.cons off6.2.1 (NeAll.cons off6.2.2.1 (off1_ne off6.2.2.2))) F7 (cb_drop N7 fun p hp => by
      rcases List.mem_cons.mp hp with rfl | hp
      · exact .head _
      · exact .tail _ (.tail _ hp))
  · rintro i fv ys nw Ic oIc Cc oCc Dc mc hc6 tkc Ec hin ⟨rfl, hys⟩ hPv hNs hmc Fc Nc offc nec
    obtain ⟨kv, tv', rfl, hkv⟩ := hI1.at i fv (by simpa using hPv)
    repeat' (first | (k_unfold; (try dsimp only)) | walk1 | (dsimp only; walk1))
    rw [Int.fmod_eq_emod_of_nonneg _ (by decide)]
    refine LCg.CompEnd.intro Fc Nc _ (fun p hp => hp) offc (.inr ⟨_, .head _, rfl, _, rfl⟩) ⟨rfl, ?_⟩
    rw [take_snoc _ _ _ hkv, List.map_append]
    exact ints_snoc hys
theorem ne_TBx {h₀ h : Heap} {L : Addr} {led : List (Addr × Obj)} {u v : TS} {d : Nat} {o : Obj} (N : News h₀ L h led) (hB : okB u v) (hm : (d, o) ∈ led) (hd : ∀ fs, o.data ≠ .fields fs) (hs : ∀ p ∈ TB u v, p ∈ led) : NeAll d (TB u v) := by
  have key : ∀ p ∈ TB u v, ∃ fs, p.2.data = .fields fs := by
    intro p hp
    rcases List.mem_append.mp hp with hp | hp
    · cases u with
      | empty => simp only [T48, List.mem_cons, List.not_mem_nil, or_false] at hp; subst hp; exact ⟨_, rfl⟩
      | made c oc vs t =>
        simp only [T48, List.mem_cons, List.not_mem_nil, or_false] at hp
        rcases hp with rfl | rfl
        · exact ⟨_, rfl⟩
        · exact ⟨_, hB.1.1⟩
    · cases v with
      | empty => simp only [T55, List.mem_cons, List.not_mem_nil, or_false] at hp; subst hp; exact ⟨_, rfl⟩
      | made c oc vs t =>
        simp only [T55, List.mem_cons, List.not_mem_nil, or_false] at hp
        rcases hp with rfl | rfl
        · exact ⟨_, rfl⟩
        · exact ⟨_, hB.2.1⟩
  intro p hp
  refine News.ne N (hs p hp) hm fun e => ?_
  obtain ⟨fs, h⟩ := key p hp
  rw [e] at h
  exact hd fs h
theorem ne_TBc {h₀ h : Heap} {L : Addr} {led : List (Addr × Obj)} {u v : TS} {d : Nat} {o : Obj} {c : Option Value} (N : News h₀ L h led) (hB : okB u v) (hm : (d, o) ∈ led) (hd : o.data = .cell c) (hs : ∀ p ∈ TB u v, p ∈ led) : NeAll d (TB u v) :=
  ne_TBx N hB hm (fun fs e => by rw [hd] at e; cases e) hs
theorem bits_of_good {ws : List Nat} (hS : 0 < ws.sum) : ∀ (Ws : List Str) (n : Nat), n + Ws.length ≤ ws.length → (∀ k W, Ws[k]? = some W → GoodWord ws (n + k) W) → ∃ bs : List (List Nat), Ws = bs.map bitStr ∧ ∀ k b, bs[k]? = some b → Coded ws (n + k) b
  | [], _, _, _ => ⟨[], rfl, fun k b h => by cases h⟩
  | W :: r, n, hl, h => by
    rw [List.length_cons] at hl
    obtain ⟨b, hb, hc⟩ := coded_of_good hS (by (first | lia | omega)) (h 0 W rfl)
    obtain ⟨bs, hbs, hcs⟩ := bits_of_good hS r (n + 1) (by (first | lia | omega)) fun k W' hk => by
      have := h (k + 1) W' hk
      rw [show n + (k + 1) = n + 1 + k by (first | lia | omega)] at this
      exact this
    refine ⟨b :: bs, by rw [hb, hbs]; rfl, fun k b' hk => ?_⟩
    cases k with
    | zero => cases hk; exact hc
    | succ k =>
      have := hcs k b' hk
      rw [show n + 1 + k = n + (k + 1) by (first | lia | omega)] at this
      exact this
set_option maxRecDepth 100000 in
set_option maxHeartbeats 8000000 in
theorem law_words {stmt : Stmt} {scope : Scope} (hst : stmt = lawB 2) (hsc : scope = sScope lawDef) {g : Heap} {L fa : Addr} {cd : Value} {m2 : Str → Option Value} {lw n : Nat} {vs : List Value} {ws : List Nat} {oS oW : Obj} {u v : TS} {QF : Flow → Shared → Prop} {EE : Value → Shared → Prop}
   (hB : okB u v) (B : Below callerA g [] g) (C1 : CodeHd g 52 48) (C2 : CodeHd g 59 55)
   (X : (Mine.hd.heap_39 w.params).In g) (T : Top p loose mean mg mb g) (F : Fr g L s.heap m2) (N : News g L s.heap ((L + 1, oS) :: (L + 1 + 1, oW) :: (lw, listOf vs.toArray n) :: (TB u v ++ rest))) (hS : oS.data = .cell (some (.ref lw))) (hW : oW.data = .cell none)
   (hc : Clear ((L + 1, oS) :: (L + 1 + 1, oW) :: (lw, listOf vs.toArray n) :: rest)) (hlwne : NeAll lw (TB u v)) (hTB : NeAll (L + 1 + 1) (TB u v)) (hlw : lw ≠ L + 1 + 1) (hrne : NeAll (L + 1 + 1) rest)
   (hi : IntsAre vs (ws.map fun (e : Nat) => (e : Int))) (hwl : ws.length = 4) (hwb : ∀ e ∈ ws, 1 ≤ e ∧ e ≤ 8)
   (ret : ∀ (u' v' : TS) (la : Nat) (qs : List Value) (bs : List (List Nat)) (oW' : Obj) (h' : Heap) (tk' : Nat), okB u' v' → StrsAre qs (bs.map bitStr) → bs.length = 4 → (∀ (k : Nat) (b : List Nat), bs[k]? = some b → Coded ws k b) → oW'.data = .cell (some (.ref la)) →
      NeAll la (TB u' v' ++ (L + 1, oS) :: (L + 1 + 1, oW') :: (lw, listOf vs.toArray n) :: rest) → Fr g L h' m2 → News g L h' ((la, listOf qs.toArray 4) :: (L + 1, oS) :: (L + 1 + 1, oW') :: (lw, listOf vs.toArray n) :: (TB u' v' ++ rest)) → QF .next { s with heap := h', toks := tk' }) :
   wpAny (model Challenge.rw_pg0224_01.row.prog w) (callerA.deeper (envOfC (Str.ofString "law") scope L fa cd)) (exec stmt (envOfC (Str.ofString "law") scope L fa cd)) QF EE s := by
  conv at hst => rhs; whnf
  conv at hsc => rhs; whnf
  subst hst hsc
  repeat' (first | (k_unfold; (try dsimp only)) | walk1 | (dsimp only; walk1))
  refine Halt.out ?_
  refine lawWords hB (rest := (L + 1, oS) :: (L + 1 + 1, oW) :: (lw, listOf vs.toArray n) :: rest) B F X C1 C2 (cb_drop N ?_) T rfl hc hlwne (.tail _ (.tail _ (.head _))) (by decide) (by decide) hi hwl hwb ?_
  · (repeat' (first | with_reducible exact List.mem_cons_self | with_reducible assumption | with_reducible refine List.mem_cons_of_mem _ ?_ | (with_reducible refine List.mem_append_left _ ?_; with_reducible assumption) | with_reducible refine List.mem_append_right _ ?_ | with_reducible exact sub_nil | with_reducible refine sub_cons ?_ ?_ | with_reducible refine sub_app ?_ ?_ | intro p hp))
  intro u' v' la qs Ws h6 tk6 hB' hqs hWl hWg hla hlw' F6 N6
  have hSb := sum_le8 ws hwb
  obtain ⟨bs, hbs, hbc⟩ := bits_of_good (ws := ws) (by (first | lia | omega)) Ws 0 (by (first | lia | omega)) (fun k W hk => by rw [Nat.zero_add]; exact hWg k W hk)
  simp only [Nat.zero_add] at hbc
  rw [hbs] at hqs
  have hbl : bs.length = 4 := by rw [hbs, List.length_map] at hWl; exact hWl
  have hTB' : NeAll (L + 1 + 1) (TB u' v') := ne_TBc N6 hB' (o := oW) (by (repeat' (first | with_reducible exact List.mem_cons_self | with_reducible assumption | with_reducible refine List.mem_cons_of_mem _ ?_ | (with_reducible refine List.mem_append_left _ ?_; with_reducible assumption) | with_reducible refine List.mem_append_right _ ?_))) hW (fun p hp => .tail _ (List.mem_append_left _ hp))
  have hlaW : @Ne Nat la (L + 1 + 1) := Ne.symm (hla (L + 1 + 1, oW) (by (repeat' (first | with_reducible exact List.mem_cons_self | with_reducible assumption | with_reducible refine List.mem_cons_of_mem _ ?_ | (with_reducible refine List.mem_append_left _ ?_; with_reducible assumption) | with_reducible refine List.mem_append_right _ ?_))))
  have hallW : NeAll (L + 1 + 1) (TB u' v' ++ rest) := NeAll.append hTB' hrne
  replace N6 : News g L h6 ((la, listOf qs.toArray 4) :: (L + 1, oS) :: (L + 1 + 1, oW) :: (lw, listOf vs.toArray n) :: (TB u' v' ++ rest)) := cb_drop N6 (by
    (repeat' (first | with_reducible exact List.mem_cons_self | with_reducible assumption | with_reducible refine List.mem_cons_of_mem _ ?_ | (with_reducible refine List.mem_append_left _ ?_; with_reducible assumption) | with_reducible refine List.mem_append_right _ ?_ | with_reducible exact sub_nil | with_reducible refine sub_cons ?_ ?_ | with_reducible refine sub_app ?_ ?_ | intro p hp)))
  try dsimp only
  repeat' (first | (k_unfold; (try dsimp only)) | walk1 | (dsimp only; walk1))
  rename_i h7 oW' F7 N7 d7
  refine ret u' v' la qs bs oW' h7 _ hB' hqs hbl hbc d7 ?_ F7 N7
  intro p hp
  simp only [List.mem_append, List.mem_cons] at hp
  rcases hp with h | h | h | h | h
  · exact hla p (by simp only [List.mem_append, List.mem_cons, h, true_or, or_true])
  · exact hla p (by simp only [List.mem_append, List.mem_cons, h, true_or, or_true])
  · subst h; exact Ne.symm hlaW
  · exact hla p (by simp only [List.mem_append, List.mem_cons, h, true_or, or_true])
  · exact hla p (by simp only [List.mem_append, List.mem_cons, h, true_or, or_true])
def msgs (ns : List Int) : List (List Nat) := (ns.drop 4).map fun v => [(v % 4).toNat, (v / 4 % 4).toNat, (v / 16 % 4).toNat]
set_option maxRecDepth 100000 in
set_option maxHeartbeats 8000000 in
theorem law_messages {stmt : Stmt} {scope : Scope} (hst : stmt = lawB 3) (hsc : scope = sScope lawDef) {g : Heap} {L fa : Addr} {cd : Value} {m2 : Str → Option Value} {D n : Nat} {vs : List Value} {ns : List Int} {QF : Flow → Shared → Prop} {EE : Value → Shared → Prop}
   (X : (Mine.hd.heap_39 w.params).In g) (T : Top p loose mean mg mb g) (F : Fr g L s.heap (kstB m2 ([("numbers", .ref D)] : List (Str × Value)))) (N : News g L s.heap ((D, listOf vs.toArray n) :: rest))
   (hi : IntsAre vs ns) (hn : ns.length = 7)
   (ret : ∀ (Dm a0 a1 a2 : Nat) (v0 v1 v2 : List Value) (x0 x1 x2 : List Nat) (h' : Heap) (tk' : Nat), msgs ns = [x0, x1, x2] → IntsAre v0 (x0.map fun (e : Nat) => (e : Int)) → IntsAre v1 (x1.map fun (e : Nat) => (e : Int)) → IntsAre v2 (x2.map fun (e : Nat) => (e : Int)) →
      NeAll Dm ((a0, listOf v0.toArray 0) :: (a1, listOf v1.toArray 0) :: (a2, listOf v2.toArray 0) :: (D, listOf vs.toArray n) :: rest) → Fr g L h' (fun y => if y = Str.ofString "messages" then some (.ref Dm) else kstB m2 ([("numbers", .ref D)] : List (Str × Value)) y) →
      News g L h' ((Dm, listOf #[Value.ref a0, Value.ref a1, Value.ref a2] 3) :: (a0, listOf v0.toArray 0) :: (a1, listOf v1.toArray 0) :: (a2, listOf v2.toArray 0) :: (D, listOf vs.toArray n) :: rest) → QF .next { s with heap := h', toks := tk' }) :
   wpAny (model Challenge.rw_pg0224_01.row.prog w) (callerA.deeper (envOfC (Str.ofString "law") scope L fa cd)) (exec stmt (envOfC (Str.ofString "law") scope L fa cd)) QF EE s := by
  conv at hst => rhs; whnf
  conv at hsc => rhs; whnf
  subst hst hsc
  repeat' (first | (k_unfold; (try dsimp only)) | walk1 | (dsimp only; walk1))
  refine Halt.out ?_
  rename_i D1 ws1 h1 F1 N1 hI1 hC1 hL1 l1
  have hw1 : ws1.length = 3 := by rw [hI1.length, hC1, hn]
  refine LCg.CompSrc.ledger (by rfl) F1 N1 (.head _) (by rw [sizeLine_eq]; simp; (first | lia | omega)) ?_
  intro gheap
  try dsimp only
  refine comp_ind (fun i ys nw => ∃ as : List (Nat × List Value), as.length = i ∧ ys = as.map (fun p => Value.ref p.1) ∧ nw = as.map (fun p => (p.1, listOf p.2.toArray 0)) ++ ((D1, listOf ws1.toArray 0) :: (D, listOf vs.toArray n) :: rest) ∧ ∀ (j : Nat) p, as[j]? = some p → ∃ m, (msgs ns)[j]? = some m ∧ IntsAre p.2 (m.map fun (e : Nat) => (e : Int))) ?_ ?_ ⟨[], rfl, rfl, rfl, fun j p h => by cases h⟩
  · rintro ys nw ⟨as, hal, rfl, rfl, has⟩
    have hal3 : as.length = 3 := by rw [hal]; simp [hw1]
    match as, hal3 with
    | [p0, p1, p2], _ =>
      obtain ⟨x0, hx0, hi0⟩ := has 0 p0 rfl
      obtain ⟨x1, hx1, hi1⟩ := has 1 p1 rfl
      obtain ⟨x2, hx2, hi2⟩ := has 2 p2 rfl
      have e : msgs ns = [x0, x1, x2] := by
        have hl : (msgs ns).length = 3 := by unfold msgs; simp [hn]
        obtain ⟨y, hy⟩ : ∃ y, y = msgs ns := ⟨_, rfl⟩
        rw [← hy] at hl hx0 hx1 hx2 ⊢
        match y, hl with
        | [y0, y1, y2], _ =>
          have e0 : y0 = x0 := Option.some.inj hx0
          have e1 : y1 = x1 := Option.some.inj hx1
          have e2 : y2 = x2 := Option.some.inj hx2
          rw [e0, e1, e2]
      intro Dr h6 tk6 F6 N6 off6
      try dsimp only at *
      refine ret Dr p0.1 p1.1 p2.1 p0.2 p1.2 p2.2 x0 x1 x2 h6 _ e hi0 hi1 hi2 ?_ F6 (cb_drop N6 ?_)
      · intro q hq
        refine off1_ne off6 q ?_
        simp only [List.map_cons, List.map_nil, List.mem_append, List.mem_cons, List.not_mem_nil, or_false] at hq ⊢
        rcases hq with h | h | h | h | h <;> simp only [h, true_or, or_true]
      · intro q hq
        rcases List.mem_cons.mp hq with rfl | hq
        · exact .head _
        refine List.mem_cons_of_mem _ ?_
        simp only [List.map_cons, List.map_nil, List.mem_append, List.mem_cons, List.not_mem_nil, or_false] at hq ⊢
        rcases hq with h | h | h | h | h <;> simp only [h, true_or, or_true]
  · rintro i fv ys nw Ic oIc Cc oCc Dc mc hc6 tkc Ec hin ⟨as, hal, rfl, rfl, has⟩ hPv hNs hmc Fc Nc offc nec
    obtain ⟨kv, tv', rfl, hkv⟩ := hI1.at i fv (by simpa using hPv)
    repeat' (first | (k_unfold; (try dsimp only)) | walk1 | (dsimp only; walk1))
    rename_i ln hA FA NA ll
    have hmk : (msgs ns)[i]? = some [(kv % 4).toNat, (kv / 4 % 4).toNat, (kv / 16 % 4).toNat] := by
      unfold msgs; rw [List.getElem?_map, hkv]; rfl
    rw [Int.fmod_eq_emod_of_nonneg _ (by decide), Int.fmod_eq_emod_of_nonneg _ (by decide), Int.fmod_eq_emod_of_nonneg _ (by decide), Int.fdiv_eq_ediv_of_nonneg _ (by decide), Int.fdiv_eq_ediv_of_nonneg _ (by decide)] at NA
    have offA : LCg.Off3 Ic Cc Dc (List.map (fun p => (p.1, listOf p.2.toArray 0)) (as ++ [(ln, [Value.int (kv % 4) (tkc + 1), Value.int (kv / 4 % 4) (tkc + 1 + 1 + 1 + 1 + 1), Value.int (kv / 16 % 4) (tkc + 1 + 1 + 1 + 1 + 1 + 1 + 1 + 1 + 1)])]) ++ ((D1, listOf ws1.toArray 0) :: (D, listOf vs.toArray n) :: rest)) := LCg.Off3.of fun p hp => by
      rw [List.map_append] at hp
      rcases List.mem_append.mp hp with hp | hp
      · rcases List.mem_append.mp hp with hp | hp
        · exact offc.mem p (List.mem_append_left _ hp)
        · simp only [List.map_cons, List.map_nil, List.mem_singleton] at hp
          subst hp
          exact ⟨Ne.symm (Nat.ne_of_lt ll.1), Ne.symm (Nat.ne_of_lt ll.2.1), Ne.symm (Nat.ne_of_lt ll.2.2.1)⟩
      · exact offc.mem p (List.mem_append_right _ hp)
    refine LCg.CompEnd.intro FA NA _ ?_ offA (.inr ⟨_, List.mem_append_right _ (.head _), rfl, _, rfl⟩) ⟨as ++ [(ln, _)], by rw [List.length_append, hal]; rfl, by rw [List.map_append]; rfl, rfl, ?_⟩
    · intro p hp
      rw [List.map_append] at hp
      simp only [List.map_cons, List.map_nil, List.mem_append, List.mem_cons, List.not_mem_nil, or_false] at hp ⊢
      rcases hp with h | h | h | (h | h) | h | h | h <;> simp only [h, true_or, or_true]
    · intro j p hj
      rw [List.getElem?_append] at hj
      by_cases h : j < as.length
      · rw [if_pos h] at hj
        exact has j p hj
      · rw [if_neg h] at hj
        have hj0 : j - as.length = 0 := by
          rcases Nat.eq_zero_or_pos (j - as.length) with h | h
          · exact h
          · rw [List.getElem?_eq_none (by simp only [List.length_cons, List.length_nil]; (first | lia | omega))] at hj; cases hj
        rw [hj0] at hj
        have hji : j = i := by (first | lia | omega)
        subst hji
        cases hj
        refine ⟨_, hmk, ?_⟩
        have e : ([(kv % 4).toNat, (kv / 4 % 4).toNat, (kv / 16 % 4).toNat].map fun (e : Nat) => (e : Int)) = [kv % 4, kv / 4 % 4, kv / 16 % 4] := by
          simp only [List.map_cons, List.map_nil]
          congr 1
          · (first | lia | omega)
          congr 1
          · (first | lia | omega)
          congr 1
          (first | lia | omega)
        rw [e]
        exact .cons _ _ (.cons _ _ (.cons _ _ .nil))
def lawIns : Stmt := nthS (sFor (lawB 5)) 0
theorem flat3 (b0 b1 b2 : List Nat) : b0 ++ (b1 ++ b2) = b0 ++ b1 ++ b2 := (List.append_assoc _ _ _).symm
def codeOf (bs : List (List Nat)) (m : List Nat) : List Nat := m.flatMap fun k => bs.getD k []
theorem join_codes (bs : List (List Nat)) : ∀ m : List Nat, PySem.Txt.join (Str.ofString "") (m.map fun k => bitStr (bs.getD k [])) = bitStr (codeOf bs m)
  | [] => by show PySem.Txt.join (Str.ofString "") [] = bitStr []; decide +kernel
  | k :: r => by
    have ih := join_codes bs r
    show Builtin.Str.glued _ _ = _
    have ih' : Builtin.Str.glued (Str.ofString "") (r.map fun k => bitStr (bs.getD k [])) = bitStr (codeOf bs r) := ih
    rw [StrLaws.glued_eq_join, show Str.ofString "" = (⟨#[]⟩ : Str) from by decide +kernel] at ih' ⊢
    rw [List.map_cons, join_nil_cons, ih']
    have e : (bitStr (bs.getD k [])).cps ++ (bitStr (codeOf bs r)).cps = (bitStr (codeOf bs (k :: r))).cps := by
      unfold bitStr codeOf
      simp
    show (⟨(bitStr (bs.getD k [])).cps ++ (bitStr (codeOf bs r)).cps⟩ : Str) = bitStr (codeOf bs (k :: r))
    rw [e]
set_option maxRecDepth 100000 in
set_option maxHeartbeats 8000000 in
theorem law_ins {stmt : Stmt} {scope : Scope} (hst : stmt = lawIns) (hsc : scope = sScope lawDef) {g : Heap} {L fa : Addr} {cd : Value} {m2 : Str → Option Value} {lr la ai nr : Nat} {rv qs vi : List Value} {bs : List (List Nat)} {ys : List Str} {m : List Nat} {oW : Obj} {QF : Flow → Shared → Prop} {EE : Value → Shared → Prop}
   (B : Below callerA g [] g) (X : (Mine.hd.heap_39 w.params).In g) (T : Top p loose mean mg mb g) (F : Fr g L s.heap (kstB m2 ([("row", .ref lr), ("message", .ref ai)] : List (Str × Value))))
   (N : News g L s.heap ((lr, listOf rv.toArray nr) :: (L + 1 + 1, oW) :: (la, listOf qs.toArray 4) :: (ai, listOf vi.toArray 0) :: rest)) (hlr : NeAll lr ((L + 1 + 1, oW) :: (la, listOf qs.toArray 4) :: (ai, listOf vi.toArray 0) :: rest)) (hW : oW.data = .cell (some (.ref la)))
   (hq : StrsAre qs (bs.map bitStr)) (hbl : bs.length = 4) (hb6 : ∀ b ∈ bs, b.length ≤ 6) (hi : IntsAre vi (m.map fun (e : Nat) => (e : Int))) (hm : ∀ k ∈ m, k < 4) (hml : m.length = 3)
   (hr : StrsAre rv ys) (hyl : ys.length ≤ 10) (hs : ∀ (i j : Nat) (a b : Str), i < j → ys[i]? = some a → ys[j]? = some b → ¬ slt b a)
   (ret : ∀ (r : Nat) (rv' : List Value) (nr' : Nat) (h' : Heap) (tk' : Nat), r ≤ ys.length → (∀ (i : Nat) (a : Str), i < r → ys[i]? = some a → ¬ slt (bitStr (codeOf bs m)) a) → (∀ (i : Nat) (a : Str), r ≤ i → ys[i]? = some a → slt (bitStr (codeOf bs m)) a) → StrsAre rv' (ys.take r ++ bitStr (codeOf bs m) :: ys.drop r) →
      Fr g L h' (kstB m2 ([("row", .ref lr), ("message", .ref ai)] : List (Str × Value))) → News g L h' ((lr, listOf rv'.toArray nr') :: (L + 1 + 1, oW) :: (la, listOf qs.toArray 4) :: (ai, listOf vi.toArray 0) :: rest) → QF .next { s with heap := h', toks := tk' }) :
   wpAny (model Challenge.rw_pg0224_01.row.prog w) (callerA.deeper (envOfC (Str.ofString "law") scope L fa cd)) (exec stmt (envOfC (Str.ofString "law") scope L fa cd)) QF EE s := by
  conv at hst => rhs; whnf
  conv at hsc => rhs; whnf
  subst hst hsc
  repeat' (first | (k_unfold; (try dsimp only)) | walk1 | (dsimp only; walk1))
  refine Halt.out ?_
  k_dflt (refine LCg.ListComp_U (F₀ := by k_asm) (by with_unfolding_all rfl) (by decide) (by rfl) (by decide) (by rfl) ?_)
  repeat' (first | (k_unfold; (try dsimp only)) | walk1 | (dsimp only; walk1))
  refine Halt.out ?_
  have hvl : vi.length = 3 := by rw [hi.length, List.length_map, hml]
  refine LCg.CompSrc.ledger (by rfl) F N (.tail _ (.tail _ (.tail _ (.head _)))) (by rw [sizeLine_eq]; simp; (first | lia | omega)) ?_
  intro gheap
  try dsimp only
  refine comp_ind (fun i zs nw => nw = _ ∧ StrsAre zs ((m.take i).map fun k => bitStr (bs.getD k []))) ?_ ?_ ⟨rfl, .nil⟩
  · rintro zs nw ⟨rfl, hzs⟩
    rw [List.take_of_length_le (show m.length ≤ vi.toArray.size by simp; (first | lia | omega))] at hzs
    intro D h6 tk6 F6 N6 off6
    try dsimp only
    repeat' (first | (k_unfold; (try dsimp only)) | walk1 | (dsimp only; walk1))
    have hb6' : ∀ k, (bs.getD k []).length ≤ 6 := fun k => by
      rw [List.getD_eq_getElem?_getD]
      cases h : bs[k]? with
      | none => simp
      | some b => exact hb6 b (List.mem_of_getElem? h)
    refine KT.join_B 6 (l := m) (g := fun k => bitStr (bs.getD k [])) (News.isList N6 (.head _)) ?_ (fun a _ => by rw [bit_len]; exact hb6' a) (by (first | lia | omega)) (by decide) ?_
    · have := hzs.carried
      rw [List.map_map] at this
      exact this
    intro t6 k6
    rw [join_codes]
    try dsimp only
    repeat' (first | (k_unfold; (try dsimp only)) | walk1 | (dsimp only; walk1))
    refine Halt.out ?_
    refine insort (rest := (L + 1 + 1, oW) :: (la, listOf qs.toArray 4) :: (ai, listOf vi.toArray 0) :: rest) B F6 X (cb_drop N6 fun p hp => List.Mem.tail _ hp) hlr T rfl (by decide) (by decide) hr (by (first | lia | omega)) hs ?_
    intro r rv' nr' h7 tk7 hr1 hr2 hr3 hr4 F7 N7
    try dsimp only
    repeat' (first | (k_unfold; (try dsimp only)) | walk1 | (dsimp only; walk1))
    exact ret r rv' nr' h7 _ hr1 hr2 hr3 hr4 F7 N7
  · rintro i fv zs nw Ic oIc Cc oCc Dc mc hc6 tkc Ec hin ⟨rfl, hzs⟩ hPv hNs hmc Fc Nc offc nec
    obtain ⟨kv, tv', rfl, hkv⟩ := hi.at i fv (by simpa using hPv)
    rw [List.getElem?_map] at hkv
    obtain ⟨k, hk, rfl⟩ : ∃ k : Nat, m[i]? = some k ∧ kv = (k : Int) := by
      cases hk : m[i]? with
      | none => rw [hk] at hkv; cases hkv
      | some k => rw [hk] at hkv; exact ⟨k, rfl, (Option.some.inj hkv).symm⟩
    have hk4 := hm k (List.mem_of_getElem? hk)
    have hql := hq.length
    rw [List.length_map] at hql
    repeat' (first | (k_unfold; (try dsimp only)) | walk1 | (dsimp only; walk1))
    refine LCg.CompEnd.intro Fc Nc _ (fun p hp => hp) offc (.inr ⟨_, .tail _ (.tail _ (.tail _ (.head _))), rfl, _, rfl⟩) ⟨rfl, ?_⟩
    rw [take_snoc _ _ _ hk, List.map_append]
    rw [show (List.map bitStr bs).getD ((k : Int)).toNat Str.empty = bitStr (bs.getD k []) from by
      rw [Int.toNat_natCast, List.getD_eq_getElem?_getD, List.getD_eq_getElem?_getD, List.getElem?_map, List.getElem?_eq_getElem (by (first | lia | omega))]; rfl]
    exact strs_snoc hzs
set_option maxRecDepth 100000 in
set_option maxHeartbeats 8000000 in
theorem law_behind {stmt : Stmt} {scope : Scope} (hst : stmt = lawB 6) (hsc : scope = sScope lawDef) {g : Heap} {L fa : Addr} {cd : Value} {m2 : Str → Option Value} {D n : Nat} {vs : List Value} {ns : List Int} {oB : Obj} {QF : Flow → Shared → Prop} {EE : Value → Shared → Prop}
   (X : (Mine.hd.heap_39 w.params).In g) (T : Top p loose mean mg mb g) (F : Fr g L s.heap (kstB m2 ([("numbers", .ref D)] : List (Str × Value)))) (N : News g L s.heap ((L + 1 + 1 + 1, oB) :: (D, listOf vs.toArray n) :: rest)) (hB : oB.data = .cell none)
   (hi : IntsAre vs ns) (hn : ns.length = 7) (hne : D ≠ L + 1 + 1 + 1) (hrne : NeAll (L + 1 + 1 + 1) rest)
   (ret : ∀ (tl : List Nat) (oB' : Obj) (t : Tok) (h' : Heap) (tk' : Nat), tl.length = 6 → (∀ c ∈ tl, c ≤ 1) → oB'.data = .cell (some (.str (bitStr tl) t)) → Fr g L h' (kstB m2 ([("numbers", .ref D)] : List (Str × Value))) → News g L h' ((L + 1 + 1 + 1, oB') :: (D, listOf vs.toArray n) :: rest) → QF .next { s with heap := h', toks := tk' }) :
   wpAny (model Challenge.rw_pg0224_01.row.prog w) (callerA.deeper (envOfC (Str.ofString "law") scope L fa cd)) (exec stmt (envOfC (Str.ofString "law") scope L fa cd)) QF EE s := by
  conv at hst => rhs; whnf
  conv at hsc => rhs; whnf
  subst hst hsc
  repeat' (first | (k_unfold; (try dsimp only)) | walk1 | (dsimp only; walk1))
  rename_i h1 tk1 t1 ke t2 k2 h3 oB' F3 N3 d3
  have h2 : ns.sum.fmod 2 = 0 ∨ ns.sum.fmod 2 = 1 := by
    rw [Int.fmod_eq_emod_of_nonneg _ (by decide)]; (first | lia | omega)
  clear ke
  rcases h2 with h2 | h2
  · rw [h2] at d3
    refine ret [0, 0, 0, 0, 0, 0] oB' t2 h3 _ rfl (by decide) ?_ F3 N3
    rw [d3, show Txt.mul (Txt.item (Str.ofString "01") 0) 6 = bitStr [0, 0, 0, 0, 0, 0] from by decide +kernel]
  · rw [h2] at d3
    refine ret [1, 1, 1, 1, 1, 1] oB' t2 h3 _ rfl (by decide) ?_ F3 N3
    rw [d3, show Txt.mul (Txt.item (Str.ofString "01") 1) 6 = bitStr [1, 1, 1, 1, 1, 1] from by decide +kernel]
theorem bit_append (a b : List Nat) : bitStr a ++ bitStr b = bitStr (a ++ b) := by
  show (⟨(bitStr a).cps ++ (bitStr b).cps⟩ : Str) = bitStr (a ++ b)
  have e : (bitStr a).cps ++ (bitStr b).cps = (bitStr (a ++ b)).cps := by unfold bitStr; simp
  rw [e]
theorem clear_of {h₀ h : Heap} {L : Addr} {led l : List (Addr × Obj)} {u v : TS} (N : News h₀ L h led) (hB : okB u v) (hl : ∀ p ∈ l, p ∈ led ∧ ∀ fs, p.2.data ≠ .fields fs) (hs : ∀ p ∈ TB u v, p ∈ led) : Clear l := by
  obtain ⟨_, h1⟩ := TB_48 u v
  obtain ⟨_, h2⟩ := TB_55 u v
  exact ⟨fun p hp => Ne.symm (ne_TBx N hB (o := p.2) (hl p hp).1 (hl p hp).2 hs _ h1), fun p hp => Ne.symm (ne_TBx N hB (o := p.2) (hl p hp).1 (hl p hp).2 hs _ h2)⟩
theorem clear_app {l l' : List (Addr × Obj)} (a : Clear l) (b : Clear l') : Clear (l ++ l') := ⟨NeAll.append a.1 b.1, NeAll.append a.2 b.2⟩
set_option maxRecDepth 100000 in
set_option maxHeartbeats 8000000 in
theorem law_told {stmt : Stmt} {scope : Scope} (hst : stmt = lawB 7) (hsc : scope = sScope lawDef) {g : Heap} {L fa : Addr} {cd : Value} {m2 : Str → Option Value} {u v : TS} {lr la lw ep nr : Nat} {rv qs vs : List Value} {ws tl : List Nat} {bs ms : List (List Nat)} {tb : Tok} {oS oW oB : Obj} {QF : Flow → Shared → Prop} {EE : Value → Shared → Prop}
   (hB : okB u v) (B : Below callerA g [] g) (C1 : CodeHd g 52 48) (C2 : CodeHd g 59 55) (X : (Mine.hd.heap_39 w.params).In g) (T : Top p loose mean mg mb g) (F : Fr g L s.heap (kstB m2 ([("row", .ref lr)] : List (Str × Value))))
   (N : News g L s.heap ((L + 1, oS) :: (L + 1 + 1, oW) :: (L + 1 + 1 + 1, oB) :: (lr, listOf rv.toArray nr) :: (lw, listOf vs.toArray ep) :: (la, listOf qs.toArray 4) :: (TB u v ++ rest)))
   (hS : oS.data = .cell (some (.ref lw))) (hW : oW.data = .cell (some (.ref la))) (hBd : oB.data = .cell (some (.str (bitStr tl) tb)))
   (hi : IntsAre vs (ws.map fun (e : Nat) => (e : Int))) (hwl : ws.length = 4) (hwb : ∀ e ∈ ws, 1 ≤ e ∧ e ≤ 8)
   (hq : StrsAre qs (bs.map bitStr)) (hbl : bs.length = 4) (hbc : ∀ (k : Nat) (b : List Nat), bs[k]? = some b → Coded ws k b)
   (hr : StrsAre rv (ms.map fun m => bitStr (codeOf bs m))) (hml : ms.length = 3) (hm : ∀ m ∈ ms, ∃ k0 k1 k2, m = [k0, k1, k2] ∧ k0 < 4 ∧ k1 < 4 ∧ k2 < 4) (htl : tl.length = 6) (htb : ∀ c ∈ tl, c ≤ 1) (hcr : Clear rest)
   (ret : ∀ (v1 : TS) (Dt c0 c1 c2 : Nat) (w0 w1 w2 : List Value) (h' : Heap) (tk' : Nat), okB u v1 → IntsAre w0 ((ms.getD 0 []).map fun (e : Nat) => (e : Int)) → IntsAre w1 ((ms.getD 1 []).map fun (e : Nat) => (e : Int)) → IntsAre w2 ((ms.getD 2 []).map fun (e : Nat) => (e : Int)) →
      Fr g L h' (fun y => if y = Str.ofString "told" then some (.ref Dt) else kstB m2 ([("row", .ref lr)] : List (Str × Value)) y) →
      News g L h' ((Dt, listOf #[Value.ref c0, Value.ref c1, Value.ref c2] 3) :: (c0, listOf w0.toArray 3) :: (c1, listOf w1.toArray 3) :: (c2, listOf w2.toArray 3) :: (L + 1 + 1, oW) :: (la, listOf qs.toArray 4) :: (TB u v1 ++ rest)) → QF .next { s with heap := h', toks := tk' }) :
   wpAny (model Challenge.rw_pg0224_01.row.prog w) (callerA.deeper (envOfC (Str.ofString "law") scope L fa cd)) (exec stmt (envOfC (Str.ofString "law") scope L fa cd)) QF EE s := by
  conv at hst => rhs; whnf
  conv at hsc => rhs; whnf
  subst hst hsc
  repeat' (first | (k_unfold; (try dsimp only)) | walk1 | (dsimp only; walk1))
  refine Halt.out ?_
  have hrl := hr.length
  rw [List.length_map] at hrl
  have hb6 : ∀ b ∈ bs, b.length ≤ 6 := fun b hb => by obtain ⟨_, hc⟩ := coded_mem hbc hb; exact hc.len6
  refine LCg.CompSrc.ledger (by rfl) F N (.tail _ (.tail _ (.tail _ (.head _)))) (by rw [sizeLine_eq]; simp; (first | lia | omega)) ?_
  intro gheap
  try dsimp only
  refine comp_ind (fun i zs nw => ∃ (v1 : TS) (as : List (Nat × List Value)), okB u v1 ∧ as.length = i ∧ zs = as.map (fun p => Value.ref p.1) ∧ nw = as.map (fun p => (p.1, listOf p.2.toArray 3)) ++ ((L + 1, oS) :: (L + 1 + 1, oW) :: (L + 1 + 1 + 1, oB) :: (lr, listOf rv.toArray nr) :: (lw, listOf vs.toArray ep) :: (la, listOf qs.toArray 4) :: (TB u v1 ++ rest)) ∧ ∀ (j : Nat) p, as[j]? = some p → ∃ m, ms[j]? = some m ∧ IntsAre p.2 (m.map fun (e : Nat) => (e : Int))) ?_ ?_ ⟨v, [], hB, rfl, rfl, rfl, fun j p h => by cases h⟩
  · rintro zs nw ⟨v1, as, hB1, hal, rfl, rfl, has⟩
    have hal3 : as.length = 3 := by rw [hal]; simp; (first | lia | omega)
    match as, hal3 with
    | [p0, p1, p2], _ =>
      obtain ⟨x0, hx0, hi0⟩ := has 0 p0 rfl
      obtain ⟨x1, hx1, hi1⟩ := has 1 p1 rfl
      obtain ⟨x2, hx2, hi2⟩ := has 2 p2 rfl
      intro Dr h6 tk6 F6 N6 off6
      try dsimp only at *
      refine ret v1 Dr p0.1 p1.1 p2.1 p0.2 p1.2 p2.2 h6 _ hB1 (by rw [List.getD_eq_getElem?_getD, hx0]; exact hi0) (by rw [List.getD_eq_getElem?_getD, hx1]; exact hi1) (by rw [List.getD_eq_getElem?_getD, hx2]; exact hi2) F6 (cb_drop N6 ?_)
      intro q hq
      rcases List.mem_cons.mp hq with rfl | hq
      · exact .head _
      refine List.mem_cons_of_mem _ ?_
      simp only [List.map_cons, List.map_nil, List.mem_append, List.mem_cons, List.not_mem_nil, or_false] at hq ⊢
      rcases hq with h | h | h | h | h | h | h <;> simp only [h, true_or, or_true]
  · rintro i fv zs nw Ic oIc Cc oCc Dc mc hc6 tkc Ec hin ⟨v1, as, hB1, hal, rfl, rfl, has⟩ hPv hNs hmc Fc Nc offc nec
    obtain ⟨y, ty, rfl, hy⟩ := hr.item i fv (by simpa using hPv)
    rw [List.getElem?_map] at hy
    obtain ⟨m, hmi, rfl⟩ : ∃ m, ms[i]? = some m ∧ y = bitStr (codeOf bs m) := by
      cases h : ms[i]? with
      | none => rw [h] at hy; cases hy
      | some m => rw [h] at hy; exact ⟨m, rfl, (Option.some.inj hy).symm⟩
    obtain ⟨k0, k1, k2, rfl, hk0, hk1, hk2⟩ := hm m (List.mem_of_getElem? hmi)
    have hcl : (codeOf bs [k0, k1, k2]).length ≤ 18 := flat_len bs hb6 [k0, k1, k2]
    have hn1 := bit_len (codeOf bs [k0, k1, k2])
    have hn2 := bit_len tl
    obtain ⟨Lr, hLr⟩ : ∃ Lr : List (Addr × Obj), Lr = (Ic, oIc) :: (Cc, oCc) :: (Dc, LCg.lst (as.map fun p => Value.ref p.1)) :: (L + 1, oS) :: (L + 1 + 1, oW) :: (L + 1 + 1 + 1, oB) :: (lr, listOf rv.toArray nr) :: (lw, listOf vs.toArray ep) :: (la, listOf qs.toArray 4) :: (as.map (fun p => (p.1, listOf p.2.toArray 3)) ++ rest) := ⟨_, rfl⟩
    have Nd : News g L hc6 ((Ic, oIc) :: (Cc, oCc) :: (Dc, LCg.lst (as.map fun p => Value.ref p.1)) :: (L + 1, oS) :: (L + 1 + 1, oW) :: (L + 1 + 1 + 1, oB) :: (lr, listOf rv.toArray nr) :: (lw, listOf vs.toArray ep) :: (la, listOf qs.toArray 4) :: (TB u v1 ++ (as.map (fun p => (p.1, listOf p.2.toArray 3)) ++ rest))) := cb_drop Nc (by
      (repeat' (first | with_reducible exact List.mem_cons_self | with_reducible assumption | with_reducible refine List.mem_cons_of_mem _ ?_ | (with_reducible refine List.mem_append_left _ ?_; with_reducible assumption) | with_reducible refine List.mem_append_right _ ?_ | with_reducible exact sub_nil | with_reducible refine sub_cons ?_ ?_ | with_reducible refine sub_app ?_ ?_ | intro p hp)))
    clear Nc
    repeat' (first | (k_unfold; (try dsimp only)) | walk1 | (dsimp only; walk1))
    refine Halt.out ?_
    rw [bit_append]
    have subTB : ∀ p ∈ TB u v1, p ∈ (Ic, oIc) :: (Cc, oCc) :: (Dc, LCg.lst (as.map fun p => Value.ref p.1)) :: (L + 1, oS) :: (L + 1 + 1, oW) :: (L + 1 + 1 + 1, oB) :: (lr, listOf rv.toArray nr) :: (lw, listOf vs.toArray ep) :: (la, listOf qs.toArray 4) :: (TB u v1 ++ (as.map (fun p => (p.1, listOf p.2.toArray 3)) ++ rest)) := fun p hp => by
      simp only [List.mem_append, List.mem_cons, hp, true_or, or_true]
    have memA : ∀ p ∈ as.map (fun p => (p.1, listOf p.2.toArray 3)) ++ ((L + 1, oS) :: (L + 1 + 1, oW) :: (L + 1 + 1 + 1, oB) :: (lr, listOf rv.toArray nr) :: (lw, listOf vs.toArray ep) :: (la, listOf qs.toArray 4) :: (TB u v1 ++ rest)), p.1 ≠ Ic ∧ p.1 ≠ Cc ∧ p.1 ≠ Dc := offc.mem
    have tbI : ∀ p ∈ TB u v1, p.1 ≠ Ic ∧ p.1 ≠ Cc ∧ p.1 ≠ Dc := fun p hp => memA p (by (repeat' (first | with_reducible exact List.mem_cons_self | with_reducible assumption | with_reducible refine List.mem_cons_of_mem _ ?_ | (with_reducible refine List.mem_append_left _ ?_; with_reducible assumption) | with_reducible refine List.mem_append_right _ ?_)))
    have nI : NeAll Ic (TB u v1) := fun p hp => (tbI p hp).1
    have nC : NeAll Cc (TB u v1) := fun p hp => (tbI p hp).2.1
    have nD : NeAll Dc (TB u v1) := fun p hp => (tbI p hp).2.2
    have hclr : Clear Lr := by
      rw [hLr]
      refine clear_cons nI (clear_cons nC (clear_cons nD ?_))
      refine clear_app (l := [(L + 1, oS), (L + 1 + 1, oW), (L + 1 + 1 + 1, oB), (lr, listOf rv.toArray nr), (lw, listOf vs.toArray ep), (la, listOf qs.toArray 4)]) (clear_of Nd hB1 ?_ subTB) (clear_app (clear_of Nd hB1 ?_ subTB) hcr)
      · intro p hp
        refine ⟨by simp only [List.mem_cons, List.not_mem_nil, or_false] at hp; simp only [List.mem_append, List.mem_cons]; rcases hp with h | h | h | h | h | h <;> simp only [h, true_or, or_true], ?_⟩
        simp only [List.mem_cons, List.not_mem_nil, or_false] at hp
        rcases hp with rfl | rfl | rfl | rfl | rfl | rfl
        · intro fs e; rw [hS] at e; cases e
        · intro fs e; rw [hW] at e; cases e
        · intro fs e; rw [hBd] at e; cases e
        · intro fs e; cases e
        · intro fs e; cases e
        · intro fs e; cases e
      · intro p hp
        refine ⟨by (repeat' (first | with_reducible exact List.mem_cons_self | with_reducible assumption | with_reducible refine List.mem_cons_of_mem _ ?_ | (with_reducible refine List.mem_append_left _ ?_; with_reducible assumption) | with_reducible refine List.mem_append_right _ ?_)), ?_⟩
        obtain ⟨q, _, rfl⟩ := List.mem_map.mp hp
        intro fs e; cases e
    have hlwn : NeAll lw (TB u v1) := ne_TB Nd hB1 (xs := vs.toArray) (e := ep) (o := listOf vs.toArray ep) (by (repeat' (first | with_reducible exact List.mem_cons_self | with_reducible assumption | with_reducible refine List.mem_cons_of_mem _ ?_ | (with_reducible refine List.mem_append_left _ ?_; with_reducible assumption) | with_reducible refine List.mem_append_right _ ?_))) rfl subTB
    have hlan : NeAll la (TB u v1) := ne_TB Nd hB1 (xs := qs.toArray) (e := 4) (o := listOf qs.toArray 4) (by (repeat' (first | with_reducible exact List.mem_cons_self | with_reducible assumption | with_reducible refine List.mem_cons_of_mem _ ?_ | (with_reducible refine List.mem_append_left _ ?_; with_reducible assumption) | with_reducible refine List.mem_append_right _ ?_))) rfl subTB
    refine lawRead (rest := Lr) hB1 (k0 := k0) (k1 := k1) (k2 := k2) (tl := tl) B Fc X C1 C2 (cb_drop Nd ?_) T rfl hclr hlwn hlan (ep := ep) (eq := 4) (by rw [hLr]; simp only [List.mem_append, List.mem_cons, true_or, or_true]) (by rw [hLr]; simp only [List.mem_append, List.mem_cons, true_or, or_true]) (by decide) (by decide) hi hwl hwb hq hbl hbc hk0 hk1 hk2 (by simp [codeOf]) htl htb ?_
    · rw [hLr]
      (repeat' (first | with_reducible exact List.mem_cons_self | with_reducible assumption | with_reducible refine List.mem_cons_of_mem _ ?_ | (with_reducible refine List.mem_append_left _ ?_; with_reducible assumption) | with_reducible refine List.mem_append_right _ ?_ | with_reducible exact sub_nil | with_reducible refine sub_cons ?_ ?_ | with_reducible refine sub_app ?_ ?_ | intro p hp))
    intro v' la' rs h7 tk7 hB7 hrs hla7 hap7 F7 N7
    have tb7 : ∀ p ∈ TB u v', p.1 ≠ Ic ∧ p.1 ≠ Cc ∧ p.1 ≠ Dc := fun p hp =>
      ⟨hap7 (Ic, oIc) (by rw [hLr]; exact .head _) nI p hp, hap7 (Cc, oCc) (by rw [hLr]; exact .tail _ (.head _)) nC p hp, hap7 (Dc, LCg.lst (as.map fun p => Value.ref p.1)) (by rw [hLr]; exact .tail _ (.tail _ (.head _))) nD p hp⟩
    have offN : LCg.Off3 Ic Cc Dc ((as ++ [(la', rs)]).map (fun p => (p.1, listOf p.2.toArray 3)) ++ ((L + 1, oS) :: (L + 1 + 1, oW) :: (L + 1 + 1 + 1, oB) :: (lr, listOf rv.toArray nr) :: (lw, listOf vs.toArray ep) :: (la, listOf qs.toArray 4) :: (TB u v' ++ rest))) := LCg.Off3.of fun p hp => by
      rw [List.map_append] at hp
      simp only [List.map_cons, List.map_nil, List.mem_append, List.mem_cons, List.not_mem_nil, or_false] at hp
      rcases hp with (h | h) | h | h | h | h | h | h | h | h
      · exact memA p (by simp only [List.mem_append, List.mem_cons, h, true_or, or_true])
      · subst h
        exact ⟨Ne.symm (hla7 (Ic, oIc) (by rw [hLr]; simp only [List.mem_append, List.mem_cons, true_or, or_true])), Ne.symm (hla7 (Cc, oCc) (by rw [hLr]; simp only [List.mem_append, List.mem_cons, true_or, or_true])), Ne.symm (hla7 (Dc, LCg.lst (as.map fun p => Value.ref p.1)) (by rw [hLr]; simp only [List.mem_append, List.mem_cons, true_or, or_true]))⟩
      · exact memA p (by simp only [List.mem_append, List.mem_cons, h, true_or, or_true])
      · exact memA p (by simp only [List.mem_append, List.mem_cons, h, true_or, or_true])
      · exact memA p (by simp only [List.mem_append, List.mem_cons, h, true_or, or_true])
      · exact memA p (by simp only [List.mem_append, List.mem_cons, h, true_or, or_true])
      · exact memA p (by simp only [List.mem_append, List.mem_cons, h, true_or, or_true])
      · exact memA p (by simp only [List.mem_append, List.mem_cons, h, true_or, or_true])
      · exact tb7 p h
      · exact memA p (by simp only [List.mem_append, List.mem_cons, h, true_or, or_true])
    refine LCg.CompEnd.intro F7 N7 _ ?_ offN (.inr ⟨_, List.mem_append_right _ (.tail _ (.tail _ (.tail _ (.head _)))), rfl, _, rfl⟩) ⟨v', as ++ [(la', rs)], hB7, by rw [List.length_append, hal]; rfl, by rw [List.map_append]; rfl, rfl, ?_⟩
    · intro p hp
      rw [hLr]
      rw [List.map_append] at hp
      simp only [List.map_cons, List.map_nil, List.mem_append, List.mem_cons, List.not_mem_nil, or_false] at hp ⊢
      rcases hp with h | h | h | (h | h) | h | h | h | h | h | h | h | h <;> simp only [h, true_or, or_true]
    · intro j p hj
      rw [List.getElem?_append] at hj
      by_cases h : j < as.length
      · rw [if_pos h] at hj
        exact has j p hj
      · rw [if_neg h] at hj
        have hj0 : j - as.length = 0 := by
          rcases Nat.eq_zero_or_pos (j - as.length) with h | h
          · exact h
          · rw [List.getElem?_eq_none (by simp only [List.length_cons, List.length_nil]; (first | lia | omega))] at hj; cases hj
        rw [hj0] at hj
        have hji : j = i := by (first | lia | omega)
        subst hji
        cases hj
        exact ⟨_, hmi, hrs⟩
theorem perm_uniq {α : Type} (R : α → α → Prop) (anti : ∀ a b, R a b → R b a → a = b) : ∀ l l' : List α, l.Perm l' → l.Pairwise R → l'.Pairwise R → l = l'
  | [], l', h, _, _ => (List.nil_perm.mp h).symm
  | a :: r, [], h, _, _ => absurd h.length_eq (by simp)
  | a :: r, b :: r', h, h1, h2 => by
    have p1 := List.pairwise_cons.mp h1
    have p2 := List.pairwise_cons.mp h2
    have e : a = b := by
      have ha : a ∈ b :: r' := h.subset (.head _)
      have hb : b ∈ a :: r := h.symm.subset (.head _)
      rcases List.mem_cons.mp ha with e | ha
      · exact e
      rcases List.mem_cons.mp hb with e | hb
      · exact e.symm
      exact anti a b (p1.1 b hb) (p2.1 a ha)
    subst e
    rw [perm_uniq R anti r r' (List.perm_cons a |>.mp h) p1.2 p2.2]
theorem str_anti (a b : Str) (h1 : ¬ slt b a) (h2 : ¬ slt a b) : a = b := by
  have e : a.cps.toList = b.cps.toList := List.le_antisymm (List.not_lt.mp h1) (List.not_lt.mp h2)
  obtain ⟨⟨l⟩⟩ := a
  obtain ⟨⟨l'⟩⟩ := b
  simp only at e
  rw [e]
theorem rising_pw : ∀ (r : List Str) (p : Str), risingS p r = true → (p :: r).Pairwise fun a b => ¬ slt b a
  | [], p, _ => by simp
  | x :: r, p, h => by
    have h' := h
    unfold risingS at h'
    rw [Bool.and_eq_true, Bool.not_eq_true', ltCps_eq, decide_eq_false_iff_not] at h'
    have ih := rising_pw r x h'.2
    refine List.pairwise_cons.mpr ⟨fun y hy => ?_, ih⟩
    rcases List.mem_cons.mp hy with rfl | hy
    · exact h'.1
    · have h2 := (List.pairwise_cons.mp ih).1 y hy
      exact List.not_lt.mpr (List.le_trans (List.not_lt.mp h'.1) (List.not_lt.mp h2))
theorem str_uniq {l l' : List Str} (hp : l.Perm l') (hs : sortedS l = true) (h' : l'.Pairwise slt) : l = l' := by
  refine perm_uniq (fun a b => ¬ slt b a) str_anti l l' hp ?_ (h'.imp fun h h2 => List.lt_irrefl _ (List.lt_trans h h2))
  cases l with
  | nil => exact .nil
  | cons p r => exact rising_pw r p hs
theorem ints_uniq {z0 z1 z2 y0 y1 y2 : List Int} (hp : [z0, z1, z2].Perm [y0, y1, y2]) (h1 : ¬ z1 < z0) (h2 : ¬ z2 < z1) (h3 : ¬ y1 < y0) (h4 : ¬ y2 < y1) : z0 = y0 ∧ z1 = y1 ∧ z2 = y2 := by
  have pw : ∀ a b c : List Int, ¬ b < a → ¬ c < b → [a, b, c].Pairwise fun a b => ¬ b < a := fun a b c h1 h2 => by
    have h3 : ¬ c < a := List.not_lt.mpr (List.le_trans (List.not_lt.mp h1) (List.not_lt.mp h2))
    exact .cons (by intro x hx; simp only [List.mem_cons, List.not_mem_nil, or_false] at hx; rcases hx with rfl | rfl <;> assumption) (.cons (by intro x hx; simp only [List.mem_cons, List.not_mem_nil, or_false] at hx; rcases hx with rfl; assumption) (.cons (by intro x hx; cases hx) .nil))
  have e := perm_uniq (fun a b : List Int => ¬ b < a) (fun a b h1 h2 => List.le_antisymm (List.not_lt.mp h1) (List.not_lt.mp h2)) _ _ hp (pw _ _ _ h1 h2) (pw _ _ _ h3 h4)
  simp only [List.cons.injEq, and_true] at e
  exact ⟨e.1, e.2.1, e.2.2⟩
theorem Nice.cons' {d : PyData} {ds : List PyData} {dep w1 w2 : Nat} (a : Nice d dep w1) (b : NiceAll ds dep w2) : NiceAll (d :: ds) dep (w1 + 1 + w2) := NiceAll.cons a b
theorem NiceAll.nil0 {dep : Nat} : NiceAll [] dep 0 := NiceAll.nil
set_option maxRecDepth 100000 in
set_option maxHeartbeats 8000000 in
theorem law_end {stmt : Stmt} {scope : Scope} (hst : stmt = lawB 8) (hsc : scope = sScope lawDef) {g : Heap} {L fa : Addr} {cd : Value} {m2 : Str → Option Value} {la Dt Dm a0 a1 a2 b0 b1 b2 kt km : Nat} {qs v0 v1 v2 w0 w1 w2 : List Value} {Ws : List Str} {x0 x1 x2 z0 z1 z2 : List Int} {oW : Obj} {QF : Flow → Shared → Prop} {EE : Value → Shared → Prop}
   (B : Below callerA g [] g) (X : (Mine.hd.heap_39 w.params).In g) (T : Top p loose mean mg mb g) (F : Fr g L s.heap (kstB m2 ([("told", .ref Dt), ("messages", .ref Dm)] : List (Str × Value))))
   (N : News g L s.heap ((L + 1 + 1, oW) :: (la, listOf qs.toArray 4) :: (Dt, listOf #[Value.ref b0, Value.ref b1, Value.ref b2] kt) :: (b0, listOf w0.toArray 3) :: (b1, listOf w1.toArray 3) :: (b2, listOf w2.toArray 3) ::
      (Dm, listOf #[Value.ref a0, Value.ref a1, Value.ref a2] km) :: (a0, listOf v0.toArray 0) :: (a1, listOf v1.toArray 0) :: (a2, listOf v2.toArray 0) :: rest)) (hW : oW.data = .cell (some (.ref la)))
   (hq : StrsAre qs Ws) (hWl : Ws.length = 4) (j0 : IntsAre w0 z0) (j1 : IntsAre w1 z1) (j2 : IntsAre w2 z2) (i0 : IntsAre v0 x0) (i1 : IntsAre v1 x1) (i2 : IntsAre v2 x2) (e0 : x0.length = 3) (e1 : x1.length = 3) (e2 : x2.length = 3)
   (hWp : Ws.Pairwise slt) (hzp : [z0, z1, z2].Perm [x0, x1, x2]) (hz01 : ¬ z1 < z0) (hz12 : ¬ z2 < z1) (hWn : ∀ W ∈ Ws, (W.cps.all (· < 128)) = true ∧ W.length ≤ 6) (hz0 : ∀ i ∈ z0, 0 ≤ i ∧ i < 4) (hz1 : ∀ i ∈ z1, 0 ≤ i ∧ i < 4) (hz2 : ∀ i ∈ z2, 0 ≤ i ∧ i < 4) (lz0 : z0.length = 3) (lz1 : z1.length = 3) (lz2 : z2.length = 3)
   (ret : ∀ (m' : Str → Option Value) (h' : Heap) (tk' : Nat), Fr g L h' m' → News g L h' rest → QF (.ret (.bool true)) { s with heap := h', toks := tk' }) :
   wpAny (model Challenge.rw_pg0224_01.row.prog w) (callerA.deeper (envOfC (Str.ofString "law") scope L fa cd)) (exec stmt (envOfC (Str.ofString "law") scope L fa cd)) QF EE s := by
  conv at hst => rhs; whnf
  conv at hsc => rhs; whnf
  subst hst hsc
  have hqw := nice_strs 1 Ws hWn
  have hz := (nice_ints 0 z0 hz0).list.cons' ((nice_ints 0 z1 hz1).list.cons' ((nice_ints 0 z2 hz2).list.cons' NiceAll.nil0))
  have hnice := (hqw.list.cons' (hz.list.cons' NiceAll.nil0)).list
  repeat' (first | (k_unfold; (try dsimp only)) | walk1 | (dsimp only; walk1))
  rename_i ll hA FA NA ltl
  refine str_viaB 3 (d := .list [.list (Ws.map PyData.str), .list [.list (z0.map PyData.int), .list (z1.map PyData.int), .list (z2.map PyData.int)]]) ?_ FA NA hnice.sh hnice.nd rfl rfl hnice.dp (by show 7 + (3 + 3) < cLine; decide) ?_ (hnice.fits (by decide) (by (first | lia | omega)))
  · refine via_list (vs := [Value.ref la, Value.ref Dt]) (.head _) (.cons (via_list (.tail _ (.tail _ (.head _))) (via_strs hq)) (.cons (via_list (vs := [Value.ref b0, Value.ref b1, Value.ref b2]) (.tail _ (.tail _ (.tail _ (.head _)))) (.cons (via_list (.tail _ (.tail _ (.tail _ (.tail _ (.head _))))) (via_ints j0)) (.cons (via_list (.tail _ (.tail _ (.tail _ (.tail _ (.tail _ (.head _)))))) (via_ints j1)) (.cons (via_list (.tail _ (.tail _ (.tail _ (.tail _ (.tail _ (.tail _ (.head _))))))) (via_ints j2)) .nil)))) .nil))
  intro hB u1 tk1 FB NB
  try dsimp only
  replace NB := cb_drop NB fun q hq => List.Mem.tail _ hq
  repeat' (first | (k_unfold; (try dsimp only)) | walk1 | (dsimp only; walk1))
  have hql := hq.length
  refine sorted_N_str FB NB (News.isList NB (.tail _ (.head _))) hq (by (first | lia | omega)) ?_
  intro hC qs' Ws' ec FC NC hq' hperm hsorted
  obtain ⟨ls, hls⟩ : ∃ ls : Nat, ls = hB.objs.size + 1 := ⟨_, rfl⟩
  replace NC : News g L hC ((ls, listOf qs'.toArray ec) :: _) := hls ▸ NC
  rw [show (Value.ref (hB.objs.size + 1)) = Value.ref ls from by rw [hls]]
  have hWW : Ws' = Ws := str_uniq hperm hsorted hWp
  rw [hWW] at hq'
  clear hperm hsorted hWW
  try dsimp only
  repeat' (first | (k_unfold; (try dsimp only)) | walk1 | (dsimp only; walk1))
  refine sort3 (a0 := a0) (a1 := a1) (a2 := a2) (v0 := v0) (v1 := v1) (v2 := v2) (x0 := x0) (x1 := x1) (x2 := x2) (n := km) (n0 := 0) (n1 := 0) (n2 := 0) (by show 7 + 10 < cLine; decide) FC NC (by (repeat' (first | with_reducible exact List.mem_cons_self | with_reducible assumption | with_reducible refine List.mem_cons_of_mem _ ?_ | (with_reducible refine List.mem_append_left _ ?_; with_reducible assumption) | with_reducible refine List.mem_append_right _ ?_))) (by (repeat' (first | with_reducible exact List.mem_cons_self | with_reducible assumption | with_reducible refine List.mem_cons_of_mem _ ?_ | (with_reducible refine List.mem_append_left _ ?_; with_reducible assumption) | with_reducible refine List.mem_append_right _ ?_))) (by (repeat' (first | with_reducible exact List.mem_cons_self | with_reducible assumption | with_reducible refine List.mem_cons_of_mem _ ?_ | (with_reducible refine List.mem_append_left _ ?_; with_reducible assumption) | with_reducible refine List.mem_append_right _ ?_))) (by (repeat' (first | with_reducible exact List.mem_cons_self | with_reducible assumption | with_reducible refine List.mem_cons_of_mem _ ?_ | (with_reducible refine List.mem_append_left _ ?_; with_reducible assumption) | with_reducible refine List.mem_append_right _ ?_))) i0 i1 i2 e0 e1 e2 ?_
  intro D c0 c1 c2 y0 y1 y2 kk hD tkD hp hy01 hy12 hDn FD ND
  have hmap : [y0, y1, y2].Perm [x0, x1, x2] := hp.map fun q : Nat × List Int => q.2
  have hyp : [z0, z1, z2].Perm [y0, y1, y2] := hzp.trans hmap.symm
  obtain ⟨rfl, rfl, rfl⟩ := ints_uniq hyp hz01 hz12 hy01 hy12
  have src : ∀ q ∈ [(c0, z0), (c1, z1), (c2, z2)], ∃ vv, (q.1, listOf vv.toArray 0) ∈ [(a0, listOf v0.toArray 0), (a1, listOf v1.toArray 0), (a2, listOf v2.toArray 0)] ∧ IntsAre vv q.2 := by
    intro q hq
    have := hp.subset hq
    simp only [List.mem_cons, List.not_mem_nil, or_false] at this
    rcases this with rfl | rfl | rfl
    · exact ⟨v0, by (repeat' (first | with_reducible exact List.mem_cons_self | with_reducible assumption | with_reducible refine List.mem_cons_of_mem _ ?_ | (with_reducible refine List.mem_append_left _ ?_; with_reducible assumption) | with_reducible refine List.mem_append_right _ ?_)), i0⟩
    · exact ⟨v1, by (repeat' (first | with_reducible exact List.mem_cons_self | with_reducible assumption | with_reducible refine List.mem_cons_of_mem _ ?_ | (with_reducible refine List.mem_append_left _ ?_; with_reducible assumption) | with_reducible refine List.mem_append_right _ ?_)), i1⟩
    · exact ⟨v2, by (repeat' (first | with_reducible exact List.mem_cons_self | with_reducible assumption | with_reducible refine List.mem_cons_of_mem _ ?_ | (with_reducible refine List.mem_append_left _ ?_; with_reducible assumption) | with_reducible refine List.mem_append_right _ ?_)), i2⟩
  obtain ⟨u0, hu0, hc0⟩ := src _ (.head _)
  obtain ⟨u1', hu1, hc1⟩ := src _ (.tail _ (.head _))
  obtain ⟨u2, hu2, hc2⟩ := src _ (.tail _ (.tail _ (.head _)))
  try dsimp only
  repeat' (first | (k_unfold; (try dsimp only)) | walk1 | (dsimp only; walk1))
  rename_i l9 h9 F9 N9 lt9
  have memD : ∀ q ∈ [(a0, listOf v0.toArray 0), (a1, listOf v1.toArray 0), (a2, listOf v2.toArray 0)], q ∈ (l9, listOf #[Value.ref ls, Value.ref D] 0) :: (D, listOf #[Value.ref c0, Value.ref c1, Value.ref c2] kk) :: (ls, listOf qs'.toArray ec) :: (L + 1 + 1, oW) :: (la, listOf qs.toArray 4) :: (Dt, listOf #[Value.ref b0, Value.ref b1, Value.ref b2] kt) :: (b0, listOf w0.toArray 3) :: (b1, listOf w1.toArray 3) :: (b2, listOf w2.toArray 3) ::
      (Dm, listOf #[Value.ref a0, Value.ref a1, Value.ref a2] km) :: (a0, listOf v0.toArray 0) :: (a1, listOf v1.toArray 0) :: (a2, listOf v2.toArray 0) :: rest := by
    (repeat' (first | with_reducible exact List.mem_cons_self | with_reducible assumption | with_reducible refine List.mem_cons_of_mem _ ?_ | (with_reducible refine List.mem_append_left _ ?_; with_reducible assumption) | with_reducible refine List.mem_append_right _ ?_ | with_reducible exact sub_nil | with_reducible refine sub_cons ?_ ?_ | with_reducible refine sub_app ?_ ?_ | intro p hp))
  refine str_viaB 3 (d := .list [.list (Ws.map PyData.str), .list [.list (z0.map PyData.int), .list (z1.map PyData.int), .list (z2.map PyData.int)]]) ?_ F9 N9 hnice.sh hnice.nd rfl rfl hnice.dp (by show 7 + (3 + 3) < cLine; decide) ?_ (hnice.fits (by decide) (by (first | lia | omega)))
  · refine via_list (vs := [Value.ref ls, Value.ref D]) (.head _) (.cons (via_list (.tail _ (.tail _ (.head _))) (via_strs hq')) (.cons (via_list (vs := [Value.ref c0, Value.ref c1, Value.ref c2]) (.tail _ (.head _)) (.cons (via_list (memD _ hu0) (via_ints hc0)) (.cons (via_list (memD _ hu1) (via_ints hc1)) (.cons (via_list (memD _ hu2) (via_ints hc2)) .nil)))) .nil))
  intro hE ue tkE FE NE
  try dsimp only
  replace NE := cb_drop (fun q hq => NE q hq) fun q hq => hq
  repeat' (first | (k_unfold; (try dsimp only)) | walk1 | (dsimp only; walk1))
  rw [beq_self_eq_true]
  exact ret _ hE _ FE (cb_drop NE fun q hq => by simp only [List.mem_cons, hq, or_true])
def txt (bs : List (List Nat)) (m : List Nat) : Str := bitStr (codeOf bs m)
theorem map_lt48 : ∀ l l' : List Nat, l < l' → l.map (48 + ·) < l'.map (48 + ·)
  | [], [], h => absurd h (List.lt_irrefl _)
  | [], b :: l', _ => by simp
  | a :: l, [], h => by simp at h
  | a :: l, b :: l', h => by
    rw [List.cons_lt_cons_iff] at h
    rw [List.map_cons, List.map_cons, List.cons_lt_cons_iff]
    rcases h with h | ⟨rfl, h⟩
    · exact .inl (by (first | lia | omega))
    · exact .inr ⟨rfl, map_lt48 l l' h⟩
theorem app_lt (a : List Nat) {x y : List Nat} (h : x < y) : a ++ x < a ++ y := by
  induction a with
  | nil => exact h
  | cons c a ih => rw [List.cons_append, List.cons_append, List.cons_lt_cons_iff]; exact .inr ⟨rfl, ih⟩
theorem code_mono {ws : List Nat} {bs : List (List Nat)} (hS : 0 < ws.sum) (hwl : ws.length = 4) (hbl : bs.length = 4) (hbc : ∀ (k : Nat) (b : List Nat), bs[k]? = some b → Coded ws k b) :
    ∀ m m' : List Nat, m.length = m'.length → (∀ k ∈ m, k < 4) → (∀ k ∈ m', k < 4) → (m.map fun (e : Nat) => (e : Int)) < (m'.map fun (e : Nat) => (e : Int)) → codeOf bs m < codeOf bs m'
  | [], [], _, _, _, h => absurd h (List.lt_irrefl _)
  | [], _ :: _, hl, _, _, _ => by simp at hl
  | _ :: _, [], hl, _, _, _ => by simp at hl
  | k :: r, k' :: r', hl, h1, h2, h => by
    have g : ∀ j, j < 4 → bs[j]? = some (bs.getD j []) := fun j hj => by rw [List.getD_eq_getElem?_getD, List.getElem?_eq_getElem (by (first | lia | omega))]; rfl
    have k4 := h1 k (.head _)
    have k4' := h2 k' (.head _)
    rw [List.map_cons, List.map_cons, List.cons_lt_cons_iff] at h
    show bs.getD k [] ++ codeOf bs r < bs.getD k' [] ++ codeOf bs r'
    rcases h with h | ⟨h, ht⟩
    · exact coded_lt (hbc k _ (g k k4)) (hbc k' _ (g k' k4')) hS (by (first | lia | omega)) (by (first | lia | omega))
    · have e : k = k' := by (first | lia | omega)
      subst e
      exact app_lt _ (code_mono hS hwl hbl hbc r r' (by simpa using hl) (fun j hj => h1 j (.tail _ hj)) (fun j hj => h2 j (.tail _ hj)) ht)
theorem txt_mono {ws : List Nat} {bs : List (List Nat)} (hS : 0 < ws.sum) (hwl : ws.length = 4) (hbl : bs.length = 4) (hbc : ∀ (k : Nat) (b : List Nat), bs[k]? = some b → Coded ws k b) {m m' : List Nat} (hl : m.length = m'.length) (h1 : ∀ k ∈ m, k < 4) (h2 : ∀ k ∈ m', k < 4)
    (h : (m.map fun (e : Nat) => (e : Int)) < (m'.map fun (e : Nat) => (e : Int))) : slt (txt bs m) (txt bs m') := map_lt48 _ _ (code_mono hS hwl hbl hbc m m' hl h1 h2 h)
theorem words_pw {ws : List Nat} {bs : List (List Nat)} (hS : 0 < ws.sum) (hwl : ws.length = 4) (hbl : bs.length = 4) (hbc : ∀ (k : Nat) (b : List Nat), bs[k]? = some b → Coded ws k b) : (bs.map bitStr).Pairwise slt := by
  rw [List.pairwise_iff_getElem]
  intro i j hi hj hij
  rw [List.length_map] at hi hj
  rw [List.getElem_map, List.getElem_map]
  have := coded_lt (x := []) (y := []) (hbc i _ (List.getElem?_eq_getElem hi)) (hbc j _ (List.getElem?_eq_getElem hj)) hS hij (by (first | lia | omega))
  rw [List.append_nil, List.append_nil] at this
  exact map_lt48 _ _ this
theorem ins_pw {ys : List Str} {x : Str} {r : Nat} (hy : ys.Pairwise fun a b => ¬ slt b a) (h1 : ∀ (i : Nat) (a : Str), i < r → ys[i]? = some a → ¬ slt x a) (h2 : ∀ (i : Nat) (a : Str), r ≤ i → ys[i]? = some a → slt x a) : (ys.take r ++ x :: ys.drop r).Pairwise fun a b => ¬ slt b a := by
  have hsplit : (ys.take r ++ ys.drop r).Pairwise fun a b => ¬ slt b a := by rw [List.take_append_drop]; exact hy
  rw [List.pairwise_append] at hsplit ⊢
  refine ⟨hsplit.1, List.pairwise_cons.mpr ⟨fun b hb => ?_, hsplit.2.1⟩, fun a ha b hb => ?_⟩
  · obtain ⟨i, hi, rfl⟩ := List.mem_iff_getElem.mp hb
    rw [List.getElem_drop]
    intro h
    exact List.lt_irrefl _ (List.lt_trans h (h2 (r + i) _ (by (first | lia | omega)) (List.getElem?_eq_getElem (by simp at hi; (first | lia | omega)))))
  · rcases List.mem_cons.mp hb with rfl | hb
    · obtain ⟨i, hi, rfl⟩ := List.mem_iff_getElem.mp ha
      have hi' : i < r ∧ i < ys.length := by rw [List.length_take] at hi; (first | lia | omega)
      rw [List.getElem_take]
      exact h1 i _ hi'.1 (List.getElem?_eq_getElem hi'.2)
    · exact hsplit.2.2 a ha b hb
theorem pw_get {ys : List Str} (hy : ys.Pairwise fun a b => ¬ slt b a) : ∀ (i j : Nat) (a b : Str), i < j → ys[i]? = some a → ys[j]? = some b → ¬ slt b a := by
  intro i j a b hij ha hb
  obtain ⟨hi, rfl⟩ := List.getElem?_eq_some_iff.mp ha
  obtain ⟨hj, rfl⟩ := List.getElem?_eq_some_iff.mp hb
  exact List.pairwise_iff_getElem.mp hy i j hi hj hij
set_option maxRecDepth 100000 in
set_option maxHeartbeats 8000000 in
theorem row_loop {body : List Stmt} {scope : Scope} (hst : body = sFor (lawB 5)) (hsc : scope = sScope lawDef) {g : Heap} {L fa : Addr} {cd : Value} {lr la I ln Dm : Nat} {qs : List Value} {bs : List (List Nat)} {oW : Obj} {lp : Addr × Obj} {xs : List (List Nat)} {QF : Flow → Shared → Prop} {EE : Value → Shared → Prop}
   (B : Below callerA g [] g) (X : (Mine.hd.heap_39 w.params).In g) (T : Top p loose mean mg mb g) (hW : oW.data = .cell (some (.ref la))) (hmW : (L + 1 + 1, oW) ∈ rest) (hmq : (la, listOf qs.toArray 4) ∈ rest) (hlp : lp ∈ rest)
   (hlr : NeAll lr rest) (hIl : @Ne Nat I lr) (hIr : NeAll I rest)
   (hq : StrsAre qs (bs.map bitStr)) (hbl : bs.length = 4) (hb6 : ∀ b ∈ bs, b.length ≤ 6)
   (ret : ∀ (R : List (List Nat)) (rv : List Value) (nr : Nat) (m : Str → Option Value) (h : Heap) (tk : Nat), R.Perm xs → (R.map (txt bs)).Pairwise (fun a b => ¬ slt b a) → StrsAre rv (R.map (txt bs)) → m (Str.ofString "row") = some (.ref lr) → m (Str.ofString "numbers") = some (.ref ln) → m (Str.ofString "messages") = some (.ref Dm) → Fr g L h m → News g L h ((lr, listOf rv.toArray nr) :: rest) → QF .next { s with heap := h, toks := tk }) :
   ∀ (as : List (Nat × List Value × List Nat)) (R : List (List Nat)) (rv : List Value) (nr : Nat) (m : Str → Option Value), (∀ a ∈ as, (a.1, listOf a.2.1.toArray 0) ∈ rest ∧ IntsAre a.2.1 (a.2.2.map fun (e : Nat) => (e : Int)) ∧ a.2.2.length = 3 ∧ ∀ k ∈ a.2.2, k < 4) → R.length + as.length ≤ 3 →
     (R ++ as.map (·.2.2)).Perm xs → (R.map (txt bs)).Pairwise (fun a b => ¬ slt b a) → StrsAre rv (R.map (txt bs)) → m (Str.ofString "row") = some (.ref lr) → m (Str.ofString "numbers") = some (.ref ln) → m (Str.ofString "messages") = some (.ref Dm) →
     ListRest Challenge.rw_pg0224_01.row.prog w (callerA.deeper (envOfC (Str.ofString "law") scope L fa cd)) EE g (envOfC (Str.ofString "law") scope L fa cd) (Str.ofString "message") body QF s I lp (as.map fun a => Value.ref a.1) m ((lr, listOf rv.toArray nr) :: rest) := by
  intro as
  induction as with
  | nil =>
    intro R rv nr m has hl hp hs hr hm hmn hmm
    refine ListRest.zero ?_
    intro h tk F N
    exact ret R rv nr m h tk (by simpa using hp) hs hr hm hmn hmm F N
  | cons a r ih =>
    intro R rv nr m has hl hp hs hr hm hmn hmm
    obtain ⟨ha1, ha2, ha3, ha4⟩ := has a (.head _)
    rw [List.length_cons] at hl
    refine ListRest.succ ?_
    intro it h tk hit F N
    have hst' := hst
    conv at hst' => rhs; whnf
    subst hst'
    refine wpAny_execs_cons ?_
    have F0 := fr_as [("row", .ref lr), ("message", .ref a.1)] F (by intro p hp; simp only [List.mem_cons, List.not_mem_nil, or_false] at hp; rcases hp with rfl | rfl; (· show (if Str.ofString "row" = Str.ofString "message" then _ else _) = _; rw [if_neg (by decide +kernel)]; exact hm); (· exact if_pos rfl))
    refine law_ins (rest := (I, it) :: rest) (la := la) (qs := qs) (oW := oW) (nr := nr) (bs := bs) (m := a.2.2) (ys := R.map (txt bs)) (by rfl) hsc B X T F0 (cb_drop N ?_) ?_ hW hq hbl hb6 ha2 ha4 ha3 hr (by rw [List.length_map]; (first | lia | omega)) (pw_get hs) ?_
    · intro p hp
      simp only [List.mem_cons] at hp ⊢
      rcases hp with h | h | h | h | h | h
      · exact .inr (.inl h)
      · subst h; exact .inr (.inr hmW)
      · subst h; exact .inr (.inr hmq)
      · subst h; exact .inr (.inr ha1)
      · exact .inl h
      · exact .inr (.inr h)
    · exact NeAll.cons (hlr _ hmW) (NeAll.cons (hlr _ hmq) (NeAll.cons (hlr _ ha1) (NeAll.cons hIl hlr)))
    intro rr rv' nr' h2 tk2 hr1 hr2 hr3 hr4 F2 N2
    rw [List.length_map] at hr1
    refine wpAny_execs_nil ?_
    refine UnrEnd.intro F2 N2 ((lr, listOf rv'.toArray nr') :: rest) ?_ ?_ ⟨List.mem_cons_of_mem _ hlp, ?_⟩
    · (repeat' (first | with_reducible exact List.mem_cons_self | with_reducible assumption | with_reducible refine List.mem_cons_of_mem _ ?_ | (with_reducible refine List.mem_append_left _ ?_; with_reducible assumption) | with_reducible refine List.mem_append_right _ ?_ | with_reducible exact sub_nil | with_reducible refine sub_cons ?_ ?_ | with_reducible refine sub_app ?_ ?_ | intro p hp))
    · exact NeAll.cons (Ne.symm hIl) hIr
    · have e : (R.map (txt bs)).take rr ++ bitStr (codeOf bs a.2.2) :: (R.map (txt bs)).drop rr = (R.take rr ++ a.2.2 :: R.drop rr).map (txt bs) := by
        rw [List.map_append, List.map_cons, List.map_take, List.map_drop]; rfl
      refine ih (R.take rr ++ a.2.2 :: R.drop rr) rv' nr' _ (fun a ha => has a (.tail _ ha)) ?_ ?_ ?_ (by rw [← e]; exact hr4) rfl (by exact hmn) (by exact hmm)
      · simp only [List.length_append, List.length_cons, List.length_take, List.length_drop]; (first | lia | omega)
      · refine List.Perm.trans ?_ hp
        rw [List.map_cons]
        refine List.Perm.trans (List.Perm.append_right _ List.perm_middle) ?_
        rw [List.take_append_drop, List.cons_append]
        exact List.perm_middle.symm
      · rw [← e]
        exact ins_pw hs hr2 hr3
set_option maxRecDepth 100000 in
set_option maxHeartbeats 8000000 in
theorem law_row4 {stmt : Stmt} {scope : Scope} (hst : stmt = lawB 4) (hsc : scope = sScope lawDef) {g : Heap} {L fa : Addr} {cd : Value} {m2 : Str → Option Value} {QF : Flow → Shared → Prop} {EE : Value → Shared → Prop}
   (X : (Mine.hd.heap_39 w.params).In g) (T : Top p loose mean mg mb g) (F : Fr g L s.heap m2) (N : News g L s.heap rest)
   (ret : ∀ (lr : Nat) (h' : Heap) (tk' : Nat), AllLt lr rest → Fr g L h' (fun y => if y = Str.ofString "row" then some (.ref lr) else m2 y) → News g L h' ((lr, listOf #[] 0) :: rest) → QF .next { s with heap := h', toks := tk' }) :
   wpAny (model Challenge.rw_pg0224_01.row.prog w) (callerA.deeper (envOfC (Str.ofString "law") scope L fa cd)) (exec stmt (envOfC (Str.ofString "law") scope L fa cd)) QF EE s := by
  conv at hst => rhs; whnf
  conv at hsc => rhs; whnf
  subst hst hsc
  repeat' (first | (k_unfold; (try dsimp only)) | walk1 | (dsimp only; walk1))
  rename_i lr hA ll hA2 F2 N2
  exact ret lr _ _ (allLt_of ll) F2 N2
set_option maxRecDepth 100000 in
set_option maxHeartbeats 8000000 in
theorem law_for {stmt : Stmt} {scope : Scope} (hst : stmt = lawB 5) (hsc : scope = sScope lawDef) {g : Heap} {L fa : Addr} {cd : Value} {m2 : Str → Option Value} {lr la ln Dm km a0 a1 a2 : Nat} {qs v0 v1 v2 : List Value} {bs : List (List Nat)} {x0 x1 x2 : List Nat} {oW : Obj} {QF : Flow → Shared → Prop} {EE : Value → Shared → Prop}
   (B : Below callerA g [] g) (X : (Mine.hd.heap_39 w.params).In g) (T : Top p loose mean mg mb g) (F : Fr g L s.heap (kstB m2 ([("messages", .ref Dm), ("row", .ref lr), ("numbers", .ref ln)] : List (Str × Value))))
   (N : News g L s.heap ((lr, listOf #[] 0) :: (Dm, listOf #[Value.ref a0, Value.ref a1, Value.ref a2] km) :: rest)) (hW : oW.data = .cell (some (.ref la))) (hmW : (L + 1 + 1, oW) ∈ rest) (hmq : (la, listOf qs.toArray 4) ∈ rest)
   (hlr : NeAll lr ((Dm, listOf #[Value.ref a0, Value.ref a1, Value.ref a2] km) :: rest))
   (hq : StrsAre qs (bs.map bitStr)) (hbl : bs.length = 4) (hb6 : ∀ b ∈ bs, b.length ≤ 6)
   (m0 : (a0, listOf v0.toArray 0) ∈ rest) (m1 : (a1, listOf v1.toArray 0) ∈ rest) (m2' : (a2, listOf v2.toArray 0) ∈ rest) (i0 : IntsAre v0 (x0.map fun (e : Nat) => (e : Int))) (i1 : IntsAre v1 (x1.map fun (e : Nat) => (e : Int))) (i2 : IntsAre v2 (x2.map fun (e : Nat) => (e : Int)))
   (hE : PassesOwn (model Challenge.rw_pg0224_01.row.prog w) (callerA.deeper (envOfC (Str.ofString "law") scope L fa cd)) (envOfC (Str.ofString "law") scope L fa cd) EE)
   (hx : ∀ x ∈ [x0, x1, x2], x.length = 3 ∧ ∀ k ∈ x, k < 4)
   (ret : ∀ (R : List (List Nat)) (rv : List Value) (nr : Nat) (m : Str → Option Value) (h : Heap) (tk : Nat), R.Perm [x0, x1, x2] → (R.map (txt bs)).Pairwise (fun a b => ¬ slt b a) → StrsAre rv (R.map (txt bs)) → m (Str.ofString "row") = some (.ref lr) → m (Str.ofString "numbers") = some (.ref ln) → m (Str.ofString "messages") = some (.ref Dm) → Fr g L h m → News g L h ((lr, listOf rv.toArray nr) :: (Dm, listOf #[Value.ref a0, Value.ref a1, Value.ref a2] km) :: rest) → QF .next { s with heap := h, toks := tk }) :
   wpAny (model Challenge.rw_pg0224_01.row.prog w) (callerA.deeper (envOfC (Str.ofString "law") scope L fa cd)) (exec stmt (envOfC (Str.ofString "law") scope L fa cd)) QF EE s := by
  have hsc' := hsc
  conv at hst => rhs; whnf
  conv at hsc => rhs; whnf
  subst hst hsc
  refine For_invVF (hE := hE) F (by rfl) (by rfl) ?_
  repeat' (first | (k_unfold; (try dsimp only)) | walk1 | (dsimp only; walk1))
  refine Halt.out ?_
  refine iter_listUnr rfl F N (.tail _ (.head _)) rfl (vs := [Value.ref a0, Value.ref a1, Value.ref a2]) rfl ?_
  intro I lI
  refine row_loop (rest := (Dm, listOf #[Value.ref a0, Value.ref a1, Value.ref a2] km) :: rest) (oW := oW) (la := la) (qs := qs) (bs := bs) (ln := ln) (Dm := Dm) (xs := [x0, x1, x2]) (by rfl) (by rfl) B X T hW (.tail _ hmW) (.tail _ hmq) (.head _) hlr (Ne.symm (Nat.ne_of_lt (lI _ (.head _)))) (fun q hq => Nat.ne_of_lt (lI q (.tail _ hq))) hq hbl hb6 ret [(a0, v0, x0), (a1, v1, x1), (a2, v2, x2)] [] [] 0 _ ?_ (by simp) (by exact .refl _) (by exact .nil) .nil rfl rfl rfl
  intro a ha
  simp only [List.mem_cons, List.not_mem_nil, or_false] at ha
  rcases ha with rfl | rfl | rfl
  · exact ⟨.tail _ m0, i0, hx x0 (by simp)⟩
  · exact ⟨.tail _ m1, i1, hx x1 (by simp)⟩
  · exact ⟨.tail _ m2', i2, hx x2 (by simp)⟩
theorem msgs_ok (ns : List Int) : ∀ x ∈ msgs ns, (x.length = 3 ∧ ∀ k ∈ x, k < 4) ∧ ∃ k0 k1 k2, x = [k0, k1, k2] ∧ k0 < 4 ∧ k1 < 4 ∧ k2 < 4 := by
  intro x hx
  obtain ⟨v, _, rfl⟩ := List.mem_map.mp hx
  have h0 : (v % 4).toNat < 4 := by (first | lia | omega)
  have h1 : (v / 4 % 4).toNat < 4 := by (first | lia | omega)
  have h2 : (v / 16 % 4).toNat < 4 := by (first | lia | omega)
  refine ⟨⟨rfl, fun k hk => ?_⟩, _, _, _, rfl, h0, h1, h2⟩
  simp only [List.mem_cons, List.not_mem_nil, or_false] at hk
  rcases hk with rfl | rfl | rfl <;> assumption
theorem ne_obj {h₀ h : Heap} {L : Addr} {led l : List (Addr × Obj)} {d : Nat} {o : Obj} (N : News h₀ L h led) (hm : (d, o) ∈ led) (hl : ∀ p ∈ l, p ∈ led ∧ p.2.data ≠ o.data) : NeAll d l := fun p hp =>
  News.ne N (hl p hp).1 hm fun e => (hl p hp).2 (congrArg Obj.data e)
theorem tb_data {u v : TS} (hB : okB u v) : ∀ p ∈ TB u v, ∃ fs, p.2.data = .fields fs := by
  intro p hp
  rcases List.mem_append.mp hp with hp | hp
  · cases u with
    | empty => simp only [T48, List.mem_cons, List.not_mem_nil, or_false] at hp; subst hp; exact ⟨_, rfl⟩
    | made c oc vs t =>
      simp only [T48, List.mem_cons, List.not_mem_nil, or_false] at hp
      rcases hp with rfl | rfl
      · exact ⟨_, rfl⟩
      · exact ⟨_, hB.1.1⟩
  · cases v with
    | empty => simp only [T55, List.mem_cons, List.not_mem_nil, or_false] at hp; subst hp; exact ⟨_, rfl⟩
    | made c oc vs t =>
      simp only [T55, List.mem_cons, List.not_mem_nil, or_false] at hp
      rcases hp with rfl | rfl
      · exact ⟨_, rfl⟩
      · exact ⟨_, hB.2.1⟩
theorem perm3 {R : List (List Nat)} {x0 x1 x2 : List Nat} (h : R.Perm [x0, x1, x2]) : ∃ r0 r1 r2, R = [r0, r1, r2] := by
  match R, h.length_eq with
  | [a, b, c], _ => exact ⟨a, b, c, rfl⟩
set_option maxRecDepth 100000 in
set_option maxHeartbeats 8000000 in
theorem law_main {stmts : List Stmt} {scope : Scope} (hst : stmts = sBody lawDef) (hsc : scope = sScope lawDef) {g : Heap} {L fa : Addr} {cd : Value} {m0 : Str → Option Value} {ls : Addr} {items : List Value} {ns : List Int} {o1 o2 o3 : Obj} {QF : Flow → Shared → Prop} {EE : Value → Shared → Prop}
   (B : Below callerA g [] g) (X : (Mine.hd.heap_39 w.params).In g) (T : Top p loose mean mg mb g) (C1 : CodeHd g 52 48) (C2 : CodeHd g 59 55) (F : Fr g L s.heap m0) (hm0 : m0 (Str.ofString "script") = some (.ref ls))
   (N : News g L s.heap [(L + 1 + 1 + 1, o1), (L + 1 + 1, o2), (L + 1, o3), (55, tabObj #[]), (48, tabObj #[])]) (d1 : o1.data = .cell none) (d2 : o2.data = .cell none) (d3 : o3.data = .cell none)
   (hl : g.IsList ls items.toArray) (hi : IntsAre items ns) (hn : ns.length ≤ 63)
   (hE : PassesOwn (model Challenge.rw_pg0224_01.row.prog w) (callerA.deeper (envOfC (Str.ofString "law") scope L fa cd)) (envOfC (Str.ofString "law") scope L fa cd) EE)
   (ret : ∀ (u v : TS) (m' : Str → Option Value) (h' : Heap) (tk' : Nat), Fr g L h' m' → News g L h' (TB u v) → QF (.ret (.bool true)) { s with heap := h', toks := tk' }) :
   wpAny (model Challenge.rw_pg0224_01.row.prog w) (callerA.deeper (envOfC (Str.ofString "law") scope L fa cd)) (execs stmts (envOfC (Str.ofString "law") scope L fa cd)) QF EE s := by
  conv at hst => rhs; whnf
  subst hst
  have hB0 : okB TS.empty TS.empty := ⟨trivial, trivial⟩
  have N0 : News g L s.heap ((L + 1, o3) :: (L + 1 + 1, o2) :: (L + 1 + 1 + 1, o1) :: TB TS.empty TS.empty) := cb_drop N (by
    intro q hq
    simp only [TB, T48, T55, List.cons_append, List.nil_append, List.mem_cons, List.not_mem_nil, or_false] at hq ⊢
    rcases hq with h | h | h | h | h <;> simp only [h, true_or, or_true])
  refine wpAny_execs_cons ?_
  refine law_numbers (by rfl) hsc X T (fr_as [("script", .ref ls)] F (by intro q hq; simp only [List.mem_cons, List.not_mem_nil, or_false] at hq; rcases hq with rfl; exact hm0)) N0 hl hi hn ?_
  intro D vs n h1 tk1 hvs lD F1 N1
  obtain ⟨nums, hnums⟩ : ∃ nums, nums = ns.take 7 ++ [2, 0, 4, 1, 27, 9, 24].drop ns.length := ⟨_, rfl⟩
  have n7 : nums.length = 7 := by rw [hnums, List.length_append, List.length_take, List.length_drop]; simp only [List.length_cons, List.length_nil]; (first | lia | omega)
  rw [← hnums] at hvs
  clear hnums hm0 N N0 F
  obtain ⟨m1, F1⟩ := fr_gen [("numbers", .ref D)] F1 (by intro q hq; simp only [List.mem_cons, List.not_mem_nil, or_false] at hq; rcases hq with rfl; rfl)
  have e3 : L + 1 < D := lD.1
  have e2 : L + 1 + 1 < D := lD.2.1
  have e1 : L + 1 + 1 + 1 < D := lD.2.2.1
  try dsimp only
  refine wpAny_execs_cons ?_
  refine law_weights (n := n) (rest := (L + 1 + 1, o2) :: (L + 1 + 1 + 1, o1) :: TB TS.empty TS.empty) (by rfl) hsc X T F1 (cb_drop N1 ?_) d3 hvs n7 (Ne.symm (Nat.ne_of_lt e3)) ?_ ?_
  · (repeat' (first | with_reducible exact List.mem_cons_self | with_reducible assumption | with_reducible refine List.mem_cons_of_mem _ ?_ | (with_reducible refine List.mem_append_left _ ?_; with_reducible assumption) | with_reducible refine List.mem_append_right _ ?_ | with_reducible exact sub_nil | with_reducible refine sub_cons ?_ ?_ | with_reducible refine sub_app ?_ ?_ | intro p hp))
  · exact NeAll.cons (by show @Ne Nat (L + 1 + 1) (L + 1); (first | lia | omega)) (NeAll.cons (by show @Ne Nat (L + 1 + 1 + 1) (L + 1); (first | lia | omega)) (ne_TBc N1 hB0 (o := o3) (.tail _ (.head _)) d3 fun q hq => .tail _ (.tail _ (.tail _ (.tail _ hq)))))
  intro lw wv oS k1 h2 tk2 hwv hS hlw F2 N2
  obtain ⟨ws, hws⟩ : ∃ ws, ws = wts nums := ⟨_, rfl⟩
  have hwl : ws.length = 4 := hws ▸ wts_len nums n7
  have hwb : ∀ e ∈ ws, 1 ≤ e ∧ e ≤ 8 := hws ▸ wts_bd nums
  rw [← hws] at hwv
  have hSb := sum_le8 ws hwb
  have hS0 : 0 < ws.sum := by (first | lia | omega)
  try dsimp only
  refine wpAny_execs_cons ?_
  have sub2 : ∀ q ∈ TB TS.empty TS.empty, q ∈ (lw, listOf wv.toArray k1) :: (L + 1, oS) :: (D, listOf vs.toArray n) :: (L + 1 + 1, o2) :: (L + 1 + 1 + 1, o1) :: TB TS.empty TS.empty := fun q hq => .tail _ (.tail _ (.tail _ (.tail _ (.tail _ hq))))
  have hq2 : @Ne Nat lw (L + 1 + 1) := Ne.symm (hlw (L + 1 + 1, o2) (by (repeat' (first | with_reducible exact List.mem_cons_self | with_reducible assumption | with_reducible refine List.mem_cons_of_mem _ ?_ | (with_reducible refine List.mem_append_left _ ?_; with_reducible assumption) | with_reducible refine List.mem_append_right _ ?_))))
  refine law_words (n := k1) (rest := [(L + 1 + 1 + 1, o1), (D, listOf vs.toArray n)]) (by rfl) hsc hB0 B C1 C2 X T F2 (cb_drop N2 ?_) hS d2 (clear_of N2 hB0 ?_ sub2) (ne_TB N2 hB0 (.head _) rfl sub2) (ne_TBc N2 hB0 (o := o2) (by (repeat' (first | with_reducible exact List.mem_cons_self | with_reducible assumption | with_reducible refine List.mem_cons_of_mem _ ?_ | (with_reducible refine List.mem_append_left _ ?_; with_reducible assumption) | with_reducible refine List.mem_append_right _ ?_))) d2 sub2) hq2 ?_ hwv hwl hwb ?_
  · (repeat' (first | with_reducible exact List.mem_cons_self | with_reducible assumption | with_reducible refine List.mem_cons_of_mem _ ?_ | (with_reducible refine List.mem_append_left _ ?_; with_reducible assumption) | with_reducible refine List.mem_append_right _ ?_ | with_reducible exact sub_nil | with_reducible refine sub_cons ?_ ?_ | with_reducible refine sub_app ?_ ?_ | intro p hp))
  · intro q hq
    simp only [List.mem_cons, List.not_mem_nil, or_false] at hq
    refine ⟨by simp only [List.mem_cons]; rcases hq with h | h | h | h | h <;> simp only [h, true_or, or_true], ?_⟩
    rcases hq with rfl | rfl | rfl | rfl | rfl
    · intro fs e; rw [hS] at e; cases e
    · intro fs e; rw [d2] at e; cases e
    · intro fs e; cases e
    · intro fs e; rw [d1] at e; cases e
    · intro fs e; cases e
  · exact NeAll.cons (by show @Ne Nat (L + 1 + 1 + 1) (L + 1 + 1); (first | lia | omega)) (NeAll.cons (Ne.symm (Nat.ne_of_lt e2)) fun q hq => nomatch hq)
  intro u v la qs bs oW h3 tk3 hB3 hq hbl hbc hW hla F3 N3
  have hb6 : ∀ b ∈ bs, b.length ≤ 6 := fun b hb => by obtain ⟨_, hc⟩ := coded_mem hbc hb; exact hc.len6
  have hb1 : ∀ b ∈ bs, ∀ c ∈ b, c ≤ 1 := fun b hb => by obtain ⟨_, hc⟩ := coded_mem hbc hb; exact hc.bits
  try dsimp only
  refine wpAny_execs_cons ?_
  refine law_messages (n := n) (rest := (L + 1, oS) :: (L + 1 + 1, oW) :: (L + 1 + 1 + 1, o1) :: (lw, listOf wv.toArray k1) :: (la, listOf qs.toArray 4) :: TB u v) (by rfl) hsc X T F3 (cb_drop N3 ?_) hvs n7 ?_
  · (repeat' (first | with_reducible exact List.mem_cons_self | with_reducible assumption | with_reducible refine List.mem_cons_of_mem _ ?_ | (with_reducible refine List.mem_append_left _ ?_; with_reducible assumption) | with_reducible refine List.mem_append_right _ ?_ | with_reducible exact sub_nil | with_reducible refine sub_cons ?_ ?_ | with_reducible refine sub_app ?_ ?_ | intro p hp))
  intro Dm a0 a1 a2 v0 v1 v2 x0 x1 x2 h4 tk4 hmsg i0 i1 i2 hDm F4 N4
  have hxo : ∀ x ∈ [x0, x1, x2], (x.length = 3 ∧ ∀ k ∈ x, k < 4) ∧ ∃ k0 k1 k2, x = [k0, k1, k2] ∧ k0 < 4 ∧ k1 < 4 ∧ k2 < 4 := hmsg ▸ msgs_ok nums
  obtain ⟨m4, F4⟩ := fr_gen [("messages", .ref Dm), ("numbers", .ref D)] F4 (by intro q hq; simp only [List.mem_cons, List.not_mem_nil, or_false] at hq; rcases hq with rfl | rfl <;> rfl)
  try dsimp only
  refine wpAny_execs_cons ?_
  refine law_row4 (by rfl) hsc X T F4 N4 ?_
  intro lr h5 tk5 hlr F5 N5
  obtain ⟨m5, F5⟩ := fr_gen [("messages", .ref Dm), ("row", .ref lr), ("numbers", .ref D)] F5 (by intro q hq; simp only [List.mem_cons, List.not_mem_nil, or_false] at hq; rcases hq with rfl | rfl | rfl <;> rfl)
  try dsimp only
  refine wpAny_execs_cons ?_
  refine law_for (km := 3) (rest := (a0, listOf v0.toArray 0) :: (a1, listOf v1.toArray 0) :: (a2, listOf v2.toArray 0) :: (D, listOf vs.toArray n) :: (L + 1, oS) :: (L + 1 + 1, oW) :: (L + 1 + 1 + 1, o1) :: (lw, listOf wv.toArray k1) :: (la, listOf qs.toArray 4) :: TB u v) (la := la) (oW := oW) (a0 := a0) (a1 := a1) (a2 := a2) (v0 := v0) (v1 := v1) (v2 := v2) (by rfl) hsc B X T F5 N5 hW (by (repeat' (first | with_reducible exact List.mem_cons_self | with_reducible assumption | with_reducible refine List.mem_cons_of_mem _ ?_ | (with_reducible refine List.mem_append_left _ ?_; with_reducible assumption) | with_reducible refine List.mem_append_right _ ?_))) (by (repeat' (first | with_reducible exact List.mem_cons_self | with_reducible assumption | with_reducible refine List.mem_cons_of_mem _ ?_ | (with_reducible refine List.mem_append_left _ ?_; with_reducible assumption) | with_reducible refine List.mem_append_right _ ?_))) (NeAll.of_lt hlr) hq hbl hb6 (by (repeat' (first | with_reducible exact List.mem_cons_self | with_reducible assumption | with_reducible refine List.mem_cons_of_mem _ ?_ | (with_reducible refine List.mem_append_left _ ?_; with_reducible assumption) | with_reducible refine List.mem_append_right _ ?_))) (by (repeat' (first | with_reducible exact List.mem_cons_self | with_reducible assumption | with_reducible refine List.mem_cons_of_mem _ ?_ | (with_reducible refine List.mem_append_left _ ?_; with_reducible assumption) | with_reducible refine List.mem_append_right _ ?_))) (by (repeat' (first | with_reducible exact List.mem_cons_self | with_reducible assumption | with_reducible refine List.mem_cons_of_mem _ ?_ | (with_reducible refine List.mem_append_left _ ?_; with_reducible assumption) | with_reducible refine List.mem_append_right _ ?_))) i0 i1 i2 ?_ (fun x hx => (hxo x hx).1) ?_
  · exact hE
  intro R rv nr m6 h6 tk6 hperm hpw hrv hmr hmn hmm F6 N6
  obtain ⟨r0, r1, r2, rfl⟩ := perm3 hperm
  have hRx : ∀ x ∈ [r0, r1, r2], x ∈ [x0, x1, x2] := fun x hx => hperm.subset hx
  have sub6 : ∀ q ∈ TB u v, q ∈ (lr, listOf rv.toArray nr) :: (Dm, listOf #[Value.ref a0, Value.ref a1, Value.ref a2] 3) :: (a0, listOf v0.toArray 0) :: (a1, listOf v1.toArray 0) :: (a2, listOf v2.toArray 0) :: (D, listOf vs.toArray n) :: (L + 1, oS) :: (L + 1 + 1, oW) :: (L + 1 + 1 + 1, o1) :: (lw, listOf wv.toArray k1) :: (la, listOf qs.toArray 4) :: TB u v := fun q hq => by simp only [List.mem_cons, hq, or_true]
  try dsimp only
  refine wpAny_execs_cons ?_
  refine law_behind (n := n) (rest := (lr, listOf rv.toArray nr) :: (Dm, listOf #[Value.ref a0, Value.ref a1, Value.ref a2] 3) :: (a0, listOf v0.toArray 0) :: (a1, listOf v1.toArray 0) :: (a2, listOf v2.toArray 0) :: (L + 1, oS) :: (L + 1 + 1, oW) :: (lw, listOf wv.toArray k1) :: (la, listOf qs.toArray 4) :: TB u v) (by rfl) hsc X T (fr_as [("numbers", .ref D)] F6 (by intro q hq; simp only [List.mem_cons, List.not_mem_nil, or_false] at hq; rcases hq with rfl; exact hmn)) (cb_drop N6 ?_) d1 hvs n7 (Ne.symm (Nat.ne_of_lt e1)) (ne_obj N6 (o := o1) (by (repeat' (first | with_reducible exact List.mem_cons_self | with_reducible assumption | with_reducible refine List.mem_cons_of_mem _ ?_ | (with_reducible refine List.mem_append_left _ ?_; with_reducible assumption) | with_reducible refine List.mem_append_right _ ?_))) ?_) ?_
  · (repeat' (first | with_reducible exact List.mem_cons_self | with_reducible assumption | with_reducible refine List.mem_cons_of_mem _ ?_ | (with_reducible refine List.mem_append_left _ ?_; with_reducible assumption) | with_reducible refine List.mem_append_right _ ?_ | with_reducible exact sub_nil | with_reducible refine sub_cons ?_ ?_ | with_reducible refine sub_app ?_ ?_ | intro p hp))
  · intro q hq
    simp only [List.mem_cons] at hq
    refine ⟨by simp only [List.mem_cons]; rcases hq with h | h | h | h | h | h | h | h | h | h <;> simp only [h, true_or, or_true], ?_⟩
    rw [d1]
    rcases hq with rfl | rfl | rfl | rfl | rfl | rfl | rfl | rfl | rfl | h
    · intro e; cases e
    · intro e; cases e
    · intro e; cases e
    · intro e; cases e
    · intro e; cases e
    · intro e; rw [hS] at e; cases e
    · intro e; rw [hW] at e; cases e
    · intro e; cases e
    · intro e; cases e
    · obtain ⟨fs, hf⟩ := tb_data hB3 q h
      intro e; rw [hf] at e; cases e
  intro tl oBh tb h7 tk7 htl htb hBh F7 N7
  try dsimp only
  refine wpAny_execs_cons ?_
  have sub7 : ∀ q ∈ TB u v, q ∈ (L + 1 + 1 + 1, oBh) :: (D, listOf vs.toArray n) :: (lr, listOf rv.toArray nr) :: (Dm, listOf #[Value.ref a0, Value.ref a1, Value.ref a2] 3) :: (a0, listOf v0.toArray 0) :: (a1, listOf v1.toArray 0) :: (a2, listOf v2.toArray 0) :: (L + 1, oS) :: (L + 1 + 1, oW) :: (lw, listOf wv.toArray k1) :: (la, listOf qs.toArray 4) :: TB u v := fun q hq => by simp only [List.mem_cons, hq, or_true]
  refine law_told (rest := [(D, listOf vs.toArray n), (Dm, listOf #[Value.ref a0, Value.ref a1, Value.ref a2] 3), (a0, listOf v0.toArray 0), (a1, listOf v1.toArray 0), (a2, listOf v2.toArray 0)]) (ms := [r0, r1, r2]) (lr := lr) (lw := lw) (ep := k1) (nr := nr) (by rfl) hsc hB3 B C1 C2 X T (fr_as [("row", .ref lr)] F7 (by intro q hq; simp only [List.mem_cons, List.not_mem_nil, or_false] at hq; rcases hq with rfl; exact hmr)) (cb_drop N7 ?_) hS hW hBh hwv hwl hwb hq hbl hbc hrv rfl (fun x hx => (hxo x (hRx x hx)).2) htl htb (clear_of N7 hB3 ?_ sub7) ?_
  · (repeat' (first | with_reducible exact List.mem_cons_self | with_reducible assumption | with_reducible refine List.mem_cons_of_mem _ ?_ | (with_reducible refine List.mem_append_left _ ?_; with_reducible assumption) | with_reducible refine List.mem_append_right _ ?_ | with_reducible exact sub_nil | with_reducible refine sub_cons ?_ ?_ | with_reducible refine sub_app ?_ ?_ | intro p hp))
  · intro q hq
    simp only [List.mem_cons, List.not_mem_nil, or_false] at hq
    refine ⟨by simp only [List.mem_cons]; rcases hq with h | h | h | h | h <;> simp only [h, true_or, or_true], ?_⟩
    rcases hq with rfl | rfl | rfl | rfl | rfl <;> (intro fs e; cases e)
  intro v1' Dt c0 c1 c2 w0 w1 w2 h8 tk8 hB8 j0 j1 j2 F8 N8
  try dsimp only
  refine wpAny_execs_cons ?_
  have hr0 := (hxo r0 (hRx r0 (by simp))).1
  have hr1 := (hxo r1 (hRx r1 (by simp))).1
  have hr2 := (hxo r2 (hRx r2 (by simp))).1
  have hx0 := (hxo x0 (by simp)).1
  have hx1 := (hxo x1 (by simp)).1
  have hx2 := (hxo x2 (by simp)).1
  have small : ∀ r : List Nat, (∀ k ∈ r, k < 4) → ∀ i ∈ r.map (fun (e : Nat) => (e : Int)), 0 ≤ i ∧ i < 4 := fun r hr i hi => by
    obtain ⟨k, hk, rfl⟩ := List.mem_map.mp hi
    have := hr k hk
    exact ⟨by (first | lia | omega), by (first | lia | omega)⟩
  have ord : ∀ a b : List Nat, (a.length = 3 ∧ ∀ k ∈ a, k < 4) → (b.length = 3 ∧ ∀ k ∈ b, k < 4) → ¬ slt (txt bs b) (txt bs a) → ¬ (b.map fun (e : Nat) => (e : Int)) < (a.map fun (e : Nat) => (e : Int)) := fun a b ha hb hs h =>
    hs (txt_mono hS0 hwl hbl hbc (by rw [ha.1, hb.1]) hb.2 ha.2 h)
  have hpw1 := List.pairwise_cons.mp hpw
  have hpw2 := List.pairwise_cons.mp hpw1.2
  have hzp : [r0.map (fun (e : Nat) => (e : Int)), r1.map (fun (e : Nat) => (e : Int)), r2.map (fun (e : Nat) => (e : Int))].Perm [x0.map (fun (e : Nat) => (e : Int)), x1.map (fun (e : Nat) => (e : Int)), x2.map (fun (e : Nat) => (e : Int))] := hperm.map fun m : List Nat => m.map fun (e : Nat) => (e : Int)
  refine law_end (z0 := r0.map fun (e : Nat) => (e : Int)) (z1 := r1.map fun (e : Nat) => (e : Int)) (z2 := r2.map fun (e : Nat) => (e : Int)) (rest := TB u v1') (la := la) (Dt := Dt) (Dm := Dm) (a0 := a0) (a1 := a1) (a2 := a2) (b0 := c0) (b1 := c1) (b2 := c2) (kt := 3) (km := 3) (v0 := v0) (v1 := v1) (v2 := v2) (Ws := bs.map bitStr) (by rfl) hsc B X T (fr_as [("told", .ref Dt), ("messages", .ref Dm)] F8 (by intro q hq; simp only [List.mem_cons, List.not_mem_nil, or_false] at hq; rcases hq with rfl | rfl; (· rfl); (· exact hmm))) (cb_drop N8 ?_) hW hq (by rw [List.length_map]; exact hbl) j0 j1 j2 i0 i1 i2 (by rw [List.length_map]; exact hx0.1) (by rw [List.length_map]; exact hx1.1) (by rw [List.length_map]; exact hx2.1) (words_pw hS0 hwl hbl hbc) hzp (ord r0 r1 hr0 hr1 (hpw1.1 _ (.head _))) (ord r1 r2 hr1 hr2 (hpw2.1 _ (.head _))) ?_ (small r0 hr0.2) (small r1 hr1.2) (small r2 hr2.2) (by rw [List.length_map]; exact hr0.1) (by rw [List.length_map]; exact hr1.1) (by rw [List.length_map]; exact hr2.1) ?_
  · (repeat' (first | with_reducible exact List.mem_cons_self | with_reducible assumption | with_reducible refine List.mem_cons_of_mem _ ?_ | (with_reducible refine List.mem_append_left _ ?_; with_reducible assumption) | with_reducible refine List.mem_append_right _ ?_ | with_reducible exact sub_nil | with_reducible refine sub_cons ?_ ?_ | with_reducible refine sub_app ?_ ?_ | intro p hp))
  · intro W hWm
    obtain ⟨b, hb, rfl⟩ := List.mem_map.mp hWm
    exact ⟨bit_ascii b (hb1 b hb), by rw [bit_len]; exact hb6 b hb⟩
  intro m9 h9 tk9 F9 N9
  exact ret u v1' m9 h9 tk9 F9 N9
set_option maxRecDepth 100000 in
set_option maxHeartbeats 8000000 in
theorem lawHolds : PySem.Challenge.rw_pg0224_01.Holds := by
  refine hd ?_
  k_go0
  try dsimp only
  rename_i wW sS0 sS1 mG mB gG yY fA oO pM cD dOc hO hCd hGens xX vV tT bB teE twW nS hS hLay hLl hRr hL2 wA wB lS iT wC hIsL rA wOne rZ hIn hRe hC1 hC2 hDf hH tK oA oB oC dA dB dC xCells xIn tTop kBel fFr cHd nNews lZ
  refine law_main (ns := nS) (ls := lS) (items := iT) (by rfl) (by rfl) kBel xIn tTop ?c1 ?c2 fFr ?hm nNews ?d1 ?d2 ?d3 ?hl hIn ?hn ?he ?_
  case c1 => assumption
  case c2 => assumption
  case hm => rfl
  case d1 => exact dA
  case d2 => exact dB
  case d3 => exact dC
  case hl => assumption
  case hn => (first | lia | omega)
  case he => passes_own
  intro u v m' h' tk' F' N'
  refine ⟨goodW_bool F' hGens (raisesW_false (by wrow_none_raised)) (by wrow_post), ?_⟩
  obtain ⟨ps1, hp1, _⟩ := tab48_get u
  obtain ⟨ps2, hp2, _⟩ := tab55_get v
  exact ⟨GrownAt.of N' (List.mem_append_right _ hp2), GrownAt.of N' (List.mem_append_left _ hp1), trivial⟩
end Mine
set_option maxRecDepth 100000 in
set_option maxHeartbeats 8000000 in
theorem PySem.Challenge.cw_pg0224_01_holds : PySem.Challenge.rw_pg0224_01.Holds := by
  exact Mine.lawHolds
