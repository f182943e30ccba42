/-
  A small engine for straight code over 64-bit words: the steps over the model's operations, and that each step is sound.
-/
import Derived.Test.YtdbaaiplkngjkaaEngA
namespace Go.Proofs.Ytdbaaiplkngjkaa
open Go

/-- What the engine is told of a program: the types of words and of bytes, the array types with their lengths, four functions. -/
structure Cfg where
  word : List TypeId
  byte : List TypeId
  arr : List (TypeId × Nat)
  add64 : FuncId
  sub64 : FuncId
  mul64 : Option FuncId
  cmov : Option FuncId

def memB : List Nat → Nat → Bool
  | [], _ => false
  | x :: l, k => match Nat.beq x k with | true => true | false => memB l k

theorem memB_mem : ∀ (l : List Nat) (k : Nat), memB l k = true → k ∈ l
  | [], _, h => by cases h
  | x :: l, k, h => by
    unfold memB at h
    split at h
    · rename_i e; rw [Nat.eq_of_beq_eq_true e]; exact List.mem_cons_self
    · exact List.mem_cons_of_mem _ (memB_mem l k h)

def lenOf : List (Nat × Nat) → Nat → Option Nat
  | [], _ => none
  | (x, n) :: l, k => match Nat.beq x k with | true => some n | false => lenOf l k

theorem lenOf_mem : ∀ (l : List (Nat × Nat)) (k n : Nat), lenOf l k = some n → (k, n) ∈ l
  | [], _, _, h => by cases h
  | (x, m) :: l, k, n, h => by
    unfold lenOf at h
    split at h
    · rename_i e; cases h; rw [Nat.eq_of_beq_eq_true e]; exact List.mem_cons_self
    · exact List.mem_cons_of_mem _ (lenOf_mem l k n h)

structure Cfg.Ok (P : Program) (C : Cfg) : Prop where
  word : ∀ t ∈ C.word, P.underlying t = some (.int .u64) ∧ ∃ i, P.info? t = some i ∧ i.size = 1 ∧ i.zero = some (.int .u64 0)
  byte : ∀ t ∈ C.byte, P.underlying t = some (.int .u8) ∧ ∃ i, P.info? t = some i ∧ i.size = 1 ∧ i.zero = some (.int .u8 0)
  arr : ∀ t n, (t, n) ∈ C.arr → ∃ e i, P.underlying t = some (.array n e) ∧ P.info? e = some i ∧ i.size = 1
  add64 : ∀ (x y c : Nat) (w : World), c ≤ 1 → (callFunc C.add64 #[.int .u64 x, .int .u64 y, .int .u64 c]).run P w =
      .ok (.value (.tuple #[.int .u64 ((x + y + c) % 18446744073709551616 : Nat), .int .u64 ((x + y + c) / 18446744073709551616 : Nat)])) w
  sub64 : ∀ (x y c : Nat) (w : World), c ≤ 1 → (callFunc C.sub64 #[.int .u64 x, .int .u64 y, .int .u64 c]).run P w =
      .ok (.value (.tuple #[.int .u64 ((x + 18446744073709551616 - y - c) % 18446744073709551616 : Nat), .int .u64 ((if x < y + c then 1 else 0) : Nat)])) w
  mulRun : ∀ g, C.mul64 = some g → ∀ (args : Array Value) (w : World), (callFunc g args).run P w = .ok (.enter g args) w
  mul64 : ∀ g, C.mul64 = some g → ∀ (x y : Nat) (w : World), x < 18446744073709551616 → y < 18446744073709551616 → Calls P g #[.int .u64 x, .int .u64 y] w fun e w' =>
      e = .returned (.tuple #[.int .u64 (x * y / 18446744073709551616 : Nat), .int .u64 (x * y % 18446744073709551616 : Nat)]) ∧ w' = w
  cmovRun : ∀ g, C.cmov = some g → ∀ (args : Array Value) (w : World), (callFunc g args).run P w = .ok (.enter g args) w
  cmov : ∀ g, C.cmov = some g → ∀ (p : Addr) (c x y : Nat) (w : World) (v : Value), c ≤ 1 → x < 18446744073709551616 → y < 18446744073709551616 → w.cell? p = some v → w.frozen? p = false →
      Calls P g #[.pointer (some p), .int .u64 c, .int .u64 x, .int .u64 y] w fun e w' =>
      e = .returned (.tuple #[]) ∧ w' = w.setCell p (.int .u64 ((if c = 0 then x else y) : Nat))

def constSv : Value → Option Sv
  | .int .u64 (.ofNat n) => match Nat.blt n 18446744073709551616 with | true => some (.w (.c n) (Nat.ble n 1)) | false => none
  | .int .u8 (.ofNat n) => match Nat.blt n 256 with | true => some (.y (.c n)) | false => none
  | .int .i64 (.ofNat n) => some (.i n)
  | _ => none

def opnd (S : St) : Operand → Option Sv
  | .tmp t => S.slots.get t
  | .const v => constSv v
  | _ => none

def putS (N : Nat) (S : St) (d : Option Tmp) (sv : Option Sv) : Option St :=
  match d with
  | none => some S
  | some d => match Nat.blt d N with
    | true => some { S with slots := Tr.set sv 20 S.slots d }
    | false => none

def cellS (S : St) (b off : Nat) : Option Sv :=
  match S.blks[b]? with
  | some k => k.cells[off]?
  | none => none

def St.fresh1 (S : St) (f : Fact) : St := { S with nv := S.nv + 1, facts := f :: S.facts }
def St.fresh2 (S : St) (f : Fact) : St := { S with nv := S.nv + 2, facts := f :: S.facts }

def stepAdd (N : Nat) (S : St) (d : Option Tmp) : List Operand → Option St
  | [x, y, c] => match opnd S x, opnd S y, opnd S c with
    | some (.w x _), some (.w y _), some (.w c true) => putS N (S.fresh2 (.add S.nv (S.nv + 1) x y c)) d (some (.t2 (.v S.nv) false (.v (S.nv + 1)) true))
    | _, _, _ => none
  | _ => none

def stepSub (N : Nat) (S : St) (d : Option Tmp) : List Operand → Option St
  | [x, y, c] => match opnd S x, opnd S y, opnd S c with
    | some (.w x _), some (.w y _), some (.w c true) => putS N (S.fresh2 (.sub S.nv (S.nv + 1) x y c)) d (some (.t2 (.v S.nv) false (.v (S.nv + 1)) true))
    | _, _, _ => none
  | _ => none

def stepMul (N : Nat) (S : St) (d : Option Tmp) : List Operand → Option St
  | [x, y] => match opnd S x, opnd S y with
    | some (.w x _), some (.w y _) => putS N (S.fresh2 (.mul S.nv (S.nv + 1) x y)) d (some (.t2 (.v S.nv) false (.v (S.nv + 1)) false))
    | _, _ => none
  | _ => none

/-- One operation that leaves the world alone. -/
def stepPure (C : Cfg) (N : Nat) (S : St) (o : Oper) : Option St :=
  match o.guard with
  | some _ => none
  | none =>
  match o.op with
  | .move x => match opnd S x with | some sv => putS N S o.dst (some sv) | none => none
  | .assign x => match opnd S x with | some sv => putS N S o.dst (some sv) | none => none
  | .nilCheck x => match opnd S x with | some (.p b off) => putS N S o.dst (some (.p b off)) | _ => none
  | .indexAddr t x ix => match opnd S x, opnd S ix, lenOf C.arr t with
    | some (.p b off), some (.i n), some len => match Nat.blt n len with | true => putS N S o.dst (some (.p b (off + n))) | false => none
    | _, _, _ => none
  | .load t x => match opnd S x with
    | some (.p b off) => match (memB C.word t || memB C.byte t), cellS S b off with
      | true, some sv => putS N S o.dst (some sv)
      | _, _ => none
    | _ => none
  | .extract x ix => match opnd S x, ix with
    | some (.t2 x bx _ _), 0 => putS N S o.dst (some (.w x bx))
    | some (.t2 _ _ y bY), 1 => putS N S o.dst (some (.w y bY))
    | _, _ => none
  | .convert s t x => match opnd S x with
    | some (.w x b) => match memB C.word s with
      | true => match memB C.word t with
        | true => putS N S o.dst (some (.w x b))
        | false => match memB C.byte t with
          | true => putS N (S.fresh1 (.low S.nv x)) o.dst (some (.y (.v S.nv)))
          | false => none
      | false => none
    | some (.y x) => match memB C.byte s with
      | true => match memB C.word t with
        | true => putS N S o.dst (some (.w x false))
        | false => none
      | false => none
    | _ => none
  | .binOp .add _ x y _ => match opnd S x, opnd S y with
    | some (.w x _), some (.w y _) => putS N (S.fresh1 (.plus S.nv x y)) o.dst (some (.w (.v S.nv) false))
    | _, _ => none
  | .binOp .and _ x y _ => match opnd S x, opnd S y with
    | some (.w x _), some (.w y _) => putS N (S.fresh1 (.and S.nv x y)) o.dst (some (.w (.v S.nv) false))
    | some (.y x), some (.y (.c n)) => match Nat.beq n 255 with | true => putS N S o.dst (some (.y x)) | false => none
    | _, _ => none
  | .binOp .shl _ x y _ => match opnd S x, opnd S y with
    | some (.w x _), some (.w (.c k) _) => match Nat.blt k 64 with | true => putS N (S.fresh1 (.shl S.nv x k)) o.dst (some (.w (.v S.nv) false)) | false => none
    | _, _ => none
  | .binOp .shr _ x y _ => match opnd S x, opnd S y with
    | some (.w x _), some (.w (.c k) _) => match Nat.blt k 64 with | true => putS N (S.fresh1 (.shr S.nv x k)) o.dst (some (.w (.v S.nv) false)) | false => none
    | _, _ => none
  | .binOp .mul _ x y _ => match opnd S x, opnd S y with
    | some (.w x _), some (.w y _) => putS N (S.fresh1 (.mulw S.nv x y)) o.dst (some (.w (.v S.nv) false))
    | _, _ => none
  | .binOp .or _ x y _ => match opnd S x, opnd S y with
    | some (.w x _), some (.w y _) => putS N (S.fresh1 (.or S.nv x y)) o.dst (some (.w (.v S.nv) false))
    | _, _ => none
  | .unOp .xor _ x => match opnd S x with
    | some (.w x _) => putS N (S.fresh1 (.not S.nv x)) o.dst (some (.w (.v S.nv) false))
    | _ => none
  | .call ⟨.value (.func f), args, _⟩ =>
    match Nat.beq f C.add64 with
    | true => stepAdd N S o.dst args.toList
    | false => match Nat.beq f C.sub64 with
      | true => stepSub N S o.dst args.toList
      | false => match C.mul64 with
        | some g => match Nat.beq f g with
          | true => stepMul N S o.dst args.toList
          | false => none
        | none => none
  | _ => none

def stepCmov (N : Nat) (S : St) (d : Option Tmp) : List Operand → Option St
  | [p, c, x, y] => match opnd S p, opnd S c, opnd S x, opnd S y with
    | some (.p b off), some (.w c true), some (.w x _), some (.w y _) => match cellS S b off with
      | some _ => putS N { (S.fresh1 (.sel S.nv c x y)) with blks := setCellL S.blks b off (.w (.v S.nv) false) } d none
      | none => none
    | _, _, _, _ => none
  | _ => none

/-- One operation that turns the world: a new word, a store, the conditional move. -/
def stepWrite (C : Cfg) (N : Nat) (S : St) (o : Oper) : Option St :=
  match o.guard with
  | some _ => none
  | none =>
  match o.op with
  | .alloc t => match memB C.word t with
    | true => putS N { S with blks := S.blks ++ [⟨t, [.w (.c 0) true]⟩] } o.dst (some (.p S.blks.length 0))
    | false => none
  | .store t x y => match opnd S x, opnd S y with
    | some (.p b off), some (.w z bz) => match memB C.word t, cellS S b off with
      | true, some _ => putS N { S with blks := setCellL S.blks b off (.w z bz) } o.dst none
      | _, _ => none
    | some (.p b off), some (.y z) => match memB C.byte t, cellS S b off with
      | true, some _ => putS N { S with blks := setCellL S.blks b off (.y z) } o.dst none
      | _, _ => none
    | _, _ => none
  | .call ⟨.value (.func f), args, _⟩ =>
    match C.cmov with
    | some g => match Nat.beq f g with
      | true => stepCmov N S o.dst args.toList
      | false => none
    | none => none
  | _ => none

def stepOne (C : Cfg) (N : Nat) (S : St) (o : Oper) : Option St :=
  match stepPure C N S o with
  | some S' => some S'
  | none => stepWrite C N S o

def stepList (C : Cfg) (N : Nat) : List Oper → St → Option St
  | [], S => some S
  | o :: l, S => match stepOne C N S o with
    | some S' => stepList C N l S'
    | none => none

def stepPures (C : Cfg) (N : Nat) : List Oper → St → Option St
  | [], S => some S
  | o :: l, S => match stepPure C N S o with
    | some S' => stepPures C N l S'
    | none => none

def stepCode (C : Cfg) (N : Nat) : Code → St → Option St
  | .skip, S => some S
  | .seq a b, S => match stepCode C N a S with
    | some S' => stepCode C N b S'
    | none => none
  | .region _ ⟨ops⟩ false, S => stepList C N ops S
  | .region _ ⟨ops⟩ true, S =>
    match stepPures C N ops S with
    | some S' => match Region.lexB .any ⟨ops⟩ with
      | true => some S'
      | false => none
    | none => match Region.lexTailB .any ⟨ops⟩ (ops.length - 1) with
      | true => match stepPures C N (ops.take (ops.length - 1)) S with
        | some S' => stepList C N (ops.drop (ops.length - 1)) S'
        | none => none
      | false => none
  | _, _ => none

/-! ### What the state says of a frame and a world -/

structure Rel (w0 : World) (N : Nat) (env0 β0 : List Nat) (S : St) (env β : List Nat) (a : Act) (w : World) : Prop where
  size : a.tmps.size = N
  defers : a.defers = []
  slots : ∀ t sv, S.slots.get t = some sv → ∃ v, a.tmps[t]? = some v ∧ Den env β sv v
  nv : env.length = S.nv
  nb : β.length = S.blks.length
  nodup : β.Nodup
  inb : ∀ b ∈ β, b < w.heap.size
  blks : ∀ (i : Nat) blk, S.blks[i]? = some blk → ∃ B c, β[i]? = some B ∧ w.heap[B]? = some (.cells c blk.elem (0, 0)) ∧ c.size = blk.cells.length ∧
    ∀ (j : Nat) sv, blk.cells[j]? = some sv → ∃ v, c[j]? = some v ∧ Den env β sv v
  facts : ∀ f ∈ S.facts, f.holds env
  hsize : w0.heap.size ≤ w.heap.size
  frame : ∀ b, b < w0.heap.size → b ∉ β0 → w.heap[b]? = w0.heap[b]?
  newer : ∀ b ∈ β, b ∈ β0 ∨ w0.heap.size ≤ b
  tape : w.tape = w0.tape
  os : w.os = w0.os
  output : w.output = w0.output
  pre : ∃ e, env = env0 ++ e
  preβ : ∃ e, β = β0 ++ e

variable {P : Program} {C : Cfg} {w0 : World} {N : Nat} {env0 β0 : List Nat} {S S' : St} {env β : List Nat} {a : Act} {w : World}

theorem den_const {v : Value} {sv : Sv} (h : constSv v = some sv) : Den env β sv v := by
  unfold constSv at h
  split at h
  · rename_i n
    split at h
    · rename_i hb
      cases h
      refine ⟨n, rfl, by simpa using hb, fun hb => by simpa using hb, rfl⟩
    · cases h
  · rename_i n
    split at h
    · rename_i hb
      cases h
      exact ⟨n, rfl, by simpa using hb, rfl⟩
    · cases h
  · cases h; rfl
  · cases h

theorem Rel.opnd (R : Rel w0 N env0 β0 S env β a w) {x : Operand} {sv : Sv} (h : opnd S x = some sv) : Den env β sv (a.eval x) := by
  cases x with
  | tmp t =>
    obtain ⟨v, hv, hd⟩ := R.slots t sv h
    have : a.eval (.tmp t) = v := by simp [Act.eval, hv]
    rw [this]; exact hd
  | const v => exact den_const h
  | global g => cases h
  | func f => cases h

/-- More variables, the facts of which hold. -/
theorem Rel.more (R : Rel w0 N env0 β0 S env β a w) (ext : List Nat) (f : Fact) (hf : f.holds (env ++ ext)) {S1 : St} (hS : S1 = { S with nv := S.nv + ext.length, facts := f :: S.facts }) :
    Rel w0 N env0 β0 S1 (env ++ ext) β a w := by
  subst hS
  refine { R with slots := ?_, nv := by simp [R.nv], blks := ?_, facts := ?_, pre := ?_ }
  · intro t sv h; obtain ⟨v, h1, h2⟩ := R.slots t sv h; exact ⟨v, h1, h2.monoE ext⟩
  · intro i blk h
    obtain ⟨B, c, h1, h2, h3, h4⟩ := R.blks i blk h
    exact ⟨B, c, h1, h2, h3, fun j sv hj => by obtain ⟨v, h5, h6⟩ := h4 j sv hj; exact ⟨v, h5, h6.monoE ext⟩⟩
  · intro g hg
    rcases List.mem_cons.1 hg with rfl | hg
    · exact hf
    · exact (R.facts g hg).mono ext
  · obtain ⟨e, he⟩ := R.pre; exact ⟨e ++ ext, by rw [he, List.append_assoc]⟩

theorem Rel.put (R : Rel w0 N env0 β0 S env β a w) {d : Option Tmp} {sv : Option Sv} {v : Value} (hd : ∀ s, sv = some s → Den env β s v) (h : putS N S d sv = some S') :
    Rel w0 N env0 β0 S' env β (a.put d v) w := by
  cases d with
  | none => cases h; exact R
  | some d =>
    simp only [putS] at h
    split at h
    · rename_i hb
      have hb' : d < N := by simpa using hb
      cases h
      refine { R with size := by simp [Act.put, R.size], defers := R.defers, slots := ?_ }
      intro t s ht
      rcases Tr.get_set _ _ _ _ _ _ ht with ⟨rfl, hs⟩ | ⟨hne, hs⟩
      · exact ⟨v, by simp [Act.put, R.size, hb'], hd s hs⟩
      · obtain ⟨u, hu, hd'⟩ := R.slots t s hs
        exact ⟨u, by simp only [Act.put]; rw [Array.getElem?_setIfInBounds_ne hne]; exact hu, hd'⟩
    · cases h

/-- What an operation that leaves the world alone comes to. -/
def Yld (P : Program) (o : Oper) (a : Act) (w : World) (v : Value) : Prop :=
  (execOp a.eval o).run P w = .ok (.value v) w ∨
  ∃ f args, (execOp a.eval o).run P w = .ok (.enter f args) w ∧ Calls P f args w (fun e w' => e = .returned v ∧ w' = w)

theorem Yld.still {o : Oper} {v : Value} {next : Act → Prop} (h : Yld P o a w v) (hn : next (a.put o.dst v)) : o.still P a w next := by
  unfold Oper.still
  rcases h with h | ⟨f, args, h, hc⟩
  · rw [h]; exact ⟨rfl, hn⟩
  · rw [h]; exact ⟨rfl, v, hc, hn⟩

theorem Yld.wp {o : Oper} {v : Value} {K : Act → World → Prop} {Q : Exit → Act → World → Prop} (h : Yld P o a w v) (hn : K (a.put o.dst v) w) : o.wp P a w K Q :=
  Oper.wp_of_still (K := fun a' => K a' w) (fun _ h => h) (h.still hn)

end Go.Proofs.Ytdbaaiplkngjkaa
