/-
  A small engine for straight code over 64-bit words: each step is sound.
-/
import Derived.Test.YtdbaaiplkngjkaaEngB
namespace Go.Proofs.Ytdbaaiplkngjkaa
open Go

variable {P : Program} {C : Cfg} {w0 : World} {N : Nat} {env0 β0 : List Nat} {S S' : St} {env β : List Nat} {a : Act} {w : World}

theorem wrap64_nat {n : Nat} (h : n < 18446744073709551616) : IntKind.u64.wrap (n : Int) = n := by rw [IntKind.wrap_u64]; omega
theorem wrap64_mod (n : Nat) : IntKind.u64.wrap (n : Int) = ((n % 18446744073709551616 : Nat) : Int) := by rw [IntKind.wrap_u64]; omega
theorem wrap8_mod (n : Nat) : IntKind.u8.wrap (n : Int) = ((n % 256 : Nat) : Int) := by rw [IntKind.wrap_u8]; omega

theorem bits_and64 {n m : Nat} (hn : n < 18446744073709551616) (hm : m < 18446744073709551616) :
    (Op.intBits .and .u64 n m).run P w = .ok (.int .u64 ((n &&& m : Nat) : Int)) w := by
  have e1 : (BitVec.ofInt 64 (n : Int)).toNat = n := by simp; omega
  have e2 : (BitVec.ofInt 64 (m : Int)).toNat = m := by simp; omega
  have e : (BitVec.ofInt 64 (n : Int) &&& BitVec.ofInt 64 (m : Int)).toNat = n &&& m := by rw [BitVec.toNat_and, e1, e2]
  have hl : n &&& m < 18446744073709551616 := Nat.lt_of_le_of_lt Nat.and_le_left hn
  show Result.ok (Value.int .u64 (IntKind.u64.wrap (((BitVec.ofInt 64 (n : Int) &&& BitVec.ofInt 64 (m : Int)).toNat : Nat) : Int))) w = _
  rw [e, wrap64_nat hl]

theorem bits_and8 {n : Nat} (hn : n < 256) :
    (Op.intBits .and .u8 n (255 : Nat)).run P w = .ok (.int .u8 (n : Int)) w := by
  have e1 : (BitVec.ofInt 8 (n : Int)).toNat = n := by simp; omega
  have e2 : (BitVec.ofInt 8 ((255 : Nat) : Int)).toNat = 255 := by decide
  have e : (BitVec.ofInt 8 (n : Int) &&& BitVec.ofInt 8 ((255 : Nat) : Int)).toNat = n := by
    rw [BitVec.toNat_and, e1, e2]; exact (Nat.and_two_pow_sub_one_eq_mod n 8).trans (Nat.mod_eq_of_lt hn)
  show Result.ok (Value.int .u8 (IntKind.u8.wrap (((BitVec.ofInt 8 (n : Int) &&& BitVec.ofInt 8 ((255 : Nat) : Int)).toNat : Nat) : Int))) w = _
  rw [e, wrap8_mod, Nat.mod_eq_of_lt hn]

theorem bits_or64 {n m : Nat} (hn : n < 18446744073709551616) (hm : m < 18446744073709551616) :
    (Op.intBits .or .u64 n m).run P w = .ok (.int .u64 ((n ||| m : Nat) : Int)) w ∧ n ||| m < 18446744073709551616 := by
  have e1 : (BitVec.ofInt 64 (n : Int)).toNat = n := by simp; omega
  have e2 : (BitVec.ofInt 64 (m : Int)).toNat = m := by simp; omega
  have e : (BitVec.ofInt 64 (n : Int) ||| BitVec.ofInt 64 (m : Int)).toNat = n ||| m := by rw [BitVec.toNat_or, e1, e2]
  have hl : n ||| m < 18446744073709551616 := by rw [← e]; exact (BitVec.ofInt 64 (n : Int) ||| BitVec.ofInt 64 (m : Int)).isLt
  refine ⟨?_, hl⟩
  show Result.ok (Value.int .u64 (IntKind.u64.wrap (((BitVec.ofInt 64 (n : Int) ||| BitVec.ofInt 64 (m : Int)).toNat : Nat) : Int))) w = _
  rw [e, wrap64_nat hl]

theorem not64 {n : Nat} (hn : n < 18446744073709551616) :
    (Op.unary .xor (.int .u64 n)).run P w = .ok (.int .u64 ((18446744073709551615 - n : Nat) : Int)) w := by
  have e1 : (BitVec.ofInt 64 (n : Int)).toNat = n := by simp; omega
  have e2 : BitVec.ofInt 64 IntKind.u64.max = BitVec.allOnes 64 := by decide
  have e : (BitVec.ofInt 64 IntKind.u64.max ^^^ BitVec.ofInt 64 (n : Int)).toNat = 18446744073709551615 - n := by
    rw [e2, BitVec.allOnes_xor, BitVec.toNat_not, e1]
  show Result.ok (Value.int .u64 (IntKind.u64.wrap (((BitVec.ofInt 64 IntKind.u64.max ^^^ BitVec.ofInt 64 (n : Int)).toNat : Nat) : Int))) w = _
  rw [e, wrap64_nat (by omega)]

theorem shl64 {n k : Nat} (hk : k < 64) : (Op.shift .shl .u64 n .u64 k).run P w = .ok (.int .u64 ((n * 2 ^ k % 18446744073709551616 : Nat) : Int)) w := by
  have h0 : ¬ ((k : Int) < 0) := by omega
  have h1 : min ((k : Int).toNat) (IntKind.u64.bits) = k := by simp [IntKind.bits]; omega
  simp only [Op.shift, if_neg h0, h1]
  show Result.ok (Value.int .u64 (IntKind.u64.wrap ((n : Int) * 2 ^ k))) w = _
  have : (n : Int) * 2 ^ k = ((n * 2 ^ k : Nat) : Int) := by simp
  rw [this, wrap64_mod]

theorem shr64 {n k : Nat} (hk : k < 64) : (Op.shift .shr .u64 n .u64 k).run P w = .ok (.int .u64 ((n / 2 ^ k : Nat) : Int)) w := by
  have h0 : ¬ ((k : Int) < 0) := by omega
  have h1 : min ((k : Int).toNat) (IntKind.u64.bits) = k := by simp [IntKind.bits]; omega
  simp only [Op.shift, if_neg h0, h1]
  show Result.ok (Value.int .u64 (Int.fdiv (n : Int) (2 ^ k))) w = _
  have : (2 ^ k : Int) = ((2 ^ k : Nat) : Int) := by simp
  rw [this, Int.fdiv_eq_ediv_of_nonneg _ (Int.natCast_nonneg _)]
  rfl

theorem Rel.cell (R : Rel w0 N env0 β0 S env β a w) {b off : Nat} {sv : Sv} {v : Value} (hp : Den env β (.p b off) v) (hc : cellS S b off = some sv) :
    ∃ B u, v = .pointer (some ⟨B, off, none⟩) ∧ β[b]? = some B ∧ w.cell? ⟨B, off, none⟩ = some u ∧ Den env β sv u ∧ w.frozen? ⟨B, off, none⟩ = false := by
  obtain ⟨B, hB, rfl⟩ := hp
  unfold cellS at hc
  split at hc
  · rename_i blk hblk
    obtain ⟨B', c, h1, h2, h3, h4⟩ := R.blks b blk hblk
    rw [hB] at h1; cases h1
    obtain ⟨u, hu, hd⟩ := h4 off sv hc
    refine ⟨B, u, rfl, hB, ?_, hd, ?_⟩
    · simp [World.cell?, h2, hu]
    · simp [World.frozen?, h2]
  · cases hc

/-- What is to be shown of one operation. -/
def Sound (P : Program) (w0 : World) (N : Nat) (env0 β0 : List Nat) (S' : St) (env β : List Nat) (a : Act) (w : World) (o : Oper) : Prop :=
  ∃ ext v, Rel w0 N env0 β0 S' (env ++ ext) β (a.put o.dst v) w ∧ Yld P o a w v ∧ o.guard = none

section ops
variable {dst : Option Tmp} {ty : TypeId} {pos : String} {after : Array Edge}

theorem s_move {x : Operand} (h : stepPure C N S ⟨dst, .move x, ty, pos, after, none⟩ = some S') (R : Rel w0 N env0 β0 S env β a w) : Sound P w0 N env0 β0 S' env β a w ⟨dst, .move x, ty, pos, after, none⟩ := by
  simp only [stepPure] at h
  split at h
  · rename_i sv hx
    refine ⟨[], a.eval x, ?_, .inl (by simp [execOp]), rfl⟩
    rw [List.append_nil]; exact R.put (fun s hs => by cases hs; exact R.opnd hx) h
  · cases h

theorem s_assign {x : Operand} (h : stepPure C N S ⟨dst, .assign x, ty, pos, after, none⟩ = some S') (R : Rel w0 N env0 β0 S env β a w) : Sound P w0 N env0 β0 S' env β a w ⟨dst, .assign x, ty, pos, after, none⟩ := by
  simp only [stepPure] at h
  split at h
  · rename_i sv hx
    refine ⟨[], a.eval x, ?_, .inl (by simp [execOp]), rfl⟩
    rw [List.append_nil]; exact R.put (fun s hs => by cases hs; exact R.opnd hx) h
  · cases h

theorem s_nil {x : Operand} (h : stepPure C N S ⟨dst, .nilCheck x, ty, pos, after, none⟩ = some S') (R : Rel w0 N env0 β0 S env β a w) : Sound P w0 N env0 β0 S' env β a w ⟨dst, .nilCheck x, ty, pos, after, none⟩ := by
  simp only [stepPure] at h
  split at h
  · rename_i b off hx
    obtain ⟨B, hB, he⟩ := R.opnd hx
    refine ⟨[], .pointer (some ⟨B, off, none⟩), ?_, .inl (by simp [execOp, he]), rfl⟩
    rw [List.append_nil]; exact R.put (fun s hs => by cases hs; exact ⟨B, hB, rfl⟩) h
  · cases h

theorem s_index (hC : C.Ok P) {t : TypeId} {x ix : Operand} (h : stepPure C N S ⟨dst, .indexAddr t x ix, ty, pos, after, none⟩ = some S') (R : Rel w0 N env0 β0 S env β a w) :
    Sound P w0 N env0 β0 S' env β a w ⟨dst, .indexAddr t x ix, ty, pos, after, none⟩ := by
  simp only [stepPure] at h
  split at h
  · rename_i b off n len hx hix hlen
    split at h
    · rename_i hlt
      have hlt' : n < len := by simpa using hlt
      obtain ⟨B, hB, he⟩ := R.opnd hx
      have hi : a.eval ix = .int .i64 n := R.opnd hix
      obtain ⟨e, i, hu, hinf, hsz⟩ := hC.arr t len (lenOf_mem _ _ _ hlen)
      refine ⟨[], .pointer (some ⟨B, off + n, none⟩), ?_, .inl ?_, rfl⟩
      · rw [List.append_nil]; exact R.put (fun s hs => by cases hs; exact ⟨B, hB, rfl⟩) h
      · simp [execOp, he, hi, Instr.indexAt, Instr.sureAddr, asIntOf, underlying, hu, sizeOf, typeInfo, hinf, hsz, hlt', Addr.add_lit]
    · cases h
  · cases h

theorem s_load (hC : C.Ok P) {t : TypeId} {x : Operand} (h : stepPure C N S ⟨dst, .load t x, ty, pos, after, none⟩ = some S') (R : Rel w0 N env0 β0 S env β a w) :
    Sound P w0 N env0 β0 S' env β a w ⟨dst, .load t x, ty, pos, after, none⟩ := by
  simp only [stepPure] at h
  split at h
  · rename_i b off hx
    split at h
    · rename_i sv hty hcell
      obtain ⟨B, u, he, hB, hcl, hd, hfz⟩ := R.cell (R.opnd hx) hcell
      refine ⟨[], u, ?_, .inl ?_, rfl⟩
      · rw [List.append_nil]; exact R.put (fun s hs => by cases hs; exact hd) h
      · simp only [Bool.or_eq_true] at hty
        rcases hty with hty | hty
        · have hu := (hC.word t (memB_mem _ _ hty)).1
          simp [execOp, he, Instr.loadAt, Instr.sureAddr, loadVar, isAgg, underlying, hu, hcl]
        · have hu := (hC.byte t (memB_mem _ _ hty)).1
          simp [execOp, he, Instr.loadAt, Instr.sureAddr, loadVar, isAgg, underlying, hu, hcl]
    · cases h
  · cases h

theorem s_extract {x : Operand} {ix : Nat} (h : stepPure C N S ⟨dst, .extract x ix, ty, pos, after, none⟩ = some S') (R : Rel w0 N env0 β0 S env β a w) :
    Sound P w0 N env0 β0 S' env β a w ⟨dst, .extract x ix, ty, pos, after, none⟩ := by
  simp only [stepPure] at h
  split at h
  · rename_i x' bx y' bY hx
    obtain ⟨n, m, h1, h2, h3, h4, h5, h6, he⟩ := R.opnd hx
    refine ⟨[], .int .u64 n, ?_, .inl (by simp [execOp, he, Instr.extract]), rfl⟩
    rw [List.append_nil]; exact R.put (fun s hs => by cases hs; exact ⟨n, h1, h2, h3, rfl⟩) h
  · rename_i x' bx y' bY hx
    obtain ⟨n, m, h1, h2, h3, h4, h5, h6, he⟩ := R.opnd hx
    refine ⟨[], .int .u64 m, ?_, .inl (by simp [execOp, he, Instr.extract]), rfl⟩
    rw [List.append_nil]; exact R.put (fun s hs => by cases hs; exact ⟨m, h4, h5, h6, rfl⟩) h
  · cases h

/-- One new variable z whose fact holds, put into the slot as a word. -/
theorem Rel.new1 (R : Rel w0 N env0 β0 S env β a w) {z : Nat} {f : Fact} {sv : Sv} {v : Value} (hf : f.holds (env ++ [z])) (hd : Den (env ++ [z]) β sv v) (h : putS N (S.fresh1 f) dst (some sv) = some S') :
    Rel w0 N env0 β0 S' (env ++ [z]) β (a.put dst v) w :=
  (R.more [z] f hf (S1 := S.fresh1 f) rfl).put (fun s hs => by cases hs; exact hd) h

theorem Rel.new2 (R : Rel w0 N env0 β0 S env β a w) {z y : Nat} {f : Fact} {sv : Sv} {v : Value} (hf : f.holds (env ++ [z, y])) (hd : Den (env ++ [z, y]) β sv v) (h : putS N (S.fresh2 f) dst (some sv) = some S') :
    Rel w0 N env0 β0 S' (env ++ [z, y]) β (a.put dst v) w :=
  (R.more [z, y] f hf (S1 := S.fresh2 f) rfl).put (fun s hs => by cases hs; exact hd) h

theorem at_new (env : List Nat) (z : Nat) {k : Nat} (hk : env.length = k) : (At.v k).at (env ++ [z]) = some z := by subst hk; simp [At.at]
theorem at_new0 (env : List Nat) (z y : Nat) {k : Nat} (hk : env.length = k) : (At.v k).at (env ++ [z, y]) = some z := by subst hk; simp [At.at]
theorem at_new1 (env : List Nat) (z y : Nat) {k : Nat} (hk : env.length = k) : (At.v (k + 1)).at (env ++ [z, y]) = some y := by subst hk; simp [At.at]

theorem den_new {env : List Nat} {z : Nat} {k : Nat} (hk : env.length = k) (hz : z < 18446744073709551616) : Den (env ++ [z]) β (.w (.v k) false) (.int .u64 z) :=
  ⟨z, at_new env z hk, hz, (fun h => by cases h), rfl⟩

theorem s_convert (hC : C.Ok P) {s t : TypeId} {x : Operand} (h : stepPure C N S ⟨dst, .convert s t x, ty, pos, after, none⟩ = some S') (R : Rel w0 N env0 β0 S env β a w) :
    Sound P w0 N env0 β0 S' env β a w ⟨dst, .convert s t x, ty, pos, after, none⟩ := by
  simp only [stepPure] at h
  split at h
  · rename_i x' b hx
    obtain ⟨n, h1, h2, h3, he⟩ := R.opnd hx
    split at h
    · rename_i hs
      have hus := (hC.word s (memB_mem _ _ hs)).1
      split at h
      · rename_i ht
        have hut := (hC.word t (memB_mem _ _ ht)).1
        refine ⟨[], .int .u64 n, ?_, .inl ?_, rfl⟩
        · rw [List.append_nil]; exact R.put (fun s hs => by cases hs; exact ⟨n, h1, h2, h3, rfl⟩) h
        · simp [execOp, he, convert, underlying, hus, hut, Conv.intToInt, wrap64_nat h2]
      · split at h
        · rename_i ht
          have hut := (hC.byte t (memB_mem _ _ ht)).1
          refine ⟨[n % 256], .int .u8 ((n % 256 : Nat) : Int), R.new1 (sv := .y (.v S.nv)) ?_ ⟨n % 256, at_new env _ R.nv, Nat.mod_lt _ (by decide), rfl⟩ h, .inl ?_, rfl⟩
          · intro e
            show val _ _ = _ % 256
            rw [val_new env _ e R.nv, List.append_assoc, At.ev_ext h1]
          · simp only [execOp, he, convert, underlying, hus, hut, Conv.intToInt, run_program, Sem.run_bind, Sem.run_pure, Result.andThen_ok, wrap8_mod]
        · cases h
    · cases h
  · rename_i x' hx
    obtain ⟨n, h1, h2, he⟩ := R.opnd hx
    split at h
    · rename_i hs
      have hus := (hC.byte s (memB_mem _ _ hs)).1
      split at h
      · rename_i ht
        have hut := (hC.word t (memB_mem _ _ ht)).1
        have h2' : n < 18446744073709551616 := by omega
        refine ⟨[], .int .u64 n, ?_, .inl ?_, rfl⟩
        · rw [List.append_nil]; exact R.put (fun s hs => by cases hs; exact ⟨n, h1, h2', (fun h => by cases h), rfl⟩) h
        · simp [execOp, he, convert, underlying, hus, hut, Conv.intToInt, wrap64_nat h2']
      · cases h
    · cases h
  · cases h

theorem s_plus {xt yt : TypeId} {x y : Operand} (h : stepPure C N S ⟨dst, .binOp .add xt x y yt, ty, pos, after, none⟩ = some S') (R : Rel w0 N env0 β0 S env β a w) :
    Sound P w0 N env0 β0 S' env β a w ⟨dst, .binOp .add xt x y yt, ty, pos, after, none⟩ := by
  simp only [stepPure] at h
  split at h
  · rename_i x' bx y' bY hx hy
    obtain ⟨n, h1, h2, h3, he⟩ := R.opnd hx
    obtain ⟨m, k1, k2, k3, ke⟩ := R.opnd hy
    refine ⟨[(n + m) % 18446744073709551616], .int .u64 (((n + m) % 18446744073709551616 : Nat) : Int), R.new1 ?_ (den_new R.nv (Nat.mod_lt _ (by omega))) h, .inl ?_, rfl⟩
    · intro e
      show val _ _ = _
      rw [val_new env _ e R.nv, List.append_assoc, At.ev_ext h1, At.ev_ext k1]
    · have : IntKind.u64.wrap ((n : Int) + m) = (((n + m) % 18446744073709551616 : Nat) : Int) := by rw [← wrap64_mod]; simp
      simp only [execOp, he, ke, eqGuard_add, binOp_add, Op.intArith, Sem.run_bind, Sem.run_pure, Result.andThen_ok, this]
  · cases h

theorem s_and {xt yt : TypeId} {x y : Operand} (h : stepPure C N S ⟨dst, .binOp .and xt x y yt, ty, pos, after, none⟩ = some S') (R : Rel w0 N env0 β0 S env β a w) :
    Sound P w0 N env0 β0 S' env β a w ⟨dst, .binOp .and xt x y yt, ty, pos, after, none⟩ := by
  simp only [stepPure] at h
  split at h
  · rename_i x' bx y' bY hx hy
    obtain ⟨n, h1, h2, h3, he⟩ := R.opnd hx
    obtain ⟨m, k1, k2, k3, ke⟩ := R.opnd hy
    have hl : n &&& m < 18446744073709551616 := Nat.lt_of_le_of_lt Nat.and_le_left h2
    refine ⟨[n &&& m], .int .u64 ((n &&& m : Nat) : Int), R.new1 ?_ (den_new R.nv hl) h, .inl ?_, rfl⟩
    · intro e
      show val _ _ = _
      rw [val_new env _ e R.nv, List.append_assoc, At.ev_ext h1, At.ev_ext k1]
    · simp only [execOp, he, ke, eqGuard_and, binOp_and, Sem.run_bind, Sem.run_pure, Result.andThen_ok, bits_and64 h2 k2]
  · rename_i x' c hx hy
    split at h
    · rename_i hc
      have hc' : c = 255 := Nat.eq_of_beq_eq_true hc
      subst hc'
      obtain ⟨n, h1, h2, he⟩ := R.opnd hx
      obtain ⟨m, k1, k2, ke⟩ := R.opnd hy
      simp only [At.at, Option.some.injEq] at k1
      subst k1
      refine ⟨[], .int .u8 n, ?_, .inl ?_, rfl⟩
      · rw [List.append_nil]; exact R.put (fun s hs => by cases hs; exact ⟨n, h1, h2, rfl⟩) h
      · simp only [execOp, he, ke, eqGuard_and, binOp_and, Sem.run_bind, Sem.run_pure, Result.andThen_ok, bits_and8 h2]
    · cases h
  · cases h

theorem s_shl {xt yt : TypeId} {x y : Operand} (h : stepPure C N S ⟨dst, .binOp .shl xt x y yt, ty, pos, after, none⟩ = some S') (R : Rel w0 N env0 β0 S env β a w) :
    Sound P w0 N env0 β0 S' env β a w ⟨dst, .binOp .shl xt x y yt, ty, pos, after, none⟩ := by
  simp only [stepPure] at h
  split at h
  · rename_i x' bx k bY hx hy
    split at h
    · rename_i hk
      have hk' : k < 64 := by simpa using hk
      obtain ⟨n, h1, h2, h3, he⟩ := R.opnd hx
      obtain ⟨m, k1, k2, k3, ke⟩ := R.opnd hy
      simp only [At.at, Option.some.injEq] at k1
      subst k1
      refine ⟨[n * 2 ^ k % 18446744073709551616], .int .u64 ((n * 2 ^ k % 18446744073709551616 : Nat) : Int), R.new1 ?_ (den_new R.nv (Nat.mod_lt _ (by omega))) h, .inl ?_, rfl⟩
      · intro e
        show val _ _ = _
        rw [val_new env _ e R.nv, List.append_assoc, At.ev_ext h1]
      · have hb : binOp .shl xt (.int .u64 (n : Int)) (.int .u64 (k : Int)) = Op.shift .shl .u64 n .u64 k := rfl
        simp only [execOp, he, ke, eqGuard_shl, hb, Sem.run_bind, Sem.run_pure, Result.andThen_ok, shl64 hk']
    · cases h
  · cases h

theorem s_shr {xt yt : TypeId} {x y : Operand} (h : stepPure C N S ⟨dst, .binOp .shr xt x y yt, ty, pos, after, none⟩ = some S') (R : Rel w0 N env0 β0 S env β a w) :
    Sound P w0 N env0 β0 S' env β a w ⟨dst, .binOp .shr xt x y yt, ty, pos, after, none⟩ := by
  simp only [stepPure] at h
  split at h
  · rename_i x' bx k bY hx hy
    split at h
    · rename_i hk
      have hk' : k < 64 := by simpa using hk
      obtain ⟨n, h1, h2, h3, he⟩ := R.opnd hx
      obtain ⟨m, k1, k2, k3, ke⟩ := R.opnd hy
      simp only [At.at, Option.some.injEq] at k1
      subst k1
      have hl : n / 2 ^ k < 18446744073709551616 := Nat.lt_of_le_of_lt (Nat.div_le_self _ _) h2
      refine ⟨[n / 2 ^ k], .int .u64 ((n / 2 ^ k : Nat) : Int), R.new1 ?_ (den_new R.nv hl) h, .inl ?_, rfl⟩
      · intro e
        show val _ _ = _
        rw [val_new env _ e R.nv, List.append_assoc, At.ev_ext h1]
      · have hb : binOp .shr xt (.int .u64 (n : Int)) (.int .u64 (k : Int)) = Op.shift .shr .u64 n .u64 k := rfl
        simp only [execOp, he, ke, eqGuard_shr, hb, Sem.run_bind, Sem.run_pure, Result.andThen_ok, shr64 hk']
    · cases h
  · cases h

theorem s_mulw {xt yt : TypeId} {x y : Operand} (h : stepPure C N S ⟨dst, .binOp .mul xt x y yt, ty, pos, after, none⟩ = some S') (R : Rel w0 N env0 β0 S env β a w) :
    Sound P w0 N env0 β0 S' env β a w ⟨dst, .binOp .mul xt x y yt, ty, pos, after, none⟩ := by
  simp only [stepPure] at h
  split at h
  · rename_i x' bx y' bY hx hy
    obtain ⟨n, h1, h2, h3, he⟩ := R.opnd hx
    obtain ⟨m, k1, k2, k3, ke⟩ := R.opnd hy
    refine ⟨[n * m % 18446744073709551616], .int .u64 ((n * m % 18446744073709551616 : Nat) : Int), R.new1 ?_ (den_new R.nv (Nat.mod_lt _ (by omega))) h, .inl ?_, rfl⟩
    · intro e
      show val _ _ = _
      rw [val_new env _ e R.nv, List.append_assoc, At.ev_ext h1, At.ev_ext k1]
    · have : IntKind.u64.wrap ((n : Int) * m) = ((n * m % 18446744073709551616 : Nat) : Int) := by rw [← wrap64_mod]; simp
      simp only [execOp, he, ke, eqGuard_mul, binOp_mul, Op.intArith, Sem.run_bind, Sem.run_pure, Result.andThen_ok, this]
  · cases h

theorem s_or {xt yt : TypeId} {x y : Operand} (h : stepPure C N S ⟨dst, .binOp .or xt x y yt, ty, pos, after, none⟩ = some S') (R : Rel w0 N env0 β0 S env β a w) :
    Sound P w0 N env0 β0 S' env β a w ⟨dst, .binOp .or xt x y yt, ty, pos, after, none⟩ := by
  simp only [stepPure] at h
  split at h
  · rename_i x' bx y' bY hx hy
    obtain ⟨n, h1, h2, h3, he⟩ := R.opnd hx
    obtain ⟨m, k1, k2, k3, ke⟩ := R.opnd hy
    refine ⟨[n ||| m], .int .u64 ((n ||| m : Nat) : Int), R.new1 ?_ (den_new R.nv (bits_or64 (P := P) (w := w) h2 k2).2) h, .inl ?_, rfl⟩
    · intro e
      show val _ _ = _
      rw [val_new env _ e R.nv, List.append_assoc, At.ev_ext h1, At.ev_ext k1]
    · simp only [execOp, he, ke, eqGuard_or, binOp_or, Sem.run_bind, Sem.run_pure, Result.andThen_ok, (bits_or64 h2 k2).1]
  · cases h

theorem s_not {xt : TypeId} {x : Operand} (h : stepPure C N S ⟨dst, .unOp .xor xt x, ty, pos, after, none⟩ = some S') (R : Rel w0 N env0 β0 S env β a w) :
    Sound P w0 N env0 β0 S' env β a w ⟨dst, .unOp .xor xt x, ty, pos, after, none⟩ := by
  simp only [stepPure] at h
  split at h
  · rename_i x' bx hx
    obtain ⟨n, h1, h2, h3, he⟩ := R.opnd hx
    refine ⟨[18446744073709551615 - n], .int .u64 ((18446744073709551615 - n : Nat) : Int), R.new1 ?_ (den_new R.nv (by omega)) h, .inl ?_, rfl⟩
    · intro e
      show val _ _ = _
      rw [val_new env _ e R.nv, List.append_assoc, At.ev_ext h1]
    · simp only [execOp, he, not64 h2, Sem.run_bind, Sem.run_pure, Result.andThen_ok]
  · cases h

theorem run_call {f : FuncId} {args : Array Operand} {argTypes : Array TypeId} {vs : Array Value} (hvs : args.map a.eval = vs) :
    (execOp a.eval (⟨dst, .call ⟨.value (.func f), args, argTypes⟩, ty, pos, after, none⟩ : Oper)).run P w = (callFunc f vs).run P w := by
  simp [execOp, resolve, Act.eval, Deferred.ofValue, invoke, hvs]

theorem map_args {args : Array Operand} {l : List Operand} {vs : List Value} (hargs : args.toList = l) (hv : l.map a.eval = vs) : args.map a.eval = vs.toArray := by
  apply Array.ext'; simp [hargs, hv]

theorem s_add (hC : C.Ok P) {args : Array Operand} {argTypes : Array TypeId} (h : stepAdd N S dst args.toList = some S') (R : Rel w0 N env0 β0 S env β a w) :
    Sound P w0 N env0 β0 S' env β a w ⟨dst, .call ⟨.value (.func C.add64), args, argTypes⟩, ty, pos, after, none⟩ := by
  generalize hargs : args.toList = l at h
  unfold stepAdd at h
  split at h
  · rename_i x y c
    split at h
    · rename_i x' bx y' bY c' hx hy hc
      obtain ⟨n, h1, h2, h3, he⟩ := R.opnd hx
      obtain ⟨m, k1, k2, k3, ke⟩ := R.opnd hy
      obtain ⟨l, l1, l2, l3, le⟩ := R.opnd hc
      have l4 := l3 rfl
      have hm := map_args (a := a) (vs := [.int .u64 (n : Int), .int .u64 (m : Int), .int .u64 (l : Int)]) hargs (by simp [he, ke, le])
      have e1 : (n + m + l) % 18446744073709551616 < 18446744073709551616 := Nat.mod_lt _ (by omega)
      have e2 : (n + m + l) / 18446744073709551616 ≤ 1 := by omega
      refine ⟨[(n + m + l) % 18446744073709551616, (n + m + l) / 18446744073709551616], _, R.new2 ?_ ?_ h, .inl ((run_call hm).trans (hC.add64 n m l w l4)), rfl⟩
      · intro e
        show val _ _ + _ * val _ _ = _ ∧ val _ _ < _ ∧ val _ _ ≤ _ ∧ _
        rw [val_new0 env _ _ e R.nv, val_new1 env _ _ e R.nv, List.append_assoc, At.ev_ext h1, At.ev_ext k1, At.ev_ext l1]
        exact ⟨by omega, e1, e2, l4⟩
      · exact ⟨_, _, at_new0 env _ _ R.nv, e1, (fun h => by cases h), at_new1 env _ _ R.nv, by omega, (fun _ => e2), rfl⟩
    · cases h
  · cases h

theorem s_sub (hC : C.Ok P) {args : Array Operand} {argTypes : Array TypeId} (h : stepSub N S dst args.toList = some S') (R : Rel w0 N env0 β0 S env β a w) :
    Sound P w0 N env0 β0 S' env β a w ⟨dst, .call ⟨.value (.func C.sub64), args, argTypes⟩, ty, pos, after, none⟩ := by
  generalize hargs : args.toList = l at h
  unfold stepSub at h
  split at h
  · rename_i x y c
    split at h
    · rename_i x' bx y' bY c' hx hy hc
      obtain ⟨n, h1, h2, h3, he⟩ := R.opnd hx
      obtain ⟨m, k1, k2, k3, ke⟩ := R.opnd hy
      obtain ⟨l, l1, l2, l3, le⟩ := R.opnd hc
      have l4 := l3 rfl
      have hm := map_args (a := a) (vs := [.int .u64 (n : Int), .int .u64 (m : Int), .int .u64 (l : Int)]) hargs (by simp [he, ke, le])
      have e1 : (n + 18446744073709551616 - m - l) % 18446744073709551616 < 18446744073709551616 := Nat.mod_lt _ (by omega)
      have hb : (if n < m + l then 1 else 0) ≤ 1 := by split <;> omega
      refine ⟨[(n + 18446744073709551616 - m - l) % 18446744073709551616, if n < m + l then 1 else 0], _, R.new2 ?_ ?_ h, .inl ((run_call hm).trans (hC.sub64 n m l w l4)), rfl⟩
      · intro e
        show val _ _ + _ + _ = _ + _ * val _ _ ∧ val _ _ < _ ∧ val _ _ ≤ _ ∧ _
        rw [val_new0 env _ _ e R.nv, val_new1 env _ _ e R.nv, List.append_assoc, At.ev_ext h1, At.ev_ext k1, At.ev_ext l1]
        exact ⟨by split <;> omega, e1, hb, l4⟩
      · exact ⟨_, _, at_new0 env _ _ R.nv, e1, (fun h => by cases h), at_new1 env _ _ R.nv, by omega, (fun _ => hb), rfl⟩
    · cases h
  · cases h

theorem s_mul (hC : C.Ok P) {g : FuncId} (hg : C.mul64 = some g) {args : Array Operand} {argTypes : Array TypeId} (h : stepMul N S dst args.toList = some S') (R : Rel w0 N env0 β0 S env β a w) :
    Sound P w0 N env0 β0 S' env β a w ⟨dst, .call ⟨.value (.func g), args, argTypes⟩, ty, pos, after, none⟩ := by
  generalize hargs : args.toList = l at h
  unfold stepMul at h
  split at h
  · rename_i x y
    split at h
    · rename_i x' bx y' bY hx hy
      obtain ⟨n, h1, h2, h3, he⟩ := R.opnd hx
      obtain ⟨m, k1, k2, k3, ke⟩ := R.opnd hy
      have hm := map_args (a := a) (vs := [.int .u64 (n : Int), .int .u64 (m : Int)]) hargs (by simp [he, ke])
      have hhi : n * m / 18446744073709551616 < 18446744073709551616 := Nat.div_lt_of_lt_mul (Nat.mul_lt_mul'' h2 k2)
      have hlo : n * m % 18446744073709551616 < 18446744073709551616 := Nat.mod_lt _ (by omega)
      refine ⟨[n * m / 18446744073709551616, n * m % 18446744073709551616], _, R.new2 ?_ ?_ h, .inr ⟨_, _, (run_call hm).trans (hC.mulRun g hg _ w), hC.mul64 g hg n m w h2 k2⟩, rfl⟩
      · intro e
        show val _ _ * _ + val _ _ = _ ∧ val _ _ < _
        rw [val_new0 env _ _ e R.nv, val_new1 env _ _ e R.nv, List.append_assoc, At.ev_ext h1, At.ev_ext k1]
        exact ⟨Nat.div_add_mod' _ _, hlo⟩
      · exact ⟨_, _, at_new0 env _ _ R.nv, hhi, (fun h => by cases h), at_new1 env _ _ R.nv, hlo, (fun h => by cases h), rfl⟩
    · cases h
  · cases h
end ops

theorem stepPure_sound (hC : C.Ok P) {o : Oper} (h : stepPure C N S o = some S') (R : Rel w0 N env0 β0 S env β a w) : Sound P w0 N env0 β0 S' env β a w o := by
  obtain ⟨dst, op, ty, pos, after, guard⟩ := o
  cases guard with
  | some g => simp [stepPure] at h
  | none =>
  cases op with
  | move x => exact s_move h R
  | assign x => exact s_assign h R
  | nilCheck x => exact s_nil h R
  | indexAddr t x ix => exact s_index hC h R
  | load t x => exact s_load hC h R
  | extract x ix => exact s_extract h R
  | convert s t x => exact s_convert hC h R
  | binOp bop xt x y yt =>
    cases bop with
    | add => exact s_plus h R
    | and => exact s_and h R
    | shl => exact s_shl h R
    | shr => exact s_shr h R
    | mul => exact s_mulw h R
    | or => exact s_or h R
    | _ => simp [stepPure] at h
  | unOp uop xt x =>
    cases uop with
    | xor => exact s_not h R
    | _ => simp [stepPure] at h
  | call c =>
    obtain ⟨callee, args, argTypes⟩ := c
    cases callee with
    | value f =>
      cases f with
      | func f =>
        simp only [stepPure] at h
        split at h
        · rename_i hf
          rw [Nat.eq_of_beq_eq_true hf]; exact s_add hC h R
        · split at h
          · rename_i hf
            rw [Nat.eq_of_beq_eq_true hf]; exact s_sub hC h R
          · split at h
            · rename_i g hg
              split at h
              · rename_i hf
                rw [Nat.eq_of_beq_eq_true hf]; exact s_mul hC hg h R
              · cases h
            · cases h
      | _ => simp [stepPure] at h
    | _ => simp [stepPure] at h
  | _ => simp [stepPure] at h

end Go.Proofs.Ytdbaaiplkngjkaa
