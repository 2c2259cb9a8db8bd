import JvmDerived
import JvmDerived.Pilot.@@N@@Statement
import JvmDerived.Pilot.@@N@@Code
set_option linter.unusedVariables false
set_option linter.unusedSimpArgs false

namespace Jvm.Own
open Jvm Jvm.ClassFile Sem Op Lib Jvm.Free Jvm.Stand Jvm.LawKit Jvm.RoadKit Bundle
/-! ### A. plain code: a table of decoded rows, and a run over it -/
abbrev Ent : Type := Nat × Instr × Nat × Nat × Nat × Int32
/-- the length of a plain row or a branch -/
def ilen : Instr → Option Nat
  | .aload _ | .iload _ | .lload _ | .istore _ | .astore _ | .lstore _ | .bipush _ => some 2
  | .sipush _ | .iinc _ _ | .goto _ | .ifCond _ _ | .if_icmp _ _ | .if_acmp _ _ | .ifnull _ | .ifnonnull _ => some 3
  | .aload_n _ | .iload_n _ | .lload_n _ | .istore_n _ | .astore_n _ | .lstore_n _ | .iconst _ | .aconst_null | .lconst _ | .iadd | .isub | .imul | .idiv | .irem | .iand | .ior | .ixor | .ishl | .ishr | .iushr | .ineg
  | .ladd | .lsub | .lmul | .land | .lor | .lxor | .lshl | .lshr | .lushr | .lcmp | .i2l | .l2i | .i2c | .i2b | .dup | .pop => some 1
  | _ => none
def lenOk (i : Instr) (n : Nat) : Bool := match ilen i with
  | some q => Nat.beq n q
  | none => true
def rowOk (b : ByteArray) (x : Ent) : Bool :=
  match x with
  | (pc, i, n, nx, tg, k) => decide (decode b pc = .ok (i, n)) && Nat.beq nx (pc + n) && lenOk i n && (match i with
    | .iconst c => decide (Int32.ofInt c = k)
    | .bipush c => decide ((Int8.ofInt c).toInt32 = k)
    | .sipush c => decide ((Int16.ofInt c).toInt32 = k)
    | .iinc _ c => decide (Int32.ofInt c = k)
    | .goto o => decide (0 ≤ (pc : Int) + o) && decide (((pc : Int) + o).toNat = tg)
    | .ifCond _ o => decide (0 ≤ (pc : Int) + o) && decide (((pc : Int) + o).toNat = tg)
    | .if_icmp _ o => decide (0 ≤ (pc : Int) + o) && decide (((pc : Int) + o).toNat = tg)
    | .if_acmp _ o => decide (0 ≤ (pc : Int) + o) && decide (((pc : Int) + o).toNat = tg)
    | .ifnull o => decide (0 ≤ (pc : Int) + o) && decide (((pc : Int) + o).toNat = tg)
    | .ifnonnull o => decide (0 ≤ (pc : Int) + o) && decide (((pc : Int) + o).toNat = tg)
    | _ => true)
def Dec (b : ByteArray) (ins : List Ent) : Prop := ins.all (rowOk b) = true
def lk : List Ent → Nat → Option (Instr × Nat × Nat × Nat × Int32)
  | [], _ => none
  | (q, r) :: t, pc => cond (Nat.beq q pc) (some r) (lk t pc)
theorem lk_mem {pc : Nat} {r : Instr × Nat × Nat × Nat × Int32} : ∀ {ins : List Ent}, lk ins pc = some r → (pc, r) ∈ ins
  | [], h => nomatch h
  | (q, r') :: t, h => by
    unfold lk at h
    cases hq : Nat.beq q pc with
    | true =>
      rw [hq] at h
      have e1 := Nat.eq_of_beq_eq_true hq
      have e2 : r' = r := Option.some.inj h
      rw [e1, e2]; exact List.mem_cons_self ..
    | false => rw [hq] at h; exact List.mem_cons_of_mem _ (lk_mem h)
theorem Dec.row {b : ByteArray} {ins : List Ent} (D : Dec b ins) {pc : Nat} {r : Instr × Nat × Nat × Nat × Int32} (h : lk ins pc = some r) : rowOk b (pc, r) = true := List.all_eq_true.mp D _ (lk_mem h)
theorem Dec.at {b : ByteArray} {ins : List Ent} (D : Dec b ins) {pc n nx tg : Nat} {i : Instr} {k : Int32} (h : lk ins pc = some (i, n, nx, tg, k)) : decode b pc = .ok (i, n) ∧ nx = pc + n := by
  have q := D.row h
  simp only [rowOk, Bool.and_eq_true, decide_eq_true_eq] at q
  exact ⟨q.1.1.1, Nat.eq_of_beq_eq_true q.1.1.2⟩
def lget : List Slot → Nat → Option Slot
  | [], _ => none
  | a :: _, 0 => some a
  | _ :: r, k + 1 => lget r k
def sok : Slot → Bool
  | .unset => true
  | .val w => Nat.beq w.category 1
  | .second => false
def lput : List Slot → Nat → Value → Option (List Slot)
  | [], _, _ => none
  | a :: r, 0, v => cond (sok a) (some (.val v :: r)) none
  | a :: r, k + 1, v => match lput r k v with
    | some r' => some (a :: r')
    | none => none
def lputL : List Slot → Nat → Int64 → Option (List Slot)
  | [], _, _ => none
  | [_], _, _ => none
  | a :: b :: r, 0, v => cond (sok a && sok b) (some (.val (.long v) :: .second :: r)) (match a, b with
    | .val (.long _), .second => some (.val (.long v) :: .second :: r)
    | _, _ => none)
  | a :: b :: r, k + 1, v => match lputL (b :: r) k v with
    | some r' => some (a :: r')
    | none => none
theorem lget_eq : ∀ (L : List Slot) (k : Nat), L.toArray[k]? = lget L k
  | [], k => by simp [lget]
  | a :: r, 0 => by simp [lget]
  | a :: r, k + 1 => by have := lget_eq r k; simp only [List.getElem?_toArray] at this ⊢; simpa [lget] using this
theorem lput_eq : ∀ (L : List Slot) (k : Nat) (v : Value) (L' : List Slot), lput L k v = some L' → ∃ o, lget L k = some o ∧ sok o = true ∧ L' = L.set k (.val v)
  | [], _, _, _, h => nomatch h
  | a :: r, 0, v, L', h => by
    unfold lput at h
    cases hs : sok a with
    | true => rw [hs] at h; exact ⟨a, rfl, hs, (Option.some.inj h).symm⟩
    | false => rw [hs] at h; cases h
  | a :: r, k + 1, v, L', h => by
    unfold lput at h
    cases hq : lput r k v with
    | none => rw [hq] at h; cases h
    | some r' =>
      rw [hq] at h
      obtain ⟨o, h1, h2, h3⟩ := lput_eq r k v r' hq
      exact ⟨o, h1, h2, by rw [← Option.some.inj h, h3]; rfl⟩
theorem sok_spec {o : Slot} (h : sok o = true) : o = .unset ∨ ∃ w, o = .val w ∧ w.category = 1 := by
  cases o with
  | unset => exact Or.inl rfl
  | second => cases h
  | val w => exact Or.inr ⟨w, rfl, Nat.eq_of_beq_eq_true h⟩
theorem lput_store {L L' : List Slot} {k : Nat} {v : Value} (h : lput L k v = some L') (hc : v.category = 1) : storeLocals L.toArray k v = some L'.toArray := by
  obtain ⟨o, h1, h2, rfl⟩ := lput_eq L k v L' h
  rw [XS.store1 ((lget_eq L k).trans h1) (sok_spec h2) hc]
  simp
theorem lputL_eq : ∀ (L : List Slot) (k : Nat) (v : Int64) (L' : List Slot), lputL L k v = some L' → ∃ a b, lget L k = some a ∧ lget L (k + 1) = some b ∧ ((sok a = true ∧ sok b = true) ∨ ((∃ w, a = .val (.long w)) ∧ b = .second)) ∧ L' = (L.set k (.val (.long v))).set (k + 1) .second
  | [], _, _, _, h => nomatch h
  | [_], 0, _, _, h => nomatch h
  | [_], _ + 1, _, _, h => nomatch h
  | a :: b :: r, 0, v, L', h => by
    unfold lputL at h
    cases hs : (sok a && sok b) with
    | true => rw [hs] at h; exact ⟨a, b, rfl, rfl, Or.inl (Bool.and_eq_true_iff.mp hs), (Option.some.inj h).symm⟩
    | false =>
      rw [hs] at h
      simp only [cond_false] at h
      split at h
      · exact ⟨_, _, rfl, rfl, Or.inr ⟨⟨_, rfl⟩, rfl⟩, (Option.some.inj h).symm⟩
      · cases h
  | a :: b :: r, k + 1, v, L', h => by
    unfold lputL at h
    cases hq : lputL (b :: r) k v with
    | none => rw [hq] at h; cases h
    | some r' =>
      rw [hq] at h
      obtain ⟨x, y, h1, h2, h3, h4⟩ := lputL_eq (b :: r) k v r' hq
      exact ⟨x, y, h1, h2, h3, by rw [← Option.some.inj h, h4]; rfl⟩
end Jvm.Own

namespace Jvm.Own
open Jvm Jvm.ClassFile Sem Op Lib Jvm.Free Jvm.Stand Jvm.LawKit Jvm.RoadKit Bundle
/-- the int of a char -/
def i2cv (x : Int32) : Int32 := x.toUInt32.toUInt16.toUInt32.toInt32
def i2bv (x : Int32) : Int32 := x.toInt8.toInt32
abbrev Frs : Type := Nat × List Slot × List Value
def ldI (nx : Nat) (L : List Slot) (S : List Value) (k : Nat) : Option Frs := match lget L k with
  | some (.val (.int x)) => some (nx, L, .int x :: S)
  | _ => none
def ldJ (nx : Nat) (L : List Slot) (S : List Value) (k : Nat) : Option Frs := match lget L k with
  | some (.val (.long x)) => some (nx, L, .long x :: S)
  | _ => none
def ldA (nx : Nat) (L : List Slot) (S : List Value) (k : Nat) : Option Frs := match lget L k with
  | some (.val (.ref a)) => some (nx, L, .ref a :: S)
  | some (.val .null) => some (nx, L, .null :: S)
  | _ => none
def sto (nx : Nat) (L : List Slot) (S : List Value) (k : Nat) (v : Value) : Option Frs := match lput L k v with
  | some L' => some (nx, L', S)
  | none => none
def stoL (nx : Nat) (L : List Slot) (S : List Value) (k : Nat) (v : Int64) : Option Frs := match lputL L k v with
  | some L' => some (nx, L', S)
  | none => none
def stI (nx : Nat) (L : List Slot) (S : List Value) (k : Nat) : Option Frs := match S with
  | .int x :: r => sto nx L r k (.int x)
  | _ => none
def stA (nx : Nat) (L : List Slot) (S : List Value) (k : Nat) : Option Frs := match S with
  | .ref a :: r => sto nx L r k (.ref a)
  | .null :: r => sto nx L r k .null
  | _ => none
def stJ (nx : Nat) (L : List Slot) (S : List Value) (k : Nat) : Option Frs := match S with
  | .long x :: r => stoL nx L r k x
  | _ => none
/-- one plain row: no heap, no table, no branch -/
def stp (i : Instr) (nx tg : Nat) (kk : Int32) (L : List Slot) (S : List Value) : Option Frs :=
  match i with
  | .aload_n k => ldA nx L S k.val
  | .aload k => ldA nx L S k
  | .iload_n k => ldI nx L S k.val
  | .iload k => ldI nx L S k
  | .lload_n k => ldJ nx L S k.val
  | .lload k => ldJ nx L S k
  | .istore_n k => stI nx L S k.val
  | .istore k => stI nx L S k
  | .astore_n k => stA nx L S k.val
  | .astore k => stA nx L S k
  | .lstore_n k => stJ nx L S k.val
  | .lstore k => stJ nx L S k
  | .iconst _ => some (nx, L, .int kk :: S)
  | .bipush _ => some (nx, L, .int kk :: S)
  | .sipush _ => some (nx, L, .int kk :: S)
  | .aconst_null => some (nx, L, .null :: S)
  | .lconst k => some (nx, L, .long (Int64.ofNat k.val) :: S)
  | .iinc k _ => match lget L k with
    | some (.val (.int x)) => sto nx L S k (.int (x + kk))
    | _ => none
  | .goto _ => some (tg, L, S)
  | .iadd => match S with
    | .int y :: .int x :: r => some (nx, L, .int (x + y) :: r)
    | _ => none
  | .isub => match S with
    | .int y :: .int x :: r => some (nx, L, .int (x - y) :: r)
    | _ => none
  | .imul => match S with
    | .int y :: .int x :: r => some (nx, L, .int (x * y) :: r)
    | _ => none
  | .iand => match S with
    | .int y :: .int x :: r => some (nx, L, .int (x &&& y) :: r)
    | _ => none
  | .ior => match S with
    | .int y :: .int x :: r => some (nx, L, .int (x ||| y) :: r)
    | _ => none
  | .ixor => match S with
    | .int y :: .int x :: r => some (nx, L, .int (x ^^^ y) :: r)
    | _ => none
  | .ishl => match S with
    | .int y :: .int x :: r => some (nx, L, .int (x <<< (y &&& 31)) :: r)
    | _ => none
  | .ishr => match S with
    | .int y :: .int x :: r => some (nx, L, .int (x >>> (y &&& 31)) :: r)
    | _ => none
  | .iushr => match S with
    | .int y :: .int x :: r => some (nx, L, .int (XT.ushr x y) :: r)
    | _ => none
  | .ineg => match S with
    | .int x :: r => some (nx, L, .int (-x) :: r)
    | _ => none
  | .ladd => match S with
    | .long y :: .long x :: r => some (nx, L, .long (x + y) :: r)
    | _ => none
  | .lsub => match S with
    | .long y :: .long x :: r => some (nx, L, .long (x - y) :: r)
    | _ => none
  | .lmul => match S with
    | .long y :: .long x :: r => some (nx, L, .long (x * y) :: r)
    | _ => none
  | .land => match S with
    | .long y :: .long x :: r => some (nx, L, .long (x &&& y) :: r)
    | _ => none
  | .lor => match S with
    | .long y :: .long x :: r => some (nx, L, .long (x ||| y) :: r)
    | _ => none
  | .lxor => match S with
    | .long y :: .long x :: r => some (nx, L, .long (x ^^^ y) :: r)
    | _ => none
  | .lshl => match S with
    | .int y :: .long x :: r => some (nx, L, .long (x <<< (y.toInt64 &&& 63)) :: r)
    | _ => none
  | .lshr => match S with
    | .int y :: .long x :: r => some (nx, L, .long (x >>> (y.toInt64 &&& 63)) :: r)
    | _ => none
  | .lushr => match S with
    | .int y :: .long x :: r => some (nx, L, .long (XT.ushrL x y) :: r)
    | _ => none
  | .lcmp => match S with
    | .long y :: .long x :: r => some (nx, L, .int (XT.cmpL x y) :: r)
    | _ => none
  | .i2l => match S with
    | .int x :: r => some (nx, L, .long x.toInt64 :: r)
    | _ => none
  | .l2i => match S with
    | .long x :: r => some (nx, L, .int x.toInt32 :: r)
    | _ => none
  | .i2c => match S with
    | .int x :: r => some (nx, L, .int (i2cv x) :: r)
    | _ => none
  | .i2b => match S with
    | .int x :: r => some (nx, L, .int (i2bv x) :: r)
    | _ => none
  | .dup => match S with
    | .int x :: r => some (nx, L, .int x :: .int x :: r)
    | .ref x :: r => some (nx, L, .ref x :: .ref x :: r)
    | .null :: r => some (nx, L, .null :: .null :: r)
    | _ => none
  | .pop => match S with
    | .int _ :: r => some (nx, L, r)
    | .ref _ :: r => some (nx, L, r)
    | .null :: r => some (nx, L, r)
    | _ => none
  | _ => none
theorem row_k {b : ByteArray} {pc n nx tg : Nat} {i : Instr} {k : Int32} (h : rowOk b (pc, i, n, nx, tg, k) = true) : decode b pc = .ok (i, n) ∧ nx = pc + n ∧ lenOk i n = true ∧ (match i with
    | .iconst c => Int32.ofInt c = k
    | .bipush c => (Int8.ofInt c).toInt32 = k
    | .sipush c => (Int16.ofInt c).toInt32 = k
    | .iinc _ c => Int32.ofInt c = k
    | .goto o => 0 ≤ (pc : Int) + o ∧ ((pc : Int) + o).toNat = tg
    | .ifCond _ o => 0 ≤ (pc : Int) + o ∧ ((pc : Int) + o).toNat = tg
    | .if_icmp _ o => 0 ≤ (pc : Int) + o ∧ ((pc : Int) + o).toNat = tg
    | .if_acmp _ o => 0 ≤ (pc : Int) + o ∧ ((pc : Int) + o).toNat = tg
    | .ifnull o => 0 ≤ (pc : Int) + o ∧ ((pc : Int) + o).toNat = tg
    | .ifnonnull o => 0 ≤ (pc : Int) + o ∧ ((pc : Int) + o).toNat = tg
    | _ => True) := by
  simp only [rowOk, Bool.and_eq_true, decide_eq_true_eq] at h
  refine ⟨h.1.1.1, Nat.eq_of_beq_eq_true h.1.1.2, h.1.2, ?_⟩
  have q := h.2
  cases i <;> first | trivial | (simpa [Bool.and_eq_true, decide_eq_true_eq] using q)
section Plain
variable {tb : Tables} [Ours tb] {e : Env} {below : List Frame} {T target : State} {m : MethodId} {c : Code}
theorem beq_n {n q : Nat} (h : Nat.beq n q = true) : n = q := Nat.eq_of_beq_eq_true h
theorem ldI_spec {nx k : Nat} {L : List Slot} {S : List Value} {f : Frs} (h : ldI nx L S k = some f) : ∃ x, L.toArray[k]? = some (.val (.int x)) ∧ f = (nx, L, .int x :: S) := by
  rw [lget_eq]; unfold ldI at h; split at h
  · rename_i x hx; exact ⟨x, hx, (Option.some.inj h).symm⟩
  · cases h
theorem ldJ_spec {nx k : Nat} {L : List Slot} {S : List Value} {f : Frs} (h : ldJ nx L S k = some f) : ∃ x, L.toArray[k]? = some (.val (.long x)) ∧ f = (nx, L, .long x :: S) := by
  rw [lget_eq]; unfold ldJ at h; split at h
  · rename_i x hx; exact ⟨x, hx, (Option.some.inj h).symm⟩
  · cases h
theorem ldA_spec {nx k : Nat} {L : List Slot} {S : List Value} {f : Frs} (h : ldA nx L S k = some f) : ∃ v : Value, L.toArray[k]? = some (.val v) ∧ v.isRef = true ∧ f = (nx, L, v :: S) := by
  rw [lget_eq]; unfold ldA at h; split at h
  · rename_i x hx; exact ⟨.ref x, hx, rfl, (Option.some.inj h).symm⟩
  · rename_i hx; exact ⟨.null, hx, rfl, (Option.some.inj h).symm⟩
  · cases h
theorem sto_spec {nx k : Nat} {L : List Slot} {S : List Value} {v : Value} {f : Frs} (hc : v.category = 1) (h : sto nx L S k v = some f) : ∃ L', storeLocals L.toArray k v = some L'.toArray ∧ f = (nx, L', S) := by
  unfold sto at h; split at h
  · rename_i L' hx; exact ⟨L', lput_store hx hc, (Option.some.inj h).symm⟩
  · cases h
theorem stI_spec {nx k : Nat} {L : List Slot} {S : List Value} {f : Frs} (h : stI nx L S k = some f) : ∃ x r L', S = .int x :: r ∧ storeLocals L.toArray k (.int x) = some L'.toArray ∧ f = (nx, L', r) := by
  unfold stI at h; split at h
  · obtain ⟨L', h1, h2⟩ := sto_spec rfl h; exact ⟨_, _, L', rfl, h1, h2⟩
  · cases h
theorem stA_spec {nx k : Nat} {L : List Slot} {S : List Value} {f : Frs} (h : stA nx L S k = some f) : ∃ (v : Value) (r : List Value) (L' : List Slot), S = v :: r ∧ v.isRef = true ∧ storeLocals L.toArray k v = some L'.toArray ∧ f = (nx, L', r) := by
  unfold stA at h; split at h
  · obtain ⟨L', h1, h2⟩ := sto_spec rfl h; exact ⟨_, _, L', rfl, rfl, h1, h2⟩
  · obtain ⟨L', h1, h2⟩ := sto_spec rfl h; exact ⟨_, _, L', rfl, rfl, h1, h2⟩
  · cases h
theorem lget_set_ne {L : List Slot} {k j : Nat} {v : Slot} (h : k ≠ j) : lget (L.set k v) j = lget L j := by
  rw [← lget_eq, ← lget_eq]; simp [List.getElem?_set_ne h]
theorem lputL_store {L L' : List Slot} {k : Nat} {v : Int64} (h : lputL L k v = some L') : storeLocals L.toArray k (.long v) = some L'.toArray := by
  obtain ⟨a, b, h1, h2, h3, rfl⟩ := lputL_eq L k v L' h
  have e1 : L.toArray[k]? = some a := (lget_eq L k).trans h1
  have e2 : L.toArray[k + 1]? = some b := (lget_eq L (k + 1)).trans h2
  have l1 : k < L.length := by have := (Array.getElem?_eq_some_iff.mp e1).1; simpa using this
  have l2 : k + 1 < L.length := by have := (Array.getElem?_eq_some_iff.mp e2).1; simpa using this
  have key : ∀ M : List Slot, M.length = L.length → (∃ o, M[k + 1]? = some o ∧ ¬ ∃ w, o = .val w ∧ w.category = 2) → storeSelf M.toArray k (.long v) = some ((M.set k (.val (.long v))).set (k + 1) .second).toArray := by
    intro M hM ⟨o, ho, hno⟩
    have m1 : k < M.length := by omega
    have m2 : k + 1 < M.length := by omega
    unfold storeSelf setAt
    simp only [List.size_toArray, m1, if_true, Option.bind_eq_bind, Option.bind_some, Value.category]
    have e3 : (M.set k (.val (.long v)))[k + 1]? = some o := by rw [List.getElem?_set_ne (by omega)]; exact ho
    simp only [List.setIfInBounds_toArray, List.getElem?_toArray, e3, Option.bind_some]
    cases o with
    | unset => simp [m2]
    | second => simp [m2]
    | val w =>
      by_cases q : w.category = 2
      · exact absurd ⟨w, rfl, q⟩ hno
      · unfold Value.category at q
        simp [q, m2]
  have hL : L[k]? = some a := by simpa using e1
  have hL2 : L[k + 1]? = some b := by simpa using e2
  unfold storeLocals
  simp only [List.getElem?_toArray, hL, Option.bind_eq_bind, Option.bind_some]
  rcases h3 with ⟨s1, s2⟩ | ⟨⟨w, rfl⟩, rfl⟩
  · have hb : ¬ ∃ w, b = .val w ∧ w.category = 2 := by
      rintro ⟨w, rfl, q⟩
      rcases sok_spec s2 with z | ⟨w', z, q'⟩
      · cases z
      · cases z; omega
    have := key L rfl ⟨b, hL2, hb⟩
    rcases sok_spec s1 with rfl | ⟨w', rfl, q'⟩
    · exact this
    · simp only [q']; exact this
  · simp only [Value.category, if_true, setAt, List.size_toArray, l2, Option.bind_some, List.setIfInBounds_toArray]
    have := key (L.set (k + 1) .unset) (by simp) ⟨.unset, by simp [l2], by rintro ⟨w, q, -⟩; cases q⟩
    rw [this]
    congr 2
    rw [List.set_comm _ _ (by omega : k + 1 ≠ k), List.set_set]
theorem stJ_spec {nx k : Nat} {L : List Slot} {S : List Value} {f : Frs} (h : stJ nx L S k = some f) : ∃ x r L', S = .long x :: r ∧ storeLocals L.toArray k (.long x) = some L'.toArray ∧ f = (nx, L', r) := by
  unfold stJ at h; split at h
  · unfold stoL at h; split at h
    · rename_i L' hx; exact ⟨_, _, L', rfl, lputL_store hx, (Option.some.inj h).symm⟩
    · cases h
  · cases h
end Plain
end Jvm.Own

namespace Jvm.Own
open Jvm Jvm.ClassFile Sem Op Lib Jvm.Free Jvm.Stand Jvm.LawKit Jvm.RoadKit Bundle
section Plain2
variable {tb : Tables} [Ours tb] {e : Env} {below : List Frame} {T target : State} {m : MethodId} {c : Code}
set_option maxHeartbeats 4000000 in
theorem stp_sound (h : At T m c below) (hx : tb.exec = Jvm.exec) {b : ByteArray} (hb : c.code = b) {pc n nx tg pc' : Nat} {i : Instr} {k : Int32} {L L' : List Slot} {S S' : List Value} (hr : rowOk b (pc, i, n, nx, tg, k) = true) (hs : stp i nx tg k L S = some (pc', L', S'))
    (hk : Steps tb e below (T.setTop (mkF m pc' L'.toArray S')) target) : Steps tb e below (T.setTop (mkF m pc L.toArray S)) target := by
  obtain ⟨hd, rfl, hl, hkk⟩ := row_k hr
  subst hb
  cases i <;> simp only [stp] at hs <;> try contradiction
  case aload q => obtain ⟨v, h1, h2, h3⟩ := ldA_spec hs; cases h3; cases beq_n hl; exact XS.aload (g := mkF m pc L.toArray S) h hx rfl hd h1 h2 hk
  case aload_n q => obtain ⟨v, h1, h2, h3⟩ := ldA_spec hs; cases h3; cases beq_n hl; exact XS.aloadN (g := mkF m pc L.toArray S) h hx rfl hd h1 h2 hk
  case iload q => obtain ⟨v, h1, h3⟩ := ldI_spec hs; cases h3; cases beq_n hl; exact XS.iload (g := mkF m pc L.toArray S) h hx rfl hd h1 hk
  case iload_n q => obtain ⟨v, h1, h3⟩ := ldI_spec hs; cases h3; cases beq_n hl; exact XS.iloadN (g := mkF m pc L.toArray S) h hx rfl hd h1 hk
  case lload q => obtain ⟨v, h1, h3⟩ := ldJ_spec hs; cases h3; cases beq_n hl; exact XT.lload (g := mkF m pc L.toArray S) h hx rfl hd h1 hk
  case lload_n q => obtain ⟨v, h1, h3⟩ := ldJ_spec hs; cases h3; cases beq_n hl; exact XT.lloadN (g := mkF m pc L.toArray S) h hx rfl hd h1 hk
  case istore q => obtain ⟨v, r, M, rfl, h1, h3⟩ := stI_spec hs; cases h3; cases beq_n hl; exact XS.istore (g := mkF m pc L.toArray (.int v :: S')) h hx rfl hd rfl h1 hk
  case istore_n q => obtain ⟨v, r, M, rfl, h1, h3⟩ := stI_spec hs; cases h3; cases beq_n hl; exact XS.istoreN (g := mkF m pc L.toArray (.int v :: S')) h hx rfl hd rfl h1 hk
  case astore q => obtain ⟨v, r, M, rfl, hv, h1, h3⟩ := stA_spec hs; cases h3; cases beq_n hl; exact XS.astore (g := mkF m pc L.toArray (v :: S')) h hx rfl hd rfl hv h1 hk
  case astore_n q => obtain ⟨v, r, M, rfl, hv, h1, h3⟩ := stA_spec hs; cases h3; cases beq_n hl; exact XS.astoreN (g := mkF m pc L.toArray (v :: S')) h hx rfl hd rfl hv h1 hk
  case lstore q => obtain ⟨v, r, M, rfl, h1, h3⟩ := stJ_spec hs; cases h3; cases beq_n hl; exact XT.lstore (g := mkF m pc L.toArray (.long v :: S')) h hx rfl hd rfl h1 hk
  case lstore_n q => obtain ⟨v, r, M, rfl, h1, h3⟩ := stJ_spec hs; cases h3; cases beq_n hl; exact XT.lstoreN (g := mkF m pc L.toArray (.long v :: S')) h hx rfl hd rfl h1 hk
  case iconst q => cases hs; cases beq_n hl; exact XS.iconst (g := mkF m pc L.toArray S) h hx rfl hd (by rw [show Int32.ofInt q = k from hkk]; exact hk)
  case bipush q => cases hs; cases beq_n hl; exact XS.bipush (g := mkF m pc L.toArray S) h hx rfl hd (by rw [show (Int8.ofInt q).toInt32 = k from hkk]; exact hk)
  case sipush q => cases hs; cases beq_n hl; exact XS.sipush (g := mkF m pc L.toArray S) h hx rfl hd (by rw [show (Int16.ofInt q).toInt32 = k from hkk]; exact hk)
  case aconst_null => cases hs; cases beq_n hl; exact XS.aconstNull (g := mkF m pc L.toArray S) h hx rfl hd hk
  case lconst q => cases hs; cases beq_n hl; exact XT.lconst (g := mkF m pc L.toArray S) h hx rfl hd hk
  case goto o => cases hs; cases beq_n hl; exact XS.goto (g := mkF m pc L.toArray S) h hx rfl (pc0 := pc) rfl hd hkk.1 hkk.2 hk
  case iinc q cst =>
    split at hs
    · rename_i x hxx
      obtain ⟨M, h1, h3⟩ := sto_spec rfl hs
      cases h3; cases beq_n hl
      exact XS.iinc (g := mkF m pc L.toArray S) h hx rfl hd ((lget_eq L q).trans hxx) (by rw [show Int32.ofInt cst = k from hkk]; exact h1) hk
    · cases hs
  case dup =>
    split at hs
    · cases hs; cases beq_n hl; exact XS.dup (g := mkF m pc L.toArray _) h hx rfl hd rfl rfl hk
    · cases hs; cases beq_n hl; exact XS.dup (g := mkF m pc L.toArray _) h hx rfl hd rfl rfl hk
    · cases hs; cases beq_n hl; exact XS.dup (g := mkF m pc L.toArray _) h hx rfl hd rfl rfl hk
    · cases hs
  case pop =>
    split at hs
    · cases hs; cases beq_n hl; exact XT.pop (g := mkF m pc L.toArray _) h hx rfl hd rfl rfl hk
    · cases hs; cases beq_n hl; exact XT.pop (g := mkF m pc L.toArray _) h hx rfl hd rfl rfl hk
    · cases hs; cases beq_n hl; exact XT.pop (g := mkF m pc L.toArray _) h hx rfl hd rfl rfl hk
    · cases hs
  all_goals
    split at hs
    · cases hs; cases beq_n hl
      first
      | exact XS.iadd (g := mkF m pc L.toArray _) h hx rfl hd rfl hk
      | exact XS.isub (g := mkF m pc L.toArray _) h hx rfl hd rfl hk
      | exact XS.imul (g := mkF m pc L.toArray _) h hx rfl hd rfl hk
      | exact XS.iand (g := mkF m pc L.toArray _) h hx rfl hd rfl hk
      | exact XT.ior (g := mkF m pc L.toArray _) h hx rfl hd rfl hk
      | exact XT.ixor (g := mkF m pc L.toArray _) h hx rfl hd rfl hk
      | exact XT.ishl (g := mkF m pc L.toArray _) h hx rfl hd rfl hk
      | exact XT.ishr (g := mkF m pc L.toArray _) h hx rfl hd rfl hk
      | exact XT.iushr (g := mkF m pc L.toArray _) h hx rfl hd rfl hk
      | exact XS.ineg (g := mkF m pc L.toArray _) h hx rfl hd rfl hk
      | exact XT.ladd (g := mkF m pc L.toArray _) h hx rfl hd rfl hk
      | exact XT.lsub (g := mkF m pc L.toArray _) h hx rfl hd rfl hk
      | exact XT.lmul (g := mkF m pc L.toArray _) h hx rfl hd rfl hk
      | exact XT.land (g := mkF m pc L.toArray _) h hx rfl hd rfl hk
      | exact XT.lor (g := mkF m pc L.toArray _) h hx rfl hd rfl hk
      | exact XT.lxor (g := mkF m pc L.toArray _) h hx rfl hd rfl hk
      | exact XT.lshl (g := mkF m pc L.toArray _) h hx rfl hd rfl hk
      | exact XT.lshr (g := mkF m pc L.toArray _) h hx rfl hd rfl hk
      | exact XT.lushr (g := mkF m pc L.toArray _) h hx rfl hd rfl hk
      | exact XT.lcmp (g := mkF m pc L.toArray _) h hx rfl hd rfl hk
      | exact XT.i2l (g := mkF m pc L.toArray _) h hx rfl hd rfl hk
      | exact XT.l2i (g := mkF m pc L.toArray _) h hx rfl hd rfl hk
      | exact XT.i2c (g := mkF m pc L.toArray _) h hx rfl hd rfl hk
      | exact XT.i2b (g := mkF m pc L.toArray _) h hx rfl hd rfl hk
    · cases hs
end Plain2
/-- plain rows as long as they last -/
def run (ins : List Ent) : Nat → Nat → List Slot → List Value → Frs
  | 0, pc, L, S => (pc, L, S)
  | f + 1, pc, L, S => match lk ins pc with
    | some (i, n, nx, tg, k) => match stp i nx tg k L S with
      | some (pc', L', S') => run ins f pc' L' S'
      | none => (pc, L, S)
    | none => (pc, L, S)
theorem run_sound {tb : Tables} [Ours tb] {e : Env} {below : List Frame} {T target : State} {m : MethodId} {c : Code} (h : At T m c below) (hx : tb.exec = Jvm.exec) {b : ByteArray} (hb : c.code = b) {ins : List Ent} (D : Dec b ins) :
    ∀ (f pc : Nat) (L : List Slot) (S : List Value), Steps tb e below (T.setTop (mkF m (run ins f pc L S).1 (run ins f pc L S).2.1.toArray (run ins f pc L S).2.2)) target → Steps tb e below (T.setTop (mkF m pc L.toArray S)) target
  | 0, _, _, _, hk => hk
  | f + 1, pc, L, S, hk => by
    unfold run at hk
    cases h1 : lk ins pc with
    | none => rw [h1] at hk; exact hk
    | some r =>
      obtain ⟨i, n, nx, tg, k⟩ := r
      rw [h1] at hk
      dsimp only at hk
      cases h2 : stp i nx tg k L S with
      | none => rw [h2] at hk; exact hk
      | some q =>
        obtain ⟨pc', L', S'⟩ := q
        rw [h2] at hk
        exact stp_sound h hx hb (D.row h1) h2 (run_sound h hx hb D f pc' L' S' hk)
end Jvm.Own

namespace Jvm.Own
open Jvm Jvm.ClassFile Sem Op Lib Jvm.Free Jvm.Stand Jvm.LawKit Jvm.RoadKit Bundle
/-! ### B. where a walk stands, and what it must come to -/
abbrev Fin' : Type := Outcome → State → Prop
def Go (p : Program) (e : Env) (below : List Frame) (m : MethodId) (T : State) (pc : Nat) (L : List Slot) (S : List Value) (F : Fin') : Prop :=
  ∃ s₂ o, Steps p.tables e below (T.setTop (mkF m pc L.toArray S)) s₂ ∧ s₂.status = .running ∧ Ended s₂ below o ∧ F o s₂
theorem Go.st {p : Program} {e : Env} {below : List Frame} {m : MethodId} {T T' : State} {pc pc' : Nat} {L L' : List Slot} {S S' : List Value} {F : Fin'}
    (st : ∀ target, Steps p.tables e below (T'.setTop (mkF m pc' L'.toArray S')) target → Steps p.tables e below (T.setTop (mkF m pc L.toArray S)) target) (k : Go p e below m T' pc' L' S' F) : Go p e below m T pc L S F := by
  obtain ⟨s₂, o, h1, h2⟩ := k; exact ⟨s₂, o, st _ h1, h2⟩
/-- what is known of the tables: md = none: nothing is interned; md = some EL: Strings may be, the constants of EL are held -/
def Tb (md : Option (List (String × Nat))) (Z : State) (a0 : Array Value) (s : State) (h0 : Heap) (vm0 : Vm) (h : Heap) : Prop := match md with
  | none => vm0 = s.vm
  | some EL => s.Since vm0 h.size ∧ EW Z a0 EL ∧ CHr Z EL s.vm h0 vm0 h
def SafeM (md : Option (List (String × Nat))) (Z : State) (vm : Vm) (h : Heap) (x : Addr) : Prop := match md with
  | none => True
  | some EL => Safe Z EL vm h x
def W (md : Option (List (String × Nat))) (Z : State) (a0 : Array Value) (own : String) (bytes : ByteArray) (ins : List Ent) (maxL : Nat) (ret : Option FieldType) (nm : String) (h0 : Heap) (ws : List Addr)
    (p : Program) (l : Launch) (e : Env) (R : Room) (s : State) (m : MethodId) (args : Array Value) (below : List Frame) (meth : Method) (c : Code) (vm0 : Vm) (T : State) (h : Heap) (locs : List Loc) (cells slots : Nat) : Prop :=
  (p.tables.exec = Jvm.exec ∧ c.code = bytes ∧ Dec bytes ins ∧ c.maxLocals = maxL ∧ meth.sig.returnType = ret ∧ meth.name = nm ∧ meth.locks = false) ∧
  Stand p l e R (s.setVm vm0) m args below meth c T locs cells slots ∧ T.heap = h ∧ Z.Warmed39 vm0 ∧ vm0.findClass own = some m.cls ∧
  Ext Z.heap h ∧ Keep h0 h ws ∧ (∀ y ∈ locs, y.base ∈ ws ∨ h0.size ≤ y.base) ∧ (∀ x ∈ ws, Z.heap.size ≤ x) ∧ Z.heap.size ≤ h0.size ∧ s.heap = h0 ∧ Tb md Z a0 s h0 vm0 h
/-- an array with all its values -/
def Arq (Z : State) (h : Heap) (b : Addr) (ty : FieldType) (vs : List Value) : Prop := ∃ c : Cell, Arr Z h b c ty ∧ c.slots.toList = vs ∧ vs.length < 2147483648 ∧ ∀ v ∈ vs, fits ty v = true
section Walk
variable {md : Option (List (String × Nat))} {Z : State} {a0 : Array Value} {own : String} {bytes : ByteArray} {ins : List Ent} {maxL : Nat} {ret : Option FieldType} {nm : String} {h0 : Heap} {ws : List Addr}
  {p : Program} {l : Launch} {e : Env} {R : Room} {s : State} {m : MethodId} {args : Array Value} {below : List Frame} {meth : Method} {c : Code} {vm0 : Vm} {T : State} {h : Heap} {locs : List Loc} {cells slots : Nat}
  {F : Fin'} {pc n nx tg : Nat} {kk : Int32} {L L' : List Slot} {S S' : List Value}
theorem ext_refl (h : Heap) : Ext h h := ⟨Nat.le_refl _, fun _ _ q => q⟩
theorem ext_trans {h1 h2 h3 : Heap} (A : Ext h1 h2) (B : Ext h2 h3) : Ext h1 h3 := ⟨Nat.le_trans A.1 B.1, fun x c q => B.2 x c (A.2 x c q)⟩
theorem ext_of_keep {h1 h2 : Heap} (K : Keep h1 h2 []) : Ext h1 h2 := ⟨K.1, fun x c q => K.2.1 x c q nin0⟩
theorem keep_of_ext {h1 h2 : Heap} (E : Ext h1 h2) (ws : List Addr) : Keep h1 h2 ws := (Keep.refl h1 ws).ext E
theorem ext_keep {h1 h2 h3 : Heap} {ws' : List Addr} (A : Ext h1 h2) (K : Keep h2 h3 ws') (q : ∀ x ∈ ws', h1.size ≤ x) : Ext h1 h3 :=
  ⟨Nat.le_trans A.1 K.1, fun x c r => K.2.1 x c (A.2 x c r) fun z => absurd (Array.getElem?_eq_some_iff.mp r).1 (Nat.not_lt.mpr (q x z))⟩
/-- plain rows -/
theorem g_run (P : W md Z a0 own bytes ins maxL ret nm h0 ws p l e R s m args below meth c vm0 T h locs cells slots) (f : Nat) {pc' : Nat} (hr : run ins f pc L S = (pc', L', S')) (k : Go p e below m T pc' L' S' F) : Go p e below m T pc L S F := by
  obtain ⟨⟨hx, hb, D, -⟩, X, -⟩ := P
  refine Go.st (fun target hk => run_sound X.here hx hb D f pc L S ?_) k
  rw [hr]; exact hk
theorem W.le (P : W md Z a0 own bytes ins maxL ret nm h0 ws p l e R s m args below meth c vm0 T h locs cells slots) : h0.size ≤ h.size := P.2.2.2.2.2.2.1.1
theorem W.hE (P : W md Z a0 own bytes ins maxL ret nm h0 ws p l e R s m args below meth c vm0 T h locs cells slots) : Ext Z.heap h := P.2.2.2.2.2.1
theorem W.hZ (P : W md Z a0 own bytes ins maxL ret nm h0 ws p l e R s m args below meth c vm0 T h locs cells slots) : Z.Warmed39 vm0 := P.2.2.2.1
/-- the heap goes on at its end -/
theorem W.grow (P : W md Z a0 own bytes ins maxL ret nm h0 ws p l e R s m args below meth c vm0 T h locs cells slots) {T' : State} {h' : Heap} {cells' slots' : Nat} (X' : Stand p l e R (s.setVm vm0) m args below meth c T' locs cells' slots') (e' : T'.heap = h') (E : Ext h h') :
    W md Z a0 own bytes ins maxL ret nm h0 ws p l e R s m args below meth c vm0 T' h' locs cells' slots' := by
  obtain ⟨C, X, eT, hZ, hown, hE, hK, hN, hws, h0s, hh0, hT⟩ := P
  refine ⟨C, X', e', hZ, hown, ext_trans hE E, hK.ext E, hN, hws, h0s, hh0, ?_⟩
  cases md with
  | none => exact hT
  | some EL => exact ⟨⟨hT.1.1, hT.1.2.mono E.1⟩, hT.2.1, hT.2.2.trans (CHr.ext E hT.2.2.1)⟩
theorem W.same (P : W md Z a0 own bytes ins maxL ret nm h0 ws p l e R s m args below meth c vm0 T h locs cells slots) {T' : State} (X' : Stand p l e R (s.setVm vm0) m args below meth c T' locs cells slots) (e' : T'.heap = h) :
    W md Z a0 own bytes ins maxL ret nm h0 ws p l e R s m args below meth c vm0 T' h locs cells slots := P.grow X' e' (ext_refl h)
theorem W.fresh (P : W md Z a0 own bytes ins maxL ret nm h0 ws p l e R s m args below meth c vm0 T h locs cells slots) {a : Addr} (q : a ∈ ws ∨ h0.size ≤ a) : Z.heap.size ≤ a := by
  obtain ⟨C, X, eT, hZ, hown, hE, hK, hN, hws, h0s, hh0, hT⟩ := P
  exact q.elim (hws a) (Nat.le_trans h0s)
/-- cells of ws' were written, the heap may have grown -/
theorem W.wrote (P : W md Z a0 own bytes ins maxL ret nm h0 ws p l e R s m args below meth c vm0 T h locs cells slots) {T' : State} {h' : Heap} {Lc : List Loc} {cells' slots' : Nat} {ws' : List Addr} (X' : Stand p l e R (s.setVm vm0) m args below meth c T' (locs ++ Lc) cells' slots') (e' : T'.heap = h')
    (K : Keep h h' ws') (hL : ∀ y ∈ Lc, y.base ∈ ws' ∨ h.size ≤ y.base) (hq : ∀ x ∈ ws', x ∈ ws ∨ h0.size ≤ x) (hsf : ∀ x ∈ ws', SafeM md Z vm0 h x) :
    W md Z a0 own bytes ins maxL ret nm h0 ws p l e R s m args below meth c vm0 T' h' (locs ++ Lc) cells' slots' := by
  have hfr := fun x (hx : x ∈ ws') => P.fresh (hq x hx)
  obtain ⟨C, X, eT, hZ, hown, hE, hK, hN, hws, h0s, hh0, hT⟩ := P
  refine ⟨C, X', e', hZ, hown, ext_keep hE K hfr, hK.trans K hq, fun y hy => ?_, hws, h0s, hh0, ?_⟩
  · rcases List.mem_append.mp hy with q | q
    · exact hN y q
    · rcases hL y q with r | r
      · exact hq _ r
      · exact Or.inr (Nat.le_trans hK.1 r)
  · cases md with
    | none => exact hT
    | some EL => exact ⟨⟨hT.1.1, hT.1.2.mono K.1⟩, hT.2.1, hT.2.2.trans (CHr.keep K hsf hT.2.2.1)⟩
/-- getfield -/
theorem g_getf (P : W md Z a0 own bytes ins maxL ret nm h0 ws p l e R s m args below meth c vm0 T h locs cells slots) {O fn d : String} {index : Nat} {a : Addr} {v : Value} (w : (Cond.fieldLink own index O fn d).before a0 Z = true) (Fl : Fld Z h a O fn d v)
    (k : ∀ T', W md Z a0 own bytes ins maxL ret nm h0 ws p l e R s m args below meth c vm0 T' h locs cells slots → Go p e below m T' nx L (v :: S) F) (hd : lk ins pc = some (.getfield index, 3, nx, tg, kk) := by rfl) : Go p e below m T pc L (.ref a :: S) F := by
  have P0 := P
  obtain ⟨⟨hx, hb, D, -⟩, X, eT, hZ, hown, -⟩ := P
  obtain ⟨hdec, rfl⟩ := D.at hd
  obtain ⟨T', X', e', st⟩ := getF X hx hZ hown (host := "") (Or.inl w) Via.refl eT Fl (g := mkF m pc L.toArray (.ref a :: S)) rfl rfl (by rw [hb]; exact hdec)
  exact Go.st st (k T' (P0.same X' e'))
/-- getstatic: of a static that stood at the start -/
theorem g_gets (P : W md Z a0 own bytes ins maxL ret nm h0 ws p l e R s m args below meth c vm0 T h locs cells slots) {O fn d : String} {index : Nat} {v : Value} (w : (Cond.fieldLink own index O fn d).before a0 Z = true) (Fl : Sta Z Z.heap O fn d v)
    (k : ∀ T', W md Z a0 own bytes ins maxL ret nm h0 ws p l e R s m args below meth c vm0 T' h locs cells slots → Go p e below m T' nx L (v :: S) F) (hd : lk ins pc = some (.getstatic index, 3, nx, tg, kk) := by rfl) : Go p e below m T pc L S F := by
  have P0 := P
  obtain ⟨⟨hx, hb, D, -⟩, X, eT, hZ, hown, hE, -⟩ := P
  obtain ⟨hdec, rfl⟩ := D.at hd
  obtain ⟨T', X', e', st⟩ := getS X hx hZ hown (host := "") w Via.refl eT (Fl.ext hE) (g := mkF m pc L.toArray S) rfl (by rw [hb]; exact hdec)
  exact Go.st st (k T' (P0.same X' e'))
/-- putfield -/
theorem g_putf (P : W md Z a0 own bytes ins maxL ret nm h0 ws p l e R s m args below meth c vm0 T h locs cells slots) {O fn d C : String} {index ki : Nat} {a : Addr} {v old : Value} (ty : FieldType) (w : (Cond.fieldLink own index O fn d).before a0 Z = true) (Fl : Fld Z h a O fn d old) (E : Exa Z h a C)
    (Lw : (Cond.lays C O fn d).before a0 Z = true ∨ ((Cond.laysFinal C O fn d).before a0 Z = true ∧ own = O ∧ nm = "<init>")) (wi : (Cond.instantiable C ki).before a0 Z = true) (hq : a ∈ ws ∨ h0.size ≤ a) (hsf : SafeM md Z vm0 h a)
    (k : ∀ T' h', W md Z a0 own bytes ins maxL ret nm h0 ws p l e R s m args below meth c vm0 T' h' (locs ++ [⟨a, RoadKit.slotOf Z O fn d⟩]) cells slots → Wr h h' a (RoadKit.slotOf Z O fn d) v → Go p e below m T' nx L S F) (hd : lk ins pc = some (.putfield index, 3, nx, tg, kk) := by rfl) (hty : parseFieldDescriptor d = some ty := by decide) (hn : narrow ty v = v := by rfl) (hf : fits ty v = true := by rfl) : Go p e below m T pc L (v :: .ref a :: S) F := by
  have P0 := P
  obtain ⟨⟨hx, hb, D, -, -, hnm, -⟩, X, eT, hZ, hown, -⟩ := P
  obtain ⟨hdec, rfl⟩ := D.at hd
  obtain ⟨T', h', X', e', Wd, st⟩ := putF X hx hZ hown (host := "") (Or.inl w) Via.refl eT Fl E (Lw.imp id fun q => ⟨q.1, q.2.1, hnm.trans q.2.2⟩) wi hty hn hf (g := mkF m pc L.toArray (v :: .ref a :: S)) rfl rfl (by rw [hb]; exact hdec)
  exact Go.st st (k T' h' (P0.wrote X' e' (Keep.of_wr Wd) (fun y hy => by cases List.mem_singleton.mp hy; exact Or.inl (List.mem_singleton.mpr rfl)) (fun x hx => by cases List.mem_singleton.mp hx; exact hq) (fun x hx => by cases List.mem_singleton.mp hx; exact hsf)) Wd)
/-- new -/
theorem g_new (P : W md Z a0 own bytes ins maxL ret nm h0 ws p l e R s m args below meth c vm0 T h locs cells slots) {C : String} {index nf : Nat} (w : (Cond.classLink own index C).before a0 Z = true) (wi : (Cond.instantiable C nf).before a0 Z = true) (wz : (Cond.initialized C).before a0 Z = true)
    (k : ∀ T' h' a, h.size = a → h0.size ≤ a → W md Z a0 own bytes ins maxL ret nm h0 ws p l e R s m args below meth c vm0 T' h' locs (cells + 1) (slots + nf) → Ext h h' → Exa Z h' a C → (∀ {O fn d : String} {ty : FieldType}, Laid Z a0 C O fn d → parseFieldDescriptor d = some ty → Fld Z h' a O fn d (defaultValue ty)) → Go p e below m T' nx L (.ref a :: S) F)
    (hd : lk ins pc = some (.new index, 3, nx, tg, kk) := by rfl) (hc : Nat.ble (cells + 1) R.cells = true := by rfl) (hl : Nat.ble (slots + nf) R.slots = true := by rfl) : Go p e below m T pc L S F := by
  have P0 := P
  obtain ⟨⟨hx, hb, D, -⟩, X, eT, hZ, hown, -⟩ := P
  obtain ⟨hdec, rfl⟩ := D.at hd
  obtain ⟨T', h', X', e', E, A, Df, -, st⟩ := newO X hx hZ hown w wi wz eT (g := mkF m pc L.toArray S) rfl (by rw [hb]; exact hdec) (Nat.le_of_ble_eq_true hc) (Nat.le_of_ble_eq_true hl)
  exact Go.st st (k T' h' h.size rfl P0.le (P0.grow X' e' E) E A Df)
theorem arq_new {h' : Heap} {b : Addr} {cA : ClassId} {ty : FieldType} {n : Int32} (A : Arr Z h' b (newA cA ty n) ty) : Arq Z h' b ty (List.replicate n.toNatClampNeg (defaultValue ty)) := by
  refine ⟨_, A, by simp [newA], ?_, fun v hv => ?_⟩
  · rw [List.length_replicate]
    have := n.toInt_lt
    simp only [Int32.toNatClampNeg]; omega
  · rw [List.mem_replicate] at hv; rw [hv.2]; cases ty <;> rfl
/-- newarray of a primitive type -/
theorem g_newarr (P : W md Z a0 own bytes ins maxL ret nm h0 ws p l e R s m args below meth c vm0 T h locs cells slots) {aty : ArrayType} {n : Int32} (w : (Cond.arrayClass (newarray.typeOf aty)).before a0 Z = true) (cap : Nat) (hn : ¬ n < 0) (hcap : n.toNatClampNeg ≤ cap)
    (k : ∀ T' h' a, h.size = a → h0.size ≤ a → W md Z a0 own bytes ins maxL ret nm h0 ws p l e R s m args below meth c vm0 T' h' locs (cells + 1) (slots + cap) → Ext h h' → Arq Z h' a (newarray.typeOf aty) (List.replicate n.toNatClampNeg (defaultValue (newarray.typeOf aty))) → Go p e below m T' nx L (.ref a :: S) F)
    (hd : lk ins pc = some (.newarray aty, 2, nx, tg, kk) := by rfl) (hc : Nat.ble (cells + 1) R.cells = true := by rfl) (hl : Nat.ble (slots + cap) R.slots = true := by rfl) (hcb : Nat.ble (cap * 8) 536870912 = true := by rfl) : Go p e below m T pc L (.int n :: S) F := by
  have P0 := P
  obtain ⟨⟨hx, hb, D, -⟩, X, eT, hZ, hown, -⟩ := P
  obtain ⟨hdec, rfl⟩ := D.at hd
  obtain ⟨T', h', cA, X', e', E, A, st⟩ := newP X hx hZ w eT (g := mkF m pc L.toArray (.int n :: S)) rfl (by rw [hb]; exact hdec) rfl hn hcap (Nat.le_of_ble_eq_true hcb) (Nat.le_of_ble_eq_true hc) (Nat.le_of_ble_eq_true hl)
  exact Go.st st (k T' h' h.size rfl P0.le (P0.grow X' e' E) E (arq_new A))
theorem Arq.lt {b : Addr} {ty : FieldType} {vs : List Value} (A : Arq Z h b ty vs) : b < h.size := by obtain ⟨c, A, -⟩ := A; exact A.lt
theorem Arq.ext {h' : Heap} {b : Addr} {ty : FieldType} {vs : List Value} (A : Arq Z h b ty vs) (E : Ext h h') : Arq Z h' b ty vs := by obtain ⟨c, A, r⟩ := A; exact ⟨c, A.ext E, r⟩
theorem Arq.keep {h' : Heap} {b : Addr} {ty : FieldType} {vs : List Value} {ws' : List Addr} (A : Arq Z h b ty vs) (K : Keep h h' ws') (q : b ∉ ws') : Arq Z h' b ty vs := by
  obtain ⟨c, A, r⟩ := A; exact ⟨c, ⟨K.2.1 b c A.1 q, A.2⟩, r⟩
theorem Arq.cast {b : Addr} {ty : FieldType} {vs vs' : List Value} (A : Arq Z h b ty vs) (q : vs = vs') : Arq Z h b ty vs' := q ▸ A
theorem Arq.of_arv {b : Addr} {ty : FieldType} {vs : List Value} {k : ClassId} {z : Int32} {dv : Value} (A : Arv Z h b k ty z vs dv) (q : z.toNatClampNeg = vs.length) : Arq Z h b ty vs := by
  obtain ⟨c, A, -, S, -, H, G⟩ := A
  have hl : c.slots.size = vs.length := S.trans q
  refine ⟨c, A, ?_, ?_, fun v hv => ?_⟩
  · apply List.ext_getElem?
    intro i
    by_cases hi : i < c.slots.size
    · have := H i hi
      rw [Array.getElem?_toList, this, List.getD_eq_getElem?_getD, List.getElem?_eq_getElem (by omega)]; rfl
    · rw [List.getElem?_eq_none (by simpa using Nat.le_of_not_lt hi), List.getElem?_eq_none (by omega)]
  · rw [← q]; have := z.toInt_lt; simp only [Int32.toNatClampNeg]; omega
  · obtain ⟨i, hi, rfl⟩ := List.mem_iff_getElem.mp hv
    have := G i (by omega)
    rwa [List.getD_eq_getElem?_getD, List.getElem?_eq_getElem hi] at this
theorem Arq.size {vs : List Value} {cl : Cell} (q : cl.slots.toList = vs) : cl.slots.size = vs.length := by rw [← q]; simp
/-- the index j is the place i -/
def Ix (j : Int32) (i : Nat) : Prop := j.toInt = (i : Int)
theorem Ix.in_ {j : Int32} {i : Nat} (q : Ix j i) {cl : Cell} (hi : i < cl.slots.size) : ¬ (j < 0 ∨ cl.slots.size ≤ j.toNatClampNeg) := by
  have e0 : (0 : Int32).toInt = 0 := rfl
  simp only [Ix] at q
  rw [Int32.lt_iff_toInt_lt, e0]
  simp only [Int32.toNatClampNeg]; omega
theorem Ix.nat {j : Int32} {i : Nat} (q : Ix j i) : j.toNatClampNeg = i := by simp only [Ix] at q; simp only [Int32.toNatClampNeg]; omega
/-- arraylength -/
theorem g_alen (P : W md Z a0 own bytes ins maxL ret nm h0 ws p l e R s m args below meth c vm0 T h locs cells slots) {b : Addr} {ty : FieldType} {vs : List Value} (A : Arq Z h b ty vs)
    (k : Go p e below m T nx L (.int (Int32.ofNat vs.length) :: S) F) (hd : lk ins pc = some (.arraylength, 1, nx, tg, kk) := by rfl) : Go p e below m T pc L (.ref b :: S) F := by
  obtain ⟨⟨hx, hb, D, -⟩, X, eT, hZ, hown, -⟩ := P
  obtain ⟨hdec, rfl⟩ := D.at hd
  obtain ⟨cl, Ar, q, -⟩ := A
  refine Go.st (fun target hk => X.arraylength hx (by rw [eT]; exact Ar.1) (State.isArrayOf_alike hZ.alike Ar.2.1) (g := mkF m pc L.toArray (.ref b :: S)) rfl rfl (by rw [hb]; exact hdec) target ?_) k
  rw [Arq.size q]; exact hk
theorem Arq.get {cl : Cell} {vs : List Value} (q : cl.slots.toList = vs) {i : Nat} {v : Value} (hv : vs[i]? = some v) : cl.slots[i]? = some v := by rw [← Array.getElem?_toList, q]; exact hv
theorem get_lt {vs : List Value} {i : Nat} {v : Value} (hv : vs[i]? = some v) : i < vs.length := (List.getElem?_eq_some_iff.mp hv).1
section Loads
variable {b : Addr} {vs : List Value} {j : Int32} {i : Nat} {v : Value}
theorem g_caload (P : W md Z a0 own bytes ins maxL ret nm h0 ws p l e R s m args below meth c vm0 T h locs cells slots) (A : Arq Z h b .char vs) (hj : Ix j i) (hv : vs[i]? = some v)
    (k : Go p e below m T nx L (v :: S) F) (hd : lk ins pc = some (.caload, 1, nx, tg, kk) := by rfl) : Go p e below m T pc L (.int j :: .ref b :: S) F := by
  obtain ⟨⟨hx, hb, D, -⟩, X, eT, hZ, hown, -⟩ := P
  obtain ⟨hdec, rfl⟩ := D.at hd
  obtain ⟨cl, Ar, q, -⟩ := A
  exact Go.st (fun target hk => X.caload hx (by rw [eT]; exact Ar.1) (State.isArrayOf_alike hZ.alike Ar.2.1) Ar.2.2 (hj.in_ (by rw [Arq.size q]; exact get_lt hv)) (by rw [hj.nat]; exact Arq.get q hv) (g := mkF m pc L.toArray (.int j :: .ref b :: S)) rfl rfl (by rw [hb]; exact hdec) target hk) k
theorem g_baload (P : W md Z a0 own bytes ins maxL ret nm h0 ws p l e R s m args below meth c vm0 T h locs cells slots) (A : Arq Z h b .byte vs) (hj : Ix j i) (hv : vs[i]? = some v)
    (k : Go p e below m T nx L (v :: S) F) (hd : lk ins pc = some (.baload, 1, nx, tg, kk) := by rfl) : Go p e below m T pc L (.int j :: .ref b :: S) F := by
  obtain ⟨⟨hx, hb, D, -⟩, X, eT, hZ, hown, -⟩ := P
  obtain ⟨hdec, rfl⟩ := D.at hd
  obtain ⟨cl, Ar, q, -⟩ := A
  exact Go.st (fun target hk => X.baloadBytes hx (by rw [eT]; exact Ar.1) (State.isArrayOf_alike hZ.alike Ar.2.1) Ar.2.2 (hj.in_ (by rw [Arq.size q]; exact get_lt hv)) (by rw [hj.nat]; exact Arq.get q hv) (g := mkF m pc L.toArray (.int j :: .ref b :: S)) rfl rfl (by rw [hb]; exact hdec) target hk) k
theorem g_iaload (P : W md Z a0 own bytes ins maxL ret nm h0 ws p l e R s m args below meth c vm0 T h locs cells slots) (A : Arq Z h b .int vs) (hj : Ix j i) (hv : vs[i]? = some v)
    (k : Go p e below m T nx L (v :: S) F) (hd : lk ins pc = some (.iaload, 1, nx, tg, kk) := by rfl) : Go p e below m T pc L (.int j :: .ref b :: S) F := by
  obtain ⟨⟨hx, hb, D, -⟩, X, eT, hZ, hown, -⟩ := P
  obtain ⟨hdec, rfl⟩ := D.at hd
  obtain ⟨cl, Ar, q, -⟩ := A
  exact Go.st (fun target hk => X.iaload hx (by rw [eT]; exact Ar.1) (State.isArrayOf_alike hZ.alike Ar.2.1) Ar.2.2 (hj.in_ (by rw [Arq.size q]; exact get_lt hv)) (by rw [hj.nat]; exact Arq.get q hv) (g := mkF m pc L.toArray (.int j :: .ref b :: S)) rfl rfl (by rw [hb]; exact hdec) target hk) k
theorem g_laload (P : W md Z a0 own bytes ins maxL ret nm h0 ws p l e R s m args below meth c vm0 T h locs cells slots) (A : Arq Z h b .long vs) (hj : Ix j i) (hv : vs[i]? = some v)
    (k : Go p e below m T nx L (v :: S) F) (hd : lk ins pc = some (.laload, 1, nx, tg, kk) := by rfl) : Go p e below m T pc L (.int j :: .ref b :: S) F := by
  obtain ⟨⟨hx, hb, D, -⟩, X, eT, hZ, hown, -⟩ := P
  obtain ⟨hdec, rfl⟩ := D.at hd
  obtain ⟨cl, Ar, q, -⟩ := A
  exact Go.st (fun target hk => X.laload hx (by rw [eT]; exact Ar.1) (State.isArrayOf_alike hZ.alike Ar.2.1) Ar.2.2 (hj.in_ (by rw [Arq.size q]; exact get_lt hv)) (by rw [hj.nat]; exact Arq.get q hv) (g := mkF m pc L.toArray (.int j :: .ref b :: S)) rfl rfl (by rw [hb]; exact hdec) target hk) k
theorem g_aaload (P : W md Z a0 own bytes ins maxL ret nm h0 ws p l e R s m args below meth c vm0 T h locs cells slots) {ty : FieldType} (A : Arq Z h b ty vs) (hty : ty.isReference = true) (hj : Ix j i) (hv : vs[i]? = some v)
    (k : Go p e below m T nx L (v :: S) F) (hd : lk ins pc = some (.aaload, 1, nx, tg, kk) := by rfl) : Go p e below m T pc L (.int j :: .ref b :: S) F := by
  obtain ⟨⟨hx, hb, D, -⟩, X, eT, hZ, hown, -⟩ := P
  obtain ⟨hdec, rfl⟩ := D.at hd
  obtain ⟨cl, Ar, q, -⟩ := A
  exact Go.st (fun target hk => X.aaload hx (by rw [eT]; exact Ar.1) (State.isArrayOf_alike hZ.alike Ar.2.1) hty Ar.2.2 (hj.in_ (by rw [Arq.size q]; exact get_lt hv)) (by rw [hj.nat]; exact Arq.get q hv) (g := mkF m pc L.toArray (.int j :: .ref b :: S)) rfl rfl (by rw [hb]; exact hdec) target hk) k
theorem arq_set {h' : Heap} {ty : FieldType} {cl : Cell} {u : Value} (Ar : Arr Z h b cl ty) (q : cl.slots.toList = vs) (hl : vs.length < 2147483648) (hf : ∀ v ∈ vs, fits ty v = true) (hu : fits ty u = true) (Wd : Wr h h' b i u) : Arq Z h' b ty (vs.set i u) := by
  refine ⟨_, Ar.same Wd, by simp [Cell.setSlot, q], by simpa using hl, fun v hv => ?_⟩
  rcases List.mem_or_eq_of_mem_set hv with r | r
  · exact hf v r
  · rw [r]; exact hu
/-- a store: what stands under K besides is kept from the base heap hb on -/
theorem g_castore (P : W md Z a0 own bytes ins maxL ret nm h0 ws p l e R s m args below meth c vm0 T h locs cells slots) {hb : Heap} {x : Int32} (A : Arq Z h b .char vs) (K : Keep hb h [b]) (hj : Ix j i) (hi : i < vs.length) (hx' : nar .char x = x) (hq : b ∈ ws ∨ h0.size ≤ b)
    (k : ∀ T' h' locs', W md Z a0 own bytes ins maxL ret nm h0 ws p l e R s m args below meth c vm0 T' h' locs' cells slots → Arq Z h' b .char (vs.set i (.int x)) → Keep hb h' [b] → Go p e below m T' nx L S F) (hd : lk ins pc = some (.castore, 1, nx, tg, kk) := by rfl) : Go p e below m T pc L (.int x :: .int j :: .ref b :: S) F := by
  have P0 := P
  obtain ⟨⟨hx, hbb, D, -⟩, X, eT, hZ, hown, -⟩ := P
  obtain ⟨hdec, rfl⟩ := D.at hd
  obtain ⟨cl, Ar, q, hl, hf⟩ := A
  obtain ⟨T', h', X', e', Wd, st⟩ := stC X hx hZ eT Ar (hj.in_ (by rw [Arq.size q]; exact hi)) (g := mkF m pc L.toArray (.int x :: .int j :: .ref b :: S)) rfl rfl (by rw [hbb]; exact hdec)
  rw [hj.nat, hx'] at Wd
  refine Go.st st (k T' h' _ (P0.wrote X' e' (Keep.of_wr Wd) (fun y hy => by cases List.mem_singleton.mp hy; exact Or.inl (List.mem_singleton.mpr rfl)) (fun x hx => by cases List.mem_singleton.mp hx; exact hq) (fun x hx => ?_)) (arq_set Ar q hl hf (by have := fits_nar_char x; rwa [hx'] at this) Wd) (K.wr Wd (Or.inl (List.mem_singleton.mpr rfl))))
  cases List.mem_singleton.mp hx
  cases md with
  | none => trivial
  | some EL => exact Safe.arr hZ.alike Ar (by simp)
theorem g_iastore (P : W md Z a0 own bytes ins maxL ret nm h0 ws p l e R s m args below meth c vm0 T h locs cells slots) {hb : Heap} {x : Int32} (A : Arq Z h b .int vs) (K : Keep hb h [b]) (hj : Ix j i) (hi : i < vs.length) (hq : b ∈ ws ∨ h0.size ≤ b)
    (k : ∀ T' h' locs', W md Z a0 own bytes ins maxL ret nm h0 ws p l e R s m args below meth c vm0 T' h' locs' cells slots → Arq Z h' b .int (vs.set i (.int x)) → Keep hb h' [b] → Go p e below m T' nx L S F) (hd : lk ins pc = some (.iastore, 1, nx, tg, kk) := by rfl) : Go p e below m T pc L (.int x :: .int j :: .ref b :: S) F := by
  have P0 := P
  obtain ⟨⟨hx, hbb, D, -⟩, X, eT, hZ, hown, -⟩ := P
  obtain ⟨hdec, rfl⟩ := D.at hd
  obtain ⟨cl, Ar, q, hl, hf⟩ := A
  obtain ⟨T', h', X', e', Wd, st⟩ := RoadKit.stI X hx hZ eT Ar (hj.in_ (by rw [Arq.size q]; exact hi)) (g := mkF m pc L.toArray (.int x :: .int j :: .ref b :: S)) rfl rfl (by rw [hbb]; exact hdec)
  rw [hj.nat] at Wd
  refine Go.st st (k T' h' _ (P0.wrote X' e' (Keep.of_wr Wd) (fun y hy => by cases List.mem_singleton.mp hy; exact Or.inl (List.mem_singleton.mpr rfl)) (fun x hx => by cases List.mem_singleton.mp hx; exact hq) (fun x hx => ?_)) (arq_set Ar q hl hf rfl Wd) (K.wr Wd (Or.inl (List.mem_singleton.mpr rfl))))
  cases List.mem_singleton.mp hx
  cases md with
  | none => trivial
  | some EL => exact Safe.arr hZ.alike Ar (by simp)
theorem g_lastore (P : W md Z a0 own bytes ins maxL ret nm h0 ws p l e R s m args below meth c vm0 T h locs cells slots) {hb : Heap} {x : Int64} (A : Arq Z h b .long vs) (K : Keep hb h [b]) (hj : Ix j i) (hi : i < vs.length) (hq : b ∈ ws ∨ h0.size ≤ b)
    (k : ∀ T' h' locs', W md Z a0 own bytes ins maxL ret nm h0 ws p l e R s m args below meth c vm0 T' h' locs' cells slots → Arq Z h' b .long (vs.set i (.long x)) → Keep hb h' [b] → Go p e below m T' nx L S F) (hd : lk ins pc = some (.lastore, 1, nx, tg, kk) := by rfl) : Go p e below m T pc L (.long x :: .int j :: .ref b :: S) F := by
  have P0 := P
  obtain ⟨⟨hx, hbb, D, -⟩, X, eT, hZ, hown, -⟩ := P
  obtain ⟨hdec, rfl⟩ := D.at hd
  obtain ⟨cl, Ar, q, hl, hf⟩ := A
  obtain ⟨T', h', X', e', Wd, st⟩ := RoadKit.stJ X hx hZ eT Ar (hj.in_ (by rw [Arq.size q]; exact hi)) (g := mkF m pc L.toArray (.long x :: .int j :: .ref b :: S)) rfl rfl (by rw [hbb]; exact hdec)
  rw [hj.nat] at Wd
  refine Go.st st (k T' h' _ (P0.wrote X' e' (Keep.of_wr Wd) (fun y hy => by cases List.mem_singleton.mp hy; exact Or.inl (List.mem_singleton.mpr rfl)) (fun x hx => by cases List.mem_singleton.mp hx; exact hq) (fun x hx => ?_)) (arq_set Ar q hl hf rfl Wd) (K.wr Wd (Or.inl (List.mem_singleton.mpr rfl))))
  cases List.mem_singleton.mp hx
  cases md with
  | none => trivial
  | some EL => exact Safe.arr hZ.alike Ar (by simp)
/-- bastore: of bytes; the array must be safe to write -/
theorem g_bastore (P : W md Z a0 own bytes ins maxL ret nm h0 ws p l e R s m args below meth c vm0 T h locs cells slots) {hb : Heap} {x : Int32} (A : Arq Z h b .byte vs) (K : Keep hb h [b]) (hj : Ix j i) (hi : i < vs.length) (hq : b ∈ ws ∨ h0.size ≤ b) (hsf : SafeM md Z vm0 h b)
    (k : ∀ T' h' locs', W md Z a0 own bytes ins maxL ret nm h0 ws p l e R s m args below meth c vm0 T' h' locs' cells slots → Arq Z h' b .byte (vs.set i (.int (i2bv x))) → Keep hb h' [b] → Go p e below m T' nx L S F) (hd : lk ins pc = some (.bastore, 1, nx, tg, kk) := by rfl) : Go p e below m T pc L (.int x :: .int j :: .ref b :: S) F := by
  have P0 := P
  obtain ⟨⟨hx, hbb, D, -⟩, X, eT, hZ, hown, -⟩ := P
  obtain ⟨hdec, rfl⟩ := D.at hd
  obtain ⟨cl, Ar, q, hl, hf⟩ := A
  obtain ⟨T', h', X', e', Wd, st⟩ := stB X hx hZ eT Ar (hj.in_ (by rw [Arq.size q]; exact hi)) (g := mkF m pc L.toArray (.int x :: .int j :: .ref b :: S)) rfl rfl (by rw [hbb]; exact hdec)
  rw [hj.nat] at Wd
  exact Go.st st (k T' h' _ (P0.wrote X' e' (Keep.of_wr Wd) (fun y hy => by cases List.mem_singleton.mp hy; exact Or.inl (List.mem_singleton.mpr rfl)) (fun x hx => by cases List.mem_singleton.mp hx; exact hq) (fun x hx => by cases List.mem_singleton.mp hx; exact hsf)) (arq_set Ar q hl hf (fits_nar_byte x) Wd) (K.wr Wd (Or.inl (List.mem_singleton.mpr rfl))))
end Loads
end Walk
end Jvm.Own

namespace Jvm.Own
open Jvm Jvm.ClassFile Sem Op Lib Jvm.Free Jvm.Stand Jvm.LawKit Jvm.RoadKit Bundle
/-! ### E. numbers -/
theorem ofN_toInt {n : Nat} (h : n < 2147483648) : (Int32.ofNat n).toInt = n := by
  rw [Int32.toInt_ofNat', show Int32.size = 4294967296 from rfl]
  exact Int.bmod_eq_of_le (by omega) (by omega)
theorem ix_ofN {n : Nat} (h : n < 2147483648) : Ix (Int32.ofNat n) n := ofN_toInt h
theorem nneg_ofN {n : Nat} (h : n < 2147483648) : ¬ Int32.ofNat n < 0 := by
  have e0 : (0 : Int32).toInt = 0 := rfl
  rw [Int32.lt_iff_toInt_lt, ofN_toInt h, e0]; omega
theorem ofN_succ (n : Nat) : Int32.ofNat n + 1 = Int32.ofNat (n + 1) := by
  rw [show (1 : Int32) = Int32.ofNat 1 from rfl, ← Int32.ofNat_add]
theorem toInt_ext {x y : Int32} (h : x.toInt = y.toInt) : x = y := Int32.toInt_inj.mp h
theorem ofN_sub {i j : Nat} (h : i ≤ j) : Int32.ofNat j - Int32.ofNat i = Int32.ofNat (j - i) := by
  have e : Int32.ofNat j = Int32.ofNat (j - i) + Int32.ofNat i := by rw [← Int32.ofNat_add]; congr 1; omega
  rw [e]; exact Int32.add_sub_cancel _ _
/-- a char's worth; a Latin-1 char's worth -/
def Ch (x : Int32) : Prop := 0 ≤ x.toInt ∧ x.toInt < 65536
def La (x : Int32) : Prop := 0 ≤ x.toInt ∧ x.toInt < 256
theorem La.ch {x : Int32} (h : La x) : Ch x := ⟨h.1, by have := h.2; omega⟩
theorem of_small {x : Int32} (h : 0 ≤ x.toInt) : ∃ n : Nat, x = Int32.ofNat n ∧ (n : Int) = x.toInt ∧ n < 2147483648 := by
  have := x.toInt_lt
  refine ⟨x.toInt.toNat, toInt_ext ?_, by omega, by omega⟩
  rw [ofN_toInt (by omega)]; omega
theorem la_cases {x : Int32} (h : La x) : ∃ k : Fin 256, x = Int32.ofNat k.val := by
  obtain ⟨n, e, h1, h2⟩ := of_small h.1
  exact ⟨⟨n, by have := h.2; omega⟩, e⟩
theorem i2cv_toInt (x : Int32) : (i2cv x).toInt = x.toInt % 65536 := by
  have h1 : (i2cv x).toBitVec = (x.toBitVec.setWidth 16).setWidth 32 := rfl
  rw [Int32.toInt, h1, BitVec.toInt_eq_toNat_of_lt (by simp only [BitVec.toNat_setWidth]; omega)]
  simp only [BitVec.toNat_setWidth]
  have h2 : x.toInt = x.toBitVec.toInt := rfl
  rw [h2, BitVec.toInt_eq_toNat_cond]
  have h3 := x.toBitVec.isLt
  split <;> omega
theorem i2cv_ch (x : Int32) : Ch (i2cv x) := by
  unfold Ch; rw [i2cv_toInt]; omega
theorem i2cv_id {x : Int32} (h : Ch x) : i2cv x = x := toInt_ext (by rw [i2cv_toInt]; have := h.1; have := h.2; omega)
theorem nar_ch {x : Int32} (h : Ch x) : nar .char x = x := i2cv_id h
theorem nrw_ch {x : Int32} (h : Ch x) : narrow .char (.int x) = .int x := by
  have := XT.narrow_c x
  rw [show x.toUInt32.toUInt16.toUInt32.toInt32 = x from i2cv_id h] at this
  exact this
theorem nrw_i2cv (x : Int32) : narrow .char (.int (i2cv x)) = .int (i2cv x) := XT.narrow_c x
theorem nrw_i2bv (x : Int32) : narrow .byte (.int (i2bv x)) = .int (i2bv x) := XT.narrow_b x
theorem i2bv_i2bv (x : Int32) : i2bv (i2bv x) = i2bv x := by simp [i2bv]
theorem la_back_all : ∀ k : Fin 256, i2cv (i2bv (Int32.ofNat k.val) &&& 255) = Int32.ofNat k.val := by decide +kernel
theorem la_back {x : Int32} (h : La x) : i2cv (i2bv x &&& 255) = x := by obtain ⟨k, rfl⟩ := la_cases h; exact la_back_all k
theorem la_inj {x y : Int32} (h : La x) (h' : La y) (e : i2bv x = i2bv y) : x = y := by rw [← la_back h, ← la_back h', e]
theorem shr_zero (x : Int32) : x >>> (0 : Int32) = x := by simp
theorem cfa_zero (n : Int32) : i2bv (XT.ushr (n - n) 31) = 0 := by rw [Int32.sub_self]; decide
theorem and_toInt (x : Int32) (k : Nat) (hk : k ≤ 31) : (x &&& Int32.ofNat (2 ^ k - 1)).toInt = x.toInt % (2 ^ k : Nat) := by
  have hp : 2 ^ k ≤ 2 ^ 31 := Nat.pow_le_pow_right (by omega) (by omega)
  have h1 : (x &&& Int32.ofNat (2 ^ k - 1)).toBitVec = x.toBitVec &&& BitVec.ofNat 32 (2 ^ k - 1) := rfl
  have h4 : (x.toBitVec &&& BitVec.ofNat 32 (2 ^ k - 1)).toNat = x.toBitVec.toNat % 2 ^ k := by
    rw [BitVec.toNat_and, BitVec.toNat_ofNat, Nat.mod_eq_of_lt (by omega), Nat.and_two_pow_sub_one_eq_mod]
  have h5 : x.toBitVec.toNat % 2 ^ k < 2 ^ k := Nat.mod_lt _ (Nat.two_pow_pos k)
  rw [Int32.toInt, h1, BitVec.toInt_eq_toNat_of_lt (by rw [h4]; omega), h4]
  have h2 : x.toInt = x.toBitVec.toInt := rfl
  rw [h2, BitVec.toInt_eq_toNat_cond]
  split
  · rfl
  · have e : ((2 ^ 32 : Nat) : Int) = ((2 ^ k : Nat) : Int) * ((2 ^ (32 - k) : Nat) : Int) := by
      rw [← Int.natCast_mul, ← Nat.pow_add]; congr 2; omega
    rw [e, Int.sub_mul_emod_self_left]; rfl
theorem la_and (x : Int32) : La (x &&& 255) := by
  have := and_toInt x 8 (by omega)
  rw [show Int32.ofNat (2 ^ 8 - 1) = 255 from rfl] at this
  unfold La; rw [this]; omega
theorem i2cv_and (x : Int32) : i2cv (x &&& 255) = x &&& 255 := i2cv_id (la_and x).ch
theorem la_i2cv (x : Int32) : La (i2cv (x &&& 255)) := by rw [i2cv_and]; exact la_and x
end Jvm.Own

namespace Jvm.Own
open Jvm Jvm.ClassFile Sem Op Lib Jvm.Free Jvm.Stand Jvm.LawKit Jvm.RoadKit Bundle
/-! ### C. contracts -/
def CHm (md : Option (List (String × Nat))) (Z : State) (vm : Vm) (h : Heap) : Prop := match md with
  | none => True
  | some EL => CHv Z EL vm h
def EWm (md : Option (List (String × Nat))) (Z : State) (a0 : Array Value) : Prop := match md with
  | none => True
  | some EL => EW Z a0 EL
def EndM (md : Option (List (String × Nat))) (Z : State) (U : State) (o : Outcome) (U' : State) (Lc : List Loc) (k n : Nat) : Prop := match md with
  | none => FrameEnd U o U' Lc k n
  | some EL => CHr Z EL U.vm U.heap U'.vm U'.heap ∧ ReturnedEndW U o U' Lc k n
def FinM (md : Option (List (String × Nat))) (Z : State) (h : Heap) (ws : List Addr) (rm : Room) (Q : Option Value → Heap → Prop) (U : State) : Fin' := fun o U' =>
  ∃ v Lc, o = .returned v ∧ Q v U'.heap ∧ Keep h U'.heap ws ∧ (∀ y ∈ Lc, y.base ∈ ws ∨ h.size ≤ y.base) ∧ EndM md Z U o U' Lc rm.cells rm.slots
def Con (md : Option (List (String × Nat))) (Z : State) (l : Launch) (y : MethodName) (tw : List Jvm.Cond) (bytes : ByteArray) (maxL : Nat) (ret : Option FieldType) (rm : Room) (as : Array Value) (h : Heap) (ws : List Addr) (Q : Option Value → Heap → Prop) : Prop :=
  MetFree l y (head1 (Jvm.Cond.code y bytes maxL ret :: tw) rm) (fun a U => a = as ∧ Z.Warmed39 U.vm ∧ U.heap = h ∧ CHm md Z U.vm h) (fun _ _ _ _ _ => True) (fun _ U o U' => FinM md Z h ws rm Q U o U')
/-- a value comes back, nothing comes back -/
def rV (Q : Value → Heap → Prop) : Option Value → Heap → Prop := fun v h => ∃ x, v = some x ∧ Q x h
def rO (Q : Heap → Prop) : Option Value → Heap → Prop := fun v h => v = none ∧ Q h
section Contract
variable {md : Option (List (String × Nat))} {Z : State} {a0 : Array Value} {own : String} {bytes : ByteArray} {ins : List Ent} {maxL : Nat} {ret : Option FieldType} {nm : String} {h0 : Heap} {ws : List Addr}
  {p : Program} {l : Launch} {e : Env} {R : Room} {s : State} {m : MethodId} {args : Array Value} {below : List Frame} {meth : Method} {c : Code} {vm0 : Vm} {T : State} {h : Heap} {locs : List Loc} {cells slots : Nat}
  {F : Fin'} {pc n nx tg : Nat} {kk : Int32} {L L' : List Slot} {S S' : List Value}
theorem con_of {y : MethodName} {tw : List Jvm.Cond} {rm : Room} {as : Array Value} {Q : Option Value → Heap → Prop} (hpl : plainFor y = true) (D : Dec bytes ins) (L : List Slot) (hlay : Jvm.Sym.laidSlots as.toList ++ List.replicate (maxL - (Jvm.Sym.laidSlots as.toList).length) .unset = L)
    (hEx : Ext Z.heap h) (hws : ∀ x ∈ ws, Z.heap.size ≤ x) (hEL : EWm md Z a0)
    (k : ∀ p e s m below meth c T, W md Z a0 y.cls bytes ins maxL ret y.name h ws p l e rm s m as below meth c s.vm T h [] 0 0 → Go p e below m T 0 L [] (FinM md Z h ws rm Q s)) : Con md Z l y tw bytes maxL ret rm as h ws Q := by
  refine MetFree.of_bodySF hpl hisR ?_
  intro p e s m args below meth c s₁ Bd hml hP hK
  obtain ⟨rfl, hZ, hh, hC⟩ := hP
  have X0 : Stand p l e rm s m args below meth c s₁ [] 0 0 := Stand.of_body Bd
  have e0 : s₁.heap = h := by rw [← hh, Bd.state]; rfl
  have hown : s.vm.findClass y.cls = some m.cls := findClass_of_methodNamed Bd.named
  have hnm := (name_of_methodNamed Bd.named Bd.method).1
  have hT : Tb md Z a0 s h s.vm h := by
    cases md with
    | none => exact rfl
    | some EL => exact ⟨(State.WarmedH.refl s).since _, hEL, CHr.refl hC⟩
  obtain ⟨s₂, o, h1, h2, h3, h4⟩ := k p e s m below meth c s₁ ⟨⟨Bd.exec, Bd.bytes, D, hml, Bd.returns, hnm, Bd.notSynchronized⟩, X0, e0, hZ, hown, hEx, Keep.refl _ _, (fun _ q => nomatch q), hws, hEx.1, hh, hT⟩
  exact ⟨s₂, o, (XT.entry (by simpa using hlay)).trans h1, h2, h3, h4⟩
/-- the walk's end -/
theorem W.out (P : W md Z a0 own bytes ins maxL ret nm h0 ws p l e R s m args below meth c vm0 T h locs cells slots) {v : Option Value} (hv : ret = none → v = none) (hc : cells ≤ R.cells) (hs : slots ≤ R.slots) {Q : Option Value → Heap → Prop} (hq : Q v h) :
    ∃ fs, (∀ (f : JFrame) (acts : List Action), f.method = m → f.locked = none → f.entered = [] → (doReturn e (T.setTop f) acts v).1 = T.setFrames fs) ∧ (T.setFrames fs).status = .running ∧ Ended (T.setFrames fs) below (.returned v) ∧ FinM md Z h0 ws R Q s (.returned v) (T.setFrames fs) := by
  obtain ⟨⟨hx, hb, D, hml, hret, hnm, hlk⟩, X, eT, hZ, hown, hE, hK, hN, hws, h0s, hh0, hT⟩ := P
  subst eT
  cases md with
  | none =>
    have hT : vm0 = s.vm := hT
    subst hT
    obtain ⟨fs, h1, h2, h3, h4, h5⟩ := X.leave (v := v) (fun q => hv (hret.symm.trans q)) hlk
    exact ⟨fs, h1, h2, h3, v, locs, rfl, hq, hK, hN, ⟨_, rfl⟩, h4, h5.mono hc hs⟩
  | some EL =>
    obtain ⟨t1, t2, t3⟩ := hT
    obtain ⟨fs, h1, h2, h3, h4, h5, h6, h7⟩ := X.leaveW t1 (Nat.le_refl _) (v := v) (fun q => hv (hret.symm.trans q)) hlk
    refine ⟨fs, h1, h2, h3, v, locs, rfl, hq, hK, hN, ?_, h4, h5, h6, h7.mono hc hs⟩
    have A := CHv.at X hZ t2 t3.1
    have B := t3.trans A
    rw [← hh0] at B
    exact B
theorem g_iret (P : W md Z a0 own bytes ins maxL ret nm h0 ws p l e R s m args below meth c vm0 T h locs cells slots) {t : FieldType} {x : Int32} {Q : Value → Heap → Prop} (hq : Q (.int x) h)
    (hr : ret = some t := by rfl) (hn : narrow t (.int x) = .int x := by rfl) (ht : t = .int ∨ t = .boolean ∨ t = .byte ∨ t = .char ∨ t = .short := by simp) (hd : lk ins pc = some (.ireturn, 1, nx, tg, kk) := by rfl) (hc : Nat.ble cells R.cells = true := by rfl) (hs : Nat.ble slots R.slots = true := by rfl) : Go p e below m T pc L (.int x :: S) (FinM md Z h0 ws R (rV Q) s) := by
  obtain ⟨fs, h1, h2⟩ := P.out (v := some (.int x)) (Q := rV Q) (fun q => by rw [hr] at q; cases q) (Nat.le_of_ble_eq_true hc) (Nat.le_of_ble_eq_true hs) ⟨_, rfl, hq⟩
  obtain ⟨⟨hx, hb, D, hml, hret, hnm, hlk⟩, X, -⟩ := P
  exact ⟨_, _, retOut X hx (hret.trans hr) hn (Or.inl ⟨rfl, ht, _, rfl⟩) (by rw [hb]; exact (D.at hd).1) h1, h2⟩
theorem g_lret (P : W md Z a0 own bytes ins maxL ret nm h0 ws p l e R s m args below meth c vm0 T h locs cells slots) {x : Int64} {Q : Value → Heap → Prop} (hq : Q (.long x) h)
    (hr : ret = some .long := by rfl) (hd : lk ins pc = some (.lreturn, 1, nx, tg, kk) := by rfl) (hc : Nat.ble cells R.cells = true := by rfl) (hs : Nat.ble slots R.slots = true := by rfl) : Go p e below m T pc L (.long x :: S) (FinM md Z h0 ws R (rV Q) s) := by
  obtain ⟨fs, h1, h2⟩ := P.out (v := some (.long x)) (Q := rV Q) (fun q => by rw [hr] at q; cases q) (Nat.le_of_ble_eq_true hc) (Nat.le_of_ble_eq_true hs) ⟨_, rfl, hq⟩
  obtain ⟨⟨hx, hb, D, hml, hret, hnm, hlk⟩, X, -⟩ := P
  exact ⟨_, _, retOut X hx (hret.trans hr) rfl (Or.inr (Or.inl ⟨rfl, rfl, _, rfl⟩)) (by rw [hb]; exact (D.at hd).1) h1, h2⟩
theorem g_aret (P : W md Z a0 own bytes ins maxL ret nm h0 ws p l e R s m args below meth c vm0 T h locs cells slots) {t : FieldType} {v : Value} {Q : Value → Heap → Prop} (hq : Q v h)
    (hr : ret = some t := by rfl) (hv : v.isRef = true := by rfl) (hn : narrow t v = v := by rfl) (ht : t.isReference = true := by rfl) (hd : lk ins pc = some (.areturn, 1, nx, tg, kk) := by rfl) (hc : Nat.ble cells R.cells = true := by rfl) (hs : Nat.ble slots R.slots = true := by rfl) : Go p e below m T pc L (v :: S) (FinM md Z h0 ws R (rV Q) s) := by
  obtain ⟨fs, h1, h2⟩ := P.out (v := some v) (Q := rV Q) (fun q => by rw [hr] at q; cases q) (Nat.le_of_ble_eq_true hc) (Nat.le_of_ble_eq_true hs) ⟨_, rfl, hq⟩
  obtain ⟨⟨hx, hb, D, hml, hret, hnm, hlk⟩, X, -⟩ := P
  exact ⟨_, _, retOut X hx (hret.trans hr) hn (Or.inr (Or.inr (Or.inr (Or.inr ⟨rfl, ht, hv⟩)))) (by rw [hb]; exact (D.at hd).1) h1, h2⟩
theorem g_ret (P : W md Z a0 own bytes ins maxL ret nm h0 ws p l e R s m args below meth c vm0 T h locs cells slots) {Q : Heap → Prop} (hq : Q h)
    (hr : ret = none := by rfl) (hd : lk ins pc = some (.return_, 1, nx, tg, kk) := by rfl) (hc : Nat.ble cells R.cells = true := by rfl) (hs : Nat.ble slots R.slots = true := by rfl) : Go p e below m T pc L [] (FinM md Z h0 ws R (rO Q) s) := by
  obtain ⟨fs, h1, h2⟩ := P.out (v := none) (Q := rO Q) (fun _ => rfl) (Nat.le_of_ble_eq_true hc) (Nat.le_of_ble_eq_true hs) ⟨rfl, hq⟩
  obtain ⟨⟨hx, hb, D, hml, hret, hnm, hlk⟩, X, -⟩ := P
  exact ⟨_, _, X.returnOut hx (hret.trans hr) (by rw [hb]; exact (D.at hd).1) h1, h2⟩
/-! branches -/
theorem D_tgt {b : ByteArray} (D : Dec b ins) {i : Instr} (h : lk ins pc = some (i, n, nx, tg, kk)) : rowOk b (pc, i, n, nx, tg, kk) = true := D.row h
/-- a branch's condition in plain words -/
def ifP (cd : ClassFile.Cond) (x : Int32) : Prop := match cd with
  | .eq => x = 0
  | .ne => x ≠ 0
  | .lt => x.toInt < 0
  | .ge => 0 ≤ x.toInt
  | .gt => 0 < x.toInt
  | .le => x.toInt ≤ 0
def icP (cd : ClassFile.Cond) (x y : Int32) : Prop := match cd with
  | .eq => x = y
  | .ne => x ≠ y
  | .lt => x.toInt < y.toInt
  | .ge => y.toInt ≤ x.toInt
  | .gt => y.toInt < x.toInt
  | .le => x.toInt ≤ y.toInt
def ncd : ClassFile.Cond → ClassFile.Cond
  | .eq => .ne
  | .ne => .eq
  | .lt => .ge
  | .ge => .lt
  | .gt => .le
  | .le => .gt
theorem ic_iff (cd : ClassFile.Cond) (x y : Int32) : if_icmp.holds cd x y = true ↔ icP cd x y := by
  cases cd <;> simp [if_icmp.holds, icP, Int32.lt_iff_toInt_lt, Int32.le_iff_toInt_le]
theorem icn_iff (cd : ClassFile.Cond) (x y : Int32) : if_icmp.holds cd x y = false ↔ icP (ncd cd) x y := by
  cases cd <;> simp [if_icmp.holds, icP, ncd, Int32.lt_iff_toInt_lt, Int32.le_iff_toInt_le]
theorem if_iff (cd : ClassFile.Cond) (x : Int32) : ifCond.holds cd x = true ↔ ifP cd x := by
  have e0 : (0 : Int32).toInt = 0 := rfl
  cases cd <;> simp [ifCond.holds, ifP, Int32.lt_iff_toInt_lt, Int32.le_iff_toInt_le, e0]
theorem ifn_iff (cd : ClassFile.Cond) (x : Int32) : ifCond.holds cd x = false ↔ ifP (ncd cd) x := by
  have e0 : (0 : Int32).toInt = 0 := rfl
  cases cd <;> simp [ifCond.holds, ifP, ncd, Int32.lt_iff_toInt_lt, Int32.le_iff_toInt_le, e0]
theorem g_if (P : W md Z a0 own bytes ins maxL ret nm h0 ws p l e R s m args below meth c vm0 T h locs cells slots) {cd : ClassFile.Cond} {o : Int} {x : Int32} (hd : lk ins pc = some (.ifCond cd o, n, nx, tg, kk)) (kT : ifP cd x → Go p e below m T tg L S F) (kF : ifP (ncd cd) x → Go p e below m T nx L S F) : Go p e below m T pc L (.int x :: S) F := by
  obtain ⟨⟨hx, hb, D, -⟩, X, -⟩ := P
  obtain ⟨h1, rfl, h2, h3⟩ := row_k (D.row hd)
  cases beq_n h2
  cases hc : ifCond.holds cd x with
  | true => exact Go.st (fun target hk => XS.ifYes (g := mkF m pc L.toArray (.int x :: S)) X.here hx rfl (pc0 := pc) rfl (by rw [hb]; exact h1) rfl hc h3.1 h3.2 hk) (kT ((if_iff cd x).mp hc))
  | false => exact Go.st (fun target hk => XS.ifNo (g := mkF m pc L.toArray (.int x :: S)) X.here hx rfl (by rw [hb]; exact h1) rfl hc hk) (kF ((ifn_iff cd x).mp hc))
theorem g_ic (P : W md Z a0 own bytes ins maxL ret nm h0 ws p l e R s m args below meth c vm0 T h locs cells slots) {cd : ClassFile.Cond} {o : Int} {x y : Int32} (hd : lk ins pc = some (.if_icmp cd o, n, nx, tg, kk)) (kT : icP cd x y → Go p e below m T tg L S F) (kF : icP (ncd cd) x y → Go p e below m T nx L S F) : Go p e below m T pc L (.int y :: .int x :: S) F := by
  obtain ⟨⟨hx, hb, D, -⟩, X, -⟩ := P
  obtain ⟨h1, rfl, h2, h3⟩ := row_k (D.row hd)
  cases beq_n h2
  cases hc : if_icmp.holds cd x y with
  | true => exact Go.st (fun target hk => XS.icmpYes (g := mkF m pc L.toArray (.int y :: .int x :: S)) X.here hx rfl (pc0 := pc) rfl (by rw [hb]; exact h1) rfl hc h3.1 h3.2 hk) (kT ((ic_iff cd x y).mp hc))
  | false => exact Go.st (fun target hk => XS.icmpNo (g := mkF m pc L.toArray (.int y :: .int x :: S)) X.here hx rfl (by rw [hb]; exact h1) rfl hc hk) (kF ((icn_iff cd x y).mp hc))
theorem g_ac (P : W md Z a0 own bytes ins maxL ret nm h0 ws p l e R s m args below meth c vm0 T h locs cells slots) {cd : ClassFile.ACond} {o : Int} {x y : Value} (hx' : x.isRef = true) (hy' : y.isRef = true) (hd : lk ins pc = some (.if_acmp cd o, n, nx, tg, kk)) (kT : XT.acmp cd x y = true → Go p e below m T tg L S F) (kF : XT.acmp cd x y = false → Go p e below m T nx L S F) : Go p e below m T pc L (y :: x :: S) F := by
  obtain ⟨⟨hx, hb, D, -⟩, X, -⟩ := P
  obtain ⟨h1, rfl, h2, h3⟩ := row_k (D.row hd)
  cases beq_n h2
  cases hc : XT.acmp cd x y with
  | true => exact Go.st (fun target hk => XT.acmpYes (g := mkF m pc L.toArray (y :: x :: S)) X.here hx rfl (pc0 := pc) rfl (by rw [hb]; exact h1) rfl hx' hy' hc h3.1 h3.2 hk) (kT hc)
  | false => exact Go.st (fun target hk => XT.acmpNo (g := mkF m pc L.toArray (y :: x :: S)) X.here hx rfl (by rw [hb]; exact h1) rfl hx' hy' hc hk) (kF hc)
/-- ifnull, ifnonnull: of a reference that is known -/
theorem g_nullR (P : W md Z a0 own bytes ins maxL ret nm h0 ws p l e R s m args below meth c vm0 T h locs cells slots) {o : Int} {b : Addr} (k : Go p e below m T nx L S F) (hd : lk ins pc = some (.ifnull o, n, nx, tg, kk) := by rfl) : Go p e below m T pc L (.ref b :: S) F := by
  obtain ⟨⟨hx, hb, D, -⟩, X, -⟩ := P
  obtain ⟨h1, rfl, h2, h3⟩ := row_k (D.row hd)
  cases beq_n h2
  exact Go.st (fun target hk => XS.ifnullNo (g := mkF m pc L.toArray (.ref b :: S)) X.here hx rfl (by rw [hb]; exact h1) rfl hk) k
theorem g_nullN (P : W md Z a0 own bytes ins maxL ret nm h0 ws p l e R s m args below meth c vm0 T h locs cells slots) {o : Int} (k : Go p e below m T tg L S F) (hd : lk ins pc = some (.ifnull o, n, nx, tg, kk) := by rfl) : Go p e below m T pc L (.null :: S) F := by
  obtain ⟨⟨hx, hb, D, -⟩, X, -⟩ := P
  obtain ⟨h1, rfl, h2, h3⟩ := row_k (D.row hd)
  cases beq_n h2
  exact Go.st (fun target hk => XS.ifnullYes (g := mkF m pc L.toArray (.null :: S)) X.here hx rfl (pc0 := pc) rfl (by rw [hb]; exact h1) rfl h3.1 h3.2 hk) k
theorem g_nonR (P : W md Z a0 own bytes ins maxL ret nm h0 ws p l e R s m args below meth c vm0 T h locs cells slots) {o : Int} {b : Addr} (k : Go p e below m T tg L S F) (hd : lk ins pc = some (.ifnonnull o, n, nx, tg, kk) := by rfl) : Go p e below m T pc L (.ref b :: S) F := by
  obtain ⟨⟨hx, hb, D, -⟩, X, -⟩ := P
  obtain ⟨h1, rfl, h2, h3⟩ := row_k (D.row hd)
  cases beq_n h2
  exact Go.st (fun target hk => XT.ifnonnullYes (g := mkF m pc L.toArray (.ref b :: S)) X.here hx rfl (pc0 := pc) rfl (by rw [hb]; exact h1) rfl h3.1 h3.2 hk) k
theorem g_nonN (P : W md Z a0 own bytes ins maxL ret nm h0 ws p l e R s m args below meth c vm0 T h locs cells slots) {o : Int} (k : Go p e below m T nx L S F) (hd : lk ins pc = some (.ifnonnull o, n, nx, tg, kk) := by rfl) : Go p e below m T pc L (.null :: S) F := by
  obtain ⟨⟨hx, hb, D, -⟩, X, -⟩ := P
  obtain ⟨h1, rfl, h2, h3⟩ := row_k (D.row hd)
  cases beq_n h2
  exact Go.st (fun target hk => XT.ifnonnullNo (g := mkF m pc L.toArray (.null :: S)) X.here hx rfl (by rw [hb]; exact h1) rfl hk) k
/-! division, constants -/
theorem g_idiv (P : W md Z a0 own bytes ins maxL ret nm h0 ws p l e R s m args below meth c vm0 T h locs cells slots) {x y : Int32} (hy : y ≠ 0) (k : Go p e below m T nx L (.int (x / y) :: S) F) (hd : lk ins pc = some (.idiv, n, nx, tg, kk) := by rfl) : Go p e below m T pc L (.int y :: .int x :: S) F := by
  obtain ⟨⟨hx, hb, D, -⟩, X, -⟩ := P
  obtain ⟨h1, rfl, h2, h3⟩ := row_k (D.row hd)
  cases beq_n h2
  exact Go.st (fun target hk => XS.idiv (g := mkF m pc L.toArray (.int y :: .int x :: S)) X.here hx rfl (by rw [hb]; exact h1) rfl hy hk) k
theorem g_irem (P : W md Z a0 own bytes ins maxL ret nm h0 ws p l e R s m args below meth c vm0 T h locs cells slots) {x y : Int32} (hy : y ≠ 0) (k : Go p e below m T nx L (.int (x % y) :: S) F) (hd : lk ins pc = some (.irem, n, nx, tg, kk) := by rfl) : Go p e below m T pc L (.int y :: .int x :: S) F := by
  obtain ⟨⟨hx, hb, D, -⟩, X, -⟩ := P
  obtain ⟨h1, rfl, h2, h3⟩ := row_k (D.row hd)
  cases beq_n h2
  exact Go.st (fun target hk => iremM (g := mkF m pc L.toArray (.int y :: .int x :: S)) X hx rfl (by rw [hb]; exact h1) rfl hy hk) k
theorem g_ldcI (P : W md Z a0 own bytes ins maxL ret nm h0 ws p l e R s m args below meth c vm0 T h locs cells slots) {index : Nat} {v : Int32} (w : (Jvm.Cond.constant own index v).before a0 Z = true) (k : Go p e below m T nx L (.int v :: S) F) (hd : lk ins pc = some (.ldc index, 2, nx, tg, kk) := by rfl) : Go p e below m T pc L S F := by
  obtain ⟨⟨hx, hb, D, -⟩, X, eT, hZ, hown, -⟩ := P
  obtain ⟨h1, rfl⟩ := D.at hd
  exact Go.st (fun target hk => X.ldcInt hx hown (mvT hZ w) (g := mkF m pc L.toArray S) rfl (by rw [hb]; exact h1) target hk) k
theorem g_ldcwI (P : W md Z a0 own bytes ins maxL ret nm h0 ws p l e R s m args below meth c vm0 T h locs cells slots) {index : Nat} {v : Int32} (w : (Jvm.Cond.constant own index v).before a0 Z = true) (k : Go p e below m T nx L (.int v :: S) F) (hd : lk ins pc = some (.ldc_w index, 3, nx, tg, kk) := by rfl) : Go p e below m T pc L S F := by
  obtain ⟨⟨hx, hb, D, -⟩, X, eT, hZ, hown, -⟩ := P
  obtain ⟨h1, rfl⟩ := D.at hd
  exact Go.st (fun target hk => X.ldcwInt hx hown (mvT hZ w) (g := mkF m pc L.toArray S) rfl (by rw [hb]; exact h1) target hk) k
theorem g_ldc2 (P : W md Z a0 own bytes ins maxL ret nm h0 ws p l e R s m args below meth c vm0 T h locs cells slots) {index : Nat} {v : Int64} (w : (Jvm.Cond.constantLong own index v).before a0 Z = true) (k : Go p e below m T nx L (.long v :: S) F) (hd : lk ins pc = some (.ldc2_w index, 3, nx, tg, kk) := by rfl) : Go p e below m T pc L S F := by
  obtain ⟨⟨hx, hb, D, -⟩, X, eT, hZ, hown, -⟩ := P
  obtain ⟨h1, rfl⟩ := D.at hd
  exact Go.st (fun target hk => X.ldc2Long hx hown (mvT hZ w) (g := mkF m pc L.toArray S) rfl (by rw [hb]; exact h1) target hk) k
/-- Object.<init> -/
theorem g_initO (P : W md Z a0 own bytes ins maxL ret nm h0 ws p l e R s m args below meth c vm0 T h locs cells slots) {index : Nat} {a : Addr} (w1 : (Jvm.Cond.methodLink own index Lib.objectInit).before a0 Z = true) (w2 : (Jvm.Cond.instanceMethod Lib.objectInit).before a0 Z = true) (w3 : (Jvm.Cond.code Lib.objectInit ⟨#[0xb1]⟩ 1 none).before a0 Z = true)
    (k : ∀ T', W md Z a0 own bytes ins maxL ret nm h0 ws p l e R s m args below meth c vm0 T' h locs cells slots → Go p e below m T' nx L S F) (hd : lk ins pc = some (.invokespecial index, 3, nx, tg, kk) := by rfl) (hsz : L.length = maxL := by rfl)
    (hf : Nat.ble 1 R.frames = true := by rfl) (hl : Nat.ble ((S.map fun v => v.category).sum + 12) R.locals = true := by rfl) : Go p e below m T pc L (.ref a :: S) F := by
  have P0 := P
  obtain ⟨⟨hx, hb, D, hml, -⟩, X, eT, hZ, hown, -⟩ := P
  obtain ⟨h1, rfl⟩ := D.at hd
  obtain ⟨T', X', e', st⟩ := initO X hx hZ hown w1 w2 w3 eT (g := mkF m pc L.toArray (.ref a :: S)) rfl (by rw [hml, ← hsz]; simp) rfl (by rw [hb]; exact h1) (Nat.le_of_ble_eq_true hf) (W := (S.map fun v => v.category).sum) (by show 2 * 0 + _ ≤ _; omega) (Nat.le_of_ble_eq_true hl)
  exact Go.st st (k T' (P0.same X' e'))
end Contract
end Jvm.Own

namespace Jvm.Own
open Jvm Jvm.ClassFile Sem Op Lib Jvm.Free Jvm.Stand Jvm.LawKit Jvm.RoadKit Bundle
/-! ### D. calls by contract -/
section Calls
variable {md : Option (List (String × Nat))} {EL : List (String × Nat)} {Z : State} {a0 : Array Value} {own : String} {bytes : ByteArray} {ins : List Ent} {maxL : Nat} {ret : Option FieldType} {nm : String} {h0 : Heap} {ws : List Addr}
  {p : Program} {l : Launch} {e : Env} {R : Room} {s : State} {m : MethodId} {args : Array Value} {below : List Frame} {meth : Method} {c : Code} {vm0 : Vm} {T : State} {h : Heap} {locs : List Loc} {cells slots : Nat}
  {F : Fin'} {pc n nx tg : Nat} {kk : Int32} {L L' : List Slot} {S S' : List Value}
  {y : MethodName} {bytes' : ByteArray} {maxL' : Nat} {ret' : Option FieldType} {rm : Room} {as : Array Value} {ws' : List Addr} {Q : Option Value → Heap → Prop}
def QL (h : Heap) (ws' : List Addr) (Q : Option Value → Heap → Prop) (v : Option Value) (h' : Heap) (Lc : List Loc) : Prop := Q v h' ∧ Keep h h' ws' ∧ ∀ y ∈ Lc, y.base ∈ ws' ∨ h.size ≤ y.base
theorem conN (C : Con none Z l y [] bytes' maxL' ret' rm as h ws' Q) : MetFree l y (head1 [Jvm.Cond.code y bytes' maxL' ret'] rm) (fun a U => a = as ∧ Z.Warmed39 U.vm ∧ U.heap = h) (fun _ _ _ _ _ => True)
    (fun _ U o U' => ∃ v Lc, o = .returned v ∧ QL h ws' Q v U'.heap Lc ∧ FrameEnd U o U' Lc rm.cells rm.slots) := by
  intro p e ha hc hk s m args below hf happ hP hK
  obtain ⟨n, o, h1, h2, h3, v, Lc, q1, q2, q3, q4, q5⟩ := C p e ha hc hk s m args below hf happ ⟨hP.1, hP.2.1, hP.2.2, trivial⟩ hK
  exact ⟨n, o, h1, h2, h3, v, Lc, q1, ⟨q2, q3, q4⟩, q5⟩
theorem conW (C : Con (some EL) Z l y [] bytes' maxL' ret' rm as h ws' Q) : MetFree l y (head1 [Jvm.Cond.code y bytes' maxL' ret'] rm) (fun a U => a = as ∧ Z.Warmed39 U.vm ∧ U.heap = h ∧ CHv Z EL U.vm h) (fun _ _ _ _ _ => True)
    (fun _ U o U' => ∃ v Lc, o = .returned v ∧ QL h ws' Q v U'.heap Lc ∧ CHr Z EL U.vm U.heap U'.vm U'.heap ∧ ReturnedEndW U o U' Lc rm.cells rm.slots) := by
  intro p e ha hc hk s m args below hf happ hP hK
  obtain ⟨n, o, h1, h2, h3, v, Lc, q1, q2, q3, q4, q5, q6⟩ := C p e ha hc hk s m args below hf happ hP hK
  exact ⟨n, o, h1, h2, h3, v, Lc, q1, ⟨q2, q3, q4⟩, q5, q6⟩
/-- behind a wide callee: the tables have moved on -/
theorem W.after (P : W (some EL) Z a0 own bytes ins maxL ret nm h0 ws p l e R s m args below meth c vm0 T h locs cells slots) {T' : State} {Lc : List Loc} {cells' slots' : Nat} (X' : Stand p l e R ((s.setVm vm0).setVm T'.vm) m args below meth c T' (locs ++ Lc) cells' slots') (hS : (s.setVm vm0).Since T'.vm T'.heap.size) (hg : T.heap.size ≤ T'.heap.size)
    (K : Keep h T'.heap ws') (hL : ∀ y ∈ Lc, y.base ∈ ws' ∨ h.size ≤ y.base) (hq : ∀ x ∈ ws', x ∈ ws ∨ h0.size ≤ x) (hC : CHr Z EL vm0 h T'.vm T'.heap) :
    W (some EL) Z a0 own bytes ins maxL ret nm h0 ws p l e R s m args below meth c T'.vm T' T'.heap (locs ++ Lc) cells' slots' := by
  have hfr := fun x (hx : x ∈ ws') => P.fresh (hq x hx)
  obtain ⟨C, X, eT, hZ, hown, hE, hK, hN, hws, h0s, hh0, t1, t2, t3⟩ := P
  refine ⟨C, X', rfl, State.Warmed39.trans (t := s.setVm vm0) hZ hS.1, by rw [hS.1.alike.findClass]; exact hown, ext_keep hE K hfr, hK.trans K hq, fun y hy => ?_, hws, h0s, hh0, t1.trans hS (by rw [← eT]; exact hg), t2, t3.trans hC⟩
  rcases List.mem_append.mp hy with q | q
  · exact hN y q
  · rcases hL y q with r | r
    · exact hq _ r
    · exact Or.inr (Nat.le_trans hK.1 r)
theorem sz_of {maxL : Nat} (hml : c.maxLocals = maxL) (hsz : L.length = maxL) : L.toArray.size = c.maxLocals := by rw [hml, ← hsz]; simp
/-- invokestatic, a callee that interns nothing -/
theorem g_staticO (P : W md Z a0 own bytes ins maxL ret nm h0 ws p l e R s m args below meth c vm0 T h locs cells slots) {index : Nat} {argsL : List Value} {na : Nat} (C : Con none Z l y [] bytes' maxL' ret' rm argsL.toArray h ws' Q)
    (wl : (Jvm.Cond.methodLink own index y).before a0 Z = true) (wst : (Jvm.Cond.static y).before a0 Z = true) (wz : (Jvm.Cond.initialized y.cls).before a0 Z = true) (wc : (Jvm.Cond.code y bytes' maxL' ret').before a0 Z = true) (pd : XT.arity y.desc = some na)
    (hq : ∀ x ∈ ws', x ∈ ws ∨ h0.size ≤ x) (hsf : ∀ x ∈ ws', SafeM md Z vm0 h x)
    (k : ∀ T' h' v locs', W md Z a0 own bytes ins maxL ret nm h0 ws p l e R s m args below meth c vm0 T' h' locs' (cells + rm.cells) (slots + rm.slots) → Keep h h' ws' → Q v h' → Go p e below m T' nx L (v.toList ++ S) F)
    (hstk : S' = argsL.reverse ++ S) (hna : argsL.length = na) (hd : lk ins pc = some (.invokestatic index, 3, nx, tg, kk)) (hsz : L.length = maxL) (hy : y.cls ≠ "java/lang/invoke/MethodHandle" ∧ y.cls ≠ "java/lang/invoke/VarHandle")
    (hf : Nat.ble (rm.frames + 1) R.frames = true) (hl : Nat.ble ((S.map fun v => v.category).sum + (maxL' + 11) + rm.locals) R.locals = true) (hc : Nat.ble (cells + rm.cells) R.cells = true) (hs : Nat.ble (slots + rm.slots) R.slots = true) : Go p e below m T pc L S' F := by
  have P0 := P
  obtain ⟨⟨hx, hb, D, hml, -⟩, X, eT, hZ, hown, -⟩ := P
  obtain ⟨h1, rfl⟩ := D.at hd
  subst hstk
  obtain ⟨v, vm₁, ⟨T', Lx, k', n'⟩, -, X', ⟨Lc, hQ, l1, l2, l3⟩, st⟩ := Jvm.LawKit.callS X hx (y := y) hown (mvT hZ wl) (mvT hZ wst) (mvT hZ wz) (mvT hZ wc) hy
    (backOf (W := (S.map fun v => v.category).sum) (Q := QL h ws' Q) (conN C) hZ wc wz (Nat.le_of_ble_eq_true hf) (Nat.le_of_ble_eq_true hl)) (g := mkF m pc L.toArray (argsL.reverse ++ S)) rfl (sz_of hml hsz) (argsL := argsL) (rest := S) (XT.arity_len pd hna) rfl (by show 2 * 0 + _ ≤ _; omega) (by rw [hb]; exact h1)
    (fun _ _ => ⟨rfl, eT, Nat.le_of_ble_eq_true hc, Nat.le_of_ble_eq_true hs⟩)
  dsimp only [Pt.U, Pt.locs, Pt.cells, Pt.slots] at X' l1 l2 l3 st hQ
  subst l1 l2 l3
  obtain ⟨q1, q2, q3⟩ := hQ
  exact Go.st st (k T' _ v _ (P0.wrote X' rfl q2 q3 hq hsf) q2 q1)
/-- .. a callee that may intern -/
theorem g_staticOW (P : W (some EL) Z a0 own bytes ins maxL ret nm h0 ws p l e R s m args below meth c vm0 T h locs cells slots) {index : Nat} {argsL : List Value} {na : Nat} (C : Con (some EL) Z l y [] bytes' maxL' ret' rm argsL.toArray h ws' Q)
    (wl : (Jvm.Cond.methodLink own index y).before a0 Z = true) (wst : (Jvm.Cond.static y).before a0 Z = true) (wz : (Jvm.Cond.initialized y.cls).before a0 Z = true) (wc : (Jvm.Cond.code y bytes' maxL' ret').before a0 Z = true) (pd : XT.arity y.desc = some na)
    (hq : ∀ x ∈ ws', x ∈ ws ∨ h0.size ≤ x)
    (k : ∀ vm1 T' h' v locs', W (some EL) Z a0 own bytes ins maxL ret nm h0 ws p l e R s m args below meth c vm1 T' h' locs' (cells + rm.cells) (slots + rm.slots) → Keep h h' ws' → Q v h' → Go p e below m T' nx L (v.toList ++ S) F)
    (hstk : S' = argsL.reverse ++ S) (hna : argsL.length = na) (hd : lk ins pc = some (.invokestatic index, 3, nx, tg, kk)) (hsz : L.length = maxL) (hy : y.cls ≠ "java/lang/invoke/MethodHandle" ∧ y.cls ≠ "java/lang/invoke/VarHandle")
    (hf : Nat.ble (rm.frames + 1) R.frames = true) (hl : Nat.ble ((S.map fun v => v.category).sum + (maxL' + 11) + rm.locals) R.locals = true) (hc : Nat.ble (cells + rm.cells) R.cells = true) (hs : Nat.ble (slots + rm.slots) R.slots = true) : Go p e below m T pc L S' F := by
  have P0 := P
  obtain ⟨⟨hx, hb, D, hml, -⟩, X, eT, hZ, hown, -, -, -, -, -, -, t1, t2, t3⟩ := P
  obtain ⟨h1, rfl⟩ := D.at hd
  subst hstk
  obtain ⟨v, vm₁, ⟨T', Lx, k', n'⟩, -, X', hS, hg, ⟨Lc, hQ, l1, l2, l3, hC⟩, st⟩ := callSS X hx (y := y) hown (mvT hZ wl) (mvT hZ wst) (mvT hZ wz) (mvT hZ wc) hy
    (backOfSH (W := (S.map fun v => v.category).sum) (Q := QL h ws' Q) (conW C) hZ wc wz (Nat.le_of_ble_eq_true hf) (Nat.le_of_ble_eq_true hl) t2 t3.1) (g := mkF m pc L.toArray (argsL.reverse ++ S)) rfl (sz_of hml hsz) (argsL := argsL) (rest := S) (XT.arity_len pd hna) rfl (by show 2 * 0 + _ ≤ _; omega) (by rw [hb]; exact h1)
    (fun _ _ => ⟨rfl, eT, Nat.le_of_ble_eq_true hc, Nat.le_of_ble_eq_true hs⟩)
  dsimp only [Pt.U, Pt.locs, Pt.cells, Pt.slots] at X' l1 l2 l3 st hQ hS hg hC
  subst l1 l2 l3
  obtain ⟨q1, q2, q3⟩ := hQ
  exact Go.st (fun _ hk => st.trans hk) (k T'.vm T' _ v _ (P0.after X' hS hg q2 q3 hq hC) q2 q1)
/-- invokevirtual -/
theorem g_virtO (P : W md Z a0 own bytes ins maxL ret nm h0 ws p l e R s m args below meth c vm0 T h locs cells slots) {index : Nat} {argsL : List Value} {na : Nat} {b : Addr} {Cn : String} (C : Con none Z l y [] bytes' maxL' ret' rm (.ref b :: argsL).toArray h ws' Q) (E : Exa Z h b Cn)
    (wl : (Jvm.Cond.methodLink own index y).before a0 Z = true) (wd : (Jvm.Cond.declares y).before a0 Z = true) (wse : (Jvm.Cond.selects Cn y y).before a0 Z = true) (wi : (Jvm.Cond.instanceMethod y).before a0 Z = true) (wz : (Jvm.Cond.initialized y.cls).before a0 Z = true) (wc : (Jvm.Cond.code y bytes' maxL' ret').before a0 Z = true) (pd : XT.arity y.desc = some na)
    (hq : ∀ x ∈ ws', x ∈ ws ∨ h0.size ≤ x) (hsf : ∀ x ∈ ws', SafeM md Z vm0 h x)
    (k : ∀ T' h' v locs', W md Z a0 own bytes ins maxL ret nm h0 ws p l e R s m args below meth c vm0 T' h' locs' (cells + rm.cells) (slots + rm.slots) → Keep h h' ws' → Q v h' → Go p e below m T' nx L (v.toList ++ S) F)
    (hstk : S' = argsL.reverse ++ .ref b :: S) (hna : argsL.length = na) (hd : lk ins pc = some (.invokevirtual index, 3, nx, tg, kk)) (hsz : L.length = maxL) (hy : y.cls ≠ "java/lang/invoke/MethodHandle" ∧ y.cls ≠ "java/lang/invoke/VarHandle")
    (hf : Nat.ble (rm.frames + 1) R.frames = true) (hl : Nat.ble ((S.map fun v => v.category).sum + (maxL' + 11) + rm.locals) R.locals = true) (hc : Nat.ble (cells + rm.cells) R.cells = true) (hs : Nat.ble (slots + rm.slots) R.slots = true) : Go p e below m T pc L S' F := by
  have P0 := P
  obtain ⟨⟨hx, hb, D, hml, -⟩, X, eT, hZ, hown, -⟩ := P
  obtain ⟨h1, rfl⟩ := D.at hd
  subst hstk
  obtain ⟨cB, kB, i1, i2, i3⟩ := isOf (s := s.setVm vm0) hZ eT E
  obtain ⟨v, vm₁, ⟨T', Lx, k', n'⟩, -, X', ⟨Lc, hQ, l1, l2, l3⟩, st⟩ := X.virtualBack hx (y := y) (z := y) hown (mvT hZ wl) (mvT hZ wd) (notFace_of_selects (args := #[]) (mvT hZ wse)) (mvT hZ wse) (mvT hZ wi) hy
    (backOf (W := (S.map fun v => v.category).sum) (Q := QL h ws' Q) (conN C) hZ wc wz (Nat.le_of_ble_eq_true hf) (Nat.le_of_ble_eq_true hl)) i1 i3 (g := mkF m pc L.toArray (argsL.reverse ++ .ref b :: S)) rfl (sz_of hml hsz) (Steps.refl _) (argsL := argsL) (rest := S) (XT.arity_len pd hna) rfl (by show 2 * 0 + _ ≤ _; omega) (by rw [hb]; exact h1)
    (fun _ _ => ⟨rfl, eT, Nat.le_of_ble_eq_true hc, Nat.le_of_ble_eq_true hs⟩)
  dsimp only [Pt.U, Pt.locs, Pt.cells, Pt.slots] at X' l1 l2 l3 st hQ
  subst l1 l2 l3
  obtain ⟨q1, q2, q3⟩ := hQ
  exact Go.st (fun _ hk => st.trans hk) (k T' _ v _ (P0.wrote X' rfl q2 q3 hq hsf) q2 q1)
theorem g_virtOW (P : W (some EL) Z a0 own bytes ins maxL ret nm h0 ws p l e R s m args below meth c vm0 T h locs cells slots) {index : Nat} {argsL : List Value} {na : Nat} {b : Addr} {Cn : String} (C : Con (some EL) Z l y [] bytes' maxL' ret' rm (.ref b :: argsL).toArray h ws' Q) (E : Exa Z h b Cn)
    (wl : (Jvm.Cond.methodLink own index y).before a0 Z = true) (wd : (Jvm.Cond.declares y).before a0 Z = true) (wse : (Jvm.Cond.selects Cn y y).before a0 Z = true) (wi : (Jvm.Cond.instanceMethod y).before a0 Z = true) (wz : (Jvm.Cond.initialized y.cls).before a0 Z = true) (wc : (Jvm.Cond.code y bytes' maxL' ret').before a0 Z = true) (pd : XT.arity y.desc = some na)
    (hq : ∀ x ∈ ws', x ∈ ws ∨ h0.size ≤ x)
    (k : ∀ vm1 T' h' v locs', W (some EL) Z a0 own bytes ins maxL ret nm h0 ws p l e R s m args below meth c vm1 T' h' locs' (cells + rm.cells) (slots + rm.slots) → Keep h h' ws' → Q v h' → Go p e below m T' nx L (v.toList ++ S) F)
    (hstk : S' = argsL.reverse ++ .ref b :: S) (hna : argsL.length = na) (hd : lk ins pc = some (.invokevirtual index, 3, nx, tg, kk)) (hsz : L.length = maxL) (hy : y.cls ≠ "java/lang/invoke/MethodHandle" ∧ y.cls ≠ "java/lang/invoke/VarHandle")
    (hf : Nat.ble (rm.frames + 1) R.frames = true) (hl : Nat.ble ((S.map fun v => v.category).sum + (maxL' + 11) + rm.locals) R.locals = true) (hc : Nat.ble (cells + rm.cells) R.cells = true) (hs : Nat.ble (slots + rm.slots) R.slots = true) : Go p e below m T pc L S' F := by
  have P0 := P
  obtain ⟨⟨hx, hb, D, hml, -⟩, X, eT, hZ, hown, -, -, -, -, -, -, t1, t2, t3⟩ := P
  obtain ⟨h1, rfl⟩ := D.at hd
  subst hstk
  obtain ⟨cB, kB, i1, i2, i3⟩ := isOf (s := s.setVm vm0) hZ eT E
  obtain ⟨v, vm₁, ⟨T', Lx, k', n'⟩, -, X', hS, hg, ⟨Lc, hQ, l1, l2, l3, hC⟩, st⟩ := X.virtualBackS hx (y := y) (z := y) hown (mvT hZ wl) (mvT hZ wd) (notFace_of_selects (args := #[]) (mvT hZ wse)) (mvT hZ wse) (mvT hZ wi) hy
    (backOfSH (W := (S.map fun v => v.category).sum) (Q := QL h ws' Q) (conW C) hZ wc wz (Nat.le_of_ble_eq_true hf) (Nat.le_of_ble_eq_true hl) t2 t3.1) i1 i3 (g := mkF m pc L.toArray (argsL.reverse ++ .ref b :: S)) rfl (sz_of hml hsz) (Steps.refl _) (argsL := argsL) (rest := S) (XT.arity_len pd hna) rfl (by show 2 * 0 + _ ≤ _; omega) (by rw [hb]; exact h1)
    (fun _ _ => ⟨rfl, eT, Nat.le_of_ble_eq_true hc, Nat.le_of_ble_eq_true hs⟩)
  dsimp only [Pt.U, Pt.locs, Pt.cells, Pt.slots] at X' l1 l2 l3 st hQ hS hg hC
  subst l1 l2 l3
  obtain ⟨q1, q2, q3⟩ := hQ
  exact Go.st (fun _ hk => st.trans hk) (k T'.vm T' _ v _ (P0.after X' hS hg q2 q3 hq hC) q2 q1)
/-- invokespecial of a constructor -/
theorem g_init (P : W md Z a0 own bytes ins maxL ret nm h0 ws p l e R s m args below meth c vm0 T h locs cells slots) {index : Nat} {argsL : List Value} {na : Nat} {b : Addr} {Q : Heap → Prop} (C : Con none Z l y [] bytes' maxL' none rm (.ref b :: argsL).toArray h ws' (rO Q))
    (wl : (Jvm.Cond.methodLink own index y).before a0 Z = true) (wi : (Jvm.Cond.instanceMethod y).before a0 Z = true) (wz : (Jvm.Cond.initialized y.cls).before a0 Z = true) (wc : (Jvm.Cond.code y bytes' maxL' none).before a0 Z = true) (pd : XT.arity y.desc = some na)
    (hq : ∀ x ∈ ws', x ∈ ws ∨ h0.size ≤ x) (hsf : ∀ x ∈ ws', SafeM md Z vm0 h x)
    (k : ∀ T' h' locs', W md Z a0 own bytes ins maxL ret nm h0 ws p l e R s m args below meth c vm0 T' h' locs' (cells + rm.cells) (slots + rm.slots) → Keep h h' ws' → Q h' → Go p e below m T' nx L S F)
    (hstk : S' = argsL.reverse ++ .ref b :: S := by rfl) (hna : argsL.length = na := by rfl) (hd : lk ins pc = some (.invokespecial index, 3, nx, tg, kk) := by rfl) (hsz : L.length = maxL := by rfl) (hy1 : y.name = "<init>" := by rfl) (hy : y.cls ≠ "java/lang/invoke/MethodHandle" ∧ y.cls ≠ "java/lang/invoke/VarHandle" := by decide)
    (hf : Nat.ble (rm.frames + 1) R.frames = true := by rfl) (hl : Nat.ble ((S.map fun v => v.category).sum + (maxL' + 11) + rm.locals) R.locals = true := by rfl) (hc : Nat.ble (cells + rm.cells) R.cells = true := by rfl) (hs : Nat.ble (slots + rm.slots) R.slots = true := by rfl) : Go p e below m T pc L S' F := by
  have P0 := P
  obtain ⟨⟨hx, hb, D, hml, -⟩, X, eT, hZ, hown, -⟩ := P
  obtain ⟨h1, rfl⟩ := D.at hd
  subst hstk
  obtain ⟨v, vm₁, ⟨T', Lx, k', n'⟩, -, X', ⟨Lc, hQ, l1, l2, l3⟩, st⟩ := X.specialBack hx (y := y) hy1 hown (mvT hZ wl) (mvT hZ wi) (mvT hZ wc) hy
    (backOf (W := (S.map fun v => v.category).sum) (Q := QL h ws' (rO Q)) (conN C) hZ wc wz (Nat.le_of_ble_eq_true hf) (Nat.le_of_ble_eq_true hl)) (g := mkF m pc L.toArray (argsL.reverse ++ .ref b :: S)) rfl (sz_of hml hsz) (Steps.refl _) (a := b) (argsL := argsL) (rest := S) (XT.arity_len pd hna) rfl (by show 2 * 0 + _ ≤ _; omega) (by rw [hb]; exact h1)
    (fun _ _ => ⟨rfl, eT, Nat.le_of_ble_eq_true hc, Nat.le_of_ble_eq_true hs⟩)
  dsimp only [Pt.U, Pt.locs, Pt.cells, Pt.slots] at X' l1 l2 l3 st hQ
  subst l1 l2 l3
  obtain ⟨⟨rfl, q1⟩, q2, q3⟩ := hQ
  exact Go.st (fun _ hk => st.trans hk) (k T' _ _ (P0.wrote X' rfl q2 q3 hq hsf) q2 q1)
theorem g_initW (P : W (some EL) Z a0 own bytes ins maxL ret nm h0 ws p l e R s m args below meth c vm0 T h locs cells slots) {index : Nat} {argsL : List Value} {na : Nat} {b : Addr} {Q : Heap → Prop} (C : Con (some EL) Z l y [] bytes' maxL' none rm (.ref b :: argsL).toArray h ws' (rO Q))
    (wl : (Jvm.Cond.methodLink own index y).before a0 Z = true) (wi : (Jvm.Cond.instanceMethod y).before a0 Z = true) (wz : (Jvm.Cond.initialized y.cls).before a0 Z = true) (wc : (Jvm.Cond.code y bytes' maxL' none).before a0 Z = true) (pd : XT.arity y.desc = some na)
    (hq : ∀ x ∈ ws', x ∈ ws ∨ h0.size ≤ x)
    (k : ∀ vm1 T' h' locs', W (some EL) Z a0 own bytes ins maxL ret nm h0 ws p l e R s m args below meth c vm1 T' h' locs' (cells + rm.cells) (slots + rm.slots) → Keep h h' ws' → Q h' → Go p e below m T' nx L S F)
    (hstk : S' = argsL.reverse ++ .ref b :: S := by rfl) (hna : argsL.length = na := by rfl) (hd : lk ins pc = some (.invokespecial index, 3, nx, tg, kk) := by rfl) (hsz : L.length = maxL := by rfl) (hy1 : y.name = "<init>" := by rfl) (hy : y.cls ≠ "java/lang/invoke/MethodHandle" ∧ y.cls ≠ "java/lang/invoke/VarHandle" := by decide)
    (hf : Nat.ble (rm.frames + 1) R.frames = true := by rfl) (hl : Nat.ble ((S.map fun v => v.category).sum + (maxL' + 11) + rm.locals) R.locals = true := by rfl) (hc : Nat.ble (cells + rm.cells) R.cells = true := by rfl) (hs : Nat.ble (slots + rm.slots) R.slots = true := by rfl) : Go p e below m T pc L S' F := by
  have P0 := P
  obtain ⟨⟨hx, hb, D, hml, -⟩, X, eT, hZ, hown, -, -, -, -, -, -, t1, t2, t3⟩ := P
  obtain ⟨h1, rfl⟩ := D.at hd
  subst hstk
  obtain ⟨v, vm₁, ⟨T', Lx, k', n'⟩, -, X', hS, hg, ⟨Lc, hQ, l1, l2, l3, hC⟩, st⟩ := X.specialBackS hx (y := y) hy1 hown (mvT hZ wl) (mvT hZ wi) (mvT hZ wc) hy
    (backOfSH (W := (S.map fun v => v.category).sum) (Q := QL h ws' (rO Q)) (conW C) hZ wc wz (Nat.le_of_ble_eq_true hf) (Nat.le_of_ble_eq_true hl) t2 t3.1) (g := mkF m pc L.toArray (argsL.reverse ++ .ref b :: S)) rfl (sz_of hml hsz) (Steps.refl _) (a := b) (argsL := argsL) (rest := S) (XT.arity_len pd hna) rfl (by show 2 * 0 + _ ≤ _; omega) (by rw [hb]; exact h1)
    (fun _ _ => ⟨rfl, eT, Nat.le_of_ble_eq_true hc, Nat.le_of_ble_eq_true hs⟩)
  dsimp only [Pt.U, Pt.locs, Pt.cells, Pt.slots] at X' l1 l2 l3 st hQ hS hg hC
  subst l1 l2 l3
  obtain ⟨⟨rfl, q1⟩, q2, q3⟩ := hQ
  exact Go.st (fun _ hk => st.trans hk) (k T'.vm T' _ _ (P0.after X' hS hg q2 q3 hq hC) q2 q1)
/-! the forms in which a walk calls: a value comes back (V), nothing (0); narrow, wide (W) -/
theorem no_ws {α : Prop} : ∀ x ∈ ([] : List Addr), α := fun _ q => nomatch q
theorem g_sV (P : W md Z a0 own bytes ins maxL ret nm h0 ws p l e R s m args below meth c vm0 T h locs cells slots) {index : Nat} {argsL : List Value} {na : Nat} {Q : Value → Heap → Prop} (C : Con none Z l y [] bytes' maxL' ret' rm argsL.toArray h [] (rV Q))
    (wl : (Jvm.Cond.methodLink own index y).before a0 Z = true) (wst : (Jvm.Cond.static y).before a0 Z = true) (wz : (Jvm.Cond.initialized y.cls).before a0 Z = true) (wc : (Jvm.Cond.code y bytes' maxL' ret').before a0 Z = true) (pd : XT.arity y.desc = some na)
    (k : ∀ T' h' v locs', W md Z a0 own bytes ins maxL ret nm h0 ws p l e R s m args below meth c vm0 T' h' locs' (cells + rm.cells) (slots + rm.slots) → Ext h h' → Q v h' → Go p e below m T' nx L (v :: S) F)
    (hstk : S' = argsL.reverse ++ S := by rfl) (hna : argsL.length = na := by rfl) (hd : lk ins pc = some (.invokestatic index, 3, nx, tg, kk) := by rfl) (hsz : L.length = maxL := by rfl) (hy : y.cls ≠ "java/lang/invoke/MethodHandle" ∧ y.cls ≠ "java/lang/invoke/VarHandle" := by decide)
    (hf : Nat.ble (rm.frames + 1) R.frames = true := by rfl) (hl : Nat.ble ((S.map fun v => v.category).sum + (maxL' + 11) + rm.locals) R.locals = true := by rfl) (hc : Nat.ble (cells + rm.cells) R.cells = true := by rfl) (hs : Nat.ble (slots + rm.slots) R.slots = true := by rfl) : Go p e below m T pc L S' F :=
  g_staticO P C wl wst wz wc pd (fun _ q => nomatch q) (fun _ q => nomatch q) (fun T' h' v locs' P' K hQ => by obtain ⟨x, rfl, q⟩ := hQ; exact k T' h' x locs' P' (ext_of_keep K) q) hstk hna hd hsz hy hf hl hc hs
theorem g_s0 (P : W md Z a0 own bytes ins maxL ret nm h0 ws p l e R s m args below meth c vm0 T h locs cells slots) {index : Nat} {argsL : List Value} {na : Nat} {Q : Heap → Prop} (C : Con none Z l y [] bytes' maxL' ret' rm argsL.toArray h ws' (rO Q))
    (wl : (Jvm.Cond.methodLink own index y).before a0 Z = true) (wst : (Jvm.Cond.static y).before a0 Z = true) (wz : (Jvm.Cond.initialized y.cls).before a0 Z = true) (wc : (Jvm.Cond.code y bytes' maxL' ret').before a0 Z = true) (pd : XT.arity y.desc = some na)
    (hq : ∀ x ∈ ws', x ∈ ws ∨ h0.size ≤ x) (hsf : ∀ x ∈ ws', SafeM md Z vm0 h x)
    (k : ∀ T' h' locs', W md Z a0 own bytes ins maxL ret nm h0 ws p l e R s m args below meth c vm0 T' h' locs' (cells + rm.cells) (slots + rm.slots) → Keep h h' ws' → Q h' → Go p e below m T' nx L S F)
    (hstk : S' = argsL.reverse ++ S := by rfl) (hna : argsL.length = na := by rfl) (hd : lk ins pc = some (.invokestatic index, 3, nx, tg, kk) := by rfl) (hsz : L.length = maxL := by rfl) (hy : y.cls ≠ "java/lang/invoke/MethodHandle" ∧ y.cls ≠ "java/lang/invoke/VarHandle" := by decide)
    (hf : Nat.ble (rm.frames + 1) R.frames = true := by rfl) (hl : Nat.ble ((S.map fun v => v.category).sum + (maxL' + 11) + rm.locals) R.locals = true := by rfl) (hc : Nat.ble (cells + rm.cells) R.cells = true := by rfl) (hs : Nat.ble (slots + rm.slots) R.slots = true := by rfl) : Go p e below m T pc L S' F :=
  g_staticO P C wl wst wz wc pd hq hsf (fun T' h' v locs' P' K hQ => by obtain ⟨rfl, q⟩ := hQ; exact k T' h' locs' P' K q) hstk hna hd hsz hy hf hl hc hs
/-- a static callee that writes into ws' and hands back a value -/
theorem g_sVw (P : W md Z a0 own bytes ins maxL ret nm h0 ws p l e R s m args below meth c vm0 T h locs cells slots) {index : Nat} {argsL : List Value} {na : Nat} {Q : Value → Heap → Prop} (C : Con none Z l y [] bytes' maxL' ret' rm argsL.toArray h ws' (rV Q))
    (wl : (Jvm.Cond.methodLink own index y).before a0 Z = true) (wst : (Jvm.Cond.static y).before a0 Z = true) (wz : (Jvm.Cond.initialized y.cls).before a0 Z = true) (wc : (Jvm.Cond.code y bytes' maxL' ret').before a0 Z = true) (pd : XT.arity y.desc = some na)
    (hq : ∀ x ∈ ws', x ∈ ws ∨ h0.size ≤ x) (hsf : ∀ x ∈ ws', SafeM md Z vm0 h x)
    (k : ∀ T' h' v locs', W md Z a0 own bytes ins maxL ret nm h0 ws p l e R s m args below meth c vm0 T' h' locs' (cells + rm.cells) (slots + rm.slots) → Keep h h' ws' → Q v h' → Go p e below m T' nx L (v :: S) F)
    (hstk : S' = argsL.reverse ++ S := by rfl) (hna : argsL.length = na := by rfl) (hd : lk ins pc = some (.invokestatic index, 3, nx, tg, kk) := by rfl) (hsz : L.length = maxL := by rfl) (hy : y.cls ≠ "java/lang/invoke/MethodHandle" ∧ y.cls ≠ "java/lang/invoke/VarHandle" := by decide)
    (hf : Nat.ble (rm.frames + 1) R.frames = true := by rfl) (hl : Nat.ble ((S.map fun v => v.category).sum + (maxL' + 11) + rm.locals) R.locals = true := by rfl) (hc : Nat.ble (cells + rm.cells) R.cells = true := by rfl) (hs : Nat.ble (slots + rm.slots) R.slots = true := by rfl) : Go p e below m T pc L S' F :=
  g_staticO P C wl wst wz wc pd hq hsf (fun T' h' v locs' P' K hQ => by obtain ⟨x, rfl, q⟩ := hQ; exact k T' h' x locs' P' K q) hstk hna hd hsz hy hf hl hc hs
theorem g_sVW (P : W (some EL) Z a0 own bytes ins maxL ret nm h0 ws p l e R s m args below meth c vm0 T h locs cells slots) {index : Nat} {argsL : List Value} {na : Nat} {Q : Value → Heap → Prop} (C : Con (some EL) Z l y [] bytes' maxL' ret' rm argsL.toArray h [] (rV Q))
    (wl : (Jvm.Cond.methodLink own index y).before a0 Z = true) (wst : (Jvm.Cond.static y).before a0 Z = true) (wz : (Jvm.Cond.initialized y.cls).before a0 Z = true) (wc : (Jvm.Cond.code y bytes' maxL' ret').before a0 Z = true) (pd : XT.arity y.desc = some na)
    (k : ∀ vm1 T' h' v locs', W (some EL) Z a0 own bytes ins maxL ret nm h0 ws p l e R s m args below meth c vm1 T' h' locs' (cells + rm.cells) (slots + rm.slots) → Ext h h' → Q v h' → Go p e below m T' nx L (v :: S) F)
    (hstk : S' = argsL.reverse ++ S := by rfl) (hna : argsL.length = na := by rfl) (hd : lk ins pc = some (.invokestatic index, 3, nx, tg, kk) := by rfl) (hsz : L.length = maxL := by rfl) (hy : y.cls ≠ "java/lang/invoke/MethodHandle" ∧ y.cls ≠ "java/lang/invoke/VarHandle" := by decide)
    (hf : Nat.ble (rm.frames + 1) R.frames = true := by rfl) (hl : Nat.ble ((S.map fun v => v.category).sum + (maxL' + 11) + rm.locals) R.locals = true := by rfl) (hc : Nat.ble (cells + rm.cells) R.cells = true := by rfl) (hs : Nat.ble (slots + rm.slots) R.slots = true := by rfl) : Go p e below m T pc L S' F :=
  g_staticOW P C wl wst wz wc pd (fun _ q => nomatch q) (fun vm1 T' h' v locs' P' K hQ => by obtain ⟨x, rfl, q⟩ := hQ; exact k vm1 T' h' x locs' P' (ext_of_keep K) q) hstk hna hd hsz hy hf hl hc hs
theorem g_vV (P : W md Z a0 own bytes ins maxL ret nm h0 ws p l e R s m args below meth c vm0 T h locs cells slots) {index : Nat} {argsL : List Value} {na : Nat} {b : Addr} {Cn : String} {Q : Value → Heap → Prop} (C : Con none Z l y [] bytes' maxL' ret' rm (.ref b :: argsL).toArray h [] (rV Q)) (E : Exa Z h b Cn)
    (wl : (Jvm.Cond.methodLink own index y).before a0 Z = true) (wd : (Jvm.Cond.declares y).before a0 Z = true) (wse : (Jvm.Cond.selects Cn y y).before a0 Z = true) (wi : (Jvm.Cond.instanceMethod y).before a0 Z = true) (wz : (Jvm.Cond.initialized y.cls).before a0 Z = true) (wc : (Jvm.Cond.code y bytes' maxL' ret').before a0 Z = true) (pd : XT.arity y.desc = some na)
    (k : ∀ T' h' v locs', W md Z a0 own bytes ins maxL ret nm h0 ws p l e R s m args below meth c vm0 T' h' locs' (cells + rm.cells) (slots + rm.slots) → Ext h h' → Q v h' → Go p e below m T' nx L (v :: S) F)
    (hstk : S' = argsL.reverse ++ .ref b :: S := by rfl) (hna : argsL.length = na := by rfl) (hd : lk ins pc = some (.invokevirtual index, 3, nx, tg, kk) := by rfl) (hsz : L.length = maxL := by rfl) (hy : y.cls ≠ "java/lang/invoke/MethodHandle" ∧ y.cls ≠ "java/lang/invoke/VarHandle" := by decide)
    (hf : Nat.ble (rm.frames + 1) R.frames = true := by rfl) (hl : Nat.ble ((S.map fun v => v.category).sum + (maxL' + 11) + rm.locals) R.locals = true := by rfl) (hc : Nat.ble (cells + rm.cells) R.cells = true := by rfl) (hs : Nat.ble (slots + rm.slots) R.slots = true := by rfl) : Go p e below m T pc L S' F :=
  g_virtO P C E wl wd wse wi wz wc pd (fun _ q => nomatch q) (fun _ q => nomatch q) (fun T' h' v locs' P' K hQ => by obtain ⟨x, rfl, q⟩ := hQ; exact k T' h' x locs' P' (ext_of_keep K) q) hstk hna hd hsz hy hf hl hc hs
theorem g_v0 (P : W md Z a0 own bytes ins maxL ret nm h0 ws p l e R s m args below meth c vm0 T h locs cells slots) {index : Nat} {argsL : List Value} {na : Nat} {b : Addr} {Cn : String} {Q : Heap → Prop} (C : Con none Z l y [] bytes' maxL' ret' rm (.ref b :: argsL).toArray h ws' (rO Q)) (E : Exa Z h b Cn)
    (wl : (Jvm.Cond.methodLink own index y).before a0 Z = true) (wd : (Jvm.Cond.declares y).before a0 Z = true) (wse : (Jvm.Cond.selects Cn y y).before a0 Z = true) (wi : (Jvm.Cond.instanceMethod y).before a0 Z = true) (wz : (Jvm.Cond.initialized y.cls).before a0 Z = true) (wc : (Jvm.Cond.code y bytes' maxL' ret').before a0 Z = true) (pd : XT.arity y.desc = some na)
    (hq : ∀ x ∈ ws', x ∈ ws ∨ h0.size ≤ x) (hsf : ∀ x ∈ ws', SafeM md Z vm0 h x)
    (k : ∀ T' h' locs', W md Z a0 own bytes ins maxL ret nm h0 ws p l e R s m args below meth c vm0 T' h' locs' (cells + rm.cells) (slots + rm.slots) → Keep h h' ws' → Q h' → Go p e below m T' nx L S F)
    (hstk : S' = argsL.reverse ++ .ref b :: S := by rfl) (hna : argsL.length = na := by rfl) (hd : lk ins pc = some (.invokevirtual index, 3, nx, tg, kk) := by rfl) (hsz : L.length = maxL := by rfl) (hy : y.cls ≠ "java/lang/invoke/MethodHandle" ∧ y.cls ≠ "java/lang/invoke/VarHandle" := by decide)
    (hf : Nat.ble (rm.frames + 1) R.frames = true := by rfl) (hl : Nat.ble ((S.map fun v => v.category).sum + (maxL' + 11) + rm.locals) R.locals = true := by rfl) (hc : Nat.ble (cells + rm.cells) R.cells = true := by rfl) (hs : Nat.ble (slots + rm.slots) R.slots = true := by rfl) : Go p e below m T pc L S' F :=
  g_virtO P C E wl wd wse wi wz wc pd hq hsf (fun T' h' v locs' P' K hQ => by obtain ⟨rfl, q⟩ := hQ; exact k T' h' locs' P' K q) hstk hna hd hsz hy hf hl hc hs
theorem g_vVW (P : W (some EL) Z a0 own bytes ins maxL ret nm h0 ws p l e R s m args below meth c vm0 T h locs cells slots) {index : Nat} {argsL : List Value} {na : Nat} {b : Addr} {Cn : String} {Q : Value → Heap → Prop} (C : Con (some EL) Z l y [] bytes' maxL' ret' rm (.ref b :: argsL).toArray h [] (rV Q)) (E : Exa Z h b Cn)
    (wl : (Jvm.Cond.methodLink own index y).before a0 Z = true) (wd : (Jvm.Cond.declares y).before a0 Z = true) (wse : (Jvm.Cond.selects Cn y y).before a0 Z = true) (wi : (Jvm.Cond.instanceMethod y).before a0 Z = true) (wz : (Jvm.Cond.initialized y.cls).before a0 Z = true) (wc : (Jvm.Cond.code y bytes' maxL' ret').before a0 Z = true) (pd : XT.arity y.desc = some na)
    (k : ∀ vm1 T' h' v locs', W (some EL) Z a0 own bytes ins maxL ret nm h0 ws p l e R s m args below meth c vm1 T' h' locs' (cells + rm.cells) (slots + rm.slots) → Ext h h' → Q v h' → Go p e below m T' nx L (v :: S) F)
    (hstk : S' = argsL.reverse ++ .ref b :: S := by rfl) (hna : argsL.length = na := by rfl) (hd : lk ins pc = some (.invokevirtual index, 3, nx, tg, kk) := by rfl) (hsz : L.length = maxL := by rfl) (hy : y.cls ≠ "java/lang/invoke/MethodHandle" ∧ y.cls ≠ "java/lang/invoke/VarHandle" := by decide)
    (hf : Nat.ble (rm.frames + 1) R.frames = true := by rfl) (hl : Nat.ble ((S.map fun v => v.category).sum + (maxL' + 11) + rm.locals) R.locals = true := by rfl) (hc : Nat.ble (cells + rm.cells) R.cells = true := by rfl) (hs : Nat.ble (slots + rm.slots) R.slots = true := by rfl) : Go p e below m T pc L S' F :=
  g_virtOW P C E wl wd wse wi wz wc pd (fun _ q => nomatch q) (fun vm1 T' h' v locs' P' K hQ => by obtain ⟨x, rfl, q⟩ := hQ; exact k vm1 T' h' x locs' P' (ext_of_keep K) q) hstk hna hd hsz hy hf hl hc hs
end Calls
end Jvm.Own

namespace Jvm.Own
open Jvm Jvm.ClassFile Sem Op Lib Jvm.Free Jvm.Stand Jvm.LawKit Jvm.RoadKit Bundle
/-! ### F. Strings -/
abbrev STR : String := "java/lang/String"
abbrev Rm (f lo c sl : Nat) : Room := { frames := f, cells := c, slots := sl, locals := lo }
def bts (cs : List Int32) : List Value := cs.map fun c => .int (i2bv c)
def chs (cs : List Int32) : List Value := cs.map fun c => .int c
def StrL (Z : State) (h : Heap) (a : Addr) (cs : List Int32) : Prop := Exa Z h a STR ∧ Fld Z h a STR "coder" "B" (.int 0) ∧ (∃ b, Fld Z h a STR "value" "[B" (.ref b) ∧ Arq Z h b .byte (bts cs)) ∧ ∀ c ∈ cs, La c
theorem StrL.ext {Z : State} {h h' : Heap} {a : Addr} {cs : List Int32} (F : StrL Z h a cs) (E : Ext h h') : StrL Z h' a cs := by
  obtain ⟨h1, h2, ⟨b, h3, h4⟩, h5⟩ := F; exact ⟨h1.ext E, h2.ext E, ⟨b, h3.ext E, h4.ext E⟩, h5⟩
theorem StrL.lt {Z : State} {h : Heap} {a : Addr} {cs : List Int32} (F : StrL Z h a cs) : a < h.size := F.1.lt
theorem StrL.len {Z : State} {h : Heap} {a : Addr} {cs : List Int32} (F : StrL Z h a cs) : cs.length < 2147483648 := by
  obtain ⟨-, -, ⟨b, -, c, -, -, q, -⟩, -⟩ := F; simpa [bts] using q
theorem arq_exa {Z : State} {a0 : Array Value} {h : Heap} {a : Addr} {C : String} {ki : Nat} {ty : FieldType} {vs : List Value} (A : Arq Z h a ty vs) (X : Exa Z h a C) (wi : (Jvm.Cond.instantiable C ki).before a0 Z = true) : False := by
  obtain ⟨c, A, -⟩ := A; exact ne_arr X wi A rfl
/-- the statics that Strings lean on -/
def Glob (Z : State) : Prop := ∃ q : Int32, Sta Z Z.heap STR "COMPACT_STRINGS" "Z" (.int q) ∧ q ≠ 0
def GlobF (Z : State) : Prop := ∃ v : Value, Sta Z Z.heap "jdk/internal/util/Preconditions" "SIOOBE_FORMATTER" "Ljava/util/function/BiFunction;" v ∧ (v = .null ∨ ∃ r, v = .ref r)
/-- a String that is being made isn't booked -/
theorem safe_null {Z : State} {a0 : Array Value} {EL : List (String × Nat)} {vm : Vm} {h : Heap} {a : Addr} {ki : Nat} (hal : Z.vm.Alike vm) (wi : (Jvm.Cond.instantiable STR ki).before a0 Z = true) (E : Exa Z h a STR) (Fl : Fld Z h a STR "value" "[B" .null) : Safe Z EL vm h a := by
  rintro ⟨pp, -, u, a', -, q, -, ⟨cS, ⟨⟨s1, s2, s3, ⟨cv, kv, iv, s4, s4'⟩, -, s6, -, s8, -, s10, s11, -⟩, -⟩, -⟩, rfl | rfl⟩
  · obtain ⟨cell, cf, k, i, f, h1, h2, h3, h4, h5, h6, h7⟩ := Fl
    have e1 : h[q.sa]? = some q.sC := s1
    cases h1.symm.trans e1
    obtain ⟨k2, e2⟩ := ff_back (U := Wst Z vm h) hal s4
    have e3 := h2.symm.trans e2
    simp only [Option.some.injEq, Prod.mk.injEq] at e3
    rw [e3.2.2.2] at h7
    rw [h7] at s8
    cases s8
  · obtain ⟨c1, k1, h1, h2, h3, h4, h5⟩ := E
    have e1 : h[q.sd]? = some q.SA := s10
    cases h1.symm.trans e1
    obtain ⟨c2, k2, i1, i2, i3, -⟩ := Cond.instantiable_spec wi
    cases h2.symm.trans i1
    cases h3.symm.trans i2
    obtain ⟨-, k9, hk9, comp, hkind9⟩ := s11
    obtain ⟨k', q1, q2⟩ := hal.2.2 _ _ h3
    have hk9 : vm.classes[q.SA.cls]? = some k9 := hk9
    cases hk9.symm.trans q1
    rw [q2] at hkind9
    have : k1.kind = _ := hkind9
    rw [i3] at this; cases this
end Jvm.Own

namespace Jvm.Own
open Jvm Jvm.ClassFile Sem Op Lib Jvm.Free Jvm.Stand Jvm.LawKit Jvm.RoadKit Bundle
theorem fill_next (cs : List Int32) (i r : Nat) (hi : i < cs.length) : (bts (cs.take i) ++ List.replicate (r + 1) (Value.int 0)).set i (.int (i2bv cs[i])) = bts (cs.take (i + 1)) ++ List.replicate r (.int 0) := by
  have hl : (bts (cs.take i)).length = i := by simp [bts]; omega
  rw [List.set_append_right _ _ (by omega), hl, Nat.sub_self, List.replicate_succ, List.set_cons_zero]
  rw [List.take_add_one, List.getElem?_eq_getElem hi]
  simp only [bts, List.map_append, Option.toList, List.map_cons, List.map_nil, List.append_assoc, List.singleton_append]
theorem la_nil : ∀ c ∈ ([] : List Int32), La c := fun _ q => nomatch q
theorem la_cons {x : Int32} {xs : List Int32} (h : La x) (r : ∀ c ∈ xs, La c) : ∀ c ∈ x :: xs, La c := fun c hc => by
  rcases List.mem_cons.mp hc with rfl | q
  · exact h
  · exact r c q
theorem bts_inj {cs ds : List Int32} (h1 : ∀ c ∈ cs, La c) (h2 : ∀ c ∈ ds, La c) (e : bts cs = bts ds) : cs = ds := by
  induction cs generalizing ds with
  | nil => cases ds with
    | nil => rfl
    | cons d ds => simp [bts] at e
  | cons c cs ih => cases ds with
    | nil => simp [bts] at e
    | cons d ds =>
      simp only [bts, List.map_cons, List.cons.injEq, Value.int.injEq] at e
      rw [la_inj (h1 c (List.mem_cons_self ..)) (h2 d (List.mem_cons_self ..)) e.1, ih (fun x hx => h1 x (List.mem_cons_of_mem _ hx)) (fun x hx => h2 x (List.mem_cons_of_mem _ hx)) e.2]
end Jvm.Own

namespace Jvm.Own
open Jvm Jvm.ClassFile Sem Op Lib Jvm.Free Jvm.Stand Jvm.LawKit Jvm.RoadKit Bundle
theorem and31_nonneg (x : Int32) : 0 ≤ (x &&& 2147483647).toInt := by
  have := and_toInt x 31 (by omega)
  rw [show Int32.ofNat (2 ^ 31 - 1) = 2147483647 from rfl] at this
  rw [this]; omega
theorem rem_toInt {x y : Int32} (hx : 0 ≤ x.toInt) : (x % y).toInt = x.toInt % y.toInt := by rw [Int32.toInt_mod, Int.tmod_eq_emod_of_nonneg hx]
theorem div_toInt {x y : Int32} (hx : 0 ≤ x.toInt) (hy : 0 < y.toInt) : (x / y).toInt = x.toInt / y.toInt := by
  rw [Int32.toInt_div, Int.tdiv_eq_ediv_of_nonneg hx]
  have h1 : x.toInt / y.toInt ≤ x.toInt := Int.ediv_le_self _ hx
  have h2 := x.toInt_lt
  have h3 : 0 ≤ x.toInt / y.toInt := Int.ediv_nonneg hx (by omega)
  exact Int.bmod_eq_of_le (by omega) (by omega)
/-- (x & 0x7fffffff) % k -/
theorem rem_nat (x y : Int32) (k : Nat) (hy : y = Int32.ofNat k) (hk : 0 < k) (hk2 : k < 2147483648) : ∃ n : Nat, n < k ∧ (x &&& 2147483647) % y = Int32.ofNat n := by
  subst hy
  have h0 := and31_nonneg x
  have h1 := rem_toInt (y := Int32.ofNat k) h0
  rw [ofN_toInt hk2] at h1
  have h2 := Int.emod_nonneg ((x &&& 2147483647).toInt) (show (k : Int) ≠ 0 by omega)
  have h3 := Int.emod_lt_of_pos ((x &&& 2147483647).toInt) (show (0 : Int) < k by omega)
  refine ⟨((x &&& 2147483647).toInt % k).toNat, by omega, toInt_ext ?_⟩
  rw [h1, ofN_toInt (by omega)]; omega
theorem ofN_inj {i j : Nat} (hi : i < 2147483648) (hj : j < 2147483648) (h : Int32.ofNat i = Int32.ofNat j) : i = j := by
  have := congrArg Int32.toInt h; rw [ofN_toInt hi, ofN_toInt hj] at this; omega
end Jvm.Own

namespace Jvm.Own
open Jvm Jvm.ClassFile Sem Op Lib Jvm.Free Jvm.Stand Jvm.LawKit Jvm.RoadKit Bundle
section More
variable {md : Option (List (String × Nat))} {EL : List (String × Nat)} {Z : State} {a0 : Array Value} {own : String} {bytes : ByteArray} {ins : List Ent} {maxL : Nat} {ret : Option FieldType} {nm : String} {h0 : Heap} {ws : List Addr}
  {p : Program} {l : Launch} {e : Env} {R : Room} {s : State} {m : MethodId} {args : Array Value} {below : List Frame} {meth : Method} {c : Code} {vm0 : Vm} {T : State} {h : Heap} {locs : List Loc} {cells slots : Nat}
  {F : Fin'} {pc n nx tg : Nat} {kk : Int32} {L L' : List Slot} {S S' : List Value}
theorem W.mono (P : W md Z a0 own bytes ins maxL ret nm h0 ws p l e R s m args below meth c vm0 T h locs cells slots) (cells' slots' : Nat) (hc : Nat.ble cells cells' = true := by rfl) (hs : Nat.ble slots slots' = true := by rfl) : W md Z a0 own bytes ins maxL ret nm h0 ws p l e R s m args below meth c vm0 T h locs cells' slots' := by
  obtain ⟨C, X, r⟩ := P
  exact ⟨C, X.mono (Nat.le_of_ble_eq_true hc) (Nat.le_of_ble_eq_true hs), r⟩
theorem g_instY (P : W md Z a0 own bytes ins maxL ret nm h0 ws p l e R s m args below meth c vm0 T h locs cells slots) {K : String} {index : Nat} {a : Addr} (w : (Jvm.Cond.classLink own index K).before a0 Z = true) (I : Ins Z h a K true)
    (k : ∀ T', W md Z a0 own bytes ins maxL ret nm h0 ws p l e R s m args below meth c vm0 T' h locs cells slots → Go p e below m T' nx L (.int 1 :: S) F) (hd : lk ins pc = some (.instanceof index, 3, nx, tg, kk) := by rfl) : Go p e below m T pc L (.ref a :: S) F := by
  have P0 := P
  obtain ⟨⟨hx, hb, D, -⟩, X, eT, hZ, hown, -⟩ := P
  obtain ⟨hdec, rfl⟩ := D.at hd
  obtain ⟨T', X', e', st⟩ := instY X hx hZ hown w eT I (g := mkF m pc L.toArray (.ref a :: S)) rfl rfl (by rw [hb]; exact hdec)
  exact Go.st st (k T' (P0.same X' e'))
theorem g_castY (P : W md Z a0 own bytes ins maxL ret nm h0 ws p l e R s m args below meth c vm0 T h locs cells slots) {K : String} {index : Nat} {a : Addr} (w : (Jvm.Cond.classLink own index K).before a0 Z = true) (I : Ins Z h a K true)
    (k : ∀ T', W md Z a0 own bytes ins maxL ret nm h0 ws p l e R s m args below meth c vm0 T' h locs cells slots → Go p e below m T' nx L (.ref a :: S) F) (hd : lk ins pc = some (.checkcast index, 3, nx, tg, kk) := by rfl) : Go p e below m T pc L (.ref a :: S) F := by
  have P0 := P
  obtain ⟨⟨hx, hb, D, -⟩, X, eT, hZ, hown, -⟩ := P
  obtain ⟨hdec, rfl⟩ := D.at hd
  obtain ⟨T', X', e', st⟩ := castY X hx hZ hown w eT I (g := mkF m pc L.toArray (.ref a :: S)) rfl rfl (by rw [hb]; exact hdec)
  exact Go.st st (k T' (P0.same X' e'))
theorem Arq.arv {b : Addr} {ty : FieldType} {vs : List Value} (A : Arq Z h b ty vs) (dv : Value) : ∃ k, Arv Z h b k ty (Int32.ofNat vs.length) vs dv := by
  obtain ⟨c, A, q, hl, hf⟩ := A
  have hs : c.slots.size = vs.length := Arq.size q
  have e0 : (0 : Int32).toInt = 0 := rfl
  refine ⟨c.cls, c, A, rfl, by rw [(ix_ofN hl).nat]; exact hs, by rw [Int32.lt_iff_toInt_lt, ofN_toInt hl, e0]; omega, fun i hi => ?_, fun i hi => ?_⟩
  · rw [← Array.getElem?_toList, q, List.getD_eq_getElem?_getD, List.getElem?_eq_getElem (by omega)]; rfl
  · rw [List.getD_eq_getElem?_getD, List.getElem?_eq_getElem (by omega)]
    exact hf _ (List.getElem_mem _)
theorem W.wroteL (P : W md Z a0 own bytes ins maxL ret nm h0 ws p l e R s m args below meth c vm0 T h locs cells slots) {T' : State} {h' : Heap} {Lc : List Loc} {cells' slots' : Nat} {ws' : List Addr} (X' : Stand p l e R (s.setVm vm0) m args below meth c T' Lc cells' slots') (e' : T'.heap = h')
    (K : Keep h h' ws') (hL : ∀ y ∈ Lc, y.base ∈ ws ∨ h0.size ≤ y.base) (hq : ∀ x ∈ ws', x ∈ ws ∨ h0.size ≤ x) (hsf : ∀ x ∈ ws', SafeM md Z vm0 h x) :
    W md Z a0 own bytes ins maxL ret nm h0 ws p l e R s m args below meth c vm0 T' h' Lc cells' slots' := by
  have hfr := fun x (hx : x ∈ ws') => P.fresh (hq x hx)
  obtain ⟨C, X, eT, hZ, hown, hE, hK, hN, hws, h0s, hh0, hT⟩ := P
  refine ⟨C, X', e', hZ, hown, ext_keep hE K hfr, hK.trans K hq, hL, hws, h0s, hh0, ?_⟩
  cases md with
  | none => exact hT
  | some EL => exact ⟨⟨hT.1.1, hT.1.2.mono K.1⟩, hT.2.1, hT.2.2.trans (CHr.keep K hsf hT.2.2.1)⟩
theorem range_take {vs : List Value} {i k : Nat} {dv : Value} (h : i + k ≤ vs.length) : ((List.range k).map fun t => vs.getD (i + t) dv) = (vs.drop i).take k := by
  apply List.ext_getElem?
  intro t
  by_cases ht : t < k
  · rw [List.getElem?_map, List.getElem?_range ht, List.getElem?_take_of_lt ht, List.getElem?_drop, List.getElem?_eq_getElem (by omega)]
    simp [List.getD_eq_getElem?_getD, List.getElem?_eq_getElem (show i + t < vs.length by omega)]
  · rw [List.getElem?_eq_none (by simpa using Nat.le_of_not_lt ht), List.getElem?_eq_none (by rw [List.length_take]; omega)]
/-- System.arraycopy between two arrays of one primitive type, in a method that writes nothing old -/
theorem g_acopy (P : W md Z a0 own bytes ins maxL ret nm h0 [] p l e R s m args below meth c vm0 T h locs cells slots) {index : Nat} {a b : Addr} {ty : FieldType} {vs vd : List Value} {sp dp nn : Int32} {i j k : Nat}
    (w1 : (Jvm.Cond.methodLink own index Jvm.Stand.acN).before a0 Z = true) (w2 : (Jvm.Cond.native Jvm.Stand.acN).before a0 Z = true) (w3 : (Jvm.Cond.static Jvm.Stand.acN).before a0 Z = true) (w4 : (Jvm.Cond.initialized "java/lang/System").before a0 Z = true)
    (A : Arq Z h a ty vs) (B : Arq Z h b ty vd) (hty : refKind ty = false) (h1 : Ix sp i) (h2 : Ix dp j) (h3 : Ix nn k) (h4 : i + k ≤ vs.length) (h5 : j + k ≤ vd.length) (hq : h0.size ≤ b) (hsf : SafeM md Z vm0 h b)
    (kk' : ∀ T' h' locs', W md Z a0 own bytes ins maxL ret nm h0 [] p l e R s m args below meth c vm0 T' h' locs' cells slots → Keep h h' [b] → Arq Z h' b ty (vd.take j ++ (vs.drop i).take k ++ vd.drop (j + k)) → Go p e below m T' nx L S F)
    (hd : lk ins pc = some (.invokestatic index, 3, nx, tg, kk) := by rfl) (hsz : L.length = maxL := by rfl) (hf : Nat.ble 1 R.frames = true := by rfl) (hl : Nat.ble ((S.map fun v => v.category).sum + (nativeFrameWords "java/lang/System" "arraycopy" 5 + 11)) R.locals = true := by rfl) :
    Go p e below m T pc L (.int nn :: .int dp :: .ref b :: .int sp :: .ref a :: S) F := by
  have P0 := P
  obtain ⟨⟨hx, hb, D, hml, -⟩, X, eT, hZ, hown, hE, hK, hN, hws, h0s, hh0, hT⟩ := P
  obtain ⟨hdec, rfl⟩ := D.at hd
  obtain ⟨ka, Av⟩ := A.arv (.int 0)
  obtain ⟨kb, Bv⟩ := B.arv (.int 0)
  have la : vs.length < 2147483648 := by obtain ⟨c, -, -, q, -⟩ := A; exact q
  have lb : vd.length < 2147483648 := by obtain ⟨c, -, -, q, -⟩ := B; exact q
  have ng : ∀ {x : Int32} {t : Nat}, Ix x t → ¬ x < 0 := fun {x t} q => by
    have e0 : (0 : Int32).toInt = 0 := rfl
    rw [Int32.lt_iff_toInt_lt, show x.toInt = _ from q, e0]; omega
  obtain ⟨T', h', Lx, X', e', N', K, Bn, st⟩ := cpA X hx hZ hown w1 w2 w3 w4 eT Av Bv (Or.inl ⟨rfl, hty⟩) (ng h1) (ng h2) (ng h3) (by rw [h1.nat, h3.nat, (ix_ofN la).nat]; exact h4) (by rw [h2.nat, h3.nat, (ix_ofN lb).nat]; exact h5) rfl (by rw [h2.nat, h3.nat]; exact h5)
    (n0 := h0.size) (fun y hy => (hN y hy).resolve_left (fun q => nomatch q)) hq (g := mkF m pc L.toArray (.int nn :: .int dp :: .ref b :: .int sp :: .ref a :: S)) rfl (sz_of hml hsz) rfl (by rw [hb]; exact hdec) (Nat.le_of_ble_eq_true hf) (W := (S.map fun v => v.category).sum) (by show 2 * 0 + _ ≤ _; omega) (Nat.le_of_ble_eq_true hl)
  refine Go.st st (kk' T' h' Lx (P0.wroteL X' e' K (fun y hy => Or.inr (N' y hy)) (fun x hx => by cases List.mem_singleton.mp hx; exact Or.inr hq) (fun x hx => by cases List.mem_singleton.mp hx; exact hsf)) K ?_)
  rw [h1.nat, h2.nat, h3.nat, range_take h4] at Bn
  refine Arq.of_arv Bn ?_
  rw [(ix_ofN lb).nat]
  simp only [List.length_append, List.length_take, List.length_drop]
  omega
end More
end Jvm.Own

namespace Jvm.Own
open Jvm Jvm.ClassFile Sem Op Lib Jvm.Free Jvm.Stand Jvm.LawKit Jvm.RoadKit Bundle
section Lits
variable {EL : List (String × Nat)} {Z : State} {a0 : Array Value} {own : String} {bytes : ByteArray} {ins : List Ent} {maxL : Nat} {ret : Option FieldType} {nm : String} {h0 : Heap} {ws : List Addr}
  {p : Program} {l : Launch} {e : Env} {R : Room} {s : State} {m : MethodId} {args : Array Value} {below : List Frame} {meth : Method} {c : Code} {vm0 : Vm} {T : State} {h : Heap} {locs : List Loc} {cells slots : Nat}
  {F : Fin'} {pc nx tg : Nat} {kk : Int32} {L : List Slot} {S : List Value}
/-- ldc of a String constant that is held: its text -/
theorem g_ldcS (P : W (some EL) Z a0 own bytes ins maxL ret nm h0 ws p l e R s m args below meth c vm0 T h locs cells slots) {index : Nat} {text : String} (w : (Jvm.Cond.stringLink own index text).before a0 Z = true) (wS : ∀ a ∈ Bundle.stringAtoms, a.before a0 Z = true) (hmem : (own, index) ∈ EL)
    (cs : List Int32) (n : Nat) (ht : (∀ c ∈ text.toList, c.toNat < 256) ∧ text.toList.map (fun c => Value.int (Jvm.Lit.byteI c.toNat.toUInt16)) = bts cs) (hla : ∀ c ∈ cs, La c) (hlen : cs.length < 2147483648) (hn : 4 * text.toList.length ≤ n)
    (k : ∀ vm1 T' h' a, W (some EL) Z a0 own bytes ins maxL ret nm h0 ws p l e R s m args below meth c vm1 T' h' locs (cells + 2) (slots + (n + 4)) → Ext h h' → StrL Z h' a cs → (∀ x, x < h.size → Safe Z EL vm0 h x → Safe Z EL vm1 h' x) → Go p e below m T' nx L (.ref a :: S) F)
    (hd : lk ins pc = some (.ldc index, 2, nx, tg, kk) := by rfl) (hc : Nat.ble (cells + 2) R.cells = true := by rfl) (hl : Nat.ble (slots + (n + 4)) R.slots = true := by rfl) (hbig : Nat.ble n 536870912 = true := by rfl) : Go p e below m T pc L S F := by
  have P0 := P
  obtain ⟨C, X, eT, hZ, hown, hE, hK, hN, hws, h0s, hh0, t1, t2, t3⟩ := P
  obtain ⟨hx, hb, D, -⟩ := id C
  obtain ⟨hdec, rfl⟩ := D.at hd
  obtain ⟨a, T', h', k1, b, kc, X', e', E, hS, hk1, hZ', hown', q1, q2, q3, q4, -, -, q5, -, -, st⟩ := ldcCH X hx hZ hown w wS eT t1 (Nat.le_refl _) t2 hmem t3.1 (vs := bts cs) (z := Int32.ofNat cs.length) ht (nneg_ofN hlen) (by rw [(ix_ofN hlen).nat]; simp [bts]) (g := mkF m pc L.toArray S) rfl (by rw [hb]; exact hdec) hn (Nat.le_of_ble_eq_true hbig) (Nat.le_of_ble_eq_true hc) (Nat.le_of_ble_eq_true hl)
  refine Go.st st (k T'.vm T' h' a ⟨C, X', e', hZ', hown', ext_trans hE E, hK.ext E, hN, hws, h0s, hh0, ⟨hS.1, hS.2.mono hk1⟩, t2, t3.trans q5⟩ E ⟨q1, q2, ⟨b, q3, Arq.of_arv q4 (by rw [(ix_ofN hlen).nat]; simp [bts])⟩, hla⟩ (fun x hx S => q5.safe hx S))
theorem W.chv (P : W (some EL) Z a0 own bytes ins maxL ret nm h0 ws p l e R s m args below meth c vm0 T h locs cells slots) : CHv Z EL vm0 h := P.2.2.2.2.2.2.2.2.2.2.2.2.2.1
end Lits
end Jvm.Own

namespace Jvm.Own
open Jvm Jvm.ClassFile Sem Op Lib Jvm.Free Jvm.Stand Jvm.LawKit Jvm.RoadKit Bundle
section Enums
variable {md : Option (List (String × Nat))} {EL : List (String × Nat)} {Z : State} {a0 : Array Value} {own : String} {bytes : ByteArray} {ins : List Ent} {maxL : Nat} {ret : Option FieldType} {nm : String} {h0 : Heap} {ws : List Addr}
  {p : Program} {l : Launch} {e : Env} {R : Room} {s : State} {m : MethodId} {args : Array Value} {below : List Frame} {meth : Method} {c : Code} {vm0 : Vm} {T : State} {h : Heap} {locs : List Loc} {cells slots : Nat}
  {F : Fin'} {pc n nx tg : Nat} {kk : Int32} {L L' : List Slot} {S S' : List Value}
theorem g_instNull (P : W md Z a0 own bytes ins maxL ret nm h0 ws p l e R s m args below meth c vm0 T h locs cells slots) {index : Nat} (k : Go p e below m T nx L (.int 0 :: S) F) (hd : lk ins pc = some (.instanceof index, 3, nx, tg, kk) := by rfl) : Go p e below m T pc L (.null :: S) F := by
  obtain ⟨⟨hx, hb, D, -⟩, X, eT, hZ, hown, -⟩ := P
  obtain ⟨hdec, rfl⟩ := D.at hd
  exact Go.st (X.instanceofNull hx (g := mkF m pc L.toArray (.null :: S)) rfl rfl (by rw [hb]; exact hdec)) k
theorem g_castNull (P : W md Z a0 own bytes ins maxL ret nm h0 ws p l e R s m args below meth c vm0 T h locs cells slots) {index : Nat} (k : Go p e below m T nx L (.null :: S) F) (hd : lk ins pc = some (.checkcast index, 3, nx, tg, kk) := by rfl) : Go p e below m T pc L (.null :: S) F := by
  obtain ⟨⟨hx, hb, D, -⟩, X, eT, hZ, hown, -⟩ := P
  obtain ⟨hdec, rfl⟩ := D.at hd
  exact Go.st (X.checkcastNull hx (g := mkF m pc L.toArray (.null :: S)) rfl rfl (by rw [hb]; exact hdec)) k
/-- an array that stood at the start, with its kinds -/
def Arz (Z : State) (h : Heap) (b : Addr) (ty : FieldType) (vs : List Value) : Prop := ∃ c : Cell, Arr Z h b c ty ∧ c.slots.toList = vs ∧ vs.length < 2147483648 ∧ (∀ v ∈ vs, fits ty v = true) ∧ FitC Z c
theorem Arz.arq {b : Addr} {ty : FieldType} {vs : List Value} (A : Arz Z h b ty vs) : Arq Z h b ty vs := by obtain ⟨c, h1, h2, h3, h4, -⟩ := A; exact ⟨c, h1, h2, h3, h4⟩
theorem Arz.ext {h' : Heap} {b : Addr} {ty : FieldType} {vs : List Value} (A : Arz Z h b ty vs) (E : Ext h h') : Arz Z h' b ty vs := by obtain ⟨c, h1, r⟩ := A; exact ⟨c, h1.ext E, r⟩
/-- an array's clone -/
theorem g_clone (P : W md Z a0 own bytes ins maxL ret nm h0 ws p l e R s m args below meth c vm0 T h locs cells slots) {ad : String} {index : Nat} {a : Addr} {ty : FieldType} {vs : List Value} (A : Arz Z h a ty vs) (E : Exa Z h a ad) (cap : Nat) (hcap : vs.length ≤ cap)
    (w1 : (Jvm.Cond.methodLink own index ⟨ad, "clone", "()Ljava/lang/Object;"⟩).before a0 Z = true) (w2 : (Jvm.Cond.sameMethod ad "java/lang/Object" "clone" "()Ljava/lang/Object;").before a0 Z = true) (w3 : (Jvm.Cond.native ⟨"java/lang/Object", "clone", "()Ljava/lang/Object;"⟩).before a0 Z = true)
    (w4 : (Jvm.Cond.instanceMethod ⟨"java/lang/Object", "clone", "()Ljava/lang/Object;"⟩).before a0 Z = true) (w5 : (Jvm.Cond.selects ad ⟨ad, "clone", "()Ljava/lang/Object;"⟩ ⟨"java/lang/Object", "clone", "()Ljava/lang/Object;"⟩).before a0 Z = true) (w6 : (Jvm.Cond.castable ad "java/lang/Cloneable").before a0 Z = true)
    (k : ∀ T' h' b, h.size = b → W md Z a0 own bytes ins maxL ret nm h0 ws p l e R s m args below meth c vm0 T' h' locs (cells + 1) (slots + cap) → Ext h h' → Arq Z h' b ty vs → Exa Z h' b ad → Go p e below m T' nx L (.ref b :: S) F)
    (hd : lk ins pc = some (.invokevirtual index, 3, nx, tg, kk) := by rfl) (hsz : L.length = maxL := by rfl) (hf : Nat.ble 1 R.frames = true := by rfl) (hl : Nat.ble ((S.map fun v => v.category).sum + 14) R.locals = true := by rfl) (hc : Nat.ble (cells + 1) R.cells = true := by rfl) (hs : Nat.ble (slots + cap) R.slots = true := by rfl) : Go p e below m T pc L (.ref a :: S) F := by
  have P0 := P
  obtain ⟨⟨hx, hb, D, hml, -⟩, X, eT, hZ, hown, -⟩ := P
  obtain ⟨hdec, rfl⟩ := D.at hd
  obtain ⟨cl, A1, A2, A3, A4, A5⟩ := A
  obtain ⟨T', h', X', e', Ex, B, EB, st⟩ := cloneA X hx hZ hown w1 w2 w3 w4 w5 w6 eT A1 E A5 (g := mkF m pc L.toArray (.ref a :: S)) rfl (sz_of hml hsz) rfl (by rw [hb]; exact hdec) (Nat.le_of_ble_eq_true hf) (W := (S.map fun v => v.category).sum) (cap := cap) (by show 2 * 0 + _ ≤ _; omega) (Nat.le_of_ble_eq_true hl) (by rw [Arq.size A2]; exact hcap) (Nat.le_of_ble_eq_true hc) (Nat.le_of_ble_eq_true hs)
  exact Go.st st (k T' h' h.size rfl (P0.grow X' e' Ex) Ex ⟨_, B, A2, A3, A4⟩ EB)
end Enums
/-! what a case says of its statics -/
section Start
variable {Z : State} {args : Array Value} {t u : Term} {a : Addr} {ty : FieldType} {k : Int32} {cl : Cell}
theorem sf_fld {C n d : String} {v : Value} (ev : t.eval args Z none [] Z = some (.ref a)) (e : (Term.field t C n d).eval args Z none [] Z = some v) : Fld Z Z.heap a C n d v := by
  apply Fld.start
  simpa [Term.eval, ev] using e
theorem sf_len (A : Arr Z Z.heap a cl ty) (ev : t.eval args Z none [] Z = some (.ref a)) (h : (Jvm.Cond.eq (.length t) (.int k)).value args Z none Z [] = some true) : cl.slots.size = k.toNatClampNeg ∧ cl.slots.size < 2147483648 := by
  have hA := A.fin (U := Z) (Vm.Alike.refl _)
  by_cases hl : cl.slots.size < 2 ^ 31
  · simp only [Jvm.Cond.value, Term.eval, ev, hA, Option.bind_eq_bind, Option.bind_some, hl, if_true, Option.pure_def, Option.some.injEq, decide_eq_true_eq] at h
    refine ⟨?_, by omega⟩
    rw [← h]
    have e1 : (cl.slots.size.toInt32).toInt = cl.slots.size := ofN_toInt (by omega)
    simp only [Int32.toNatClampNeg, e1]; rfl
  · simp [Jvm.Cond.value, Term.eval, ev, hA, hl] at h
theorem sf_elem {i : Nat} {v : Value} {j : Int32} (A : Arr Z Z.heap a cl ty) (ev : t.eval args Z none [] Z = some (.ref a)) (hj : j.toNatClampNeg = i) (hj0 : ¬ j < 0) (eu : u.eval args Z none [] Z = some v) (h : (Jvm.Cond.eq (.elem t (.int j)) u).value args Z none Z [] = some true) (hv : (∃ x, v = .int x) ∨ ∃ x, v = .ref x) : cl.slots[i]? = some v := by
  have hA := A.fin (U := Z) (Vm.Alike.refl _)
  subst hj
  cases hs : cl.slots[j.toNatClampNeg]? with
  | none => simp [Jvm.Cond.value, Term.eval, ev, hA, hj0, hs] at h
  | some w =>
    rcases hv with ⟨x, rfl⟩ | ⟨x, rfl⟩ <;> cases w <;> simp [Jvm.Cond.value, Term.eval, ev, hA, hj0, hs, eu] at h ⊢ <;> exact h
theorem sf_coder {C n d : String} {x : Int32} (ev : t.eval args Z none [] Z = some (.ref a)) (h : (Jvm.Cond.eq (.field t C n d) (.int x)).value args Z none Z [] = some true) : Fld Z Z.heap a C n d (.int x) := by
  rw [Jvm.Cond.value] at h
  generalize hs : (Term.field t C n d).eval args Z none [] Z = o at h
  rw [show (Term.int x).eval args Z none [] Z = some (.int x) from rfl] at h
  cases o with
  | none => cases h
  | some w => cases w <;> first | (cases h; done) | (have h : some (decide (_ = x)) = some true := h; simp only [Option.some.injEq, decide_eq_true_eq] at h; subst h; exact sf_fld ev hs)
theorem ex_ref {C : String} (h : (Jvm.Cond.exactly t C).value args Z none Z [] = some true) : ∃ a, t.eval args Z none [] Z = some (.ref a) ∧ Exa Z Z.heap a C := by
  obtain ⟨a, c, cell, k, h1, -⟩ := Cond.exactly_spec (t := t) (cls := C) (args := args) (first := Z) (o := none) (s := Z) (idx := []) (by simp only [Cond.holds, h]; rfl)
  exact ⟨a, h1, Exa.start h1 h⟩
theorem arr_ref (h : (Jvm.Cond.arrayOf t ty).value args Z none Z [] = some true) : ∃ a c, t.eval args Z none [] Z = some (.ref a) ∧ Arr Z Z.heap a c ty := by
  obtain ⟨a, cell, h1, -⟩ := Jvm.Free.AList.arrayOf_ref (t := t) (ty := ty) (args := args) (first := Z) (o := none) (s := Z) (idx := []) (by simp only [Cond.holds, h]; rfl)
  obtain ⟨c, A⟩ := Arr.start h1 h
  exact ⟨a, c, h1, A⟩
theorem arz_mk (hf : Fit Z) {vs : List Value} (A : Arr Z Z.heap a cl ty) (hn : cl.slots.size = vs.length) (hlt : cl.slots.size < 2147483648) (hv : ∀ i (hi : i < vs.length), cl.slots[i]? = some vs[i]) : Arz Z Z.heap a ty vs := by
  have e : cl.slots.toList = vs := by
    apply List.ext_getElem?
    intro i
    by_cases hi : i < vs.length
    · rw [List.getElem?_eq_getElem hi, ← hv i hi]; simp
    · rw [List.getElem?_eq_none (show cl.slots.toList.length ≤ i by rw [Array.length_toList]; omega), List.getElem?_eq_none (show vs.length ≤ i by omega)]
  refine ⟨cl, A, e, by omega, fun v hvm => ?_, FitC.start hf A⟩
  obtain ⟨i, hi⟩ := List.getElem?_of_mem hvm
  obtain ⟨hi', -⟩ := List.getElem?_eq_some_iff.mp hi
  have hi0 : (Int32.ofNat i).toInt = i := ofN_toInt (by omega)
  have hic : (Int32.ofNat i).toNatClampNeg = i := by simp only [Int32.toNatClampNeg, hi0]; rfl
  obtain ⟨w, hw, hfit⟩ := elem_fit (j := Int32.ofNat i) hf A (by
    rintro (q | q)
    · have : (Int32.ofNat i).toInt < (0 : Int32).toInt := Int32.lt_iff_toInt_lt.mp q
      rw [hi0] at this; simp at this; omega
    · rw [hic] at q; omega)
  rw [hic, hv i hi'] at hw
  rw [List.getElem?_eq_getElem hi'] at hi
  cases hi.symm.trans hw
  exact hfit
theorem strl_start (hf : Fit Z) {cs : List Int32} (idx : List (Int32 × Int32)) (ev : t.eval args Z none [] Z = some (.ref a)) (hx : Exa Z Z.heap a STR) (hc : (Jvm.Cond.eq (.field t STR "coder" "B") (.int 0)).value args Z none Z [] = some true) (ha : (Jvm.Cond.arrayOf (.field t STR "value" "[B") .byte).value args Z none Z [] = some true)
    (hl : (Jvm.Cond.eq (.length (.field t STR "value" "[B")) (.int k)).value args Z none Z [] = some true) (hk : k.toNatClampNeg = cs.length) (hel : ∀ p ∈ idx, (Jvm.Cond.eq (.elem (.field t STR "value" "[B") (.int p.1)) (.int p.2)).value args Z none Z [] = some true) (hidx : ∀ i : Fin cs.length, (Int32.ofNat i.val, i2bv cs[i]) ∈ idx) (la : ∀ c ∈ cs, La c) : StrL Z Z.heap a cs := by
  obtain ⟨b, cl, eb, A⟩ := arr_ref ha
  obtain ⟨l1, l2⟩ := sf_len A eb hl
  rw [hk] at l1
  refine ⟨hx, sf_coder ev hc, ⟨b, sf_fld ev eb, (arz_mk hf A (by simp [bts, l1]) l2 (fun i hi => ?_)).arq⟩, la⟩
  have hi : i < cs.length := by simpa [bts] using hi
  have hi0 : (Int32.ofNat i).toInt = i := ofN_toInt (by omega)
  have hic : (Int32.ofNat i).toNatClampNeg = i := by simp only [Int32.toNatClampNeg, hi0]; rfl
  have hE : (Jvm.Cond.eq (.elem (.field t STR "value" "[B") (.int (Int32.ofNat i))) (.int (i2bv cs[i]))).value args Z none Z [] = some true := hel (Int32.ofNat i, i2bv cs[i]) (hidx ⟨i, hi⟩)
  have h0 : ¬ Int32.ofNat i < 0 := by
    intro q
    have q := Int32.lt_iff_toInt_lt.mp q
    rw [hi0, show (0 : Int32).toInt = 0 from rfl] at q
    omega
  have hI : (Term.int (i2bv cs[i])).eval args Z none [] Z = some (.int (i2bv cs[i])) := Term.int_eval _
  have hq := sf_elem A eb hic h0 hI hE (Or.inl ⟨_, rfl⟩)
  rw [hq]
  simp only [bts, List.getElem_map]
/-- an enum of two, each with a String -/
def EnumF (Z : State) (C dA dE fld N1 N2 : String) (cs1 cs2 : List Int32) (b e1 e2 : Addr) : Prop := ∃ t1 t2 : Addr, (Sta Z Z.heap C "$VALUES" dA (.ref b) ∧ Arz Z Z.heap b (.object C) [.ref e1, .ref e2] ∧ Exa Z Z.heap b dA) ∧ (Sta Z Z.heap C N1 dE (.ref e1) ∧ Sta Z Z.heap C N2 dE (.ref e2)) ∧ (Fld Z Z.heap e1 C fld "Ljava/lang/String;" (.ref t1) ∧ StrL Z Z.heap t1 cs1) ∧ Fld Z Z.heap e2 C fld "Ljava/lang/String;" (.ref t2) ∧ StrL Z Z.heap t2 cs2
end Start
end Jvm.Own

namespace Jvm.Own
open Jvm Jvm.ClassFile Sem Op Lib Jvm.Free Jvm.Stand Jvm.LawKit Jvm.RoadKit Bundle
/-! ### G. Strings of any chars -/
def utp (c : Int32) : List Value := [.int (i2bv c), .int (i2bv (c >>> 8))]
def uts (cs : List Int32) : List Value := cs.flatMap utp
def StrU (Z : State) (h : Heap) (a : Addr) (cs : List Int32) : Prop := Exa Z h a STR ∧ Fld Z h a STR "coder" "B" (.int 1) ∧ (∃ b, Fld Z h a STR "value" "[B" (.ref b) ∧ Arq Z h b .byte (uts cs)) ∧ ∀ c ∈ cs, Ch c
def StrG (Z : State) (h : Heap) (a : Addr) (cs : List Int32) : Prop := StrL Z h a cs ∨ StrU Z h a cs
theorem StrU.ext {Z : State} {h h' : Heap} {a : Addr} {cs : List Int32} (F : StrU Z h a cs) (E : Ext h h') : StrU Z h' a cs := by
  obtain ⟨h1, h2, ⟨b, h3, h4⟩, h5⟩ := F; exact ⟨h1.ext E, h2.ext E, ⟨b, h3.ext E, h4.ext E⟩, h5⟩
theorem StrG.ext {Z : State} {h h' : Heap} {a : Addr} {cs : List Int32} (F : StrG Z h a cs) (E : Ext h h') : StrG Z h' a cs := F.imp (·.ext E) (·.ext E)
theorem StrG.exa {Z : State} {h : Heap} {a : Addr} {cs : List Int32} (F : StrG Z h a cs) : Exa Z h a STR := F.elim (·.1) (·.1)
theorem uts_len (cs : List Int32) : (uts cs).length = 2 * cs.length := by
  induction cs with
  | nil => rfl
  | cons c cs ih => simp only [uts, List.flatMap_cons, List.length_append, List.length_cons] at ih ⊢; simp only [utp, List.length_cons, List.length_nil]; omega
theorem StrU.len {Z : State} {h : Heap} {a : Addr} {cs : List Int32} (F : StrU Z h a cs) : 2 * cs.length < 2147483648 := by
  obtain ⟨-, -, ⟨b, -, c, -, -, q, -⟩, -⟩ := F; rwa [uts_len] at q
theorem StrG.ch {Z : State} {h : Heap} {a : Addr} {cs : List Int32} (F : StrG Z h a cs) : ∀ c ∈ cs, Ch c := F.elim (fun q c hc => (q.2.2.2 c hc).ch) (·.2.2.2)
theorem StrG.len {Z : State} {h : Heap} {a : Addr} {cs : List Int32} (F : StrG Z h a cs) : cs.length < 2147483648 := F.elim (·.len) (fun q => by have := q.len; omega)
theorem uts_get0 (cs : List Int32) : ∀ (i : Nat) (c : Int32), cs[i]? = some c → (uts cs)[2 * i]? = some (.int (i2bv c)) ∧ (uts cs)[2 * i + 1]? = some (.int (i2bv (c >>> 8))) := by
  induction cs with
  | nil => intro i c h; cases h
  | cons d cs ih =>
    intro i c h
    cases i with
    | zero => cases h; exact ⟨rfl, rfl⟩
    | succ i =>
      have := ih i c (by simpa using h)
      rw [show 2 * (i + 1) = 2 * i + 2 by omega]
      exact this
/-- the statics of StringUTF16 -/
def GlobU (Z : State) : Prop := Sta Z Z.heap "java/lang/StringUTF16" "$assertionsDisabled" "Z" (.int 1) ∧ Sta Z Z.heap "java/lang/StringUTF16" "HI_BYTE_SHIFT" "I" (.int 0) ∧ Sta Z Z.heap "java/lang/StringUTF16" "LO_BYTE_SHIFT" "I" (.int 8)
theorem shr8_toInt {c : Int32} (h : 0 ≤ c.toInt) : (c >>> 8).toInt = c.toInt / 256 := by
  have h1 : (c >>> (8 : Int32)).toBitVec = c.toBitVec.sshiftRight 8 := by
    show c.toBitVec.sshiftRight' ((8 : Int32).toBitVec.smod 32) = _
    rfl
  rw [Int32.toInt, h1, BitVec.toInt_sshiftRight, Int.shiftRight_eq_div_pow]; rfl
theorem i2bv_toInt (x : Int32) : (i2bv x).toInt = x.toInt.bmod 256 := by
  unfold i2bv
  rw [Int8.toInt_toInt32, Int32.toInt_toInt8]
theorem lo8 (x : Int32) : (i2bv x &&& 255).toInt = x.toInt % 256 := by
  have := and_toInt (i2bv x) 8 (by omega)
  rw [show Int32.ofNat (2 ^ 8 - 1) = 255 from rfl] at this
  rw [this, i2bv_toInt]
  exact Int.bmod_emod ..
theorem shl8_toInt {y : Int32} (h0 : 0 ≤ y.toInt) (h1 : y.toInt < 256) : (y <<< (8 : Int32)).toInt = y.toInt * 256 := by
  obtain ⟨k, rfl⟩ := la_cases ⟨h0, h1⟩
  have : ∀ k : Fin 256, (Int32.ofNat k.val <<< (8 : Int32)).toInt = (Int32.ofNat k.val).toInt * 256 := by decide +kernel
  exact this k
theorem or_add {x y : Int32} (hx0 : 0 ≤ x.toInt) (hx : x.toInt < 256) (k : Fin 256) (hy : y = Int32.ofNat (256 * k.val)) : (x ||| y).toInt = x.toInt + y.toInt := by
  obtain ⟨r, rfl⟩ := la_cases ⟨hx0, hx⟩
  subst hy
  have e1 : (Int32.ofNat r.val ||| Int32.ofNat (256 * k.val)) = Int32.ofNat (r.val ||| 256 * k.val) := by
    apply Int32.toBitVec_inj.mp
    show BitVec.ofNat 32 r.val ||| BitVec.ofNat 32 (256 * k.val) = BitVec.ofNat 32 (r.val ||| 256 * k.val)
    rw [BitVec.ofNat_or]
  have e2 : r.val ||| 256 * k.val = 256 * k.val + r.val := by
    rw [Nat.or_comm]; exact (Nat.two_pow_add_eq_or_of_lt (i := 8) r.isLt k.val).symm
  rw [e1, e2, ofN_toInt (by omega), ofN_toInt (by omega), ofN_toInt (by omega)]; omega
theorem utf_back {c : Int32} (h : Ch c) : i2cv (((i2bv c &&& 255) <<< ((0 : Int32) &&& (31 : Int32))) ||| ((i2bv (c >>> 8) &&& 255) <<< ((8 : Int32) &&& (31 : Int32)))) = c := by
  have a1 := lo8 c
  have a2 := lo8 (c >>> 8)
  rw [shr8_toInt h.1] at a2
  have h1 := h.1; have h2 := h.2
  have a3 : (i2bv c &&& 255) <<< ((0 : Int32) &&& (31 : Int32)) = i2bv c &&& 255 := by
    rw [show (0 : Int32) &&& (31 : Int32) = 0 from rfl]; simp
  have a4 := shl8_toInt (y := i2bv (c >>> 8) &&& 255) (by rw [a2]; omega) (by rw [a2]; omega)
  rw [a3, show (8 : Int32) &&& (31 : Int32) = 8 from rfl]
  have a5 := or_add (x := i2bv c &&& 255) (y := (i2bv (c >>> 8) &&& 255) <<< (8 : Int32)) (by rw [a1]; omega) (by rw [a1]; omega) ⟨(c.toInt / 256).toNat, by omega⟩ (toInt_ext (by rw [a4, a2, ofN_toInt (by simp only; omega)]; simp only; omega))
  have a6 : ((i2bv c &&& (255 : Int32)) ||| ((i2bv (c >>> 8) &&& (255 : Int32)) <<< (8 : Int32))).toInt = c.toInt := by rw [a5, a1, a4, a2]; omega
  rw [toInt_ext a6, i2cv_id h]
theorem ch_hi {x : Int32} (h : Ch x) : 0 ≤ x.toInt := h.1
end Jvm.Own
namespace Jvm.Own
open Jvm Jvm.ClassFile Sem Op Lib Jvm.Free Jvm.Stand Jvm.LawKit Jvm.RoadKit Bundle
theorem shl1_toInt {i : Nat} (h : 2 * i < 2147483648) : (Int32.ofNat i <<< (1 : Int32)).toInt = ((2 * i : Nat) : Int) := by
  have h1 : (Int32.ofNat i <<< (1 : Int32)) = Int32.ofNat (2 * i) := by
    apply Int32.toBitVec_inj.mp
    show BitVec.ofNat 32 i <<< ((1 : Int32).toBitVec.smod 32) = BitVec.ofNat 32 (2 * i)
    apply BitVec.eq_of_toNat_eq
    rw [show ((1 : Int32).toBitVec.smod 32) = 1#32 from rfl]
    simp [BitVec.toNat_shiftLeft, Nat.shiftLeft_eq]; omega
  rw [h1, ofN_toInt h]
theorem uts_fill (cs : List Int32) (c : Int32) (i r : Nat) (hi : cs.length = i) : ((uts cs ++ List.replicate (2 * (r + 1)) (Value.int 0)).set (2 * i) (.int (i2bv c))).set (2 * i + 1) (.int (i2bv (c >>> 8))) = uts (cs ++ [c]) ++ List.replicate (2 * r) (.int 0) := by
  have hl : (uts cs).length = 2 * i := by rw [uts_len, hi]
  rw [List.set_append_right _ _ (by omega), hl, Nat.sub_self, show 2 * (r + 1) = 2 * r + 1 + 1 by omega, List.replicate_succ, List.replicate_succ, List.set_cons_zero, List.set_append_right _ _ (by omega), hl, show 2 * i + 1 - 2 * i = 1 by omega]
  simp [uts, utp]
theorem cfa_one {n : Nat} (h0 : 0 < n) (h : n ≤ 1000) : i2bv (XT.ushr (Int32.ofNat n - Int32.ofNat (2 * n)) 31) = 1 := by
  have : ∀ k : Fin 1001, 0 < k.val → i2bv (XT.ushr (Int32.ofNat k.val - Int32.ofNat (2 * k.val)) 31) = 1 := by decide +kernel
  exact this ⟨n, by omega⟩ h0
end Jvm.Own

namespace Jvm.Own
open Jvm Jvm.ClassFile Sem Op Lib Jvm.Free Jvm.Stand Jvm.LawKit Jvm.RoadKit Bundle
/-! ### H. contracts that see the tables: a String constant that is loaded already -/
/-- an entry of the pool is resolved to this String -/
def LitV (vm : Vm) (own : String) (index : Nat) (a : Addr) : Prop := ∀ s : State, Lit (s.setVm vm) own index a
def FinL (EL : List (String × Nat)) (Z : State) (h : Heap) (rm : Room) (Q : Value → Heap → Vm → Prop) (U : State) : Fin' := fun o U' =>
  ∃ v Lc, o = .returned (some v) ∧ Q v U'.heap U'.vm ∧ Keep h U'.heap [] ∧ (∀ y ∈ Lc, y.base ∈ ([] : List Addr) ∨ h.size ≤ y.base) ∧ EndM (some EL) Z U o U' Lc rm.cells rm.slots
def ConL (EL : List (String × Nat)) (Z : State) (l : Launch) (y : MethodName) (bytes : ByteArray) (maxL : Nat) (ret : Option FieldType) (rm : Room) (as : Array Value) (h : Heap) (Pv : Vm → Prop) (Q : Value → Heap → Vm → Prop) : Prop :=
  MetFree l y (head1 [Jvm.Cond.code y bytes maxL ret] rm) (fun a U => a = as ∧ Z.Warmed39 U.vm ∧ U.heap = h ∧ CHv Z EL U.vm h ∧ Pv U.vm) (fun _ _ _ _ _ => True) (fun _ U o U' => FinL EL Z h rm Q U o U')
section ContractL
variable {EL : List (String × Nat)} {Z : State} {a0 : Array Value} {own : String} {bytes : ByteArray} {ins : List Ent} {maxL : Nat} {ret : Option FieldType} {nm : String} {h0 : Heap} {ws : List Addr}
  {p : Program} {l : Launch} {e : Env} {R : Room} {s : State} {m : MethodId} {args : Array Value} {below : List Frame} {meth : Method} {c : Code} {vm0 : Vm} {T : State} {h : Heap} {locs : List Loc} {cells slots : Nat}
  {F : Fin'} {pc n nx tg : Nat} {kk : Int32} {L L' : List Slot} {S S' : List Value}
  {y : MethodName} {bytes' : ByteArray} {maxL' : Nat} {ret' : Option FieldType} {rm : Room} {as : Array Value} {Pv : Vm → Prop} {Q : Value → Heap → Vm → Prop}
theorem LitV.of {index : Nat} {a : Addr} {vm : Vm} (L : Lit (s.setVm vm) own index a) : LitV vm own index a := fun _ => L
theorem LitV.stays {index : Nat} {a : Addr} {vm vm1 : Vm} (L : LitV vm own index a) (hW : (s.setVm vm).Warmed39 vm1) : LitV vm1 own index a := LitV.of (Lit.stays (s := s) (L s) hW)
theorem LitV.at {nm2 : String} {index : Nat} {a : Addr} (P : W (some EL) Z a0 own bytes ins maxL ret nm h0 ws p l e R s m args below meth c vm0 T h locs cells slots) (L : LitV vm0 nm2 index a) : LitV T.vm nm2 index a := by
  obtain ⟨C, X, -⟩ := P
  exact L.stays (s := s) X.warmed.wide
theorem conL_of (hpl : plainFor y = true) (D : Dec bytes ins) (L : List Slot) (hlay : Jvm.Sym.laidSlots as.toList ++ List.replicate (maxL - (Jvm.Sym.laidSlots as.toList).length) .unset = L)
    (hEx : Ext Z.heap h) (hEL : EW Z a0 EL)
    (k : ∀ p e s m below meth c T, Pv s.vm → W (some EL) Z a0 y.cls bytes ins maxL ret y.name h [] p l e rm s m as below meth c s.vm T h [] 0 0 → Go p e below m T 0 L [] (FinL EL Z h rm Q s)) : ConL EL Z l y bytes maxL ret rm as h Pv Q := by
  refine MetFree.of_bodySF hpl hisR ?_
  intro p e s m args below meth c s₁ Bd hml hP hK
  obtain ⟨rfl, hZ, hh, hC, hPv⟩ := hP
  have X0 : Stand p l e rm s m args below meth c s₁ [] 0 0 := Stand.of_body Bd
  have e0 : s₁.heap = h := by rw [← hh, Bd.state]; rfl
  have hown : s.vm.findClass y.cls = some m.cls := findClass_of_methodNamed Bd.named
  have hnm := (name_of_methodNamed Bd.named Bd.method).1
  have hT : Tb (some EL) Z a0 s h s.vm h := ⟨(State.WarmedH.refl s).since _, hEL, CHr.refl hC⟩
  obtain ⟨s₂, o, h1, h2, h3, h4⟩ := k p e s m below meth c s₁ hPv ⟨⟨Bd.exec, Bd.bytes, D, hml, Bd.returns, hnm, Bd.notSynchronized⟩, X0, e0, hZ, hown, hEx, Keep.refl _ _, (fun _ q => nomatch q), (fun _ q => nomatch q), hEx.1, hh, hT⟩
  exact ⟨s₂, o, (XT.entry (by simpa using hlay)).trans h1, h2, h3, h4⟩
theorem W.outL (P : W (some EL) Z a0 own bytes ins maxL ret nm h0 [] p l e R s m args below meth c vm0 T h locs cells slots) {v : Value} (hv : ret ≠ none) (hc : cells ≤ R.cells) (hs : slots ≤ R.slots) (hq : Q v h T.vm) :
    ∃ fs, (∀ (f : JFrame) (acts : List Action), f.method = m → f.locked = none → f.entered = [] → (doReturn e (T.setTop f) acts (some v)).1 = T.setFrames fs) ∧ (T.setFrames fs).status = .running ∧ Ended (T.setFrames fs) below (.returned (some v)) ∧ FinL EL Z h0 R Q s (.returned (some v)) (T.setFrames fs) := by
  obtain ⟨fs, h1, h2, h3, v', Lc, e1, -, e3, e4, e5⟩ := P.out (v := some v) (Q := fun _ _ => True) (fun q => absurd q hv) hc hs trivial
  have eT : T.heap = h := P.2.2.1
  refine ⟨fs, h1, h2, h3, v, Lc, rfl, ?_, e3, e4, e5⟩
  show Q v T.heap T.vm
  rw [eT]; exact hq
theorem g_iretL (P : W (some EL) Z a0 own bytes ins maxL ret nm h0 [] p l e R s m args below meth c vm0 T h locs cells slots) {t : FieldType} {x : Int32} (hq : Q (.int x) h T.vm)
    (hr : ret = some t := by rfl) (hn : narrow t (.int x) = .int x := by rfl) (ht : t = .int ∨ t = .boolean ∨ t = .byte ∨ t = .char ∨ t = .short := by simp) (hd : lk ins pc = some (.ireturn, 1, nx, tg, kk) := by rfl) (hc : Nat.ble cells R.cells = true := by rfl) (hs : Nat.ble slots R.slots = true := by rfl) : Go p e below m T pc L (.int x :: S) (FinL EL Z h0 R Q s) := by
  obtain ⟨fs, h1, h2⟩ := P.outL (v := .int x) (Q := Q) (fun q => by rw [hr] at q; cases q) (Nat.le_of_ble_eq_true hc) (Nat.le_of_ble_eq_true hs) hq
  obtain ⟨⟨hx, hb, D, hml, hret, hnm, hlk⟩, X, -⟩ := P
  exact ⟨_, _, retOut X hx (hret.trans hr) hn (Or.inl ⟨rfl, ht, _, rfl⟩) (by rw [hb]; exact (D.at hd).1) h1, h2⟩
theorem backL {len Wd : Nat} (C : ConL EL Z l y bytes' maxL' ret' rm as h Pv Q)
    (hZ : Z.Warmed39 vm0) (wc : (Jvm.Cond.code y bytes' maxL' ret').before a0 Z = true) (wz : (Jvm.Cond.initialized y.cls).before a0 Z = true) (hf : rm.frames + 1 ≤ R.frames) (hl : Wd + (maxL' + 11) + rm.locals ≤ R.locals) (hEL : EW Z a0 EL) (H : CHv Z EL vm0 h) (hPv : ∀ vm', (s.setVm vm0).Warmed39 vm' → Pv vm') :
    BackS l R p e below (s.setVm vm0) args y len Wd (fun A a => a = as ∧ A.U.heap = h ∧ A.cells + rm.cells ≤ R.cells ∧ A.slots + rm.slots ≤ R.slots)
      (fun A _ v B => ∃ (x : Value) (Lc : List Loc), v = some x ∧ (Q x B.U.heap B.U.vm ∧ Keep h B.U.heap [] ∧ ∀ y ∈ Lc, y.base ∈ ([] : List Addr) ∨ h.size ≤ y.base) ∧ B.locs = A.locs ++ Lc ∧ B.cells = A.cells + rm.cells ∧ B.slots = A.slots + rm.slots ∧ CHr Z EL vm0 h B.U.vm B.U.heap) :=
  BackS.of_freeW (bytes := bytes') (maxL := maxL') (ret := ret') (E := fun _ first o t Lc k n => k = rm.cells ∧ n = rm.slots ∧ (∃ x, o = .returned (some x) ∧ Q x t.heap t.vm ∧ Keep h t.heap [] ∧ ∀ y ∈ Lc, y.base ∈ ([] : List Addr) ∨ h.size ≤ y.base) ∧ CHr Z EL first.vm first.heap t.vm t.heap) C hf hl
    (fun m meth c A a Y hp => have hU : Z.Warmed39 A.U.vm := wtrans (s := s.setVm vm0) hZ Y.warmed
      ⟨by show (Jvm.Cond.and _ .tt).before a A.U = true; rw [Cond.before_and, mv hU wc]; rfl, mv hU wc, mv hU wz, hp.2.2.1, hp.2.2.2⟩)
    (fun m meth c A a g mk Y hp => ⟨hp.1, wtrans (s := s.setVm vm0) hZ Y.warmed, hp.2.1, (CHv.at Y hZ hEL H).1, hPv _ Y.warmed.wide⟩) (fun _ _ _ _ _ _ _ _ _ => trivial)
    (fun _ _ _ _ ⟨x, Lc, h1, h2, h3, h4, h5, h6⟩ => ⟨Lc, _, _, h6, rfl, rfl, ⟨x, h1, h2, h3, h4⟩, h5⟩)
    (fun m meth c A a g mk v t Lc k n Y hp _ _ q => by
      obtain ⟨e1, e2, ⟨x, e3, e4⟩, e5⟩ := q
      cases e3; subst e1 e2
      refine ⟨x, Lc, rfl, e4, rfl, rfl, rfl, (CHv.at Y hZ hEL H).trans ?_⟩
      rw [← hp.2.1]; exact e5)
theorem g_sVL (P : W (some EL) Z a0 own bytes ins maxL ret nm h0 ws p l e R s m args below meth c vm0 T h locs cells slots) {index : Nat} {argsL : List Value} {na : Nat} (C : ConL EL Z l y bytes' maxL' ret' rm argsL.toArray h Pv Q)
    (wl : (Jvm.Cond.methodLink own index y).before a0 Z = true) (wst : (Jvm.Cond.static y).before a0 Z = true) (wz : (Jvm.Cond.initialized y.cls).before a0 Z = true) (wc : (Jvm.Cond.code y bytes' maxL' ret').before a0 Z = true) (pd : XT.arity y.desc = some na)
    (hPv : ∀ vm', (s.setVm vm0).Warmed39 vm' → Pv vm')
    (k : ∀ vm1 T' h' v locs', W (some EL) Z a0 own bytes ins maxL ret nm h0 ws p l e R s m args below meth c vm1 T' h' locs' (cells + rm.cells) (slots + rm.slots) → Ext h h' → Q v h' vm1 → (∀ o i a, LitV vm0 o i a → LitV vm1 o i a) → Go p e below m T' nx L (v :: S) F)
    (hstk : S' = argsL.reverse ++ S := by rfl) (hna : argsL.length = na := by rfl) (hd : lk ins pc = some (.invokestatic index, 3, nx, tg, kk) := by rfl) (hsz : L.length = maxL := by rfl) (hy : y.cls ≠ "java/lang/invoke/MethodHandle" ∧ y.cls ≠ "java/lang/invoke/VarHandle" := by decide)
    (hf : Nat.ble (rm.frames + 1) R.frames = true := by rfl) (hl : Nat.ble ((S.map fun v => v.category).sum + (maxL' + 11) + rm.locals) R.locals = true := by rfl) (hc : Nat.ble (cells + rm.cells) R.cells = true := by rfl) (hs : Nat.ble (slots + rm.slots) R.slots = true := by rfl) : Go p e below m T pc L S' F := by
  have P0 := P
  obtain ⟨⟨hx, hb, D, hml, -⟩, X, eT, hZ, hown, -, -, -, -, -, -, t1, t2, t3⟩ := P
  obtain ⟨h1, rfl⟩ := D.at hd
  subst hstk
  obtain ⟨v, vm₁, ⟨T', Lx, k', n'⟩, -, X', hS, hg, ⟨x, Lc, rfl, hQ, l1, l2, l3, hC⟩, st⟩ := callSS X hx (y := y) hown (mvT hZ wl) (mvT hZ wst) (mvT hZ wz) (mvT hZ wc) hy
    (backL (Wd := (S.map fun v => v.category).sum) C hZ wc wz (Nat.le_of_ble_eq_true hf) (Nat.le_of_ble_eq_true hl) t2 t3.1 hPv) (g := mkF m pc L.toArray (argsL.reverse ++ S)) rfl (sz_of hml hsz) (argsL := argsL) (rest := S) (XT.arity_len pd hna) rfl (by show 2 * 0 + _ ≤ _; omega) (by rw [hb]; exact h1)
    (fun _ _ => ⟨rfl, eT, Nat.le_of_ble_eq_true hc, Nat.le_of_ble_eq_true hs⟩)
  dsimp only [Pt.U, Pt.locs, Pt.cells, Pt.slots] at X' l1 l2 l3 st hQ hS hg hC
  subst l1 l2 l3
  obtain ⟨q1, q2, q3⟩ := hQ
  exact Go.st (fun _ hk => st.trans hk) (k T'.vm T' _ x _ (P0.after X' hS hg q2 q3 (fun _ q => nomatch q) hC) (ext_of_keep q2) q1 (fun o i a hL => hL.stays (s := s) hS.1))
/-- a second load -/
theorem g_ldcA (P : W (some EL) Z a0 own bytes ins maxL ret nm h0 ws p l e R s m args below meth c vm0 T h locs cells slots) {index : Nat} {text : String} {a : Addr} (w : (Jvm.Cond.stringLink own index text).before a0 Z = true) (hL : LitV vm0 own index a)
    (k : Go p e below m T nx L (.ref a :: S) F) (hd : lk ins pc = some (.ldc index, 2, nx, tg, kk) := by rfl) : Go p e below m T pc L S F := by
  obtain ⟨C, X, eT, hZ, hown, -⟩ := P
  obtain ⟨hx, hb, D, -⟩ := id C
  obtain ⟨hdec, rfl⟩ := D.at hd
  exact Go.st (ldcAgain X hx hZ hown w (hL s) (g := mkF m pc L.toArray S) rfl (by rw [hb]; exact hdec)) k
/-- the first load, with the word that it is loaded -/
theorem g_ldcSL (P : W (some EL) Z a0 own bytes ins maxL ret nm h0 ws p l e R s m args below meth c vm0 T h locs cells slots) {index : Nat} {text : String} (w : (Jvm.Cond.stringLink own index text).before a0 Z = true) (wS : ∀ a ∈ Bundle.stringAtoms, a.before a0 Z = true) (hmem : (own, index) ∈ EL)
    (cs : List Int32) (n : Nat) (ht : (∀ c ∈ text.toList, c.toNat < 256) ∧ text.toList.map (fun c => Value.int (Jvm.Lit.byteI c.toNat.toUInt16)) = bts cs) (hla : ∀ c ∈ cs, La c) (hlen : cs.length < 2147483648) (hn : 4 * text.toList.length ≤ n)
    (k : ∀ vm1 T' h' a, W (some EL) Z a0 own bytes ins maxL ret nm h0 ws p l e R s m args below meth c vm1 T' h' locs (cells + 2) (slots + (n + 4)) → Ext h h' → StrL Z h' a cs → LitV vm1 own index a → Go p e below m T' nx L (.ref a :: S) F)
    (hd : lk ins pc = some (.ldc index, 2, nx, tg, kk) := by rfl) (hc : Nat.ble (cells + 2) R.cells = true := by rfl) (hl : Nat.ble (slots + (n + 4)) R.slots = true := by rfl) (hbig : Nat.ble n 536870912 = true := by rfl) : Go p e below m T pc L S F := by
  have P0 := P
  obtain ⟨C, X, eT, hZ, hown, hE, hK, hN, hws, h0s, hh0, t1, t2, t3⟩ := P
  obtain ⟨hx, hb, D, -⟩ := id C
  obtain ⟨hdec, rfl⟩ := D.at hd
  obtain ⟨a, T', h', k1, b, kc, X', e', E, hS, hk1, hZ', hown', q1, q2, q3, q4, -, -, q5, q6, -, st⟩ := ldcCH X hx hZ hown w wS eT t1 (Nat.le_refl _) t2 hmem t3.1 (vs := bts cs) (z := Int32.ofNat cs.length) ht (nneg_ofN hlen) (by rw [(ix_ofN hlen).nat]; simp [bts]) (g := mkF m pc L.toArray S) rfl (by rw [hb]; exact hdec) hn (Nat.le_of_ble_eq_true hbig) (Nat.le_of_ble_eq_true hc) (Nat.le_of_ble_eq_true hl)
  exact Go.st st (k T'.vm T' h' a ⟨C, X', e', hZ', hown', ext_trans hE E, hK.ext E, hN, hws, h0s, hh0, ⟨hS.1, hS.2.mono hk1⟩, t2, t3.trans q5⟩ E ⟨q1, q2, ⟨b, q3, Arq.of_arv q4 (by rw [(ix_ofN hlen).nat]; simp [bts])⟩, hla⟩ (LitV.of q6))
end ContractL
end Jvm.Own
namespace Jvm.Own
open Jvm Jvm.ClassFile Sem Op Lib Jvm.Free Jvm.Stand Jvm.LawKit Jvm.RoadKit Bundle
section More
variable {EL : List (String × Nat)} {Z : State} {a0 : Array Value} {own : String} {bytes : ByteArray} {ins : List Ent} {maxL : Nat} {ret : Option FieldType} {nm : String} {h0 : Heap} {ws : List Addr}
  {p : Program} {l : Launch} {e : Env} {R : Room} {s : State} {m : MethodId} {args : Array Value} {below : List Frame} {meth : Method} {c : Code} {vm0 : Vm} {T : State} {h : Heap} {locs : List Loc} {cells slots : Nat}
  {F : Fin'} {pc n nx tg : Nat} {kk : Int32} {L L' : List Slot} {S S' : List Value}
  {y : MethodName} {bytes' : ByteArray} {maxL' : Nat} {ret' : Option FieldType} {rm : Room} {as : Array Value} {ws' : List Addr}
/-- a wide static callee that writes into ws' and hands back nothing -/
theorem g_s0W (P : W (some EL) Z a0 own bytes ins maxL ret nm h0 ws p l e R s m args below meth c vm0 T h locs cells slots) {index : Nat} {argsL : List Value} {na : Nat} {Q : Heap → Prop} (C : Con (some EL) Z l y [] bytes' maxL' ret' rm argsL.toArray h ws' (rO Q))
    (wl : (Jvm.Cond.methodLink own index y).before a0 Z = true) (wst : (Jvm.Cond.static y).before a0 Z = true) (wz : (Jvm.Cond.initialized y.cls).before a0 Z = true) (wc : (Jvm.Cond.code y bytes' maxL' ret').before a0 Z = true) (pd : XT.arity y.desc = some na)
    (hq : ∀ x ∈ ws', x ∈ ws ∨ h0.size ≤ x)
    (k : ∀ vm1 T' h' locs', W (some EL) Z a0 own bytes ins maxL ret nm h0 ws p l e R s m args below meth c vm1 T' h' locs' (cells + rm.cells) (slots + rm.slots) → Keep h h' ws' → Q h' → Go p e below m T' nx L S F)
    (hstk : S' = argsL.reverse ++ S := by rfl) (hna : argsL.length = na := by rfl) (hd : lk ins pc = some (.invokestatic index, 3, nx, tg, kk) := by rfl) (hsz : L.length = maxL := by rfl) (hy : y.cls ≠ "java/lang/invoke/MethodHandle" ∧ y.cls ≠ "java/lang/invoke/VarHandle" := by decide)
    (hf : Nat.ble (rm.frames + 1) R.frames = true := by rfl) (hl : Nat.ble ((S.map fun v => v.category).sum + (maxL' + 11) + rm.locals) R.locals = true := by rfl) (hc : Nat.ble (cells + rm.cells) R.cells = true := by rfl) (hs : Nat.ble (slots + rm.slots) R.slots = true := by rfl) : Go p e below m T pc L S' F :=
  g_staticOW P C wl wst wz wc pd hq (fun vm1 T' h' v locs' P' K hQ => by obtain ⟨rfl, q⟩ := hQ; exact k vm1 T' h' locs' P' K q) hstk hna hd hsz hy hf hl hc hs
theorem arq_ty {b : Addr} {t1 t2 : FieldType} {v1 v2 : List Value} (A : Arq Z h b t1 v1) (B : Arq Z h b t2 v2) : t1 = t2 := by
  obtain ⟨c1, ⟨a1, ⟨-, k1, g1, m1, j1⟩, -⟩, -⟩ := A
  obtain ⟨c2, ⟨a2, ⟨-, k2, g2, m2, j2⟩, -⟩, -⟩ := B
  cases a1.symm.trans a2
  cases g1.symm.trans g2
  have := j1.symm.trans j2
  injection this
/-- a Latin-1 String stays where a char array is written -/
theorem StrL.keepC {h' : Heap} {a b : Addr} {cs : List Int32} {vs : List Value} (F : StrL Z h a cs) (K : Keep h h' [b]) (A : Arq Z h b .char vs) (wi : (Jvm.Cond.instantiable "java/lang/String" 4).before a0 Z = true) : StrL Z h' a cs := by
  obtain ⟨f1, f2, ⟨v, f3, f4⟩, f5⟩ := F
  have n1 : a ∉ [b] := fun q => by cases List.mem_singleton.mp q; exact arq_exa A f1 wi
  have n2 : v ∉ [b] := fun q => by cases List.mem_singleton.mp q; exact absurd (arq_ty A f4) (by decide)
  exact ⟨f1.keep K, f2.keep K n1, ⟨v, f3.keep K n1, f4.keep K n2⟩, f5⟩
end More
end Jvm.Own

namespace Jvm.Own
open Jvm Jvm.ClassFile Sem Op Lib Jvm.Free Jvm.Stand Jvm.LawKit Jvm.RoadKit Bundle
theorem eqi_v {Z : State} {args : Array Value} {t : Term} {x : Int32} (h : (Jvm.Cond.eq t (.int x)).value args Z none Z [] = some true) : t.eval args Z none [] Z = some (.int x) := by
  rw [Jvm.Cond.value] at h
  generalize hs : t.eval args Z none [] Z = o at h ⊢
  rw [show (Term.int x).eval args Z none [] Z = some (.int x) from rfl] at h
  cases o with
  | none => cases h
  | some w => cases w <;> first | (cases h; done) | (have h : some (decide (_ = x)) = some true := h; simp only [Option.some.injEq, decide_eq_true_eq] at h; subst h; rfl)
theorem ch_i2cv (x : Int32) : Ch (i2cv x) := by unfold Ch; rw [i2cv_toInt]; omega
theorem ch_nil : ∀ c ∈ ([] : List Int32), Ch c := fun _ q => nomatch q
theorem ch_cons {x : Int32} {xs : List Int32} (h : Ch x) (r : ∀ c ∈ xs, Ch c) : ∀ c ∈ x :: xs, Ch c := List.forall_mem_cons.mpr ⟨h, r⟩
theorem ofN_half {n : Nat} (h : 2 * n < 2147483648) : Int32.ofNat (2 * n) >>> ((1 : Int32) &&& 31) = Int32.ofNat n := by
  rw [show (1 : Int32) &&& 31 = 1 from rfl]
  apply toInt_ext
  have h1 : (Int32.ofNat (2 * n) >>> (1 : Int32)).toBitVec = (Int32.ofNat (2 * n)).toBitVec.sshiftRight 1 := by
    show (Int32.ofNat (2 * n)).toBitVec.sshiftRight' ((1 : Int32).toBitVec.smod 32) = _
    rfl
  have h2 : (Int32.ofNat (2 * n) >>> (1 : Int32)).toInt = ((2 * n : Nat) : Int) / 2 := by
    rw [Int32.toInt, h1, BitVec.toInt_sshiftRight, Int.shiftRight_eq_div_pow]
    rw [show (Int32.ofNat (2 * n)).toBitVec.toInt = ((2 * n : Nat) : Int) from ofN_toInt h]; rfl
  rw [h2, ofN_toInt (by omega)]; omega
end Jvm.Own

namespace Jvm.Own
open Jvm Jvm.ClassFile Sem Op Lib Jvm.Free Jvm.Stand Jvm.LawKit Jvm.RoadKit Bundle
/-! ### interface calls -/
section Face
variable {md : Option (List (String × Nat))} {EL : List (String × Nat)} {Z : State} {a0 : Array Value} {own : String} {bytes : ByteArray} {ins : List Ent} {maxL : Nat} {ret : Option FieldType} {nm : String} {h0 : Heap} {ws : List Addr}
  {p : Program} {l : Launch} {e : Env} {R : Room} {s : State} {m : MethodId} {args : Array Value} {below : List Frame} {meth : Method} {c : Code} {vm0 : Vm} {T : State} {h : Heap} {locs : List Loc} {cells slots : Nat}
  {F : Fin'} {pc n nx tg : Nat} {kk : Int32} {L L' : List Slot} {S S' : List Value}
  {y : MethodName} {bytes' : ByteArray} {maxL' : Nat} {ret' : Option FieldType} {rm : Room} {as : Array Value} {ws' : List Addr} {Q : Option Value → Heap → Prop}
theorem g_faceO (P : W md Z a0 own bytes ins maxL ret nm h0 ws p l e R s m args below meth c vm0 T h locs cells slots) {index count : Nat} {argsL : List Value} {na : Nat} {b : Addr} {Cn : String} {xi : MethodName} (C : Con none Z l y [] bytes' maxL' ret' rm (.ref b :: argsL).toArray h ws' Q) (E : Exa Z h b Cn)
    (wl : (Jvm.Cond.methodLink own index xi).before a0 Z = true) (wd : (Jvm.Cond.declares xi).before a0 Z = true) (wf : (Jvm.Cond.interfaceMethod xi.cls xi.cls xi.name xi.desc).before a0 Z = true) (wse : (Jvm.Cond.selects Cn xi y).before a0 Z = true) (wi : (Jvm.Cond.instanceMethod y).before a0 Z = true) (wp : (Jvm.Cond.publicMethod y).before a0 Z = true) (wu : (Jvm.Cond.unhidden Cn xi.name xi.desc).before a0 Z = true) (wk : (Jvm.Cond.castable Cn xi.cls).before a0 Z = true) (wz : (Jvm.Cond.initialized y.cls).before a0 Z = true) (wc : (Jvm.Cond.code y bytes' maxL' ret').before a0 Z = true) (pd : XT.arity xi.desc = some na)
    (hq : ∀ x ∈ ws', x ∈ ws ∨ h0.size ≤ x) (hsf : ∀ x ∈ ws', SafeM md Z vm0 h x)
    (k : ∀ T' h' v locs', W md Z a0 own bytes ins maxL ret nm h0 ws p l e R s m args below meth c vm0 T' h' locs' (cells + rm.cells) (slots + rm.slots) → Keep h h' ws' → Q v h' → Go p e below m T' nx L (v.toList ++ S) F)
    (hstk : S' = argsL.reverse ++ .ref b :: S) (hna : argsL.length = na) (hd : lk ins pc = some (.invokeinterface index count, 5, nx, tg, kk)) (hsz : L.length = maxL) (hy : xi.cls ≠ "java/lang/invoke/MethodHandle" ∧ xi.cls ≠ "java/lang/invoke/VarHandle") (hfa : (Jvm.Cond.interfaceMethod xi.cls xi.cls xi.name xi.desc).faceAtom = true)
    (hf : Nat.ble (rm.frames + 1) R.frames = true) (hl : Nat.ble ((S.map fun v => v.category).sum + (maxL' + 11) + rm.locals) R.locals = true) (hc : Nat.ble (cells + rm.cells) R.cells = true) (hs : Nat.ble (slots + rm.slots) R.slots = true) : Go p e below m T pc L S' F := by
  have P0 := P
  obtain ⟨⟨hx, hb, D, hml, -⟩, X, eT, hZ, hown, -⟩ := P
  obtain ⟨h1, rfl⟩ := D.at hd
  subst hstk
  obtain ⟨cB, kB, i1, i2, i3⟩ := isOf (s := s.setVm vm0) hZ eT E
  obtain ⟨v, vm₁, ⟨T', Lx, k', n'⟩, -, X', ⟨Lc, hQ, l1, l2, l3⟩, st⟩ := X.interfaceBack hx (xi := xi) (y := y) hown (mvT hZ wl) (mvT hZ wd) (mvT hZ wf (by simp [Cond.onTables, Cond.keepsFace, hfa])) (mvT hZ wse) (mvT hZ wi) (mvT hZ wp) (mvT hZ wu) (mvT hZ wk) hy
    (backOf (W := (S.map fun v => v.category).sum) (Q := QL h ws' Q) (conN C) hZ wc wz (Nat.le_of_ble_eq_true hf) (Nat.le_of_ble_eq_true hl)) i1 i2 i3 (g := mkF m pc L.toArray (argsL.reverse ++ .ref b :: S)) rfl (sz_of hml hsz) (Steps.refl _) (argsL := argsL) (rest := S) (XT.arity_len pd hna) rfl (by show 2 * 0 + _ ≤ _; omega) (by rw [hb]; exact h1)
    (fun _ _ => ⟨rfl, eT, Nat.le_of_ble_eq_true hc, Nat.le_of_ble_eq_true hs⟩)
  dsimp only [Pt.U, Pt.locs, Pt.cells, Pt.slots] at X' l1 l2 l3 st hQ
  subst l1 l2 l3
  obtain ⟨q1, q2, q3⟩ := hQ
  exact Go.st (fun _ hk => st.trans hk) (k T' _ v _ (P0.wrote X' rfl q2 q3 hq hsf) q2 q1)
theorem g_fV (P : W md Z a0 own bytes ins maxL ret nm h0 ws p l e R s m args below meth c vm0 T h locs cells slots) {index count : Nat} {argsL : List Value} {na : Nat} {b : Addr} {Cn : String} {xi : MethodName} {Q : Value → Heap → Prop} (C : Con none Z l y [] bytes' maxL' ret' rm (.ref b :: argsL).toArray h [] (rV Q)) (E : Exa Z h b Cn)
    (wl : (Jvm.Cond.methodLink own index xi).before a0 Z = true) (wd : (Jvm.Cond.declares xi).before a0 Z = true) (wf : (Jvm.Cond.interfaceMethod xi.cls xi.cls xi.name xi.desc).before a0 Z = true) (wse : (Jvm.Cond.selects Cn xi y).before a0 Z = true) (wi : (Jvm.Cond.instanceMethod y).before a0 Z = true) (wp : (Jvm.Cond.publicMethod y).before a0 Z = true) (wu : (Jvm.Cond.unhidden Cn xi.name xi.desc).before a0 Z = true) (wk : (Jvm.Cond.castable Cn xi.cls).before a0 Z = true) (wz : (Jvm.Cond.initialized y.cls).before a0 Z = true) (wc : (Jvm.Cond.code y bytes' maxL' ret').before a0 Z = true) (pd : XT.arity xi.desc = some na)
    (k : ∀ T' h' v locs', W md Z a0 own bytes ins maxL ret nm h0 ws p l e R s m args below meth c vm0 T' h' locs' (cells + rm.cells) (slots + rm.slots) → Ext h h' → Q v h' → Go p e below m T' nx L (v :: S) F)
    (hstk : S' = argsL.reverse ++ .ref b :: S := by rfl) (hna : argsL.length = na := by rfl) (hd : lk ins pc = some (.invokeinterface index count, 5, nx, tg, kk) := by rfl) (hsz : L.length = maxL := by rfl) (hy : xi.cls ≠ "java/lang/invoke/MethodHandle" ∧ xi.cls ≠ "java/lang/invoke/VarHandle" := by decide) (hfa : (Jvm.Cond.interfaceMethod xi.cls xi.cls xi.name xi.desc).faceAtom = true := by decide)
    (hf : Nat.ble (rm.frames + 1) R.frames = true := by rfl) (hl : Nat.ble ((S.map fun v => v.category).sum + (maxL' + 11) + rm.locals) R.locals = true := by rfl) (hc : Nat.ble (cells + rm.cells) R.cells = true := by rfl) (hs : Nat.ble (slots + rm.slots) R.slots = true := by rfl) : Go p e below m T pc L S' F :=
  g_faceO P C E wl wd wf wse wi wp wu wk wz wc pd (fun _ q => nomatch q) (fun _ q => nomatch q) (fun T' h' v locs' P' K hQ => by obtain ⟨x, rfl, q⟩ := hQ; exact k T' h' x locs' P' (ext_of_keep K) q) hstk hna hd hsz hy hfa hf hl hc hs
end Face
end Jvm.Own

namespace Jvm.Own
open Jvm Jvm.ClassFile Sem Op Lib Jvm.Free Jvm.Stand Jvm.LawKit Jvm.RoadKit Bundle
/-! ### dup_x1, nest mates, arrays with their class -/
section Nest
variable {md : Option (List (String × Nat))} {EL : List (String × Nat)} {Z : State} {a0 : Array Value} {own : String} {bytes : ByteArray} {ins : List Ent} {maxL : Nat} {ret : Option FieldType} {nm : String} {h0 : Heap} {ws : List Addr}
  {p : Program} {l : Launch} {e : Env} {R : Room} {s : State} {m : MethodId} {args : Array Value} {below : List Frame} {meth : Method} {c : Code} {vm0 : Vm} {T : State} {h : Heap} {locs : List Loc} {cells slots : Nat}
  {F : Fin'} {pc n nx tg : Nat} {kk : Int32} {L L' : List Slot} {S S' : List Value}
  {y : MethodName} {bytes' : ByteArray} {maxL' : Nat} {ret' : Option FieldType} {rm : Room} {as : Array Value} {ws' : List Addr} {Q : Option Value → Heap → Prop}
theorem g_dupx1 (P : W md Z a0 own bytes ins maxL ret nm h0 ws p l e R s m args below meth c vm0 T h locs cells slots) {x y : Value} (hc : x.category = 1) (hc' : y.category = 1) (k : Go p e below m T nx L (x :: y :: x :: S) F) (hd : lk ins pc = some (.dup_x1, 1, nx, tg, kk) := by rfl) : Go p e below m T pc L (x :: y :: S) F := by
  obtain ⟨⟨hx, hb, D, -⟩, X, -⟩ := P
  obtain ⟨h1, rfl⟩ := D.at hd
  exact Go.st (fun target hk => XT.dupX1 (g := mkF m pc L.toArray (x :: y :: S)) X.here hx rfl (by rw [hb]; exact h1) rfl hc hc' hk) k
theorem g_getfN (P : W md Z a0 own bytes ins maxL ret nm h0 ws p l e R s m args below meth c vm0 T h locs cells slots) {O fn d host : String} {index : Nat} {a : Addr} {v : Value} (w : (Cond.fieldLinkNest own index O fn d host).before a0 Z = true) (Fl : Fld Z h a O fn d v)
    (k : ∀ T', W md Z a0 own bytes ins maxL ret nm h0 ws p l e R s m args below meth c vm0 T' h locs cells slots → Go p e below m T' nx L (v :: S) F) (hd : lk ins pc = some (.getfield index, 3, nx, tg, kk) := by rfl) : Go p e below m T pc L (.ref a :: S) F := by
  have P0 := P
  obtain ⟨⟨hx, hb, D, -⟩, X, eT, hZ, hown, -⟩ := P
  obtain ⟨hdec, rfl⟩ := D.at hd
  obtain ⟨T', X', e', st⟩ := getF X hx hZ hown (host := host) (Or.inr w) Via.refl eT Fl (g := mkF m pc L.toArray (.ref a :: S)) rfl rfl (by rw [hb]; exact hdec)
  exact Go.st st (k T' (P0.same X' e'))
theorem g_initN (P : W md Z a0 own bytes ins maxL ret nm h0 ws p l e R s m args below meth c vm0 T h locs cells slots) {index : Nat} {host : String} {argsL : List Value} {na : Nat} {b : Addr} {Q : Heap → Prop} (C : Con none Z l y [] bytes' maxL' none rm (.ref b :: argsL).toArray h ws' (rO Q))
    (wl : (Jvm.Cond.methodLinkNest own index y host).before a0 Z = true) (wi : (Jvm.Cond.instanceMethod y).before a0 Z = true) (wz : (Jvm.Cond.initialized y.cls).before a0 Z = true) (wc : (Jvm.Cond.code y bytes' maxL' none).before a0 Z = true) (pd : XT.arity y.desc = some na)
    (hq : ∀ x ∈ ws', x ∈ ws ∨ h0.size ≤ x) (hsf : ∀ x ∈ ws', SafeM md Z vm0 h x)
    (k : ∀ T' h' locs', W md Z a0 own bytes ins maxL ret nm h0 ws p l e R s m args below meth c vm0 T' h' locs' (cells + rm.cells) (slots + rm.slots) → Keep h h' ws' → Q h' → Go p e below m T' nx L S F)
    (hstk : S' = argsL.reverse ++ .ref b :: S := by rfl) (hna : argsL.length = na := by rfl) (hd : lk ins pc = some (.invokespecial index, 3, nx, tg, kk) := by rfl) (hsz : L.length = maxL := by rfl) (hy1 : y.name = "<init>" := by rfl) (hy : y.cls ≠ "java/lang/invoke/MethodHandle" ∧ y.cls ≠ "java/lang/invoke/VarHandle" := by decide)
    (hf : Nat.ble (rm.frames + 1) R.frames = true := by rfl) (hl : Nat.ble ((S.map fun v => v.category).sum + (maxL' + 11) + rm.locals) R.locals = true := by rfl) (hc : Nat.ble (cells + rm.cells) R.cells = true := by rfl) (hs : Nat.ble (slots + rm.slots) R.slots = true := by rfl) : Go p e below m T pc L S' F := by
  have P0 := P
  obtain ⟨⟨hx, hb, D, hml, -⟩, X, eT, hZ, hown, -⟩ := P
  obtain ⟨h1, rfl⟩ := D.at hd
  subst hstk
  obtain ⟨v, vm₁, ⟨T', Lx, k', n'⟩, -, X', ⟨Lc, hQ, l1, l2, l3⟩, st⟩ := X.specialBackNest hx (y := y) (host := host) hy1 hown (Cond.methodLinkNest_wide hZ wl :) (mvT hZ wi) (mvT hZ wc) hy
    (backOf (W := (S.map fun v => v.category).sum) (Q := QL h ws' (rO Q)) (conN C) hZ wc wz (Nat.le_of_ble_eq_true hf) (Nat.le_of_ble_eq_true hl)) (g := mkF m pc L.toArray (argsL.reverse ++ .ref b :: S)) rfl (sz_of hml hsz) (Steps.refl _) (a := b) (argsL := argsL) (rest := S) (XT.arity_len pd hna) rfl (by show 2 * 0 + _ ≤ _; omega) (by rw [hb]; exact h1)
    (fun _ _ => ⟨rfl, eT, Nat.le_of_ble_eq_true hc, Nat.le_of_ble_eq_true hs⟩)
  dsimp only [Pt.U, Pt.locs, Pt.cells, Pt.slots] at X' l1 l2 l3 st hQ
  subst l1 l2 l3
  obtain ⟨⟨rfl, q1⟩, q2, q3⟩ := hQ
  exact Go.st (fun _ hk => st.trans hk) (k T' _ _ (P0.wrote X' rfl q2 q3 hq hsf) q2 q1)
/-- newarray of a primitive type: its class too -/
theorem g_newarrX (P : W md Z a0 own bytes ins maxL ret nm h0 ws p l e R s m args below meth c vm0 T h locs cells slots) {aty : ArrayType} {n : Int32} {ad : String} (had : "[" ++ (newarray.typeOf aty).toString = ad) (w : (Cond.arrayClass (newarray.typeOf aty)).before a0 Z = true) (cap : Nat) (hn : ¬ n < 0) (hcap : n.toNatClampNeg ≤ cap)
    (k : ∀ T' h' a, h.size = a → h0.size ≤ a → W md Z a0 own bytes ins maxL ret nm h0 ws p l e R s m args below meth c vm0 T' h' locs (cells + 1) (slots + cap) → Ext h h' → Arq Z h' a (newarray.typeOf aty) (List.replicate n.toNatClampNeg (defaultValue (newarray.typeOf aty))) → Exa Z h' a ad → Go p e below m T' nx L (.ref a :: S) F)
    (hd : lk ins pc = some (.newarray aty, 2, nx, tg, kk) := by rfl) (hc : Nat.ble (cells + 1) R.cells = true := by rfl) (hl : Nat.ble (slots + cap) R.slots = true := by rfl) (hcb : Nat.ble (cap * 8) 536870912 = true := by rfl) : Go p e below m T pc L (.int n :: S) F := by
  have P0 := P
  obtain ⟨⟨hx, hb, D, -⟩, X, eT, hZ, hown, -⟩ := P
  obtain ⟨hdec, rfl⟩ := D.at hd
  have hl' := Nat.le_of_ble_eq_true hl
  have hbytes : n.toNatClampNeg * componentBytes (newarray.typeOf aty) ≤ 536870912 := Nat.le_trans (Nat.mul_le_mul hcap (by cases aty <;> decide)) (Nat.le_of_ble_eq_true hcb)
  obtain ⟨cA, kA, comp, f1, f2, f3, X', st⟩ := X.newarrayPrim hx (mvA hZ w) (g := mkF m pc L.toArray (.int n :: S)) rfl (by rw [hb]; exact hdec) rfl hn hbytes (Nat.le_of_ble_eq_true hc) (by omega)
  subst eT
  rw [show (s.setVm vm0).vm = vm0 from rfl] at f1 f2
  rw [hZ.alike.findClass] at f1
  obtain ⟨kZ, g1, -⟩ := Vm.findClass_spec f1
  obtain ⟨k', g2, g3⟩ := hZ.alike.2.2 _ _ g1
  cases f2.symm.trans g2
  have hkind : kZ.kind = .array comp (newarray.typeOf aty) := by rw [← f3, g3]
  have hcell : (T.heap.push (newA cA (newarray.typeOf aty) n))[T.heap.size]? = some (newA cA (newarray.typeOf aty) n) := by simp
  have E : Ext T.heap (T.heap.push (newA cA (newarray.typeOf aty) n)) := ⟨by simp, fun a c q => by
    have := (Array.getElem?_eq_some_iff.mp q).1
    rw [Array.getElem?_push_lt this, ← q, Array.getElem?_eq_getElem this]⟩
  have A : Arr Z (T.heap.push (newA cA (newarray.typeOf aty) n)) T.heap.size (newA cA (newarray.typeOf aty) n) (newarray.typeOf aty) := ⟨hcell, ⟨by simp [newA], kZ, g1, comp, hkind⟩, by simp [newA]⟩
  exact Go.st st (k _ _ T.heap.size rfl P0.le (P0.grow (X'.more (Nat.le_refl _) (by omega)) rfl E) E (arq_new A) ⟨_, kZ, hcell, by rw [← had]; exact f1, g1, rfl, fun q => by rw [hkind] at q; cases q⟩)
theorem Arq.arz {b : Addr} {ty : FieldType} {vs : List Value} (A : Arq Z h b ty vs) : Arz Z h b ty vs := by
  obtain ⟨c, A1, A2, A3, A4⟩ := A
  refine ⟨c, A1, A2, A3, A4, fun i v hv => ?_⟩
  obtain ⟨-, k, hk, comp, hkind⟩ := A1.2.1
  have := A4 v (by rw [← A2]; exact Array.mem_toList_iff.mpr (Array.mem_of_getElem? hv))
  simp [State.fitsSlot, State.slotType?, hk, hkind, this]
/-- a virtual callee that writes into ws' and hands back a value -/
theorem g_vVw (P : W md Z a0 own bytes ins maxL ret nm h0 ws p l e R s m args below meth c vm0 T h locs cells slots) {index : Nat} {argsL : List Value} {na : Nat} {b : Addr} {Cn : String} {Q : Value → Heap → Prop} (C : Con none Z l y [] bytes' maxL' ret' rm (.ref b :: argsL).toArray h ws' (rV Q)) (E : Exa Z h b Cn)
    (wl : (Jvm.Cond.methodLink own index y).before a0 Z = true) (wd : (Jvm.Cond.declares y).before a0 Z = true) (wse : (Jvm.Cond.selects Cn y y).before a0 Z = true) (wi : (Jvm.Cond.instanceMethod y).before a0 Z = true) (wz : (Jvm.Cond.initialized y.cls).before a0 Z = true) (wc : (Jvm.Cond.code y bytes' maxL' ret').before a0 Z = true) (pd : XT.arity y.desc = some na)
    (hq : ∀ x ∈ ws', x ∈ ws ∨ h0.size ≤ x) (hsf : ∀ x ∈ ws', SafeM md Z vm0 h x)
    (k : ∀ T' h' v locs', W md Z a0 own bytes ins maxL ret nm h0 ws p l e R s m args below meth c vm0 T' h' locs' (cells + rm.cells) (slots + rm.slots) → Keep h h' ws' → Q v h' → Go p e below m T' nx L (v :: S) F)
    (hstk : S' = argsL.reverse ++ .ref b :: S := by rfl) (hna : argsL.length = na := by rfl) (hd : lk ins pc = some (.invokevirtual index, 3, nx, tg, kk) := by rfl) (hsz : L.length = maxL := by rfl) (hy : y.cls ≠ "java/lang/invoke/MethodHandle" ∧ y.cls ≠ "java/lang/invoke/VarHandle" := by decide)
    (hf : Nat.ble (rm.frames + 1) R.frames = true := by rfl) (hl : Nat.ble ((S.map fun v => v.category).sum + (maxL' + 11) + rm.locals) R.locals = true := by rfl) (hc : Nat.ble (cells + rm.cells) R.cells = true := by rfl) (hs : Nat.ble (slots + rm.slots) R.slots = true := by rfl) : Go p e below m T pc L S' F :=
  g_virtO P C E wl wd wse wi wz wc pd hq hsf (fun T' h' v locs' P' K hQ => by obtain ⟨x, rfl, q⟩ := hQ; exact k T' h' x locs' P' K q) hstk hna hd hsz hy hf hl hc hs
theorem nin1 {a d : Addr} {n : Nat} (h1 : a < n) (h2 : n ≤ d) : a ∉ [d] := fun q => by
  have e := List.mem_singleton.mp q
  subst e
  exact absurd h1 (Nat.not_lt.mpr h2)
theorem nin2 {a d d' : Addr} {n : Nat} (h1 : a < n) (h2 : n ≤ d) (h3 : n ≤ d') : a ∉ [d, d'] := fun q => by
  rcases List.mem_cons.mp q with e | q
  · subst e; exact absurd h1 (Nat.not_lt.mpr h2)
  · exact nin1 h1 h3 q
theorem nin1r {a d : Addr} {n : Nat} (h1 : a < n) (h2 : n ≤ d) : d ∉ [a] := fun q => by
  have e := List.mem_singleton.mp q
  subst e
  exact absurd h1 (Nat.not_lt.mpr h2)
end Nest
end Jvm.Own

namespace Jvm.Pilot.@@N@@
open Jvm Jvm.ClassFile Sem Op Lib Jvm.Free Jvm.Stand Jvm.LawKit Jvm.RoadKit Bundle Jvm.Own
set_option maxRecDepth 65536
set_option maxHeartbeats 4000000
/-- the sheet's words by their place -/
abbrev HW (a0 : Array Value) (Z : State) : Prop := ∀ (i : Nat) (c : Jvm.Cond), tables_1[i]? = some c → c.before a0 Z = true
theorem pd_0 : Jvm.Free.XT.arity "(II)I" = some 2 := by decide +kernel
theorem pd_1 : Jvm.Free.XT.arity "([II)[I" = some 2 := by decide +kernel
theorem pd_2 : Jvm.Free.XT.arity "([JII)V" = some 3 := by decide +kernel
theorem pd_3 : Jvm.Free.XT.arity "(Ljava/util/DualPivotQuicksort$Sorter;[JIII)V" = some 5 := by decide +kernel
theorem pd_4 : Jvm.Free.XT.arity "([JIII)V" = some 4 := by decide +kernel
theorem pd_5 : Jvm.Free.XT.arity "([J)V" = some 1 := by decide +kernel
theorem pd_6 : Jvm.Free.XT.arity "([I)V" = some 1 := by decide +kernel
theorem pd_7 : Jvm.Free.XT.arity "()V" = some 0 := by decide +kernel
theorem pd_8 : Jvm.Free.XT.arity "()Lcom/example/fanout/fanout/CodePointSet;" = some 0 := by decide +kernel
theorem pd_9 : Jvm.Free.XT.arity "(II)Lcom/example/fanout/fanout/CodePointSet$Builder;" = some 2 := by decide +kernel
theorem pd_10 : Jvm.Free.XT.arity "(I)I" = some 1 := by decide +kernel
theorem pd_11 : Jvm.Free.XT.arity "([I)Lcom/example/fanout/fanout/CodePointSet;" = some 1 := by decide +kernel
theorem pd_12 : Jvm.Free.XT.arity "(Lcom/example/fanout/fanout/CodePointSet;)Lcom/example/fanout/fanout/CodePointSet$Builder;" = some 1 := by decide +kernel
theorem pd_13 : Jvm.Free.XT.arity "(IIIII)I" = some 5 := by decide +kernel
theorem pd_14 : Jvm.Free.XT.arity "(I)Z" = some 1 := by decide +kernel
theorem pd_15 : Jvm.Free.XT.arity "(IIIII)Z" = some 5 := by decide +kernel
section Walks
variable {a0 : Array Value} {Z : State} {l : Launch} {h : Heap} {EL : List (String × Nat)}

abbrev y_amin : MethodName := ⟨"java/lang/Math", "min", "(II)I"⟩
def I_amin : List Ent := [(0, .iload_n 0, 1, 1, 0, 0), (1, .iload_n 1, 1, 2, 0, 0), (2, .if_icmp .gt 7, 3, 5, 9, 0), (5, .iload_n 0, 1, 6, 0, 0), (6, .goto 4, 3, 9, 10, 0), (9, .iload_n 1, 1, 10, 0, 0), (10, .ireturn, 1, 11, 0, 0)]
set_option maxRecDepth 65536 in
theorem D_amin : Dec jdk_29_method_69_code I_amin := (by decide +kernel : (I_amin.all (rowOk jdk_29_method_69_code)) = true)
theorem pl_amin : plainFor y_amin = true := by decide +kernel
theorem c_amin (hw : HW a0 Z) (E : Ext Z.heap h) {i j : Int32} : Con none Z l y_amin [] jdk_29_method_69_code 2 (some .int) (Rm 0 0 0 0) #[.int i, .int j] h [] (rV fun v h' => v = .int (if i.toInt ≤ j.toInt then i else j) ∧ h = h') := by
  refine con_of (a0 := a0) pl_amin D_amin [.val (.int i), .val (.int j)] rfl E (fun _ q => nomatch q) trivial fun p e s m below meth c T P => ?_
  refine g_run P 40 rfl ?_
  refine g_ic P rfl (fun hc => ?_) (fun hc => ?_)
  · refine g_run P 40 rfl ?_
    exact g_iret P ⟨by rw [if_neg (by have : j.toInt < i.toInt := hc; omega)], rfl⟩
  · refine g_run P 40 rfl ?_
    exact g_iret P ⟨by rw [if_pos (show i.toInt ≤ j.toInt from hc)], rfl⟩

abbrev RG := Int32 × Int32
def flat (ps : List RG) : List Int32 := ps.flatMap (fun q => [q.1, q.2])
theorem flat_len (ps : List RG) : (flat ps).length = 2 * ps.length := by
  induction ps with
  | nil => rfl
  | cons q ps ih => simp only [flat, List.flatMap_cons, List.length_append, List.length_cons, List.length_nil] at ih ⊢; omega
theorem flat_app (ps qs : List RG) : flat (ps ++ qs) = flat ps ++ flat qs := by simp [flat]
theorem flat_get (ps : List RG) : ∀ (i : Nat) (q : RG), ps[i]? = some q → (flat ps)[2 * i]? = some q.1 ∧ (flat ps)[2 * i + 1]? = some q.2 := by
  induction ps with
  | nil => intro i c h; cases h
  | cons d ps ih =>
    intro i c h
    cases i with
    | zero => cases h; exact ⟨rfl, rfl⟩
    | succ i =>
      have := ih i c (by simpa using h)
      rw [show 2 * (i + 1) = 2 * i + 2 by omega]
      exact this
def Cov (ps : List RG) (x : Int) : Prop := ∃ q ∈ ps, q.1.toInt ≤ x ∧ x ≤ q.2.toInt
def Ok (ps : List RG) : Prop := ∀ q ∈ ps, 0 ≤ q.1.toInt ∧ q.1.toInt ≤ q.2.toInt ∧ q.2.toInt < 1114112
def Good (qs : List RG) : Prop := qs.Pairwise (fun a b => a.2.toInt < b.1.toInt) ∧ ∀ q ∈ qs, q.1.toInt ≤ q.2.toInt
def mxv (a b : Int32) : Int32 := if a.toInt < b.toInt then b else a
def mg (fr : List RG) (t : RG) : List RG → List RG
  | [] => fr ++ [t]
  | q :: r => if q.1.toInt ≤ (t.2 + 1).toInt then mg fr (t.1, mxv t.2 q.2) r else mg (fr ++ [t]) q r
def mgA : List RG → List RG
  | [] => []
  | q :: r => mg [] q r
theorem mxv_toInt (a b : Int32) : (mxv a b).toInt = max a.toInt b.toInt := by
  unfold mxv; split <;> omega
theorem cov_app (ps qs : List RG) (x : Int) : Cov (ps ++ qs) x ↔ Cov ps x ∨ Cov qs x := by
  unfold Cov; constructor
  · rintro ⟨q, hq, h⟩; rcases List.mem_append.mp hq with r | r
    · exact Or.inl ⟨q, r, h⟩
    · exact Or.inr ⟨q, r, h⟩
  · rintro (⟨q, hq, h⟩ | ⟨q, hq, h⟩)
    · exact ⟨q, List.mem_append.mpr (Or.inl hq), h⟩
    · exact ⟨q, List.mem_append.mpr (Or.inr hq), h⟩
theorem cov_cons (q : RG) (qs : List RG) (x : Int) : Cov (q :: qs) x ↔ (q.1.toInt ≤ x ∧ x ≤ q.2.toInt) ∨ Cov qs x := by
  unfold Cov; simp [List.mem_cons]
theorem cov_nil (x : Int) : ¬ Cov [] x := by unfold Cov; simp
theorem succ_toInt {a : Int32} (h0 : 0 ≤ a.toInt) (h : a.toInt < 1114112) : (a + 1).toInt = a.toInt + 1 := by
  obtain ⟨n, rfl, hn, -⟩ := of_small h0
  rw [show Int32.ofNat n + 1 = Int32.ofNat (n + 1) by rw [Int32.ofNat_add]; rfl, ofN_toInt (by omega), ofN_toInt (by omega)]; omega
theorem mg_spec (r : List RG) : ∀ (fr : List RG) (t : RG), Good fr → (∀ q ∈ fr, q.2.toInt < t.1.toInt) → (0 ≤ t.1.toInt ∧ t.1.toInt ≤ t.2.toInt ∧ t.2.toInt < 1114112) → Ok r → r.Pairwise (fun a b => a.1.toInt ≤ b.1.toInt) → (∀ q ∈ r, t.1.toInt ≤ q.1.toInt) →
    Good (mg fr t r) ∧ ∀ x, Cov (mg fr t r) x ↔ Cov fr x ∨ (t.1.toInt ≤ x ∧ x ≤ t.2.toInt) ∨ Cov r x := by
  induction r with
  | nil =>
    intro fr t hg hf ht _ _ _
    refine ⟨⟨List.pairwise_append.mpr ⟨hg.1, List.pairwise_singleton _ _, fun a ha b hb => ?_⟩, fun q hq => ?_⟩, fun x => ?_⟩
    · cases List.mem_singleton.mp hb; exact hf a ha
    · rcases List.mem_append.mp hq with z | z
      · exact hg.2 q z
      · cases List.mem_singleton.mp z; exact ht.2.1
    · show Cov (fr ++ [t]) x ↔ _
      rw [cov_app, cov_cons]
  | cons q r ih =>
    intro fr t hg hf ht hok hs hl
    have hq := hok q (List.mem_cons_self ..)
    have hok' : Ok r := fun z hz => hok z (List.mem_cons_of_mem _ hz)
    obtain ⟨hs1, hs2⟩ := List.pairwise_cons.mp hs
    have htq := hl q (List.mem_cons_self ..)
    have hsu := succ_toInt (a := t.2) (by omega) ht.2.2
    rw [mg]
    split
    · rename_i hc
      rw [hsu] at hc
      have hm := mxv_toInt t.2 q.2
      obtain ⟨g1, g2⟩ := ih fr (t.1, mxv t.2 q.2) hg hf ⟨ht.1, by show t.1.toInt ≤ (mxv t.2 q.2).toInt; omega, by show (mxv t.2 q.2).toInt < 1114112; omega⟩ hok' hs2 (fun z hz => hl z (List.mem_cons_of_mem _ hz))
      refine ⟨g1, fun x => ?_⟩
      rw [g2 x, cov_cons]
      show Cov fr x ∨ (t.1.toInt ≤ x ∧ x ≤ (mxv t.2 q.2).toInt) ∨ Cov r x ↔ _
      rw [hm]
      constructor
      · rintro (z | z | z)
        · exact Or.inl z
        · by_cases w : x ≤ t.2.toInt
          · exact Or.inr (Or.inl ⟨z.1, w⟩)
          · exact Or.inr (Or.inr (Or.inl ⟨by omega, by omega⟩))
        · exact Or.inr (Or.inr (Or.inr z))
      · rintro (z | z | z | z)
        · exact Or.inl z
        · exact Or.inr (Or.inl ⟨z.1, by omega⟩)
        · exact Or.inr (Or.inl ⟨by omega, by omega⟩)
        · exact Or.inr (Or.inr z)
    · rename_i hc
      rw [hsu] at hc
      obtain ⟨g1, g2⟩ := ih (fr ++ [t]) q ⟨List.pairwise_append.mpr ⟨hg.1, List.pairwise_singleton _ _, fun a ha b hb => by cases List.mem_singleton.mp hb; exact hf a ha⟩, fun z hz => by
          rcases List.mem_append.mp hz with w | w
          · exact hg.2 z w
          · cases List.mem_singleton.mp w; exact ht.2.1⟩ (fun z hz => by
          rcases List.mem_append.mp hz with w | w
          · have := hf z w; omega
          · cases List.mem_singleton.mp w; omega) hq hok' hs2 hs1
      refine ⟨g1, fun x => ?_⟩
      rw [g2 x, cov_app, cov_cons, cov_cons]
      constructor
      · rintro ((z | z | z) | z | z)
        · exact Or.inl z
        · exact Or.inr (Or.inl z)
        · exact absurd z (cov_nil x)
        · exact Or.inr (Or.inr (Or.inl z))
        · exact Or.inr (Or.inr (Or.inr z))
      · rintro (z | z | z | z)
        · exact Or.inl (Or.inl z)
        · exact Or.inl (Or.inr (Or.inl z))
        · exact Or.inr (Or.inl z)
        · exact Or.inr (Or.inr z)
def SLo (rs : List RG) : Prop := rs.Pairwise (fun a b => a.1.toInt ≤ b.1.toInt)
theorem mgA_spec {rs : List RG} (hok : Ok rs) (hs : SLo rs) : Good (mgA rs) ∧ ∀ x, Cov (mgA rs) x ↔ Cov rs x := by
  cases rs with
  | nil => exact ⟨⟨List.Pairwise.nil, fun _ q => nomatch q⟩, fun x => Iff.rfl⟩
  | cons q r =>
    obtain ⟨hs1, hs2⟩ := List.pairwise_cons.mp hs
    obtain ⟨g1, g2⟩ := mg_spec r [] q ⟨List.Pairwise.nil, fun _ q => nomatch q⟩ (fun _ q => nomatch q) (hok q (List.mem_cons_self ..)) (fun z hz => hok z (List.mem_cons_of_mem _ hz)) hs2 hs1
    refine ⟨g1, fun x => ?_⟩
    show Cov (mg [] q r) x ↔ _
    rw [g2 x, cov_cons]
    constructor
    · rintro (z | z)
      · exact absurd z (cov_nil x)
      · exact z
    · exact Or.inr
theorem mg_len (r : List RG) : ∀ fr t, (mg fr t r).length ≤ fr.length + 1 + r.length := by
  induction r with
  | nil => intro fr t; simp [mg]
  | cons q r ih =>
    intro fr t
    rw [mg]
    split
    · have := ih fr (t.1, mxv t.2 q.2); simp only [List.length_cons]; omega
    · have := ih (fr ++ [t]) q; simp only [List.length_append, List.length_cons, List.length_nil] at this ⊢; omega
theorem mgA_len (rs : List RG) : (mgA rs).length ≤ rs.length := by
  cases rs with
  | nil => exact Nat.le_refl _
  | cons q r => have := mg_len r [] q; simp only [List.length_nil, List.length_cons] at this ⊢; show (mg [] q r).length ≤ _; omega
/-! keys -/
def key (q : RG) : Int64 := (q.1.toInt64 <<< ((32 : Int32).toInt64 &&& 63)) ||| q.2.toInt64
def dec (y : Int64) : RG := ((XT.ushrL y 32).toInt32, y.toInt32)
theorem key_ofNat {a b : Nat} (ha : a < 2147483648) (hb : b < 2147483648) : key (Int32.ofNat a, Int32.ofNat b) = Int64.ofNat (a * 4294967296 + b) := by
  have e1 : (Int32.ofNat a).toInt64 = Int64.ofNat a := by
    apply Int64.toInt_inj.mp
    rw [Int32.toInt_toInt64, ofN_toInt ha, Int64.toInt_ofNat_of_lt (by omega)]
  have e2 : (Int32.ofNat b).toInt64 = Int64.ofNat b := by
    apply Int64.toInt_inj.mp
    rw [Int32.toInt_toInt64, ofN_toInt hb, Int64.toInt_ofNat_of_lt (by omega)]
  unfold key
  simp only
  rw [e1, e2]
  apply Int64.toBitVec_inj.mp
  show (BitVec.ofNat 64 a <<< (((32 : Int32).toInt64 &&& 63).toBitVec.smod 64)) ||| BitVec.ofNat 64 b = BitVec.ofNat 64 (a * 4294967296 + b)
  rw [show ((32 : Int32).toInt64 &&& 63).toBitVec.smod 64 = 32#64 from by decide]
  apply BitVec.eq_of_toNat_eq
  rw [BitVec.toNat_or, BitVec.toNat_ofNat, BitVec.toNat_ofNat, show BitVec.ofNat 64 a <<< 32#64 = BitVec.ofNat 64 a <<< 32 from rfl, BitVec.toNat_shiftLeft, BitVec.toNat_ofNat, Nat.shiftLeft_eq]
  rw [Nat.mod_eq_of_lt (show a < 2 ^ 64 by omega), Nat.mod_eq_of_lt (show b < 2 ^ 64 by omega), Nat.mod_eq_of_lt (show a * 2 ^ 32 < 2 ^ 64 by omega), Nat.mod_eq_of_lt (show a * 4294967296 + b < 2 ^ 64 by omega)]
  have := Nat.two_pow_add_eq_or_of_lt (i := 32) (show b < 2 ^ 32 by omega) a
  rw [Nat.mul_comm a, ← this]
theorem key_toInt {q : RG} (h : 0 ≤ q.1.toInt ∧ q.1.toInt ≤ q.2.toInt ∧ q.2.toInt < 1114112) : (key q).toInt = q.1.toInt * 4294967296 + q.2.toInt := by
  obtain ⟨u, v⟩ := q
  obtain ⟨a, rfl, ha, ha'⟩ := of_small h.1
  obtain ⟨b, rfl, hb, hb'⟩ := of_small (x := v) (by have := h.1; have := h.2.1; simp only at *; omega)
  simp only at h ha hb ⊢
  rw [key_ofNat ha' hb', Int64.toInt_ofNat_of_lt (by omega), ← ha, ← hb]; omega
theorem dec_key {q : RG} (h : 0 ≤ q.1.toInt ∧ q.1.toInt ≤ q.2.toInt ∧ q.2.toInt < 1114112) : dec (key q) = q := by
  obtain ⟨u, v⟩ := q
  obtain ⟨a, rfl, ha, ha'⟩ := of_small h.1
  obtain ⟨b, rfl, hb, hb'⟩ := of_small (x := v) (by have := h.1; have := h.2.1; simp only at *; omega)
  rw [key_ofNat ha' hb']
  unfold dec
  have e1 : (Int64.ofNat (a * 4294967296 + b)).toInt32 = Int32.ofNat b := by
    apply Int32.toBitVec_inj.mp
    show (BitVec.ofNat 64 (a * 4294967296 + b)).signExtend 32 = BitVec.ofNat 32 b
    rw [BitVec.signExtend_eq_setWidth_of_le _ (by decide)]
    apply BitVec.eq_of_toNat_eq
    rw [BitVec.toNat_setWidth, BitVec.toNat_ofNat, BitVec.toNat_ofNat]; omega
  have e2 : (XT.ushrL (Int64.ofNat (a * 4294967296 + b)) 32).toInt32 = Int32.ofNat a := by
    apply Int32.toBitVec_inj.mp
    unfold XT.ushrL
    show ((BitVec.ofNat 64 (a * 4294967296 + b)) >>> (((32 : Int32).toInt64.toUInt64 &&& Int64.toUInt64 63).toBitVec % 64)).signExtend 32 = BitVec.ofNat 32 a
    rw [show ((32 : Int32).toInt64.toUInt64 &&& Int64.toUInt64 63).toBitVec % 64 = 32#64 from by decide, BitVec.signExtend_eq_setWidth_of_le _ (by decide)]
    apply BitVec.eq_of_toNat_eq
    rw [BitVec.toNat_setWidth, show BitVec.ofNat 64 (a * 4294967296 + b) >>> 32#64 = BitVec.ofNat 64 (a * 4294967296 + b) >>> 32 from rfl, BitVec.toNat_ushiftRight, BitVec.toNat_ofNat, BitVec.toNat_ofNat, Nat.shiftRight_eq_div_pow]; omega
  rw [e1, e2]
theorem cmp_lt {x y : Int64} : (XT.cmpL x y).toInt < 0 ↔ x.toInt < y.toInt := by
  unfold XT.cmpL
  split
  · rename_i h
    have := Int64.lt_iff_toInt_lt.mp h
    exact ⟨fun q => absurd q (by decide), fun q => by omega⟩
  · rename_i h
    have h' : ¬ y.toInt < x.toInt := fun q => h (Int64.lt_iff_toInt_lt.mpr q)
    split
    · rename_i e; subst e; exact ⟨fun q => absurd q (by decide), fun q => by omega⟩
    · rename_i e
      have : x.toInt ≠ y.toInt := fun q => e (Int64.toInt_inj.mp q)
      exact ⟨fun _ => by omega, fun _ => by decide⟩
/-! sorting -/
def Srt (ys : List Int64) : Prop := ys.Pairwise (fun a b => a.toInt ≤ b.toInt)
theorem sort_dec {ps : List RG} {zs : List Int64} (hok : Ok ps) (hp : zs.Perm (ps.map key)) (hs : Srt zs) : (zs.map dec).Perm ps ∧ SLo (zs.map dec) := by
  have e : (ps.map key).map dec = ps := by
    rw [List.map_map]
    exact (List.map_congr_left (fun q hq => dec_key (hok q hq))).trans (List.map_id ps)
  refine ⟨by have := hp.map dec; rwa [e] at this, ?_⟩
  refine List.pairwise_map.mpr (List.Pairwise.imp_of_mem (fun {a b} ha hb hab => ?_) hs)
  obtain ⟨qa, hqa, rfl⟩ := List.mem_map.mp (hp.mem_iff.mp ha)
  obtain ⟨qb, hqb, rfl⟩ := List.mem_map.mp (hp.mem_iff.mp hb)
  have h1 := hok qa hqa
  have h2 := hok qb hqb
  rw [dec_key h1, dec_key h2]
  rw [key_toInt h1, key_toInt h2] at hab
  omega
/-- an element put at place i of a sorted list -/
theorem ins_srt {P : List Int64} {x : Int64} {i : Nat} (hP : Srt P) (h1 : ∀ y ∈ P.drop i, x.toInt < y.toInt) (h2 : ∀ y ∈ P.take i, y.toInt ≤ x.toInt) : Srt (P.take i ++ x :: P.drop i) := by
  refine List.pairwise_append.mpr ⟨List.Pairwise.sublist (List.take_sublist i P) hP, List.pairwise_cons.mpr ⟨fun y hy => Int.le_of_lt (h1 y hy), List.Pairwise.sublist (List.drop_sublist i P) hP⟩, fun a ha b hb => ?_⟩
  rcases List.mem_cons.mp hb with rfl | hb
  · exact h2 a ha
  · have := h1 b hb; have := h2 a ha; omega
theorem srt_take_le {P : List Int64} {x : Int64} {i : Nat} (hP : Srt P) (hi : i < P.length) (hx : P[i].toInt ≤ x.toInt) : ∀ y ∈ P.take (i + 1), y.toInt ≤ x.toInt := by
  intro y hy
  obtain ⟨j, hj, rfl⟩ := List.mem_iff_getElem.mp hy
  rw [List.getElem_take]
  have hji : j ≤ i := by rw [List.length_take] at hj; omega
  rcases Nat.lt_or_eq_of_le hji with h | rfl
  · have := (List.pairwise_iff_getElem.mp hP) j i (by omega) hi h; omega
  · exact hx
/-! binary search -/
theorem good_lt {qs : List RG} (h : Good qs) {i j : Nat} (hi : i < qs.length) (hj : j < qs.length) (hij : i < j) : qs[i].2.toInt < qs[j].1.toInt := (List.pairwise_iff_getElem.mp h.1) i j hi hj hij
theorem cov_at {qs : List RG} {x : Int} : Cov qs x ↔ ∃ i, ∃ h : i < qs.length, qs[i].1.toInt ≤ x ∧ x ≤ qs[i].2.toInt := by
  unfold Cov
  constructor
  · rintro ⟨q, hq, h⟩; obtain ⟨i, hi, rfl⟩ := List.mem_iff_getElem.mp hq; exact ⟨i, hi, h⟩
  · rintro ⟨i, hi, h⟩; exact ⟨qs[i], List.getElem_mem hi, h⟩
/-! what is awaited -/
def FILL : List RG := [(1048576, 1048576), (1048578, 1048578), (1048580, 1048580), (1048582, 1048582), (1048584, 1048584), (1048586, 1048586), (1048588, 1048588), (1048590, 1048590)]
theorem fill_mg : mgA FILL = FILL := by decide
theorem fill_ok : Ok FILL := by unfold Ok FILL; decide
theorem fill_srt : Srt (FILL.map key) := by unfold Srt; decide
theorem fill_dec : (FILL.map key).map dec = FILL := by decide
instance (ps : List RG) (x : Int) : Decidable (Cov ps x) := inferInstanceAs (Decidable (∃ q ∈ ps, _))
def InF (x : Int32) : Prop := (1048576 : Int32).toInt ≤ x.toInt ∧ x.toInt ≤ (1048590 : Int32).toInt ∧ (x - 1048576) &&& 1 = 0
instance (x : Int32) : Decidable (InF x) := inferInstanceAs (Decidable (_ ∧ _ ∧ _))
def Exp (x a b c d : Int32) : Prop := InF x ∨ (a.toInt ≤ x.toInt ∧ x.toInt ≤ b.toInt) ∨ (c.toInt ≤ x.toInt ∧ x.toInt ≤ d.toInt)
instance (x a b c d : Int32) : Decidable (Exp x a b c d) := inferInstanceAs (Decidable (_ ∨ _ ∨ _))
theorem fill_cov (x : Int32) : Cov FILL x.toInt ↔ InF x := by
  by_cases h : 1048576 ≤ x.toInt ∧ x.toInt ≤ 1048590
  · obtain ⟨n, hn, hn2, -⟩ := of_small (x := x) (by omega)
    have hd : ∀ j : Fin 15, Cov FILL (Int32.ofNat (1048576 + j.val)).toInt ↔ InF (Int32.ofNat (1048576 + j.val)) := by decide
    have := hd ⟨n - 1048576, by omega⟩
    simp only at this
    rw [show 1048576 + (n - 1048576) = n by omega, ← hn] at this
    exact this
  · constructor
    · rintro ⟨q, hq, h1, h2⟩
      have hr : ∀ q ∈ FILL, (1048576 : Int) ≤ q.1.toInt ∧ q.2.toInt ≤ 1048590 := by unfold FILL; decide
      have := hr q hq
      exact absurd ⟨by omega, by omega⟩ h
    · rintro ⟨h1, h2, -⟩
      exact absurd ⟨h1, h2⟩ h
theorem all_cov (x a b c d : Int32) : Cov (FILL ++ [(a, b), (c, d)]) x.toInt ↔ Exp x a b c d := by
  rw [cov_app, cov_cons, cov_cons, fill_cov]
  unfold Exp
  constructor
  · rintro (z | z | z | z)
    · exact Or.inl z
    · exact Or.inr (Or.inl z)
    · exact Or.inr (Or.inr z)
    · exact absurd z (cov_nil _)
  · rintro (z | z | z)
    · exact Or.inl z
    · exact Or.inr (Or.inl z)
    · exact Or.inr (Or.inr (Or.inl z))
theorem cov_perm {ps qs : List RG} (h : ps.Perm qs) (x : Int) : Cov ps x ↔ Cov qs x := by
  unfold Cov
  exact ⟨fun ⟨q, hq, r⟩ => ⟨q, h.mem_iff.mp hq, r⟩, fun ⟨q, hq, r⟩ => ⟨q, h.mem_iff.mpr hq, r⟩⟩
theorem ok_perm {ps qs : List RG} (h : ps.Perm qs) (hok : Ok qs) : Ok ps := fun q hq => hok q (h.mem_iff.mp hq)
/-! numbers -/
theorem ofN_pred {i : Nat} (h : 1 ≤ i) : Int32.ofNat i + (-1) = Int32.ofNat (i - 1) := by
  obtain ⟨j, rfl⟩ : ∃ j, i = j + 1 := ⟨i - 1, by omega⟩
  rw [show Int32.ofNat (j + 1) = Int32.ofNat j + 1 by rw [Int32.ofNat_add]; rfl, Int32.add_assoc, show (1 : Int32) + -1 = 0 from rfl, Int32.add_zero]; rfl
theorem ofN_pred1 {i : Nat} (h : 1 ≤ i) : Int32.ofNat i - 1 = Int32.ofNat (i - 1) := by rw [← ofN_pred h, Int32.sub_eq_add_neg]
theorem ofN_half2 {k : Nat} (h : k ≤ 100) : Int32.ofNat (2 * k) / 2 = Int32.ofNat k := by
  have : ∀ k : Fin 101, Int32.ofNat (2 * k.val) / 2 = Int32.ofNat k.val := by decide +kernel
  exact this ⟨k, by omega⟩
theorem ofN_two (k : Nat) : 2 * Int32.ofNat k = Int32.ofNat (2 * k) := by rw [Int32.ofNat_mul]; rfl
theorem ofN_add (i j : Nat) : Int32.ofNat i + Int32.ofNat j = Int32.ofNat (i + j) := (Int32.ofNat_add ..).symm
theorem ushr_half {k : Nat} (h : k ≤ 100) : XT.ushr (Int32.ofNat k) 1 = Int32.ofNat (k / 2) := by
  have : ∀ k : Fin 101, XT.ushr (Int32.ofNat k.val) 1 = Int32.ofNat (k.val / 2) := by decide +kernel
  exact this ⟨k, by omega⟩
theorem srt_snoc {P : List Int64} {x : Int64} (hP : Srt P) {j : Nat} (hj : P.length = j + 1) (hx : (P[j]'(by omega)).toInt ≤ x.toInt) : Srt (P ++ [x]) := by
  refine List.pairwise_append.mpr ⟨hP, List.pairwise_singleton _ _, fun a ha b hb => ?_⟩
  cases List.mem_singleton.mp hb
  have := srt_take_le hP (i := j) (by omega) hx
  rw [List.take_of_length_le (by omega)] at this
  exact this a ha
theorem ins_perm {P rest : List Int64} {x : Int64} {i : Nat} : (P.take i ++ x :: (P.drop i ++ rest)).Perm (P ++ x :: rest) := by
  have h1 : (P.take i ++ x :: (P.drop i ++ rest)).Perm (x :: (P ++ rest)) := by
    have := List.perm_middle (a := x) (l₁ := P.take i) (l₂ := P.drop i ++ rest)
    rwa [← List.append_assoc, List.take_append_drop] at this
  exact h1.trans List.perm_middle.symm
theorem ins_take {P rest : List Int64} {x : Int64} {i n : Nat} (hn : P.length + 1 = n) : (P.take i ++ x :: (P.drop i ++ rest)).take n = P.take i ++ x :: P.drop i := by
  have e : P.take i ++ x :: (P.drop i ++ rest) = (P.take i ++ x :: P.drop i) ++ rest := by simp
  rw [e, List.take_left' (by simp only [List.length_append, List.length_cons, List.length_take, List.length_drop]; omega)]
theorem ins_len {P rest : List Int64} {x : Int64} {i : Nat} : (P.take i ++ x :: (P.drop i ++ rest)).length = P.length + 1 + rest.length := by
  simp only [List.length_append, List.length_cons, List.length_take, List.length_drop]; omega
theorem ins_next {P rest : List Int64} {i : Nat} (hi : i < P.length) : P.take (i + 1) ++ P[i] :: (P.drop (i + 1) ++ rest) = P.take i ++ P[i] :: (P.drop i ++ rest) := by
  have e1 : P.take (i + 1) = P.take i ++ [P[i]] := by rw [List.take_add_one, List.getElem?_eq_getElem hi]; rfl
  have e2 : P.drop i = P[i] :: P.drop (i + 1) := List.drop_eq_getElem_cons hi
  rw [e1, e2, List.append_assoc]; rfl
theorem cut_at {zs : List Int64} {j : Nat} (hj : j + 1 < zs.length) : zs = zs.take (j + 1) ++ zs[j + 1] :: zs.drop (j + 1 + 1) := by
  conv => lhs; rw [← List.take_append_drop (j + 1) zs, List.drop_eq_getElem_cons hj]
theorem w_at {P rest : List Int64} {c : Int64} {i : Nat} (hi : i < P.length) : (P.take (i + 1) ++ c :: (P.drop (i + 1) ++ rest))[i]? = some P[i] := by
  rw [List.getElem?_append_left (by rw [List.length_take]; omega), List.getElem?_take_of_lt (by omega), List.getElem?_eq_getElem hi]
theorem w_set {P rest : List Int64} {c x : Int64} {i : Nat} (hi : i ≤ P.length) : (P.take i ++ c :: (P.drop i ++ rest)).set i x = P.take i ++ x :: (P.drop i ++ rest) := by
  have : (P.take i).length = i := by rw [List.length_take]; omega
  rw [List.set_append_right _ _ (by omega), this, Nat.sub_self, List.set_cons_zero]
theorem srt_no {ys : List Int64} {j : Nat} (hj : j + 1 < ys.length) (h : ys[j + 1].toInt < ys[j].toInt) : ¬ Srt ys := fun q => by
  have := (List.pairwise_iff_getElem.mp q) j (j + 1) (by omega) hj (by omega); omega

abbrev y_cpB : MethodName := ⟨"com/example/fanout/fanout/BuilderAddPinLaw", "cp", "(I)I"⟩
def I_cpB : List Ent := [(0, .iload_n 0, 1, 1, 0, 0), (1, .ldc 7, 2, 3, 0, 0), (3, .iand, 1, 4, 0, 0), (4, .ldc 8, 2, 6, 0, 0), (6, .irem, 1, 7, 0, 0), (7, .ireturn, 1, 8, 0, 0)]
set_option maxRecDepth 65536 in
theorem D_cpB : Dec method_2_code I_cpB := (by decide +kernel : (I_cpB.all (rowOk method_2_code)) = true)
theorem pl_cpB : plainFor y_cpB = true := by decide +kernel
abbrev y_amax : MethodName := ⟨"java/lang/Math", "max", "(II)I"⟩
def I_amax : List Ent := [(0, .iload_n 0, 1, 1, 0, 0), (1, .iload_n 1, 1, 2, 0, 0), (2, .if_icmp .lt 7, 3, 5, 9, 0), (5, .iload_n 0, 1, 6, 0, 0), (6, .goto 4, 3, 9, 10, 0), (9, .iload_n 1, 1, 10, 0, 0), (10, .ireturn, 1, 11, 0, 0)]
set_option maxRecDepth 65536 in
theorem D_amax : Dec jdk_29_method_65_code I_amax := (by decide +kernel : (I_amax.all (rowOk jdk_29_method_65_code)) = true)
theorem pl_amax : plainFor y_amax = true := by decide +kernel
abbrev y_bin : MethodName := ⟨"com/example/fanout/fanout/CodePointSet$Builder", "<init>", "()V"⟩
def I_bin : List Ent := [(0, .aload_n 0, 1, 1, 0, 0), (1, .invokespecial 1, 3, 4, 0, 0), (4, .aload_n 0, 1, 5, 0, 0), (5, .bipush 16, 2, 7, 0, 16), (7, .newarray .int, 2, 9, 0, 0), (9, .putfield 7, 3, 12, 0, 0), (12, .return_, 1, 13, 0, 0)]
set_option maxRecDepth 65536 in
theorem D_bin : Dec prog_6_method_1_code I_bin := (by decide +kernel : (I_bin.all (rowOk prog_6_method_1_code)) = true)
theorem pl_bin : plainFor y_bin = true := by decide +kernel
abbrev y_add : MethodName := ⟨"com/example/fanout/fanout/CodePointSet$Builder", "add", "(II)Lcom/example/fanout/fanout/CodePointSet$Builder;"⟩
def I_add : List Ent := [(0, .aload_n 0, 1, 1, 0, 0), (1, .getfield 13, 3, 4, 0, 0), (4, .aload_n 0, 1, 5, 0, 0), (5, .getfield 7, 3, 8, 0, 0), (8, .arraylength, 1, 9, 0, 0), (9, .if_icmp .ne 20, 3, 12, 29, 0), (12, .aload_n 0, 1, 13, 0, 0), (13, .aload_n 0, 1, 14, 0, 0), (14, .getfield 7, 3, 17, 0, 0), (17, .iconst 2, 1, 18, 0, 2), (18, .aload_n 0, 1, 19, 0, 0), (19, .getfield 13, 3, 22, 0, 0), (22, .imul, 1, 23, 0, 0), (23, .invokestatic 17, 3, 26, 0, 0), (26, .putfield 7, 3, 29, 0, 0), (29, .aload_n 0, 1, 30, 0, 0), (30, .getfield 7, 3, 33, 0, 0), (33, .aload_n 0, 1, 34, 0, 0), (34, .dup, 1, 35, 0, 0), (35, .getfield 13, 3, 38, 0, 0), (38, .dup_x1, 1, 39, 0, 0), (39, .iconst 1, 1, 40, 0, 1), (40, .iadd, 1, 41, 0, 0), (41, .putfield 13, 3, 44, 0, 0), (44, .iload_n 1, 1, 45, 0, 0), (45, .iastore, 1, 46, 0, 0), (46, .aload_n 0, 1, 47, 0, 0), (47, .getfield 7, 3, 50, 0, 0), (50, .aload_n 0, 1, 51, 0, 0), (51, .dup, 1, 52, 0, 0), (52, .getfield 13, 3, 55, 0, 0), (55, .dup_x1, 1, 56, 0, 0), (56, .iconst 1, 1, 57, 0, 1), (57, .iadd, 1, 58, 0, 0), (58, .putfield 13, 3, 61, 0, 0), (61, .iload_n 2, 1, 62, 0, 0), (62, .iastore, 1, 63, 0, 0), (63, .aload_n 0, 1, 64, 0, 0), (64, .areturn, 1, 65, 0, 0)]
set_option maxRecDepth 65536 in
theorem D_add : Dec prog_6_method_2_code I_add := (by decide +kernel : (I_add.all (rowOk prog_6_method_2_code)) = true)
theorem pl_add : plainFor y_add = true := by decide +kernel
abbrev y_adS : MethodName := ⟨"com/example/fanout/fanout/CodePointSet$Builder", "add", "(Lcom/example/fanout/fanout/CodePointSet;)Lcom/example/fanout/fanout/CodePointSet$Builder;"⟩
def I_adS : List Ent := [(0, .iconst 0, 1, 1, 0, 0), (1, .istore_n 2, 1, 2, 0, 0), (2, .iload_n 2, 1, 3, 0, 0), (3, .aload_n 1, 1, 4, 0, 0), (4, .getfield 23, 3, 7, 0, 0), (7, .arraylength, 1, 8, 0, 0), (8, .if_icmp .ge 28, 3, 11, 36, 0), (11, .aload_n 0, 1, 12, 0, 0), (12, .aload_n 1, 1, 13, 0, 0), (13, .getfield 23, 3, 16, 0, 0), (16, .iload_n 2, 1, 17, 0, 0), (17, .iaload, 1, 18, 0, 0), (18, .aload_n 1, 1, 19, 0, 0), (19, .getfield 23, 3, 22, 0, 0), (22, .iload_n 2, 1, 23, 0, 0), (23, .iconst 1, 1, 24, 0, 1), (24, .iadd, 1, 25, 0, 0), (25, .iaload, 1, 26, 0, 0), (26, .invokevirtual 26, 3, 29, 0, 0), (29, .pop, 1, 30, 0, 0), (30, .iinc 2 2, 3, 33, 0, 2), (33, .goto (-31), 3, 36, 2, 0), (36, .aload_n 0, 1, 37, 0, 0), (37, .areturn, 1, 38, 0, 0)]
set_option maxRecDepth 65536 in
theorem D_adS : Dec prog_6_method_3_code I_adS := (by decide +kernel : (I_adS.all (rowOk prog_6_method_3_code)) = true)
theorem pl_adS : plainFor y_adS = true := by decide +kernel
abbrev y_ins : MethodName := ⟨"java/util/DualPivotQuicksort", "insertionSort", "([JII)V"⟩
def I_ins : List Ent := [(0, .iload_n 1, 1, 1, 0, 0), (1, .istore 4, 2, 3, 0, 0), (3, .iinc 4 1, 3, 6, 0, 1), (6, .iload 4, 2, 8, 0, 0), (8, .iload_n 2, 1, 9, 0, 0), (9, .if_icmp .ge 60, 3, 12, 69, 0), (12, .aload_n 0, 1, 13, 0, 0), (13, .iload 4, 2, 15, 0, 0), (15, .dup, 1, 16, 0, 0), (16, .istore_n 3, 1, 17, 0, 0), (17, .laload, 1, 18, 0, 0), (18, .lstore 5, 2, 20, 0, 0), (20, .lload 5, 2, 22, 0, 0), (22, .aload_n 0, 1, 23, 0, 0), (23, .iload_n 3, 1, 24, 0, 0), (24, .iconst 1, 1, 25, 0, 1), (25, .isub, 1, 26, 0, 0), (26, .laload, 1, 27, 0, 0), (27, .lcmp, 1, 28, 0, 0), (28, .ifCond .ge 38, 3, 31, 66, 0), (31, .iinc 3 (-1), 3, 34, 0, (-1)), (34, .iload_n 3, 1, 35, 0, 0), (35, .iload_n 1, 1, 36, 0, 0), (36, .if_icmp .lt 23, 3, 39, 59, 0), (39, .lload 5, 2, 41, 0, 0), (41, .aload_n 0, 1, 42, 0, 0), (42, .iload_n 3, 1, 43, 0, 0), (43, .laload, 1, 44, 0, 0), (44, .lcmp, 1, 45, 0, 0), (45, .ifCond .ge 14, 3, 48, 59, 0), (48, .aload_n 0, 1, 49, 0, 0), (49, .iload_n 3, 1, 50, 0, 0), (50, .iconst 1, 1, 51, 0, 1), (51, .iadd, 1, 52, 0, 0), (52, .aload_n 0, 1, 53, 0, 0), (53, .iload_n 3, 1, 54, 0, 0), (54, .laload, 1, 55, 0, 0), (55, .lastore, 1, 56, 0, 0), (56, .goto (-25), 3, 59, 31, 0), (59, .aload_n 0, 1, 60, 0, 0), (60, .iload_n 3, 1, 61, 0, 0), (61, .iconst 1, 1, 62, 0, 1), (62, .iadd, 1, 63, 0, 0), (63, .lload 5, 2, 65, 0, 0), (65, .lastore, 1, 66, 0, 0), (66, .goto (-63), 3, 69, 3, 0), (69, .return_, 1, 70, 0, 0)]
set_option maxRecDepth 65536 in
theorem D_ins : Dec jdk_2529_method_15_code I_ins := (by decide +kernel : (I_ins.all (rowOk jdk_2529_method_15_code)) = true)
theorem pl_ins : plainFor y_ins = true := by decide +kernel
abbrev y_dq2 : MethodName := ⟨"java/util/DualPivotQuicksort", "sort", "(Ljava/util/DualPivotQuicksort$Sorter;[JIII)V"⟩
def I_dq2 : List Ent := [(0, .iload 4, 2, 2, 0, 0), (2, .iconst 1, 1, 3, 0, 1), (3, .isub, 1, 4, 0, 0), (4, .istore 5, 2, 6, 0, 0), (6, .iload 4, 2, 8, 0, 0), (8, .iload_n 3, 1, 9, 0, 0), (9, .isub, 1, 10, 0, 0), (10, .istore 6, 2, 12, 0, 0), (12, .iload 6, 2, 14, 0, 0), (14, .bipush 65, 2, 16, 0, 65), (16, .iload_n 2, 1, 17, 0, 0), (17, .iadd, 1, 18, 0, 0), (18, .if_icmp .ge 28, 3, 21, 46, 0), (21, .iload_n 2, 1, 22, 0, 0), (22, .iconst 1, 1, 23, 0, 1), (23, .iand, 1, 24, 0, 0), (24, .ifCond .le 22, 3, 27, 46, 0), (27, .aload_n 1, 1, 28, 0, 0), (28, .iload_n 3, 1, 29, 0, 0), (29, .iload 4, 2, 31, 0, 0), (31, .iconst 3, 1, 32, 0, 3), (32, .iload 6, 2, 34, 0, 0), (34, .iconst 5, 1, 35, 0, 5), (35, .ishr, 1, 36, 0, 0), (36, .iconst 3, 1, 37, 0, 3), (37, .ishl, 1, 38, 0, 0), (38, .imul, 1, 39, 0, 0), (39, .isub, 1, 40, 0, 0), (40, .iload 4, 2, 42, 0, 0), (42, .invokestatic 102, 3, 45, 0, 0), (45, .return_, 1, 46, 0, 0), (46, .iload 6, 2, 48, 0, 0), (48, .bipush 44, 2, 50, 0, 44), (50, .if_icmp .ge 11, 3, 53, 61, 0), (53, .aload_n 1, 1, 54, 0, 0), (54, .iload_n 3, 1, 55, 0, 0), (55, .iload 4, 2, 57, 0, 0), (57, .invokestatic 105, 3, 60, 0, 0), (60, .return_, 1, 61, 0, 0)]
set_option maxRecDepth 65536 in
theorem D_dq2 : Dec jdk_2529_method_13_code I_dq2 := (by decide +kernel : (I_dq2.all (rowOk jdk_2529_method_13_code)) = true)
theorem pl_dq2 : plainFor y_dq2 = true := by decide +kernel
abbrev y_dq1 : MethodName := ⟨"java/util/DualPivotQuicksort", "sort", "([JIII)V"⟩
def I_dq1 : List Ent := [(0, .iload_n 3, 1, 1, 0, 0), (1, .iload_n 2, 1, 2, 0, 0), (2, .isub, 1, 3, 0, 0), (3, .istore 4, 2, 5, 0, 0), (5, .iload_n 1, 1, 6, 0, 0), (6, .iconst 1, 1, 7, 0, 1), (7, .if_icmp .le 61, 3, 10, 68, 0), (10, .iload 4, 2, 12, 0, 0), (12, .sipush 4096, 3, 15, 0, 4096), (15, .if_icmp .le 53, 3, 18, 68, 0), (18, .iload_n 1, 1, 19, 0, 0), (19, .iload 4, 2, 21, 0, 0), (21, .bipush 12, 2, 23, 0, 12), (23, .ishr, 1, 24, 0, 0), (24, .invokestatic 13, 3, 27, 0, 0), (27, .istore 5, 2, 29, 0, 0), (29, .iload 5, 2, 31, 0, 0), (31, .ifCond .ne 7, 3, 34, 38, 0), (34, .aconst_null, 1, 35, 0, 0), (35, .goto 7, 3, 38, 42, 0), (38, .iload 4, 2, 40, 0, 0), (40, .newarray .long, 2, 42, 0, 0), (42, .astore 6, 2, 44, 0, 0), (44, .new 17, 3, 47, 0, 0), (47, .dup, 1, 48, 0, 0), (48, .aconst_null, 1, 49, 0, 0), (49, .aload_n 0, 1, 50, 0, 0), (50, .aload 6, 2, 52, 0, 0), (52, .iload_n 2, 1, 53, 0, 0), (53, .iload 4, 2, 55, 0, 0), (55, .iload_n 2, 1, 56, 0, 0), (56, .iload 5, 2, 58, 0, 0), (58, .invokespecial 19, 3, 61, 0, 0), (61, .invokevirtual 22, 3, 64, 0, 0), (64, .pop, 1, 65, 0, 0), (65, .goto 11, 3, 68, 76, 0), (68, .aconst_null, 1, 69, 0, 0), (69, .aload_n 0, 1, 70, 0, 0), (70, .iconst 0, 1, 71, 0, 0), (71, .iload_n 2, 1, 72, 0, 0), (72, .iload_n 3, 1, 73, 0, 0), (73, .invokestatic 99, 3, 76, 0, 0), (76, .return_, 1, 77, 0, 0)]
set_option maxRecDepth 65536 in
theorem D_dq1 : Dec jdk_2529_method_12_code I_dq1 := (by decide +kernel : (I_dq1.all (rowOk jdk_2529_method_12_code)) = true)
theorem pl_dq1 : plainFor y_dq1 = true := by decide +kernel
abbrev y_srt : MethodName := ⟨"java/util/Arrays", "sort", "([J)V"⟩
def I_srt : List Ent := [(0, .aload_n 0, 1, 1, 0, 0), (1, .iconst 0, 1, 2, 0, 0), (2, .iconst 0, 1, 3, 0, 0), (3, .aload_n 0, 1, 4, 0, 0), (4, .arraylength, 1, 5, 0, 0), (5, .invokestatic 19, 3, 8, 0, 0), (8, .return_, 1, 9, 0, 0)]
set_option maxRecDepth 65536 in
theorem D_srt : Dec jdk_65_method_4_code I_srt := (by decide +kernel : (I_srt.all (rowOk jdk_65_method_4_code)) = true)
theorem pl_srt : plainFor y_srt = true := by decide +kernel
abbrev y_cpy : MethodName := ⟨"java/util/Arrays", "copyOf", "([II)[I"⟩
def I_cpy : List Ent := [(0, .iload_n 1, 1, 1, 0, 0), (1, .aload_n 0, 1, 2, 0, 0), (2, .arraylength, 1, 3, 0, 0), (3, .if_icmp .ne 11, 3, 6, 14, 0), (6, .aload_n 0, 1, 7, 0, 0), (7, .invokevirtual 316, 3, 10, 0, 0), (10, .checkcast 317, 3, 13, 0, 0), (13, .areturn, 1, 14, 0, 0), (14, .iload_n 1, 1, 15, 0, 0), (15, .newarray .int, 2, 17, 0, 0), (17, .astore_n 2, 1, 18, 0, 0), (18, .aload_n 0, 1, 19, 0, 0), (19, .iconst 0, 1, 20, 0, 0), (20, .aload_n 2, 1, 21, 0, 0), (21, .iconst 0, 1, 22, 0, 0), (22, .aload_n 0, 1, 23, 0, 0), (23, .arraylength, 1, 24, 0, 0), (24, .iload_n 1, 1, 25, 0, 0), (25, .invokestatic 304, 3, 28, 0, 0), (28, .invokestatic 150, 3, 31, 0, 0), (31, .aload_n 2, 1, 32, 0, 0), (32, .areturn, 1, 33, 0, 0)]
set_option maxRecDepth 65536 in
theorem D_cpy : Dec jdk_65_method_123_code I_cpy := (by decide +kernel : (I_cpy.all (rowOk jdk_65_method_123_code)) = true)
theorem pl_cpy : plainFor y_cpy = true := by decide +kernel
abbrev y_sin : MethodName := ⟨"com/example/fanout/fanout/CodePointSet", "<init>", "([I)V"⟩
def I_sin : List Ent := [(0, .aload_n 0, 1, 1, 0, 0), (1, .invokespecial 3, 3, 4, 0, 0), (4, .aload_n 0, 1, 5, 0, 0), (5, .aload_n 1, 1, 6, 0, 0), (6, .putfield 9, 3, 9, 0, 0), (9, .return_, 1, 10, 0, 0)]
set_option maxRecDepth 65536 in
theorem D_sin : Dec prog_5_method_1_code I_sin := (by decide +kernel : (I_sin.all (rowOk prog_5_method_1_code)) = true)
theorem pl_sin : plainFor y_sin = true := by decide +kernel
abbrev y_bld : MethodName := ⟨"com/example/fanout/fanout/CodePointSet$Builder", "build", "()Lcom/example/fanout/fanout/CodePointSet;"⟩
def I_bld : List Ent := [(0, .aload_n 0, 1, 1, 0, 0), (1, .getfield 13, 3, 4, 0, 0), (4, .iconst 2, 1, 5, 0, 2), (5, .idiv, 1, 6, 0, 0), (6, .newarray .long, 2, 8, 0, 0), (8, .astore_n 1, 1, 9, 0, 0), (9, .iconst 0, 1, 10, 0, 0), (10, .istore_n 2, 1, 11, 0, 0), (11, .iload_n 2, 1, 12, 0, 0), (12, .aload_n 1, 1, 13, 0, 0), (13, .arraylength, 1, 14, 0, 0), (14, .if_icmp .ge 36, 3, 17, 50, 0), (17, .aload_n 1, 1, 18, 0, 0), (18, .iload_n 2, 1, 19, 0, 0), (19, .aload_n 0, 1, 20, 0, 0), (20, .getfield 7, 3, 23, 0, 0), (23, .iconst 2, 1, 24, 0, 2), (24, .iload_n 2, 1, 25, 0, 0), (25, .imul, 1, 26, 0, 0), (26, .iaload, 1, 27, 0, 0), (27, .i2l, 1, 28, 0, 0), (28, .bipush 32, 2, 30, 0, 32), (30, .lshl, 1, 31, 0, 0), (31, .aload_n 0, 1, 32, 0, 0), (32, .getfield 7, 3, 35, 0, 0), (35, .iconst 2, 1, 36, 0, 2), (36, .iload_n 2, 1, 37, 0, 0), (37, .imul, 1, 38, 0, 0), (38, .iconst 1, 1, 39, 0, 1), (39, .iadd, 1, 40, 0, 0), (40, .iaload, 1, 41, 0, 0), (41, .i2l, 1, 42, 0, 0), (42, .lor, 1, 43, 0, 0), (43, .lastore, 1, 44, 0, 0), (44, .iinc 2 1, 3, 47, 0, 1), (47, .goto (-36), 3, 50, 11, 0), (50, .aload_n 1, 1, 51, 0, 0), (51, .invokestatic 30, 3, 54, 0, 0), (54, .aload_n 0, 1, 55, 0, 0), (55, .getfield 13, 3, 58, 0, 0), (58, .newarray .int, 2, 60, 0, 0), (60, .astore_n 2, 1, 61, 0, 0), (61, .iconst 0, 1, 62, 0, 0), (62, .istore_n 3, 1, 63, 0, 0), (63, .aload_n 1, 1, 64, 0, 0), (64, .astore 4, 2, 66, 0, 0), (66, .aload 4, 2, 68, 0, 0), (68, .arraylength, 1, 69, 0, 0), (69, .istore 5, 2, 71, 0, 0), (71, .iconst 0, 1, 72, 0, 0), (72, .istore 6, 2, 74, 0, 0), (74, .iload 6, 2, 76, 0, 0), (76, .iload 5, 2, 78, 0, 0), (78, .if_icmp .ge 79, 3, 81, 157, 0), (81, .aload 4, 2, 83, 0, 0), (83, .iload 6, 2, 85, 0, 0), (85, .laload, 1, 86, 0, 0), (86, .lstore 7, 2, 88, 0, 0), (88, .lload 7, 2, 90, 0, 0), (90, .bipush 32, 2, 92, 0, 32), (92, .lushr, 1, 93, 0, 0), (93, .l2i, 1, 94, 0, 0), (94, .istore 9, 2, 96, 0, 0), (96, .lload 7, 2, 98, 0, 0), (98, .l2i, 1, 99, 0, 0), (99, .istore 10, 2, 101, 0, 0), (101, .iload_n 3, 1, 102, 0, 0), (102, .ifCond .le 33, 3, 105, 135, 0), (105, .iload 9, 2, 107, 0, 0), (107, .aload_n 2, 1, 108, 0, 0), (108, .iload_n 3, 1, 109, 0, 0), (109, .iconst 1, 1, 110, 0, 1), (110, .isub, 1, 111, 0, 0), (111, .iaload, 1, 112, 0, 0), (112, .iconst 1, 1, 113, 0, 1), (113, .iadd, 1, 114, 0, 0), (114, .if_icmp .gt 21, 3, 117, 135, 0), (117, .aload_n 2, 1, 118, 0, 0), (118, .iload_n 3, 1, 119, 0, 0), (119, .iconst 1, 1, 120, 0, 1), (120, .isub, 1, 121, 0, 0), (121, .aload_n 2, 1, 122, 0, 0), (122, .iload_n 3, 1, 123, 0, 0), (123, .iconst 1, 1, 124, 0, 1), (124, .isub, 1, 125, 0, 0), (125, .iaload, 1, 126, 0, 0), (126, .iload 10, 2, 128, 0, 0), (128, .invokestatic 34, 3, 131, 0, 0), (131, .iastore, 1, 132, 0, 0), (132, .goto 19, 3, 135, 151, 0), (135, .aload_n 2, 1, 136, 0, 0), (136, .iload_n 3, 1, 137, 0, 0), (137, .iinc 3 1, 3, 140, 0, 1), (140, .iload 9, 2, 142, 0, 0), (142, .iastore, 1, 143, 0, 0), (143, .aload_n 2, 1, 144, 0, 0), (144, .iload_n 3, 1, 145, 0, 0), (145, .iinc 3 1, 3, 148, 0, 1), (148, .iload 10, 2, 150, 0, 0), (150, .iastore, 1, 151, 0, 0), (151, .iinc 6 1, 3, 154, 0, 1), (154, .goto (-80), 3, 157, 74, 0), (157, .new 24, 3, 160, 0, 0), (160, .dup, 1, 161, 0, 0), (161, .aload_n 2, 1, 162, 0, 0), (162, .iload_n 3, 1, 163, 0, 0), (163, .invokestatic 17, 3, 166, 0, 0), (166, .invokespecial 40, 3, 169, 0, 0), (169, .areturn, 1, 170, 0, 0)]
set_option maxRecDepth 65536 in
theorem D_bld : Dec prog_6_method_4_code I_bld := (by decide +kernel : (I_bld.all (rowOk prog_6_method_4_code)) = true)
theorem pl_bld : plainFor y_bld = true := by decide +kernel
abbrev y_off : MethodName := ⟨"com/example/fanout/fanout/CodePointSet", "of", "([I)Lcom/example/fanout/fanout/CodePointSet;"⟩
def I_off : List Ent := [(0, .new 15, 3, 3, 0, 0), (3, .dup, 1, 4, 0, 0), (4, .invokespecial 17, 3, 7, 0, 0), (7, .astore_n 1, 1, 8, 0, 0), (8, .iconst 0, 1, 9, 0, 0), (9, .istore_n 2, 1, 10, 0, 0), (10, .iload_n 2, 1, 11, 0, 0), (11, .aload_n 0, 1, 12, 0, 0), (12, .arraylength, 1, 13, 0, 0), (13, .if_icmp .ge 22, 3, 16, 35, 0), (16, .aload_n 1, 1, 17, 0, 0), (17, .aload_n 0, 1, 18, 0, 0), (18, .iload_n 2, 1, 19, 0, 0), (19, .iaload, 1, 20, 0, 0), (20, .aload_n 0, 1, 21, 0, 0), (21, .iload_n 2, 1, 22, 0, 0), (22, .iconst 1, 1, 23, 0, 1), (23, .iadd, 1, 24, 0, 0), (24, .iaload, 1, 25, 0, 0), (25, .invokevirtual 18, 3, 28, 0, 0), (28, .pop, 1, 29, 0, 0), (29, .iinc 2 2, 3, 32, 0, 2), (32, .goto (-22), 3, 35, 10, 0), (35, .aload_n 1, 1, 36, 0, 0), (36, .invokevirtual 22, 3, 39, 0, 0), (39, .areturn, 1, 40, 0, 0)]
set_option maxRecDepth 65536 in
theorem D_off : Dec prog_5_method_2_code I_off := (by decide +kernel : (I_off.all (rowOk prog_5_method_2_code)) = true)
theorem pl_off : plainFor y_off = true := by decide +kernel
abbrev y_con : MethodName := ⟨"com/example/fanout/fanout/CodePointSet", "contains", "(I)Z"⟩
def I_con : List Ent := [(0, .iconst 0, 1, 1, 0, 0), (1, .istore_n 2, 1, 2, 0, 0), (2, .aload_n 0, 1, 3, 0, 0), (3, .getfield 9, 3, 6, 0, 0), (6, .arraylength, 1, 7, 0, 0), (7, .iconst 2, 1, 8, 0, 2), (8, .idiv, 1, 9, 0, 0), (9, .iconst 1, 1, 10, 0, 1), (10, .isub, 1, 11, 0, 0), (11, .istore_n 3, 1, 12, 0, 0), (12, .iload_n 2, 1, 13, 0, 0), (13, .iload_n 3, 1, 14, 0, 0), (14, .if_icmp .gt 59, 3, 17, 73, 0), (17, .iload_n 2, 1, 18, 0, 0), (18, .iload_n 3, 1, 19, 0, 0), (19, .iadd, 1, 20, 0, 0), (20, .iconst 1, 1, 21, 0, 1), (21, .iushr, 1, 22, 0, 0), (22, .istore 4, 2, 24, 0, 0), (24, .iload_n 1, 1, 25, 0, 0), (25, .aload_n 0, 1, 26, 0, 0), (26, .getfield 9, 3, 29, 0, 0), (29, .iconst 2, 1, 30, 0, 2), (30, .iload 4, 2, 32, 0, 0), (32, .imul, 1, 33, 0, 0), (33, .iaload, 1, 34, 0, 0), (34, .if_icmp .ge 11, 3, 37, 45, 0), (37, .iload 4, 2, 39, 0, 0), (39, .iconst 1, 1, 40, 0, 1), (40, .isub, 1, 41, 0, 0), (41, .istore_n 3, 1, 42, 0, 0), (42, .goto 28, 3, 45, 70, 0), (45, .iload_n 1, 1, 46, 0, 0), (46, .aload_n 0, 1, 47, 0, 0), (47, .getfield 9, 3, 50, 0, 0), (50, .iconst 2, 1, 51, 0, 2), (51, .iload 4, 2, 53, 0, 0), (53, .imul, 1, 54, 0, 0), (54, .iconst 1, 1, 55, 0, 1), (55, .iadd, 1, 56, 0, 0), (56, .iaload, 1, 57, 0, 0), (57, .if_icmp .le 11, 3, 60, 68, 0), (60, .iload 4, 2, 62, 0, 0), (62, .iconst 1, 1, 63, 0, 1), (63, .iadd, 1, 64, 0, 0), (64, .istore_n 2, 1, 65, 0, 0), (65, .goto 5, 3, 68, 70, 0), (68, .iconst 1, 1, 69, 0, 1), (69, .ireturn, 1, 70, 0, 0), (70, .goto (-58), 3, 73, 12, 0), (73, .iconst 0, 1, 74, 0, 0), (74, .ireturn, 1, 75, 0, 0)]
set_option maxRecDepth 65536 in
theorem D_con : Dec prog_5_method_3_code I_con := (by decide +kernel : (I_con.all (rowOk prog_5_method_3_code)) = true)
theorem pl_con : plainFor y_con = true := by decide +kernel
abbrev y_prb : MethodName := ⟨"com/example/fanout/fanout/BuilderAddPinLaw", "probe", "(IIIII)I"⟩
def I_prb : List Ent := [(0, .iload_n 0, 1, 1, 0, 0), (1, .bipush 7, 2, 3, 0, 7), (3, .iand, 1, 4, 0, 0), (4, .istore 5, 2, 6, 0, 0), (6, .iload_n 0, 1, 7, 0, 0), (7, .iconst 3, 1, 8, 0, 3), (8, .iushr, 1, 9, 0, 0), (9, .istore 6, 2, 11, 0, 0), (11, .iload 6, 2, 13, 0, 0), (13, .iconst 3, 1, 14, 0, 3), (14, .irem, 1, 15, 0, 0), (15, .iconst 1, 1, 16, 0, 1), (16, .isub, 1, 17, 0, 0), (17, .istore 7, 2, 19, 0, 0), (19, .iload 5, 2, 21, 0, 0), (21, .ifCond .ne 8, 3, 24, 29, 0), (24, .iload_n 1, 1, 25, 0, 0), (25, .iload 7, 2, 27, 0, 0), (27, .iadd, 1, 28, 0, 0), (28, .ireturn, 1, 29, 0, 0), (29, .iload 5, 2, 31, 0, 0), (31, .iconst 1, 1, 32, 0, 1), (32, .if_icmp .ne 8, 3, 35, 40, 0), (35, .iload_n 2, 1, 36, 0, 0), (36, .iload 7, 2, 38, 0, 0), (38, .iadd, 1, 39, 0, 0), (39, .ireturn, 1, 40, 0, 0), (40, .iload 5, 2, 42, 0, 0), (42, .iconst 2, 1, 43, 0, 2), (43, .if_icmp .ne 8, 3, 46, 51, 0), (46, .iload_n 3, 1, 47, 0, 0), (47, .iload 7, 2, 49, 0, 0), (49, .iadd, 1, 50, 0, 0), (50, .ireturn, 1, 51, 0, 0), (51, .iload 5, 2, 53, 0, 0), (53, .iconst 3, 1, 54, 0, 3), (54, .if_icmp .ne 9, 3, 57, 63, 0), (57, .iload 4, 2, 59, 0, 0), (59, .iload 7, 2, 61, 0, 0), (61, .iadd, 1, 62, 0, 0), (62, .ireturn, 1, 63, 0, 0), (63, .iload 5, 2, 65, 0, 0), (65, .iconst 4, 1, 66, 0, 4), (66, .if_icmp .ne 14, 3, 69, 80, 0), (69, .ldc 9, 2, 71, 0, 0), (71, .iload 6, 2, 73, 0, 0), (73, .bipush 17, 2, 75, 0, 17), (75, .irem, 1, 76, 0, 0), (76, .iadd, 1, 77, 0, 0), (77, .iconst 1, 1, 78, 0, 1), (78, .isub, 1, 79, 0, 0), (79, .ireturn, 1, 80, 0, 0), (80, .iload 5, 2, 82, 0, 0), (82, .iconst 5, 1, 83, 0, 5), (83, .if_icmp .ne 6, 3, 86, 89, 0), (86, .iload 7, 2, 88, 0, 0), (88, .ireturn, 1, 89, 0, 0), (89, .iload 5, 2, 91, 0, 0), (91, .bipush 6, 2, 93, 0, 6), (93, .if_icmp .ne 9, 3, 96, 102, 0), (96, .ldc 10, 2, 98, 0, 0), (98, .iload 7, 2, 100, 0, 0), (100, .iadd, 1, 101, 0, 0), (101, .ireturn, 1, 102, 0, 0), (102, .iload_n 0, 1, 103, 0, 0), (103, .iconst 3, 1, 104, 0, 3), (104, .ishr, 1, 105, 0, 0), (105, .ireturn, 1, 106, 0, 0)]
set_option maxRecDepth 65536 in
theorem D_prb : Dec method_3_code I_prb := (by decide +kernel : (I_prb.all (rowOk method_3_code)) = true)
theorem pl_prb : plainFor y_prb = true := by decide +kernel
abbrev y_exq : MethodName := ⟨"com/example/fanout/fanout/BuilderAddPinLaw", "expected", "(IIIII)Z"⟩
def I_exq : List Ent := [(0, .iload_n 0, 1, 1, 0, 0), (1, .ldc 9, 2, 3, 0, 0), (3, .if_icmp .lt 22, 3, 6, 25, 0), (6, .iload_n 0, 1, 7, 0, 0), (7, .ldc 11, 2, 9, 0, 0), (9, .if_icmp .gt 16, 3, 12, 25, 0), (12, .iload_n 0, 1, 13, 0, 0), (13, .ldc 9, 2, 15, 0, 0), (15, .isub, 1, 16, 0, 0), (16, .iconst 1, 1, 17, 0, 1), (17, .iand, 1, 18, 0, 0), (18, .ifCond .ne 7, 3, 21, 25, 0), (21, .iconst 1, 1, 22, 0, 1), (22, .goto 4, 3, 25, 26, 0), (25, .iconst 0, 1, 26, 0, 0), (26, .istore 5, 2, 28, 0, 0), (28, .iload 5, 2, 30, 0, 0), (30, .ifCond .ne 24, 3, 33, 54, 0), (33, .iload_n 1, 1, 34, 0, 0), (34, .iload_n 0, 1, 35, 0, 0), (35, .if_icmp .gt 8, 3, 38, 43, 0), (38, .iload_n 0, 1, 39, 0, 0), (39, .iload_n 2, 1, 40, 0, 0), (40, .if_icmp .le 14, 3, 43, 54, 0), (43, .iload_n 3, 1, 44, 0, 0), (44, .iload_n 0, 1, 45, 0, 0), (45, .if_icmp .gt 13, 3, 48, 58, 0), (48, .iload_n 0, 1, 49, 0, 0), (49, .iload 4, 2, 51, 0, 0), (51, .if_icmp .gt 7, 3, 54, 58, 0), (54, .iconst 1, 1, 55, 0, 1), (55, .goto 4, 3, 58, 59, 0), (58, .iconst 0, 1, 59, 0, 0), (59, .ireturn, 1, 60, 0, 0)]
set_option maxRecDepth 65536 in
theorem D_exq : Dec method_4_code I_exq := (by decide +kernel : (I_exq.all (rowOk method_4_code)) = true)
theorem pl_exq : plainFor y_exq = true := by decide +kernel
def I_law : List Ent := [(0, .iload_n 0, 1, 1, 0, 0), (1, .invokestatic 12, 3, 4, 0, 0), (4, .istore 6, 2, 6, 0, 0), (6, .iload_n 1, 1, 7, 0, 0), (7, .invokestatic 12, 3, 10, 0, 0), (10, .istore 7, 2, 12, 0, 0), (12, .iload_n 2, 1, 13, 0, 0), (13, .invokestatic 12, 3, 16, 0, 0), (16, .istore 8, 2, 18, 0, 0), (18, .iload_n 3, 1, 19, 0, 0), (19, .invokestatic 12, 3, 22, 0, 0), (22, .istore 9, 2, 24, 0, 0), (24, .iload 6, 2, 26, 0, 0), (26, .iload 7, 2, 28, 0, 0), (28, .invokestatic 18, 3, 31, 0, 0), (31, .istore 10, 2, 33, 0, 0), (33, .iload 6, 2, 35, 0, 0), (35, .iload 7, 2, 37, 0, 0), (37, .invokestatic 24, 3, 40, 0, 0), (40, .istore 11, 2, 42, 0, 0), (42, .iload 8, 2, 44, 0, 0), (44, .iload 9, 2, 46, 0, 0), (46, .invokestatic 18, 3, 49, 0, 0), (49, .istore 12, 2, 51, 0, 0), (51, .iload 8, 2, 53, 0, 0), (53, .iload 9, 2, 55, 0, 0), (55, .invokestatic 24, 3, 58, 0, 0), (58, .istore 13, 2, 60, 0, 0), (60, .bipush 16, 2, 62, 0, 16), (62, .newarray .int, 2, 64, 0, 0), (64, .dup, 1, 65, 0, 0), (65, .iconst 0, 1, 66, 0, 0), (66, .ldc 9, 2, 68, 0, 0), (68, .iastore, 1, 69, 0, 0), (69, .dup, 1, 70, 0, 0), (70, .iconst 1, 1, 71, 0, 1), (71, .ldc 9, 2, 73, 0, 0), (73, .iastore, 1, 74, 0, 0), (74, .dup, 1, 75, 0, 0), (75, .iconst 2, 1, 76, 0, 2), (76, .ldc 27, 2, 78, 0, 0), (78, .iastore, 1, 79, 0, 0), (79, .dup, 1, 80, 0, 0), (80, .iconst 3, 1, 81, 0, 3), (81, .ldc 27, 2, 83, 0, 0), (83, .iastore, 1, 84, 0, 0), (84, .dup, 1, 85, 0, 0), (85, .iconst 4, 1, 86, 0, 4), (86, .ldc 28, 2, 88, 0, 0), (88, .iastore, 1, 89, 0, 0), (89, .dup, 1, 90, 0, 0), (90, .iconst 5, 1, 91, 0, 5), (91, .ldc 28, 2, 93, 0, 0), (93, .iastore, 1, 94, 0, 0), (94, .dup, 1, 95, 0, 0), (95, .bipush 6, 2, 97, 0, 6), (97, .ldc 29, 2, 99, 0, 0), (99, .iastore, 1, 100, 0, 0), (100, .dup, 1, 101, 0, 0), (101, .bipush 7, 2, 103, 0, 7), (103, .ldc 29, 2, 105, 0, 0), (105, .iastore, 1, 106, 0, 0), (106, .dup, 1, 107, 0, 0), (107, .bipush 8, 2, 109, 0, 8), (109, .ldc 30, 2, 111, 0, 0), (111, .iastore, 1, 112, 0, 0), (112, .dup, 1, 113, 0, 0), (113, .bipush 9, 2, 115, 0, 9), (115, .ldc 30, 2, 117, 0, 0), (117, .iastore, 1, 118, 0, 0), (118, .dup, 1, 119, 0, 0), (119, .bipush 10, 2, 121, 0, 10), (121, .ldc 31, 2, 123, 0, 0), (123, .iastore, 1, 124, 0, 0), (124, .dup, 1, 125, 0, 0), (125, .bipush 11, 2, 127, 0, 11), (127, .ldc 31, 2, 129, 0, 0), (129, .iastore, 1, 130, 0, 0), (130, .dup, 1, 131, 0, 0), (131, .bipush 12, 2, 133, 0, 12), (133, .ldc 32, 2, 135, 0, 0), (135, .iastore, 1, 136, 0, 0), (136, .dup, 1, 137, 0, 0), (137, .bipush 13, 2, 139, 0, 13), (139, .ldc 32, 2, 141, 0, 0), (141, .iastore, 1, 142, 0, 0), (142, .dup, 1, 143, 0, 0), (143, .bipush 14, 2, 145, 0, 14), (145, .ldc 11, 2, 147, 0, 0), (147, .iastore, 1, 148, 0, 0), (148, .dup, 1, 149, 0, 0), (149, .bipush 15, 2, 151, 0, 15), (151, .ldc 11, 2, 153, 0, 0), (153, .iastore, 1, 154, 0, 0), (154, .invokestatic 33, 3, 157, 0, 0), (157, .astore 14, 2, 159, 0, 0), (159, .new 39, 3, 162, 0, 0), (162, .dup, 1, 163, 0, 0), (163, .invokespecial 41, 3, 166, 0, 0), (166, .astore 15, 2, 168, 0, 0), (168, .aload 15, 2, 170, 0, 0), (170, .aload 14, 2, 172, 0, 0), (172, .invokevirtual 42, 3, 175, 0, 0), (175, .pop, 1, 176, 0, 0), (176, .aload 15, 2, 178, 0, 0), (178, .iload 10, 2, 180, 0, 0), (180, .iload 11, 2, 182, 0, 0), (182, .invokevirtual 46, 3, 185, 0, 0), (185, .astore 16, 2, 187, 0, 0), (187, .aload 15, 2, 189, 0, 0), (189, .iload 12, 2, 191, 0, 0), (191, .iload 13, 2, 193, 0, 0), (193, .invokevirtual 46, 3, 196, 0, 0), (196, .astore 17, 2, 198, 0, 0), (198, .aload 15, 2, 200, 0, 0), (200, .invokevirtual 49, 3, 203, 0, 0), (203, .astore 18, 2, 205, 0, 0), (205, .iload 4, 2, 207, 0, 0), (207, .iload 10, 2, 209, 0, 0), (209, .iload 11, 2, 211, 0, 0), (211, .iload 12, 2, 213, 0, 0), (213, .iload 13, 2, 215, 0, 0), (215, .invokestatic 53, 3, 218, 0, 0), (218, .istore 19, 2, 220, 0, 0), (220, .iload 5, 2, 222, 0, 0), (222, .iload 10, 2, 224, 0, 0), (224, .iload 11, 2, 226, 0, 0), (226, .iload 12, 2, 228, 0, 0), (228, .iload 13, 2, 230, 0, 0), (230, .invokestatic 53, 3, 233, 0, 0), (233, .istore 20, 2, 235, 0, 0), (235, .aload 18, 2, 237, 0, 0), (237, .iload 19, 2, 239, 0, 0), (239, .invokevirtual 57, 3, 242, 0, 0), (242, .istore 21, 2, 244, 0, 0), (244, .aload 18, 2, 246, 0, 0), (246, .iload 20, 2, 248, 0, 0), (248, .invokevirtual 57, 3, 251, 0, 0), (251, .istore 22, 2, 253, 0, 0), (253, .aload 16, 2, 255, 0, 0), (255, .aload 15, 2, 257, 0, 0), (257, .if_acmp .ne 50, 3, 260, 307, 0), (260, .aload 17, 2, 262, 0, 0), (262, .aload 15, 2, 264, 0, 0), (264, .if_acmp .ne 43, 3, 267, 307, 0), (267, .iload 21, 2, 269, 0, 0), (269, .iload 19, 2, 271, 0, 0), (271, .iload 10, 2, 273, 0, 0), (273, .iload 11, 2, 275, 0, 0), (275, .iload 12, 2, 277, 0, 0), (277, .iload 13, 2, 279, 0, 0), (279, .invokestatic 61, 3, 282, 0, 0), (282, .if_icmp .ne 25, 3, 285, 307, 0), (285, .iload 22, 2, 287, 0, 0), (287, .iload 20, 2, 289, 0, 0), (289, .iload 10, 2, 291, 0, 0), (291, .iload 11, 2, 293, 0, 0), (293, .iload 12, 2, 295, 0, 0), (295, .iload 13, 2, 297, 0, 0), (297, .invokestatic 61, 3, 300, 0, 0), (300, .if_icmp .ne 7, 3, 303, 307, 0), (303, .iconst 1, 1, 304, 0, 1), (304, .goto 4, 3, 307, 308, 0), (307, .iconst 0, 1, 308, 0, 0), (308, .ireturn, 1, 309, 0, 0)]
set_option maxRecDepth 65536 in
theorem D_law : Dec code I_law := (by decide +kernel : (I_law.all (rowOk code)) = true)
theorem pl_law : plainFor x = true := by decide +kernel
abbrev BLD : String := "com/example/fanout/fanout/CodePointSet$Builder"
abbrev CPS : String := "com/example/fanout/fanout/CodePointSet"
def ints (xs : List Int32) : List Value := xs.map .int
def lngs (ys : List Int64) : List Value := ys.map .long
theorem ints_len (xs : List Int32) : (ints xs).length = xs.length := by rw [ints, List.length_map]
theorem lngs_len (xs : List Int64) : (lngs xs).length = xs.length := by rw [lngs, List.length_map]
theorem ints_get {xs : List Int32} {i : Nat} {x : Int32} (h : xs[i]? = some x) : (ints xs)[i]? = some (.int x) := by rw [ints, List.getElem?_map, h]; rfl
theorem lngs_get {xs : List Int64} {i : Nat} {x : Int64} (h : xs[i]? = some x) : (lngs xs)[i]? = some (.long x) := by rw [lngs, List.getElem?_map, h]; rfl
theorem get_pre {α : Type} {xs ys : List α} {i : Nat} {x : α} (h : xs[i]? = some x) : (xs ++ ys)[i]? = some x := by
  rw [List.getElem?_append_left (List.getElem?_eq_some_iff.mp h).1]; exact h
theorem fl_len (qs : List RG) (r : Nat) : (ints (flat qs ++ List.replicate r 0)).length = 2 * qs.length + r := by rw [ints_len, List.length_append, flat_len, List.length_replicate]
theorem int_fill (ps : List RG) (lo hi : Int32) (r : Nat) : ((ints (flat ps ++ List.replicate (r + 2) 0)).set (2 * ps.length) (.int lo)).set (2 * ps.length + 1) (.int hi) = ints (flat (ps ++ [(lo, hi)]) ++ List.replicate r 0) := by
  have hl : (ints (flat ps)).length = 2 * ps.length := by rw [ints_len, flat_len]
  have e : ints (flat ps ++ List.replicate (r + 2) 0) = ints (flat ps) ++ .int 0 :: .int 0 :: List.replicate r (.int 0) := by simp [ints, List.replicate_succ]
  rw [e, List.set_append_right _ _ (by omega), hl, Nat.sub_self, List.set_cons_zero, List.set_append_right _ _ (by omega), hl, show 2 * ps.length + 1 - 2 * ps.length = 1 by omega]
  simp [ints, flat]
theorem int_max (fr : List RG) (t : RG) (y : Int32) (r : Nat) : (ints (flat (fr ++ [t]) ++ List.replicate r 0)).set (2 * (fr ++ [t]).length - 1) (.int y) = ints (flat (fr ++ [(t.1, y)]) ++ List.replicate r 0) := by
  have hl : (ints (flat fr)).length = 2 * fr.length := by rw [ints_len, flat_len]
  have e : ints (flat (fr ++ [t]) ++ List.replicate r 0) = ints (flat fr) ++ .int t.1 :: .int t.2 :: List.replicate r (.int 0) := by simp [ints, flat]
  rw [e, List.set_append_right _ _ (by simp only [List.length_append, List.length_cons, List.length_nil]; omega), hl, show 2 * (fr ++ [t]).length - 1 - 2 * fr.length = 1 by simp only [List.length_append, List.length_cons, List.length_nil]; omega]
  simp [ints, flat]
theorem lng_fill (ys : List Int64) (y : Int64) (r : Nat) : (lngs ys ++ List.replicate (r + 1) (Value.long 0)).set ys.length (.long y) = lngs (ys ++ [y]) ++ List.replicate r (.long 0) := by
  rw [List.set_append_right _ _ (by rw [lngs_len]; exact Nat.le_refl _), lngs_len, Nat.sub_self, List.replicate_succ, List.set_cons_zero]
  simp [lngs]
def Bld (Z : State) (h : Heap) (a b : Addr) (ps : List RG) (r : Nat) : Prop := Exa Z h a BLD ∧ Fld Z h a BLD "bounds" "[I" (.ref b) ∧ Fld Z h a BLD "size" "I" (.int (Int32.ofNat (2 * ps.length))) ∧ Arq Z h b .int (ints (flat ps ++ List.replicate r 0))
theorem Bld.ext {h' : Heap} {a b : Addr} {ps : List RG} {r : Nat} (B : Bld Z h a b ps r) (E : Ext h h') : Bld Z h' a b ps r := ⟨B.1.ext E, B.2.1.ext E, B.2.2.1.ext E, B.2.2.2.ext E⟩
theorem Bld.keep {h' : Heap} {a b : Addr} {ps : List RG} {r : Nat} {ws : List Addr} (B : Bld Z h a b ps r) (K : Keep h h' ws) (ha : a ∉ ws) (hb : b ∉ ws) : Bld Z h' a b ps r := ⟨B.1.keep K, B.2.1.keep K ha, B.2.2.1.keep K ha, B.2.2.2.keep K hb⟩
def Cps (Z : State) (h : Heap) (r q : Addr) (qs : List RG) : Prop := Exa Z h r CPS ∧ Fld Z h r CPS "bounds" "[I" (.ref q) ∧ Arq Z h q .int (ints (flat qs))
theorem Cps.ext {h' : Heap} {r q : Addr} {qs : List RG} (B : Cps Z h r q qs) (E : Ext h h') : Cps Z h' r q qs := ⟨B.1.ext E, B.2.1.ext E, B.2.2.ext E⟩
theorem Cps.keep {h' : Heap} {r q : Addr} {qs : List RG} {ws : List Addr} (B : Cps Z h r q qs) (K : Keep h h' ws) (ha : r ∉ ws) (hb : q ∉ ws) : Cps Z h' r q qs := ⟨B.1.keep K, B.2.1.keep K ha, B.2.2.keep K hb⟩
/-! the walk: small ones -/
theorem c_cpB (hw : HW a0 Z) (E : Ext Z.heap h) {x : Int32} : Con none Z l y_cpB [] method_2_code 1 (some .int) (Rm 0 0 0 0) #[.int x] h [] (rV fun v h' => (∃ n : Nat, n < 1114112 ∧ v = .int (Int32.ofNat n)) ∧ h = h') := by
  refine con_of (a0 := a0) pl_cpB D_cpB [.val (.int x)] rfl E (fun _ q => nomatch q) trivial fun p e s m below meth c T P => ?_
  refine g_run P 60 rfl ?_
  refine g_ldcI P (hw 4 _ rfl) ?_
  refine g_run P 60 rfl ?_
  refine g_ldcI P (hw 5 _ rfl) ?_
  refine g_irem P (by decide) ?_
  obtain ⟨n, hn, en⟩ := rem_nat x 1114112 1114112 rfl (by decide) (by decide)
  rw [en]
  exact g_iret P ⟨⟨n, hn, rfl⟩, rfl⟩
theorem c_amax (hw : HW a0 Z) (E : Ext Z.heap h) {i j : Int32} : Con none Z l y_amax [] jdk_29_method_65_code 2 (some .int) (Rm 0 0 0 0) #[.int i, .int j] h [] (rV fun v h' => v = .int (mxv i j) ∧ h = h') := by
  refine con_of (a0 := a0) pl_amax D_amax [.val (.int i), .val (.int j)] rfl E (fun _ q => nomatch q) trivial fun p e s m below meth c T P => ?_
  refine g_run P 40 rfl ?_
  refine g_ic P rfl (fun hc => ?_) (fun hc => ?_)
  · have hc : i.toInt < j.toInt := hc
    refine g_run P 40 rfl ?_
    exact g_iret P ⟨by rw [mxv, if_pos hc], rfl⟩
  · have hc : j.toInt ≤ i.toInt := hc
    refine g_run P 40 rfl ?_
    exact g_iret P ⟨by rw [mxv, if_neg (by omega)], rfl⟩
theorem c_prb (hw : HW a0 Z) (E : Ext Z.heap h) {x a b c d : Int32} : Con none Z l y_prb [] method_3_code 8 (some .int) (Rm 0 0 0 0) #[.int x, .int a, .int b, .int c, .int d] h [] (rV fun v h' => (∃ y, v = .int y) ∧ h = h') := by
  refine con_of (a0 := a0) pl_prb D_prb [.val (.int x), .val (.int a), .val (.int b), .val (.int c), .val (.int d), .unset, .unset, .unset] rfl E (fun _ q => nomatch q) trivial fun p e s m below meth _ T P => ?_
  refine g_run P 60 rfl ?_
  refine g_irem P (by decide) ?_
  refine g_run P 60 rfl ?_
  refine g_if P rfl (fun hc => ?_) (fun hc => ?_)
  rotate_left
  · refine g_run P 60 rfl ?_
    exact g_iret P ⟨⟨_, rfl⟩, rfl⟩
  refine g_run P 60 rfl ?_
  refine g_ic P rfl (fun hc => ?_) (fun hc => ?_)
  rotate_left
  · skip
    refine g_run P 60 rfl ?_
    exact g_iret P ⟨⟨_, rfl⟩, rfl⟩
  refine g_run P 60 rfl ?_
  refine g_ic P rfl (fun hc => ?_) (fun hc => ?_)
  rotate_left
  · skip
    refine g_run P 60 rfl ?_
    exact g_iret P ⟨⟨_, rfl⟩, rfl⟩
  refine g_run P 60 rfl ?_
  refine g_ic P rfl (fun hc => ?_) (fun hc => ?_)
  rotate_left
  · skip
    refine g_run P 60 rfl ?_
    exact g_iret P ⟨⟨_, rfl⟩, rfl⟩
  refine g_run P 60 rfl ?_
  refine g_ic P rfl (fun hc => ?_) (fun hc => ?_)
  rotate_left
  · refine g_ldcI P (hw 14 _ rfl) ?_
    refine g_run P 60 rfl ?_
    refine g_irem P (by decide) ?_
    refine g_run P 60 rfl ?_
    exact g_iret P ⟨⟨_, rfl⟩, rfl⟩
  refine g_run P 60 rfl ?_
  refine g_ic P rfl (fun hc => ?_) (fun hc => ?_)
  rotate_left
  · skip
    refine g_run P 60 rfl ?_
    exact g_iret P ⟨⟨_, rfl⟩, rfl⟩
  refine g_run P 60 rfl ?_
  refine g_ic P rfl (fun hc => ?_) (fun hc => ?_)
  rotate_left
  · refine g_ldcI P (hw 112 _ rfl) ?_
    refine g_run P 60 rfl ?_
    exact g_iret P ⟨⟨_, rfl⟩, rfl⟩
  refine g_run P 60 rfl ?_
  exact g_iret P ⟨⟨_, rfl⟩, rfl⟩
theorem c_exq (hw : HW a0 Z) (E : Ext Z.heap h) {x a b c d : Int32} : Con none Z l y_exq [] method_4_code 6 (some .boolean) (Rm 0 0 0 0) #[.int x, .int a, .int b, .int c, .int d] h [] (rV fun v h' => v = .int (if Exp x a b c d then 1 else 0) ∧ h = h') := by
  refine con_of (a0 := a0) pl_exq D_exq [.val (.int x), .val (.int a), .val (.int b), .val (.int c), .val (.int d), .unset] rfl E (fun _ q => nomatch q) trivial fun p e s m below meth cc T P => ?_
  have J26 : ∀ f : Int32, f = (if InF x then 1 else 0) → Go p e below m T 26 [.val (.int x), .val (.int a), .val (.int b), .val (.int c), .val (.int d), .unset] [.int f] (FinM none Z h [] (Rm 0 0 0 0) (rV fun v h' => v = .int (if Exp x a b c d then 1 else 0) ∧ h = h') s) := by
    intro f hf
    refine g_run P 60 rfl ?_
    by_cases hi : InF x
    · rw [if_pos hi] at hf; subst hf
      refine g_if P rfl (fun _ => ?_) (fun hq => absurd hq (by show ¬ (1 : Int32) = 0; decide))
      refine g_run P 60 rfl ?_
      exact g_iret P ⟨by rw [if_pos (show Exp x a b c d from Or.inl hi)], rfl⟩
    rw [if_neg hi] at hf; subst hf
    refine g_if P rfl (fun hq => absurd rfl hq) (fun _ => ?_)
    have J43 : ¬ (a.toInt ≤ x.toInt ∧ x.toInt ≤ b.toInt) → Go p e below m T 43 [.val (.int x), .val (.int a), .val (.int b), .val (.int c), .val (.int d), .val (.int 0)] [] (FinM none Z h [] (Rm 0 0 0 0) (rV fun v h' => v = .int (if Exp x a b c d then 1 else 0) ∧ h = h') s) := by
      intro hn
      refine g_run P 60 rfl ?_
      refine g_ic P rfl (fun h1 => ?_) (fun h1 => ?_)
      · have h1 : x.toInt < c.toInt := h1
        refine g_run P 60 rfl ?_
        exact g_iret P ⟨by rw [if_neg (fun q => q.elim hi (fun q => q.elim hn (fun q => absurd q.1 (by omega))))], rfl⟩
      · have h1 : c.toInt ≤ x.toInt := h1
        refine g_run P 60 rfl ?_
        refine g_ic P rfl (fun h2 => ?_) (fun h2 => ?_)
        · have h2 : d.toInt < x.toInt := h2
          refine g_run P 60 rfl ?_
          exact g_iret P ⟨by rw [if_neg (fun q => q.elim hi (fun q => q.elim hn (fun q => absurd q.2 (by omega))))], rfl⟩
        · have h2 : x.toInt ≤ d.toInt := h2
          refine g_run P 60 rfl ?_
          exact g_iret P ⟨by rw [if_pos (show Exp x a b c d from Or.inr (Or.inr ⟨h1, h2⟩))], rfl⟩
    refine g_run P 60 rfl ?_
    refine g_ic P rfl (fun h1 => ?_) (fun h1 => ?_)
    · have h1 : x.toInt < a.toInt := h1
      exact J43 (fun q => absurd q.1 (by omega))
    · have h1 : a.toInt ≤ x.toInt := h1
      refine g_run P 60 rfl ?_
      refine g_ic P rfl (fun h2 => ?_) (fun h2 => ?_)
      · have h2 : x.toInt ≤ b.toInt := h2
        refine g_run P 60 rfl ?_
        exact g_iret P ⟨by rw [if_pos (show Exp x a b c d from Or.inr (Or.inl ⟨h1, h2⟩))], rfl⟩
      · have h2 : b.toInt < x.toInt := h2
        exact J43 (fun q => absurd q.2 (by omega))
  refine g_run P 60 rfl ?_
  refine g_ldcI P (hw 14 _ rfl) ?_
  refine g_ic P rfl (fun h1 => ?_) (fun h1 => ?_)
  · have h1 : x.toInt < (1048576 : Int32).toInt := h1
    refine g_run P 1 rfl ?_
    exact J26 _ (by rw [if_neg (fun q => absurd q.1 (by omega))])
  have h1 : (1048576 : Int32).toInt ≤ x.toInt := h1
  refine g_run P 60 rfl ?_
  refine g_ldcI P (hw 21 _ rfl) ?_
  refine g_ic P rfl (fun h2 => ?_) (fun h2 => ?_)
  · have h2 : (1048590 : Int32).toInt < x.toInt := h2
    refine g_run P 1 rfl ?_
    exact J26 _ (by rw [if_neg (fun q => absurd q.2.1 (by omega))])
  have h2 : x.toInt ≤ (1048590 : Int32).toInt := h2
  refine g_run P 60 rfl ?_
  refine g_ldcI P (hw 14 _ rfl) ?_
  refine g_run P 60 rfl ?_
  refine g_if P rfl (fun h3 => ?_) (fun h3 => ?_)
  · have h3 : ¬ (x - 1048576) &&& 1 = 0 := h3
    refine g_run P 1 rfl ?_
    exact J26 _ (by rw [if_neg (fun q => h3 q.2.2)])
  · have h3 : (x - 1048576) &&& 1 = 0 := h3
    refine g_run P 2 rfl ?_
    exact J26 _ (by rw [if_pos ⟨h1, h2, h3⟩])
/-! the builder -/
theorem c_bin (hw : HW a0 Z) (E : Ext Z.heap h) {a : Addr} {o1 : Value} (X : Exa Z h a BLD) (F1 : Fld Z h a BLD "bounds" "[I" o1) (F2 : Fld Z h a BLD "size" "I" (.int 0)) (ha : Z.heap.size ≤ a) :
    Con none Z l y_bin [] prog_6_method_1_code 1 none (Rm 1 12 1 16) #[.ref a] h [a] (rO fun h' => ∃ b, h.size ≤ b ∧ Bld Z h' a b [] 16) := by
  have hal := X.lt
  refine con_of (a0 := a0) pl_bin D_bin [.val (.ref a)] rfl E (fun x q => by cases List.mem_singleton.mp q; exact ha) trivial fun p e s m below meth c T P => ?_
  refine g_run P 40 rfl ?_
  refine g_initO P (hw 32 _ rfl) (hw 33 _ rfl) (hw 34 _ rfl) fun T P => ?_
  refine g_run P 40 rfl ?_
  refine g_newarr P (hw 13 _ rfl) 16 (by decide) (by decide) fun T h1 b eb lb P E1 B => ?_
  have X := X.ext E1
  have F1 := F1.ext E1
  have F2 := F2.ext E1
  have nba : b ∉ [a] := nin1r hal (Nat.le_of_eq eb)
  refine g_putf P (.array .int) (hw 35 _ rfl) F1 X (Or.inl (hw 36 _ rfl)) (hw 27 _ rfl) (Or.inl (List.mem_singleton.mpr rfl)) trivial fun T h2 P W1 => ?_
  exact g_ret P ⟨b, lb, X.wr W1, F1.same W1, F2.other W1 (Or.inr (slot_ne (Or.inl (hw 43 _ rfl)) (Or.inl (hw 36 _ rfl)) (by decide) (t := .int) (t' := .array .int) (by decide) (by decide))), (B.keep (Keep.of_wr W1) nba).cast (by simp [ints, flat]; rfl)⟩
theorem t_add (hw : HW a0 Z) {h0 : Heap} {ws : List Addr} {p : Program} {e : Env} {R : Room} {s : State} {m : MethodId} {args : Array Value} {below : List Frame} {meth : Method} {c : Code} {vm : Vm} {T : State} {h : Heap} {locs : List Loc} {cells slots : Nat} {F : Fin'} {a b : Addr} {ps : List RG} {r : Nat} {lo hi : Int32}
    (P : W none Z a0 y_add.cls prog_6_method_2_code I_add 3 (some (.object "com/example/fanout/fanout/CodePointSet$Builder")) y_add.name h0 ws p l e R s m args below meth c vm T h locs cells slots) (B : Bld Z h a b ps (r + 2)) (hsm : 2 * ps.length + r + 2 < 1000) (hqa : a ∈ ws ∨ h0.size ≤ a) (hqb : b ∈ ws ∨ h0.size ≤ b)
    (k : ∀ T' h' locs', W none Z a0 y_add.cls prog_6_method_2_code I_add 3 (some (.object "com/example/fanout/fanout/CodePointSet$Builder")) y_add.name h0 ws p l e R s m args below meth c vm T' h' locs' cells slots → Keep h h' [a, b] → Bld Z h' a b (ps ++ [(lo, hi)]) r → Go p e below m T' 63 [.val (.ref a), .val (.int lo), .val (.int hi)] [] F) :
    Go p e below m T 29 [.val (.ref a), .val (.int lo), .val (.int hi)] [] F := by
  obtain ⟨X, F1, F2, A⟩ := B
  have hne : b ≠ a := fun q => by subst q; exact arq_exa A X (hw 27 _ rfl)
  have hna : a ∉ [b] := fun q => hne (List.mem_singleton.mp q).symm
  have hnb : b ∉ [a] := fun q => hne (List.mem_singleton.mp q)
  have K0 := Keep.refl h [a, b]
  refine g_run P 40 rfl ?_
  refine g_getf P (hw 35 _ rfl) F1 fun T P => ?_
  refine g_run P 40 rfl ?_
  refine g_getf P (hw 42 _ rfl) F2 fun T P => ?_
  refine g_dupx1 P rfl rfl ?_
  refine g_run P 40 rfl ?_
  rw [ofN_succ]
  refine g_putf P .int (hw 42 _ rfl) F2 X (Or.inl (hw 43 _ rfl)) (hw 27 _ rfl) hqa trivial fun T h1 P W1 => ?_
  have X := X.wr W1
  have F2 := F2.same W1
  have F1 := F1.other W1 (Or.inr (slot_ne (Or.inl (hw 36 _ rfl)) (Or.inl (hw 43 _ rfl)) (by decide) (t := .array .int) (t' := .int) (by decide) (by decide)))
  have A := A.keep (Keep.of_wr W1) hnb
  have K0 := K0.trans (Keep.of_wr W1) (fun x q => by cases List.mem_singleton.mp q; exact Or.inl (List.mem_cons_self ..))
  refine g_run P 40 rfl ?_
  refine g_iastore P A (Keep.refl _ [b]) (ix_ofN (by omega)) (by rw [ints_len, List.length_append, flat_len, List.length_replicate]; omega) hqb fun T h2 locs P A K1 => ?_
  have X := X.keep K1
  have F1 := F1.keep K1 hna
  have F2 := F2.keep K1 hna
  have K0 := K0.trans K1 (fun x q => by cases List.mem_singleton.mp q; exact Or.inl (by simp))
  refine g_run P 40 rfl ?_
  refine g_getf P (hw 35 _ rfl) F1 fun T P => ?_
  refine g_run P 40 rfl ?_
  refine g_getf P (hw 42 _ rfl) F2 fun T P => ?_
  refine g_dupx1 P rfl rfl ?_
  refine g_run P 40 rfl ?_
  rw [ofN_succ]
  refine g_putf P .int (hw 42 _ rfl) F2 X (Or.inl (hw 43 _ rfl)) (hw 27 _ rfl) hqa trivial fun T h3 P W2 => ?_
  have X := X.wr W2
  have F2 := F2.same W2
  have F1 := F1.other W2 (Or.inr (slot_ne (Or.inl (hw 36 _ rfl)) (Or.inl (hw 43 _ rfl)) (by decide) (t := .array .int) (t' := .int) (by decide) (by decide)))
  have A := A.keep (Keep.of_wr W2) hnb
  have K0 := K0.trans (Keep.of_wr W2) (fun x q => by cases List.mem_singleton.mp q; exact Or.inl (List.mem_cons_self ..))
  refine g_run P 40 rfl ?_
  refine g_iastore P A (Keep.refl _ [b]) (ix_ofN (by omega)) (by rw [List.length_set, ints_len, List.length_append, flat_len, List.length_replicate]; omega) hqb fun T h4 locs P A K2 => ?_
  have K0 := K0.trans K2 (fun x q => by cases List.mem_singleton.mp q; exact Or.inl (by simp))
  refine k T h4 locs P K0 ⟨X.keep K2, F1.keep K2 hna, ?_, A.cast (int_fill ps lo hi r)⟩
  rw [show 2 * (ps ++ [(lo, hi)]).length = 2 * ps.length + 1 + 1 by simp only [List.length_append, List.length_cons, List.length_nil]; omega]
  exact F2.keep K2 hna
theorem c_add (hw : HW a0 Z) (E : Ext Z.heap h) {a b : Addr} {ps : List RG} {r : Nat} {lo hi : Int32} (B : Bld Z h a b ps (r + 2)) (hsm : 2 * ps.length + r + 2 < 1000) (ha : Z.heap.size ≤ a) (hb : Z.heap.size ≤ b) :
    Con none Z l y_add [] prog_6_method_2_code 3 (some (.object "com/example/fanout/fanout/CodePointSet$Builder")) (Rm 0 0 0 0) #[.ref a, .int lo, .int hi] h [a, b] (rV fun v h' => v = .ref a ∧ Bld Z h' a b (ps ++ [(lo, hi)]) r) := by
  have B0 := B
  obtain ⟨X, F1, F2, A⟩ := B
  refine con_of (a0 := a0) pl_add D_add [.val (.ref a), .val (.int lo), .val (.int hi)] rfl E (fun x q => by rcases List.mem_cons.mp q with rfl | q; exact ha; cases List.mem_singleton.mp q; exact hb) trivial fun p e s m below meth c T P => ?_
  refine g_run P 40 rfl ?_
  refine g_getf P (hw 42 _ rfl) F2 fun T P => ?_
  refine g_run P 40 rfl ?_
  refine g_getf P (hw 35 _ rfl) F1 fun T P => ?_
  refine g_alen P A ?_
  rw [ints_len, List.length_append, flat_len, List.length_replicate]
  refine g_ic P rfl (fun hc => ?_) (fun hc => absurd (ofN_inj (by omega) (by omega) (show Int32.ofNat (2 * ps.length) = Int32.ofNat (2 * ps.length + (r + 2)) from hc)) (by omega))
  refine t_add hw P B0 hsm (Or.inl (by simp)) (Or.inl (by simp)) fun T h' locs P K B => ?_
  refine g_run P 40 rfl ?_
  exact g_aret P ⟨rfl, B⟩
theorem c_cpyG (hw : HW a0 Z) (E : Ext Z.heap h) {b : Addr} {vs : List Value} (A : Arq Z h b .int vs) (hl : vs.length = 16) : Con none Z l y_cpy [] jdk_65_method_123_code 3 (some (.array .int)) (Rm 1 40 1 32) #[.ref b, .int (Int32.ofNat 32)] h [] (rV fun u h' => ∃ d, u = .ref d ∧ h.size ≤ d ∧ Arq Z h' d .int (vs ++ List.replicate 16 (.int 0))) := by
  refine con_of (a0 := a0) pl_cpy D_cpy [.val (.ref b), .val (.int (Int32.ofNat 32)), .unset] rfl E (fun _ q => nomatch q) trivial fun p e s m below meth c T P => ?_
  refine g_run P 40 rfl ?_
  refine g_alen P A ?_
  rw [hl]
  refine g_ic P rfl (fun hc => ?_) (fun hc => absurd hc (by show ¬ Int32.ofNat 32 = Int32.ofNat 16; decide))
  refine g_run P 40 rfl ?_
  refine g_newarr P (hw 13 _ rfl) 32 (nneg_ofN (by omega)) (by rw [(ix_ofN (by omega)).nat]; omega) fun T h1 d hd hd0 P E1 B => ?_
  rw [(ix_ofN (by omega)).nat] at B
  have A := A.ext E1
  refine g_run P 40 rfl ?_
  refine g_alen P A ?_
  rw [hl]
  refine g_run P 40 rfl ?_
  refine g_sV P (c_amin hw P.hE) (hw 94 _ rfl) (hw 7 _ rfl) (hw 8 _ rfl) (hw 9 _ rfl) pd_0 fun T h' v locs' P _ hq => ?_
  obtain ⟨rfl, rfl⟩ := hq
  rw [if_pos (by decide)]
  refine g_acopy P (hw 95 _ rfl) (hw 98 _ rfl) (hw 96 _ rfl) (hw 97 _ rfl) A B rfl (ix_ofN (n := 0) (by omega)) (ix_ofN (n := 0) (by omega)) (k := 16) (ix_ofN (by omega)) (by omega) (by simp) (Nat.le_of_eq hd) trivial fun T h' locs' P K B => ?_
  refine g_run P 40 rfl ?_
  refine g_aret P ⟨d, rfl, Nat.le_of_eq hd, B.cast ?_⟩
  rw [List.take_zero, List.drop_zero, List.take_of_length_le (by omega), List.nil_append, List.drop_replicate]
  rfl
theorem c_cpyS (hw : HW a0 Z) (E : Ext Z.heap h) {b : Addr} {vs : List Value} {n : Nat} (A : Arq Z h b .int vs) (X : Exa Z h b "[I") (hn : n ≤ vs.length) (hl : vs.length ≤ 20) : Con none Z l y_cpy [] jdk_65_method_123_code 3 (some (.array .int)) (Rm 1 40 1 20) #[.ref b, .int (Int32.ofNat n)] h [] (rV fun u h' => ∃ d, u = .ref d ∧ h.size ≤ d ∧ Arq Z h' d .int (vs.take n)) := by
  refine con_of (a0 := a0) pl_cpy D_cpy [.val (.ref b), .val (.int (Int32.ofNat n)), .unset] rfl E (fun _ q => nomatch q) trivial fun p e s m below meth c T P => ?_
  refine g_run P 40 rfl ?_
  refine g_alen P A ?_
  refine g_ic P rfl (fun hc => ?_) (fun hc => ?_)
  rotate_left
  · have en : n = vs.length := ofN_inj (by omega) (by omega) hc
    refine g_run P 40 rfl ?_
    refine g_clone P A.arz X 20 hl (hw 69 _ rfl) (hw 70 _ rfl) (hw 74 _ rfl) (hw 72 _ rfl) (hw 73 _ rfl) (hw 75 _ rfl) fun T h' d ed P Ed A' X' => ?_
    refine g_castY P (hw 76 _ rfl) (Ins.self X') fun T P => ?_
    exact g_aret P ⟨d, rfl, Nat.le_of_eq ed, by rw [en, List.take_length]; exact A'⟩
  have hlt : n < vs.length := Nat.lt_of_le_of_ne hn (fun q => hc (by rw [q]))
  refine g_run P 40 rfl ?_
  refine g_newarr P (hw 13 _ rfl) 20 (nneg_ofN (by omega)) (by rw [(ix_ofN (by omega)).nat]; omega) fun T h1 d hd hd0 P E1 B => ?_
  rw [(ix_ofN (by omega)).nat] at B
  have A := A.ext E1
  refine g_run P 40 rfl ?_
  refine g_alen P A ?_
  refine g_run P 40 rfl ?_
  refine g_sV P (c_amin hw P.hE) (hw 94 _ rfl) (hw 7 _ rfl) (hw 8 _ rfl) (hw 9 _ rfl) pd_0 fun T h' v locs' P _ hq => ?_
  obtain ⟨rfl, rfl⟩ := hq
  rw [if_neg (by rw [ofN_toInt (n := vs.length) (by omega), ofN_toInt (n := n) (by omega)]; omega)]
  refine g_acopy P (hw 95 _ rfl) (hw 98 _ rfl) (hw 96 _ rfl) (hw 97 _ rfl) A B rfl (ix_ofN (n := 0) (by omega)) (ix_ofN (n := 0) (by omega)) (k := n) (ix_ofN (by omega)) (by omega) (by simp) (Nat.le_of_eq hd) trivial fun T h' locs' P K B => ?_
  refine g_run P 40 rfl ?_
  refine g_aret P ⟨d, rfl, Nat.le_of_eq hd, B.cast ?_⟩
  simp
theorem c_addG (hw : HW a0 Z) (E : Ext Z.heap h) {a b : Addr} {ps : List RG} {lo hi : Int32} (B : Bld Z h a b ps 0) (h8 : ps.length = 8) (ha : Z.heap.size ≤ a) :
    Con none Z l y_add [] prog_6_method_2_code 3 (some (.object "com/example/fanout/fanout/CodePointSet$Builder")) (Rm 2 55 1 32) #[.ref a, .int lo, .int hi] h [a] (rV fun v h' => v = .ref a ∧ ∃ d, h.size ≤ d ∧ Bld Z h' a d (ps ++ [(lo, hi)]) 14) := by
  obtain ⟨X, F1, F2, A⟩ := B
  have hal := X.lt
  have hlen : (ints (flat ps ++ List.replicate 0 0)).length = 16 := by rw [ints_len, List.length_append, flat_len, List.length_replicate, h8]
  refine con_of (a0 := a0) pl_add D_add [.val (.ref a), .val (.int lo), .val (.int hi)] rfl E (fun x q => by cases List.mem_singleton.mp q; exact ha) trivial fun p e s m below meth c T P => ?_
  refine g_run P 40 rfl ?_
  refine g_getf P (hw 42 _ rfl) F2 fun T P => ?_
  refine g_run P 40 rfl ?_
  refine g_getf P (hw 35 _ rfl) F1 fun T P => ?_
  refine g_alen P A ?_
  rw [hlen]
  refine g_ic P rfl (fun hc => absurd (by rw [h8]) hc) (fun hc => ?_)
  refine g_run P 40 rfl ?_
  refine g_getf P (hw 35 _ rfl) F1 fun T P => ?_
  refine g_run P 40 rfl ?_
  refine g_getf P (hw 42 _ rfl) F2 fun T P => ?_
  refine g_run P 40 rfl ?_
  rw [h8, show (2 : Int32) * Int32.ofNat (2 * 8) = Int32.ofNat 32 from rfl]
  refine g_sV P (c_cpyG hw P.hE A hlen) (hw 66 _ rfl) (hw 67 _ rfl) (hw 52 _ rfl) (hw 68 _ rfl) pd_1 fun T h1 v locs' P E1 hq => ?_
  obtain ⟨d, rfl, hd, D⟩ := hq
  have X := X.ext E1
  have F1 := F1.ext E1
  have F2 := F2.ext E1
  have nda : d ∉ [a] := nin1r hal hd
  refine g_putf P (.array .int) (hw 35 _ rfl) F1 X (Or.inl (hw 36 _ rfl)) (hw 27 _ rfl) (Or.inl (List.mem_singleton.mpr rfl)) trivial fun T h2 P W1 => ?_
  have B : Bld Z h2 a d ps (14 + 2) := ⟨X.wr W1, F1.same W1, F2.other W1 (Or.inr (slot_ne (Or.inl (hw 43 _ rfl)) (Or.inl (hw 36 _ rfl)) (by decide) (t := .int) (t' := .array .int) (by decide) (by decide))), (D.keep (Keep.of_wr W1) nda).cast (by simp [ints])⟩
  refine t_add hw P B (by omega) (Or.inl (List.mem_singleton.mpr rfl)) (Or.inr hd) fun T h' locs P K B => ?_
  refine g_run P 40 rfl ?_
  exact g_aret P ⟨rfl, d, hd, B⟩
/-! sorting -/
abbrev SP (Z : State) (h : Heap) (d : Addr) (ys : List Int64) : Prop := ∃ zs : List Int64, zs.Perm ys ∧ Srt zs ∧ (Srt ys → zs = ys) ∧ Arq Z h d .long (lngs zs)
theorem lngs_set (ys : List Int64) (i : Nat) (y : Int64) : (lngs ys).set i (.long y) = lngs (ys.set i y) := by rw [lngs, lngs, List.map_set]
theorem c_ins (hw : HW a0 Z) (E : Ext Z.heap h) {d : Addr} {ys : List Int64} (A : Arq Z h d .long (lngs ys)) (h1 : 1 ≤ ys.length) (hk : ys.length ≤ 100) (hd : Z.heap.size ≤ d) : Con none Z l y_ins [] jdk_2529_method_15_code 7 none (Rm 0 0 0 0) #[.ref d, .int 0, .int (Int32.ofNat ys.length)] h [d] (rO fun h' => SP Z h' d ys) := by
  refine con_of (a0 := a0) pl_ins D_ins [.val (.ref d), .val (.int 0), .val (.int (Int32.ofNat ys.length)), .unset, .unset, .unset, .unset] rfl E (fun x q => by cases List.mem_singleton.mp q; exact hd) trivial fun p e s m below meth c T P => ?_
  have outer : ∀ (f j : Nat) (zs : List Int64) (s3 s5 s6 : Slot) (T : State) (h' : Heap) (locs : List Loc), j + 1 + f = ys.length → ((s3 = .unset ∧ s5 = .unset ∧ s6 = .unset) ∨ ∃ i y, s3 = .val (.int i) ∧ s5 = .val (.long y) ∧ s6 = .second) → zs.length = ys.length → zs.Perm ys → Srt (zs.take (j + 1)) → (Srt ys → zs = ys) →
      W none Z a0 y_ins.cls jdk_2529_method_15_code I_ins 7 none y_ins.name h [d] p l e (Rm 0 0 0 0) s m #[.ref d, .int 0, .int (Int32.ofNat ys.length)] below meth c s.vm T h' locs 0 0 → Arq Z h' d .long (lngs zs) → Keep h h' [d] →
      Go p e below m T 3 [.val (.ref d), .val (.int 0), .val (.int (Int32.ofNat ys.length)), s3, .val (.int (Int32.ofNat j)), s5, s6] [] (FinM none Z h [d] (Rm 0 0 0 0) (rO fun h' => SP Z h' d ys) s) := by
    intro f
    induction f with
    | zero =>
      intro j zs s3 s5 s6 T h' locs hj hsl hl hp hs hsame P A K
      rcases hsl with ⟨rfl, rfl, rfl⟩ | ⟨i, y, rfl, rfl, rfl⟩
      all_goals
        refine g_run P 40 rfl ?_
        rw [ofN_succ]
        refine g_ic P rfl (fun hc => ?_) (fun hc => absurd hc (by show ¬ (Int32.ofNat (j + 1)).toInt < (Int32.ofNat ys.length).toInt; rw [ofN_toInt (n := j + 1) (by omega), ofN_toInt (n := ys.length) (by omega)]; omega))
        rw [List.take_of_length_le (by omega)] at hs
        exact g_ret P ⟨zs, hp, hs, hsame, A⟩
    | succ f ih =>
      intro j zs s3 s5 s6 T h' locs hj hsl hl hp hs hsame P A K
      have hj1 : j + 1 < zs.length := by omega
      have hj0 : j < zs.length := by omega
      have hx : zs[j + 1]? = some zs[j + 1] := List.getElem?_eq_getElem hj1
      have hx0 : zs[j]? = some zs[j] := List.getElem?_eq_getElem hj0
      rcases hsl with ⟨rfl, rfl, rfl⟩ | ⟨i, y, rfl, rfl, rfl⟩
      all_goals
        refine g_run P 40 rfl ?_
        rw [ofN_succ]
        refine g_ic P rfl (fun hc => absurd hc (by show ¬ (Int32.ofNat ys.length).toInt ≤ (Int32.ofNat (j + 1)).toInt; rw [ofN_toInt (n := j + 1) (by omega), ofN_toInt (n := ys.length) (by omega)]; omega)) (fun hc => ?_)
        refine g_run P 40 rfl ?_
        refine g_laload P A (ix_ofN (by omega)) (lngs_get hx) ?_
        refine g_run P 40 rfl ?_
        rw [ofN_pred1 (by omega), show j + 1 - 1 = j by omega]
        refine g_laload P A (ix_ofN (by omega)) (lngs_get hx0) ?_
        refine g_run P 40 rfl ?_
        refine g_if P rfl (fun hc => ?_) (fun hc => ?_)
        · have hc : 0 ≤ (XT.cmpL zs[j + 1] zs[j]).toInt := hc
          have hle : zs[j].toInt ≤ zs[j + 1].toInt := by
            have : ¬ zs[j + 1].toInt < zs[j].toInt := fun q => absurd (cmp_lt.mpr q) (by omega)
            omega
          refine g_run P 1 rfl ?_
          refine ih (j + 1) zs _ _ _ T h' locs (by omega) (Or.inr ⟨_, _, rfl, rfl, rfl⟩) hl hp ?_ hsame P A K
          have e : zs.take (j + 1 + 1) = zs.take (j + 1) ++ [zs[j + 1]] := by rw [List.take_add_one, hx]; rfl
          rw [e]
          exact srt_snoc hs (j := j) (by rw [List.length_take]; omega) (by rw [List.getElem_take]; exact hle)
        · have hc : (XT.cmpL zs[j + 1] zs[j]).toInt < 0 := hc
          have hlt := cmp_lt.mp hc
          have hno : ¬ Srt ys := fun q => by
            have e := hsame q
            subst e
            exact srt_no hj1 hlt q
          obtain ⟨Q, hQ⟩ : ∃ Q, Q = zs.take (j + 1) := ⟨_, rfl⟩
          obtain ⟨rs, hrs⟩ : ∃ rs, rs = zs.drop (j + 1 + 1) := ⟨_, rfl⟩
          obtain ⟨x, hxx⟩ : ∃ x, x = zs[j + 1] := ⟨_, rfl⟩
          have hcut : zs = Q ++ x :: rs := by rw [hQ, hrs, hxx]; exact cut_at hj1
          have hQl : Q.length = j + 1 := by rw [hQ, List.length_take]; omega
          rw [← hQ] at hs
          rw [← hxx]
          have fin : ∀ (i : Nat) (sl : Int32) (T : State) (h' : Heap) (locs : List Loc), i ≤ j + 1 → (∀ y ∈ Q.drop i, x.toInt < y.toInt) → (∀ y ∈ Q.take i, y.toInt ≤ x.toInt) → W none Z a0 y_ins.cls jdk_2529_method_15_code I_ins 7 none y_ins.name h [d] p l e (Rm 0 0 0 0) s m #[.ref d, .int 0, .int (Int32.ofNat ys.length)] below meth c s.vm T h' locs 0 0 → Arq Z h' d .long (lngs (Q.take i ++ x :: (Q.drop i ++ rs))) → Keep h h' [d] →
              Go p e below m T 66 [.val (.ref d), .val (.int 0), .val (.int (Int32.ofNat ys.length)), .val (.int sl), .val (.int (Int32.ofNat (j + 1))), .val (.long x), .second] [] (FinM none Z h [d] (Rm 0 0 0 0) (rO fun h' => SP Z h' d ys) s) := by
            intro i sl T h' locs hi hg hle P A K
            refine g_run P 1 rfl ?_
            refine ih (j + 1) _ _ _ _ T h' locs (by omega) (Or.inr ⟨_, _, rfl, rfl, rfl⟩) ?_ ?_ ?_ (fun q => absurd q hno) P A K
            · rw [ins_len, hQl, ← hl, hcut, List.length_append, List.length_cons, hQl]; omega
            · refine ins_perm.trans ?_
              rw [← hcut]; exact hp
            · rw [ins_take (by omega)]
              exact ins_srt hs hg hle
          have inner : ∀ (i : Nat) (c0 : Int64) (T : State) (h' : Heap) (locs : List Loc), i ≤ j + 1 → (∀ y ∈ Q.drop i, x.toInt < y.toInt) → W none Z a0 y_ins.cls jdk_2529_method_15_code I_ins 7 none y_ins.name h [d] p l e (Rm 0 0 0 0) s m #[.ref d, .int 0, .int (Int32.ofNat ys.length)] below meth c s.vm T h' locs 0 0 → Arq Z h' d .long (lngs (Q.take i ++ c0 :: (Q.drop i ++ rs))) → Keep h h' [d] →
              Go p e below m T 31 [.val (.ref d), .val (.int 0), .val (.int (Int32.ofNat ys.length)), .val (.int (Int32.ofNat i)), .val (.int (Int32.ofNat (j + 1))), .val (.long x), .second] [] (FinM none Z h [d] (Rm 0 0 0 0) (rO fun h' => SP Z h' d ys) s) := by
            intro i
            induction i with
            | zero =>
              intro c0 T h' locs hi hg P A K
              refine g_run P 40 rfl ?_
              rw [show Int32.ofNat 0 + (-1) = (-1 : Int32) from rfl]
              refine g_ic P rfl (fun _ => ?_) (fun hc => absurd hc (by show ¬ (0 : Int32).toInt ≤ (-1 : Int32).toInt; decide))
              refine g_run P 40 rfl ?_
              rw [show (-1 : Int32) + 1 = Int32.ofNat 0 from rfl]
              refine g_lastore P A K (ix_ofN (by omega)) (by rw [lngs_len, ins_len]; omega) (Or.inl (List.mem_singleton.mpr rfl)) fun T h2 locs P A K => ?_
              rw [lngs_set, w_set (by omega)] at A
              exact fin 0 _ T h2 locs (by omega) hg (by simp) P A K
            | succ i ihi =>
              intro c0 T h' locs hi hg P A K
              have hiQ : i < Q.length := by omega
              refine g_run P 40 rfl ?_
              rw [ofN_pred (by omega), show i + 1 - 1 = i by omega]
              refine g_ic P rfl (fun hc => absurd hc (by show ¬ (Int32.ofNat i).toInt < (0 : Int32).toInt; rw [ofN_toInt (n := i) (by omega), show (0 : Int32).toInt = 0 from rfl]; omega)) (fun _ => ?_)
              refine g_run P 40 rfl ?_
              refine g_laload P A (ix_ofN (by omega)) (lngs_get (w_at hiQ)) ?_
              refine g_run P 40 rfl ?_
              refine g_if P rfl (fun hq => ?_) (fun hq => ?_)
              · have hq : 0 ≤ (XT.cmpL x Q[i]).toInt := hq
                have hle : Q[i].toInt ≤ x.toInt := by
                  have : ¬ x.toInt < Q[i].toInt := fun q => absurd (cmp_lt.mpr q) (by omega)
                  omega
                refine g_run P 40 rfl ?_
                rw [ofN_succ]
                refine g_lastore P A K (ix_ofN (by omega)) (by rw [lngs_len, ins_len]; omega) (Or.inl (List.mem_singleton.mpr rfl)) fun T h2 locs P A K => ?_
                rw [lngs_set, w_set (by omega)] at A
                exact fin (i + 1) _ T h2 locs hi hg (srt_take_le hs hiQ hle) P A K
              · have hq : (XT.cmpL x Q[i]).toInt < 0 := hq
                have hlt := cmp_lt.mp hq
                refine g_run P 40 rfl ?_
                rw [ofN_succ]
                refine g_laload P A (ix_ofN (by omega)) (lngs_get (w_at hiQ)) ?_
                refine g_lastore P A K (ix_ofN (by omega)) (by rw [lngs_len, ins_len]; omega) (Or.inl (List.mem_singleton.mpr rfl)) fun T h2 locs P A K => ?_
                rw [lngs_set, w_set (by omega), ins_next hiQ] at A
                refine g_run P 1 rfl ?_
                refine ihi _ T h2 locs (by omega) (fun y hy => ?_) P A K
                rw [List.drop_eq_getElem_cons hiQ] at hy
                rcases List.mem_cons.mp hy with rfl | hy
                · exact hlt
                · exact hg y hy
          refine inner (j + 1) x T h' locs (Nat.le_refl _) (fun y hy => ?_) P (A.cast ?_) K
          · rw [List.drop_eq_nil_of_le (by omega)] at hy; exact nomatch hy
          · rw [List.take_of_length_le (by omega), List.drop_eq_nil_of_le (by omega), List.nil_append, ← hcut]
  refine g_run P 2 rfl ?_
  refine outer (ys.length - 1) 0 ys _ _ _ T h [] (by omega) (Or.inl ⟨rfl, rfl, rfl⟩) rfl (List.Perm.refl _) ?_ (fun _ => rfl) P A (Keep.refl _ _)
  obtain ⟨y, rest, rfl⟩ : ∃ y rest, ys = y :: rest := by
    cases ys with
    | nil => simp at h1
    | cons y rest => exact ⟨y, rest, rfl⟩
  exact List.pairwise_singleton _ _
theorem c_dq2 (hw : HW a0 Z) (E : Ext Z.heap h) {d : Addr} {ys : List Int64} (A : Arq Z h d .long (lngs ys)) (h1 : 1 ≤ ys.length) (hk : ys.length ≤ 20) (hd : Z.heap.size ≤ d) : Con none Z l y_dq2 [] jdk_2529_method_13_code 25 none (Rm 1 18 0 0) #[.null, .ref d, .int 0, .int 0, .int (Int32.ofNat ys.length)] h [d] (rO fun h' => SP Z h' d ys) := by
  have hn : (Int32.ofNat ys.length).toInt = ys.length := ofN_toInt (by omega)
  refine con_of (a0 := a0) pl_dq2 D_dq2 [.val .null, .val (.ref d), .val (.int 0), .val (.int 0), .val (.int (Int32.ofNat ys.length)), .unset, .unset, .unset, .unset, .unset, .unset, .unset, .unset, .unset, .unset, .unset, .unset, .unset, .unset, .unset, .unset, .unset, .unset, .unset, .unset] rfl E (fun x q => by cases List.mem_singleton.mp q; exact hd) trivial fun p e s m below meth c T P => ?_
  refine g_run P 40 rfl ?_
  rw [Int32.sub_zero]
  refine g_ic P rfl (fun hc => absurd hc (by show ¬ ((65 : Int32) + 0).toInt ≤ (Int32.ofNat ys.length).toInt; rw [hn, show ((65 : Int32) + 0).toInt = 65 from rfl]; omega)) (fun _ => ?_)
  refine g_run P 40 rfl ?_
  refine g_if P rfl (fun _ => ?_) (fun hc => absurd hc (by show ¬ 0 < ((0 : Int32) &&& 1).toInt; decide))
  refine g_run P 40 rfl ?_
  refine g_ic P rfl (fun hc => absurd hc (by show ¬ (44 : Int32).toInt ≤ (Int32.ofNat ys.length).toInt; rw [hn, show (44 : Int32).toInt = 44 from rfl]; omega)) (fun _ => ?_)
  refine g_run P 40 rfl ?_
  refine g_s0 P (c_ins hw P.hE A h1 (by omega) hd) (hw 61 _ rfl) (hw 62 _ rfl) (hw 56 _ rfl) (hw 63 _ rfl) pd_2 (fun x q => Or.inl q) (fun _ _ => trivial) fun T h' locs P K hq => ?_
  exact g_ret P hq
theorem c_dq1 (hw : HW a0 Z) (E : Ext Z.heap h) {d : Addr} {ys : List Int64} (A : Arq Z h d .long (lngs ys)) (h1 : 1 ≤ ys.length) (hk : ys.length ≤ 20) (hd : Z.heap.size ≤ d) : Con none Z l y_dq1 [] jdk_2529_method_12_code 7 none (Rm 2 54 0 0) #[.ref d, .int 0, .int 0, .int (Int32.ofNat ys.length)] h [d] (rO fun h' => SP Z h' d ys) := by
  refine con_of (a0 := a0) pl_dq1 D_dq1 [.val (.ref d), .val (.int 0), .val (.int 0), .val (.int (Int32.ofNat ys.length)), .unset, .unset, .unset] rfl E (fun x q => by cases List.mem_singleton.mp q; exact hd) trivial fun p e s m below meth c T P => ?_
  refine g_run P 40 rfl ?_
  refine g_ic P rfl (fun _ => ?_) (fun hc => absurd hc (by show ¬ (1 : Int32).toInt < (0 : Int32).toInt; decide))
  refine g_run P 40 rfl ?_
  refine g_s0 P (c_dq2 hw P.hE A h1 hk hd) (hw 58 _ rfl) (hw 59 _ rfl) (hw 56 _ rfl) (hw 60 _ rfl) pd_3 (fun x q => Or.inl q) (fun _ _ => trivial) fun T h' locs P K hq => ?_
  exact g_ret P hq
theorem c_srt (hw : HW a0 Z) (E : Ext Z.heap h) {d : Addr} {ys : List Int64} (A : Arq Z h d .long (lngs ys)) (h1 : 1 ≤ ys.length) (hk : ys.length ≤ 20) (hd : Z.heap.size ≤ d) : Con none Z l y_srt [] jdk_65_method_4_code 1 none (Rm 3 72 0 0) #[.ref d] h [d] (rO fun h' => SP Z h' d ys) := by
  refine con_of (a0 := a0) pl_srt D_srt [.val (.ref d)] rfl E (fun x q => by cases List.mem_singleton.mp q; exact hd) trivial fun p e s m below meth c T P => ?_
  refine g_run P 40 rfl ?_
  refine g_alen P A ?_
  rw [lngs_len]
  refine g_s0 P (c_dq1 hw P.hE A h1 hk hd) (hw 54 _ rfl) (hw 55 _ rfl) (hw 56 _ rfl) (hw 57 _ rfl) pd_4 (fun x q => Or.inl q) (fun _ _ => trivial) fun T h' locs P K hq => ?_
  exact g_ret P hq
/-! build -/
theorem c_sin (hw : HW a0 Z) (E : Ext Z.heap h) {t q : Addr} {o1 : Value} (X : Exa Z h t CPS) (F1 : Fld Z h t CPS "bounds" "[I" o1) (ht : Z.heap.size ≤ t) : Con none Z l y_sin [] prog_5_method_1_code 2 none (Rm 1 12 0 0) #[.ref t, .ref q] h [t] (rO fun h' => Exa Z h' t CPS ∧ Fld Z h' t CPS "bounds" "[I" (.ref q)) := by
  refine con_of (a0 := a0) pl_sin D_sin [.val (.ref t), .val (.ref q)] rfl E (fun x q => by cases List.mem_singleton.mp q; exact ht) trivial fun p e s m below meth c T P => ?_
  refine g_run P 40 rfl ?_
  refine g_initO P (hw 81 _ rfl) (hw 33 _ rfl) (hw 34 _ rfl) fun T P => ?_
  refine g_run P 40 rfl ?_
  refine g_putf P (.array .int) (hw 82 _ rfl) F1 X (Or.inr ⟨(hw 83 _ rfl), rfl, rfl⟩) (hw 65 _ rfl) (Or.inl (List.mem_singleton.mpr rfl)) trivial fun T h2 P W1 => ?_
  exact g_ret P ⟨X.wr W1, F1.same W1⟩

abbrev BQ (Z : State) (h0 : Heap) (ps : List RG) (v : Value) (h' : Heap) : Prop := ∃ (t q : Addr) (zs : List Int64), v = .ref t ∧ h0.size ≤ t ∧ h0.size ≤ q ∧ zs.Perm (ps.map key) ∧ Srt zs ∧ (Srt (ps.map key) → zs = ps.map key) ∧ Cps Z h' t q (mgA (zs.map dec))
theorem take_flat (qs : List RG) (r : Nat) : (ints (flat qs ++ List.replicate r 0)).take (2 * qs.length) = ints (flat qs) := by
  have e : ints (flat qs ++ List.replicate r 0) = ints (flat qs) ++ ints (List.replicate r 0) := by simp [ints]
  rw [e, List.take_left' (by rw [ints_len, flat_len])]
theorem last_flat (fr : List RG) (t : RG) (r : Nat) : (ints (flat (fr ++ [t]) ++ List.replicate r 0))[2 * (fr ++ [t]).length - 1]? = some (.int t.2) := by
  have h := (flat_get (fr ++ [t]) fr.length t (by simp)).2
  rw [show 2 * (fr ++ [t]).length - 1 = 2 * fr.length + 1 by simp only [List.length_append, List.length_cons, List.length_nil]; omega]
  exact ints_get (get_pre h)
set_option maxHeartbeats 8000000 in
theorem c_bld (hw : HW a0 Z) (E : Ext Z.heap h) {a b : Addr} {ps : List RG} {r : Nat} (B : Bld Z h a b ps r) (hn1 : 1 ≤ ps.length) (hk : ps.length ≤ 10) (hr : r ≤ 20) (hok : Ok ps) : Con none Z l y_bld [] prog_6_method_4_code 11 (some (.object "com/example/fanout/fanout/CodePointSet")) (Rm 4 84 4 51) #[.ref a] h [] (rV fun v h' => BQ Z h ps v h') := by
  obtain ⟨X, F1, F2, A⟩ := B
  have hal := X.lt
  have hbl := A.lt
  have hZh := E.1
  refine con_of (a0 := a0) pl_bld D_bld [.val (.ref a), .unset, .unset, .unset, .unset, .unset, .unset, .unset, .unset, .unset, .unset] rfl E (fun _ q => nomatch q) trivial fun p e s m below meth c T P => ?_
  refine g_run P 40 rfl ?_
  refine g_getf P (hw 42 _ rfl) F2 fun T P => ?_
  refine g_run P 40 rfl ?_
  refine g_idiv P (by decide) ?_
  rw [ofN_half2 (by omega)]
  refine g_newarr P (hw 49 _ rfl) 10 (nneg_ofN (by omega)) (by rw [(ix_ofN (by omega)).nat]; omega) fun T h1 d hd hd0 P E1 D => ?_
  rw [(ix_ofN (by omega)).nat] at D
  have F1 := F1.ext E1
  have F2 := F2.ext E1
  have A := A.ext E1
  have nad : a ∉ [d] := nin1 hal hd0
  have nbd : b ∉ [d] := nin1 hbl hd0
  have hd1 : d < h1.size := D.lt
  have J50 : ∀ (T : State) (h2 : Heap) (locs : List Loc) (sl : Int32), W none Z a0 y_bld.cls prog_6_method_4_code I_bld 11 (some (.object "com/example/fanout/fanout/CodePointSet")) y_bld.name h [] p l e (Rm 4 84 4 51) s m #[.ref a] below meth c s.vm T h2 locs 1 10 → Arq Z h2 d .long (lngs (ps.map key)) → Keep h1 h2 [d] → Go p e below m T 50 [.val (.ref a), .val (.ref d), .val (.int sl), .unset, .unset, .unset, .unset, .unset, .unset, .unset, .unset] [] (FinM none Z h [] (Rm 4 84 4 51) (rV fun v h' => BQ Z h ps v h') s) := by
    intro T h2 locs sl P D K
    refine g_run P 40 rfl ?_
    refine g_s0 P (c_srt hw P.hE D (by rw [List.length_map]; exact hn1) (by rw [List.length_map]; omega) (Nat.le_trans hZh hd0)) (hw 50 _ rfl) (hw 51 _ rfl) (hw 52 _ rfl) (hw 53 _ rfl) pd_5 (fun x q => by cases List.mem_singleton.mp q; exact Or.inr hd0) (fun _ _ => trivial) fun T h3 locs P K2 hq => ?_
    obtain ⟨zs, hp, hs, hsame, D⟩ := hq
    have hzl : zs.length = ps.length := by rw [hp.length_eq, List.length_map]
    have K := K.trans K2 (fun x q => Or.inl q)
    have F2 := F2.keep K nad
    refine g_run P 40 rfl ?_
    refine g_getf P (hw 42 _ rfl) F2 fun T P => ?_
    refine g_newarrX P (aty := .int) (ad := "[I") (by decide) (hw 13 _ rfl) 20 (nneg_ofN (by omega)) (by rw [(ix_ofN (by omega)).nat]; omega) fun T h4 f hf hf0 P E4 G Xf => ?_
    rw [(ix_ofN (by omega)).nat] at G
    have D := D.ext E4
    have hd3 : d < h3.size := Nat.lt_of_lt_of_le hd1 K.1
    have ndf : d ∉ [f] := nin1 hd3 (Nat.le_of_eq hf)
    refine g_run P 40 rfl ?_
    refine g_alen P D ?_
    rw [lngs_len, hzl]
    have loop2 : ∀ (r2 i : Nat) (fr : List RG) (t : RG) (y : Int64) (u v : Int32) (T : State) (h5 : Heap) (locs : List Loc), i + r2 = ps.length → mg fr t ((zs.map dec).drop i) = mgA (zs.map dec) → fr.length + 1 ≤ i → W none Z a0 y_bld.cls prog_6_method_4_code I_bld 11 (some (.object "com/example/fanout/fanout/CodePointSet")) y_bld.name h [] p l e (Rm 4 84 4 51) s m #[.ref a] below meth c s.vm T h5 locs 2 30 → Arq Z h5 f .int (ints (flat (fr ++ [t]) ++ List.replicate (2 * ps.length - 2 * (fr.length + 1)) 0)) → Keep h4 h5 [f] → Go p e below m T 74 [.val (.ref a), .val (.ref d), .val (.ref f), .val (.int (Int32.ofNat (2 * (fr ++ [t]).length))), .val (.ref d), .val (.int (Int32.ofNat ps.length)), .val (.int (Int32.ofNat i)), .val (.long y), .second, .val (.int u), .val (.int v)] [] (FinM none Z h [] (Rm 4 84 4 51) (rV fun v h' => BQ Z h ps v h') s) := by
      intro r2
      induction r2 with
      | zero =>
        intro i fr t y u v T h5 locs hi hm hfr P G K5
        have hfl : (fr ++ [t]).length = fr.length + 1 := by simp
        rw [List.drop_eq_nil_of_le (by rw [List.length_map]; omega)] at hm
        have hm : fr ++ [t] = mgA (zs.map dec) := hm
        refine g_run P 40 rfl ?_
        refine g_ic P rfl (fun hc => ?_) (fun hc => absurd hc (by show ¬ (Int32.ofNat i).toInt < (Int32.ofNat ps.length).toInt; rw [ofN_toInt (n := i) (by omega), ofN_toInt (n := ps.length) (by omega)]; omega))
        refine g_new P (hw 64 _ rfl) (hw 65 _ rfl) (hw 24 _ rfl) fun T h6 t0 et lt P E6 Xt Dt => ?_
        have Ft := Dt (Or.inr (hw 83 _ rfl)) (ty := .array .int) (by decide)
        have ht6 := Xt.lt
        refine g_run P 40 rfl ?_
        refine g_sV P (c_cpyS hw P.hE (G.ext E6) ((Xf.keep K5).ext E6) (n := 2 * (fr ++ [t]).length) (by rw [fl_len]; omega) (by rw [fl_len, hfl]; omega)) (hw 66 _ rfl) (hw 67 _ rfl) (hw 52 _ rfl) (hw 68 _ rfl) pd_1 fun T h7 v locs P E7 hq => ?_
        obtain ⟨q, rfl, hq0, Q⟩ := hq
        rw [take_flat] at Q
        have hqh : h.size ≤ q := Nat.le_trans lt (Nat.le_trans (Nat.le_of_lt Xt.lt) hq0)
        have Xt := Xt.ext E7
        have Ft := Ft.ext E7
        have nqt : q ∉ [t0] := nin1r ht6 hq0
        refine g_initN P (c_sin hw P.hE (q := q) Xt Ft (Nat.le_trans hZh lt)) (hw 78 _ rfl) (hw 79 _ rfl) (hw 24 _ rfl) (hw 80 _ rfl) pd_6 (fun x q => by cases List.mem_singleton.mp q; exact Or.inr lt) (fun _ _ => trivial) fun T h8 locs P K8 hq => ?_
        exact g_aret P ⟨t0, q, zs, rfl, lt, hqh, hp, hs, hsame, hq.1, hq.2, by rw [← hm]; exact Q.keep K8 nqt⟩
      | succ r2 ih =>
        intro i fr t y u v T h5 locs hi hm hfr P G K5
        have hfl : (fr ++ [t]).length = fr.length + 1 := by simp
        have hin : i < zs.length := by omega
        have D := D.keep K5 ndf
        obtain ⟨z, hz⟩ : ∃ z, z = zs[i] := ⟨_, rfl⟩
        have hx : zs[i]? = some z := by rw [hz]; exact List.getElem?_eq_getElem hin
        have hdr : (zs.map dec).drop i = dec z :: (zs.map dec).drop (i + 1) := by rw [List.drop_eq_getElem_cons (by rw [List.length_map]; exact hin), List.getElem_map, ← hz]
        rw [hdr] at hm
        refine g_run P 40 rfl ?_
        refine g_ic P rfl (fun hc => absurd hc (by show ¬ (Int32.ofNat ps.length).toInt ≤ (Int32.ofNat i).toInt; rw [ofN_toInt (n := i) (by omega), ofN_toInt (n := ps.length) (by omega)]; omega)) (fun hc => ?_)
        refine g_run P 40 rfl ?_
        refine g_laload P D (ix_ofN (by omega)) (lngs_get hx) ?_
        refine g_run P 40 rfl ?_
        refine g_if P rfl (fun hc => absurd hc (by show ¬ (Int32.ofNat (2 * (fr ++ [t]).length)).toInt ≤ 0; rw [ofN_toInt (by omega)]; omega)) (fun hc => ?_)
        refine g_run P 40 rfl ?_
        rw [ofN_pred1 (by omega)]
        refine g_iaload P G (ix_ofN (by omega)) (last_flat fr t _) ?_
        refine g_run P 40 rfl ?_
        refine g_ic P rfl (fun hc => ?_) (fun hc => ?_)
        · have hc : (t.2 + 1).toInt < (dec z).1.toInt := hc
          have hm : mg (fr ++ [t]) (dec z) ((zs.map dec).drop (i + 1)) = mgA (zs.map dec) := by rw [mg, if_neg (by omega)] at hm; exact hm
          have hz2 : 2 * ps.length - 2 * (fr.length + 1) = (2 * ps.length - 2 * (fr.length + 1 + 1)) + 2 := by omega
          rw [hz2] at G
          refine g_run P 40 rfl ?_
          rw [ofN_succ]
          refine g_iastore P G (Keep.refl _ [f]) (ix_ofN (by omega)) (by rw [fl_len]; omega) (Or.inr hf0) fun T h6 locs P G K6 => ?_
          have K5 := K5.trans K6 (fun x q => Or.inl q)
          refine g_run P 40 rfl ?_
          rw [ofN_succ]
          refine g_iastore P G (Keep.refl _ [f]) (ix_ofN (by omega)) (by rw [List.length_set, fl_len]; omega) (Or.inr hf0) fun T h7 locs P G K7 => ?_
          have K5 := K5.trans K7 (fun x q => Or.inl q)
          replace G := G.cast (int_fill (fr ++ [t]) (dec z).1 (dec z).2 (2 * ps.length - 2 * (fr.length + 1 + 1)))
          refine g_run P 2 rfl ?_
          rw [ofN_succ, show 2 * (fr ++ [t]).length + 1 + 1 = 2 * (fr ++ [t] ++ [dec z]).length by simp only [List.length_append, List.length_cons, List.length_nil]; omega]
          exact ih (i + 1) (fr ++ [t]) (dec z) _ _ _ T h7 locs (by omega) hm (by omega) P (by rw [hfl]; exact G) K5
        · have hc : (dec z).1.toInt ≤ (t.2 + 1).toInt := hc
          have hm : mg fr (t.1, mxv t.2 (dec z).2) ((zs.map dec).drop (i + 1)) = mgA (zs.map dec) := by rw [mg, if_pos hc] at hm; exact hm
          refine g_run P 40 rfl ?_
          rw [ofN_pred1 (by omega)]
          refine g_iaload P G (ix_ofN (by omega)) (last_flat fr t _) ?_
          refine g_run P 40 rfl ?_
          refine g_sV P (c_amax hw P.hE (i := t.2) (j := (dec z).2)) (hw 100 _ rfl) (hw 11 _ rfl) (hw 8 _ rfl) (hw 12 _ rfl) pd_0 fun T h' w locs P _ hq => ?_
          obtain ⟨rfl, rfl⟩ := hq
          refine g_iastore P G (Keep.refl _ [f]) (ix_ofN (by omega)) (by rw [fl_len]; omega) (Or.inr hf0) fun T h6 locs P G K6 => ?_
          have K5 := K5.trans K6 (fun x q => Or.inl q)
          replace G := G.cast (int_max fr t (mxv t.2 (dec z).2) _)
          refine g_run P 3 rfl ?_
          rw [ofN_succ, show 2 * (fr ++ [t]).length = 2 * (fr ++ [(t.1, mxv t.2 (dec z).2)]).length by simp]
          exact ih (i + 1) fr (t.1, mxv t.2 (dec z).2) _ _ _ T h6 locs (by omega) hm (by omega) P G K5
    have hz0 : 0 < zs.length := by omega
    obtain ⟨z, hz⟩ : ∃ z, z = zs[0] := ⟨_, rfl⟩
    have hx : zs[0]? = some z := by rw [hz]; exact List.getElem?_eq_getElem hz0
    have hdr : zs.map dec = dec z :: (zs.map dec).drop 1 := by
      have := List.drop_eq_getElem_cons (l := zs.map dec) (i := 0) (by rw [List.length_map]; exact hz0)
      rw [List.drop_zero, List.getElem_map, ← hz] at this
      exact this
    have hm : mg [] (dec z) ((zs.map dec).drop 1) = mgA (zs.map dec) := by
      have e0 : mgA (dec z :: (zs.map dec).drop 1) = mgA (zs.map dec) := by rw [← hdr]
      exact e0
    have hz2 : 2 * ps.length = (2 * ps.length - 2) + 2 := by omega
    replace G : Arq Z h4 f .int (ints (flat [] ++ List.replicate ((2 * ps.length - 2) + 2) 0)) := G.cast (by rw [← hz2]; show _ = List.map _ ([] ++ List.replicate _ _); rw [List.nil_append, List.map_replicate]; rfl)
    refine g_run P 40 rfl ?_
    refine g_ic P rfl (fun hc => absurd hc (by show ¬ (Int32.ofNat ps.length).toInt ≤ (0 : Int32).toInt; rw [ofN_toInt (n := ps.length) (by omega), show (0 : Int32).toInt = 0 from rfl]; omega)) (fun hc => ?_)
    refine g_run P 40 rfl ?_
    refine g_laload P D (i := 0) rfl (lngs_get hx) ?_
    refine g_run P 40 rfl ?_
    refine g_if P rfl (fun hc => ?_) (fun hc => absurd hc (by show ¬ 0 < (0 : Int32).toInt; decide))
    refine g_run P 40 rfl ?_
    refine g_iastore P G (Keep.refl _ [f]) (i := 0) rfl (by rw [ints_len, List.length_append, List.length_replicate]; omega) (Or.inr hf0) fun T h6 locs P G K6 => ?_
    refine g_run P 40 rfl ?_
    refine g_iastore P G K6 (i := 1) rfl (by rw [List.length_set, ints_len, List.length_append, List.length_replicate]; omega) (Or.inr hf0) fun T h7 locs P G K7 => ?_
    replace G := G.cast (int_fill [] (dec z).1 (dec z).2 (2 * ps.length - 2))
    refine g_run P 2 rfl ?_
    exact loop2 (ps.length - 1) 1 [] (dec z) _ _ _ T h7 locs (by omega) hm (Nat.le_refl _) P G K7
  have loop1 : ∀ (r1 i : Nat) (T : State) (h2 : Heap) (locs : List Loc), i + r1 = ps.length → W none Z a0 y_bld.cls prog_6_method_4_code I_bld 11 (some (.object "com/example/fanout/fanout/CodePointSet")) y_bld.name h [] p l e (Rm 4 84 4 51) s m #[.ref a] below meth c s.vm T h2 locs 1 10 → Arq Z h2 d .long (lngs ((ps.take i).map key) ++ List.replicate r1 (.long 0)) → Keep h1 h2 [d] → Go p e below m T 11 [.val (.ref a), .val (.ref d), .val (.int (Int32.ofNat i)), .unset, .unset, .unset, .unset, .unset, .unset, .unset, .unset] [] (FinM none Z h [] (Rm 4 84 4 51) (rV fun v h' => BQ Z h ps v h') s) := by
    intro r1
    induction r1 with
    | zero =>
      intro i T h2 locs hi P D K
      have ht : ps.take i = ps := List.take_of_length_le (by omega)
      rw [ht, List.replicate_zero, List.append_nil] at D
      refine g_run P 40 rfl ?_
      refine g_alen P D ?_
      rw [lngs_len, List.length_map]
      refine g_ic P rfl (fun hc => ?_) (fun hc => absurd hc (by show ¬ (Int32.ofNat i).toInt < (Int32.ofNat ps.length).toInt; rw [ofN_toInt (n := i) (by omega), ofN_toInt (n := ps.length) (by omega)]; omega))
      exact J50 T h2 locs _ P D K
    | succ r1 ih =>
      intro i T h2 locs hi P D K
      have hin : i < ps.length := by omega
      have hx : ps[i]? = some ps[i] := List.getElem?_eq_getElem hin
      obtain ⟨g0, g1⟩ := flat_get ps i _ hx
      have htl : (ps.take i).length = i := by rw [List.length_take]; omega
      refine g_run P 40 rfl ?_
      refine g_alen P D ?_
      rw [List.length_append, lngs_len, List.length_map, List.length_replicate, htl, hi]
      refine g_ic P rfl (fun hc => absurd hc (by show ¬ (Int32.ofNat ps.length).toInt ≤ (Int32.ofNat i).toInt; rw [ofN_toInt (n := i) (by omega), ofN_toInt (n := ps.length) (by omega)]; omega)) (fun hc => ?_)
      refine g_run P 40 rfl ?_
      refine g_getf P (hw 35 _ rfl) (F1.keep K nad) fun T P => ?_
      refine g_run P 40 rfl ?_
      rw [ofN_two]
      refine g_iaload P (A.keep K nbd) (ix_ofN (by omega)) (ints_get (get_pre g0)) ?_
      refine g_run P 40 rfl ?_
      refine g_getf P (hw 35 _ rfl) (F1.keep K nad) fun T P => ?_
      refine g_run P 40 rfl ?_
      rw [ofN_two, ofN_succ]
      refine g_iaload P (A.keep K nbd) (ix_ofN (by omega)) (ints_get (get_pre g1)) ?_
      refine g_run P 40 rfl ?_
      refine g_lastore P D K (ix_ofN (n := i) (by omega)) (by rw [List.length_append, lngs_len, List.length_map, List.length_replicate, htl]; omega) (Or.inr hd0) fun T h3 locs P D K => ?_
      have hfill := lng_fill ((ps.take i).map key) (key ps[i]) r1
      rw [List.length_map, htl] at hfill
      refine g_run P 2 rfl ?_
      rw [ofN_succ]
      refine ih (i + 1) T h3 locs (by omega) P (D.cast (hfill.trans ?_)) K
      rw [List.take_add_one, hx, List.map_append]; rfl
  refine g_run P 3 rfl ?_
  exact loop1 ps.length 0 T h1 _ (by omega) P D (Keep.refl _ _)
theorem c_off (hw : HW a0 Z) (E : Ext Z.heap h) {v : Addr} {ps : List RG} (A : Arq Z h v .int (ints (flat ps))) (h8 : ps.length = 8) (hok : Ok ps) : Con none Z l y_off [] prog_5_method_2_code 3 (some (.object "com/example/fanout/fanout/CodePointSet")) (Rm 5 106 6 69) #[.ref v] h [] (rV fun u h' => BQ Z h ps u h') := by
  have hZh := E.1
  have hvl := A.lt
  refine con_of (a0 := a0) pl_off D_off [.val (.ref v), .unset, .unset] rfl E (fun _ q => nomatch q) trivial fun p e s m below meth c T P => ?_
  refine g_new P (hw 26 _ rfl) (hw 27 _ rfl) (hw 28 _ rfl) fun T h1 a ea la P E1 X Df => ?_
  refine g_run P 40 rfl ?_
  refine g_init P (c_bin hw P.hE X (Df (Or.inl (hw 36 _ rfl)) (ty := .array .int) (by decide)) (Df (Or.inl (hw 43 _ rfl)) (ty := .int) (by decide)) (Nat.le_trans hZh la)) (hw 29 _ rfl) (hw 30 _ rfl) (hw 28 _ rfl) (hw 31 _ rfl) pd_7 (fun x q => by cases List.mem_singleton.mp q; exact Or.inr la) (fun _ _ => trivial) fun T h2 locs P K2 hq => ?_
  obtain ⟨b, hb, B⟩ := hq
  have h1b : h1.size ≤ b := hb
  have A := A.ext (ext_keep E1 K2 (fun x q => by cases List.mem_singleton.mp q; exact Nat.le_of_eq ea))
  have hlb : h.size ≤ b := Nat.le_trans la (Nat.le_trans (Nat.le_of_lt X.lt) hb)
  have nv : v ∉ [a, b] := nin2 hvl la hlb
  have loop : ∀ (r i : Nat) (T : State) (h' : Heap) (locs : List Loc), i + r = 8 → W none Z a0 y_off.cls prog_5_method_2_code I_off 3 (some (.object "com/example/fanout/fanout/CodePointSet")) y_off.name h [] p l e (Rm 5 106 6 69) s m #[.ref v] below meth c s.vm T h' locs 2 18 → Bld Z h' a b (ps.take i) (2 * r) → Arq Z h' v .int (ints (flat ps)) → Go p e below m T 10 [.val (.ref v), .val (.ref a), .val (.int (Int32.ofNat (2 * i)))] [] (FinM none Z h [] (Rm 5 106 6 69) (rV fun u h' => BQ Z h ps u h') s) := by
    intro r
    induction r with
    | zero =>
      intro i T h' locs hi P B A
      rw [List.take_of_length_le (by omega)] at B
      have hle : h.size ≤ h'.size := P.le
      refine g_run P 40 rfl ?_
      refine g_alen P A ?_
      rw [ints_len, flat_len, h8]
      refine g_ic P rfl (fun hc => ?_) (fun hc => absurd hc (by show ¬ (Int32.ofNat (2 * i)).toInt < (Int32.ofNat (2 * 8)).toInt; rw [ofN_toInt (n := 2 * i) (by omega), ofN_toInt (n := 2 * 8) (by omega)]; omega))
      refine g_run P 40 rfl ?_
      refine g_vV P (c_bld hw P.hE B (by omega) (by omega) (by omega) hok) B.1 (hw 44 _ rfl) (hw 45 _ rfl) (hw 47 _ rfl) (hw 46 _ rfl) (hw 28 _ rfl) (hw 48 _ rfl) pd_8 fun T h2 w locs P E2 hq => ?_
      obtain ⟨t, q, zs, rfl, ht, hq0, rest⟩ := hq
      exact g_aret P ⟨t, q, zs, rfl, Nat.le_trans hle ht, Nat.le_trans hle hq0, rest⟩
    | succ r ih =>
      intro i T h' locs hi P B A
      have hin : i < ps.length := by omega
      have hx : ps[i]? = some ps[i] := List.getElem?_eq_getElem hin
      obtain ⟨g0, g1⟩ := flat_get ps i _ hx
      have htl : (ps.take i).length = i := by rw [List.length_take]; omega
      refine g_run P 40 rfl ?_
      refine g_alen P A ?_
      rw [ints_len, flat_len, h8]
      refine g_ic P rfl (fun hc => absurd hc (by show ¬ (Int32.ofNat (2 * 8)).toInt ≤ (Int32.ofNat (2 * i)).toInt; rw [ofN_toInt (n := 2 * i) (by omega), ofN_toInt (n := 2 * 8) (by omega)]; omega)) (fun hc => ?_)
      refine g_run P 40 rfl ?_
      refine g_iaload P A (ix_ofN (by omega)) (ints_get g0) ?_
      refine g_run P 40 rfl ?_
      rw [ofN_succ]
      refine g_iaload P A (ix_ofN (by omega)) (ints_get g1) ?_
      refine g_vVw P (c_add hw P.hE (r := 2 * r) (lo := ps[i].1) (hi := ps[i].2) B (by omega) (Nat.le_trans hZh la) (Nat.le_trans hZh hlb)) B.1 (hw 37 _ rfl) (hw 38 _ rfl) (hw 40 _ rfl) (hw 39 _ rfl) (hw 28 _ rfl) (hw 41 _ rfl) pd_9 (fun x q => by rcases List.mem_cons.mp q with rfl | q; exact Or.inr la; cases List.mem_singleton.mp q; exact Or.inr hlb) (fun _ _ => trivial) fun T h2 w locs P K hq => ?_
      obtain ⟨rfl, B⟩ := hq
      refine g_run P 3 rfl ?_
      rw [show Int32.ofNat (2 * i) + 2 = Int32.ofNat (2 * (i + 1)) by rw [show 2 * (i + 1) = 2 * i + 2 by omega, Int32.ofNat_add]; rfl]
      refine ih (i + 1) T h2 locs (by omega) P ?_ (A.keep K nv)
      rw [List.take_add_one, hx]; exact B
  refine g_run P 3 rfl ?_
  exact loop 8 0 T h2 _ (by omega) P B A
theorem c_adS (hw : HW a0 Z) (E : Ext Z.heap h) {a b t q : Addr} {qs : List RG} (B : Bld Z h a b [] 16) (C : Cps Z h t q qs) (h8 : qs.length = 8) (ha : Z.heap.size ≤ a) (hb : Z.heap.size ≤ b) (nt : t ∉ [a, b]) (nq : q ∉ [a, b]) :
    Con none Z l y_adS [] prog_6_method_3_code 3 (some (.object "com/example/fanout/fanout/CodePointSet$Builder")) (Rm 1 20 0 0) #[.ref a, .ref t] h [a, b] (rV fun v h' => v = .ref a ∧ Bld Z h' a b qs 0) := by
  refine con_of (a0 := a0) pl_adS D_adS [.val (.ref a), .val (.ref t), .unset] rfl E (fun x q => by rcases List.mem_cons.mp q with rfl | q; exact ha; cases List.mem_singleton.mp q; exact hb) trivial fun p e s m below meth c T P => ?_
  have loop : ∀ (r i : Nat) (T : State) (h' : Heap) (locs : List Loc), i + r = 8 → W none Z a0 y_adS.cls prog_6_method_3_code I_adS 3 (some (.object "com/example/fanout/fanout/CodePointSet$Builder")) y_adS.name h [a, b] p l e (Rm 1 20 0 0) s m #[.ref a, .ref t] below meth c s.vm T h' locs 0 0 → Bld Z h' a b (qs.take i) (2 * r) → Cps Z h' t q qs → Go p e below m T 2 [.val (.ref a), .val (.ref t), .val (.int (Int32.ofNat (2 * i)))] [] (FinM none Z h [a, b] (Rm 1 20 0 0) (rV fun v h' => v = .ref a ∧ Bld Z h' a b qs 0) s) := by
    intro r
    induction r with
    | zero =>
      intro i T h' locs hi P B C
      rw [List.take_of_length_le (by omega)] at B
      refine g_run P 40 rfl ?_
      refine g_getfN P (hw 91 _ rfl) C.2.1 fun T P => ?_
      refine g_alen P C.2.2 ?_
      rw [ints_len, flat_len, h8]
      refine g_ic P rfl (fun hc => ?_) (fun hc => absurd hc (by show ¬ (Int32.ofNat (2 * i)).toInt < (Int32.ofNat (2 * 8)).toInt; rw [ofN_toInt (n := 2 * i) (by omega), ofN_toInt (n := 2 * 8) (by omega)]; omega))
      refine g_run P 40 rfl ?_
      exact g_aret P ⟨rfl, B⟩
    | succ r ih =>
      intro i T h' locs hi P B C
      have hin : i < qs.length := by omega
      have hx : qs[i]? = some qs[i] := List.getElem?_eq_getElem hin
      obtain ⟨g0, g1⟩ := flat_get qs i _ hx
      have htl : (qs.take i).length = i := by rw [List.length_take]; omega
      refine g_run P 40 rfl ?_
      refine g_getfN P (hw 91 _ rfl) C.2.1 fun T P => ?_
      refine g_alen P C.2.2 ?_
      rw [ints_len, flat_len, h8]
      refine g_ic P rfl (fun hc => absurd hc (by show ¬ (Int32.ofNat (2 * 8)).toInt ≤ (Int32.ofNat (2 * i)).toInt; rw [ofN_toInt (n := 2 * i) (by omega), ofN_toInt (n := 2 * 8) (by omega)]; omega)) (fun hc => ?_)
      refine g_run P 40 rfl ?_
      refine g_getfN P (hw 91 _ rfl) C.2.1 fun T P => ?_
      refine g_run P 40 rfl ?_
      refine g_iaload P C.2.2 (ix_ofN (by omega)) (ints_get g0) ?_
      refine g_run P 40 rfl ?_
      refine g_getfN P (hw 91 _ rfl) C.2.1 fun T P => ?_
      refine g_run P 40 rfl ?_
      rw [ofN_succ]
      refine g_iaload P C.2.2 (ix_ofN (by omega)) (ints_get g1) ?_
      refine g_vVw P (c_add hw P.hE (r := 2 * r) (lo := qs[i].1) (hi := qs[i].2) B (by omega) ha hb) B.1 (hw 92 _ rfl) (hw 38 _ rfl) (hw 40 _ rfl) (hw 39 _ rfl) (hw 28 _ rfl) (hw 41 _ rfl) pd_9 (fun x q => Or.inl q) (fun _ _ => trivial) fun T h2 w locs P K hq => ?_
      obtain ⟨rfl, B⟩ := hq
      refine g_run P 3 rfl ?_
      rw [show Int32.ofNat (2 * i) + 2 = Int32.ofNat (2 * (i + 1)) by rw [show 2 * (i + 1) = 2 * i + 2 by omega, Int32.ofNat_add]; rfl]
      refine ih (i + 1) T h2 locs (by omega) P ?_ (C.keep K nt nq)
      rw [List.take_add_one, hx]; exact B
  refine g_run P 2 rfl ?_
  exact loop 8 0 T h _ (by omega) P B C
theorem pred_toInt {u : Nat} (h : u ≤ 100) : (Int32.ofNat u - 1).toInt = (u : Int) - 1 := by
  have : ∀ u : Fin 101, (Int32.ofNat u.val - 1).toInt = (u.val : Int) - 1 := by decide +kernel
  exact this ⟨u, by omega⟩
theorem c_con (hw : HW a0 Z) (E : Ext Z.heap h) {t q : Addr} {qs : List RG} {x : Int32} (C : Cps Z h t q qs) (hg : Good qs) (hk : qs.length ≤ 20) : Con none Z l y_con [] prog_5_method_3_code 5 (some .boolean) (Rm 0 0 0 0) #[.ref t, .int x] h [] (rV fun v h' => v = .int (if Cov qs x.toInt then 1 else 0) ∧ h = h') := by
  obtain ⟨X, F1, A⟩ := C
  refine con_of (a0 := a0) pl_con D_con [.val (.ref t), .val (.int x), .unset, .unset, .unset] rfl E (fun _ q => nomatch q) trivial fun p e s m below meth c T P => ?_
  have loop : ∀ (f lo u : Nat) (hv : Int32) (sl : Slot) (T : State) (locs : List Loc), u - lo < f → hv = Int32.ofNat u - 1 → (sl = .unset ∨ ∃ w, sl = .val (.int w)) → lo ≤ u → u ≤ qs.length → (∀ j (hj : j < qs.length), j < lo → qs[j].2.toInt < x.toInt) → (∀ j (hj : j < qs.length), u ≤ j → x.toInt < qs[j].1.toInt) →
      W none Z a0 y_con.cls prog_5_method_3_code I_con 5 (some .boolean) y_con.name h [] p l e (Rm 0 0 0 0) s m #[.ref t, .int x] below meth c s.vm T h locs 0 0 → Go p e below m T 12 [.val (.ref t), .val (.int x), .val (.int (Int32.ofNat lo)), .val (.int hv), sl] [] (FinM none Z h [] (Rm 0 0 0 0) (rV fun v h' => v = .int (if Cov qs x.toInt then 1 else 0) ∧ h = h') s) := by
    intro f
    induction f with
    | zero => intro lo u hv sl T locs hf; exact absurd hf (by omega)
    | succ f ih =>
      intro lo u hv sl T locs hf hhv hsl hlu huk hlo hhi P
      have hvi : hv.toInt = (u : Int) - 1 := by rw [hhv]; exact pred_toInt (by omega)
      refine g_run P 40 rfl ?_
      refine g_ic P rfl (fun hc => ?_) (fun hc => ?_)
      · have hc : hv.toInt < (Int32.ofNat lo).toInt := hc
        rw [hvi, ofN_toInt (by omega)] at hc
        refine g_run P 40 rfl ?_
        have hno : ¬ Cov qs x.toInt := by
          rw [cov_at]
          rintro ⟨j, hj, w1, w2⟩
          rcases Nat.lt_or_ge j lo with z | z
          · have := hlo j hj z; omega
          · have := hhi j hj (by omega); omega
        exact g_iret P ⟨by rw [if_neg hno], rfl⟩
      have hc : (Int32.ofNat lo).toInt ≤ hv.toInt := hc
      rw [hvi, ofN_toInt (by omega)] at hc
      have hu1 : 1 ≤ u := by omega
      have hhv : hv = Int32.ofNat (u - 1) := by rw [hhv, ofN_pred1 hu1]
      subst hhv
      obtain ⟨mid, hmid⟩ : ∃ mid, mid = (lo + (u - 1)) / 2 := ⟨_, rfl⟩
      have hml : lo ≤ mid := by omega
      have hmu : mid < u := by omega
      have hmk : mid < qs.length := by omega
      have hx : qs[mid]? = some qs[mid] := List.getElem?_eq_getElem hmk
      obtain ⟨g0, g1⟩ := flat_get qs mid _ hx
      rcases hsl with rfl | ⟨w, rfl⟩
      all_goals
        refine g_run P 40 rfl ?_
        rw [ofN_add, ushr_half (by omega), ← hmid]
        refine g_getf P (hw 82 _ rfl) F1 fun T P => ?_
        refine g_run P 40 rfl ?_
        rw [ofN_two]
        refine g_iaload P A (ix_ofN (by omega)) (ints_get g0) ?_
        refine g_ic P rfl (fun hc => ?_) (fun hc => ?_)
        · have hc : qs[mid].1.toInt ≤ x.toInt := hc
          refine g_run P 40 rfl ?_
          refine g_getf P (hw 82 _ rfl) F1 fun T P => ?_
          refine g_run P 40 rfl ?_
          rw [ofN_two, ofN_succ]
          refine g_iaload P A (ix_ofN (by omega)) (ints_get g1) ?_
          refine g_ic P rfl (fun hd => ?_) (fun hd => ?_)
          · have hd : x.toInt ≤ qs[mid].2.toInt := hd
            refine g_run P 40 rfl ?_
            exact g_iret P ⟨by rw [if_pos (cov_at.mpr ⟨mid, hmk, hc, hd⟩)], rfl⟩
          · have hd : qs[mid].2.toInt < x.toInt := hd
            refine g_run P 6 rfl ?_
            rw [ofN_succ]
            refine ih (mid + 1) u _ _ T locs (by omega) (ofN_pred1 hu1).symm (Or.inr ⟨_, rfl⟩) (by omega) huk (fun j hj hjm => ?_) hhi P
            rcases Nat.lt_or_ge j mid with z | z
            · have h1 := good_lt hg hj hmk z
              have h2 := hg.2 qs[mid] (List.getElem_mem hmk)
              omega
            · have : j = mid := by omega
              subst this; exact hd
        · have hc : x.toInt < qs[mid].1.toInt := hc
          refine g_run P 6 rfl ?_
          refine ih lo mid _ _ T locs (by omega) rfl (Or.inr ⟨_, rfl⟩) hml (by omega) hlo (fun j hj hjm => ?_) P
          rcases Nat.lt_or_ge mid j with z | z
          · have h1 := good_lt hg hmk hj z
            have h2 := hg.2 qs[mid] (List.getElem_mem hmk)
            omega
          · have : j = mid := by omega
            subst this; exact hc
  refine g_run P 40 rfl ?_
  refine g_getf P (hw 82 _ rfl) F1 fun T P => ?_
  refine g_alen P A ?_
  rw [ints_len, flat_len]
  refine g_run P 40 rfl ?_
  refine g_idiv P (by decide) ?_
  rw [ofN_half2 (by omega)]
  refine g_run P 3 rfl ?_
  exact loop (qs.length + 1) 0 qs.length _ .unset T _ (by omega) rfl (Or.inl rfl) (by omega) (Nat.le_refl _) (fun j hj z => absurd z (by omega)) (fun j hj z => absurd hj (by omega)) P
theorem ite_iff {p q : Prop} [Decidable p] [Decidable q] (h : p ↔ q) : (if p then (1 : Int32) else 0) = if q then 1 else 0 := by
  by_cases hp : p
  · rw [if_pos hp, if_pos (h.mp hp)]
  · rw [if_neg hp, if_neg (fun w => hp (h.mpr w))]
def mnv (a b : Int32) : Int32 := if a.toInt ≤ b.toInt then a else b
theorem rg_ok {u v : Nat} (hu : u < 1114112) (hv : v < 1114112) : 0 ≤ (if (Int32.ofNat u).toInt ≤ (Int32.ofNat v).toInt then Int32.ofNat u else Int32.ofNat v).toInt ∧ (if (Int32.ofNat u).toInt ≤ (Int32.ofNat v).toInt then Int32.ofNat u else Int32.ofNat v).toInt ≤ (mxv (Int32.ofNat u) (Int32.ofNat v)).toInt ∧ (mxv (Int32.ofNat u) (Int32.ofNat v)).toInt < 1114112 := by
  have eu := ofN_toInt (n := u) (by omega)
  have ev := ofN_toInt (n := v) (by omega)
  rw [mxv_toInt]
  split <;> omega
set_option maxHeartbeats 8000000 in
theorem c_law (hw : HW a0 Z) (hh : Z.heap = h) (x0 x1 x2 x3 x4 x5 : Int32) :
    Con none Z l x tables_1 code maxLocals ret room_1 #[.int x0, .int x1, .int x2, .int x3, .int x4, .int x5] h [] (rV fun v h' => v = .int 1) := by
  have E : Ext Z.heap h := hh ▸ ext_refl _
  have hZh := E.1
  refine con_of (a0 := a0) pl_law D_law [.val (.int x0), .val (.int x1), .val (.int x2), .val (.int x3), .val (.int x4), .val (.int x5), .unset, .unset, .unset, .unset, .unset, .unset, .unset, .unset, .unset, .unset, .unset, .unset, .unset, .unset, .unset, .unset, .unset] rfl E (fun _ q => nomatch q) trivial fun p e s m below meth c T P => ?_
  refine g_run P 60 rfl ?_
  refine g_sV P (c_cpB hw P.hE) (hw 0 _ rfl) (hw 1 _ rfl) (hw 2 _ rfl) (hw 3 _ rfl) pd_10 fun T h' v locs P _ hq => ?_
  obtain ⟨⟨u1, hu1, rfl⟩, rfl⟩ := hq
  refine g_run P 60 rfl ?_
  refine g_sV P (c_cpB hw P.hE) (hw 0 _ rfl) (hw 1 _ rfl) (hw 2 _ rfl) (hw 3 _ rfl) pd_10 fun T h' v locs P _ hq => ?_
  obtain ⟨⟨v1, hv1, rfl⟩, rfl⟩ := hq
  refine g_run P 60 rfl ?_
  refine g_sV P (c_cpB hw P.hE) (hw 0 _ rfl) (hw 1 _ rfl) (hw 2 _ rfl) (hw 3 _ rfl) pd_10 fun T h' v locs P _ hq => ?_
  obtain ⟨⟨u2, hu2, rfl⟩, rfl⟩ := hq
  refine g_run P 60 rfl ?_
  refine g_sV P (c_cpB hw P.hE) (hw 0 _ rfl) (hw 1 _ rfl) (hw 2 _ rfl) (hw 3 _ rfl) pd_10 fun T h' v locs P _ hq => ?_
  obtain ⟨⟨v2, hv2, rfl⟩, rfl⟩ := hq
  refine g_run P 60 rfl ?_
  refine g_sV P (c_amin hw P.hE (i := Int32.ofNat u1) (j := Int32.ofNat v1)) (hw 6 _ rfl) (hw 7 _ rfl) (hw 8 _ rfl) (hw 9 _ rfl) pd_0 fun T h' w locs P _ hq => ?_
  obtain ⟨rfl, rfl⟩ := hq
  refine g_run P 60 rfl ?_
  refine g_sV P (c_amax hw P.hE (i := Int32.ofNat u1) (j := Int32.ofNat v1)) (hw 10 _ rfl) (hw 11 _ rfl) (hw 8 _ rfl) (hw 12 _ rfl) pd_0 fun T h' w locs P _ hq => ?_
  obtain ⟨rfl, rfl⟩ := hq
  refine g_run P 60 rfl ?_
  refine g_sV P (c_amin hw P.hE (i := Int32.ofNat u2) (j := Int32.ofNat v2)) (hw 6 _ rfl) (hw 7 _ rfl) (hw 8 _ rfl) (hw 9 _ rfl) pd_0 fun T h' w locs P _ hq => ?_
  obtain ⟨rfl, rfl⟩ := hq
  refine g_run P 60 rfl ?_
  refine g_sV P (c_amax hw P.hE (i := Int32.ofNat u2) (j := Int32.ofNat v2)) (hw 10 _ rfl) (hw 11 _ rfl) (hw 8 _ rfl) (hw 12 _ rfl) pd_0 fun T h' w locs P _ hq => ?_
  obtain ⟨rfl, rfl⟩ := hq
  have ok1 := rg_ok hu1 hv1
  have ok2 := rg_ok hu2 hv2
  obtain ⟨ra, era⟩ : ∃ z, z = (if (Int32.ofNat u1).toInt ≤ (Int32.ofNat v1).toInt then Int32.ofNat u1 else Int32.ofNat v1) := ⟨_, rfl⟩
  obtain ⟨rb, erb⟩ : ∃ z, z = mxv (Int32.ofNat u1) (Int32.ofNat v1) := ⟨_, rfl⟩
  obtain ⟨rc, erc⟩ : ∃ z, z = (if (Int32.ofNat u2).toInt ≤ (Int32.ofNat v2).toInt then Int32.ofNat u2 else Int32.ofNat v2) := ⟨_, rfl⟩
  obtain ⟨rd, erd⟩ : ∃ z, z = mxv (Int32.ofNat u2) (Int32.ofNat v2) := ⟨_, rfl⟩
  rw [← era, ← erb] at ok1
  rw [← erc, ← erd] at ok2
  refine g_run P 60 rfl ?_
  rw [← era, ← erb, ← erc, ← erd]
  have hok : Ok (FILL ++ [(ra, rb), (rc, rd)]) := fun q hq => by
    rcases List.mem_append.mp hq with z | z
    · exact fill_ok q z
    · rcases List.mem_cons.mp z with rfl | z
      · exact ok1
      · cases List.mem_singleton.mp z; exact ok2
  refine g_newarr P (hw 13 _ rfl) 16 (by decide) (by decide) fun T h1 v ev lv P E1 A => ?_
  have K1 := Keep.refl h1 [v]
  refine g_run P 60 rfl ?_
  refine g_ldcI P (hw 14 _ rfl) ?_
  refine g_iastore P A K1 (i := 0) rfl (Nat.le_of_ble_eq_true rfl) (Or.inr lv) fun T h_0 locs P A K1 => ?_
  refine g_run P 60 rfl ?_
  refine g_ldcI P (hw 14 _ rfl) ?_
  refine g_iastore P A K1 (i := 1) rfl (Nat.le_of_ble_eq_true rfl) (Or.inr lv) fun T h_1 locs P A K1 => ?_
  refine g_run P 60 rfl ?_
  refine g_ldcI P (hw 15 _ rfl) ?_
  refine g_iastore P A K1 (i := 2) rfl (Nat.le_of_ble_eq_true rfl) (Or.inr lv) fun T h_2 locs P A K1 => ?_
  refine g_run P 60 rfl ?_
  refine g_ldcI P (hw 15 _ rfl) ?_
  refine g_iastore P A K1 (i := 3) rfl (Nat.le_of_ble_eq_true rfl) (Or.inr lv) fun T h_3 locs P A K1 => ?_
  refine g_run P 60 rfl ?_
  refine g_ldcI P (hw 16 _ rfl) ?_
  refine g_iastore P A K1 (i := 4) rfl (Nat.le_of_ble_eq_true rfl) (Or.inr lv) fun T h_4 locs P A K1 => ?_
  refine g_run P 60 rfl ?_
  refine g_ldcI P (hw 16 _ rfl) ?_
  refine g_iastore P A K1 (i := 5) rfl (Nat.le_of_ble_eq_true rfl) (Or.inr lv) fun T h_5 locs P A K1 => ?_
  refine g_run P 60 rfl ?_
  refine g_ldcI P (hw 17 _ rfl) ?_
  refine g_iastore P A K1 (i := 6) rfl (Nat.le_of_ble_eq_true rfl) (Or.inr lv) fun T h_6 locs P A K1 => ?_
  refine g_run P 60 rfl ?_
  refine g_ldcI P (hw 17 _ rfl) ?_
  refine g_iastore P A K1 (i := 7) rfl (Nat.le_of_ble_eq_true rfl) (Or.inr lv) fun T h_7 locs P A K1 => ?_
  refine g_run P 60 rfl ?_
  refine g_ldcI P (hw 18 _ rfl) ?_
  refine g_iastore P A K1 (i := 8) rfl (Nat.le_of_ble_eq_true rfl) (Or.inr lv) fun T h_8 locs P A K1 => ?_
  refine g_run P 60 rfl ?_
  refine g_ldcI P (hw 18 _ rfl) ?_
  refine g_iastore P A K1 (i := 9) rfl (Nat.le_of_ble_eq_true rfl) (Or.inr lv) fun T h_9 locs P A K1 => ?_
  refine g_run P 60 rfl ?_
  refine g_ldcI P (hw 19 _ rfl) ?_
  refine g_iastore P A K1 (i := 10) rfl (Nat.le_of_ble_eq_true rfl) (Or.inr lv) fun T h_10 locs P A K1 => ?_
  refine g_run P 60 rfl ?_
  refine g_ldcI P (hw 19 _ rfl) ?_
  refine g_iastore P A K1 (i := 11) rfl (Nat.le_of_ble_eq_true rfl) (Or.inr lv) fun T h_11 locs P A K1 => ?_
  refine g_run P 60 rfl ?_
  refine g_ldcI P (hw 20 _ rfl) ?_
  refine g_iastore P A K1 (i := 12) rfl (Nat.le_of_ble_eq_true rfl) (Or.inr lv) fun T h_12 locs P A K1 => ?_
  refine g_run P 60 rfl ?_
  refine g_ldcI P (hw 20 _ rfl) ?_
  refine g_iastore P A K1 (i := 13) rfl (Nat.le_of_ble_eq_true rfl) (Or.inr lv) fun T h_13 locs P A K1 => ?_
  refine g_run P 60 rfl ?_
  refine g_ldcI P (hw 21 _ rfl) ?_
  refine g_iastore P A K1 (i := 14) rfl (Nat.le_of_ble_eq_true rfl) (Or.inr lv) fun T h_14 locs P A K1 => ?_
  refine g_run P 60 rfl ?_
  refine g_ldcI P (hw 21 _ rfl) ?_
  refine g_iastore P A K1 (i := 15) rfl (Nat.le_of_ble_eq_true rfl) (Or.inr lv) fun T h_15 locs P A K1 => ?_
  replace A := A.cast (show _ = ints (flat FILL) from rfl)
  refine g_sV P (c_off hw P.hE A rfl fill_ok) (hw 22 _ rfl) (hw 23 _ rfl) (hw 24 _ rfl) (hw 25 _ rfl) pd_11 fun T h2 w locs P E2 hq => ?_
  obtain ⟨t, q, zs, rfl, ht, hq0, hp, hs, hsame, C⟩ := hq
  rw [hsame fill_srt, fill_dec, fill_mg] at C
  have htl := C.1.lt
  have hql := C.2.2.lt
  refine g_run P 60 rfl ?_
  refine g_new P (hw 84 _ rfl) (hw 27 _ rfl) (hw 28 _ rfl) fun T h3 a ea la P E3 X Df => ?_
  have C := C.ext E3
  refine g_run P 60 rfl ?_
  refine g_init P (c_bin hw P.hE X (Df (Or.inl (hw 36 _ rfl)) (ty := .array .int) (by decide)) (Df (Or.inl (hw 43 _ rfl)) (ty := .int) (by decide)) (Nat.le_trans hZh la)) (hw 85 _ rfl) (hw 30 _ rfl) (hw 28 _ rfl) (hw 31 _ rfl) pd_7 (fun x q => by cases List.mem_singleton.mp q; exact Or.inr la) (fun _ _ => trivial) fun T h4 locs P K4 hq => ?_
  obtain ⟨b, hb, B⟩ := hq
  have hal := X.lt
  have hlb : h.size ≤ b := Nat.le_trans la (Nat.le_trans (Nat.le_of_lt hal) hb)
  have h2a : h2.size ≤ a := Nat.le_of_eq ea
  have h2b : h2.size ≤ b := Nat.le_trans E3.1 hb
  have C := C.keep K4 (nin1 htl h2a) (nin1 hql h2a)
  have nt : t ∉ [a, b] := nin2 htl h2a h2b
  have nq : q ∉ [a, b] := nin2 hql h2a h2b
  refine g_run P 60 rfl ?_
  refine g_vVw P (c_adS hw P.hE B C rfl (Nat.le_trans hZh la) (Nat.le_trans hZh hlb) nt nq) B.1 (hw 86 _ rfl) (hw 87 _ rfl) (hw 89 _ rfl) (hw 88 _ rfl) (hw 28 _ rfl) (hw 90 _ rfl) pd_12 (fun x q => by rcases List.mem_cons.mp q with rfl | q; exact Or.inr la; cases List.mem_singleton.mp q; exact Or.inr hlb) (fun _ _ => trivial) fun T h5 w locs P K5 hq => ?_
  obtain ⟨rfl, B⟩ := hq
  have B5 := B
  refine g_run P 60 rfl ?_
  refine g_vVw P (c_addG hw P.hE (lo := ra) (hi := rb) B rfl (Nat.le_trans hZh la)) B.1 (hw 93 _ rfl) (hw 38 _ rfl) (hw 40 _ rfl) (hw 39 _ rfl) (hw 28 _ rfl) (hw 41 _ rfl) pd_9 (fun x q => by cases List.mem_singleton.mp q; exact Or.inr la) (fun _ _ => trivial) fun T h6 w locs P K6 hq => ?_
  obtain ⟨rfl, d, hd, B⟩ := hq
  have hld : h.size ≤ d := Nat.le_trans (Nat.le_trans hlb (Nat.le_of_lt (B5.2.2.2.lt))) hd
  refine g_run P 60 rfl ?_
  refine g_vVw P (c_add hw P.hE (r := 12) (lo := rc) (hi := rd) B (Nat.le_of_ble_eq_true rfl) (Nat.le_trans hZh la) (Nat.le_trans hZh hld)) B.1 (hw 93 _ rfl) (hw 38 _ rfl) (hw 40 _ rfl) (hw 39 _ rfl) (hw 28 _ rfl) (hw 41 _ rfl) pd_9 (fun x q => by rcases List.mem_cons.mp q with rfl | q; exact Or.inr la; cases List.mem_singleton.mp q; exact Or.inr hld) (fun _ _ => trivial) fun T h7 w locs P K7 hq => ?_
  obtain ⟨rfl, B⟩ := hq
  rw [List.append_assoc] at B
  refine g_run P 60 rfl ?_
  refine g_vV P (c_bld hw P.hE B (Nat.le_of_ble_eq_true rfl) (Nat.le_of_ble_eq_true rfl) (by decide) hok) B.1 (hw 99 _ rfl) (hw 45 _ rfl) (hw 47 _ rfl) (hw 46 _ rfl) (hw 28 _ rfl) (hw 48 _ rfl) pd_8 fun T h8 w locs P E8 hq => ?_
  obtain ⟨t2, q2, zs2, rfl, -, -, hp2, hs2, -, C2⟩ := hq
  obtain ⟨pm, so⟩ := sort_dec hok hp2 hs2
  obtain ⟨gd, cv⟩ := mgA_spec (ok_perm pm hok) so
  have hl2 : (mgA (zs2.map dec)).length ≤ 20 := by have := mgA_len (zs2.map dec); rw [pm.length_eq] at this; exact Nat.le_trans this (Nat.le_of_ble_eq_true rfl)
  have hcv : ∀ x : Int32, Cov (mgA (zs2.map dec)) x.toInt ↔ Exp x ra rb rc rd := fun x => (cv x.toInt).trans ((cov_perm pm x.toInt).trans (all_cov x ra rb rc rd))
  refine g_run P 60 rfl ?_
  refine g_sV P (c_prb hw P.hE) (hw 101 _ rfl) (hw 102 _ rfl) (hw 2 _ rfl) (hw 103 _ rfl) pd_13 fun T h' w locs P _ hq => ?_
  obtain ⟨⟨sp, rfl⟩, rfl⟩ := hq
  refine g_run P 60 rfl ?_
  refine g_sV P (c_prb hw P.hE) (hw 101 _ rfl) (hw 102 _ rfl) (hw 2 _ rfl) (hw 103 _ rfl) pd_13 fun T h' w locs P _ hq => ?_
  obtain ⟨⟨tp, rfl⟩, rfl⟩ := hq
  refine g_run P 60 rfl ?_
  refine g_vV P (c_con hw P.hE (x := sp) C2 gd hl2) C2.1 (hw 104 _ rfl) (hw 105 _ rfl) (hw 107 _ rfl) (hw 106 _ rfl) (hw 24 _ rfl) (hw 108 _ rfl) pd_14 fun T h' w locs P _ hq => ?_
  obtain ⟨rfl, rfl⟩ := hq
  refine g_run P 60 rfl ?_
  refine g_vV P (c_con hw P.hE (x := tp) C2 gd hl2) C2.1 (hw 104 _ rfl) (hw 105 _ rfl) (hw 107 _ rfl) (hw 106 _ rfl) (hw 24 _ rfl) (hw 108 _ rfl) pd_14 fun T h' w locs P _ hq => ?_
  obtain ⟨rfl, rfl⟩ := hq
  refine g_run P 60 rfl ?_
  refine g_ac P rfl rfl rfl (fun hq => absurd hq (by simp [XT.acmp])) (fun hq => ?_)
  refine g_run P 60 rfl ?_
  refine g_ac P rfl rfl rfl (fun hq => absurd hq (by simp [XT.acmp])) (fun hq => ?_)
  refine g_run P 60 rfl ?_
  refine g_sV P (c_exq hw P.hE (x := sp) (a := ra) (b := rb) (c := rc) (d := rd)) (hw 109 _ rfl) (hw 110 _ rfl) (hw 2 _ rfl) (hw 111 _ rfl) pd_15 fun T h' w locs P _ hq => ?_
  obtain ⟨rfl, rfl⟩ := hq
  refine g_ic P rfl (fun hc => absurd (ite_iff (hcv sp)) hc) (fun hc => ?_)
  refine g_run P 60 rfl ?_
  refine g_sV P (c_exq hw P.hE (x := tp) (a := ra) (b := rb) (c := rc) (d := rd)) (hw 109 _ rfl) (hw 110 _ rfl) (hw 2 _ rfl) (hw 111 _ rfl) pd_15 fun T h' w locs P _ hq => ?_
  obtain ⟨rfl, rfl⟩ := hq
  refine g_ic P rfl (fun hc => absurd (ite_iff (hcv tp)) hc) (fun hc => ?_)
  refine g_run P 60 rfl ?_
  exact g_iret P rfl
end Walks

end Jvm.Pilot.@@N@@
namespace Jvm.Pilot.@@N@@
open Jvm Jvm.ClassFile Sem Op Lib Jvm.Free Jvm.Stand Jvm.LawKit Jvm.RoadKit Bundle Jvm.Own Jvm.Pilot.@@N@@.Jvm.D

theorem args_n {args : Array Value} (hs : args.size = 6) : ∃ w0 w1 w2 w3 w4 w5 : Value, args = #[w0, w1, w2, w3, w4, w5] := by
  obtain ⟨L⟩ := args
  match L, hs with
  | [w0, w1, w2, w3, w4, w5], _ => exact ⟨w0, w1, w2, w3, w4, w5, rfl⟩
set_option maxHeartbeats 40000000 in
theorem comes_1 {Post : Tables → Env → Array Value → State → Outcome → State → Prop} (hpost : ∀ tb e args s v u, (limb_1_1.after args s (.returned v) u = true ∧ limb_1_2.after args s (.returned v) u = true ∧ True) → FrameEnd s (.returned v) u (Jvm.fieldLocs frame_1_writes args s ++ Jvm.arrayLocs frame_1_arrays args s ++ Jvm.staticLocs frame_1_statics s) 40 448 → Post tb e args s (.returned v) u) :
    ArmFor flags0 classFile x code maxLocals ret World_1 tables_1 room_1 Calls_1 rest_1 Pre_1 Post := by
  intro l hfl _ _ p e ha hc hk s m args below hf hA hF happ hP
  obtain ⟨hcalls, hrest, hpre⟩ := hP
  obtain ⟨-, -, -, hnamed, -, -, -, hat⟩ := (Spec.applies_iff hf).mp happ
  obtain ⟨hg, hn⟩ := and_e (Cond.before_iff.mp (show (Jvm.Cond.and given_1 narrow_1).before args s = true from hpre))
  obtain ⟨hcount, hg⟩ := and_e hg
  obtain ⟨w0, w1, w2, w3, w4, w5, rfl⟩ := args_n (args := args) (by simpa [Cond.value, given_1] using hcount)
  have hw : HW _ s := fun i d hd => atoms_spec (ws := Jvm.Cond.code x code maxLocals ret :: tables_1) hat d (List.mem_cons_of_mem _ (List.mem_of_getElem? hd))
  have hfit : Fit s := fun {y c} hc i hi => by
    obtain ⟨ha, rfl⟩ := Array.getElem?_eq_some_iff.mp hc
    have q := List.all_eq_true.mp ((Array.all_eq_true_iff_forall_mem.mp hF) _ (Array.getElem_mem ha)) i (List.mem_range.mpr hi)
    simpa [Array.getElem?_eq_getElem hi] using q
  obtain ⟨g0, hg⟩ := and_e hg
  obtain ⟨x0, e0⟩ := is_v g0
  obtain rfl : w0 = (.int x0) := Option.some.inj e0
  obtain ⟨g1, hg⟩ := and_e hg
  obtain ⟨x1, e1⟩ := is_v g1
  obtain rfl : w1 = (.int x1) := Option.some.inj e1
  obtain ⟨g2, hg⟩ := and_e hg
  obtain ⟨x2, e2⟩ := is_v g2
  obtain rfl : w2 = (.int x2) := Option.some.inj e2
  obtain ⟨g3, hg⟩ := and_e hg
  obtain ⟨x3, e3⟩ := is_v g3
  obtain rfl : w3 = (.int x3) := Option.some.inj e3
  obtain ⟨g4, hg⟩ := and_e hg
  obtain ⟨x4, e4⟩ := is_v g4
  obtain rfl : w4 = (.int x4) := Option.some.inj e4
  obtain ⟨x5, e5⟩ := is_v hg
  obtain rfl : w5 = (.int x5) := Option.some.inj e5
  obtain ⟨n, o, h1, h2, h3, v, Lc, rfl, ⟨xv, rfl, rfl⟩, -, N, hq⟩ := c_law (l := l) (Z := s) (h := s.heap) hw  rfl x0 x1 x2 x3 x4 x5 p e ha hc hk s m _ below hf ((Spec.applies_iff_loose hf).mp happ).1 ⟨rfl, State.Warmed39.refl s, rfl, trivial⟩ trivial
  exact ⟨n, _, h1, h2, h3, hpost _ _ _ _ _ _ ⟨Cond.after_iff.mpr rfl, Cond.after_iff.mpr (eq_i res_at (Term.int_eval (1)) rfl), trivial⟩ ⟨hq.1, hq.2.1, (hq.2.2.sift (fun y hy => Or.inr ((N y hy).resolve_left (fun q => nomatch q))))⟩⟩
theorem main_1_1 : Claimed_1_1 := comes_1 fun _ _ _ _ _ _ h hF => ⟨h.1, hF⟩
theorem main_1_2 : Claimed_1_2 := comes_1 fun _ _ _ _ _ _ h hF => ⟨h.2.1, hF⟩

end Jvm.Pilot.@@N@@
namespace Jvm.Pilot.@@N@@
open Jvm Jvm.ClassFile Sem Op Lib Jvm.Free Jvm.Stand Jvm.Pilot.@@N@@.Jvm.D
/-! MADE BY PROGRAM (witnessworld.py) out of the Statement's table words and the real class files: 16 classes; the members and pool entries that the words name. The judged class is class 1, her method 4. -/
namespace start1
open Jvm.ClassFile
def u (s : String) : CpInfo := .utf8 (stringToUtf16 s)
/-- a pool by its gaps: so many unusable entries, then the entry; so many at the end -/
def gap : Nat → List CpInfo → List CpInfo
  | 0, r => r
  | n + 1, r => .unusable :: gap n r
def poolList (es : List (Nat × CpInfo)) (last : Nat) : List CpInfo := es.foldr (fun e r => gap e.1 (e.2 :: r)) (gap last [])
def pool (es : List (Nat × CpInfo)) (last : Nat) : Array CpInfo := ⟨poolList es last⟩
def fileOf (pool : Array CpInfo) (this : Nat) (attrs : Array Attribute := #[]) (ms : Array MethodInfo := #[]) (fl : Nat := 33) (sup : Nat := 0) (ifs : Array Nat := #[]) (fds : Array FieldInfo := #[]) : ClassFile where
  minorVersion := 0
  majorVersion := 65
  constantPool := pool
  accessFlags := fl
  thisClass := this
  superClass := sup
  interfaces := ifs
  fields := fds
  methods := ms
  attributes := attrs
def plain (name : String) (sup : Option ClassId) : Class where
  name := name
  kind := .ordinary
  loader := none
  accessFlags := 33
  super := sup
  interfaces := #[]
  cf := none
  fields := #[]
  methods := #[]
  instanceTypes := #[]
  staticTypes := #[]
  resolved := #[]
  callSites := []
  init := .initialized
  statics := none
  mirror := none

def pool0 : Array CpInfo := pool [(5, u "<init>"), (0, u "()V"), (1, .class_ 10), (1, u "java/lang/Object"), (85, u "clone"), (0, u "()Ljava/lang/Object;")] 26

def k0c0 : Code := { maxStack := 0, maxLocals := 1, code := object_method_1_code, exceptionTable := #[], attributes := #[] }
def k0m0 : Method := { name := "<init>", desc := "()V", sig := { parameters := [], returnType := none }, accessFlags := 1, code := some k0c0 }
def k0m1 : Method := { name := "clone", desc := "()Ljava/lang/Object;", sig := { parameters := [], returnType := some (.object "java/lang/Object") }, accessFlags := 260, code := none }
/-- java/lang/Object -/
def k0 : Class := { plain "java/lang/Object" none with
  accessFlags := 33
  interfaces := #[]
  cf := some (fileOf pool0 8 #[] #[{ accessFlags := 1, nameIndex := 5, descriptorIndex := 6, attributes := #[] }, { accessFlags := 260, nameIndex := 96, descriptorIndex := 97, attributes := #[] }] 33 0 #[] #[])
  fields := #[]
  methods := #[k0m0, k0m1]
  instanceTypes := #[]
  staticTypes := #[]
  resolved := Array.replicate 124 none
  statics := none }

def pool1 : Array CpInfo := pool [(2, .class_ 4), (0, .nameAndType 5 6), (0, u "java/lang/Object"), (0, u "<init>"), (0, u "()V"), (0, .integer 2147483647), (0, .integer 1114112), (0, .integer 1048576), (0, .integer 1114111), (0, .integer 1048590), (0, .methodref 13 14), (0, .class_ 15), (0, .nameAndType 16 17), (0, u "com/example/fanout/fanout/BuilderAddPinLaw"), (0, u "cp"), (0, u "(I)I"), (0, .methodref 19 20), (0, .class_ 21), (0, .nameAndType 22 23), (0, u "java/lang/Math"), (0, u "min"), (0, u "(II)I"), (0, .methodref 19 25), (0, .nameAndType 26 23), (0, u "max"), (0, .integer 1048578), (0, .integer 1048580), (0, .integer 1048582), (0, .integer 1048584), (0, .integer 1048586), (0, .integer 1048588), (0, .methodref 34 35), (0, .class_ 36), (0, .nameAndType 37 38), (0, u "com/example/fanout/fanout/CodePointSet"), (0, u "of"), (0, u "([I)Lcom/example/fanout/fanout/CodePointSet;"), (0, .class_ 40), (0, u "com/example/fanout/fanout/CodePointSet$Builder"), (0, .methodref 39 3), (0, .methodref 39 43), (0, .nameAndType 44 45), (0, u "add"), (0, u "(Lcom/example/fanout/fanout/CodePointSet;)Lcom/example/fanout/fanout/CodePointSet$Builder;"), (0, .methodref 39 47), (0, .nameAndType 44 48), (0, u "(II)Lcom/example/fanout/fanout/CodePointSet$Builder;"), (0, .methodref 39 50), (0, .nameAndType 51 52), (0, u "build"), (0, u "()Lcom/example/fanout/fanout/CodePointSet;"), (0, .methodref 13 54), (0, .nameAndType 55 56), (0, u "probe"), (0, u "(IIIII)I"), (0, .methodref 34 58), (0, .nameAndType 59 60), (0, u "contains"), (0, u "(I)Z"), (0, .methodref 13 62), (0, .nameAndType 63 64), (0, u "expected"), (0, u "(IIIII)Z"), (3, u "law"), (0, u "(IIIIII)Z")] 4

def k1m0 : Method := { name := "<init>", desc := "()V", sig := { parameters := [], returnType := none }, accessFlags := 1, code := none }
def k1c1 : Code := { maxStack := 2, maxLocals := 1, code := method_2_code, exceptionTable := #[], attributes := #[] }
def k1m1 : Method := { name := "cp", desc := "(I)I", sig := { parameters := [.int], returnType := some .int }, accessFlags := 10, code := some k1c1 }
def k1c2 : Code := { maxStack := 3, maxLocals := 8, code := method_3_code, exceptionTable := #[], attributes := #[] }
def k1m2 : Method := { name := "probe", desc := "(IIIII)I", sig := { parameters := [.int, .int, .int, .int, .int], returnType := some .int }, accessFlags := 10, code := some k1c2 }
def k1c3 : Code := { maxStack := 2, maxLocals := 6, code := method_4_code, exceptionTable := #[], attributes := #[] }
def k1m3 : Method := { name := "expected", desc := "(IIIII)Z", sig := { parameters := [.int, .int, .int, .int, .int], returnType := some .boolean }, accessFlags := 10, code := some k1c3 }
def k1c4 : Code := { maxStack := 6, maxLocals := 23, code := code, exceptionTable := #[], attributes := #[] }
def k1m4 : Method := { name := "law", desc := "(IIIIII)Z", sig := { parameters := [.int, .int, .int, .int, .int, .int], returnType := some .boolean }, accessFlags := 9, code := some k1c4 }
/-- com/example/fanout/fanout/BuilderAddPinLaw -/
def k1 : Class := { plain "com/example/fanout/fanout/BuilderAddPinLaw" (some 0) with
  accessFlags := 49
  interfaces := #[]
  cf := some (fileOf pool1 13 #[] #[{ accessFlags := 1, nameIndex := 5, descriptorIndex := 6, attributes := #[] }, { accessFlags := 10, nameIndex := 16, descriptorIndex := 17, attributes := #[] }, { accessFlags := 10, nameIndex := 55, descriptorIndex := 56, attributes := #[] }, { accessFlags := 10, nameIndex := 63, descriptorIndex := 64, attributes := #[] }, { accessFlags := 9, nameIndex := 68, descriptorIndex := 69, attributes := #[] }] 49 2 #[] #[])
  fields := #[]
  methods := #[k1m0, k1m1, k1m2, k1m3, k1m4]
  instanceTypes := #[]
  staticTypes := #[]
  resolved := Array.replicate 74 none
  statics := none }

def pool2 : Array CpInfo := pool [(1, .class_ 2), (0, u "java/lang/Math"), (1, .class_ 6), (1, u "java/lang/Object"), (0, u "<init>"), (0, u "()V"), (89, .class_ 100), (1, u "java/lang/Math$RandomNumberGeneratorHolder"), (71, u "negativeZeroFloatBits"), (0, u "J"), (2, u "negativeZeroDoubleBits"), (21, u "max"), (2, u "min"), (43, u "$assertionsDisabled"), (0, u "Z"), (88, u "(II)I"), (2, u "twoToTheDoubleScaleDown"), (0, u "D"), (4, u "twoToTheDoubleScaleUp"), (9, u "E"), (3, u "PI"), (2, u "TAU"), (2, u "DEGREES_TO_RADIANS"), (0, u "RADIANS_TO_DEGREES")] 94

def k2m0 : Method := { name := "<init>", desc := "()V", sig := { parameters := [], returnType := none }, accessFlags := 2, code := none }
def k2c1 : Code := { maxStack := 2, maxLocals := 2, code := jdk_29_method_65_code, exceptionTable := #[], attributes := #[] }
def k2m1 : Method := { name := "max", desc := "(II)I", sig := { parameters := [.int, .int], returnType := some .int }, accessFlags := 9, code := some k2c1 }
def k2c2 : Code := { maxStack := 2, maxLocals := 2, code := jdk_29_method_69_code, exceptionTable := #[], attributes := #[] }
def k2m2 : Method := { name := "min", desc := "(II)I", sig := { parameters := [.int, .int], returnType := some .int }, accessFlags := 9, code := some k2c2 }
/-- java/lang/Math -/
def k2 : Class := { plain "java/lang/Math" (some 0) with
  accessFlags := 49
  interfaces := #[]
  cf := some (fileOf pool2 1 #[.nestMembers #[98]] #[{ accessFlags := 2, nameIndex := 7, descriptorIndex := 8, attributes := #[] }, { accessFlags := 9, nameIndex := 198, descriptorIndex := 335, attributes := #[] }, { accessFlags := 9, nameIndex := 201, descriptorIndex := 335, attributes := #[] }] 49 4 #[] #[{ accessFlags := 25, nameIndex := 354, descriptorIndex := 339, attributes := #[] }, { accessFlags := 25, nameIndex := 358, descriptorIndex := 339, attributes := #[] }, { accessFlags := 25, nameIndex := 361, descriptorIndex := 339, attributes := #[] }, { accessFlags := 26, nameIndex := 364, descriptorIndex := 339, attributes := #[] }, { accessFlags := 26, nameIndex := 365, descriptorIndex := 339, attributes := #[] }, { accessFlags := 26, nameIndex := 172, descriptorIndex := 173, attributes := #[] }, { accessFlags := 26, nameIndex := 176, descriptorIndex := 173, attributes := #[] }, { accessFlags := 8, nameIndex := 344, descriptorIndex := 339, attributes := #[] }, { accessFlags := 8, nameIndex := 338, descriptorIndex := 339, attributes := #[] }, { accessFlags := 4120, nameIndex := 245, descriptorIndex := 246, attributes := #[] }])
  fields := #[{ name := "E", type := .double, accessFlags := 25, slot := 0, constantValue := 0 }, { name := "PI", type := .double, accessFlags := 25, slot := 1, constantValue := 0 }, { name := "TAU", type := .double, accessFlags := 25, slot := 2, constantValue := 0 }, { name := "DEGREES_TO_RADIANS", type := .double, accessFlags := 26, slot := 3, constantValue := 0 }, { name := "RADIANS_TO_DEGREES", type := .double, accessFlags := 26, slot := 4, constantValue := 0 }, { name := "negativeZeroFloatBits", type := .long, accessFlags := 26, slot := 5, constantValue := 0 }, { name := "negativeZeroDoubleBits", type := .long, accessFlags := 26, slot := 6, constantValue := 0 }, { name := "twoToTheDoubleScaleUp", type := .double, accessFlags := 8, slot := 7, constantValue := 0 }, { name := "twoToTheDoubleScaleDown", type := .double, accessFlags := 8, slot := 8, constantValue := 0 }, { name := "$assertionsDisabled", type := .boolean, accessFlags := 4120, slot := 9, constantValue := 0 }]
  methods := #[k2m0, k2m1, k2m2]
  instanceTypes := #[]
  staticTypes := #[.double, .double, .double, .double, .double, .long, .long, .double, .double, .boolean]
  resolved := Array.replicate 460 none
  statics := none }

def pool3 : Array CpInfo := pool [(3, .methodref 4 5), (0, .class_ 6), (0, .nameAndType 7 8), (0, u "java/lang/Object"), (0, u "<init>"), (0, u "()V"), (0, .fieldref 10 11), (0, .class_ 12), (0, .nameAndType 13 14), (0, u "com/example/fanout/fanout/CodePointSet"), (0, u "bounds"), (0, u "[I"), (0, .class_ 16), (0, u "com/example/fanout/fanout/CodePointSet$Builder"), (0, .methodref 15 5), (0, .methodref 15 19), (0, .nameAndType 20 21), (0, u "add"), (0, u "(II)Lcom/example/fanout/fanout/CodePointSet$Builder;"), (0, .methodref 15 23), (0, .nameAndType 24 25), (0, u "build"), (0, u "()Lcom/example/fanout/fanout/CodePointSet;"), (1, u "LAST"), (0, u "I"), (1, u "([I)V"), (2, u "of"), (0, u "([I)Lcom/example/fanout/fanout/CodePointSet;"), (1, u "contains"), (0, u "(I)Z")] 6

def k3c0 : Code := { maxStack := 2, maxLocals := 2, code := prog_5_method_1_code, exceptionTable := #[], attributes := #[] }
def k3m0 : Method := { name := "<init>", desc := "([I)V", sig := { parameters := [(.array .int)], returnType := none }, accessFlags := 2, code := some k3c0 }
def k3c1 : Code := { maxStack := 5, maxLocals := 3, code := prog_5_method_2_code, exceptionTable := #[], attributes := #[] }
def k3m1 : Method := { name := "of", desc := "([I)Lcom/example/fanout/fanout/CodePointSet;", sig := { parameters := [(.array .int)], returnType := some (.object "com/example/fanout/fanout/CodePointSet") }, accessFlags := 136, code := some k3c1 }
def k3c2 : Code := { maxStack := 4, maxLocals := 5, code := prog_5_method_3_code, exceptionTable := #[], attributes := #[] }
def k3m2 : Method := { name := "contains", desc := "(I)Z", sig := { parameters := [.int], returnType := some .boolean }, accessFlags := 0, code := some k3c2 }
/-- com/example/fanout/fanout/CodePointSet -/
def k3 : Class := { plain "com/example/fanout/fanout/CodePointSet" (some 0) with
  accessFlags := 32
  interfaces := #[]
  cf := some (fileOf pool3 10 #[.nestMembers #[15]] #[{ accessFlags := 2, nameIndex := 7, descriptorIndex := 30, attributes := #[] }, { accessFlags := 136, nameIndex := 33, descriptorIndex := 34, attributes := #[] }, { accessFlags := 0, nameIndex := 36, descriptorIndex := 37, attributes := #[] }] 32 4 #[] #[{ accessFlags := 24, nameIndex := 27, descriptorIndex := 28, attributes := #[] }, { accessFlags := 18, nameIndex := 13, descriptorIndex := 14, attributes := #[] }])
  fields := #[{ name := "LAST", type := .int, accessFlags := 24, slot := 0, constantValue := 0 }, { name := "bounds", type := (.array .int), accessFlags := 18, slot := 0, constantValue := 0 }]
  methods := #[k3m0, k3m1, k3m2]
  instanceTypes := #[(.array .int)]
  staticTypes := #[.int]
  resolved := Array.replicate 44 none
  statics := none }

def pool4 : Array CpInfo := pool [(1, .methodref 2 3), (0, .class_ 4), (0, .nameAndType 5 6), (0, u "java/lang/Object"), (0, u "<init>"), (0, u "()V"), (0, .fieldref 8 9), (0, .class_ 10), (0, .nameAndType 11 12), (0, u "com/example/fanout/fanout/CodePointSet$Builder"), (0, u "bounds"), (0, u "[I"), (0, .fieldref 8 14), (0, .nameAndType 15 16), (0, u "size"), (0, u "I"), (0, .methodref 18 19), (0, .class_ 20), (0, .nameAndType 21 22), (0, u "java/util/Arrays"), (0, u "copyOf"), (0, u "([II)[I"), (0, .fieldref 24 9), (0, .class_ 25), (0, u "com/example/fanout/fanout/CodePointSet"), (0, .methodref 8 27), (0, .nameAndType 28 29), (0, u "add"), (0, u "(II)Lcom/example/fanout/fanout/CodePointSet$Builder;"), (0, .methodref 18 31), (0, .nameAndType 32 33), (0, u "sort"), (0, u "([J)V"), (0, .methodref 35 36), (0, .class_ 37), (0, .nameAndType 38 39), (0, u "java/lang/Math"), (0, u "max"), (0, u "(II)I"), (0, .methodref 24 41), (0, .nameAndType 5 42), (0, u "([I)V"), (3, u "(Lcom/example/fanout/fanout/CodePointSet;)Lcom/example/fanout/fanout/CodePointSet$Builder;"), (0, u "build"), (0, u "()Lcom/example/fanout/fanout/CodePointSet;")] 8

def k4c0 : Code := { maxStack := 2, maxLocals := 1, code := prog_6_method_1_code, exceptionTable := #[], attributes := #[] }
def k4m0 : Method := { name := "<init>", desc := "()V", sig := { parameters := [], returnType := none }, accessFlags := 0, code := some k4c0 }
def k4c1 : Code := { maxStack := 5, maxLocals := 3, code := prog_6_method_2_code, exceptionTable := #[], attributes := #[] }
def k4m1 : Method := { name := "add", desc := "(II)Lcom/example/fanout/fanout/CodePointSet$Builder;", sig := { parameters := [.int, .int], returnType := some (.object "com/example/fanout/fanout/CodePointSet$Builder") }, accessFlags := 0, code := some k4c1 }
def k4c2 : Code := { maxStack := 5, maxLocals := 3, code := prog_6_method_3_code, exceptionTable := #[], attributes := #[] }
def k4m2 : Method := { name := "add", desc := "(Lcom/example/fanout/fanout/CodePointSet;)Lcom/example/fanout/fanout/CodePointSet$Builder;", sig := { parameters := [(.object "com/example/fanout/fanout/CodePointSet")], returnType := some (.object "com/example/fanout/fanout/CodePointSet$Builder") }, accessFlags := 0, code := some k4c2 }
def k4c3 : Code := { maxStack := 7, maxLocals := 11, code := prog_6_method_4_code, exceptionTable := #[], attributes := #[] }
def k4m3 : Method := { name := "build", desc := "()Lcom/example/fanout/fanout/CodePointSet;", sig := { parameters := [], returnType := some (.object "com/example/fanout/fanout/CodePointSet") }, accessFlags := 0, code := some k4c3 }
/-- com/example/fanout/fanout/CodePointSet$Builder -/
def k4 : Class := { plain "com/example/fanout/fanout/CodePointSet$Builder" (some 0) with
  accessFlags := 32
  interfaces := #[]
  cf := some (fileOf pool4 8 #[.nestHost 24] #[{ accessFlags := 0, nameIndex := 5, descriptorIndex := 6, attributes := #[] }, { accessFlags := 0, nameIndex := 28, descriptorIndex := 29, attributes := #[] }, { accessFlags := 0, nameIndex := 28, descriptorIndex := 46, attributes := #[] }, { accessFlags := 0, nameIndex := 47, descriptorIndex := 48, attributes := #[] }] 32 2 #[] #[{ accessFlags := 2, nameIndex := 11, descriptorIndex := 12, attributes := #[] }, { accessFlags := 2, nameIndex := 15, descriptorIndex := 16, attributes := #[] }])
  fields := #[{ name := "bounds", type := (.array .int), accessFlags := 2, slot := 0, constantValue := 0 }, { name := "size", type := .int, accessFlags := 2, slot := 1, constantValue := 0 }]
  methods := #[k4m0, k4m1, k4m2, k4m3]
  instanceTypes := #[(.array .int), .int]
  staticTypes := #[]
  resolved := Array.replicate 57 none
  statics := none }

def pool5 : Array CpInfo := pool [(2, .class_ 4), (1, u "java/lang/Object"), (0, u "<init>"), (0, u "()V"), (1, .class_ 10), (1, u "java/util/DualPivotQuicksort"), (0, u "sort"), (2, .class_ 16), (1, u "java/util/Arrays"), (2, .methodref 8 20), (0, .nameAndType 11 21), (0, u "([JIII)V"), (52, .class_ 76), (1, u "java/util/Arrays$NaturalOrder"), (32, u "()Ljava/lang/Object;"), (3, .class_ 115), (1, u "java/util/Arrays$LegacyMergeSort"), (1, u "Z"), (10, .nameAndType 129 109), (0, u "clone"), (20, .methodref 151 152), (0, .class_ 153), (0, .nameAndType 154 155), (0, u "java/lang/System"), (0, u "arraycopy"), (0, u "(Ljava/lang/Object;ILjava/lang/Object;II)V"), (146, u "copyOf"), (1, .methodref 305 306), (0, .class_ 307), (0, .nameAndType 308 309), (0, u "java/lang/Math"), (0, u "min"), (0, u "(II)I"), (6, .methodref 317 128), (0, .class_ 318), (0, u "[I"), (56, .class_ 376), (0, u "java/util/Arrays$ArrayList"), (68, u "$assertionsDisabled"), (269, u "MIN_ARRAY_SORT_GRAN"), (0, u "I"), (2, u "INSERTIONSORT_THRESHOLD"), (11, u "([J)V"), (139, u "([II)[I"), (103, .class_ 976), (0, u "java/util/Arrays$ArrayItr")] 52

def k5m0 : Method := { name := "<init>", desc := "()V", sig := { parameters := [], returnType := none }, accessFlags := 2, code := none }
def k5c1 : Code := { maxStack := 4, maxLocals := 1, code := jdk_65_method_4_code, exceptionTable := #[], attributes := #[] }
def k5m1 : Method := { name := "sort", desc := "([J)V", sig := { parameters := [(.array .long)], returnType := none }, accessFlags := 9, code := some k5c1 }
def k5c2 : Code := { maxStack := 6, maxLocals := 3, code := jdk_65_method_123_code, exceptionTable := #[], attributes := #[] }
def k5m2 : Method := { name := "copyOf", desc := "([II)[I", sig := { parameters := [(.array .int), .int], returnType := some (.array .int) }, accessFlags := 9, code := some k5c2 }
/-- java/util/Arrays -/
def k5 : Class := { plain "java/util/Arrays" (some 0) with
  accessFlags := 49
  interfaces := #[]
  cf := some (fileOf pool5 14 #[.nestMembers #[975, 375, 113, 74]] #[{ accessFlags := 2, nameIndex := 5, descriptorIndex := 6, attributes := #[] }, { accessFlags := 9, nameIndex := 11, descriptorIndex := 731, attributes := #[] }, { accessFlags := 9, nameIndex := 302, descriptorIndex := 871, attributes := #[] }] 49 2 #[] #[{ accessFlags := 26, nameIndex := 715, descriptorIndex := 716, attributes := #[] }, { accessFlags := 26, nameIndex := 719, descriptorIndex := 716, attributes := #[] }, { accessFlags := 4120, nameIndex := 445, descriptorIndex := 117, attributes := #[] }])
  fields := #[{ name := "MIN_ARRAY_SORT_GRAN", type := .int, accessFlags := 26, slot := 0, constantValue := 0 }, { name := "INSERTIONSORT_THRESHOLD", type := .int, accessFlags := 26, slot := 1, constantValue := 0 }, { name := "$assertionsDisabled", type := .boolean, accessFlags := 4120, slot := 2, constantValue := 0 }]
  methods := #[k5m0, k5m1, k5m2]
  instanceTypes := #[]
  staticTypes := #[.int, .int, .boolean]
  resolved := Array.replicate 1029 none
  statics := none }

def pool6 : Array CpInfo := pool [(1, .class_ 2), (0, u "java/util/DualPivotQuicksort"), (5, .class_ 10), (1, u "java/lang/Object"), (0, u "<init>"), (0, u "()V"), (4, .class_ 18), (0, u "java/util/DualPivotQuicksort$Sorter"), (9, u "sort"), (7, u "insertionSort"), (31, u "I"), (4, .class_ 74), (0, u "java/util/DualPivotQuicksort$RunMerger"), (10, .class_ 86), (0, u "java/util/DualPivotQuicksort$Merger"), (12, .methodref 1 100), (0, .nameAndType 28 101), (0, u "(Ljava/util/DualPivotQuicksort$Sorter;[JIII)V"), (2, u "([JIII)V"), (0, .methodref 1 106), (0, .nameAndType 36 107), (0, u "([JII)V"), (106, u "MAX_MIXED_INSERTION_SORT_SIZE"), (2, u "MAX_INSERTION_SORT_SIZE"), (1, u "MIN_PARALLEL_SORT_SIZE"), (1, u "MIN_TRY_MERGE_SIZE"), (0, u "MIN_FIRST_RUN_SIZE"), (1, u "MIN_FIRST_RUNS_FACTOR"), (1, u "MAX_RUN_CAPACITY"), (1, u "MIN_RUN_COUNT"), (1, u "MIN_PARALLEL_MERGE_PARTS_SIZE"), (0, u "MIN_BYTE_COUNTING_SORT_SIZE"), (1, u "MIN_SHORT_OR_CHAR_COUNTING_SORT_SIZE"), (1, u "DELTA"), (1, u "MAX_RECURSION_DEPTH"), (1, u "NUM_BYTE_VALUES"), (1, u "MAX_BYTE_INDEX"), (0, u "NUM_CHAR_VALUES"), (0, u "NUM_SHORT_VALUES"), (0, u "MAX_SHORT_INDEX")] 86

def k6m0 : Method := { name := "<init>", desc := "()V", sig := { parameters := [], returnType := none }, accessFlags := 2, code := none }
def k6c1 : Code := { maxStack := 9, maxLocals := 7, code := jdk_2529_method_12_code, exceptionTable := #[], attributes := #[] }
def k6m1 : Method := { name := "sort", desc := "([JIII)V", sig := { parameters := [(.array .long), .int, .int, .int], returnType := none }, accessFlags := 8, code := some k6c1 }
def k6c2 : Code := { maxStack := 6, maxLocals := 25, code := jdk_2529_method_13_code, exceptionTable := #[], attributes := #[] }
def k6m2 : Method := { name := "sort", desc := "(Ljava/util/DualPivotQuicksort$Sorter;[JIII)V", sig := { parameters := [(.object "java/util/DualPivotQuicksort$Sorter"), (.array .long), .int, .int, .int], returnType := none }, accessFlags := 8, code := some k6c2 }
def k6c3 : Code := { maxStack := 5, maxLocals := 7, code := jdk_2529_method_15_code, exceptionTable := #[], attributes := #[] }
def k6m3 : Method := { name := "insertionSort", desc := "([JII)V", sig := { parameters := [(.array .long), .int, .int], returnType := none }, accessFlags := 10, code := some k6c3 }
/-- java/util/DualPivotQuicksort -/
def k6 : Class := { plain "java/util/DualPivotQuicksort" (some 0) with
  accessFlags := 48
  interfaces := #[]
  cf := some (fileOf pool6 1 #[.nestMembers #[73, 85, 17]] #[{ accessFlags := 2, nameIndex := 11, descriptorIndex := 12, attributes := #[] }, { accessFlags := 8, nameIndex := 28, descriptorIndex := 104, attributes := #[] }, { accessFlags := 8, nameIndex := 28, descriptorIndex := 101, attributes := #[] }, { accessFlags := 10, nameIndex := 36, descriptorIndex := 107, attributes := #[] }] 48 8 #[] #[{ accessFlags := 26, nameIndex := 214, descriptorIndex := 68, attributes := #[] }, { accessFlags := 26, nameIndex := 217, descriptorIndex := 68, attributes := #[] }, { accessFlags := 26, nameIndex := 219, descriptorIndex := 68, attributes := #[] }, { accessFlags := 26, nameIndex := 221, descriptorIndex := 68, attributes := #[] }, { accessFlags := 26, nameIndex := 222, descriptorIndex := 68, attributes := #[] }, { accessFlags := 26, nameIndex := 224, descriptorIndex := 68, attributes := #[] }, { accessFlags := 26, nameIndex := 226, descriptorIndex := 68, attributes := #[] }, { accessFlags := 26, nameIndex := 228, descriptorIndex := 68, attributes := #[] }, { accessFlags := 26, nameIndex := 230, descriptorIndex := 68, attributes := #[] }, { accessFlags := 26, nameIndex := 231, descriptorIndex := 68, attributes := #[] }, { accessFlags := 26, nameIndex := 233, descriptorIndex := 68, attributes := #[] }, { accessFlags := 26, nameIndex := 235, descriptorIndex := 68, attributes := #[] }, { accessFlags := 26, nameIndex := 237, descriptorIndex := 68, attributes := #[] }, { accessFlags := 26, nameIndex := 239, descriptorIndex := 68, attributes := #[] }, { accessFlags := 26, nameIndex := 241, descriptorIndex := 68, attributes := #[] }, { accessFlags := 26, nameIndex := 242, descriptorIndex := 68, attributes := #[] }, { accessFlags := 26, nameIndex := 243, descriptorIndex := 68, attributes := #[] }, { accessFlags := 26, nameIndex := 244, descriptorIndex := 68, attributes := #[] }])
  fields := #[{ name := "MAX_MIXED_INSERTION_SORT_SIZE", type := .int, accessFlags := 26, slot := 0, constantValue := 0 }, { name := "MAX_INSERTION_SORT_SIZE", type := .int, accessFlags := 26, slot := 1, constantValue := 0 }, { name := "MIN_PARALLEL_SORT_SIZE", type := .int, accessFlags := 26, slot := 2, constantValue := 0 }, { name := "MIN_TRY_MERGE_SIZE", type := .int, accessFlags := 26, slot := 3, constantValue := 0 }, { name := "MIN_FIRST_RUN_SIZE", type := .int, accessFlags := 26, slot := 4, constantValue := 0 }, { name := "MIN_FIRST_RUNS_FACTOR", type := .int, accessFlags := 26, slot := 5, constantValue := 0 }, { name := "MAX_RUN_CAPACITY", type := .int, accessFlags := 26, slot := 6, constantValue := 0 }, { name := "MIN_RUN_COUNT", type := .int, accessFlags := 26, slot := 7, constantValue := 0 }, { name := "MIN_PARALLEL_MERGE_PARTS_SIZE", type := .int, accessFlags := 26, slot := 8, constantValue := 0 }, { name := "MIN_BYTE_COUNTING_SORT_SIZE", type := .int, accessFlags := 26, slot := 9, constantValue := 0 }, { name := "MIN_SHORT_OR_CHAR_COUNTING_SORT_SIZE", type := .int, accessFlags := 26, slot := 10, constantValue := 0 }, { name := "DELTA", type := .int, accessFlags := 26, slot := 11, constantValue := 0 }, { name := "MAX_RECURSION_DEPTH", type := .int, accessFlags := 26, slot := 12, constantValue := 0 }, { name := "NUM_BYTE_VALUES", type := .int, accessFlags := 26, slot := 13, constantValue := 0 }, { name := "MAX_BYTE_INDEX", type := .int, accessFlags := 26, slot := 14, constantValue := 0 }, { name := "NUM_CHAR_VALUES", type := .int, accessFlags := 26, slot := 15, constantValue := 0 }, { name := "NUM_SHORT_VALUES", type := .int, accessFlags := 26, slot := 16, constantValue := 0 }, { name := "MAX_SHORT_INDEX", type := .int, accessFlags := 26, slot := 17, constantValue := 0 }]
  methods := #[k6m0, k6m1, k6m2, k6m3]
  instanceTypes := #[]
  staticTypes := #[.int, .int, .int, .int, .int, .int, .int, .int, .int, .int, .int, .int, .int, .int, .int, .int, .int, .int]
  resolved := Array.replicate 331 none
  statics := none }

def pool7 : Array CpInfo := pool [(1, .class_ 2), (0, u "java/lang/Cloneable"), (0, .class_ 4), (0, u "java/lang/Object")] 2

/-- java/lang/Cloneable -/
def k7 : Class := { plain "java/lang/Cloneable" (some 0) with
  accessFlags := 1537
  interfaces := #[]
  cf := some (fileOf pool7 1 #[] #[] 1537 3 #[] #[])
  fields := #[]
  methods := #[]
  instanceTypes := #[]
  staticTypes := #[]
  resolved := Array.replicate 7 none
  statics := none }

def pool8 : Array CpInfo := pool [(2, .class_ 4), (1, u "java/lang/Object"), (0, u "<init>"), (0, u "()V"), (1, .class_ 10), (1, u "java/lang/System"), (0, u "allowSecurityManager"), (0, u "I"), (16, u "cons"), (0, u "Ljava/io/Console;"), (77, .class_ 110), (1, u "java/lang/System$CallersHolder"), (43, u "initialErrStream"), (0, u "Ljava/io/PrintStream;"), (19, u "security"), (0, u "Ljava/lang/SecurityManager;"), (31, .class_ 209), (0, u "java/lang/System$1"), (7, u "props"), (0, u "Ljava/util/Properties;"), (2, u "lineSeparator"), (0, u "Ljava/lang/String;"), (96, .class_ 321), (1, u "java/lang/System$LoggerFinder"), (5, .class_ 328), (0, u "java/lang/System$Logger"), (67, u "err"), (2, u "out"), (91, u "notSupportedJnuEncoding"), (15, u "in"), (17, u "initialIn"), (0, u "Ljava/io/InputStream;"), (35, u "bootLayer"), (0, u "Ljava/lang/ModuleLayer;"), (99, .class_ 664), (0, u "java/lang/System$2"), (9, u "NEVER"), (2, u "MAYBE"), (49, u "arraycopy"), (0, u "(Ljava/lang/Object;ILjava/lang/Object;II)V"), (72, .class_ 802), (0, u "java/lang/System$Logger$Level")] 31

def k8m0 : Method := { name := "<init>", desc := "()V", sig := { parameters := [], returnType := none }, accessFlags := 2, code := none }
def k8m1 : Method := { name := "arraycopy", desc := "(Ljava/lang/Object;ILjava/lang/Object;II)V", sig := { parameters := [(.object "java/lang/Object"), .int, (.object "java/lang/Object"), .int, .int], returnType := none }, accessFlags := 265, code := none }
/-- java/lang/System -/
def k8 : Class := { plain "java/lang/System" (some 0) with
  accessFlags := 49
  interfaces := #[]
  cf := some (fileOf pool8 8 #[.nestMembers #[319, 327, 801, 108, 663, 208]] #[{ accessFlags := 2, nameIndex := 5, descriptorIndex := 6, attributes := #[] }, { accessFlags := 265, nameIndex := 727, descriptorIndex := 728, attributes := #[] }] 49 2 #[] #[{ accessFlags := 25, nameIndex := 507, descriptorIndex := 526, attributes := #[] }, { accessFlags := 25, nameIndex := 399, descriptorIndex := 155, attributes := #[] }, { accessFlags := 25, nameIndex := 396, descriptorIndex := 155, attributes := #[] }, { accessFlags := 10, nameIndex := 525, descriptorIndex := 526, attributes := #[] }, { accessFlags := 26, nameIndex := 674, descriptorIndex := 12, attributes := #[] }, { accessFlags := 26, nameIndex := 677, descriptorIndex := 12, attributes := #[] }, { accessFlags := 10, nameIndex := 11, descriptorIndex := 12, attributes := #[] }, { accessFlags := 74, nameIndex := 175, descriptorIndex := 176, attributes := #[] }, { accessFlags := 10, nameIndex := 491, descriptorIndex := 222, attributes := #[] }, { accessFlags := 74, nameIndex := 29, descriptorIndex := 30, attributes := #[] }, { accessFlags := 74, nameIndex := 154, descriptorIndex := 155, attributes := #[] }, { accessFlags := 10, nameIndex := 217, descriptorIndex := 218, attributes := #[] }, { accessFlags := 10, nameIndex := 221, descriptorIndex := 222, attributes := #[] }, { accessFlags := 8, nameIndex := 562, descriptorIndex := 563, attributes := #[] }])
  fields := #[{ name := "in", type := (.object "java/io/InputStream"), accessFlags := 25, slot := 0, constantValue := 0 }, { name := "out", type := (.object "java/io/PrintStream"), accessFlags := 25, slot := 1, constantValue := 0 }, { name := "err", type := (.object "java/io/PrintStream"), accessFlags := 25, slot := 2, constantValue := 0 }, { name := "initialIn", type := (.object "java/io/InputStream"), accessFlags := 10, slot := 3, constantValue := 0 }, { name := "NEVER", type := .int, accessFlags := 26, slot := 4, constantValue := 0 }, { name := "MAYBE", type := .int, accessFlags := 26, slot := 5, constantValue := 0 }, { name := "allowSecurityManager", type := .int, accessFlags := 10, slot := 6, constantValue := 0 }, { name := "security", type := (.object "java/lang/SecurityManager"), accessFlags := 74, slot := 7, constantValue := 0 }, { name := "notSupportedJnuEncoding", type := (.object "java/lang/String"), accessFlags := 10, slot := 8, constantValue := 0 }, { name := "cons", type := (.object "java/io/Console"), accessFlags := 74, slot := 9, constantValue := 0 }, { name := "initialErrStream", type := (.object "java/io/PrintStream"), accessFlags := 74, slot := 10, constantValue := 0 }, { name := "props", type := (.object "java/util/Properties"), accessFlags := 10, slot := 11, constantValue := 0 }, { name := "lineSeparator", type := (.object "java/lang/String"), accessFlags := 10, slot := 12, constantValue := 0 }, { name := "bootLayer", type := (.object "java/lang/ModuleLayer"), accessFlags := 8, slot := 13, constantValue := 0 }]
  methods := #[k8m0, k8m1]
  instanceTypes := #[]
  staticTypes := #[(.object "java/io/InputStream"), (.object "java/io/PrintStream"), (.object "java/io/PrintStream"), (.object "java/io/InputStream"), .int, .int, .int, (.object "java/lang/SecurityManager"), (.object "java/lang/String"), (.object "java/io/Console"), (.object "java/io/PrintStream"), (.object "java/util/Properties"), (.object "java/lang/String"), (.object "java/lang/ModuleLayer")]
  resolved := Array.replicate 834 none
  statics := none }

def pool9 : Array CpInfo := pool [(1, u "java/io/Serializable"), (0, .class_ 1), (0, u "java/lang/Object"), (0, .class_ 3)] 3

/-- java/io/Serializable -/
def k9 : Class := { plain "java/io/Serializable" (some 0) with
  accessFlags := 1537
  interfaces := #[]
  cf := some (fileOf pool9 2 #[] #[] 1537 4 #[] #[])
  fields := #[]
  methods := #[]
  instanceTypes := #[]
  staticTypes := #[]
  resolved := Array.replicate 8 none
  statics := none }

/-- the primitive byte -/
def k10 : Class := { plain "byte" none with kind := .primitive 'B', accessFlags := 0x411 }
/-- [B -/
def k11 : Class := { plain "[B" (some 0) with kind := .array 10 .byte, interfaces := #[7, 9], accessFlags := 1041 }

/-- the primitive int -/
def k12 : Class := { plain "int" none with kind := .primitive 'I', accessFlags := 0x411 }
/-- [I -/
def k13 : Class := { plain "[I" (some 0) with kind := .array 12 .int, interfaces := #[7, 9], accessFlags := 1041 }

/-- the primitive long -/
def k14 : Class := { plain "long" none with kind := .primitive 'J', accessFlags := 0x411 }
/-- [J -/
def k15 : Class := { plain "[J" (some 0) with kind := .array 14 .long, interfaces := #[7, 9], accessFlags := 1041 }

def heap : Heap := #[]
def classes : Array Class := #[k0, k1, k2, k3, k4, k5, k6, k7, k8, k9, k10, k11, k12, k13, k14, k15]
def interned : List (Array UInt16 × Addr) := []
def slotsUsed : Nat := 0
def theMethod : MethodId := ⟨1, 4⟩
def args0 : Array Value := #[.int 5, .int 5, .int 5, .int 5, .int 5, .int 5]
def aboutOver (below : List Frame) : State where
  vm := { classes := classes, interned := interned.toArray }
  heap := heap
  slotsUsed := slotsUsed
  threads := #[{ frames := .invoking theMethod args0 :: below }]
def below0 : List Frame := [.native { method := ⟨0, 0⟩, args := #[] }]
def about1 : State := aboutOver below0
def p0 : Program := .bare "" "" ""
def e0 : Env := launch0.env 0 0 0
theorem w_frames : about1.frames = Frame.invoking theMethod args0 :: below0 := rfl
set_option maxRecDepth 65536 in
theorem w_args : argsFit about1.vm theMethod args0 = true := by decide +kernel
set_option maxRecDepth 65536 in
theorem w_heap : heapFits about1 = true := by decide +kernel
set_option maxRecDepth 65536 in
theorem w_runnable : about1.curStatus? = some .runnable := by decide +kernel
set_option maxRecDepth 65536 in
theorem w_alone : about1.alone = true := by decide +kernel
set_option maxRecDepth 65536 in
theorem w_named : about1.methodNamed? x = some theMethod := by decide +kernel
set_option maxRecDepth 65536 in
theorem w_hears : about1.hears theMethod below0 = true := by decide +kernel
set_option maxRecDepth 65536 in
theorem w_ripe : about1.ripe theMethod args0 below0 = true := by decide +kernel
theorem w_running : about1.status = .running := rfl
set_option maxRecDepth 65536 in
theorem w_room : about1.hasRoom e0.platform room_1 = true :=
  launch0.hasRoom_least _ room_1 (by decide +kernel) (by decide +kernel) (by decide +kernel) (by decide +kernel) (by decide +kernel) (by decide +kernel)
theorem allAtoms_all (ts : List Jvm.Cond) (a : Array Jvm.Value) (st : Jvm.State) : (allAtoms ts).before a st = ts.all (fun c => c.before a st) := by
  induction ts with
  | nil => rfl
  | cons c t ih =>
    show (Jvm.Cond.and c (allAtoms t)).before a st = _
    rw [Jvm.Cond.before_and, ih, List.all_cons]
def words1 : List Jvm.Cond := Jvm.Cond.code x code maxLocals ret :: tables_1
/-- a 'code' word, met by the world's own term for the bytes: nothing is compared byte by byte -/
theorem code_word {y : MethodName} {bytes : ByteArray} {mx : Nat} {rt : Option FieldType} {a : Array Value} {s : State} {m : MethodId} {meth : Method} {c : Code} (h1 : s.methodNamed? y = some m) (h2 : s.vm.method? m = some meth) (h3 : meth.code = some c) (h4 : c.code = bytes)
    (h5 : (c.maxLocals == mx && c.exceptionTable.isEmpty && decide (c.maxStack ≤ mostOperands) && decide (meth.sig.returnType = rt) && !meth.locks && decide (parseMethodDescriptor y.desc = some meth.sig)) = true) : (Jvm.Cond.code y bytes mx rt).before a s = true := by
  simp only [Bool.and_eq_true, beq_iff_eq, Bool.not_eq_true', decide_eq_true_eq] at h5
  obtain ⟨⟨⟨⟨⟨g1, g2⟩, g3⟩, g4⟩, g5⟩, g6⟩ := h5
  simp [Cond.before, Cond.holds, Cond.value, h1, h2, h3, h4, g1, g2, g3, g4, g5, g6]
def isCode : Jvm.Cond → Bool
  | .code _ _ _ _ => true
  | _ => false
theorem all_split {L : List Jvm.Cond} {P : Jvm.Cond → Bool} (h1 : L.all (fun c => isCode c || P c) = true) (h2 : ∀ c ∈ L.filter isCode, P c = true) : L.all P = true := by
  refine List.all_eq_true.mpr fun c hc => ?_
  have h := List.all_eq_true.mp h1 c hc
  rcases Bool.eq_false_or_eq_true (isCode c) with hi | hi
  · exact h2 c (List.mem_filter.mpr ⟨hc, hi⟩)
  · simpa [hi] using h
set_option maxRecDepth 65536 in
theorem w_c0 : (Jvm.Cond.code x code maxLocals ret).before args0 about1 = true := code_word (m := ⟨1, 4⟩) (meth := k1m4) (c := k1c4) (by decide +kernel) rfl rfl rfl (by decide +kernel)
set_option maxRecDepth 65536 in
theorem w_c1 : (Jvm.Cond.code ({ cls := "com/example/fanout/fanout/BuilderAddPinLaw", name := "cp", desc := "(I)I" } : Jvm.MethodName) method_2_code (1 : Nat) (Option.some Jvm.ClassFile.FieldType.int)).before args0 about1 = true := code_word (m := ⟨1, 1⟩) (meth := k1m1) (c := k1c1) (by decide +kernel) rfl rfl rfl (by decide +kernel)
set_option maxRecDepth 65536 in
theorem w_c2 : (Jvm.Cond.code ({ cls := "java/lang/Math", name := "min", desc := "(II)I" } : Jvm.MethodName) jdk_29_method_69_code (2 : Nat) (Option.some Jvm.ClassFile.FieldType.int)).before args0 about1 = true := code_word (m := ⟨2, 2⟩) (meth := k2m2) (c := k2c2) (by decide +kernel) rfl rfl rfl (by decide +kernel)
set_option maxRecDepth 65536 in
theorem w_c3 : (Jvm.Cond.code ({ cls := "java/lang/Math", name := "max", desc := "(II)I" } : Jvm.MethodName) jdk_29_method_65_code (2 : Nat) (Option.some Jvm.ClassFile.FieldType.int)).before args0 about1 = true := code_word (m := ⟨2, 1⟩) (meth := k2m1) (c := k2c1) (by decide +kernel) rfl rfl rfl (by decide +kernel)
set_option maxRecDepth 65536 in
theorem w_c4 : (Jvm.Cond.code ({ cls := "com/example/fanout/fanout/CodePointSet", name := "of", desc := "([I)Lcom/example/fanout/fanout/CodePointSet;" } : Jvm.MethodName) prog_5_method_2_code (3 : Nat) (Option.some (Jvm.ClassFile.FieldType.object "com/example/fanout/fanout/CodePointSet"))).before args0 about1 = true := code_word (m := ⟨3, 1⟩) (meth := k3m1) (c := k3c1) (by decide +kernel) rfl rfl rfl (by decide +kernel)
set_option maxRecDepth 65536 in
theorem w_c5 : (Jvm.Cond.code ({ cls := "com/example/fanout/fanout/CodePointSet$Builder", name := "<init>", desc := "()V" } : Jvm.MethodName) prog_6_method_1_code (1 : Nat) (Option.none : Option Jvm.ClassFile.FieldType)).before args0 about1 = true := code_word (m := ⟨4, 0⟩) (meth := k4m0) (c := k4c0) (by decide +kernel) rfl rfl rfl (by decide +kernel)
set_option maxRecDepth 65536 in
theorem w_c6 : (Jvm.Cond.code ({ cls := "java/lang/Object", name := "<init>", desc := "()V" } : Jvm.MethodName) object_method_1_code (1 : Nat) (Option.none : Option Jvm.ClassFile.FieldType)).before args0 about1 = true := code_word (m := ⟨0, 0⟩) (meth := k0m0) (c := k0c0) (by decide +kernel) rfl rfl rfl (by decide +kernel)
set_option maxRecDepth 65536 in
theorem w_c7 : (Jvm.Cond.code ({ cls := "com/example/fanout/fanout/CodePointSet$Builder", name := "add", desc := "(II)Lcom/example/fanout/fanout/CodePointSet$Builder;" } : Jvm.MethodName) prog_6_method_2_code (3 : Nat) (Option.some (Jvm.ClassFile.FieldType.object "com/example/fanout/fanout/CodePointSet$Builder"))).before args0 about1 = true := code_word (m := ⟨4, 1⟩) (meth := k4m1) (c := k4c1) (by decide +kernel) rfl rfl rfl (by decide +kernel)
set_option maxRecDepth 65536 in
theorem w_c8 : (Jvm.Cond.code ({ cls := "com/example/fanout/fanout/CodePointSet$Builder", name := "build", desc := "()Lcom/example/fanout/fanout/CodePointSet;" } : Jvm.MethodName) prog_6_method_4_code (11 : Nat) (Option.some (Jvm.ClassFile.FieldType.object "com/example/fanout/fanout/CodePointSet"))).before args0 about1 = true := code_word (m := ⟨4, 3⟩) (meth := k4m3) (c := k4c3) (by decide +kernel) rfl rfl rfl (by decide +kernel)
set_option maxRecDepth 65536 in
theorem w_c9 : (Jvm.Cond.code ({ cls := "java/util/Arrays", name := "sort", desc := "([J)V" } : Jvm.MethodName) jdk_65_method_4_code (1 : Nat) (Option.none : Option Jvm.ClassFile.FieldType)).before args0 about1 = true := code_word (m := ⟨5, 1⟩) (meth := k5m1) (c := k5c1) (by decide +kernel) rfl rfl rfl (by decide +kernel)
set_option maxRecDepth 65536 in
theorem w_c10 : (Jvm.Cond.code ({ cls := "java/util/DualPivotQuicksort", name := "sort", desc := "([JIII)V" } : Jvm.MethodName) jdk_2529_method_12_code (7 : Nat) (Option.none : Option Jvm.ClassFile.FieldType)).before args0 about1 = true := code_word (m := ⟨6, 1⟩) (meth := k6m1) (c := k6c1) (by decide +kernel) rfl rfl rfl (by decide +kernel)
set_option maxRecDepth 65536 in
theorem w_c11 : (Jvm.Cond.code ({ cls := "java/util/DualPivotQuicksort", name := "sort", desc := "(Ljava/util/DualPivotQuicksort$Sorter;[JIII)V" } : Jvm.MethodName) jdk_2529_method_13_code (25 : Nat) (Option.none : Option Jvm.ClassFile.FieldType)).before args0 about1 = true := code_word (m := ⟨6, 2⟩) (meth := k6m2) (c := k6c2) (by decide +kernel) rfl rfl rfl (by decide +kernel)
set_option maxRecDepth 65536 in
theorem w_c12 : (Jvm.Cond.code ({ cls := "java/util/DualPivotQuicksort", name := "insertionSort", desc := "([JII)V" } : Jvm.MethodName) jdk_2529_method_15_code (7 : Nat) (Option.none : Option Jvm.ClassFile.FieldType)).before args0 about1 = true := code_word (m := ⟨6, 3⟩) (meth := k6m3) (c := k6c3) (by decide +kernel) rfl rfl rfl (by decide +kernel)
set_option maxRecDepth 65536 in
theorem w_c13 : (Jvm.Cond.code ({ cls := "java/util/Arrays", name := "copyOf", desc := "([II)[I" } : Jvm.MethodName) jdk_65_method_123_code (3 : Nat) (Option.some (Jvm.ClassFile.FieldType.array Jvm.ClassFile.FieldType.int))).before args0 about1 = true := code_word (m := ⟨5, 2⟩) (meth := k5m2) (c := k5c2) (by decide +kernel) rfl rfl rfl (by decide +kernel)
set_option maxRecDepth 65536 in
theorem w_c14 : (Jvm.Cond.code ({ cls := "com/example/fanout/fanout/CodePointSet", name := "<init>", desc := "([I)V" } : Jvm.MethodName) prog_5_method_1_code (2 : Nat) (Option.none : Option Jvm.ClassFile.FieldType)).before args0 about1 = true := code_word (m := ⟨3, 0⟩) (meth := k3m0) (c := k3c0) (by decide +kernel) rfl rfl rfl (by decide +kernel)
set_option maxRecDepth 65536 in
theorem w_c15 : (Jvm.Cond.code ({ cls := "com/example/fanout/fanout/CodePointSet$Builder", name := "add", desc := "(Lcom/example/fanout/fanout/CodePointSet;)Lcom/example/fanout/fanout/CodePointSet$Builder;" } : Jvm.MethodName) prog_6_method_3_code (3 : Nat) (Option.some (Jvm.ClassFile.FieldType.object "com/example/fanout/fanout/CodePointSet$Builder"))).before args0 about1 = true := code_word (m := ⟨4, 2⟩) (meth := k4m2) (c := k4c2) (by decide +kernel) rfl rfl rfl (by decide +kernel)
set_option maxRecDepth 65536 in
theorem w_c16 : (Jvm.Cond.code ({ cls := "com/example/fanout/fanout/BuilderAddPinLaw", name := "probe", desc := "(IIIII)I" } : Jvm.MethodName) method_3_code (8 : Nat) (Option.some Jvm.ClassFile.FieldType.int)).before args0 about1 = true := code_word (m := ⟨1, 2⟩) (meth := k1m2) (c := k1c2) (by decide +kernel) rfl rfl rfl (by decide +kernel)
set_option maxRecDepth 65536 in
theorem w_c17 : (Jvm.Cond.code ({ cls := "com/example/fanout/fanout/CodePointSet", name := "contains", desc := "(I)Z" } : Jvm.MethodName) prog_5_method_3_code (5 : Nat) (Option.some Jvm.ClassFile.FieldType.boolean)).before args0 about1 = true := code_word (m := ⟨3, 2⟩) (meth := k3m2) (c := k3c2) (by decide +kernel) rfl rfl rfl (by decide +kernel)
set_option maxRecDepth 65536 in
theorem w_c18 : (Jvm.Cond.code ({ cls := "com/example/fanout/fanout/BuilderAddPinLaw", name := "expected", desc := "(IIIII)Z" } : Jvm.MethodName) method_4_code (6 : Nat) (Option.some Jvm.ClassFile.FieldType.boolean)).before args0 about1 = true := code_word (m := ⟨1, 3⟩) (meth := k1m3) (c := k1c3) (by decide +kernel) rfl rfl rfl (by decide +kernel)
def codes1 : List Jvm.Cond := [Jvm.Cond.code x code maxLocals ret, Jvm.Cond.code ({ cls := "com/example/fanout/fanout/BuilderAddPinLaw", name := "cp", desc := "(I)I" } : Jvm.MethodName) method_2_code (1 : Nat) (Option.some Jvm.ClassFile.FieldType.int), Jvm.Cond.code ({ cls := "java/lang/Math", name := "min", desc := "(II)I" } : Jvm.MethodName) jdk_29_method_69_code (2 : Nat) (Option.some Jvm.ClassFile.FieldType.int), Jvm.Cond.code ({ cls := "java/lang/Math", name := "max", desc := "(II)I" } : Jvm.MethodName) jdk_29_method_65_code (2 : Nat) (Option.some Jvm.ClassFile.FieldType.int), Jvm.Cond.code ({ cls := "com/example/fanout/fanout/CodePointSet", name := "of", desc := "([I)Lcom/example/fanout/fanout/CodePointSet;" } : Jvm.MethodName) prog_5_method_2_code (3 : Nat) (Option.some (Jvm.ClassFile.FieldType.object "com/example/fanout/fanout/CodePointSet")), Jvm.Cond.code ({ cls := "com/example/fanout/fanout/CodePointSet$Builder", name := "<init>", desc := "()V" } : Jvm.MethodName) prog_6_method_1_code (1 : Nat) (Option.none : Option Jvm.ClassFile.FieldType), Jvm.Cond.code ({ cls := "java/lang/Object", name := "<init>", desc := "()V" } : Jvm.MethodName) object_method_1_code (1 : Nat) (Option.none : Option Jvm.ClassFile.FieldType), Jvm.Cond.code ({ cls := "com/example/fanout/fanout/CodePointSet$Builder", name := "add", desc := "(II)Lcom/example/fanout/fanout/CodePointSet$Builder;" } : Jvm.MethodName) prog_6_method_2_code (3 : Nat) (Option.some (Jvm.ClassFile.FieldType.object "com/example/fanout/fanout/CodePointSet$Builder")), Jvm.Cond.code ({ cls := "com/example/fanout/fanout/CodePointSet$Builder", name := "build", desc := "()Lcom/example/fanout/fanout/CodePointSet;" } : Jvm.MethodName) prog_6_method_4_code (11 : Nat) (Option.some (Jvm.ClassFile.FieldType.object "com/example/fanout/fanout/CodePointSet")), Jvm.Cond.code ({ cls := "java/util/Arrays", name := "sort", desc := "([J)V" } : Jvm.MethodName) jdk_65_method_4_code (1 : Nat) (Option.none : Option Jvm.ClassFile.FieldType), Jvm.Cond.code ({ cls := "java/util/DualPivotQuicksort", name := "sort", desc := "([JIII)V" } : Jvm.MethodName) jdk_2529_method_12_code (7 : Nat) (Option.none : Option Jvm.ClassFile.FieldType), Jvm.Cond.code ({ cls := "java/util/DualPivotQuicksort", name := "sort", desc := "(Ljava/util/DualPivotQuicksort$Sorter;[JIII)V" } : Jvm.MethodName) jdk_2529_method_13_code (25 : Nat) (Option.none : Option Jvm.ClassFile.FieldType), Jvm.Cond.code ({ cls := "java/util/DualPivotQuicksort", name := "insertionSort", desc := "([JII)V" } : Jvm.MethodName) jdk_2529_method_15_code (7 : Nat) (Option.none : Option Jvm.ClassFile.FieldType), Jvm.Cond.code ({ cls := "java/util/Arrays", name := "copyOf", desc := "([II)[I" } : Jvm.MethodName) jdk_65_method_123_code (3 : Nat) (Option.some (Jvm.ClassFile.FieldType.array Jvm.ClassFile.FieldType.int)), Jvm.Cond.code ({ cls := "com/example/fanout/fanout/CodePointSet", name := "<init>", desc := "([I)V" } : Jvm.MethodName) prog_5_method_1_code (2 : Nat) (Option.none : Option Jvm.ClassFile.FieldType), Jvm.Cond.code ({ cls := "com/example/fanout/fanout/CodePointSet$Builder", name := "add", desc := "(Lcom/example/fanout/fanout/CodePointSet;)Lcom/example/fanout/fanout/CodePointSet$Builder;" } : Jvm.MethodName) prog_6_method_3_code (3 : Nat) (Option.some (Jvm.ClassFile.FieldType.object "com/example/fanout/fanout/CodePointSet$Builder")), Jvm.Cond.code ({ cls := "com/example/fanout/fanout/BuilderAddPinLaw", name := "probe", desc := "(IIIII)I" } : Jvm.MethodName) method_3_code (8 : Nat) (Option.some Jvm.ClassFile.FieldType.int), Jvm.Cond.code ({ cls := "com/example/fanout/fanout/CodePointSet", name := "contains", desc := "(I)Z" } : Jvm.MethodName) prog_5_method_3_code (5 : Nat) (Option.some Jvm.ClassFile.FieldType.boolean), Jvm.Cond.code ({ cls := "com/example/fanout/fanout/BuilderAddPinLaw", name := "expected", desc := "(IIIII)Z" } : Jvm.MethodName) method_4_code (6 : Nat) (Option.some Jvm.ClassFile.FieldType.boolean)]
set_option maxRecDepth 65536 in
theorem codes_eq : words1.filter isCode = codes1 := rfl
theorem w_codes : ∀ c ∈ words1.filter isCode, c.before args0 about1 = true := by
  rw [codes_eq]
  intro c hc
  simp only [codes1, List.mem_cons, List.not_mem_nil, or_false] at hc
  rcases hc with rfl | rfl | rfl | rfl | rfl | rfl | rfl | rfl | rfl | rfl | rfl | rfl | rfl | rfl | rfl | rfl | rfl | rfl | rfl
  · exact w_c0
  · exact w_c1
  · exact w_c2
  · exact w_c3
  · exact w_c4
  · exact w_c5
  · exact w_c6
  · exact w_c7
  · exact w_c8
  · exact w_c9
  · exact w_c10
  · exact w_c11
  · exact w_c12
  · exact w_c13
  · exact w_c14
  · exact w_c15
  · exact w_c16
  · exact w_c17
  · exact w_c18
set_option maxRecDepth 65536 in
theorem w_t1 : (words1.take 24).all (fun c => isCode c || c.before args0 about1) = true := by decide +kernel
set_option maxRecDepth 65536 in
theorem w_t2 : ((words1.drop 24).take 24).all (fun c => isCode c || c.before args0 about1) = true := by decide +kernel
set_option maxRecDepth 65536 in
theorem w_t3 : (((words1.drop 24).drop 24).take 24).all (fun c => isCode c || c.before args0 about1) = true := by decide +kernel
set_option maxRecDepth 65536 in
theorem w_t4 : ((((words1.drop 24).drop 24).drop 24).take 24).all (fun c => isCode c || c.before args0 about1) = true := by decide +kernel
set_option maxRecDepth 65536 in
theorem w_t5 : ((((words1.drop 24).drop 24).drop 24).drop 24).all (fun c => isCode c || c.before args0 about1) = true := by decide +kernel
theorem w_tables : (allAtoms (Jvm.Cond.code x code maxLocals ret :: tables_1)).before args0 about1 = true := by
  rw [allAtoms_all]
  show words1.all (fun c => c.before args0 about1) = true
  refine all_split ?_ w_codes
  rw [← List.take_append_drop 24 words1, List.all_append, w_t1, ← List.take_append_drop 24 (words1.drop 24), List.all_append, w_t2, ← List.take_append_drop 24 ((words1.drop 24).drop 24), List.all_append, w_t3, ← List.take_append_drop 24 (((words1.drop 24).drop 24).drop 24), List.all_append, w_t4, w_t5]
  rfl
set_option maxRecDepth 65536 in
theorem w_case : (Jvm.Cond.and given_1 narrow_1).before args0 about1 = true := by decide +kernel
theorem w_applies : (headSpec (Jvm.Cond.code x code maxLocals ret :: tables_1) room_1).applies x e0.platform about1 = true :=
  (Spec.applies_iff w_frames).mpr ⟨w_running, w_runnable, w_alone, w_named, w_hears, w_ripe, w_room, w_tables⟩
theorem atStart : AtStart classFile x code maxLocals ret World_1 tables_1 room_1 Calls_1 rest_1 Pre_1 launch0 p0 e0 about1 theMethod args0 below0 :=
  ⟨lists_1, trivial, launch0.admits_env _ _ _, launch0.least_env, fairChoices_fair.cas, fairChoices_fair.clock, w_frames, w_args, w_heap, w_applies, trivial, trivial, w_case⟩
end start1
theorem witness_1 : WitnessClaimed_1 := ⟨start1.p0, start1.e0, start1.about1, start1.theMethod, start1.args0, start1.below0, start1.atStart⟩
end Jvm.Pilot.@@N@@
