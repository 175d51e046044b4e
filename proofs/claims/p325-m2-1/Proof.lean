import JvmDerived
import JvmDerived.Pilot.@@N@@Statement
import JvmDerived.Pilot.@@N@@Code
set_option linter.unusedVariables false
set_option linter.unusedSimpArgs false
@@BLOCK:NumsL.lean.txt@@
namespace Jvm.Pilot.@@N@@
open Jvm Jvm.ClassFile Sem Op Lib Jvm.Free Jvm.Stand Jvm.LawKit Jvm.RoadKit Bundle Jvm.Pilot.@@N@@.Jvm.D
/-! ## OWN EVALUATOR: a run of plain bytecode (ints, longs, references that are only carried; static calls by contract) as one Prop that unfolds by computation.
An entry of a table: pc, the instruction, the next pc, the target of a branch, the constant that it pushes. -/
abbrev own_Ent := Nat × Instr × Nat × Nat × Value
def own_look : List own_Ent → Nat → Option (Instr × Nat × Nat × Value)
  | [], _ => none
  | e :: t, pc => bif Nat.beq e.1 pc then some e.2 else own_look t pc
theorem own_look_mem : ∀ {tab : List own_Ent} {pc : Nat} {r : Instr × Nat × Nat × Value}, own_look tab pc = some r → (pc, r) ∈ tab
  | [], _, _, h => by simp [own_look] at h
  | e :: t, pc, r, h => by
    simp only [own_look] at h
    cases hb : Nat.beq e.1 pc with
    | true =>
      rw [hb] at h
      have h1 : e.1 = pc := Nat.eq_of_beq_eq_true hb
      have h2 : e.2 = r := Option.some.inj h
      subst h1 h2
      exact List.mem_cons_self
    | false => rw [hb] at h; exact List.mem_cons_of_mem _ (own_look_mem h)
/-- what a conditional branch asks -/
def own_icmp : ClassFile.Cond → Int32 → Int32 → Prop
  | .eq, a, b => a = b
  | .ne, a, b => ¬ a = b
  | .lt, a, b => a < b
  | .ge, a, b => b ≤ a
  | .gt, a, b => b < a
  | .le, a, b => a ≤ b
theorem own_icmp_iff {cd : ClassFile.Cond} {a b : Int32} : if_icmp.holds cd a b = true ↔ own_icmp cd a b := by
  cases cd <;> simp [if_icmp.holds, own_icmp]
theorem own_if_iff {cd : ClassFile.Cond} {a : Int32} : ifCond.holds cd a = true ↔ own_icmp cd a 0 := by
  cases cd <;> simp [ifCond.holds, own_icmp]
def own_ldI (L : Array Slot) (st : List Value) (k : Nat) : Option (Array Slot × List Value) :=
  match L[k]? with
  | some (.val (.int v)) => some (L, .int v :: st)
  | _ => none
def own_ldJ (L : Array Slot) (st : List Value) (k : Nat) : Option (Array Slot × List Value) :=
  match L[k]? with
  | some (.val (.long v)) => some (L, .long v :: st)
  | _ => none
def own_ldA (L : Array Slot) (st : List Value) (k : Nat) : Option (Array Slot × List Value) :=
  match L[k]? with
  | some (.val (.ref a)) => some (L, .ref a :: st)
  | _ => none
def own_put (L : Array Slot) (k : Nat) (v : Value) (r : List Value) : Option (Array Slot × List Value) :=
  match storeLocals L k v with
  | some L' => some (L', r)
  | none => none
def own_stI (L : Array Slot) (st : List Value) (k : Nat) : Option (Array Slot × List Value) :=
  match st with
  | .int v :: r => own_put L k (.int v) r
  | _ => none
def own_stJ (L : Array Slot) (st : List Value) (k : Nat) : Option (Array Slot × List Value) :=
  match st with
  | .long v :: r => own_put L k (.long v) r
  | _ => none
def own_stA (L : Array Slot) (st : List Value) (k : Nat) : Option (Array Slot × List Value) :=
  match st with
  | .ref v :: r => own_put L k (.ref v) r
  | _ => none
def own_bI (L : Array Slot) (st : List Value) (f : Int32 → Int32 → Int32) : Option (Array Slot × List Value) :=
  match st with
  | .int y :: .int x :: r => some (L, .int (f x y) :: r)
  | _ => none
def own_bJ (L : Array Slot) (st : List Value) (f : Int64 → Int64 → Int64) : Option (Array Slot × List Value) :=
  match st with
  | .long y :: .long x :: r => some (L, .long (f x y) :: r)
  | _ => none
def own_sJ (L : Array Slot) (st : List Value) (f : Int64 → Int32 → Int64) : Option (Array Slot × List Value) :=
  match st with
  | .int y :: .long x :: r => some (L, .long (f x y) :: r)
  | _ => none
def own_uI (L : Array Slot) (st : List Value) (f : Int32 → Int32) : Option (Array Slot × List Value) :=
  match st with
  | .int x :: r => some (L, .int (f x) :: r)
  | _ => none
/-- i2c, as the machine reckons it -/
def own_i2c (x : Int32) : Int32 := x.toUInt32.toUInt16.toUInt32.toInt32
/-- a straight step -/
def own_stp (L : Array Slot) (st : List Value) (cv : Value) : Instr → Option (Array Slot × List Value)
  | .iconst _ => some (L, cv :: st)
  | .bipush _ => some (L, cv :: st)
  | .sipush _ => some (L, cv :: st)
  | .lconst _ => some (L, cv :: st)
  | .ldc _ => some (L, cv :: st)
  | .ldc2_w _ => some (L, cv :: st)
  | .iload k => own_ldI L st k
  | .iload_n k => own_ldI L st k.val
  | .lload k => own_ldJ L st k
  | .lload_n k => own_ldJ L st k.val
  | .aload k => own_ldA L st k
  | .aload_n k => own_ldA L st k.val
  | .istore k => own_stI L st k
  | .istore_n k => own_stI L st k.val
  | .lstore k => own_stJ L st k
  | .lstore_n k => own_stJ L st k.val
  | .astore k => own_stA L st k
  | .astore_n k => own_stA L st k.val
  | .iadd => own_bI L st (fun x y => x + y)
  | .isub => own_bI L st (fun x y => x - y)
  | .imul => own_bI L st (fun x y => x * y)
  | .iand => own_bI L st (fun x y => x &&& y)
  | .ior => own_bI L st (fun x y => x ||| y)
  | .ixor => own_bI L st (fun x y => x ^^^ y)
  | .ishl => own_bI L st (fun x y => x <<< (y &&& 31))
  | .ishr => own_bI L st (fun x y => x >>> (y &&& 31))
  | .iushr => own_bI L st (fun x y => XT.ushr x y)
  | .ladd => own_bJ L st (fun x y => x + y)
  | .lsub => own_bJ L st (fun x y => x - y)
  | .lmul => own_bJ L st (fun x y => x * y)
  | .land => own_bJ L st (fun x y => x &&& y)
  | .lor => own_bJ L st (fun x y => x ||| y)
  | .lxor => own_bJ L st (fun x y => x ^^^ y)
  | .lshl => own_sJ L st (fun x y => x <<< (y.toInt64 &&& 63))
  | .lshr => own_sJ L st (fun x y => x >>> (y.toInt64 &&& 63))
  | .lushr => own_sJ L st (fun x y => XT.ushrL x y)
  | .i2b => own_uI L st (fun x => x.toInt8.toInt32)
  | .i2c => own_uI L st own_i2c
  | .i2s => own_uI L st (fun x => x.toInt16.toInt32)
  | .i2l => match st with
    | .int x :: r => some (L, .long x.toInt64 :: r)
    | _ => none
  | .l2i => match st with
    | .long x :: r => some (L, .int x.toInt32 :: r)
    | _ => none
  | .lneg => match st with
    | .long x :: r => some (L, .long (-x) :: r)
    | _ => none
  | .lcmp => match st with
    | .long y :: .long x :: r => some (L, .int (XT.cmpL x y) :: r)
    | _ => none
  | .iinc k z => match L[k]? with
    | some (.val (.int v)) => own_put L k (.int (v + Int32.ofInt z)) st
    | _ => none
  | .dup => match st with
    | .ref a :: r => some (L, .ref a :: .ref a :: r)
    | _ => none
  | _ => none
/-- how long an instruction is -/
def own_len : Instr → Nat
  | .bipush _ => 2
  | .sipush _ => 3
  | .ldc _ => 2
  | .ldc2_w _ => 3
  | .iload _ => 2
  | .lload _ => 2
  | .aload _ => 2
  | .istore _ => 2
  | .lstore _ => 2
  | .astore _ => 2
  | .iinc _ _ => 3
  | .invokestatic _ => 3
  | .invokevirtual _ => 3
  | .getfield _ => 3
  | _ => 1
/-- the constant that an instruction pushes is the entry's -/
def own_cv (own : String) (ws : List Jvm.Cond) (cv : Value) : Instr → Bool
  | .iconst i => decide (cv = .int (Int32.ofInt i))
  | .bipush i => decide (cv = .int (Int8.ofInt i).toInt32)
  | .sipush i => decide (cv = .int (Int16.ofInt i).toInt32)
  | .lconst k => decide (cv = .long (Int64.ofNat k))
  | .ldc idx => match cv with
    | .int v => ws.contains (Jvm.Cond.constant own idx v)
    | _ => false
  | .ldc2_w idx => match cv with
    | .long v => ws.contains (Jvm.Cond.constantLong own idx v)
    | _ => false
  | _ => true
/-- an entry is true of the code -/
def own_ok (code : ByteArray) (own : String) (ws : List Jvm.Cond) (q : own_Ent) : Bool :=
  match q with
  | (pc, .if_icmp cd o, nx, tg, _) => decide (decode code pc = .ok (.if_icmp cd o, 3)) && decide (0 ≤ (pc : Int) + o) && decide (((pc : Int) + o).toNat = tg) && decide (nx = pc + 3)
  | (pc, .ifCond cd o, nx, tg, _) => decide (decode code pc = .ok (.ifCond cd o, 3)) && decide (0 ≤ (pc : Int) + o) && decide (((pc : Int) + o).toNat = tg) && decide (nx = pc + 3)
  | (pc, .goto o, _, tg, _) => decide (decode code pc = .ok (.goto o, 3)) && decide (0 ≤ (pc : Int) + o) && decide (((pc : Int) + o).toNat = tg)
  | (pc, i, nx, _, cv) => decide (decode code pc = .ok (i, own_len i)) && decide (nx = pc + own_len i) && own_cv own ws cv i
abbrev own_Call := Nat × Nat × (Heap → List Value → Value → Prop)
abbrev own_Fld := Nat × Addr × Value
abbrev own_Arr := Addr × Int32 × FieldType × List Value × Value
/-- what a run may lean on: static calls, virtual calls, fields read, an array read, the heap, max_locals, the weight of the operand stack under a call -/
abbrev own_Env := List own_Call × List own_Call × List own_Fld × List own_Arr × Heap × Nat × Nat
def own_lookC : List own_Call → Nat → Option (Nat × (Heap → List Value → Value → Prop))
  | [], _ => none
  | e :: t, pc => bif Nat.beq e.1 pc then some e.2 else own_lookC t pc
theorem own_lookC_mem : ∀ {C : List own_Call} {i : Nat} {r : Nat × (Heap → List Value → Value → Prop)}, own_lookC C i = some r → (i, r) ∈ C
  | [], _, _, h => by simp [own_lookC] at h
  | e :: t, i, r, h => by
    simp only [own_lookC] at h
    cases hb : Nat.beq e.1 i with
    | true =>
      rw [hb] at h
      have h1 : e.1 = i := Nat.eq_of_beq_eq_true hb
      have h2 : e.2 = r := Option.some.inj h
      subst h1 h2
      exact List.mem_cons_self
    | false => rw [hb] at h; exact List.mem_cons_of_mem _ (own_lookC_mem h)
def own_lookF : List own_Fld → Nat → Option (Addr × Value)
  | [], _ => none
  | e :: t, pc => bif Nat.beq e.1 pc then some e.2 else own_lookF t pc
theorem own_lookF_mem : ∀ {C : List own_Fld} {i : Nat} {r : Addr × Value}, own_lookF C i = some r → (i, r) ∈ C
  | [], _, _, h => by simp [own_lookF] at h
  | e :: t, i, r, h => by
    simp only [own_lookF] at h
    cases hb : Nat.beq e.1 i with
    | true =>
      rw [hb] at h
      have h1 : e.1 = i := Nat.eq_of_beq_eq_true hb
      have h2 : e.2 = r := Option.some.inj h
      subst h1 h2
      exact List.mem_cons_self
    | false => rw [hb] at h; exact List.mem_cons_of_mem _ (own_lookF_mem h)
def own_cat (st : List Value) : Nat := (st.map fun v => v.category).sum
/-- one step: k: what is asked behind it; q: what is asked where it stops here -/
def own_nxt (E : own_Env) (L : Array Slot) (st : List Value) (nx tg : Nat) (cv : Value) (k : Nat → Array Slot → List Value → Prop) (q : Prop) (i : Instr) : Prop :=
  match i with
  | .if_icmp cd _ => match st with
    | .int y :: .int x :: r => (own_icmp cd x y → k tg L r) ∧ (¬ own_icmp cd x y → k nx L r)
    | _ => q
  | .ifCond cd _ => match st with
    | .int x :: r => (own_icmp cd x 0 → k tg L r) ∧ (¬ own_icmp cd x 0 → k nx L r)
    | _ => q
  | .goto _ => k tg L st
  | .irem => match st with
    | .int y :: .int x :: r => y ≠ 0 ∧ k nx L (.int (x % y) :: r)
    | _ => q
  | .idiv => match st with
    | .int y :: .int x :: r => y ≠ 0 ∧ k nx L (.int (x / y) :: r)
    | _ => q
  | .lrem => match st with
    | .long y :: .long x :: r => y ≠ 0 ∧ k nx L (.long (x - (x / y) * y) :: r)
    | _ => q
  | .ldiv => match st with
    | .long y :: .long x :: r => y ≠ 0 ∧ k nx L (.long (x / y) :: r)
    | _ => q
  | .invokestatic idx => match own_lookC E.1 idx with
    | some (n, P) => ∃ v, P E.2.2.2.2.1 (st.take n).reverse v ∧ (st.take n).length = n ∧ own_cat (st.drop n) ≤ E.2.2.2.2.2.2 ∧ L.size = E.2.2.2.2.2.1 ∧ k nx L (v :: st.drop n)
    | none => q
  | .invokevirtual idx => match own_lookC E.2.1 idx with
    | some (n, P) => match st.drop n with
      | .ref a :: r => ∃ v, P E.2.2.2.2.1 (.ref a :: (st.take n).reverse) v ∧ (st.take n).length = n ∧ own_cat r ≤ E.2.2.2.2.2.2 ∧ L.size = E.2.2.2.2.2.1 ∧ k nx L (v :: r)
      | _ => q
    | none => q
  | .getfield idx => match st with
    | .ref a :: r => match own_lookF E.2.2.1 idx with
      | some (b, v) => a = b ∧ k nx L (v :: r)
      | none => q
    | _ => q
  | .arraylength => match st with
    | .ref a :: r => match E.2.2.2.1 with
      | (b, n, _, _, _) :: _ => a = b ∧ k nx L (.int n :: r)
      | [] => q
    | _ => q
  | .laload => match st with
    | .int j :: .ref a :: r => match E.2.2.2.1 with
      | (b, n, ty, vs, d) :: _ => a = b ∧ ty = .long ∧ (¬ j < 0) ∧ j < n ∧ ∃ z, vs.getD j.toNatClampNeg d = .long z ∧ k nx L (.long z :: r)
      | [] => q
    | _ => q
  | .baload => match st with
    | .int j :: .ref a :: r => match E.2.2.2.1 with
      | (b, n, ty, vs, d) :: _ => a = b ∧ ty = .byte ∧ (¬ j < 0) ∧ j < n ∧ ∃ z, vs.getD j.toNatClampNeg d = .int z ∧ k nx L (.int z :: r)
      | [] => q
    | _ => q
  | i => match own_stp L st cv i with
    | some (L', st') => k nx L' st'
    | none => q
def own_in : List Nat → Nat → Bool
  | [], _ => false
  | a :: t, pc => bif Nat.beq a pc then true else own_in t pc
/-- the run, till a pc of 'stop' or where the table ends; Q: what is asked there -/
def own_wp (stop : List Nat) (tab : List own_Ent) (E : own_Env) (Q : Nat → Array Slot → List Value → Prop) : Nat → Nat → Array Slot → List Value → Prop
  | 0, _, _, _ => False
  | n + 1, pc, L, st => bif own_in stop pc then Q pc L st else match own_look tab pc with
    | none => Q pc L st
    | some (i, nx, tg, cv) => own_nxt E L st nx tg cv (own_wp stop tab E Q n) (Q pc L st) i
theorem own_nxt_mono {E : own_Env} {L : Array Slot} {st : List Value} {nx tg : Nat} {cv : Value} {k k' : Nat → Array Slot → List Value → Prop} {q q' : Prop} {i : Instr} (hk : ∀ pc L st, k pc L st → k' pc L st) (hq : q → q') (h : own_nxt E L st nx tg cv k q i) : own_nxt E L st nx tg cv k' q' i := by
  unfold own_nxt at h ⊢
  split at h
  · split at h
    · exact ⟨fun z => hk _ _ _ (h.1 z), fun z => hk _ _ _ (h.2 z)⟩
    · exact hq h
  · split at h
    · exact ⟨fun z => hk _ _ _ (h.1 z), fun z => hk _ _ _ (h.2 z)⟩
    · exact hq h
  · exact (hk _ _ _ h)
  · split at h
    · exact ⟨h.1, hk _ _ _ h.2⟩
    · exact hq h
  · split at h
    · exact ⟨h.1, hk _ _ _ h.2⟩
    · exact hq h
  · split at h
    · exact ⟨h.1, hk _ _ _ h.2⟩
    · exact hq h
  · split at h
    · exact ⟨h.1, hk _ _ _ h.2⟩
    · exact hq h
  · try dsimp only
    split at h
    · obtain ⟨v, h1, h2, h3, h4, h5⟩ := h
      exact ⟨v, h1, h2, h3, h4, hk _ _ _ h5⟩
    · exact hq h
  · try dsimp only
    split at h
    · split at h
      · obtain ⟨v, h1, h2, h3, h4, h5⟩ := h
        exact ⟨v, h1, h2, h3, h4, hk _ _ _ h5⟩
      · exact hq h
    · exact hq h
  · split at h
    · try dsimp only
      split at h
      · exact ⟨h.1, hk _ _ _ h.2⟩
      · exact hq h
    · exact hq h
  · split at h
    · try dsimp only
      split at h
      · exact ⟨h.1, hk _ _ _ h.2⟩
      · exact hq h
    · exact hq h
  · split at h
    · try dsimp only
      split at h
      · obtain ⟨h1, h2, h3, h4, z, h5, h6⟩ := h
        exact ⟨h1, h2, h3, h4, z, h5, hk _ _ _ h6⟩
      · exact hq h
    · exact hq h
  · split at h
    · try dsimp only
      split at h
      · obtain ⟨h1, h2, h3, h4, z, h5, h6⟩ := h
        exact ⟨h1, h2, h3, h4, z, h5, hk _ _ _ h6⟩
      · exact hq h
    · exact hq h
  · try dsimp only
    split at h
    · exact (hk _ _ _ h)
    · exact hq h
theorem own_nxt_or {E : own_Env} {L : Array Slot} {st : List Value} {nx tg : Nat} {cv : Value} {k k' : Nat → Array Slot → List Value → Prop} {q q' : Prop} {i : Instr} (hk : ∀ pc L st, k pc L st → k' pc L st) (h : own_nxt E L st nx tg cv k q i) : q ∨ own_nxt E L st nx tg cv k' q' i := by
  unfold own_nxt at h ⊢
  split at h
  · split at h
    · exact Or.inr ⟨fun z => hk _ _ _ (h.1 z), fun z => hk _ _ _ (h.2 z)⟩
    · exact Or.inl h
  · split at h
    · exact Or.inr ⟨fun z => hk _ _ _ (h.1 z), fun z => hk _ _ _ (h.2 z)⟩
    · exact Or.inl h
  · exact Or.inr (hk _ _ _ h)
  · split at h
    · exact Or.inr ⟨h.1, hk _ _ _ h.2⟩
    · exact Or.inl h
  · split at h
    · exact Or.inr ⟨h.1, hk _ _ _ h.2⟩
    · exact Or.inl h
  · split at h
    · exact Or.inr ⟨h.1, hk _ _ _ h.2⟩
    · exact Or.inl h
  · split at h
    · exact Or.inr ⟨h.1, hk _ _ _ h.2⟩
    · exact Or.inl h
  · try dsimp only
    split at h
    · obtain ⟨v, h1, h2, h3, h4, h5⟩ := h
      exact Or.inr ⟨v, h1, h2, h3, h4, hk _ _ _ h5⟩
    · exact Or.inl h
  · try dsimp only
    split at h
    · split at h
      · obtain ⟨v, h1, h2, h3, h4, h5⟩ := h
        exact Or.inr ⟨v, h1, h2, h3, h4, hk _ _ _ h5⟩
      · exact Or.inl h
    · exact Or.inl h
  · split at h
    · try dsimp only
      split at h
      · exact Or.inr ⟨h.1, hk _ _ _ h.2⟩
      · exact Or.inl h
    · exact Or.inl h
  · split at h
    · try dsimp only
      split at h
      · exact Or.inr ⟨h.1, hk _ _ _ h.2⟩
      · exact Or.inl h
    · exact Or.inl h
  · split at h
    · try dsimp only
      split at h
      · obtain ⟨h1, h2, h3, h4, z, h5, h6⟩ := h
        exact Or.inr ⟨h1, h2, h3, h4, z, h5, hk _ _ _ h6⟩
      · exact Or.inl h
    · exact Or.inl h
  · split at h
    · try dsimp only
      split at h
      · obtain ⟨h1, h2, h3, h4, z, h5, h6⟩ := h
        exact Or.inr ⟨h1, h2, h3, h4, z, h5, hk _ _ _ h6⟩
      · exact Or.inl h
    · exact Or.inl h
  · try dsimp only
    split at h
    · exact Or.inr (hk _ _ _ h)
    · exact Or.inl h
theorem own_wp_mono {stop : List Nat} {tab : List own_Ent} {E : own_Env} {Q : Nat → Array Slot → List Value → Prop} : ∀ (n : Nat) {pc : Nat} {L : Array Slot} {st : List Value}, own_wp stop tab E Q n pc L st → own_wp stop tab E Q (n + 1) pc L st
  | 0, _, _, _, h => h.elim
  | n + 1, pc, L, st, h => by
    unfold own_wp at h ⊢
    cases hs : own_in stop pc with
    | true => simpa only [hs, cond_true] using h
    | false =>
      simp only [hs, cond_false] at h ⊢
      cases hl : own_look tab pc with
      | none => simpa only [hl] using h
      | some r => simp only [hl] at h ⊢; exact own_nxt_mono (fun _ _ _ z => own_wp_mono n z) (fun z => z) h
theorem own_wp_more {stop : List Nat} {tab : List own_Ent} {E : own_Env} {Q : Nat → Array Slot → List Value → Prop} {n : Nat} {pc : Nat} {L : Array Slot} {st : List Value} (h : own_wp stop tab E Q n pc L st) : ∀ k, own_wp stop tab E Q (k + n) pc L st
  | 0 => by rw [Nat.zero_add]; exact h
  | k + 1 => by rw [Nat.add_right_comm]; exact own_wp_mono _ (own_wp_more h k)
/-- two runs, one behind the other -/
theorem own_join {stop : List Nat} {tab : List own_Ent} {E : own_Env} {Q : Nat → Array Slot → List Value → Prop} {n2 : Nat} : ∀ {n1 : Nat} {pc : Nat} {L : Array Slot} {st : List Value}, own_wp stop tab E (fun pc L st => True ∧ own_wp [] tab E Q n2 pc L st) n1 pc L st → own_wp [] tab E Q (n1 + n2) pc L st
  | 0, _, _, _, h => h.elim
  | n + 1, pc, L, st, h => by
    have e : n + 1 + n2 = n + n2 + 1 := by omega
    unfold own_wp at h
    cases hs : own_in stop pc with
    | true => simp only [hs, cond_true] at h; exact own_wp_more h.2 _
    | false =>
      simp only [hs, cond_false] at h
      cases hl : own_look tab pc with
      | none => simp only [hl] at h; exact own_wp_more h.2 _
      | some r =>
        simp only [hl] at h
        rw [e]
        unfold own_wp
        simp only [own_in, cond_false, hl]
        rcases own_nxt_or (q' := Q pc L st) (fun _ _ _ z => own_join (n1 := n) z) h with z | z
        · have z2 := own_wp_more z.2 (n + 1)
          rw [e] at z2
          unfold own_wp at z2
          simpa only [own_in, cond_false, hl] using z2
        · exact z
theorem own_inb {cl : Cell} {n j : Int32} (S : cl.slots.size = n.toNatClampNeg) (h0 : ¬ j < 0) (hn : j < n) : ¬ (j < 0 ∨ cl.slots.size ≤ j.toNatClampNeg) := by
  rw [S]
  simp only [Int32.lt_iff_toInt_lt, Int32.toNatClampNeg, Int32.reduceToInt] at h0 hn ⊢
  omega
section own_Sound
variable {p : Program} {l : Launch} {e : Env} {R : Room} {s : State} {m : MethodId} {args : Array Value} {below : List Frame} {meth : Method} {c : Code} {locs : List Loc} {cells slots : Nat} {Z : State} {a0 : Array Value}
theorem own_stp_sound {T : State} (X : Stand p l e R s m args below meth c T locs cells slots) (hx : p.tables.exec = Jvm.exec) {code : ByteArray} (hby : c.code = code) (hZ : Z.Warmed39 s.vm) {own : String} (hown : s.vm.findClass own = some m.cls) {ws : List Jvm.Cond} (hw : ∀ d ∈ ws, d.before a0 Z = true)
    {pc nx tg : Nat} {cv : Value} {L L' : Array Slot} {st st' : List Value} {i : Instr} {t : State} (he : own_ok code own ws (pc, i, nx, tg, cv) = true) (h : own_stp L st cv i = some (L', st')) (k : Steps p.tables e below (T.setTop (mkF m nx L' st')) t) : Steps p.tables e below (T.setTop (mkF m pc L st)) t := by
  cases i
  all_goals try (simp [own_stp] at h; done)
  all_goals
    simp only [own_ok, Bool.and_eq_true, decide_eq_true_eq] at he
    simp only [own_len, own_cv, decide_eq_true_eq, and_true] at he
  case iconst z =>
    obtain ⟨⟨hd, rfl⟩, rfl⟩ := he
    simp only [own_stp, Option.some.injEq, Prod.mk.injEq] at h
    obtain ⟨rfl, rfl⟩ := h
    exact XS.iconst X.here hx rfl (hb hby hd) k
  case bipush z =>
    obtain ⟨⟨hd, rfl⟩, rfl⟩ := he
    simp only [own_stp, Option.some.injEq, Prod.mk.injEq] at h
    obtain ⟨rfl, rfl⟩ := h
    exact XS.bipush X.here hx rfl (hb hby hd) k
  case sipush z =>
    obtain ⟨⟨hd, rfl⟩, rfl⟩ := he
    simp only [own_stp, Option.some.injEq, Prod.mk.injEq] at h
    obtain ⟨rfl, rfl⟩ := h
    exact XS.sipush X.here hx rfl (hb hby hd) k
  case lconst z =>
    obtain ⟨⟨hd, rfl⟩, rfl⟩ := he
    simp only [own_stp, Option.some.injEq, Prod.mk.injEq] at h
    obtain ⟨rfl, rfl⟩ := h
    exact XT.lconst X.here hx rfl (hb hby hd) k
  case ldc idx =>
    obtain ⟨⟨hd, rfl⟩, hc⟩ := he
    simp only [own_stp, Option.some.injEq, Prod.mk.injEq] at h
    obtain ⟨rfl, rfl⟩ := h
    cases cv <;> first | (simp at hc; done) | skip
    exact X.ldcInt hx hown (mvT hZ (hw _ (List.contains_iff_mem.mp hc))) (g := mkF m pc L st) rfl (hb hby hd) _ k
  case ldc2_w idx =>
    obtain ⟨⟨hd, rfl⟩, hc⟩ := he
    simp only [own_stp, Option.some.injEq, Prod.mk.injEq] at h
    obtain ⟨rfl, rfl⟩ := h
    cases cv <;> first | (simp at hc; done) | skip
    exact X.ldc2Long hx hown (mvT hZ (hw _ (List.contains_iff_mem.mp hc))) (g := mkF m pc L st) rfl (hb hby hd) _ k
  case iload z =>
    obtain ⟨hd, rfl⟩ := he
    simp only [own_stp, own_ldI] at h
    split at h
    · rename_i v hl
      simp only [Option.some.injEq, Prod.mk.injEq] at h
      obtain ⟨rfl, rfl⟩ := h
      exact XS.iload X.here hx rfl (hb hby hd) hl k
    · cases h
  case iload_n z =>
    obtain ⟨hd, rfl⟩ := he
    simp only [own_stp, own_ldI] at h
    split at h
    · rename_i v hl
      simp only [Option.some.injEq, Prod.mk.injEq] at h
      obtain ⟨rfl, rfl⟩ := h
      exact XS.iloadN X.here hx rfl (hb hby hd) hl k
    · cases h
  case lload z =>
    obtain ⟨hd, rfl⟩ := he
    simp only [own_stp, own_ldJ] at h
    split at h
    · rename_i v hl
      simp only [Option.some.injEq, Prod.mk.injEq] at h
      obtain ⟨rfl, rfl⟩ := h
      exact XT.lload X.here hx rfl (hb hby hd) hl k
    · cases h
  case lload_n z =>
    obtain ⟨hd, rfl⟩ := he
    simp only [own_stp, own_ldJ] at h
    split at h
    · rename_i v hl
      simp only [Option.some.injEq, Prod.mk.injEq] at h
      obtain ⟨rfl, rfl⟩ := h
      exact XT.lloadN X.here hx rfl (hb hby hd) hl k
    · cases h
  case aload z =>
    obtain ⟨hd, rfl⟩ := he
    simp only [own_stp, own_ldA] at h
    split at h
    · rename_i v hl
      simp only [Option.some.injEq, Prod.mk.injEq] at h
      obtain ⟨rfl, rfl⟩ := h
      exact XS.aload X.here hx rfl (hb hby hd) hl rfl k
    · cases h
  case aload_n z =>
    obtain ⟨hd, rfl⟩ := he
    simp only [own_stp, own_ldA] at h
    split at h
    · rename_i v hl
      simp only [Option.some.injEq, Prod.mk.injEq] at h
      obtain ⟨rfl, rfl⟩ := h
      exact XS.aloadN X.here hx rfl (hb hby hd) hl rfl k
    · cases h
  case istore z =>
    obtain ⟨hd, rfl⟩ := he
    simp only [own_stp, own_stI] at h
    split at h
    · rename_i v r
      simp only [own_put] at h
      split at h
      · rename_i l' hl
        simp only [Option.some.injEq, Prod.mk.injEq] at h
        obtain ⟨rfl, rfl⟩ := h
        exact XS.istore X.here hx rfl (hb hby hd) rfl hl k
      · cases h
    · cases h
  case istore_n z =>
    obtain ⟨hd, rfl⟩ := he
    simp only [own_stp, own_stI] at h
    split at h
    · rename_i v r
      simp only [own_put] at h
      split at h
      · rename_i l' hl
        simp only [Option.some.injEq, Prod.mk.injEq] at h
        obtain ⟨rfl, rfl⟩ := h
        exact XS.istoreN X.here hx rfl (hb hby hd) rfl hl k
      · cases h
    · cases h
  case lstore z =>
    obtain ⟨hd, rfl⟩ := he
    simp only [own_stp, own_stJ] at h
    split at h
    · rename_i v r
      simp only [own_put] at h
      split at h
      · rename_i l' hl
        simp only [Option.some.injEq, Prod.mk.injEq] at h
        obtain ⟨rfl, rfl⟩ := h
        exact XT.lstore X.here hx rfl (hb hby hd) rfl hl k
      · cases h
    · cases h
  case lstore_n z =>
    obtain ⟨hd, rfl⟩ := he
    simp only [own_stp, own_stJ] at h
    split at h
    · rename_i v r
      simp only [own_put] at h
      split at h
      · rename_i l' hl
        simp only [Option.some.injEq, Prod.mk.injEq] at h
        obtain ⟨rfl, rfl⟩ := h
        exact XT.lstoreN X.here hx rfl (hb hby hd) rfl hl k
      · cases h
    · cases h
  case astore z =>
    obtain ⟨hd, rfl⟩ := he
    simp only [own_stp, own_stA] at h
    split at h
    · rename_i v r
      simp only [own_put] at h
      split at h
      · rename_i l' hl
        simp only [Option.some.injEq, Prod.mk.injEq] at h
        obtain ⟨rfl, rfl⟩ := h
        exact XS.astore X.here hx rfl (hb hby hd) rfl rfl hl k
      · cases h
    · cases h
  case astore_n z =>
    obtain ⟨hd, rfl⟩ := he
    simp only [own_stp, own_stA] at h
    split at h
    · rename_i v r
      simp only [own_put] at h
      split at h
      · rename_i l' hl
        simp only [Option.some.injEq, Prod.mk.injEq] at h
        obtain ⟨rfl, rfl⟩ := h
        exact XS.astoreN X.here hx rfl (hb hby hd) rfl rfl hl k
      · cases h
    · cases h
  case iadd =>
    obtain ⟨hd, rfl⟩ := he
    simp only [own_stp, own_bI] at h
    split at h
    · simp only [Option.some.injEq, Prod.mk.injEq] at h
      obtain ⟨rfl, rfl⟩ := h
      exact XS.iadd X.here hx rfl (hb hby hd) rfl k
    · cases h
  case isub =>
    obtain ⟨hd, rfl⟩ := he
    simp only [own_stp, own_bI] at h
    split at h
    · simp only [Option.some.injEq, Prod.mk.injEq] at h
      obtain ⟨rfl, rfl⟩ := h
      exact XS.isub X.here hx rfl (hb hby hd) rfl k
    · cases h
  case imul =>
    obtain ⟨hd, rfl⟩ := he
    simp only [own_stp, own_bI] at h
    split at h
    · simp only [Option.some.injEq, Prod.mk.injEq] at h
      obtain ⟨rfl, rfl⟩ := h
      exact XS.imul X.here hx rfl (hb hby hd) rfl k
    · cases h
  case iand =>
    obtain ⟨hd, rfl⟩ := he
    simp only [own_stp, own_bI] at h
    split at h
    · simp only [Option.some.injEq, Prod.mk.injEq] at h
      obtain ⟨rfl, rfl⟩ := h
      exact XS.iand X.here hx rfl (hb hby hd) rfl k
    · cases h
  case ior =>
    obtain ⟨hd, rfl⟩ := he
    simp only [own_stp, own_bI] at h
    split at h
    · simp only [Option.some.injEq, Prod.mk.injEq] at h
      obtain ⟨rfl, rfl⟩ := h
      exact XT.ior X.here hx rfl (hb hby hd) rfl k
    · cases h
  case ixor =>
    obtain ⟨hd, rfl⟩ := he
    simp only [own_stp, own_bI] at h
    split at h
    · simp only [Option.some.injEq, Prod.mk.injEq] at h
      obtain ⟨rfl, rfl⟩ := h
      exact XT.ixor X.here hx rfl (hb hby hd) rfl k
    · cases h
  case ishl =>
    obtain ⟨hd, rfl⟩ := he
    simp only [own_stp, own_bI] at h
    split at h
    · simp only [Option.some.injEq, Prod.mk.injEq] at h
      obtain ⟨rfl, rfl⟩ := h
      exact XT.ishl X.here hx rfl (hb hby hd) rfl k
    · cases h
  case ishr =>
    obtain ⟨hd, rfl⟩ := he
    simp only [own_stp, own_bI] at h
    split at h
    · simp only [Option.some.injEq, Prod.mk.injEq] at h
      obtain ⟨rfl, rfl⟩ := h
      exact XT.ishr X.here hx rfl (hb hby hd) rfl k
    · cases h
  case iushr =>
    obtain ⟨hd, rfl⟩ := he
    simp only [own_stp, own_bI] at h
    split at h
    · simp only [Option.some.injEq, Prod.mk.injEq] at h
      obtain ⟨rfl, rfl⟩ := h
      exact XT.iushr X.here hx rfl (hb hby hd) rfl k
    · cases h
  case ladd =>
    obtain ⟨hd, rfl⟩ := he
    simp only [own_stp, own_bJ] at h
    split at h
    · simp only [Option.some.injEq, Prod.mk.injEq] at h
      obtain ⟨rfl, rfl⟩ := h
      exact XT.ladd X.here hx rfl (hb hby hd) rfl k
    · cases h
  case lsub =>
    obtain ⟨hd, rfl⟩ := he
    simp only [own_stp, own_bJ] at h
    split at h
    · simp only [Option.some.injEq, Prod.mk.injEq] at h
      obtain ⟨rfl, rfl⟩ := h
      exact XT.lsub X.here hx rfl (hb hby hd) rfl k
    · cases h
  case lmul =>
    obtain ⟨hd, rfl⟩ := he
    simp only [own_stp, own_bJ] at h
    split at h
    · simp only [Option.some.injEq, Prod.mk.injEq] at h
      obtain ⟨rfl, rfl⟩ := h
      exact XT.lmul X.here hx rfl (hb hby hd) rfl k
    · cases h
  case land =>
    obtain ⟨hd, rfl⟩ := he
    simp only [own_stp, own_bJ] at h
    split at h
    · simp only [Option.some.injEq, Prod.mk.injEq] at h
      obtain ⟨rfl, rfl⟩ := h
      exact XT.land X.here hx rfl (hb hby hd) rfl k
    · cases h
  case lor =>
    obtain ⟨hd, rfl⟩ := he
    simp only [own_stp, own_bJ] at h
    split at h
    · simp only [Option.some.injEq, Prod.mk.injEq] at h
      obtain ⟨rfl, rfl⟩ := h
      exact XT.lor X.here hx rfl (hb hby hd) rfl k
    · cases h
  case lxor =>
    obtain ⟨hd, rfl⟩ := he
    simp only [own_stp, own_bJ] at h
    split at h
    · simp only [Option.some.injEq, Prod.mk.injEq] at h
      obtain ⟨rfl, rfl⟩ := h
      exact XT.lxor X.here hx rfl (hb hby hd) rfl k
    · cases h
  case lshl =>
    obtain ⟨hd, rfl⟩ := he
    simp only [own_stp, own_sJ] at h
    split at h
    · simp only [Option.some.injEq, Prod.mk.injEq] at h
      obtain ⟨rfl, rfl⟩ := h
      exact XT.lshl X.here hx rfl (hb hby hd) rfl k
    · cases h
  case lshr =>
    obtain ⟨hd, rfl⟩ := he
    simp only [own_stp, own_sJ] at h
    split at h
    · simp only [Option.some.injEq, Prod.mk.injEq] at h
      obtain ⟨rfl, rfl⟩ := h
      exact XT.lshr X.here hx rfl (hb hby hd) rfl k
    · cases h
  case lushr =>
    obtain ⟨hd, rfl⟩ := he
    simp only [own_stp, own_sJ] at h
    split at h
    · simp only [Option.some.injEq, Prod.mk.injEq] at h
      obtain ⟨rfl, rfl⟩ := h
      exact XT.lushr X.here hx rfl (hb hby hd) rfl k
    · cases h
  case i2b =>
    obtain ⟨hd, rfl⟩ := he
    simp only [own_stp, own_uI] at h
    split at h
    · simp only [Option.some.injEq, Prod.mk.injEq] at h
      obtain ⟨rfl, rfl⟩ := h
      exact XT.i2b X.here hx rfl (hb hby hd) rfl k
    · cases h
  case i2c =>
    obtain ⟨hd, rfl⟩ := he
    simp only [own_stp, own_uI] at h
    split at h
    · simp only [Option.some.injEq, Prod.mk.injEq] at h
      obtain ⟨rfl, rfl⟩ := h
      exact XT.i2c X.here hx rfl (hb hby hd) rfl k
    · cases h
  case i2s =>
    obtain ⟨hd, rfl⟩ := he
    simp only [own_stp, own_uI] at h
    split at h
    · simp only [Option.some.injEq, Prod.mk.injEq] at h
      obtain ⟨rfl, rfl⟩ := h
      exact XT.i2s X.here hx rfl (hb hby hd) rfl k
    · cases h
  case i2l =>
    obtain ⟨hd, rfl⟩ := he
    simp only [own_stp, own_uI] at h
    split at h
    · simp only [Option.some.injEq, Prod.mk.injEq] at h
      obtain ⟨rfl, rfl⟩ := h
      exact XT.i2l X.here hx rfl (hb hby hd) rfl k
    · cases h
  case l2i =>
    obtain ⟨hd, rfl⟩ := he
    simp only [own_stp, own_uI] at h
    split at h
    · simp only [Option.some.injEq, Prod.mk.injEq] at h
      obtain ⟨rfl, rfl⟩ := h
      exact XT.l2i X.here hx rfl (hb hby hd) rfl k
    · cases h
  case lneg =>
    obtain ⟨hd, rfl⟩ := he
    simp only [own_stp, own_uI] at h
    split at h
    · simp only [Option.some.injEq, Prod.mk.injEq] at h
      obtain ⟨rfl, rfl⟩ := h
      exact XT.lneg X.here hx rfl (hb hby hd) rfl k
    · cases h
  case lcmp =>
    obtain ⟨hd, rfl⟩ := he
    simp only [own_stp, own_uI] at h
    split at h
    · simp only [Option.some.injEq, Prod.mk.injEq] at h
      obtain ⟨rfl, rfl⟩ := h
      exact XT.lcmp X.here hx rfl (hb hby hd) rfl k
    · cases h
  case iinc z q =>
    obtain ⟨hd, rfl⟩ := he
    simp only [own_stp] at h
    split at h
    · rename_i v hl
      simp only [own_put] at h
      split at h
      · rename_i l' hl'
        simp only [Option.some.injEq, Prod.mk.injEq] at h
        obtain ⟨rfl, rfl⟩ := h
        exact XS.iinc X.here hx rfl (hb hby hd) hl hl' k
      · cases h
    · cases h
  case dup =>
    obtain ⟨hd, rfl⟩ := he
    simp only [own_stp] at h
    split at h
    · simp only [Option.some.injEq, Prod.mk.injEq] at h
      obtain ⟨rfl, rfl⟩ := h
      exact XS.dup X.here hx rfl (hb hby hd) rfl rfl k
    · cases h
/-- a reading method's contract: where P says so of the heap, the arguments and v it returns v, keeps the heap, makes nothing -/
def own_Pure (l : Launch) (Z : State) (y : MethodName) (bytes : ByteArray) (maxL : Nat) (ret : Option FieldType) (rm : Room) (P : Heap → List Value → Value → Prop) : Prop :=
  ∀ (ws : List Jvm.Cond) (h0 : Heap) (as : List Value) (w : Value), P h0 as w → MetFree l y (head1 (Jvm.Cond.code y bytes maxL ret :: ws) rm) (fun a U => a = as.toArray ∧ Z.Warmed39 U.vm ∧ U.heap = h0) (fun _ _ _ _ _ => True)
    (fun _ U o U' => ∃ v L, o = .returned v ∧ (v = some w ∧ L = [] ∧ U'.heap = h0) ∧ FrameEnd U o U' L rm.cells rm.slots)
/-- a static call of the table 'own' at entry q.1 -/
def own_CallOk (l : Launch) (Z : State) (a0 : Array Value) (own : String) (R : Room) (W : Nat) (q : own_Call) : Prop :=
  ∃ (y : MethodName) (bytes : ByteArray) (maxL : Nat) (ret : Option FieldType) (rm : Room), own_Pure l Z y bytes maxL ret rm q.2.2 ∧ (Jvm.Cond.methodLink own q.1 y).before a0 Z = true ∧ (Jvm.Cond.static y).before a0 Z = true ∧ (Jvm.Cond.initialized y.cls).before a0 Z = true ∧ (Jvm.Cond.code y bytes maxL ret).before a0 Z = true ∧
    (y.cls ≠ "java/lang/invoke/MethodHandle" ∧ y.cls ≠ "java/lang/invoke/VarHandle") ∧ (∃ ps r, parseMethodDescriptor y.desc = some ⟨ps, r⟩ ∧ q.2.1 = ps.length) ∧ rm.cells = 0 ∧ rm.slots = 0 ∧ rm.frames + 1 ≤ R.frames ∧ W + (maxL + 11) + rm.locals ≤ R.locals
/-- a virtual call on an object of the class y.cls itself -/
def own_VirtOk (l : Launch) (Z : State) (a0 : Array Value) (own : String) (R : Room) (W : Nat) (q : own_Call) : Prop :=
  ∃ (y : MethodName) (bytes : ByteArray) (maxL : Nat) (ret : Option FieldType) (rm : Room), own_Pure l Z y bytes maxL ret rm q.2.2 ∧ (∀ h a as w, q.2.2 h (.ref a :: as) w → Exa Z h a y.cls) ∧ (Jvm.Cond.methodLink own q.1 y).before a0 Z = true ∧ (Jvm.Cond.declares y).before a0 Z = true ∧ (Jvm.Cond.selects y.cls y y).before a0 Z = true ∧ (Jvm.Cond.instanceMethod y).before a0 Z = true ∧ (Jvm.Cond.initialized y.cls).before a0 Z = true ∧ (Jvm.Cond.code y bytes maxL ret).before a0 Z = true ∧
    (y.cls ≠ "java/lang/invoke/MethodHandle" ∧ y.cls ≠ "java/lang/invoke/VarHandle") ∧ (∃ ps r, parseMethodDescriptor y.desc = some ⟨ps, r⟩ ∧ q.2.1 = ps.length) ∧ rm.cells = 0 ∧ rm.slots = 0 ∧ rm.frames + 1 ≤ R.frames ∧ W + (maxL + 11) + rm.locals ≤ R.locals
def own_FldOk (Z : State) (a0 : Array Value) (own : String) (h : Heap) (q : own_Fld) : Prop :=
  ∃ R0 O n d, (Jvm.Cond.fieldLink own q.1 R0 n d).before a0 Z = true ∧ Via Z R0 O n d ∧ Fld Z h q.2.1 O n d q.2.2
def own_ArrOk (Z : State) (h : Heap) (q : own_Arr) : Prop := ∃ k, Arv Z h q.1 k q.2.2.1 q.2.1 q.2.2.2.1 q.2.2.2.2
def own_EnvOk (l : Launch) (Z : State) (a0 : Array Value) (own : String) (R : Room) (E : own_Env) : Prop :=
  (∀ q ∈ E.1, own_CallOk l Z a0 own R E.2.2.2.2.2.2 q) ∧ (∀ q ∈ E.2.1, own_VirtOk l Z a0 own R E.2.2.2.2.2.2 q) ∧ (∀ q ∈ E.2.2.1, own_FldOk Z a0 own E.2.2.2.2.1 q) ∧ (∀ q ∈ E.2.2.2.1, own_ArrOk Z E.2.2.2.2.1 q)
theorem own_wp_sound (hx : p.tables.exec = Jvm.exec) {code : ByteArray} (hby : c.code = code) (hZ : Z.Warmed39 s.vm) {own : String} (hown : s.vm.findClass own = some m.cls) {ws : List Jvm.Cond} (hw : ∀ d ∈ ws, d.before a0 Z = true)
    {tab : List own_Ent} (hT : tab.all (own_ok code own ws) = true) {E : own_Env} (hml : c.maxLocals = E.2.2.2.2.2.1) (hE : own_EnvOk l Z a0 own R E) (hcl : cells ≤ R.cells) (hsl : slots ≤ R.slots) {stop : List Nat} {Q : Nat → Array Slot → List Value → Prop} :
    ∀ (n pc : Nat) (L : Array Slot) (st : List Value) {T : State}, Stand p l e R s m args below meth c T locs cells slots → T.heap = E.2.2.2.2.1 → own_wp stop tab E Q n pc L st →
      ∃ T' pc' L' st', Stand p l e R s m args below meth c T' locs cells slots ∧ T'.heap = E.2.2.2.2.1 ∧ Q pc' L' st' ∧ ∀ t, Steps p.tables e below (T'.setTop (mkF m pc' L' st')) t → Steps p.tables e below (T.setTop (mkF m pc L st)) t := by
  obtain ⟨hC, hV, hF, hA⟩ := hE
  intro n
  induction n with
  | zero => intro pc L st T X eT h; exact h.elim
  | succ n ih =>
    intro pc L st T X eT h
    have stay : Q pc L st → ∃ T' pc' L' st', Stand p l e R s m args below meth c T' locs cells slots ∧ T'.heap = E.2.2.2.2.1 ∧ Q pc' L' st' ∧ ∀ t, Steps p.tables e below (T'.setTop (mkF m pc' L' st')) t → Steps p.tables e below (T.setTop (mkF m pc L st)) t := fun h => ⟨T, pc, L, st, X, eT, h, fun _ k => k⟩
    have go : ∀ {pc1 : Nat} {L1 : Array Slot} {st1 : List Value} {T1 : State}, Stand p l e R s m args below meth c T1 locs cells slots → T1.heap = E.2.2.2.2.1 → own_wp stop tab E Q n pc1 L1 st1 → (∀ t, Steps p.tables e below (T1.setTop (mkF m pc1 L1 st1)) t → Steps p.tables e below (T.setTop (mkF m pc L st)) t) →
        ∃ T' pc' L' st', Stand p l e R s m args below meth c T' locs cells slots ∧ T'.heap = E.2.2.2.2.1 ∧ Q pc' L' st' ∧ ∀ t, Steps p.tables e below (T'.setTop (mkF m pc' L' st')) t → Steps p.tables e below (T.setTop (mkF m pc L st)) t := by
      intro pc1 L1 st1 T1 X1 e1 h1 k1
      obtain ⟨T', pc', L', st', X', e', q', k'⟩ := ih pc1 L1 st1 X1 e1 h1
      exact ⟨T', pc', L', st', X', e', q', fun t k => k1 t (k' t k)⟩
    unfold own_wp at h
    cases hs : own_in stop pc with
    | true => rw [hs] at h; exact stay h
    | false =>
    rw [hs] at h
    simp only [cond_false] at h
    cases hl : own_look tab pc with
    | none => rw [hl] at h; exact stay h
    | some r =>
      obtain ⟨i, nx, tg, cv⟩ := r
      rw [hl] at h
      have he : own_ok code own ws (pc, i, nx, tg, cv) = true := List.all_eq_true.mp hT _ (own_look_mem hl)
      dsimp only at h
      unfold own_nxt at h
      split at h
      · rename_i cd o
        simp only [own_ok, Bool.and_eq_true, decide_eq_true_eq] at he
        obtain ⟨⟨⟨hd, ho⟩, ht⟩, rfl⟩ := he
        split at h
        · rename_i y x r
          by_cases hc : own_icmp cd x y
          · exact go X eT (h.1 hc) (fun t k => XS.icmpYes X.here hx rfl (pc0 := pc) rfl (hb hby hd) rfl (own_icmp_iff.mpr hc) ho ht k)
          · exact go X eT (h.2 hc) (fun t k => XS.icmpNo X.here hx rfl (hb hby hd) rfl (by simpa using mt own_icmp_iff.mp hc) k)
        · exact stay h
      · rename_i cd o
        simp only [own_ok, Bool.and_eq_true, decide_eq_true_eq] at he
        obtain ⟨⟨⟨hd, ho⟩, ht⟩, rfl⟩ := he
        split at h
        · rename_i x r
          by_cases hc : own_icmp cd x 0
          · exact go X eT (h.1 hc) (fun t k => XS.ifYes X.here hx rfl (pc0 := pc) rfl (hb hby hd) rfl (own_if_iff.mpr hc) ho ht k)
          · exact go X eT (h.2 hc) (fun t k => XS.ifNo X.here hx rfl (hb hby hd) rfl (by simpa using mt own_if_iff.mp hc) k)
        · exact stay h
      · rename_i o
        simp only [own_ok, Bool.and_eq_true, decide_eq_true_eq] at he
        obtain ⟨⟨hd, ho⟩, ht⟩ := he
        exact go X eT h (fun t k => XS.goto X.here hx rfl (pc0 := pc) rfl (hb hby hd) ho ht k)
      · simp only [own_ok, Bool.and_eq_true, decide_eq_true_eq] at he
        simp only [own_len, own_cv, decide_eq_true_eq, and_true] at he
        obtain ⟨hd, rfl⟩ := he
        split at h
        · exact go X eT h.2 (fun t k => iremM X hx (g := mkF m pc L _) rfl (hb hby hd) rfl h.1 k)
        · exact stay h
      · simp only [own_ok, Bool.and_eq_true, decide_eq_true_eq] at he
        simp only [own_len, own_cv, decide_eq_true_eq, and_true] at he
        obtain ⟨hd, rfl⟩ := he
        split at h
        · exact go X eT h.2 (fun t k => XS.idiv X.here hx rfl (hb hby hd) rfl h.1 k)
        · exact stay h
      · simp only [own_ok, Bool.and_eq_true, decide_eq_true_eq] at he
        simp only [own_len, own_cv, decide_eq_true_eq, and_true] at he
        obtain ⟨hd, rfl⟩ := he
        split at h
        · exact go X eT h.2 (fun t k => XT.lrem X.here hx rfl (hb hby hd) rfl h.1 k)
        · exact stay h
      · simp only [own_ok, Bool.and_eq_true, decide_eq_true_eq] at he
        simp only [own_len, own_cv, decide_eq_true_eq, and_true] at he
        obtain ⟨hd, rfl⟩ := he
        split at h
        · exact go X eT h.2 (fun t k => XT.ldiv X.here hx rfl (hb hby hd) rfl h.1 k)
        · exact stay h
      · rename_i idx
        simp only [own_ok, Bool.and_eq_true, decide_eq_true_eq] at he
        simp only [own_len, own_cv, decide_eq_true_eq, and_true] at he
        obtain ⟨hd, rfl⟩ := he
        split at h
        · rename_i n' P hC'
          obtain ⟨w, hP, hlen, hcat, hsz, h⟩ := h
          obtain ⟨y, bytes, maxL, ret, rm, hM, w1, w2, w3, w4, hy, ⟨ps, rr, hsig, hpl⟩, hrc, hrs, hf, hlo⟩ := hC _ (own_lookC_mem hC')
          dsimp only at hM hpl
          obtain ⟨v, vm₁, ⟨T2, L2, k2, n2⟩, -, X2, ⟨Lc, hQ, l2, y2, z2⟩, st2⟩ := Jvm.LawKit.callS X hx (y := y) hown (mvT hZ w1) (mvT hZ w2) (mvT hZ w3) (mvT hZ w4) hy
            (backOf (W := E.2.2.2.2.2.2) (Q := fun v h L => v = some w ∧ L = [] ∧ h = E.2.2.2.2.1) (hM [] E.2.2.2.2.1 (st.take n').reverse w hP) hZ w4 w3 hf hlo) (g := mkF m pc L st) rfl (by rw [hml]; exact hsz) (argsL := (st.take n').reverse) (rest := st.drop n')
            (lenOf hsig (by rw [List.length_reverse, hlen]; exact hpl)) (by simp) (by show 2 * 0 + own_cat _ ≤ _; omega) (hb hby hd) (fun _ _ => ⟨rfl, eT, by rw [hrc]; exact hcl, by rw [hrs]; exact hsl⟩)
          dsimp only [Pt.U, Pt.locs, Pt.cells, Pt.slots] at X2 l2 y2 z2 st2 hQ
          subst l2 y2 z2
          obtain ⟨rfl, rfl, hh⟩ := hQ
          rw [hrc, hrs] at X2
          simp only [List.append_nil, Nat.add_zero] at X2
          exact go X2 hh h (fun t k => st2 t k)
        · exact stay h
      · rename_i idx
        simp only [own_ok, Bool.and_eq_true, decide_eq_true_eq] at he
        simp only [own_len, own_cv, decide_eq_true_eq, and_true] at he
        obtain ⟨hd, rfl⟩ := he
        split at h
        · rename_i n' P hC'
          split at h
          · rename_i a r hdrop
            obtain ⟨w, hP, hlen, hcat, hsz, h⟩ := h
            obtain ⟨y, bytes, maxL, ret, rm, hM, hEx, w1, w2, w5, w6, w3, w4, hy, ⟨ps, rr, hsig, hpl⟩, hrc, hrs, hf, hlo⟩ := hV _ (own_lookC_mem hC')
            dsimp only at hM hpl hEx
            obtain ⟨cq, kq, qa, qb, qc⟩ := isOf hZ eT (hEx _ _ _ _ hP)
            obtain ⟨v, vm₁, ⟨T2, L2, k2, n2⟩, -, X2, ⟨Lc, hQ, l2, y2, z2⟩, st2⟩ := X.virtualBack hx (y := y) (z := y) hown (mvT hZ w1) (mvT hZ w2) (notFace_of_selects (args := #[]) (mvT hZ w5)) (mvT hZ w5) (mvT hZ w6) hy
              (backOf (W := E.2.2.2.2.2.2) (Q := fun v h L => v = some w ∧ L = [] ∧ h = E.2.2.2.2.1) (hM [] E.2.2.2.2.1 (.ref a :: (st.take n').reverse) w hP) hZ w4 w3 hf hlo) qa qc (g := mkF m pc L st) rfl (by rw [hml]; exact hsz) (Steps.refl _) (argsL := (st.take n').reverse) (rest := r)
              (lenOf hsig (by rw [List.length_reverse, hlen]; exact hpl)) (by show st = _; rw [List.reverse_reverse, ← hdrop, List.take_append_drop]) (by show 2 * 0 + own_cat _ ≤ _; omega) (hb hby hd) (fun _ _ => ⟨rfl, eT, by rw [hrc]; exact hcl, by rw [hrs]; exact hsl⟩)
            dsimp only [Pt.U, Pt.locs, Pt.cells, Pt.slots] at X2 l2 y2 z2 st2 hQ
            subst l2 y2 z2
            obtain ⟨rfl, rfl, hh⟩ := hQ
            rw [hrc, hrs] at X2
            simp only [List.append_nil, Nat.add_zero] at X2
            exact go X2 hh h (fun t k => st2.trans k)
          · exact stay h
        · exact stay h
      · rename_i idx
        simp only [own_ok, Bool.and_eq_true, decide_eq_true_eq] at he
        simp only [own_len, own_cv, decide_eq_true_eq, and_true] at he
        obtain ⟨hd, rfl⟩ := he
        split at h
        · rename_i a r
          split at h
          · rename_i b v hF'
            obtain ⟨rfl, h⟩ := h
            obtain ⟨R0, O, nn, dd, w1, via, F1⟩ := hF _ (own_lookF_mem hF')
            obtain ⟨T2, X2, e2, st2⟩ := getF X hx hZ hown (host := "") (Or.inl w1) via eT F1 (g := mkF m pc L (.ref a :: r)) rfl rfl (hb hby hd)
            exact go X2 e2 h (fun t k => st2 t k)
          · exact stay h
        · exact stay h
      · simp only [own_ok, Bool.and_eq_true, decide_eq_true_eq] at he
        simp only [own_len, own_cv, decide_eq_true_eq, and_true] at he
        obtain ⟨hd, rfl⟩ := he
        split at h
        · rename_i a r
          split at h
          · rename_i b nn ty vs dd rest hA'
            obtain ⟨rfl, h⟩ := h
            obtain ⟨kk, cl, Ar, -, Sz, Mz, Hz, -⟩ := hA _ (by rw [hA']; exact List.mem_cons_self)
            dsimp only at Ar Sz Mz Hz
            refine go X eT h (fun t k => ?_)
            have k2 := X.arraylength hx (by rw [eT]; exact Ar.1) (State.isArrayOf_alike hZ.alike Ar.2.1) (g := mkF m pc L (.ref a :: r)) rfl rfl (hb hby hd) t
            rw [len_of Sz Mz] at k2
            exact k2 k
          · exact stay h
        · exact stay h
      · simp only [own_ok, Bool.and_eq_true, decide_eq_true_eq] at he
        simp only [own_len, own_cv, decide_eq_true_eq, and_true] at he
        obtain ⟨hd, rfl⟩ := he
        split at h
        · rename_i j a r
          split at h
          · rename_i b nn ty vs dd rest hA'
            obtain ⟨rfl, rfl, hj0, hjn, z, hz, h⟩ := h
            obtain ⟨kk, cl, Ar, -, Sz, Mz, Hz, -⟩ := hA _ (by rw [hA']; exact List.mem_cons_self)
            dsimp only at Ar Sz Mz Hz
            have hin : ¬ (j < 0 ∨ cl.slots.size ≤ j.toNatClampNeg) := own_inb Sz hj0 hjn
            exact go X eT h (fun t k => X.laload hx (j := j) (v := .long z) (by rw [eT]; exact Ar.1) (State.isArrayOf_alike hZ.alike Ar.2.1) Ar.2.2 hin (by rw [Hz _ (Nat.lt_of_not_le fun q => hin (Or.inr q)), hz]) (g := mkF m pc L (.int j :: .ref a :: r)) rfl rfl (hb hby hd) t k)
          · exact stay h
        · exact stay h
      · simp only [own_ok, Bool.and_eq_true, decide_eq_true_eq] at he
        simp only [own_len, own_cv, decide_eq_true_eq, and_true] at he
        obtain ⟨hd, rfl⟩ := he
        split at h
        · rename_i j a r
          split at h
          · rename_i b nn ty vs dd rest hA'
            obtain ⟨rfl, rfl, hj0, hjn, z, hz, h⟩ := h
            obtain ⟨kk, cl, Ar, -, Sz, Mz, Hz, -⟩ := hA _ (by rw [hA']; exact List.mem_cons_self)
            dsimp only at Ar Sz Mz Hz
            have hin : ¬ (j < 0 ∨ cl.slots.size ≤ j.toNatClampNeg) := own_inb Sz hj0 hjn
            exact go X eT h (fun t k => X.baloadBytes hx (j := j) (v := .int z) (by rw [eT]; exact Ar.1) (State.isArrayOf_alike hZ.alike Ar.2.1) Ar.2.2 hin (by rw [Hz _ (Nat.lt_of_not_le fun q => hin (Or.inr q)), hz]) (g := mkF m pc L (.int j :: .ref a :: r)) rfl rfl (hb hby hd) t k)
          · exact stay h
        · exact stay h
      · split at h
        · rename_i L' st' hs
          exact go X eT h (fun t k => own_stp_sound X hx hby hZ hown hw he hs k)
        · exact stay h
/-- what a return hands back -/
def own_top : FieldType → List Value → Option Value
  | .long, .long z :: _ => some (.long z)
  | .int, .int z :: _ => some (.int z)
  | .boolean, .int z :: _ => some (.int (z &&& 1))
  | .byte, .int z :: _ => some (.int (nar .byte z))
  | .char, .int z :: _ => some (.int (nar .char z))
  | .short, .int z :: _ => some (.int (nar .short z))
  | _, _ => none
def own_reti : FieldType → Instr
  | .long => .lreturn
  | _ => .ireturn
theorem own_ret {T : State} (X : Stand p l e R s m args below meth c T locs cells slots) (hx : p.tables.exec = Jvm.exec) {pc : Nat} {L : Array Slot} {st : List Value} {t : FieldType} {v : Value} (hret : meth.sig.returnType = some t) (hd : decode c.code pc = .ok (own_reti t, 1)) (ht : own_top t st = some v) {fs : List Frame}
    (hl : ∀ (f : JFrame) (acts : List Action), f.method = m → f.locked = none → f.entered = [] → (doReturn e (T.setTop f) acts (some v)).1 = T.setFrames fs) : Steps p.tables e below (T.setTop (mkF m pc L st)) (T.setFrames fs) := by
  unfold own_top at ht
  split at ht
  · cases ht; exact retOut X hx hret rfl (Or.inr (Or.inl ⟨rfl, rfl, _, rfl⟩)) hd hl
  · cases ht; exact retOut X hx hret rfl (Or.inl ⟨rfl, Or.inl rfl, _, rfl⟩) hd hl
  · cases ht; exact retN X hx (t := .boolean) hret (by simp) hd hl
  · cases ht; exact retN X hx (t := .byte) hret (by simp) hd hl
  · cases ht; exact retN X hx (t := .char) hret (by simp) hd hl
  · cases ht; exact retN X hx (t := .short) hret (by simp) hd hl
  · cases ht
/-- the end of a reading walk: at one of the returns, with this value -/
def own_retQ (rets : List Nat) (rt : FieldType) (v : Value) (pc : Nat) (_L : Array Slot) (st : List Value) : Prop := rets.contains pc = true ∧ own_top rt st = some v
theorem own_pure {y : MethodName} {bytes : ByteArray} {maxL N : Nat} {rt : FieldType} {rm : Room} {tab : List own_Ent} {ws : List Jvm.Cond} {P : Heap → List Value → Value → Prop} (rets : List Nat) (hp : plainFor y = true) (hw : ∀ d ∈ ws, d.before a0 Z = true)
    (hT : tab.all (own_ok bytes y.cls ws) = true) (hR : rets.all (fun q => decide (decode bytes q = .ok (own_reti rt, 1))) = true) (W : Nat) (C V : List own_Call) (hC : ∀ q ∈ C, own_CallOk l Z a0 y.cls rm W q) (hV : ∀ q ∈ V, own_VirtOk l Z a0 y.cls rm W q)
    (H : ∀ h as v, P h as v → ∃ L0 F A, argsToLocals as.toArray maxL = L0 ∧ (∀ q ∈ F, own_FldOk Z a0 y.cls h q) ∧ (∀ q ∈ A, own_ArrOk Z h q) ∧ own_wp [] tab (C, V, F, A, h, maxL, W) (own_retQ rets rt v) N 0 L0 []) : own_Pure l Z y bytes maxL (some rt) rm P := by
  intro ws' h0 as v hP
  refine MetFree.of_bodySF hp hisR ?_
  intro p e s m args below meth c s₁ Bd hml hQ hK
  obtain ⟨rfl, hZ, hh⟩ := hQ
  have hx := Bd.exec
  have hby := Bd.bytes
  have hown : s.vm.findClass y.cls = some m.cls := findClass_of_methodNamed Bd.named
  have X0 : Stand p l e rm s m as.toArray below meth c s₁ [] 0 0 := Stand.of_body Bd
  have e0 : s₁.heap = h0 := by rw [← hh, Bd.state]; rfl
  obtain ⟨L0, F, A, hL0, hF, hA, hwp⟩ := H h0 as v hP
  subst hL0
  obtain ⟨T, pc, L, st, X, eT, ⟨hpc, htop⟩, k⟩ := own_wp_sound hx hby hZ hown hw hT (E := (C, V, F, A, h0, maxL, W)) hml ⟨hC, hV, hF, hA⟩ (Nat.zero_le _) (Nat.zero_le _) N 0 _ [] X0 e0 hwp
  have hd : decode bytes pc = .ok (own_reti rt, 1) := by simpa using List.all_eq_true.mp hR pc (List.contains_iff_mem.mp hpc)
  obtain ⟨fs, hr, hrun, hended, hW, hsame⟩ := X.leave (v := some v) (fun h => by rw [Bd.returns] at h; cases h)
  refine ⟨_, _, k _ ?_, hrun, hended, _, _, rfl, ⟨rfl, rfl, ?_⟩, ⟨_, rfl⟩, hW, hsame.mono (Nat.zero_le _) (Nat.zero_le _)⟩
  · exact own_ret X hx Bd.returns (hb hby hd) htop hr
  · exact eT
end own_Sound
def own_tb0 : List own_Ent := [(0, .iload_n 0, 1, 0, .null), (1, .bipush 29, 3, 0, (.int 29)), (3, .iand, 4, 0, .null), (4, .istore_n 1, 5, 0, .null), (5, .iload_n 1, 6, 0, .null), (6, .invokestatic 7, 9, 0, .null), (9, .istore_n 2, 10, 0, .null), (10, .iload_n 1, 11, 0, .null), (11, .iconst 1, 12, 0, (.int 1)), (12, .iand, 13, 0, .null), (13, .ifCond .eq 7, 16, 20, .null), (16, .iconst 1, 17, 0, (.int 1)), (17, .goto 4, 0, 21, .null), (20, .iconst 0, 21, 0, (.int 0)), (21, .istore_n 3, 22, 0, .null), (22, .iload_n 1, 23, 0, .null), (23, .iconst 4, 24, 0, (.int 4)), (24, .iand, 25, 0, .null), (25, .ifCond .eq 7, 28, 32, .null), (28, .iconst 1, 29, 0, (.int 1)), (29, .goto 4, 0, 33, .null), (32, .iconst 0, 33, 0, (.int 0)), (33, .istore 4, 35, 0, .null), (35, .iload_n 1, 36, 0, .null), (36, .bipush 8, 38, 0, (.int 8)), (38, .iand, 39, 0, .null), (39, .ifCond .eq 7, 42, 46, .null), (42, .iconst 1, 43, 0, (.int 1)), (43, .goto 4, 0, 47, .null), (46, .iconst 0, 47, 0, (.int 0)), (47, .istore 5, 49, 0, .null), (49, .iload_n 1, 50, 0, .null), (50, .bipush 16, 52, 0, (.int 16)), (52, .iand, 53, 0, .null), (53, .ifCond .eq 7, 56, 60, .null), (56, .iconst 1, 57, 0, (.int 1)), (57, .goto 4, 0, 61, .null), (60, .iconst 0, 61, 0, (.int 0)), (61, .istore 6, 63, 0, .null), (63, .iconst 0, 64, 0, (.int 0)), (64, .istore 7, 66, 0, .null), (66, .iload_n 3, 67, 0, .null), (67, .ifCond .ne 8, 70, 75, .null), (70, .iload 6, 72, 0, .null), (72, .ifCond .eq 9, 75, 81, .null), (75, .iload 7, 77, 0, .null), (77, .iconst 1, 78, 0, (.int 1)), (78, .ior, 79, 0, .null), (79, .istore 7, 81, 0, .null), (81, .iload 4, 83, 0, .null), (83, .ifCond .ne 8, 86, 91, .null), (86, .iload 5, 88, 0, .null), (88, .ifCond .eq 9, 91, 97, .null), (91, .iload 7, 93, 0, .null), (93, .iconst 4, 94, 0, (.int 4)), (94, .ior, 95, 0, .null), (95, .istore 7, 97, 0, .null), (97, .iload_n 2, 98, 0, .null), (98, .iload 7, 100, 0, .null), (100, .if_icmp .ne 16, 103, 116, .null), (103, .iload_n 2, 104, 0, .null), (104, .iload_n 1, 105, 0, .null), (105, .invokestatic 13, 108, 0, .null), (108, .iload_n 1, 109, 0, .null), (109, .if_icmp .ne 7, 112, 116, .null), (112, .iconst 1, 113, 0, (.int 1)), (113, .goto 4, 0, 117, .null), (116, .iconst 0, 117, 0, (.int 0))]
theorem own_tb0_ok : own_tb0.all (own_ok code "com/example/selectra/selectra/os/EpollEventsFromInterestOpsPinLaw" tables_1) = true := by decide +kernel
def own_tb1 : List own_Ent := [(0, .iload_n 0, 1, 0, .null), (1, .bipush (-30), 3, 0, (.int (-30))), (3, .iand, 4, 0, .null), (4, .ifCond .eq 20, 7, 24, .null), (10, .dup, 11, 0, .null), (11, .iload_n 0, 12, 0, .null), (12, .invokestatic 13, 15, 0, .null), (24, .iconst 0, 25, 0, (.int 0)), (25, .istore_n 1, 26, 0, .null), (26, .iload_n 0, 27, 0, .null), (27, .bipush 17, 29, 0, (.int 17)), (29, .iand, 30, 0, .null), (30, .ifCond .eq 7, 33, 37, .null), (33, .iload_n 1, 34, 0, .null), (34, .iconst 1, 35, 0, (.int 1)), (35, .ior, 36, 0, .null), (36, .istore_n 1, 37, 0, .null), (37, .iload_n 0, 38, 0, .null), (38, .bipush 12, 40, 0, (.int 12)), (40, .iand, 41, 0, .null), (41, .ifCond .eq 7, 44, 48, .null), (44, .iload_n 1, 45, 0, .null), (45, .iconst 4, 46, 0, (.int 4)), (46, .ior, 47, 0, .null), (47, .istore_n 1, 48, 0, .null), (48, .iload_n 1, 49, 0, .null)]
theorem own_tb1_ok : own_tb1.all (own_ok prog_3_method_2_code "com/example/selectra/selectra/os/EpollEvents" tables_1) = true := by decide +kernel
def own_tb2 : List own_Ent := [(0, .iload_n 0, 1, 0, .null), (1, .bipush 24, 3, 0, (.int 24)), (3, .iand, 4, 0, .null), (4, .ifCond .eq 5, 7, 9, .null), (7, .iload_n 1, 8, 0, .null), (9, .iconst 0, 10, 0, (.int 0)), (10, .istore_n 2, 11, 0, .null), (11, .iload_n 0, 12, 0, .null), (12, .sipush 8193, 15, 0, (.int 8193)), (15, .iand, 16, 0, .null), (16, .ifCond .eq 7, 19, 23, .null), (19, .iload_n 2, 20, 0, .null), (20, .iconst 1, 21, 0, (.int 1)), (21, .ior, 22, 0, .null), (22, .istore_n 2, 23, 0, .null), (23, .iload_n 0, 24, 0, .null), (24, .iconst 1, 25, 0, (.int 1)), (25, .iand, 26, 0, .null), (26, .ifCond .eq 8, 29, 34, .null), (29, .iload_n 2, 30, 0, .null), (30, .bipush 16, 32, 0, (.int 16)), (32, .ior, 33, 0, .null), (33, .istore_n 2, 34, 0, .null), (34, .iload_n 0, 35, 0, .null), (35, .iconst 4, 36, 0, (.int 4)), (36, .iand, 37, 0, .null), (37, .ifCond .eq 8, 40, 45, .null), (40, .iload_n 2, 41, 0, .null), (41, .bipush 12, 43, 0, (.int 12)), (43, .ior, 44, 0, .null), (44, .istore_n 2, 45, 0, .null), (45, .iload_n 2, 46, 0, .null), (46, .iload_n 1, 47, 0, .null), (47, .iand, 48, 0, .null)]
theorem own_tb2_ok : own_tb2.all (own_ok prog_3_method_3_code "com/example/selectra/selectra/os/EpollEvents" tables_1) = true := by decide +kernel
abbrev own_tbR : List own_Ent := own_tb2
theorem own_tbR_ok : own_tbR.all (own_ok prog_3_method_3_code "com/example/selectra/selectra/os/EpollEvents" tables_1) = true := own_tb2_ok
def own_rdyF (z24 z8193 z1 z4 : Bool) (it : Int32) : Int32 :=
  bif z24 then (bif z4 then (bif z1 then (bif z8193 then 0 else 0 ||| 1) else (bif z8193 then 0 else 0 ||| 1) ||| 16) else (bif z1 then (bif z8193 then 0 else 0 ||| 1) else (bif z8193 then 0 else 0 ||| 1) ||| 16) ||| 12) &&& it else it
def own_rdy (ev it : Int32) : Int32 := own_rdyF (decide (ev &&& 24 = 0)) (decide (ev &&& 8193 = 0)) (decide (ev &&& 1 = 0)) (decide (ev &&& 4 = 0)) it
def own_P1 (_h : Heap) (as : List Value) (v : Value) : Prop := ∃ ev it, as = [.int ev, .int it] ∧ v = .int (own_rdy ev it)
set_option maxHeartbeats 2000000 in
theorem own_m1 (l : Launch) (Z : State) (a0 : Array Value) (hw : ∀ d ∈ tables_1, d.before a0 Z = true) : own_Pure l Z ⟨"com/example/selectra/selectra/os/EpollEvents", "toReadyOps", "(II)I"⟩ prog_3_method_3_code 3 (some .int) ({ frames := 0, cells := 0, slots := 0, locals := 0 } : Room) own_P1 := by
  refine own_pure (N := 60) (tab := own_tbR) [8, 48] (plainFor_of_name (by decide +kernel)) hw own_tbR_ok (by decide +kernel) 0 [] [] (fun q hq => by cases hq) (fun q hq => by cases hq) ?_
  rintro h as v ⟨ev, it, rfl, rfl⟩
  refine ⟨#[.val (.int ev), .val (.int it), .unset], [], [], by simp [argsToLocals, Value.category], (fun q hq => by cases hq), (fun q hq => by cases hq), ?_⟩
  unfold own_rdy
  refine And.intro (fun h0 => ?_) (fun h0 => And.intro rfl (by rw [decide_eq_false (show ¬ ev &&& 24 = 0 from h0)]; rfl))
  rw [decide_eq_true (show ev &&& 24 = 0 from h0)]
  refine And.intro (fun h1 => ?_) (fun h1 => ?_)
  · rw [decide_eq_true (show ev &&& 8193 = 0 from h1)]
    refine And.intro (fun h2 => ?_) (fun h2 => ?_)
    · rw [decide_eq_true (show ev &&& 1 = 0 from h2)]
      refine And.intro (fun h3 => And.intro rfl (by rw [decide_eq_true (show ev &&& 4 = 0 from h3)]; rfl)) (fun h3 => And.intro rfl (by rw [decide_eq_false (show ¬ ev &&& 4 = 0 from h3)]; rfl))
    · rw [decide_eq_false (show ¬ ev &&& 1 = 0 from h2)]
      refine And.intro (fun h3 => And.intro rfl (by rw [decide_eq_true (show ev &&& 4 = 0 from h3)]; rfl)) (fun h3 => And.intro rfl (by rw [decide_eq_false (show ¬ ev &&& 4 = 0 from h3)]; rfl))
  · rw [decide_eq_false (show ¬ ev &&& 8193 = 0 from h1)]
    refine And.intro (fun h2 => ?_) (fun h2 => ?_)
    · rw [decide_eq_true (show ev &&& 1 = 0 from h2)]
      refine And.intro (fun h3 => And.intro rfl (by rw [decide_eq_true (show ev &&& 4 = 0 from h3)]; rfl)) (fun h3 => And.intro rfl (by rw [decide_eq_false (show ¬ ev &&& 4 = 0 from h3)]; rfl))
    · rw [decide_eq_false (show ¬ ev &&& 1 = 0 from h2)]
      refine And.intro (fun h3 => And.intro rfl (by rw [decide_eq_true (show ev &&& 4 = 0 from h3)]; rfl)) (fun h3 => And.intro rfl (by rw [decide_eq_false (show ¬ ev &&& 4 = 0 from h3)]; rfl))
theorem own_or0 (x y : Int32) : x ||| y = 0 ↔ x = 0 ∧ y = 0 := by
  have a1 : ∀ a b : Int32, a &&& (a ||| b) = a := fun a b => by
    apply Int32.toBitVec_inj.mp
    simp only [Int32.toBitVec_and, Int32.toBitVec_or]
    ext i hi
    simp only [BitVec.getElem_and, BitVec.getElem_or]
    cases a.toBitVec[i] <;> cases b.toBitVec[i] <;> rfl
  have a0 : ∀ a : Int32, a &&& 0 = 0 := fun a => by
    apply Int32.toBitVec_inj.mp
    have z : (0 : Int32).toBitVec = 0#32 := rfl
    simp only [Int32.toBitVec_and, z]
    ext i hi
    simp
  have ac : ∀ a b : Int32, a ||| b = b ||| a := fun a b => by
    apply Int32.toBitVec_inj.mp
    simp only [Int32.toBitVec_or]
    ext i hi
    simp only [BitVec.getElem_or]
    cases a.toBitVec[i] <;> cases b.toBitVec[i] <;> rfl
  constructor
  · intro h
    exact ⟨by rw [← a1 x y, h, a0], by rw [← a1 y x, ac y x, h, a0]⟩
  · rintro ⟨rfl, rfl⟩; rfl
theorem own_dist (x a b c : Int32) (hc : c = a ||| b) : x &&& c = 0 ↔ x &&& a = 0 ∧ x &&& b = 0 := by
  have e : x &&& c = (x &&& a) ||| (x &&& b) := by
    rw [hc]
    apply Int32.toBitVec_inj.mp
    simp only [Int32.toBitVec_and, Int32.toBitVec_or]
    ext i hi
    simp only [BitVec.getElem_and, BitVec.getElem_or]
    cases x.toBitVec[i] <;> cases a.toBitVec[i] <;> cases b.toBitVec[i] <;> rfl
  rw [e, own_or0]
theorem own_andA (x a b : Int32) : x &&& a &&& b = x &&& (a &&& b) := by
  apply Int32.toBitVec_inj.mp
  simp only [Int32.toBitVec_and]
  ext i hi
  simp only [BitVec.getElem_and]
  cases x.toBitVec[i] <;> cases a.toBitVec[i] <;> cases b.toBitVec[i] <;> rfl
theorem own_low29 (x : Int32) : ∃ k : Fin 32, x &&& 29 = Int32.ofNat k.val &&& 29 := by
  have e1 : (x &&& 31).toInt = x.toInt % 2 ^ 5 := Jvm.Kit.i32_mask x 31 (k := 5) (by decide) (by decide)
  refine ⟨⟨(x.toInt % 32).toNat, by omega⟩, ?_⟩
  have e2 : x &&& 31 = Int32.ofNat (x.toInt % 32).toNat := Int32.toInt_inj.mp (by rw [e1, Int32.toInt_ofNat_small (by omega)]; omega)
  show x &&& 29 = Int32.ofNat (x.toInt % 32).toNat &&& 29
  rw [← e2, own_andA]
  rfl

def own_fi (s : Int32) : Int32 := bif decide (s &&& 12 = 0) then (bif decide (s &&& 17 = 0) then 0 else 0 ||| 1) else (bif decide (s &&& 17 = 0) then 0 else 0 ||| 1) ||| 4
def own_P2 (_h : Heap) (as : List Value) (v : Value) : Prop := ∃ s : Int32, as = [.int s] ∧ s &&& (-30) = 0 ∧ v = .int (own_fi s)
set_option maxHeartbeats 2000000 in
theorem own_m2 (l : Launch) (Z : State) (a0 : Array Value) (hw : ∀ d ∈ tables_1, d.before a0 Z = true) : own_Pure l Z ⟨"com/example/selectra/selectra/os/EpollEvents", "fromInterestOps", "(I)I"⟩ prog_3_method_2_code 2 (some .int) ({ frames := 0, cells := 0, slots := 0, locals := 0 } : Room) own_P2 := by
  refine own_pure (N := 60) (tab := own_tb1) [49] (plainFor_of_name (by decide +kernel)) hw own_tb1_ok (by decide +kernel) 0 [] [] (fun q hq => by cases hq) (fun q hq => by cases hq) ?_
  rintro h as v ⟨s, rfl, hs, rfl⟩
  refine ⟨#[.val (.int s), .unset], [], [], by simp [argsToLocals, Value.category], (fun q hq => by cases hq), (fun q hq => by cases hq), ?_⟩
  unfold own_fi
  refine And.intro (fun _ => ?_) (fun q => absurd hs q)
  refine And.intro (fun h1 => ?_) (fun h1 => ?_)
  · rw [decide_eq_true (show s &&& 17 = 0 from h1)]
    refine And.intro (fun h3 => And.intro rfl (by rw [decide_eq_true (show s &&& 12 = 0 from h3)]; rfl)) (fun h3 => And.intro rfl (by rw [decide_eq_false (show ¬ s &&& 12 = 0 from h3)]; rfl))
  · rw [decide_eq_false (show ¬ s &&& 17 = 0 from h1)]
    refine And.intro (fun h3 => And.intro rfl (by rw [decide_eq_true (show s &&& 12 = 0 from h3)]; rfl)) (fun h3 => And.intro rfl (by rw [decide_eq_false (show ¬ s &&& 12 = 0 from h3)]; rfl))
def own_B (z : Bool) : Int32 := bif z then 0 else 1
def own_K (k a b x : Int32) : Int32 := if a = 0 then (if b = 0 then x else x ||| k) else x ||| k
def own_exp (r w c a : Int32) : Int32 := own_K 4 w c (own_K 1 r a 0)
theorem own_plain : ∀ k : Fin 32, ((Int32.ofNat k.val &&& 29) &&& (-30) = 0) ∧ own_fi (Int32.ofNat k.val &&& 29) = own_exp (own_B (decide ((Int32.ofNat k.val &&& 29) &&& 1 = 0))) (own_B (decide ((Int32.ofNat k.val &&& 29) &&& 4 = 0))) (own_B (decide ((Int32.ofNat k.val &&& 29) &&& 8 = 0))) (own_B (decide ((Int32.ofNat k.val &&& 29) &&& 16 = 0))) ∧ own_rdy (own_fi (Int32.ofNat k.val &&& 29)) (Int32.ofNat k.val &&& 29) = Int32.ofNat k.val &&& 29 := by decide +kernel
abbrev own_C : List own_Call := [(7, 1, own_P2), (13, 2, own_P1)]
abbrev own_E (h : Heap) : own_Env := (own_C, [], [], [], h, 8, 0)
abbrev own_Q : Nat → Array Slot → List Value → Prop := own_retQ [117] .boolean (.int 1)
theorem own_s97 (ops s e r w c a x : Int32) (h : Heap) (H : e = x) (H2 : own_rdy e s = s) : own_wp [] own_tb0 (own_E h) own_Q 30 97 #[.val (.int ops), .val (.int s), .val (.int e), .val (.int r), .val (.int w), .val (.int c), .val (.int a), .val (.int x)] [] := by
  refine And.intro (fun q => absurd H q) (fun _ => ?_)
  refine Exists.intro (.int (s)) (And.intro ⟨_, _, rfl, by rw [H2]⟩ (And.intro rfl (And.intro (Nat.le_of_ble_eq_true rfl) (And.intro rfl ?_))))
  refine And.intro (fun q => absurd rfl q) (fun _ => ?_)
  exact And.intro rfl rfl
set_option maxHeartbeats 2000000 in
theorem own_s81 (ops s e r w c a x : Int32) (h : Heap) (H : e = own_K 4 w c x) (H2 : own_rdy e s = s) : own_wp [] own_tb0 (own_E h) own_Q 50 81 #[.val (.int ops), .val (.int s), .val (.int e), .val (.int r), .val (.int w), .val (.int c), .val (.int a), .val (.int x)] [] := by
  refine own_join (stop := [97]) (n1 := 20) (n2 := 30) ?_
  refine And.intro (fun q => And.intro trivial ?_) (fun q => And.intro (fun q2 => And.intro trivial ?_) (fun q2 => And.intro trivial ?_))
  · exact own_s97 ops s e r w c a (x ||| 4) h (by rw [H, show own_K 4 w c x = x ||| 4 from if_neg q]) H2
  · exact own_s97 ops s e r w c a x h (by rw [H, show own_K 4 w c x = x from (if_pos (Classical.byContradiction q)).trans (if_pos q2)]) H2
  · exact own_s97 ops s e r w c a (x ||| 4) h (by rw [H, show own_K 4 w c x = x ||| 4 from (if_pos (Classical.byContradiction q)).trans (if_neg q2)]) H2
set_option maxHeartbeats 2000000 in
theorem own_s66 (ops s e r w c a x : Int32) (h : Heap) (H : e = own_K 4 w c (own_K 1 r a x)) (H2 : own_rdy e s = s) : own_wp [] own_tb0 (own_E h) own_Q 70 66 #[.val (.int ops), .val (.int s), .val (.int e), .val (.int r), .val (.int w), .val (.int c), .val (.int a), .val (.int x)] [] := by
  refine own_join (stop := [81]) (n1 := 20) (n2 := 50) ?_
  refine And.intro (fun q => And.intro trivial ?_) (fun q => And.intro (fun q2 => And.intro trivial ?_) (fun q2 => And.intro trivial ?_))
  · exact own_s81 ops s e r w c a (x ||| 1) h (by rw [H, show own_K 1 r a x = x ||| 1 from if_neg q]) H2
  · exact own_s81 ops s e r w c a x h (by rw [H, show own_K 1 r a x = x from (if_pos (Classical.byContradiction q)).trans (if_pos q2)]) H2
  · exact own_s81 ops s e r w c a (x ||| 1) h (by rw [H, show own_K 1 r a x = x ||| 1 from (if_pos (Classical.byContradiction q)).trans (if_neg q2)]) H2
theorem own_s63 (ops s e r w c a : Int32) (h : Heap) (H : e = own_exp r w c a) (H2 : own_rdy e s = s) : own_wp [] own_tb0 (own_E h) own_Q 90 63 #[.val (.int ops), .val (.int s), .val (.int e), .val (.int r), .val (.int w), .val (.int c), .val (.int a), .unset] [] := by
  refine own_join (stop := [66]) (n1 := 20) (n2 := 70) ?_
  exact And.intro trivial (own_s66 ops s e r w c a 0 h H H2)
set_option maxHeartbeats 2000000 in
theorem own_s49 (ops s e r w c : Int32) (h : Heap) (H : e = own_exp r w c (own_B (decide (s &&& 16 = 0)))) (H2 : own_rdy e s = s) : own_wp [] own_tb0 (own_E h) own_Q 110 49 #[.val (.int ops), .val (.int s), .val (.int e), .val (.int r), .val (.int w), .val (.int c), .unset, .unset] [] := by
  refine own_join (stop := [63]) (n1 := 20) (n2 := 90) ?_
  refine And.intro (fun q => And.intro trivial ?_) (fun q => And.intro trivial ?_)
  · exact own_s63 ops s e r w c 0 h (by rw [H, show own_B (decide (s &&& 16 = 0)) = 0 from by rw [decide_eq_true (show s &&& 16 = 0 from q)]; rfl]) H2
  · exact own_s63 ops s e r w c 1 h (by rw [H, show own_B (decide (s &&& 16 = 0)) = 1 from by rw [decide_eq_false (show ¬ s &&& 16 = 0 from q)]; rfl]) H2
set_option maxHeartbeats 2000000 in
theorem own_s35 (ops s e r w : Int32) (h : Heap) (H : e = own_exp r w (own_B (decide (s &&& 8 = 0))) (own_B (decide (s &&& 16 = 0)))) (H2 : own_rdy e s = s) : own_wp [] own_tb0 (own_E h) own_Q 130 35 #[.val (.int ops), .val (.int s), .val (.int e), .val (.int r), .val (.int w), .unset, .unset, .unset] [] := by
  refine own_join (stop := [49]) (n1 := 20) (n2 := 110) ?_
  refine And.intro (fun q => And.intro trivial ?_) (fun q => And.intro trivial ?_)
  · exact own_s49 ops s e r w 0 h (by rw [H, show own_B (decide (s &&& 8 = 0)) = 0 from by rw [decide_eq_true (show s &&& 8 = 0 from q)]; rfl]) H2
  · exact own_s49 ops s e r w 1 h (by rw [H, show own_B (decide (s &&& 8 = 0)) = 1 from by rw [decide_eq_false (show ¬ s &&& 8 = 0 from q)]; rfl]) H2
set_option maxHeartbeats 2000000 in
theorem own_s22 (ops s e r : Int32) (h : Heap) (H : e = own_exp r (own_B (decide (s &&& 4 = 0))) (own_B (decide (s &&& 8 = 0))) (own_B (decide (s &&& 16 = 0)))) (H2 : own_rdy e s = s) : own_wp [] own_tb0 (own_E h) own_Q 150 22 #[.val (.int ops), .val (.int s), .val (.int e), .val (.int r), .unset, .unset, .unset, .unset] [] := by
  refine own_join (stop := [35]) (n1 := 20) (n2 := 130) ?_
  refine And.intro (fun q => And.intro trivial ?_) (fun q => And.intro trivial ?_)
  · exact own_s35 ops s e r 0 h (by rw [H, show own_B (decide (s &&& 4 = 0)) = 0 from by rw [decide_eq_true (show s &&& 4 = 0 from q)]; rfl]) H2
  · exact own_s35 ops s e r 1 h (by rw [H, show own_B (decide (s &&& 4 = 0)) = 1 from by rw [decide_eq_false (show ¬ s &&& 4 = 0 from q)]; rfl]) H2
set_option maxHeartbeats 2000000 in
theorem own_s10 (ops s e : Int32) (h : Heap) (H : e = own_exp (own_B (decide (s &&& 1 = 0))) (own_B (decide (s &&& 4 = 0))) (own_B (decide (s &&& 8 = 0))) (own_B (decide (s &&& 16 = 0)))) (H2 : own_rdy e s = s) : own_wp [] own_tb0 (own_E h) own_Q 170 10 #[.val (.int ops), .val (.int s), .val (.int e), .unset, .unset, .unset, .unset, .unset] [] := by
  refine own_join (stop := [22]) (n1 := 20) (n2 := 150) ?_
  refine And.intro (fun q => And.intro trivial ?_) (fun q => And.intro trivial ?_)
  · exact own_s22 ops s e 0 h (by rw [H, show own_B (decide (s &&& 1 = 0)) = 0 from by rw [decide_eq_true (show s &&& 1 = 0 from q)]; rfl]) H2
  · exact own_s22 ops s e 1 h (by rw [H, show own_B (decide (s &&& 1 = 0)) = 1 from by rw [decide_eq_false (show ¬ s &&& 1 = 0 from q)]; rfl]) H2
theorem own_s0 (ops : Int32) (h : Heap) : own_wp [] own_tb0 (own_E h) own_Q 190 0 #[.val (.int ops), .unset, .unset, .unset, .unset, .unset, .unset, .unset] [] := by
  obtain ⟨k, hk⟩ := own_low29 ops
  obtain ⟨p1, p2, p3⟩ := own_plain k
  rw [← hk] at p1 p2 p3
  refine own_join (stop := [10]) (n1 := 20) (n2 := 170) ?_
  refine Exists.intro (.int (own_fi (ops &&& 29))) (And.intro ⟨_, rfl, p1, rfl⟩ (And.intro rfl (And.intro (Nat.le_of_ble_eq_true rfl) (And.intro rfl ?_))))
  exact And.intro trivial (own_s10 ops (ops &&& 29) (own_fi (ops &&& 29)) h p2 p3)
theorem own_law (l : Launch) (Z : State) (a0 : Array Value) (hw : ∀ d ∈ tables_1, d.before a0 Z = true) : own_Pure l Z x code maxLocals ret room_1 (fun _ as v => (∃ a, as = [.int a]) ∧ v = .int 1) := by
  refine own_pure (N := 190) (tab := own_tb0) [117] (plainFor_of_name (by decide +kernel)) hw own_tb0_ok (by decide +kernel) 0 own_C [] ?_ (fun q hq => by cases hq) ?_
  · intro q hq
    simp only [own_C, List.mem_cons, List.not_mem_nil, or_false] at hq
    rcases hq with rfl | rfl
    · exact ⟨_, _, _, _, _, own_m2 l Z a0 hw, hw _ (List.mem_of_getElem? (i := 0) rfl), hw _ (List.mem_of_getElem? (i := 1) rfl), hw _ (List.mem_of_getElem? (i := 2) rfl), hw _ (List.mem_of_getElem? (i := 3) rfl), by decide, ⟨_, _, (by decide +kernel : parseMethodDescriptor "(I)I" = some ⟨[.int], some .int⟩), rfl⟩, rfl, rfl, by decide, by decide⟩
    · exact ⟨_, _, _, _, _, own_m1 l Z a0 hw, hw _ (List.mem_of_getElem? (i := 4) rfl), hw _ (List.mem_of_getElem? (i := 5) rfl), hw _ (List.mem_of_getElem? (i := 2) rfl), hw _ (List.mem_of_getElem? (i := 6) rfl), by decide, ⟨_, _, (by decide +kernel : parseMethodDescriptor "(II)I" = some ⟨[.int, .int], some .int⟩), rfl⟩, rfl, rfl, by decide, by decide⟩
  · rintro h as v ⟨⟨x, rfl⟩, rfl⟩
    exact ⟨#[.val (.int x), .unset, .unset, .unset, .unset, .unset, .unset, .unset], [], [], by simp [argsToLocals, Value.category, maxLocals], (fun q hq => by cases hq), (fun q hq => by cases hq), own_s0 x h⟩
set_option maxRecDepth 65536 in
theorem comes_1 {Post : Tables → Env → Array Value → State → Outcome → State → Prop} (hpost : ∀ tb e args s v u, (limb_1_1.after args s (.returned v) u = true ∧ limb_1_2.after args s (.returned v) u = true ∧ True) → FrameEnd s (.returned v) u (Jvm.fieldLocs frame_1_writes args s ++ Jvm.arrayLocs frame_1_arrays args s ++ Jvm.staticLocs frame_1_statics s) 0 0 → Post tb e args s (.returned v) u) :
    ArmFor flags0 classFile x code maxLocals ret World_1 tables_1 room_1 Calls_1 rest_1 Pre_1 Post := by
  intro l hfl _ _ p e ha hc hk s m args below hf hA hF happ hP
  obtain ⟨hcalls, hrest, hpre⟩ := hP
  obtain ⟨-, -, -, hnamed, -, -, -, hat⟩ := (Spec.applies_iff hf).mp happ
  obtain ⟨hg, hn⟩ := and_e (Cond.before_iff.mp (show (Jvm.Cond.and given_1 narrow_1).before args s = true from hpre))
  obtain ⟨hcount, k0⟩ := and_e hg
  obtain ⟨w0, rfl⟩ : ∃ w0 : Value, args = #[w0] := by
    have hs : args.size = 1 := by simpa [Cond.value, given_1] using hcount
    obtain ⟨L⟩ := args
    match L, hs with
    | [w0], _ => exact ⟨w0, rfl⟩
  have hw := fun d (hd : d ∈ tables_1) => atoms_spec (ws := Jvm.Cond.code x code maxLocals ret :: tables_1) hat d (List.mem_cons_of_mem _ hd)
  obtain ⟨i0, ei0⟩ := is_v k0
  obtain rfl : w0 = (.int i0) := Option.some.inj ei0
  obtain ⟨n, o, h1, h2, h3, _, L, rfl, ⟨rfl, rfl, hh⟩, hq⟩ := own_law l s _ hw tables_1 s.heap [.int i0] (.int 1) ⟨⟨i0, rfl⟩, rfl⟩ p e ha hc hk s m _ below hf ((Spec.applies_iff_loose hf).mp happ).1 ⟨rfl, State.Warmed39.refl s, rfl⟩ trivial
  refine ⟨n, _, h1, h2, h3, hpost _ _ _ _ _ _ ⟨Cond.after_iff.mpr rfl, Cond.after_iff.mpr (eq_i res_at (Term.int_eval (1)) rfl), trivial⟩ ⟨hq.1, hq.2.1, (hq.2.2.sift fun y hy => nomatch hy).mono (by decide) (by decide)⟩⟩
theorem main_1_1 : Claimed_1_1 := comes_1 fun _ _ _ _ _ _ h hF => ⟨h.1, hF⟩
theorem main_1_2 : Claimed_1_2 := comes_1 fun _ _ _ _ _ _ h hF => ⟨h.2.1, hF⟩
end Jvm.Pilot.@@N@@
namespace Jvm.Pilot.@@N@@
open Jvm Jvm.ClassFile Sem Op Lib Jvm.Free Jvm.Stand Jvm.Pilot.@@N@@.Jvm.D
/-! MADE BY PROGRAM (witnessworld.py) out of the Statement's table words and the real class files: 9 classes; the members and pool entries that the words name. The judged class is class 1, her method 1. -/
namespace start1
open Jvm.ClassFile
def u (s : String) : CpInfo := .utf8 (stringToUtf16 s)
/-- a pool by its gaps: so many unusable entries, then the entry; so many at the end -/
def gap : Nat → List CpInfo → List CpInfo
  | 0, r => r
  | n + 1, r => .unusable :: gap n r
def poolList (es : List (Nat × CpInfo)) (last : Nat) : List CpInfo := es.foldr (fun e r => gap e.1 (e.2 :: r)) (gap last [])
def pool (es : List (Nat × CpInfo)) (last : Nat) : Array CpInfo := ⟨poolList es last⟩
def fileOf (pool : Array CpInfo) (this : Nat) (attrs : Array Attribute := #[]) (ms : Array MethodInfo := #[]) (fl : Nat := 33) (sup : Nat := 0) (ifs : Array Nat := #[]) (fds : Array FieldInfo := #[]) : ClassFile where
  minorVersion := 0
  majorVersion := 65
  constantPool := pool
  accessFlags := fl
  thisClass := this
  superClass := sup
  interfaces := ifs
  fields := fds
  methods := ms
  attributes := attrs
def plain (name : String) (sup : Option ClassId) : Class where
  name := name
  kind := .ordinary
  loader := none
  accessFlags := 33
  super := sup
  interfaces := #[]
  cf := none
  fields := #[]
  methods := #[]
  instanceTypes := #[]
  staticTypes := #[]
  resolved := #[]
  callSites := []
  init := .initialized
  statics := none
  mirror := none

def pool0 : Array CpInfo := pool [(5, u "<init>"), (0, u "()V"), (1, .class_ 10), (1, u "java/lang/Object")] 113

def k0m0 : Method := { name := "<init>", desc := "()V", sig := { parameters := [], returnType := none }, accessFlags := 1, code := none }
/-- java/lang/Object -/
def k0 : Class := { plain "java/lang/Object" none with
  accessFlags := 33
  interfaces := #[]
  cf := some (fileOf pool0 8 #[] #[{ accessFlags := 1, nameIndex := 5, descriptorIndex := 6, attributes := #[] }] 33 0 #[] #[])
  fields := #[]
  methods := #[k0m0]
  instanceTypes := #[]
  staticTypes := #[]
  resolved := Array.replicate 124 none
  statics := none }

def pool1 : Array CpInfo := pool [(2, .class_ 4), (1, u "java/lang/Object"), (0, u "<init>"), (0, u "()V"), (0, .methodref 8 9), (0, .class_ 10), (0, .nameAndType 11 12), (0, u "com/example/selectra/selectra/os/EpollEvents"), (0, u "fromInterestOps"), (0, u "(I)I"), (0, .methodref 8 14), (0, .nameAndType 15 16), (0, u "toReadyOps"), (0, u "(II)I"), (0, .class_ 18), (0, u "com/example/selectra/selectra/os/EpollEventsFromInterestOpsPinLaw"), (2, u "law"), (0, u "(I)Z")] 3

def k1m0 : Method := { name := "<init>", desc := "()V", sig := { parameters := [], returnType := none }, accessFlags := 2, code := none }
def k1c1 : Code := { maxStack := 2, maxLocals := 8, code := code, exceptionTable := #[], attributes := #[] }
def k1m1 : Method := { name := "law", desc := "(I)Z", sig := { parameters := [.int], returnType := some .boolean }, accessFlags := 9, code := some k1c1 }
/-- com/example/selectra/selectra/os/EpollEventsFromInterestOpsPinLaw -/
def k1 : Class := { plain "com/example/selectra/selectra/os/EpollEventsFromInterestOpsPinLaw" (some 0) with
  accessFlags := 49
  interfaces := #[]
  cf := some (fileOf pool1 17 #[] #[{ accessFlags := 2, nameIndex := 5, descriptorIndex := 6, attributes := #[] }, { accessFlags := 9, nameIndex := 21, descriptorIndex := 22, attributes := #[] }] 49 2 #[] #[])
  fields := #[]
  methods := #[k1m0, k1m1]
  instanceTypes := #[]
  staticTypes := #[]
  resolved := Array.replicate 26 none
  statics := none }

def pool2 : Array CpInfo := pool [(4, .class_ 6), (1, u "java/lang/Object"), (0, u "<init>"), (0, u "()V"), (0, .class_ 10), (0, u "com/example/selectra/selectra/os/EpollEvents"), (15, u "EPOLLIN"), (0, u "I"), (2, u "EPOLLOUT"), (1, u "EPOLLERR"), (1, u "EPOLLHUP"), (1, u "EPOLLRDHUP"), (1, u "INPUT_OPS"), (1, u "OUTPUT_OPS"), (3, u "fromInterestOps"), (0, u "(I)I"), (1, u "toReadyOps"), (0, u "(II)I")] 17

def k2m0 : Method := { name := "<init>", desc := "()V", sig := { parameters := [], returnType := none }, accessFlags := 2, code := none }
def k2c1 : Code := { maxStack := 3, maxLocals := 2, code := prog_3_method_2_code, exceptionTable := #[], attributes := #[] }
def k2m1 : Method := { name := "fromInterestOps", desc := "(I)I", sig := { parameters := [.int], returnType := some .int }, accessFlags := 8, code := some k2c1 }
def k2c2 : Code := { maxStack := 2, maxLocals := 3, code := prog_3_method_3_code, exceptionTable := #[], attributes := #[] }
def k2m2 : Method := { name := "toReadyOps", desc := "(II)I", sig := { parameters := [.int, .int], returnType := some .int }, accessFlags := 8, code := some k2c2 }
/-- com/example/selectra/selectra/os/EpollEvents -/
def k2 : Class := { plain "com/example/selectra/selectra/os/EpollEvents" (some 0) with
  accessFlags := 48
  interfaces := #[]
  cf := some (fileOf pool2 9 #[] #[{ accessFlags := 2, nameIndex := 7, descriptorIndex := 8, attributes := #[] }, { accessFlags := 8, nameIndex := 44, descriptorIndex := 45, attributes := #[] }, { accessFlags := 8, nameIndex := 47, descriptorIndex := 48, attributes := #[] }] 48 4 #[] #[{ accessFlags := 24, nameIndex := 26, descriptorIndex := 27, attributes := #[] }, { accessFlags := 24, nameIndex := 30, descriptorIndex := 27, attributes := #[] }, { accessFlags := 24, nameIndex := 32, descriptorIndex := 27, attributes := #[] }, { accessFlags := 24, nameIndex := 34, descriptorIndex := 27, attributes := #[] }, { accessFlags := 24, nameIndex := 36, descriptorIndex := 27, attributes := #[] }, { accessFlags := 26, nameIndex := 38, descriptorIndex := 27, attributes := #[] }, { accessFlags := 26, nameIndex := 40, descriptorIndex := 27, attributes := #[] }])
  fields := #[{ name := "EPOLLIN", type := .int, accessFlags := 24, slot := 0, constantValue := 0 }, { name := "EPOLLOUT", type := .int, accessFlags := 24, slot := 1, constantValue := 0 }, { name := "EPOLLERR", type := .int, accessFlags := 24, slot := 2, constantValue := 0 }, { name := "EPOLLHUP", type := .int, accessFlags := 24, slot := 3, constantValue := 0 }, { name := "EPOLLRDHUP", type := .int, accessFlags := 24, slot := 4, constantValue := 0 }, { name := "INPUT_OPS", type := .int, accessFlags := 26, slot := 5, constantValue := 0 }, { name := "OUTPUT_OPS", type := .int, accessFlags := 26, slot := 6, constantValue := 0 }]
  methods := #[k2m0, k2m1, k2m2]
  instanceTypes := #[]
  staticTypes := #[.int, .int, .int, .int, .int, .int, .int]
  resolved := Array.replicate 66 none
  statics := none }

def pool3 : Array CpInfo := pool [(1, u "java/lang/Cloneable"), (0, .class_ 1), (0, u "java/lang/Object"), (0, .class_ 3)] 3

/-- java/lang/Cloneable -/
def k3 : Class := { plain "java/lang/Cloneable" (some 0) with
  accessFlags := 1537
  interfaces := #[]
  cf := some (fileOf pool3 2 #[] #[] 1537 4 #[] #[])
  fields := #[]
  methods := #[]
  instanceTypes := #[]
  staticTypes := #[]
  resolved := Array.replicate 8 none
  statics := none }

def pool4 : Array CpInfo := pool [(1, u "java/io/Serializable"), (0, .class_ 1), (0, u "java/lang/Object"), (0, .class_ 3)] 3

/-- java/io/Serializable -/
def k4 : Class := { plain "java/io/Serializable" (some 0) with
  accessFlags := 1537
  interfaces := #[]
  cf := some (fileOf pool4 2 #[] #[] 1537 4 #[] #[])
  fields := #[]
  methods := #[]
  instanceTypes := #[]
  staticTypes := #[]
  resolved := Array.replicate 8 none
  statics := none }

/-- the primitive byte -/
def k5 : Class := { plain "byte" none with kind := .primitive 'B', accessFlags := 0x411 }
/-- [B -/
def k6 : Class := { plain "[B" (some 0) with kind := .array 5 .byte, interfaces := #[3, 4], accessFlags := 1041 }

/-- the primitive int -/
def k7 : Class := { plain "int" none with kind := .primitive 'I', accessFlags := 0x411 }
/-- [I -/
def k8 : Class := { plain "[I" (some 0) with kind := .array 7 .int, interfaces := #[3, 4], accessFlags := 1041 }

def heap : Heap := #[]
def classes : Array Class := #[k0, k1, k2, k3, k4, k5, k6, k7, k8]
def interned : List (Array UInt16 × Addr) := []
def slotsUsed : Nat := 0
def theMethod : MethodId := ⟨1, 1⟩
def args0 : Array Value := #[.int 5]
def aboutOver (below : List Frame) : State where
  vm := { classes := classes, interned := interned.toArray }
  heap := heap
  slotsUsed := slotsUsed
  threads := #[{ frames := .invoking theMethod args0 :: below }]
def below0 : List Frame := [.native { method := ⟨0, 0⟩, args := #[] }]
def about1 : State := aboutOver below0
def p0 : Program := .bare "" "" ""
def e0 : Env := launch0.env 0 0 0
theorem w_frames : about1.frames = Frame.invoking theMethod args0 :: below0 := rfl
set_option maxRecDepth 65536 in
theorem w_args : argsFit about1.vm theMethod args0 = true := by decide +kernel
set_option maxRecDepth 65536 in
theorem w_heap : heapFits about1 = true := by decide +kernel
set_option maxRecDepth 65536 in
theorem w_runnable : about1.curStatus? = some .runnable := by decide +kernel
set_option maxRecDepth 65536 in
theorem w_alone : about1.alone = true := by decide +kernel
set_option maxRecDepth 65536 in
theorem w_named : about1.methodNamed? x = some theMethod := by decide +kernel
set_option maxRecDepth 65536 in
theorem w_hears : about1.hears theMethod below0 = true := by decide +kernel
set_option maxRecDepth 65536 in
theorem w_ripe : about1.ripe theMethod args0 below0 = true := by decide +kernel
theorem w_running : about1.status = .running := rfl
set_option maxRecDepth 65536 in
theorem w_room : about1.hasRoom e0.platform room_1 = true :=
  launch0.hasRoom_least _ room_1 (by decide +kernel) (by decide +kernel) (by decide +kernel) (by decide +kernel) (by decide +kernel) (by decide +kernel)
theorem allAtoms_all (ts : List Jvm.Cond) (a : Array Jvm.Value) (st : Jvm.State) : (allAtoms ts).before a st = ts.all (fun c => c.before a st) := by
  induction ts with
  | nil => rfl
  | cons c t ih =>
    show (Jvm.Cond.and c (allAtoms t)).before a st = _
    rw [Jvm.Cond.before_and, ih, List.all_cons]
def words1 : List Jvm.Cond := Jvm.Cond.code x code maxLocals ret :: tables_1
/-- a 'code' word, met by the world's own term for the bytes: nothing is compared byte by byte -/
theorem code_word {y : MethodName} {bytes : ByteArray} {mx : Nat} {rt : Option FieldType} {a : Array Value} {s : State} {m : MethodId} {meth : Method} {c : Code} (h1 : s.methodNamed? y = some m) (h2 : s.vm.method? m = some meth) (h3 : meth.code = some c) (h4 : c.code = bytes)
    (h5 : (c.maxLocals == mx && c.exceptionTable.isEmpty && decide (c.maxStack ≤ mostOperands) && decide (meth.sig.returnType = rt) && !meth.locks && decide (parseMethodDescriptor y.desc = some meth.sig)) = true) : (Jvm.Cond.code y bytes mx rt).before a s = true := by
  simp only [Bool.and_eq_true, beq_iff_eq, Bool.not_eq_true', decide_eq_true_eq] at h5
  obtain ⟨⟨⟨⟨⟨g1, g2⟩, g3⟩, g4⟩, g5⟩, g6⟩ := h5
  simp [Cond.before, Cond.holds, Cond.value, h1, h2, h3, h4, g1, g2, g3, g4, g5, g6]
def isCode : Jvm.Cond → Bool
  | .code _ _ _ _ => true
  | _ => false
theorem all_split {L : List Jvm.Cond} {P : Jvm.Cond → Bool} (h1 : L.all (fun c => isCode c || P c) = true) (h2 : ∀ c ∈ L.filter isCode, P c = true) : L.all P = true := by
  refine List.all_eq_true.mpr fun c hc => ?_
  have h := List.all_eq_true.mp h1 c hc
  rcases Bool.eq_false_or_eq_true (isCode c) with hi | hi
  · exact h2 c (List.mem_filter.mpr ⟨hc, hi⟩)
  · simpa [hi] using h
set_option maxRecDepth 65536 in
theorem w_c0 : (Jvm.Cond.code x code maxLocals ret).before args0 about1 = true := code_word (m := ⟨1, 1⟩) (meth := k1m1) (c := k1c1) (by decide +kernel) rfl rfl rfl (by decide +kernel)
set_option maxRecDepth 65536 in
theorem w_c1 : (Jvm.Cond.code ({ cls := "com/example/selectra/selectra/os/EpollEvents", name := "fromInterestOps", desc := "(I)I" } : Jvm.MethodName) prog_3_method_2_code (2 : Nat) (Option.some Jvm.ClassFile.FieldType.int)).before args0 about1 = true := code_word (m := ⟨2, 1⟩) (meth := k2m1) (c := k2c1) (by decide +kernel) rfl rfl rfl (by decide +kernel)
set_option maxRecDepth 65536 in
theorem w_c2 : (Jvm.Cond.code ({ cls := "com/example/selectra/selectra/os/EpollEvents", name := "toReadyOps", desc := "(II)I" } : Jvm.MethodName) prog_3_method_3_code (3 : Nat) (Option.some Jvm.ClassFile.FieldType.int)).before args0 about1 = true := code_word (m := ⟨2, 2⟩) (meth := k2m2) (c := k2c2) (by decide +kernel) rfl rfl rfl (by decide +kernel)
def codes1 : List Jvm.Cond := [Jvm.Cond.code x code maxLocals ret, Jvm.Cond.code ({ cls := "com/example/selectra/selectra/os/EpollEvents", name := "fromInterestOps", desc := "(I)I" } : Jvm.MethodName) prog_3_method_2_code (2 : Nat) (Option.some Jvm.ClassFile.FieldType.int), Jvm.Cond.code ({ cls := "com/example/selectra/selectra/os/EpollEvents", name := "toReadyOps", desc := "(II)I" } : Jvm.MethodName) prog_3_method_3_code (3 : Nat) (Option.some Jvm.ClassFile.FieldType.int)]
set_option maxRecDepth 65536 in
theorem codes_eq : words1.filter isCode = codes1 := rfl
theorem w_codes : ∀ c ∈ words1.filter isCode, c.before args0 about1 = true := by
  rw [codes_eq]
  intro c hc
  simp only [codes1, List.mem_cons, List.not_mem_nil, or_false] at hc
  rcases hc with rfl | rfl | rfl
  · exact w_c0
  · exact w_c1
  · exact w_c2
set_option maxRecDepth 65536 in
theorem w_t1 : words1.all (fun c => isCode c || c.before args0 about1) = true := by decide +kernel
theorem w_tables : (allAtoms (Jvm.Cond.code x code maxLocals ret :: tables_1)).before args0 about1 = true := by
  rw [allAtoms_all]
  show words1.all (fun c => c.before args0 about1) = true
  refine all_split ?_ w_codes
  rw [w_t1]
set_option maxRecDepth 65536 in
theorem w_case : (Jvm.Cond.and given_1 narrow_1).before args0 about1 = true := by decide +kernel
theorem w_applies : (headSpec (Jvm.Cond.code x code maxLocals ret :: tables_1) room_1).applies x e0.platform about1 = true :=
  (Spec.applies_iff w_frames).mpr ⟨w_running, w_runnable, w_alone, w_named, w_hears, w_ripe, w_room, w_tables⟩
theorem atStart : AtStart classFile x code maxLocals ret World_1 tables_1 room_1 Calls_1 rest_1 Pre_1 launch0 p0 e0 about1 theMethod args0 below0 :=
  ⟨lists_1, trivial, launch0.admits_env _ _ _, launch0.least_env, fairChoices_fair.cas, fairChoices_fair.clock, w_frames, w_args, w_heap, w_applies, trivial, trivial, w_case⟩
end start1
theorem witness_1 : WitnessClaimed_1 := ⟨start1.p0, start1.e0, start1.about1, start1.theMethod, start1.args0, start1.below0, start1.atStart⟩
end Jvm.Pilot.@@N@@
