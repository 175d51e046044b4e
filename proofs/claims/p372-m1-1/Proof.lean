import JvmDerived
import JvmDerived.Pilot.@@N@@Statement
import JvmDerived.Pilot.@@N@@Code
set_option linter.unusedVariables false
set_option linter.unusedSimpArgs false
@@BLOCK:NumsL.lean.txt@@
namespace Jvm.Pilot.@@N@@
open Jvm Jvm.ClassFile Sem Op Lib Jvm.Free Jvm.Stand Jvm.LawKit Jvm.RoadKit Bundle Jvm.Pilot.@@N@@.Jvm.D
/-! ## OWN EVALUATOR: a run of plain bytecode (ints, longs, references that are only carried; static calls by contract) as one Prop that unfolds by computation.
An entry of a table: pc, the instruction, the next pc, the target of a branch, the constant that it pushes. -/
abbrev own_Ent := Nat × Instr × Nat × Nat × Value
def own_look : List own_Ent → Nat → Option (Instr × Nat × Nat × Value)
  | [], _ => none
  | e :: t, pc => bif Nat.beq e.1 pc then some e.2 else own_look t pc
theorem own_look_mem : ∀ {tab : List own_Ent} {pc : Nat} {r : Instr × Nat × Nat × Value}, own_look tab pc = some r → (pc, r) ∈ tab
  | [], _, _, h => by simp [own_look] at h
  | e :: t, pc, r, h => by
    simp only [own_look] at h
    cases hb : Nat.beq e.1 pc with
    | true =>
      rw [hb] at h
      have h1 : e.1 = pc := Nat.eq_of_beq_eq_true hb
      have h2 : e.2 = r := Option.some.inj h
      subst h1 h2
      exact List.mem_cons_self
    | false => rw [hb] at h; exact List.mem_cons_of_mem _ (own_look_mem h)
/-- what a conditional branch asks -/
def own_icmp : ClassFile.Cond → Int32 → Int32 → Prop
  | .eq, a, b => a = b
  | .ne, a, b => ¬ a = b
  | .lt, a, b => a < b
  | .ge, a, b => b ≤ a
  | .gt, a, b => b < a
  | .le, a, b => a ≤ b
theorem own_icmp_iff {cd : ClassFile.Cond} {a b : Int32} : if_icmp.holds cd a b = true ↔ own_icmp cd a b := by
  cases cd <;> simp [if_icmp.holds, own_icmp]
theorem own_if_iff {cd : ClassFile.Cond} {a : Int32} : ifCond.holds cd a = true ↔ own_icmp cd a 0 := by
  cases cd <;> simp [ifCond.holds, own_icmp]
def own_ldI (L : Array Slot) (st : List Value) (k : Nat) : Option (Array Slot × List Value) :=
  match L[k]? with
  | some (.val (.int v)) => some (L, .int v :: st)
  | _ => none
def own_ldJ (L : Array Slot) (st : List Value) (k : Nat) : Option (Array Slot × List Value) :=
  match L[k]? with
  | some (.val (.long v)) => some (L, .long v :: st)
  | _ => none
def own_ldA (L : Array Slot) (st : List Value) (k : Nat) : Option (Array Slot × List Value) :=
  match L[k]? with
  | some (.val (.ref a)) => some (L, .ref a :: st)
  | _ => none
def own_put (L : Array Slot) (k : Nat) (v : Value) (r : List Value) : Option (Array Slot × List Value) :=
  match storeLocals L k v with
  | some L' => some (L', r)
  | none => none
def own_stI (L : Array Slot) (st : List Value) (k : Nat) : Option (Array Slot × List Value) :=
  match st with
  | .int v :: r => own_put L k (.int v) r
  | _ => none
def own_stJ (L : Array Slot) (st : List Value) (k : Nat) : Option (Array Slot × List Value) :=
  match st with
  | .long v :: r => own_put L k (.long v) r
  | _ => none
def own_stA (L : Array Slot) (st : List Value) (k : Nat) : Option (Array Slot × List Value) :=
  match st with
  | .ref v :: r => own_put L k (.ref v) r
  | _ => none
def own_bI (L : Array Slot) (st : List Value) (f : Int32 → Int32 → Int32) : Option (Array Slot × List Value) :=
  match st with
  | .int y :: .int x :: r => some (L, .int (f x y) :: r)
  | _ => none
def own_bJ (L : Array Slot) (st : List Value) (f : Int64 → Int64 → Int64) : Option (Array Slot × List Value) :=
  match st with
  | .long y :: .long x :: r => some (L, .long (f x y) :: r)
  | _ => none
def own_sJ (L : Array Slot) (st : List Value) (f : Int64 → Int32 → Int64) : Option (Array Slot × List Value) :=
  match st with
  | .int y :: .long x :: r => some (L, .long (f x y) :: r)
  | _ => none
def own_uI (L : Array Slot) (st : List Value) (f : Int32 → Int32) : Option (Array Slot × List Value) :=
  match st with
  | .int x :: r => some (L, .int (f x) :: r)
  | _ => none
/-- i2c, as the machine reckons it -/
def own_i2c (x : Int32) : Int32 := x.toUInt32.toUInt16.toUInt32.toInt32
/-- a straight step -/
def own_stp (L : Array Slot) (st : List Value) (cv : Value) : Instr → Option (Array Slot × List Value)
  | .iconst _ => some (L, cv :: st)
  | .bipush _ => some (L, cv :: st)
  | .sipush _ => some (L, cv :: st)
  | .lconst _ => some (L, cv :: st)
  | .ldc _ => some (L, cv :: st)
  | .ldc2_w _ => some (L, cv :: st)
  | .iload k => own_ldI L st k
  | .iload_n k => own_ldI L st k.val
  | .lload k => own_ldJ L st k
  | .lload_n k => own_ldJ L st k.val
  | .aload k => own_ldA L st k
  | .aload_n k => own_ldA L st k.val
  | .istore k => own_stI L st k
  | .istore_n k => own_stI L st k.val
  | .lstore k => own_stJ L st k
  | .lstore_n k => own_stJ L st k.val
  | .astore k => own_stA L st k
  | .astore_n k => own_stA L st k.val
  | .iadd => own_bI L st (fun x y => x + y)
  | .isub => own_bI L st (fun x y => x - y)
  | .imul => own_bI L st (fun x y => x * y)
  | .iand => own_bI L st (fun x y => x &&& y)
  | .ior => own_bI L st (fun x y => x ||| y)
  | .ixor => own_bI L st (fun x y => x ^^^ y)
  | .ishl => own_bI L st (fun x y => x <<< (y &&& 31))
  | .ishr => own_bI L st (fun x y => x >>> (y &&& 31))
  | .iushr => own_bI L st (fun x y => XT.ushr x y)
  | .ladd => own_bJ L st (fun x y => x + y)
  | .lsub => own_bJ L st (fun x y => x - y)
  | .lmul => own_bJ L st (fun x y => x * y)
  | .land => own_bJ L st (fun x y => x &&& y)
  | .lor => own_bJ L st (fun x y => x ||| y)
  | .lxor => own_bJ L st (fun x y => x ^^^ y)
  | .lshl => own_sJ L st (fun x y => x <<< (y.toInt64 &&& 63))
  | .lshr => own_sJ L st (fun x y => x >>> (y.toInt64 &&& 63))
  | .lushr => own_sJ L st (fun x y => XT.ushrL x y)
  | .i2b => own_uI L st (fun x => x.toInt8.toInt32)
  | .i2c => own_uI L st own_i2c
  | .i2s => own_uI L st (fun x => x.toInt16.toInt32)
  | .i2l => match st with
    | .int x :: r => some (L, .long x.toInt64 :: r)
    | _ => none
  | .l2i => match st with
    | .long x :: r => some (L, .int x.toInt32 :: r)
    | _ => none
  | .lneg => match st with
    | .long x :: r => some (L, .long (-x) :: r)
    | _ => none
  | .lcmp => match st with
    | .long y :: .long x :: r => some (L, .int (XT.cmpL x y) :: r)
    | _ => none
  | .iinc k z => match L[k]? with
    | some (.val (.int v)) => own_put L k (.int (v + Int32.ofInt z)) st
    | _ => none
  | .dup => match st with
    | .ref a :: r => some (L, .ref a :: .ref a :: r)
    | _ => none
  | _ => none
/-- how long an instruction is -/
def own_len : Instr → Nat
  | .bipush _ => 2
  | .sipush _ => 3
  | .ldc _ => 2
  | .ldc2_w _ => 3
  | .iload _ => 2
  | .lload _ => 2
  | .aload _ => 2
  | .istore _ => 2
  | .lstore _ => 2
  | .astore _ => 2
  | .iinc _ _ => 3
  | .invokestatic _ => 3
  | .invokevirtual _ => 3
  | .getfield _ => 3
  | _ => 1
/-- the constant that an instruction pushes is the entry's -/
def own_cv (own : String) (ws : List Jvm.Cond) (cv : Value) : Instr → Bool
  | .iconst i => decide (cv = .int (Int32.ofInt i))
  | .bipush i => decide (cv = .int (Int8.ofInt i).toInt32)
  | .sipush i => decide (cv = .int (Int16.ofInt i).toInt32)
  | .lconst k => decide (cv = .long (Int64.ofNat k))
  | .ldc idx => match cv with
    | .int v => ws.contains (Jvm.Cond.constant own idx v)
    | _ => false
  | .ldc2_w idx => match cv with
    | .long v => ws.contains (Jvm.Cond.constantLong own idx v)
    | _ => false
  | _ => true
/-- an entry is true of the code -/
def own_ok (code : ByteArray) (own : String) (ws : List Jvm.Cond) (q : own_Ent) : Bool :=
  match q with
  | (pc, .if_icmp cd o, nx, tg, _) => decide (decode code pc = .ok (.if_icmp cd o, 3)) && decide (0 ≤ (pc : Int) + o) && decide (((pc : Int) + o).toNat = tg) && decide (nx = pc + 3)
  | (pc, .ifCond cd o, nx, tg, _) => decide (decode code pc = .ok (.ifCond cd o, 3)) && decide (0 ≤ (pc : Int) + o) && decide (((pc : Int) + o).toNat = tg) && decide (nx = pc + 3)
  | (pc, .goto o, _, tg, _) => decide (decode code pc = .ok (.goto o, 3)) && decide (0 ≤ (pc : Int) + o) && decide (((pc : Int) + o).toNat = tg)
  | (pc, i, nx, _, cv) => decide (decode code pc = .ok (i, own_len i)) && decide (nx = pc + own_len i) && own_cv own ws cv i
abbrev own_Call := Nat × Nat × (Heap → List Value → Value → Prop)
abbrev own_Fld := Nat × Addr × Value
abbrev own_Arr := Addr × Int32 × FieldType × List Value × Value
/-- what a run may lean on: static calls, virtual calls, fields read, an array read, the heap, max_locals, the weight of the operand stack under a call -/
abbrev own_Env := List own_Call × List own_Call × List own_Fld × List own_Arr × Heap × Nat × Nat
def own_lookC : List own_Call → Nat → Option (Nat × (Heap → List Value → Value → Prop))
  | [], _ => none
  | e :: t, pc => bif Nat.beq e.1 pc then some e.2 else own_lookC t pc
theorem own_lookC_mem : ∀ {C : List own_Call} {i : Nat} {r : Nat × (Heap → List Value → Value → Prop)}, own_lookC C i = some r → (i, r) ∈ C
  | [], _, _, h => by simp [own_lookC] at h
  | e :: t, i, r, h => by
    simp only [own_lookC] at h
    cases hb : Nat.beq e.1 i with
    | true =>
      rw [hb] at h
      have h1 : e.1 = i := Nat.eq_of_beq_eq_true hb
      have h2 : e.2 = r := Option.some.inj h
      subst h1 h2
      exact List.mem_cons_self
    | false => rw [hb] at h; exact List.mem_cons_of_mem _ (own_lookC_mem h)
def own_lookF : List own_Fld → Nat → Option (Addr × Value)
  | [], _ => none
  | e :: t, pc => bif Nat.beq e.1 pc then some e.2 else own_lookF t pc
theorem own_lookF_mem : ∀ {C : List own_Fld} {i : Nat} {r : Addr × Value}, own_lookF C i = some r → (i, r) ∈ C
  | [], _, _, h => by simp [own_lookF] at h
  | e :: t, i, r, h => by
    simp only [own_lookF] at h
    cases hb : Nat.beq e.1 i with
    | true =>
      rw [hb] at h
      have h1 : e.1 = i := Nat.eq_of_beq_eq_true hb
      have h2 : e.2 = r := Option.some.inj h
      subst h1 h2
      exact List.mem_cons_self
    | false => rw [hb] at h; exact List.mem_cons_of_mem _ (own_lookF_mem h)
def own_cat (st : List Value) : Nat := (st.map fun v => v.category).sum
/-- one step: k: what is asked behind it; q: what is asked where it stops here -/
def own_nxt (E : own_Env) (L : Array Slot) (st : List Value) (nx tg : Nat) (cv : Value) (k : Nat → Array Slot → List Value → Prop) (q : Prop) (i : Instr) : Prop :=
  match i with
  | .if_icmp cd _ => match st with
    | .int y :: .int x :: r => (own_icmp cd x y → k tg L r) ∧ (¬ own_icmp cd x y → k nx L r)
    | _ => q
  | .ifCond cd _ => match st with
    | .int x :: r => (own_icmp cd x 0 → k tg L r) ∧ (¬ own_icmp cd x 0 → k nx L r)
    | _ => q
  | .goto _ => k tg L st
  | .irem => match st with
    | .int y :: .int x :: r => y ≠ 0 ∧ k nx L (.int (x % y) :: r)
    | _ => q
  | .idiv => match st with
    | .int y :: .int x :: r => y ≠ 0 ∧ k nx L (.int (x / y) :: r)
    | _ => q
  | .lrem => match st with
    | .long y :: .long x :: r => y ≠ 0 ∧ k nx L (.long (x - (x / y) * y) :: r)
    | _ => q
  | .ldiv => match st with
    | .long y :: .long x :: r => y ≠ 0 ∧ k nx L (.long (x / y) :: r)
    | _ => q
  | .invokestatic idx => match own_lookC E.1 idx with
    | some (n, P) => ∃ v, P E.2.2.2.2.1 (st.take n).reverse v ∧ (st.take n).length = n ∧ own_cat (st.drop n) ≤ E.2.2.2.2.2.2 ∧ L.size = E.2.2.2.2.2.1 ∧ k nx L (v :: st.drop n)
    | none => q
  | .invokevirtual idx => match own_lookC E.2.1 idx with
    | some (n, P) => match st.drop n with
      | .ref a :: r => ∃ v, P E.2.2.2.2.1 (.ref a :: (st.take n).reverse) v ∧ (st.take n).length = n ∧ own_cat r ≤ E.2.2.2.2.2.2 ∧ L.size = E.2.2.2.2.2.1 ∧ k nx L (v :: r)
      | _ => q
    | none => q
  | .getfield idx => match st with
    | .ref a :: r => match own_lookF E.2.2.1 idx with
      | some (b, v) => a = b ∧ k nx L (v :: r)
      | none => q
    | _ => q
  | .arraylength => match st with
    | .ref a :: r => match E.2.2.2.1 with
      | (b, n, _, _, _) :: _ => a = b ∧ k nx L (.int n :: r)
      | [] => q
    | _ => q
  | .laload => match st with
    | .int j :: .ref a :: r => match E.2.2.2.1 with
      | (b, n, ty, vs, d) :: _ => a = b ∧ ty = .long ∧ (¬ j < 0) ∧ j < n ∧ ∃ z, vs.getD j.toNatClampNeg d = .long z ∧ k nx L (.long z :: r)
      | [] => q
    | _ => q
  | .baload => match st with
    | .int j :: .ref a :: r => match E.2.2.2.1 with
      | (b, n, ty, vs, d) :: _ => a = b ∧ ty = .byte ∧ (¬ j < 0) ∧ j < n ∧ ∃ z, vs.getD j.toNatClampNeg d = .int z ∧ k nx L (.int z :: r)
      | [] => q
    | _ => q
  | i => match own_stp L st cv i with
    | some (L', st') => k nx L' st'
    | none => q
def own_in : List Nat → Nat → Bool
  | [], _ => false
  | a :: t, pc => bif Nat.beq a pc then true else own_in t pc
/-- the run, till a pc of 'stop' or where the table ends; Q: what is asked there -/
def own_wp (stop : List Nat) (tab : List own_Ent) (E : own_Env) (Q : Nat → Array Slot → List Value → Prop) : Nat → Nat → Array Slot → List Value → Prop
  | 0, _, _, _ => False
  | n + 1, pc, L, st => bif own_in stop pc then Q pc L st else match own_look tab pc with
    | none => Q pc L st
    | some (i, nx, tg, cv) => own_nxt E L st nx tg cv (own_wp stop tab E Q n) (Q pc L st) i
theorem own_nxt_mono {E : own_Env} {L : Array Slot} {st : List Value} {nx tg : Nat} {cv : Value} {k k' : Nat → Array Slot → List Value → Prop} {q q' : Prop} {i : Instr} (hk : ∀ pc L st, k pc L st → k' pc L st) (hq : q → q') (h : own_nxt E L st nx tg cv k q i) : own_nxt E L st nx tg cv k' q' i := by
  unfold own_nxt at h ⊢
  split at h
  · split at h
    · exact ⟨fun z => hk _ _ _ (h.1 z), fun z => hk _ _ _ (h.2 z)⟩
    · exact hq h
  · split at h
    · exact ⟨fun z => hk _ _ _ (h.1 z), fun z => hk _ _ _ (h.2 z)⟩
    · exact hq h
  · exact (hk _ _ _ h)
  · split at h
    · exact ⟨h.1, hk _ _ _ h.2⟩
    · exact hq h
  · split at h
    · exact ⟨h.1, hk _ _ _ h.2⟩
    · exact hq h
  · split at h
    · exact ⟨h.1, hk _ _ _ h.2⟩
    · exact hq h
  · split at h
    · exact ⟨h.1, hk _ _ _ h.2⟩
    · exact hq h
  · try dsimp only
    split at h
    · obtain ⟨v, h1, h2, h3, h4, h5⟩ := h
      exact ⟨v, h1, h2, h3, h4, hk _ _ _ h5⟩
    · exact hq h
  · try dsimp only
    split at h
    · split at h
      · obtain ⟨v, h1, h2, h3, h4, h5⟩ := h
        exact ⟨v, h1, h2, h3, h4, hk _ _ _ h5⟩
      · exact hq h
    · exact hq h
  · split at h
    · try dsimp only
      split at h
      · exact ⟨h.1, hk _ _ _ h.2⟩
      · exact hq h
    · exact hq h
  · split at h
    · try dsimp only
      split at h
      · exact ⟨h.1, hk _ _ _ h.2⟩
      · exact hq h
    · exact hq h
  · split at h
    · try dsimp only
      split at h
      · obtain ⟨h1, h2, h3, h4, z, h5, h6⟩ := h
        exact ⟨h1, h2, h3, h4, z, h5, hk _ _ _ h6⟩
      · exact hq h
    · exact hq h
  · split at h
    · try dsimp only
      split at h
      · obtain ⟨h1, h2, h3, h4, z, h5, h6⟩ := h
        exact ⟨h1, h2, h3, h4, z, h5, hk _ _ _ h6⟩
      · exact hq h
    · exact hq h
  · try dsimp only
    split at h
    · exact (hk _ _ _ h)
    · exact hq h
theorem own_nxt_or {E : own_Env} {L : Array Slot} {st : List Value} {nx tg : Nat} {cv : Value} {k k' : Nat → Array Slot → List Value → Prop} {q q' : Prop} {i : Instr} (hk : ∀ pc L st, k pc L st → k' pc L st) (h : own_nxt E L st nx tg cv k q i) : q ∨ own_nxt E L st nx tg cv k' q' i := by
  unfold own_nxt at h ⊢
  split at h
  · split at h
    · exact Or.inr ⟨fun z => hk _ _ _ (h.1 z), fun z => hk _ _ _ (h.2 z)⟩
    · exact Or.inl h
  · split at h
    · exact Or.inr ⟨fun z => hk _ _ _ (h.1 z), fun z => hk _ _ _ (h.2 z)⟩
    · exact Or.inl h
  · exact Or.inr (hk _ _ _ h)
  · split at h
    · exact Or.inr ⟨h.1, hk _ _ _ h.2⟩
    · exact Or.inl h
  · split at h
    · exact Or.inr ⟨h.1, hk _ _ _ h.2⟩
    · exact Or.inl h
  · split at h
    · exact Or.inr ⟨h.1, hk _ _ _ h.2⟩
    · exact Or.inl h
  · split at h
    · exact Or.inr ⟨h.1, hk _ _ _ h.2⟩
    · exact Or.inl h
  · try dsimp only
    split at h
    · obtain ⟨v, h1, h2, h3, h4, h5⟩ := h
      exact Or.inr ⟨v, h1, h2, h3, h4, hk _ _ _ h5⟩
    · exact Or.inl h
  · try dsimp only
    split at h
    · split at h
      · obtain ⟨v, h1, h2, h3, h4, h5⟩ := h
        exact Or.inr ⟨v, h1, h2, h3, h4, hk _ _ _ h5⟩
      · exact Or.inl h
    · exact Or.inl h
  · split at h
    · try dsimp only
      split at h
      · exact Or.inr ⟨h.1, hk _ _ _ h.2⟩
      · exact Or.inl h
    · exact Or.inl h
  · split at h
    · try dsimp only
      split at h
      · exact Or.inr ⟨h.1, hk _ _ _ h.2⟩
      · exact Or.inl h
    · exact Or.inl h
  · split at h
    · try dsimp only
      split at h
      · obtain ⟨h1, h2, h3, h4, z, h5, h6⟩ := h
        exact Or.inr ⟨h1, h2, h3, h4, z, h5, hk _ _ _ h6⟩
      · exact Or.inl h
    · exact Or.inl h
  · split at h
    · try dsimp only
      split at h
      · obtain ⟨h1, h2, h3, h4, z, h5, h6⟩ := h
        exact Or.inr ⟨h1, h2, h3, h4, z, h5, hk _ _ _ h6⟩
      · exact Or.inl h
    · exact Or.inl h
  · try dsimp only
    split at h
    · exact Or.inr (hk _ _ _ h)
    · exact Or.inl h
theorem own_wp_mono {stop : List Nat} {tab : List own_Ent} {E : own_Env} {Q : Nat → Array Slot → List Value → Prop} : ∀ (n : Nat) {pc : Nat} {L : Array Slot} {st : List Value}, own_wp stop tab E Q n pc L st → own_wp stop tab E Q (n + 1) pc L st
  | 0, _, _, _, h => h.elim
  | n + 1, pc, L, st, h => by
    unfold own_wp at h ⊢
    cases hs : own_in stop pc with
    | true => simpa only [hs, cond_true] using h
    | false =>
      simp only [hs, cond_false] at h ⊢
      cases hl : own_look tab pc with
      | none => simpa only [hl] using h
      | some r => simp only [hl] at h ⊢; exact own_nxt_mono (fun _ _ _ z => own_wp_mono n z) (fun z => z) h
theorem own_wp_more {stop : List Nat} {tab : List own_Ent} {E : own_Env} {Q : Nat → Array Slot → List Value → Prop} {n : Nat} {pc : Nat} {L : Array Slot} {st : List Value} (h : own_wp stop tab E Q n pc L st) : ∀ k, own_wp stop tab E Q (k + n) pc L st
  | 0 => by rw [Nat.zero_add]; exact h
  | k + 1 => by rw [Nat.add_right_comm]; exact own_wp_mono _ (own_wp_more h k)
/-- two runs, one behind the other -/
theorem own_join {stop : List Nat} {tab : List own_Ent} {E : own_Env} {Q : Nat → Array Slot → List Value → Prop} {n2 : Nat} : ∀ {n1 : Nat} {pc : Nat} {L : Array Slot} {st : List Value}, own_wp stop tab E (fun pc L st => True ∧ own_wp [] tab E Q n2 pc L st) n1 pc L st → own_wp [] tab E Q (n1 + n2) pc L st
  | 0, _, _, _, h => h.elim
  | n + 1, pc, L, st, h => by
    have e : n + 1 + n2 = n + n2 + 1 := by omega
    unfold own_wp at h
    cases hs : own_in stop pc with
    | true => simp only [hs, cond_true] at h; exact own_wp_more h.2 _
    | false =>
      simp only [hs, cond_false] at h
      cases hl : own_look tab pc with
      | none => simp only [hl] at h; exact own_wp_more h.2 _
      | some r =>
        simp only [hl] at h
        rw [e]
        unfold own_wp
        simp only [own_in, cond_false, hl]
        rcases own_nxt_or (q' := Q pc L st) (fun _ _ _ z => own_join (n1 := n) z) h with z | z
        · have z2 := own_wp_more z.2 (n + 1)
          rw [e] at z2
          unfold own_wp at z2
          simpa only [own_in, cond_false, hl] using z2
        · exact z
theorem own_inb {cl : Cell} {n j : Int32} (S : cl.slots.size = n.toNatClampNeg) (h0 : ¬ j < 0) (hn : j < n) : ¬ (j < 0 ∨ cl.slots.size ≤ j.toNatClampNeg) := by
  rw [S]
  simp only [Int32.lt_iff_toInt_lt, Int32.toNatClampNeg, Int32.reduceToInt] at h0 hn ⊢
  omega
section own_Sound
variable {p : Program} {l : Launch} {e : Env} {R : Room} {s : State} {m : MethodId} {args : Array Value} {below : List Frame} {meth : Method} {c : Code} {locs : List Loc} {cells slots : Nat} {Z : State} {a0 : Array Value}
theorem own_stp_sound {T : State} (X : Stand p l e R s m args below meth c T locs cells slots) (hx : p.tables.exec = Jvm.exec) {code : ByteArray} (hby : c.code = code) (hZ : Z.Warmed39 s.vm) {own : String} (hown : s.vm.findClass own = some m.cls) {ws : List Jvm.Cond} (hw : ∀ d ∈ ws, d.before a0 Z = true)
    {pc nx tg : Nat} {cv : Value} {L L' : Array Slot} {st st' : List Value} {i : Instr} {t : State} (he : own_ok code own ws (pc, i, nx, tg, cv) = true) (h : own_stp L st cv i = some (L', st')) (k : Steps p.tables e below (T.setTop (mkF m nx L' st')) t) : Steps p.tables e below (T.setTop (mkF m pc L st)) t := by
  cases i
  all_goals try (simp [own_stp] at h; done)
  all_goals
    simp only [own_ok, Bool.and_eq_true, decide_eq_true_eq] at he
    simp only [own_len, own_cv, decide_eq_true_eq, and_true] at he
  case iconst z =>
    obtain ⟨⟨hd, rfl⟩, rfl⟩ := he
    simp only [own_stp, Option.some.injEq, Prod.mk.injEq] at h
    obtain ⟨rfl, rfl⟩ := h
    exact XS.iconst X.here hx rfl (hb hby hd) k
  case bipush z =>
    obtain ⟨⟨hd, rfl⟩, rfl⟩ := he
    simp only [own_stp, Option.some.injEq, Prod.mk.injEq] at h
    obtain ⟨rfl, rfl⟩ := h
    exact XS.bipush X.here hx rfl (hb hby hd) k
  case sipush z =>
    obtain ⟨⟨hd, rfl⟩, rfl⟩ := he
    simp only [own_stp, Option.some.injEq, Prod.mk.injEq] at h
    obtain ⟨rfl, rfl⟩ := h
    exact XS.sipush X.here hx rfl (hb hby hd) k
  case lconst z =>
    obtain ⟨⟨hd, rfl⟩, rfl⟩ := he
    simp only [own_stp, Option.some.injEq, Prod.mk.injEq] at h
    obtain ⟨rfl, rfl⟩ := h
    exact XT.lconst X.here hx rfl (hb hby hd) k
  case ldc idx =>
    obtain ⟨⟨hd, rfl⟩, hc⟩ := he
    simp only [own_stp, Option.some.injEq, Prod.mk.injEq] at h
    obtain ⟨rfl, rfl⟩ := h
    cases cv <;> first | (simp at hc; done) | skip
    exact X.ldcInt hx hown (mvT hZ (hw _ (List.contains_iff_mem.mp hc))) (g := mkF m pc L st) rfl (hb hby hd) _ k
  case ldc2_w idx =>
    obtain ⟨⟨hd, rfl⟩, hc⟩ := he
    simp only [own_stp, Option.some.injEq, Prod.mk.injEq] at h
    obtain ⟨rfl, rfl⟩ := h
    cases cv <;> first | (simp at hc; done) | skip
    exact X.ldc2Long hx hown (mvT hZ (hw _ (List.contains_iff_mem.mp hc))) (g := mkF m pc L st) rfl (hb hby hd) _ k
  case iload z =>
    obtain ⟨hd, rfl⟩ := he
    simp only [own_stp, own_ldI] at h
    split at h
    · rename_i v hl
      simp only [Option.some.injEq, Prod.mk.injEq] at h
      obtain ⟨rfl, rfl⟩ := h
      exact XS.iload X.here hx rfl (hb hby hd) hl k
    · cases h
  case iload_n z =>
    obtain ⟨hd, rfl⟩ := he
    simp only [own_stp, own_ldI] at h
    split at h
    · rename_i v hl
      simp only [Option.some.injEq, Prod.mk.injEq] at h
      obtain ⟨rfl, rfl⟩ := h
      exact XS.iloadN X.here hx rfl (hb hby hd) hl k
    · cases h
  case lload z =>
    obtain ⟨hd, rfl⟩ := he
    simp only [own_stp, own_ldJ] at h
    split at h
    · rename_i v hl
      simp only [Option.some.injEq, Prod.mk.injEq] at h
      obtain ⟨rfl, rfl⟩ := h
      exact XT.lload X.here hx rfl (hb hby hd) hl k
    · cases h
  case lload_n z =>
    obtain ⟨hd, rfl⟩ := he
    simp only [own_stp, own_ldJ] at h
    split at h
    · rename_i v hl
      simp only [Option.some.injEq, Prod.mk.injEq] at h
      obtain ⟨rfl, rfl⟩ := h
      exact XT.lloadN X.here hx rfl (hb hby hd) hl k
    · cases h
  case aload z =>
    obtain ⟨hd, rfl⟩ := he
    simp only [own_stp, own_ldA] at h
    split at h
    · rename_i v hl
      simp only [Option.some.injEq, Prod.mk.injEq] at h
      obtain ⟨rfl, rfl⟩ := h
      exact XS.aload X.here hx rfl (hb hby hd) hl rfl k
    · cases h
  case aload_n z =>
    obtain ⟨hd, rfl⟩ := he
    simp only [own_stp, own_ldA] at h
    split at h
    · rename_i v hl
      simp only [Option.some.injEq, Prod.mk.injEq] at h
      obtain ⟨rfl, rfl⟩ := h
      exact XS.aloadN X.here hx rfl (hb hby hd) hl rfl k
    · cases h
  case istore z =>
    obtain ⟨hd, rfl⟩ := he
    simp only [own_stp, own_stI] at h
    split at h
    · rename_i v r
      simp only [own_put] at h
      split at h
      · rename_i l' hl
        simp only [Option.some.injEq, Prod.mk.injEq] at h
        obtain ⟨rfl, rfl⟩ := h
        exact XS.istore X.here hx rfl (hb hby hd) rfl hl k
      · cases h
    · cases h
  case istore_n z =>
    obtain ⟨hd, rfl⟩ := he
    simp only [own_stp, own_stI] at h
    split at h
    · rename_i v r
      simp only [own_put] at h
      split at h
      · rename_i l' hl
        simp only [Option.some.injEq, Prod.mk.injEq] at h
        obtain ⟨rfl, rfl⟩ := h
        exact XS.istoreN X.here hx rfl (hb hby hd) rfl hl k
      · cases h
    · cases h
  case lstore z =>
    obtain ⟨hd, rfl⟩ := he
    simp only [own_stp, own_stJ] at h
    split at h
    · rename_i v r
      simp only [own_put] at h
      split at h
      · rename_i l' hl
        simp only [Option.some.injEq, Prod.mk.injEq] at h
        obtain ⟨rfl, rfl⟩ := h
        exact XT.lstore X.here hx rfl (hb hby hd) rfl hl k
      · cases h
    · cases h
  case lstore_n z =>
    obtain ⟨hd, rfl⟩ := he
    simp only [own_stp, own_stJ] at h
    split at h
    · rename_i v r
      simp only [own_put] at h
      split at h
      · rename_i l' hl
        simp only [Option.some.injEq, Prod.mk.injEq] at h
        obtain ⟨rfl, rfl⟩ := h
        exact XT.lstoreN X.here hx rfl (hb hby hd) rfl hl k
      · cases h
    · cases h
  case astore z =>
    obtain ⟨hd, rfl⟩ := he
    simp only [own_stp, own_stA] at h
    split at h
    · rename_i v r
      simp only [own_put] at h
      split at h
      · rename_i l' hl
        simp only [Option.some.injEq, Prod.mk.injEq] at h
        obtain ⟨rfl, rfl⟩ := h
        exact XS.astore X.here hx rfl (hb hby hd) rfl rfl hl k
      · cases h
    · cases h
  case astore_n z =>
    obtain ⟨hd, rfl⟩ := he
    simp only [own_stp, own_stA] at h
    split at h
    · rename_i v r
      simp only [own_put] at h
      split at h
      · rename_i l' hl
        simp only [Option.some.injEq, Prod.mk.injEq] at h
        obtain ⟨rfl, rfl⟩ := h
        exact XS.astoreN X.here hx rfl (hb hby hd) rfl rfl hl k
      · cases h
    · cases h
  case iadd =>
    obtain ⟨hd, rfl⟩ := he
    simp only [own_stp, own_bI] at h
    split at h
    · simp only [Option.some.injEq, Prod.mk.injEq] at h
      obtain ⟨rfl, rfl⟩ := h
      exact XS.iadd X.here hx rfl (hb hby hd) rfl k
    · cases h
  case isub =>
    obtain ⟨hd, rfl⟩ := he
    simp only [own_stp, own_bI] at h
    split at h
    · simp only [Option.some.injEq, Prod.mk.injEq] at h
      obtain ⟨rfl, rfl⟩ := h
      exact XS.isub X.here hx rfl (hb hby hd) rfl k
    · cases h
  case imul =>
    obtain ⟨hd, rfl⟩ := he
    simp only [own_stp, own_bI] at h
    split at h
    · simp only [Option.some.injEq, Prod.mk.injEq] at h
      obtain ⟨rfl, rfl⟩ := h
      exact XS.imul X.here hx rfl (hb hby hd) rfl k
    · cases h
  case iand =>
    obtain ⟨hd, rfl⟩ := he
    simp only [own_stp, own_bI] at h
    split at h
    · simp only [Option.some.injEq, Prod.mk.injEq] at h
      obtain ⟨rfl, rfl⟩ := h
      exact XS.iand X.here hx rfl (hb hby hd) rfl k
    · cases h
  case ior =>
    obtain ⟨hd, rfl⟩ := he
    simp only [own_stp, own_bI] at h
    split at h
    · simp only [Option.some.injEq, Prod.mk.injEq] at h
      obtain ⟨rfl, rfl⟩ := h
      exact XT.ior X.here hx rfl (hb hby hd) rfl k
    · cases h
  case ixor =>
    obtain ⟨hd, rfl⟩ := he
    simp only [own_stp, own_bI] at h
    split at h
    · simp only [Option.some.injEq, Prod.mk.injEq] at h
      obtain ⟨rfl, rfl⟩ := h
      exact XT.ixor X.here hx rfl (hb hby hd) rfl k
    · cases h
  case ishl =>
    obtain ⟨hd, rfl⟩ := he
    simp only [own_stp, own_bI] at h
    split at h
    · simp only [Option.some.injEq, Prod.mk.injEq] at h
      obtain ⟨rfl, rfl⟩ := h
      exact XT.ishl X.here hx rfl (hb hby hd) rfl k
    · cases h
  case ishr =>
    obtain ⟨hd, rfl⟩ := he
    simp only [own_stp, own_bI] at h
    split at h
    · simp only [Option.some.injEq, Prod.mk.injEq] at h
      obtain ⟨rfl, rfl⟩ := h
      exact XT.ishr X.here hx rfl (hb hby hd) rfl k
    · cases h
  case iushr =>
    obtain ⟨hd, rfl⟩ := he
    simp only [own_stp, own_bI] at h
    split at h
    · simp only [Option.some.injEq, Prod.mk.injEq] at h
      obtain ⟨rfl, rfl⟩ := h
      exact XT.iushr X.here hx rfl (hb hby hd) rfl k
    · cases h
  case ladd =>
    obtain ⟨hd, rfl⟩ := he
    simp only [own_stp, own_bJ] at h
    split at h
    · simp only [Option.some.injEq, Prod.mk.injEq] at h
      obtain ⟨rfl, rfl⟩ := h
      exact XT.ladd X.here hx rfl (hb hby hd) rfl k
    · cases h
  case lsub =>
    obtain ⟨hd, rfl⟩ := he
    simp only [own_stp, own_bJ] at h
    split at h
    · simp only [Option.some.injEq, Prod.mk.injEq] at h
      obtain ⟨rfl, rfl⟩ := h
      exact XT.lsub X.here hx rfl (hb hby hd) rfl k
    · cases h
  case lmul =>
    obtain ⟨hd, rfl⟩ := he
    simp only [own_stp, own_bJ] at h
    split at h
    · simp only [Option.some.injEq, Prod.mk.injEq] at h
      obtain ⟨rfl, rfl⟩ := h
      exact XT.lmul X.here hx rfl (hb hby hd) rfl k
    · cases h
  case land =>
    obtain ⟨hd, rfl⟩ := he
    simp only [own_stp, own_bJ] at h
    split at h
    · simp only [Option.some.injEq, Prod.mk.injEq] at h
      obtain ⟨rfl, rfl⟩ := h
      exact XT.land X.here hx rfl (hb hby hd) rfl k
    · cases h
  case lor =>
    obtain ⟨hd, rfl⟩ := he
    simp only [own_stp, own_bJ] at h
    split at h
    · simp only [Option.some.injEq, Prod.mk.injEq] at h
      obtain ⟨rfl, rfl⟩ := h
      exact XT.lor X.here hx rfl (hb hby hd) rfl k
    · cases h
  case lxor =>
    obtain ⟨hd, rfl⟩ := he
    simp only [own_stp, own_bJ] at h
    split at h
    · simp only [Option.some.injEq, Prod.mk.injEq] at h
      obtain ⟨rfl, rfl⟩ := h
      exact XT.lxor X.here hx rfl (hb hby hd) rfl k
    · cases h
  case lshl =>
    obtain ⟨hd, rfl⟩ := he
    simp only [own_stp, own_sJ] at h
    split at h
    · simp only [Option.some.injEq, Prod.mk.injEq] at h
      obtain ⟨rfl, rfl⟩ := h
      exact XT.lshl X.here hx rfl (hb hby hd) rfl k
    · cases h
  case lshr =>
    obtain ⟨hd, rfl⟩ := he
    simp only [own_stp, own_sJ] at h
    split at h
    · simp only [Option.some.injEq, Prod.mk.injEq] at h
      obtain ⟨rfl, rfl⟩ := h
      exact XT.lshr X.here hx rfl (hb hby hd) rfl k
    · cases h
  case lushr =>
    obtain ⟨hd, rfl⟩ := he
    simp only [own_stp, own_sJ] at h
    split at h
    · simp only [Option.some.injEq, Prod.mk.injEq] at h
      obtain ⟨rfl, rfl⟩ := h
      exact XT.lushr X.here hx rfl (hb hby hd) rfl k
    · cases h
  case i2b =>
    obtain ⟨hd, rfl⟩ := he
    simp only [own_stp, own_uI] at h
    split at h
    · simp only [Option.some.injEq, Prod.mk.injEq] at h
      obtain ⟨rfl, rfl⟩ := h
      exact XT.i2b X.here hx rfl (hb hby hd) rfl k
    · cases h
  case i2c =>
    obtain ⟨hd, rfl⟩ := he
    simp only [own_stp, own_uI] at h
    split at h
    · simp only [Option.some.injEq, Prod.mk.injEq] at h
      obtain ⟨rfl, rfl⟩ := h
      exact XT.i2c X.here hx rfl (hb hby hd) rfl k
    · cases h
  case i2s =>
    obtain ⟨hd, rfl⟩ := he
    simp only [own_stp, own_uI] at h
    split at h
    · simp only [Option.some.injEq, Prod.mk.injEq] at h
      obtain ⟨rfl, rfl⟩ := h
      exact XT.i2s X.here hx rfl (hb hby hd) rfl k
    · cases h
  case i2l =>
    obtain ⟨hd, rfl⟩ := he
    simp only [own_stp, own_uI] at h
    split at h
    · simp only [Option.some.injEq, Prod.mk.injEq] at h
      obtain ⟨rfl, rfl⟩ := h
      exact XT.i2l X.here hx rfl (hb hby hd) rfl k
    · cases h
  case l2i =>
    obtain ⟨hd, rfl⟩ := he
    simp only [own_stp, own_uI] at h
    split at h
    · simp only [Option.some.injEq, Prod.mk.injEq] at h
      obtain ⟨rfl, rfl⟩ := h
      exact XT.l2i X.here hx rfl (hb hby hd) rfl k
    · cases h
  case lneg =>
    obtain ⟨hd, rfl⟩ := he
    simp only [own_stp, own_uI] at h
    split at h
    · simp only [Option.some.injEq, Prod.mk.injEq] at h
      obtain ⟨rfl, rfl⟩ := h
      exact XT.lneg X.here hx rfl (hb hby hd) rfl k
    · cases h
  case lcmp =>
    obtain ⟨hd, rfl⟩ := he
    simp only [own_stp, own_uI] at h
    split at h
    · simp only [Option.some.injEq, Prod.mk.injEq] at h
      obtain ⟨rfl, rfl⟩ := h
      exact XT.lcmp X.here hx rfl (hb hby hd) rfl k
    · cases h
  case iinc z q =>
    obtain ⟨hd, rfl⟩ := he
    simp only [own_stp] at h
    split at h
    · rename_i v hl
      simp only [own_put] at h
      split at h
      · rename_i l' hl'
        simp only [Option.some.injEq, Prod.mk.injEq] at h
        obtain ⟨rfl, rfl⟩ := h
        exact XS.iinc X.here hx rfl (hb hby hd) hl hl' k
      · cases h
    · cases h
  case dup =>
    obtain ⟨hd, rfl⟩ := he
    simp only [own_stp] at h
    split at h
    · simp only [Option.some.injEq, Prod.mk.injEq] at h
      obtain ⟨rfl, rfl⟩ := h
      exact XS.dup X.here hx rfl (hb hby hd) rfl rfl k
    · cases h
/-- a reading method's contract: where P says so of the heap, the arguments and v it returns v, keeps the heap, makes nothing -/
def own_Pure (l : Launch) (Z : State) (y : MethodName) (bytes : ByteArray) (maxL : Nat) (ret : Option FieldType) (rm : Room) (P : Heap → List Value → Value → Prop) : Prop :=
  ∀ (ws : List Jvm.Cond) (h0 : Heap) (as : List Value) (w : Value), P h0 as w → MetFree l y (head1 (Jvm.Cond.code y bytes maxL ret :: ws) rm) (fun a U => a = as.toArray ∧ Z.Warmed39 U.vm ∧ U.heap = h0) (fun _ _ _ _ _ => True)
    (fun _ U o U' => ∃ v L, o = .returned v ∧ (v = some w ∧ L = [] ∧ U'.heap = h0) ∧ FrameEnd U o U' L rm.cells rm.slots)
/-- a static call of the table 'own' at entry q.1 -/
def own_CallOk (l : Launch) (Z : State) (a0 : Array Value) (own : String) (R : Room) (W : Nat) (q : own_Call) : Prop :=
  ∃ (y : MethodName) (bytes : ByteArray) (maxL : Nat) (ret : Option FieldType) (rm : Room), own_Pure l Z y bytes maxL ret rm q.2.2 ∧ (Jvm.Cond.methodLink own q.1 y).before a0 Z = true ∧ (Jvm.Cond.static y).before a0 Z = true ∧ (Jvm.Cond.initialized y.cls).before a0 Z = true ∧ (Jvm.Cond.code y bytes maxL ret).before a0 Z = true ∧
    (y.cls ≠ "java/lang/invoke/MethodHandle" ∧ y.cls ≠ "java/lang/invoke/VarHandle") ∧ (∃ ps r, parseMethodDescriptor y.desc = some ⟨ps, r⟩ ∧ q.2.1 = ps.length) ∧ rm.cells = 0 ∧ rm.slots = 0 ∧ rm.frames + 1 ≤ R.frames ∧ W + (maxL + 11) + rm.locals ≤ R.locals
/-- a virtual call on an object of the class y.cls itself -/
def own_VirtOk (l : Launch) (Z : State) (a0 : Array Value) (own : String) (R : Room) (W : Nat) (q : own_Call) : Prop :=
  ∃ (y : MethodName) (bytes : ByteArray) (maxL : Nat) (ret : Option FieldType) (rm : Room), own_Pure l Z y bytes maxL ret rm q.2.2 ∧ (∀ h a as w, q.2.2 h (.ref a :: as) w → Exa Z h a y.cls) ∧ (Jvm.Cond.methodLink own q.1 y).before a0 Z = true ∧ (Jvm.Cond.declares y).before a0 Z = true ∧ (Jvm.Cond.selects y.cls y y).before a0 Z = true ∧ (Jvm.Cond.instanceMethod y).before a0 Z = true ∧ (Jvm.Cond.initialized y.cls).before a0 Z = true ∧ (Jvm.Cond.code y bytes maxL ret).before a0 Z = true ∧
    (y.cls ≠ "java/lang/invoke/MethodHandle" ∧ y.cls ≠ "java/lang/invoke/VarHandle") ∧ (∃ ps r, parseMethodDescriptor y.desc = some ⟨ps, r⟩ ∧ q.2.1 = ps.length) ∧ rm.cells = 0 ∧ rm.slots = 0 ∧ rm.frames + 1 ≤ R.frames ∧ W + (maxL + 11) + rm.locals ≤ R.locals
def own_FldOk (Z : State) (a0 : Array Value) (own : String) (h : Heap) (q : own_Fld) : Prop :=
  ∃ R0 O n d, (Jvm.Cond.fieldLink own q.1 R0 n d).before a0 Z = true ∧ Via Z R0 O n d ∧ Fld Z h q.2.1 O n d q.2.2
def own_ArrOk (Z : State) (h : Heap) (q : own_Arr) : Prop := ∃ k, Arv Z h q.1 k q.2.2.1 q.2.1 q.2.2.2.1 q.2.2.2.2
def own_EnvOk (l : Launch) (Z : State) (a0 : Array Value) (own : String) (R : Room) (E : own_Env) : Prop :=
  (∀ q ∈ E.1, own_CallOk l Z a0 own R E.2.2.2.2.2.2 q) ∧ (∀ q ∈ E.2.1, own_VirtOk l Z a0 own R E.2.2.2.2.2.2 q) ∧ (∀ q ∈ E.2.2.1, own_FldOk Z a0 own E.2.2.2.2.1 q) ∧ (∀ q ∈ E.2.2.2.1, own_ArrOk Z E.2.2.2.2.1 q)
theorem own_wp_sound (hx : p.tables.exec = Jvm.exec) {code : ByteArray} (hby : c.code = code) (hZ : Z.Warmed39 s.vm) {own : String} (hown : s.vm.findClass own = some m.cls) {ws : List Jvm.Cond} (hw : ∀ d ∈ ws, d.before a0 Z = true)
    {tab : List own_Ent} (hT : tab.all (own_ok code own ws) = true) {E : own_Env} (hml : c.maxLocals = E.2.2.2.2.2.1) (hE : own_EnvOk l Z a0 own R E) (hcl : cells ≤ R.cells) (hsl : slots ≤ R.slots) {stop : List Nat} {Q : Nat → Array Slot → List Value → Prop} :
    ∀ (n pc : Nat) (L : Array Slot) (st : List Value) {T : State}, Stand p l e R s m args below meth c T locs cells slots → T.heap = E.2.2.2.2.1 → own_wp stop tab E Q n pc L st →
      ∃ T' pc' L' st', Stand p l e R s m args below meth c T' locs cells slots ∧ T'.heap = E.2.2.2.2.1 ∧ Q pc' L' st' ∧ ∀ t, Steps p.tables e below (T'.setTop (mkF m pc' L' st')) t → Steps p.tables e below (T.setTop (mkF m pc L st)) t := by
  obtain ⟨hC, hV, hF, hA⟩ := hE
  intro n
  induction n with
  | zero => intro pc L st T X eT h; exact h.elim
  | succ n ih =>
    intro pc L st T X eT h
    have stay : Q pc L st → ∃ T' pc' L' st', Stand p l e R s m args below meth c T' locs cells slots ∧ T'.heap = E.2.2.2.2.1 ∧ Q pc' L' st' ∧ ∀ t, Steps p.tables e below (T'.setTop (mkF m pc' L' st')) t → Steps p.tables e below (T.setTop (mkF m pc L st)) t := fun h => ⟨T, pc, L, st, X, eT, h, fun _ k => k⟩
    have go : ∀ {pc1 : Nat} {L1 : Array Slot} {st1 : List Value} {T1 : State}, Stand p l e R s m args below meth c T1 locs cells slots → T1.heap = E.2.2.2.2.1 → own_wp stop tab E Q n pc1 L1 st1 → (∀ t, Steps p.tables e below (T1.setTop (mkF m pc1 L1 st1)) t → Steps p.tables e below (T.setTop (mkF m pc L st)) t) →
        ∃ T' pc' L' st', Stand p l e R s m args below meth c T' locs cells slots ∧ T'.heap = E.2.2.2.2.1 ∧ Q pc' L' st' ∧ ∀ t, Steps p.tables e below (T'.setTop (mkF m pc' L' st')) t → Steps p.tables e below (T.setTop (mkF m pc L st)) t := by
      intro pc1 L1 st1 T1 X1 e1 h1 k1
      obtain ⟨T', pc', L', st', X', e', q', k'⟩ := ih pc1 L1 st1 X1 e1 h1
      exact ⟨T', pc', L', st', X', e', q', fun t k => k1 t (k' t k)⟩
    unfold own_wp at h
    cases hs : own_in stop pc with
    | true => rw [hs] at h; exact stay h
    | false =>
    rw [hs] at h
    simp only [cond_false] at h
    cases hl : own_look tab pc with
    | none => rw [hl] at h; exact stay h
    | some r =>
      obtain ⟨i, nx, tg, cv⟩ := r
      rw [hl] at h
      have he : own_ok code own ws (pc, i, nx, tg, cv) = true := List.all_eq_true.mp hT _ (own_look_mem hl)
      dsimp only at h
      unfold own_nxt at h
      split at h
      · rename_i cd o
        simp only [own_ok, Bool.and_eq_true, decide_eq_true_eq] at he
        obtain ⟨⟨⟨hd, ho⟩, ht⟩, rfl⟩ := he
        split at h
        · rename_i y x r
          by_cases hc : own_icmp cd x y
          · exact go X eT (h.1 hc) (fun t k => XS.icmpYes X.here hx rfl (pc0 := pc) rfl (hb hby hd) rfl (own_icmp_iff.mpr hc) ho ht k)
          · exact go X eT (h.2 hc) (fun t k => XS.icmpNo X.here hx rfl (hb hby hd) rfl (by simpa using mt own_icmp_iff.mp hc) k)
        · exact stay h
      · rename_i cd o
        simp only [own_ok, Bool.and_eq_true, decide_eq_true_eq] at he
        obtain ⟨⟨⟨hd, ho⟩, ht⟩, rfl⟩ := he
        split at h
        · rename_i x r
          by_cases hc : own_icmp cd x 0
          · exact go X eT (h.1 hc) (fun t k => XS.ifYes X.here hx rfl (pc0 := pc) rfl (hb hby hd) rfl (own_if_iff.mpr hc) ho ht k)
          · exact go X eT (h.2 hc) (fun t k => XS.ifNo X.here hx rfl (hb hby hd) rfl (by simpa using mt own_if_iff.mp hc) k)
        · exact stay h
      · rename_i o
        simp only [own_ok, Bool.and_eq_true, decide_eq_true_eq] at he
        obtain ⟨⟨hd, ho⟩, ht⟩ := he
        exact go X eT h (fun t k => XS.goto X.here hx rfl (pc0 := pc) rfl (hb hby hd) ho ht k)
      · simp only [own_ok, Bool.and_eq_true, decide_eq_true_eq] at he
        simp only [own_len, own_cv, decide_eq_true_eq, and_true] at he
        obtain ⟨hd, rfl⟩ := he
        split at h
        · exact go X eT h.2 (fun t k => iremM X hx (g := mkF m pc L _) rfl (hb hby hd) rfl h.1 k)
        · exact stay h
      · simp only [own_ok, Bool.and_eq_true, decide_eq_true_eq] at he
        simp only [own_len, own_cv, decide_eq_true_eq, and_true] at he
        obtain ⟨hd, rfl⟩ := he
        split at h
        · exact go X eT h.2 (fun t k => XS.idiv X.here hx rfl (hb hby hd) rfl h.1 k)
        · exact stay h
      · simp only [own_ok, Bool.and_eq_true, decide_eq_true_eq] at he
        simp only [own_len, own_cv, decide_eq_true_eq, and_true] at he
        obtain ⟨hd, rfl⟩ := he
        split at h
        · exact go X eT h.2 (fun t k => XT.lrem X.here hx rfl (hb hby hd) rfl h.1 k)
        · exact stay h
      · simp only [own_ok, Bool.and_eq_true, decide_eq_true_eq] at he
        simp only [own_len, own_cv, decide_eq_true_eq, and_true] at he
        obtain ⟨hd, rfl⟩ := he
        split at h
        · exact go X eT h.2 (fun t k => XT.ldiv X.here hx rfl (hb hby hd) rfl h.1 k)
        · exact stay h
      · rename_i idx
        simp only [own_ok, Bool.and_eq_true, decide_eq_true_eq] at he
        simp only [own_len, own_cv, decide_eq_true_eq, and_true] at he
        obtain ⟨hd, rfl⟩ := he
        split at h
        · rename_i n' P hC'
          obtain ⟨w, hP, hlen, hcat, hsz, h⟩ := h
          obtain ⟨y, bytes, maxL, ret, rm, hM, w1, w2, w3, w4, hy, ⟨ps, rr, hsig, hpl⟩, hrc, hrs, hf, hlo⟩ := hC _ (own_lookC_mem hC')
          dsimp only at hM hpl
          obtain ⟨v, vm₁, ⟨T2, L2, k2, n2⟩, -, X2, ⟨Lc, hQ, l2, y2, z2⟩, st2⟩ := Jvm.LawKit.callS X hx (y := y) hown (mvT hZ w1) (mvT hZ w2) (mvT hZ w3) (mvT hZ w4) hy
            (backOf (W := E.2.2.2.2.2.2) (Q := fun v h L => v = some w ∧ L = [] ∧ h = E.2.2.2.2.1) (hM [] E.2.2.2.2.1 (st.take n').reverse w hP) hZ w4 w3 hf hlo) (g := mkF m pc L st) rfl (by rw [hml]; exact hsz) (argsL := (st.take n').reverse) (rest := st.drop n')
            (lenOf hsig (by rw [List.length_reverse, hlen]; exact hpl)) (by simp) (by show 2 * 0 + own_cat _ ≤ _; omega) (hb hby hd) (fun _ _ => ⟨rfl, eT, by rw [hrc]; exact hcl, by rw [hrs]; exact hsl⟩)
          dsimp only [Pt.U, Pt.locs, Pt.cells, Pt.slots] at X2 l2 y2 z2 st2 hQ
          subst l2 y2 z2
          obtain ⟨rfl, rfl, hh⟩ := hQ
          rw [hrc, hrs] at X2
          simp only [List.append_nil, Nat.add_zero] at X2
          exact go X2 hh h (fun t k => st2 t k)
        · exact stay h
      · rename_i idx
        simp only [own_ok, Bool.and_eq_true, decide_eq_true_eq] at he
        simp only [own_len, own_cv, decide_eq_true_eq, and_true] at he
        obtain ⟨hd, rfl⟩ := he
        split at h
        · rename_i n' P hC'
          split at h
          · rename_i a r hdrop
            obtain ⟨w, hP, hlen, hcat, hsz, h⟩ := h
            obtain ⟨y, bytes, maxL, ret, rm, hM, hEx, w1, w2, w5, w6, w3, w4, hy, ⟨ps, rr, hsig, hpl⟩, hrc, hrs, hf, hlo⟩ := hV _ (own_lookC_mem hC')
            dsimp only at hM hpl hEx
            obtain ⟨cq, kq, qa, qb, qc⟩ := isOf hZ eT (hEx _ _ _ _ hP)
            obtain ⟨v, vm₁, ⟨T2, L2, k2, n2⟩, -, X2, ⟨Lc, hQ, l2, y2, z2⟩, st2⟩ := X.virtualBack hx (y := y) (z := y) hown (mvT hZ w1) (mvT hZ w2) (notFace_of_selects (args := #[]) (mvT hZ w5)) (mvT hZ w5) (mvT hZ w6) hy
              (backOf (W := E.2.2.2.2.2.2) (Q := fun v h L => v = some w ∧ L = [] ∧ h = E.2.2.2.2.1) (hM [] E.2.2.2.2.1 (.ref a :: (st.take n').reverse) w hP) hZ w4 w3 hf hlo) qa qc (g := mkF m pc L st) rfl (by rw [hml]; exact hsz) (Steps.refl _) (argsL := (st.take n').reverse) (rest := r)
              (lenOf hsig (by rw [List.length_reverse, hlen]; exact hpl)) (by show st = _; rw [List.reverse_reverse, ← hdrop, List.take_append_drop]) (by show 2 * 0 + own_cat _ ≤ _; omega) (hb hby hd) (fun _ _ => ⟨rfl, eT, by rw [hrc]; exact hcl, by rw [hrs]; exact hsl⟩)
            dsimp only [Pt.U, Pt.locs, Pt.cells, Pt.slots] at X2 l2 y2 z2 st2 hQ
            subst l2 y2 z2
            obtain ⟨rfl, rfl, hh⟩ := hQ
            rw [hrc, hrs] at X2
            simp only [List.append_nil, Nat.add_zero] at X2
            exact go X2 hh h (fun t k => st2.trans k)
          · exact stay h
        · exact stay h
      · rename_i idx
        simp only [own_ok, Bool.and_eq_true, decide_eq_true_eq] at he
        simp only [own_len, own_cv, decide_eq_true_eq, and_true] at he
        obtain ⟨hd, rfl⟩ := he
        split at h
        · rename_i a r
          split at h
          · rename_i b v hF'
            obtain ⟨rfl, h⟩ := h
            obtain ⟨R0, O, nn, dd, w1, via, F1⟩ := hF _ (own_lookF_mem hF')
            obtain ⟨T2, X2, e2, st2⟩ := getF X hx hZ hown (host := "") (Or.inl w1) via eT F1 (g := mkF m pc L (.ref a :: r)) rfl rfl (hb hby hd)
            exact go X2 e2 h (fun t k => st2 t k)
          · exact stay h
        · exact stay h
      · simp only [own_ok, Bool.and_eq_true, decide_eq_true_eq] at he
        simp only [own_len, own_cv, decide_eq_true_eq, and_true] at he
        obtain ⟨hd, rfl⟩ := he
        split at h
        · rename_i a r
          split at h
          · rename_i b nn ty vs dd rest hA'
            obtain ⟨rfl, h⟩ := h
            obtain ⟨kk, cl, Ar, -, Sz, Mz, Hz, -⟩ := hA _ (by rw [hA']; exact List.mem_cons_self)
            dsimp only at Ar Sz Mz Hz
            refine go X eT h (fun t k => ?_)
            have k2 := X.arraylength hx (by rw [eT]; exact Ar.1) (State.isArrayOf_alike hZ.alike Ar.2.1) (g := mkF m pc L (.ref a :: r)) rfl rfl (hb hby hd) t
            rw [len_of Sz Mz] at k2
            exact k2 k
          · exact stay h
        · exact stay h
      · simp only [own_ok, Bool.and_eq_true, decide_eq_true_eq] at he
        simp only [own_len, own_cv, decide_eq_true_eq, and_true] at he
        obtain ⟨hd, rfl⟩ := he
        split at h
        · rename_i j a r
          split at h
          · rename_i b nn ty vs dd rest hA'
            obtain ⟨rfl, rfl, hj0, hjn, z, hz, h⟩ := h
            obtain ⟨kk, cl, Ar, -, Sz, Mz, Hz, -⟩ := hA _ (by rw [hA']; exact List.mem_cons_self)
            dsimp only at Ar Sz Mz Hz
            have hin : ¬ (j < 0 ∨ cl.slots.size ≤ j.toNatClampNeg) := own_inb Sz hj0 hjn
            exact go X eT h (fun t k => X.laload hx (j := j) (v := .long z) (by rw [eT]; exact Ar.1) (State.isArrayOf_alike hZ.alike Ar.2.1) Ar.2.2 hin (by rw [Hz _ (Nat.lt_of_not_le fun q => hin (Or.inr q)), hz]) (g := mkF m pc L (.int j :: .ref a :: r)) rfl rfl (hb hby hd) t k)
          · exact stay h
        · exact stay h
      · simp only [own_ok, Bool.and_eq_true, decide_eq_true_eq] at he
        simp only [own_len, own_cv, decide_eq_true_eq, and_true] at he
        obtain ⟨hd, rfl⟩ := he
        split at h
        · rename_i j a r
          split at h
          · rename_i b nn ty vs dd rest hA'
            obtain ⟨rfl, rfl, hj0, hjn, z, hz, h⟩ := h
            obtain ⟨kk, cl, Ar, -, Sz, Mz, Hz, -⟩ := hA _ (by rw [hA']; exact List.mem_cons_self)
            dsimp only at Ar Sz Mz Hz
            have hin : ¬ (j < 0 ∨ cl.slots.size ≤ j.toNatClampNeg) := own_inb Sz hj0 hjn
            exact go X eT h (fun t k => X.baloadBytes hx (j := j) (v := .int z) (by rw [eT]; exact Ar.1) (State.isArrayOf_alike hZ.alike Ar.2.1) Ar.2.2 hin (by rw [Hz _ (Nat.lt_of_not_le fun q => hin (Or.inr q)), hz]) (g := mkF m pc L (.int j :: .ref a :: r)) rfl rfl (hb hby hd) t k)
          · exact stay h
        · exact stay h
      · split at h
        · rename_i L' st' hs
          exact go X eT h (fun t k => own_stp_sound X hx hby hZ hown hw he hs k)
        · exact stay h
/-- what a return hands back -/
def own_top : FieldType → List Value → Option Value
  | .long, .long z :: _ => some (.long z)
  | .int, .int z :: _ => some (.int z)
  | .boolean, .int z :: _ => some (.int (z &&& 1))
  | .byte, .int z :: _ => some (.int (nar .byte z))
  | .char, .int z :: _ => some (.int (nar .char z))
  | .short, .int z :: _ => some (.int (nar .short z))
  | _, _ => none
def own_reti : FieldType → Instr
  | .long => .lreturn
  | _ => .ireturn
theorem own_ret {T : State} (X : Stand p l e R s m args below meth c T locs cells slots) (hx : p.tables.exec = Jvm.exec) {pc : Nat} {L : Array Slot} {st : List Value} {t : FieldType} {v : Value} (hret : meth.sig.returnType = some t) (hd : decode c.code pc = .ok (own_reti t, 1)) (ht : own_top t st = some v) {fs : List Frame}
    (hl : ∀ (f : JFrame) (acts : List Action), f.method = m → f.locked = none → f.entered = [] → (doReturn e (T.setTop f) acts (some v)).1 = T.setFrames fs) : Steps p.tables e below (T.setTop (mkF m pc L st)) (T.setFrames fs) := by
  unfold own_top at ht
  split at ht
  · cases ht; exact retOut X hx hret rfl (Or.inr (Or.inl ⟨rfl, rfl, _, rfl⟩)) hd hl
  · cases ht; exact retOut X hx hret rfl (Or.inl ⟨rfl, Or.inl rfl, _, rfl⟩) hd hl
  · cases ht; exact retN X hx (t := .boolean) hret (by simp) hd hl
  · cases ht; exact retN X hx (t := .byte) hret (by simp) hd hl
  · cases ht; exact retN X hx (t := .char) hret (by simp) hd hl
  · cases ht; exact retN X hx (t := .short) hret (by simp) hd hl
  · cases ht
/-- the end of a reading walk: at one of the returns, with this value -/
def own_retQ (rets : List Nat) (rt : FieldType) (v : Value) (pc : Nat) (_L : Array Slot) (st : List Value) : Prop := rets.contains pc = true ∧ own_top rt st = some v
theorem own_pure {y : MethodName} {bytes : ByteArray} {maxL N : Nat} {rt : FieldType} {rm : Room} {tab : List own_Ent} {ws : List Jvm.Cond} {P : Heap → List Value → Value → Prop} (rets : List Nat) (hp : plainFor y = true) (hw : ∀ d ∈ ws, d.before a0 Z = true)
    (hT : tab.all (own_ok bytes y.cls ws) = true) (hR : rets.all (fun q => decide (decode bytes q = .ok (own_reti rt, 1))) = true) (W : Nat) (C V : List own_Call) (hC : ∀ q ∈ C, own_CallOk l Z a0 y.cls rm W q) (hV : ∀ q ∈ V, own_VirtOk l Z a0 y.cls rm W q)
    (H : ∀ h as v, P h as v → ∃ L0 F A, argsToLocals as.toArray maxL = L0 ∧ (∀ q ∈ F, own_FldOk Z a0 y.cls h q) ∧ (∀ q ∈ A, own_ArrOk Z h q) ∧ own_wp [] tab (C, V, F, A, h, maxL, W) (own_retQ rets rt v) N 0 L0 []) : own_Pure l Z y bytes maxL (some rt) rm P := by
  intro ws' h0 as v hP
  refine MetFree.of_bodySF hp hisR ?_
  intro p e s m args below meth c s₁ Bd hml hQ hK
  obtain ⟨rfl, hZ, hh⟩ := hQ
  have hx := Bd.exec
  have hby := Bd.bytes
  have hown : s.vm.findClass y.cls = some m.cls := findClass_of_methodNamed Bd.named
  have X0 : Stand p l e rm s m as.toArray below meth c s₁ [] 0 0 := Stand.of_body Bd
  have e0 : s₁.heap = h0 := by rw [← hh, Bd.state]; rfl
  obtain ⟨L0, F, A, hL0, hF, hA, hwp⟩ := H h0 as v hP
  subst hL0
  obtain ⟨T, pc, L, st, X, eT, ⟨hpc, htop⟩, k⟩ := own_wp_sound hx hby hZ hown hw hT (E := (C, V, F, A, h0, maxL, W)) hml ⟨hC, hV, hF, hA⟩ (Nat.zero_le _) (Nat.zero_le _) N 0 _ [] X0 e0 hwp
  have hd : decode bytes pc = .ok (own_reti rt, 1) := by simpa using List.all_eq_true.mp hR pc (List.contains_iff_mem.mp hpc)
  obtain ⟨fs, hr, hrun, hended, hW, hsame⟩ := X.leave (v := some v) (fun h => by rw [Bd.returns] at h; cases h)
  refine ⟨_, _, k _ ?_, hrun, hended, _, _, rfl, ⟨rfl, rfl, ?_⟩, ⟨_, rfl⟩, hW, hsame.mono (Nat.zero_le _) (Nat.zero_le _)⟩
  · exact own_ret X hx Bd.returns (hb hby hd) htop hr
  · exact eT
/-- a piece of a walk, its end told -/
theorem own_seg {T : State} (X : Stand p l e R s m args below meth c T locs cells slots) (hx : p.tables.exec = Jvm.exec) {code : ByteArray} (hby : c.code = code) (hZ : Z.Warmed39 s.vm) {own : String} (hown : s.vm.findClass own = some m.cls) {ws : List Jvm.Cond} (hw : ∀ d ∈ ws, d.before a0 Z = true)
    {tab : List own_Ent} (hT : tab.all (own_ok code own ws) = true) {E : own_Env} (hml : c.maxLocals = E.2.2.2.2.2.1) (hE : own_EnvOk l Z a0 own R E) (hcl : cells ≤ R.cells) (hsl : slots ≤ R.slots) (eT : T.heap = E.2.2.2.2.1) {stop : List Nat} {n pc0 pc1 : Nat} {L0 L1 : Array Slot} {st0 st1 : List Value}
    (h : own_wp stop tab E (fun pc L st => pc = pc1 ∧ L = L1 ∧ st = st1) n pc0 L0 st0) :
    ∃ T', Stand p l e R s m args below meth c T' locs cells slots ∧ T'.heap = E.2.2.2.2.1 ∧ ∀ t, Steps p.tables e below (T'.setTop (mkF m pc1 L1 st1)) t → Steps p.tables e below (T.setTop (mkF m pc0 L0 st0)) t := by
  obtain ⟨T', _, _, _, X', e', ⟨rfl, rfl, rfl⟩, k⟩ := own_wp_sound hx hby hZ hown hw hT hml hE hcl hsl n pc0 L0 st0 X eT h
  exact ⟨T', X', e', k⟩
end own_Sound
def own_tb0 : List own_Ent := [(0, .iload_n 0, 1, 0, .null), (1, .iconst 1, 2, 0, (.int 1)), (2, .iand, 3, 0, .null), (3, .ifCond .eq 9, 6, 12, .null), (6, .ldc2_w 9, 9, 0, (.long 9223372036854775807)), (9, .goto 12, 0, 21, .null), (12, .lconst 1, 13, 0, (.long 1)), (13, .lload_n 1, 14, 0, .null), (14, .ldc2_w 9, 17, 0, (.long 9223372036854775807)), (17, .land, 18, 0, .null), (18, .invokestatic 13, 21, 0, .null), (21, .lstore 11, 23, 0, .null), (23, .lload 5, 25, 0, .null), (25, .ldc2_w 9, 28, 0, (.long 9223372036854775807)), (28, .land, 29, 0, .null), (29, .lstore 13, 31, 0, .null), (34, .dup, 35, 0, .null), (35, .lload 11, 37, 0, .null), (37, .lconst 1, 38, 0, (.long 1)), (38, .lload 7, 40, 0, .null), (40, .ldc2_w 9, 43, 0, (.long 9223372036854775807)), (43, .land, 44, 0, .null), (44, .invokestatic 13, 47, 0, .null), (47, .lconst 1, 48, 0, (.long 1)), (48, .lload 9, 50, 0, .null), (50, .ldc2_w 9, 53, 0, (.long 9223372036854775807)), (53, .land, 54, 0, .null), (54, .invokestatic 13, 57, 0, .null), (60, .astore 15, 62, 0, .null), (62, .aload 15, 64, 0, .null), (64, .lload_n 3, 65, 0, .null), (65, .lload 13, 67, 0, .null), (67, .invokevirtual 22, 70, 0, .null), (70, .istore 16, 72, 0, .null), (72, .iload 16, 74, 0, .null), (74, .lload 11, 76, 0, .null), (76, .lload_n 3, 77, 0, .null), (77, .lload 13, 79, 0, .null), (79, .invokestatic 26, 82, 0, .null), (82, .if_icmp .ne 7, 85, 89, .null), (85, .iconst 1, 86, 0, (.int 1)), (86, .goto 4, 0, 90, .null), (89, .iconst 0, 90, 0, (.int 0))]
theorem own_tb0_ok : own_tb0.all (own_ok code "com/example/onceward/onceward/log/RetentionIsTooOldPinLaw" tables_1) = true := by decide +kernel
def own_tb1 : List own_Ent := [(0, .lload_n 0, 1, 0, .null), (1, .lload_n 2, 2, 0, .null), (2, .lcmp, 3, 0, .null), (3, .ifCond .lt 7, 6, 10, .null), (6, .lload_n 0, 7, 0, .null), (7, .goto 4, 0, 11, .null), (10, .lload_n 2, 11, 0, .null)]
theorem own_tb1_ok : own_tb1.all (own_ok jdk_29_method_66_code "java/lang/Math" tables_1) = true := by decide +kernel
def own_tb2 : List own_Ent := [(0, .aload_n 0, 1, 0, .null), (4, .lload_n 1, 5, 0, .null), (5, .lconst 1, 6, 0, (.long 1)), (6, .lcmp, 7, 0, .null), (7, .ifCond .lt 16, 10, 23, .null), (10, .lload_n 3, 11, 0, .null), (11, .lconst 1, 12, 0, (.long 1)), (12, .lcmp, 13, 0, .null), (13, .ifCond .lt 10, 16, 23, .null), (16, .lload 5, 18, 0, .null), (18, .lconst 1, 19, 0, (.long 1)), (19, .lcmp, 20, 0, .null), (20, .ifCond .ge 20, 23, 40, .null), (26, .dup, 27, 0, .null), (27, .lload_n 1, 28, 0, .null), (28, .lload_n 3, 29, 0, .null), (29, .lload 5, 31, 0, .null), (40, .aload_n 0, 41, 0, .null), (41, .lload_n 1, 42, 0, .null), (45, .aload_n 0, 46, 0, .null), (46, .lload_n 3, 47, 0, .null), (50, .aload_n 0, 51, 0, .null), (51, .lload 5, 53, 0, .null)]
theorem own_tb2_ok : own_tb2.all (own_ok prog_81_method_1_code "com/example/onceward/onceward/log/Retention" tables_1) = true := by decide +kernel
def own_tb3 : List own_Ent := [(0, .aload_n 0, 1, 0, .null)]
theorem own_tb3_ok : own_tb3.all (own_ok jdk_30_method_1_code "java/lang/Record" tables_1) = true := by decide +kernel
def own_tb4 : List own_Ent := []
theorem own_tb4_ok : own_tb4.all (own_ok object_method_1_code "java/lang/Object" tables_1) = true := by decide +kernel
def own_tb5 : List own_Ent := [(0, .aload_n 0, 1, 0, .null), (1, .getfield 18, 4, 0, .null), (4, .ldc2_w 30, 7, 0, (.long 9223372036854775807)), (7, .lcmp, 8, 0, .null), (8, .ifCond .eq 18, 11, 26, .null), (11, .lload_n 1, 12, 0, .null), (12, .lload_n 3, 13, 0, .null), (13, .aload_n 0, 14, 0, .null), (14, .getfield 18, 17, 0, .null), (17, .lsub, 18, 0, .null), (18, .lcmp, 19, 0, .null), (19, .ifCond .ge 7, 22, 26, .null), (22, .iconst 1, 23, 0, (.int 1)), (23, .goto 4, 0, 27, .null), (26, .iconst 0, 27, 0, (.int 0))]
theorem own_tb5_ok : own_tb5.all (own_ok prog_81_method_2_code "com/example/onceward/onceward/log/Retention" tables_1) = true := by decide +kernel
def own_tb6 : List own_Ent := [(0, .lload_n 0, 1, 0, .null), (1, .ldc2_w 9, 4, 0, (.long 9223372036854775807)), (4, .lcmp, 5, 0, .null), (5, .ifCond .ne 5, 8, 10, .null), (8, .iconst 0, 9, 0, (.int 0)), (10, .lload_n 2, 11, 0, .null), (11, .lload 4, 13, 0, .null), (13, .lcmp, 14, 0, .null), (14, .ifCond .lt 5, 17, 19, .null), (17, .iconst 0, 18, 0, (.int 0)), (19, .lload_n 2, 20, 0, .null), (20, .lconst 0, 21, 0, (.long 0)), (21, .lcmp, 22, 0, .null), (22, .ifCond .lt 18, 25, 40, .null), (25, .lload 4, 27, 0, .null), (27, .lload_n 2, 28, 0, .null), (28, .lsub, 29, 0, .null), (29, .lload_n 0, 30, 0, .null), (30, .lcmp, 31, 0, .null), (31, .ifCond .le 7, 34, 38, .null), (34, .iconst 1, 35, 0, (.int 1)), (35, .goto 4, 0, 39, .null), (38, .iconst 0, 39, 0, (.int 0)), (40, .lload_n 2, 41, 0, .null), (41, .ldc2_w 32, 44, 0, (.long (-1))), (44, .lxor, 45, 0, .null), (45, .lstore 6, 47, 0, .null), (47, .lload 6, 49, 0, .null), (49, .lload_n 0, 50, 0, .null), (50, .lload 4, 52, 0, .null), (52, .lsub, 53, 0, .null), (53, .lcmp, 54, 0, .null), (54, .ifCond .lt 7, 57, 61, .null), (57, .iconst 1, 58, 0, (.int 1)), (58, .goto 4, 0, 62, .null), (61, .iconst 0, 62, 0, (.int 0))]
theorem own_tb6_ok : own_tb6.all (own_ok method_3_code "com/example/onceward/onceward/log/RetentionIsTooOldPinLaw" tables_1) = true := by decide +kernel
theorem own_cmpL0 (a b : Int64) : XT.cmpL a b = 0 ↔ a = b := by
  unfold XT.cmpL
  by_cases h1 : b < a
  · rw [if_pos h1]
    exact ⟨fun z => absurd z (by decide), fun z => absurd (z ▸ h1) (Int64.lt_irrefl)⟩
  · rw [if_neg h1]
    by_cases h2 : a = b
    · rw [if_pos h2]; exact ⟨fun _ => h2, fun _ => rfl⟩
    · rw [if_neg h2]; exact ⟨fun z => absurd z (by decide), fun z => absurd z h2⟩
theorem own_cmpL_cases (a b : Int64) : (b < a ∧ XT.cmpL a b = 1) ∨ (a = b ∧ XT.cmpL a b = 0) ∨ (a < b ∧ XT.cmpL a b = -1) := by
  unfold XT.cmpL
  by_cases h1 : b < a
  · rw [if_pos h1]; exact Or.inl ⟨h1, rfl⟩
  · rw [if_neg h1]
    by_cases h2 : a = b
    · rw [if_pos h2]; exact Or.inr (Or.inl ⟨h2, rfl⟩)
    · rw [if_neg h2]
      refine Or.inr (Or.inr ⟨?_, rfl⟩)
      have h3 : a.toInt ≠ b.toInt := fun z => h2 (Int64.toInt_inj.mp z)
      rw [Int64.lt_iff_toInt_lt] at h1 ⊢
      omega
theorem own_cmpLlt (a b : Int64) : XT.cmpL a b < 0 ↔ a.toInt < b.toInt := by
  rcases own_cmpL_cases a b with ⟨h, e⟩ | ⟨h, e⟩ | ⟨h, e⟩ <;> rw [e]
  · rw [Int64.lt_iff_toInt_lt] at h; exact ⟨fun z => absurd z (by decide), fun z => by omega⟩
  · subst h; exact ⟨fun z => absurd z (by decide), fun z => by omega⟩
  · rw [Int64.lt_iff_toInt_lt] at h; exact ⟨fun _ => h, fun _ => by decide⟩
theorem own_cmpLgt (a b : Int64) : 0 < XT.cmpL a b ↔ b.toInt < a.toInt := by
  rcases own_cmpL_cases a b with ⟨h, e⟩ | ⟨h, e⟩ | ⟨h, e⟩ <;> rw [e]
  · rw [Int64.lt_iff_toInt_lt] at h; exact ⟨fun _ => h, fun _ => by decide⟩
  · subst h; exact ⟨fun z => absurd z (by decide), fun z => by omega⟩
  · rw [Int64.lt_iff_toInt_lt] at h; exact ⟨fun z => absurd z (by decide), fun z => by omega⟩
theorem own_cmpLle (a b : Int64) : XT.cmpL a b ≤ 0 ↔ a.toInt ≤ b.toInt := by
  rcases own_cmpL_cases a b with ⟨h, e⟩ | ⟨h, e⟩ | ⟨h, e⟩ <;> rw [e]
  · rw [Int64.lt_iff_toInt_lt] at h; exact ⟨fun z => absurd z (by decide), fun z => by omega⟩
  · subst h; exact ⟨fun _ => Int.le_refl _, fun _ => by decide⟩
  · rw [Int64.lt_iff_toInt_lt] at h; exact ⟨fun _ => by omega, fun _ => by decide⟩
theorem own_cmpLge (a b : Int64) : 0 ≤ XT.cmpL a b ↔ b.toInt ≤ a.toInt := by
  rcases own_cmpL_cases a b with ⟨h, e⟩ | ⟨h, e⟩ | ⟨h, e⟩ <;> rw [e]
  · rw [Int64.lt_iff_toInt_lt] at h; exact ⟨fun _ => by omega, fun _ => by decide⟩
  · subst h; exact ⟨fun _ => Int.le_refl _, fun _ => by decide⟩
  · rw [Int64.lt_iff_toInt_lt] at h; exact ⟨fun z => absurd z (by decide), fun z => by omega⟩
theorem own_d3_0 : decode jdk_30_method_1_code 0 = .ok (.aload_n 0, 1) := by decide +kernel
theorem own_d3_1 : decode jdk_30_method_1_code 1 = .ok (.invokespecial 1, 3) := by decide +kernel
theorem own_d3_4 : decode jdk_30_method_1_code 4 = .ok (.return_, 1) := by decide +kernel
theorem own_ef3 (m : MethodId) (x0 : Addr) : entryFrame m #[(.ref x0)] 1 = mkF m 0 #[.val (.ref x0)] [] := by first | (simp [entryFrame, mkF, argsToLocals, Value.category]; done) | rfl
abbrev own_room3 : Room := { frames := 1, cells := 0, slots := 0, locals := 12 }
def own_Q3 (h0 : Heap) (v : Option Value) (h : Heap) (L : List Loc) : Prop := v = none ∧ L = [] ∧ h = h0
set_option maxRecDepth 65536 in
theorem own_rm3 (l : Launch) (Z : State) (a0 : Array Value) (hw : ∀ d ∈ tables_1, d.before a0 Z = true) (ws : List Jvm.Cond) (a1 : Addr) (h0 : Heap) :
    MetFree l (⟨"java/lang/Record", "<init>", "()V"⟩ : MethodName) (head1 (Jvm.Cond.code (⟨"java/lang/Record", "<init>", "()V"⟩ : MethodName) jdk_30_method_1_code 1 none :: ws) own_room3) (fun a U => a = #[(.ref a1)] ∧ Z.Warmed39 U.vm ∧ U.heap = h0) (fun _ _ _ _ _ => True) (fun _ U o U' => ∃ v L, o = .returned v ∧ own_Q3 h0 v U'.heap L ∧ FrameEnd U o U' L own_room3.cells own_room3.slots) := by
  refine MetFree.of_bodySF (plainFor_of_name (by decide +kernel)) hisR ?_
  intro p e s m args below meth c s₁ Bd hml0 hP hK
  obtain ⟨rfl, hZ, hh⟩ := hP
  have hx := Bd.exec
  have hby := Bd.bytes
  have hml : c.maxLocals = 1 := hml0
  have hown : s.vm.findClass "java/lang/Record" = some m.cls := findClass_of_methodNamed Bd.named
  have X0 : Stand p l e own_room3 s m #[(.ref a1)] below meth c s₁ [] 0 0 := Stand.of_body Bd
  have e0 : s₁.heap = h0 := by rw [← hh, Bd.state]; rfl
  have pre0 : ∀ t, Steps p.tables e below (s₁.setTop (mkF m 0 #[.val (.ref a1)] [])) t → Steps p.tables e below (s₁.setTop (entryFrame m #[(.ref a1)] 1)) t := fun t k => castTop (own_ef3 m a1) k
  obtain ⟨T2, X2, e2, st2⟩ := initO X0 hx hZ hown (hw _ (List.mem_of_getElem? (i := 16) rfl)) (hw _ (List.mem_of_getElem? (i := 17) rfl)) (hw _ (List.mem_of_getElem? (i := 18) rfl)) e0 (g := (mkF m 1 #[.val (.ref a1)] [(.ref a1)])) rfl (by rw [hml]; rfl) rfl (hb hby own_d3_1) (by decide) (W := 0) (by show 2 * 0 + _ ≤ _; exact Nat.le_of_eq rfl) (by decide)
  obtain ⟨fs, hr, hrun, hended, hW, hsame⟩ := X2.leave (v := none) (fun _ => rfl)
  refine ⟨_, _, pre0 _ ?_, hrun, hended, _, _, rfl, ?_, ⟨_, rfl⟩, hW, hsame.mono (by decide) (by decide)⟩
  · refine XS.aloadN X0.here hx rfl (hb hby own_d3_0) rfl rfl ?_
    show Steps p.tables e below (s₁.setTop (mkF m 1 #[.val (.ref a1)] [(.ref a1)])) _
    refine st2 _ ?_
    show Steps p.tables e below (T2.setTop (mkF m 4 #[.val (.ref a1)] [])) _
    exact X2.returnOut hx Bd.returns (hb hby own_d3_4) hr
  · exact ⟨rfl, rfl, e2⟩
theorem own_pdV : parseMethodDescriptor "()V" = some ⟨[], none⟩ := by decide +kernel
abbrev own_RT : String := "com/example/onceward/onceward/log/Retention"
abbrev own_LW : String := "com/example/onceward/onceward/log/RetentionIsTooOldPinLaw"
def own_mx (x y : Int64) : Int64 := if x.toInt < y.toInt then y else x
def own_P1 (_h : Heap) (as : List Value) (v : Value) : Prop := ∃ x y, as = [.long x, .long y] ∧ v = .long (own_mx x y)
theorem own_m1 (l : Launch) (Z : State) (a0 : Array Value) (hw : ∀ d ∈ tables_1, d.before a0 Z = true) : own_Pure l Z ⟨"java/lang/Math", "max", "(JJ)J"⟩ jdk_29_method_66_code 4 (some .long) ({ frames := 0, cells := 0, slots := 0, locals := 0 } : Room) own_P1 := by
  refine own_pure (N := 30) (tab := own_tb1) [11] (by decide +kernel) hw own_tb1_ok (by decide +kernel) 0 [] [] (fun q hq => by cases hq) (fun q hq => by cases hq) ?_
  rintro h as v ⟨x, y, rfl, rfl⟩
  refine ⟨#[.val (.long x), .second, .val (.long y), .second], [], [], by simp [argsToLocals, Value.category], (fun q hq => by cases hq), (fun q hq => by cases hq), ?_⟩
  refine And.intro (fun h1 => ?_) (fun h1 => ?_)
  · have e1 : x.toInt < y.toInt := (own_cmpLlt x y).mp h1
    exact And.intro rfl (by simp [own_top, own_mx, e1])
  · have e1 : ¬ x.toInt < y.toInt := fun z => h1 ((own_cmpLlt x y).mpr z)
    exact And.intro rfl (by simp [own_top, own_mx, e1])
def own_old (m t n : Int64) : Int32 := if m.toInt = 9223372036854775807 then 0 else if t.toInt < n.toInt - m.toInt then 1 else 0
theorem own_maxI (m : Int64) : m = 9223372036854775807 ↔ m.toInt = 9223372036854775807 := by
  have e : (9223372036854775807 : Int64).toInt = 9223372036854775807 := by decide
  exact ⟨fun z => by rw [z, e], fun z => Int64.toInt_inj.mp (by rw [z, e])⟩
theorem own_xor (t : Int64) : (t ^^^ (-1)).toInt = -1 - t.toInt := by
  have e : t ^^^ (-1) = -1 - t := by
    apply Int64.toBitVec_inj.mp
    have z : (-1 : Int64).toBitVec = BitVec.allOnes 64 := by decide
    simp only [Int64.toBitVec_xor, Int64.toBitVec_sub, z]
    rw [BitVec.allOnes_sub_eq_not, BitVec.xor_allOnes]
  have m1 : (-1 : Int64).toInt = -1 := by decide
  have l1 := Int64.toInt_lt t
  have l2 := Int64.le_toInt t
  rw [e, Jvm.Kit.i64_sub (x := -1) (by rw [m1]; omega) (by rw [m1]; omega), m1]
def own_P5 (Z : State) (h : Heap) (as : List Value) (v : Value) : Prop := ∃ a m t n, as = [.ref a, .long t, .long n] ∧ Exa Z h a own_RT ∧ Fld Z h a own_RT "maxAgeMillis" "J" (.long m) ∧ 1 ≤ m.toInt ∧ 0 ≤ n.toInt ∧ v = .int (own_old m t n)
theorem own_m5 (l : Launch) (Z : State) (a0 : Array Value) (hw : ∀ d ∈ tables_1, d.before a0 Z = true) : own_Pure l Z ⟨own_RT, "isTooOld", "(JJ)Z"⟩ prog_81_method_2_code 5 (some .boolean) ({ frames := 0, cells := 0, slots := 0, locals := 0 } : Room) (own_P5 Z) := by
  refine own_pure (N := 30) (tab := own_tb5) [27] (plainFor_of_name (by decide +kernel)) hw own_tb5_ok (by decide +kernel) 0 [] [] (fun q hq => by cases hq) (fun q hq => by cases hq) ?_
  rintro h as v ⟨a, m, t, n, rfl, hE, hF, hm, hn, rfl⟩
  have l1 := Int64.toInt_lt n
  have l2 := Int64.toInt_lt m
  have es : (n - m).toInt = n.toInt - m.toInt := Jvm.Kit.i64_sub (by omega) (by omega)
  refine ⟨#[.val (.ref a), .val (.long t), .second, .val (.long n), .second], [(18, a, .long m)], [], by simp [argsToLocals, Value.category], ?_, (fun q hq => by cases hq), ?_⟩
  · intro q hq
    obtain rfl : q = (18, a, .long m) := by simpa using hq
    exact ⟨own_RT, own_RT, "maxAgeMillis", "J", hw _ (List.mem_of_getElem? (i := 19) rfl), Via.refl, hF⟩
  · refine And.intro rfl (And.intro (fun h1 => ?_) (fun h1 => ?_))
    · have e1 : m.toInt = 9223372036854775807 := (own_maxI m).mp ((own_cmpL0 _ _).mp h1)
      exact And.intro rfl (by simp [own_top, own_old, e1])
    · have e1 : ¬ m.toInt = 9223372036854775807 := fun z => h1 ((own_cmpL0 _ _).mpr ((own_maxI m).mpr z))
      refine And.intro rfl (And.intro (fun h2 => ?_) (fun h2 => ?_))
      · have e2 : ¬ t.toInt < n.toInt - m.toInt := by
          have z : (n - m).toInt ≤ t.toInt := (own_cmpLge t (n - m)).mp h2
          omega
        exact And.intro rfl (by simp [own_top, own_old, e1, e2])
      · have e2 : t.toInt < n.toInt - m.toInt := by
          have z : ¬ (n - m).toInt ≤ t.toInt := fun z => h2 ((own_cmpLge t (n - m)).mpr z)
          omega
        exact And.intro rfl (by simp [own_top, own_old, e1, e2])
def own_P6 (_h : Heap) (as : List Value) (v : Value) : Prop := ∃ m t n : Int64, as = [.long m, .long t, .long n] ∧ 1 ≤ m.toInt ∧ 0 ≤ n.toInt ∧ v = .int (own_old m t n)
theorem own_m6 (l : Launch) (Z : State) (a0 : Array Value) (hw : ∀ d ∈ tables_1, d.before a0 Z = true) : own_Pure l Z ⟨own_LW, "expected", "(JJJ)Z"⟩ method_3_code 8 (some .boolean) ({ frames := 0, cells := 0, slots := 0, locals := 0 } : Room) own_P6 := by
  refine own_pure (N := 40) (tab := own_tb6) [9, 18, 39, 62] (plainFor_of_name (by decide +kernel)) hw own_tb6_ok (by decide +kernel) 0 [] [] (fun q hq => by cases hq) (fun q hq => by cases hq) ?_
  rintro h as v ⟨m, t, n, rfl, hm, hn, rfl⟩
  have l1 := Int64.toInt_lt n
  have l2 := Int64.toInt_lt m
  have l3 := Int64.toInt_lt t
  refine ⟨#[.val (.long m), .second, .val (.long t), .second, .val (.long n), .second, .unset, .unset], [], [], by simp [argsToLocals, Value.category], (fun q hq => by cases hq), (fun q hq => by cases hq), ?_⟩
  refine And.intro (fun h1 => ?_) (fun h1 => ?_)
  · have e1 : ¬ m.toInt = 9223372036854775807 := fun z => h1 ((own_cmpL0 _ _).mpr ((own_maxI m).mpr z))
    refine And.intro (fun h2 => ?_) (fun h2 => ?_)
    · have e2 : t.toInt < n.toInt := (own_cmpLlt t n).mp h2
      refine And.intro (fun h3 => ?_) (fun h3 => ?_)
      · have e3 : t.toInt < 0 := (own_cmpLlt t 0).mp h3
        have es : (m - n).toInt = m.toInt - n.toInt := Jvm.Kit.i64_sub (by omega) (by omega)
        have ex := own_xor t
        refine And.intro (fun h4 => ?_) (fun h4 => ?_)
        · have z : (t ^^^ (-1)).toInt < (m - n).toInt := (own_cmpLlt _ _).mp h4
          have e2 : ¬ t.toInt < n.toInt - m.toInt := by omega
          exact And.intro rfl (by simp [own_top, own_old, e1, e2])
        · have z : ¬ (t ^^^ (-1)).toInt < (m - n).toInt := fun z => h4 ((own_cmpLlt _ _).mpr z)
          have e2 : t.toInt < n.toInt - m.toInt := by omega
          exact And.intro rfl (by simp [own_top, own_old, e1, e2])
      · have e3 : ¬ t.toInt < 0 := fun z => h3 ((own_cmpLlt t 0).mpr z)
        have es : (n - t).toInt = n.toInt - t.toInt := Jvm.Kit.i64_sub (by omega) (by omega)
        refine And.intro (fun h4 => ?_) (fun h4 => ?_)
        · have z : (n - t).toInt ≤ m.toInt := (own_cmpLle _ _).mp h4
          have e2 : ¬ t.toInt < n.toInt - m.toInt := by omega
          exact And.intro rfl (by simp [own_top, own_old, e1, e2])
        · have z : ¬ (n - t).toInt ≤ m.toInt := fun z => h4 ((own_cmpLle _ _).mpr z)
          have e2 : t.toInt < n.toInt - m.toInt := by omega
          exact And.intro rfl (by simp [own_top, own_old, e1, e2])
    · have z : ¬ t.toInt < n.toInt := fun z => h2 ((own_cmpLlt t n).mpr z)
      have e2 : ¬ t.toInt < n.toInt - m.toInt := by omega
      exact And.intro rfl (by simp [own_top, own_old, e1, e2])
  · have e1 : m.toInt = 9223372036854775807 := (own_maxI m).mp ((own_cmpL0 _ _).mp (Classical.byContradiction h1))
    exact And.intro rfl (by simp [own_top, own_old, e1])
abbrev own_room2 : Room := { frames := 2, cells := 0, slots := 0, locals := 24 }
def own_Q2 (Z : State) (a1 : Addr) (x1 : Int64) (h0 : Heap) (n0 : Nat) (v : Option Value) (h : Heap) (L : List Loc) : Prop := v = none ∧ Fr n0 L ∧ Keep h0 h [a1] ∧ Fld Z h a1 own_RT "maxAgeMillis" "J" (.long x1)
theorem own_d2_0 : decode prog_81_method_1_code 0 = .ok (.aload_n 0, 1) := by decide +kernel
theorem own_d2_1 : decode prog_81_method_1_code 1 = .ok (.invokespecial 3, 3) := by decide +kernel
theorem own_d2_42 : decode prog_81_method_1_code 42 = .ok (.putfield 18, 3) := by decide +kernel
theorem own_d2_47 : decode prog_81_method_1_code 47 = .ok (.putfield 24, 3) := by decide +kernel
theorem own_d2_53 : decode prog_81_method_1_code 53 = .ok (.putfield 27, 3) := by decide +kernel
theorem own_d2_56 : decode prog_81_method_1_code 56 = .ok (.return_, 1) := by decide +kernel
theorem own_ef2 (m : MethodId) (a1 : Addr) (x1 x2 x3 : Int64) : entryFrame m #[(.ref a1), (.long x1), (.long x2), (.long x3)] 7 = mkF m 0 #[.val (.ref a1), .val (.long x1), .second, .val (.long x2), .second, .val (.long x3), .second] [] := by first | (simp [entryFrame, mkF, argsToLocals, Value.category]; done) | rfl
theorem own_w2 (a1 : Addr) (x1 x2 x3 : Int64) (h : Heap) (g1 : 1 ≤ x1.toInt) (g2 : 1 ≤ x2.toInt) (g3 : 1 ≤ x3.toInt) : own_wp [] own_tb2 ([], [], [], [], h, 7, 0) (fun pc L st => pc = 42 ∧ L = #[.val (.ref a1), .val (.long x1), .second, .val (.long x2), .second, .val (.long x3), .second] ∧ st = [.long x1, .ref a1]) 40 4 #[.val (.ref a1), .val (.long x1), .second, .val (.long x2), .second, .val (.long x3), .second] [] := by
  have o1 : (1 : Int64).toInt = 1 := by decide
  refine And.intro (fun h1 => ?_) (fun _ => ?_)
  · have z := (own_cmpLlt x1 1).mp h1
    omega
  refine And.intro (fun h1 => ?_) (fun _ => ?_)
  · have z := (own_cmpLlt x2 1).mp h1
    omega
  refine And.intro (fun _ => ?_) (fun h1 => ?_)
  · exact And.intro rfl (And.intro rfl rfl)
  · exact absurd ((own_cmpLge x3 1).mpr (by omega)) h1
set_option maxRecDepth 65536 in
set_option maxHeartbeats 2000000 in
theorem own_rm2 (l : Launch) (Z : State) (a0 : Array Value) (hw : ∀ d ∈ tables_1, d.before a0 Z = true) (ws : List Jvm.Cond) (a1 : Addr) (x1 x2 x3 : Int64) (h0 : Heap) (n0 : Nat) (E1 : Exa Z h0 a1 own_RT) (F1 : Fld Z h0 a1 own_RT "maxAgeMillis" "J" (.long 0)) (F2 : Fld Z h0 a1 own_RT "maxBytes" "J" (.long 0)) (F3 : Fld Z h0 a1 own_RT "segmentBytes" "J" (.long 0)) (gn : n0 ≤ a1) (g1 : 1 ≤ x1.toInt) (g2 : 1 ≤ x2.toInt) (g3 : 1 ≤ x3.toInt) :
    MetFree l (⟨own_RT, "<init>", "(JJJ)V"⟩ : MethodName) (head1 (Jvm.Cond.code (⟨own_RT, "<init>", "(JJJ)V"⟩ : MethodName) prog_81_method_1_code 7 none :: ws) own_room2) (fun a U => a = #[(.ref a1), (.long x1), (.long x2), (.long x3)] ∧ Z.Warmed39 U.vm ∧ U.heap = h0) (fun _ _ _ _ _ => True) (fun _ U o U' => ∃ v L, o = .returned v ∧ own_Q2 Z a1 x1 h0 n0 v U'.heap L ∧ FrameEnd U o U' L own_room2.cells own_room2.slots) := by
  refine MetFree.of_bodySF (plainFor_of_name (by decide +kernel)) hisR ?_
  intro p e s m args below meth c s₁ Bd hml0 hP hK
  obtain ⟨rfl, hZ, hh⟩ := hP
  have hx := Bd.exec
  have hby := Bd.bytes
  have hml : c.maxLocals = 7 := hml0
  have hown : s.vm.findClass own_RT = some m.cls := findClass_of_methodNamed Bd.named
  have hnm := (name_of_methodNamed Bd.named Bd.method).1
  have X0 : Stand p l e own_room2 s m #[(.ref a1), (.long x1), (.long x2), (.long x3)] below meth c s₁ [] 0 0 := Stand.of_body Bd
  have e0 : s₁.heap = h0 := by rw [← hh, Bd.state]; rfl
  have N0 := Fr.nil n0
  have pre0 : ∀ t, Steps p.tables e below (s₁.setTop (mkF m 0 #[.val (.ref a1), .val (.long x1), .second, .val (.long x2), .second, .val (.long x3), .second] [])) t → Steps p.tables e below (s₁.setTop (entryFrame m #[(.ref a1), (.long x1), (.long x2), (.long x3)] 7)) t := fun t k => castTop (own_ef2 m a1 x1 x2 x3) k
  obtain ⟨_, _, ⟨T3, L3, k3, n3⟩, -, X3, ⟨Lc3, hQ3, l3, y3, z3⟩, st3⟩ := X0.specialBack hx (y := (⟨"java/lang/Record", "<init>", "()V"⟩ : MethodName)) rfl hown (mvT hZ (hw _ (List.mem_of_getElem? (i := 11) rfl))) (mvT hZ (hw _ (List.mem_of_getElem? (i := 12) rfl))) (mvT hZ (hw _ (List.mem_of_getElem? (i := 15) rfl))) (by decide) (backOf (W := 0) (own_rm3 l Z a0 hw [] a1 h0) hZ (hw _ (List.mem_of_getElem? (i := 15) rfl)) (hw _ (List.mem_of_getElem? (i := 14) rfl)) (by decide) (by decide)) (g := (mkF m 1 #[.val (.ref a1), .val (.long x1), .second, .val (.long x2), .second, .val (.long x3), .second] [(.ref a1)])) rfl (by rw [hml]; rfl) (Steps.refl _) (a := a1) (argsL := []) (rest := []) (lenOf own_pdV rfl) rfl (by show 2 * 0 + _ ≤ _; exact Nat.le_of_eq rfl) (hb hby own_d2_1) (fun _ _ => ⟨rfl, e0, (by decide : 0 + 0 ≤ _), (by decide : 0 + 0 ≤ _)⟩)
  dsimp only [Pt.U, Pt.locs, Pt.cells, Pt.slots] at X3 l3 y3 z3 st3 hQ3
  subst l3 y3 z3
  obtain ⟨rfl, rfl, e3⟩ := hQ3
  obtain ⟨T4, X4, e4, st4⟩ := own_seg X3 hx hby hZ hown hw own_tb2_ok (E := ([], [], [], [], h0, 7, 0)) hml ⟨(fun q hq => by cases hq), (fun q hq => by cases hq), (fun q hq => by cases hq), (fun q hq => by cases hq)⟩ (by decide) (by decide) e3 (own_w2 a1 x1 x2 x3 h0 g1 g2 g3)
  obtain ⟨T5, h5, X5, e5, W5, st5⟩ := putF X4 hx hZ hown (host := "") (Or.inl (hw _ (List.mem_of_getElem? (i := 19) rfl))) Via.refl e4 F1 E1 (Or.inr ⟨(hw _ (List.mem_of_getElem? (i := 20) rfl)), rfl, hnm⟩) (hw _ (List.mem_of_getElem? (i := 6) rfl)) (ty := .long) (by decide) rfl rfl (g := (mkF m 42 #[.val (.ref a1), .val (.long x1), .second, .val (.long x2), .second, .val (.long x3), .second] [(.long x1), (.ref a1)])) rfl rfl (hb hby own_d2_42)
  obtain ⟨T6, X6, e6, st6⟩ := own_seg X5 hx hby hZ hown hw own_tb2_ok (E := ([], [], [], [], h5, 7, 0)) hml ⟨(fun q hq => by cases hq), (fun q hq => by cases hq), (fun q hq => by cases hq), (fun q hq => by cases hq)⟩ (by decide) (by decide) e5 (stop := []) (n := 40) (pc0 := 45) (pc1 := 47) (L0 := #[.val (.ref a1), .val (.long x1), .second, .val (.long x2), .second, .val (.long x3), .second]) (L1 := #[.val (.ref a1), .val (.long x1), .second, .val (.long x2), .second, .val (.long x3), .second]) (st0 := []) (st1 := [.long x2, .ref a1]) (And.intro rfl (And.intro rfl rfl))
  obtain ⟨T7, h7, X7, e7, W7, st7⟩ := putF X6 hx hZ hown (host := "") (Or.inl (hw _ (List.mem_of_getElem? (i := 21) rfl))) Via.refl e6 (F2.other W5 (Or.inr (slot_ne (Or.inr (hw _ (List.mem_of_getElem? (i := 22) rfl))) (Or.inr (hw _ (List.mem_of_getElem? (i := 20) rfl))) (by decide) (t := .long) (t' := .long) (by decide) (by decide)))) (E1.wr W5) (Or.inr ⟨(hw _ (List.mem_of_getElem? (i := 22) rfl)), rfl, hnm⟩) (hw _ (List.mem_of_getElem? (i := 6) rfl)) (ty := .long) (by decide) rfl rfl (g := (mkF m 47 #[.val (.ref a1), .val (.long x1), .second, .val (.long x2), .second, .val (.long x3), .second] [(.long x2), (.ref a1)])) rfl rfl (hb hby own_d2_47)
  obtain ⟨T8, X8, e8, st8⟩ := own_seg X7 hx hby hZ hown hw own_tb2_ok (E := ([], [], [], [], h7, 7, 0)) hml ⟨(fun q hq => by cases hq), (fun q hq => by cases hq), (fun q hq => by cases hq), (fun q hq => by cases hq)⟩ (by decide) (by decide) e7 (stop := []) (n := 40) (pc0 := 50) (pc1 := 53) (L0 := #[.val (.ref a1), .val (.long x1), .second, .val (.long x2), .second, .val (.long x3), .second]) (L1 := #[.val (.ref a1), .val (.long x1), .second, .val (.long x2), .second, .val (.long x3), .second]) (st0 := []) (st1 := [.long x3, .ref a1]) (And.intro rfl (And.intro rfl rfl))
  obtain ⟨T9, h9, X9, e9, W9, st9⟩ := putF X8 hx hZ hown (host := "") (Or.inl (hw _ (List.mem_of_getElem? (i := 23) rfl))) Via.refl e8 ((F3.other W5 (Or.inr (slot_ne (Or.inr (hw _ (List.mem_of_getElem? (i := 24) rfl))) (Or.inr (hw _ (List.mem_of_getElem? (i := 20) rfl))) (by decide) (t := .long) (t' := .long) (by decide) (by decide)))).other W7 (Or.inr (slot_ne (Or.inr (hw _ (List.mem_of_getElem? (i := 24) rfl))) (Or.inr (hw _ (List.mem_of_getElem? (i := 22) rfl))) (by decide) (t := .long) (t' := .long) (by decide) (by decide)))) ((E1.wr W5).wr W7) (Or.inr ⟨(hw _ (List.mem_of_getElem? (i := 24) rfl)), rfl, hnm⟩) (hw _ (List.mem_of_getElem? (i := 6) rfl)) (ty := .long) (by decide) rfl rfl (g := (mkF m 53 #[.val (.ref a1), .val (.long x1), .second, .val (.long x2), .second, .val (.long x3), .second] [(.long x3), (.ref a1)])) rfl rfl (hb hby own_d2_53)
  have N9 := Fr.snoc X9 (Fr.snoc X7 (Fr.snoc X5 N0 gn) gn) gn
  obtain ⟨fs, hr, hrun, hended, hW, hsame⟩ := X9.leave (v := none) (fun _ => rfl)
  refine ⟨_, _, pre0 _ ?_, hrun, hended, _, _, rfl, ?_, ⟨_, rfl⟩, hW, hsame.mono (by decide) (by decide)⟩
  · refine XS.aloadN X0.here hx rfl (hb hby own_d2_0) rfl rfl ?_
    show Steps p.tables e below (s₁.setTop (mkF m 1 #[.val (.ref a1), .val (.long x1), .second, .val (.long x2), .second, .val (.long x3), .second] [(.ref a1)])) _
    refine st3.trans ?_
    refine st4 _ ?_
    refine st5 _ ?_
    refine st6 _ ?_
    refine st7 _ ?_
    refine st8 _ ?_
    refine st9 _ ?_
    show Steps p.tables e below (T9.setTop (mkF m 56 #[.val (.ref a1), .val (.long x1), .second, .val (.long x2), .second, .val (.long x3), .second] [])) _
    exact X9.returnOut hx Bd.returns (hb hby own_d2_56) hr
  · show own_Q2 Z a1 x1 h0 n0 _ T9.heap _
    rw [e9]
    exact ⟨rfl, N9, (((Keep.refl _ _).wr W5 (Or.inl (List.mem_of_getElem? (i := 0) rfl))).wr W7 (Or.inl (List.mem_of_getElem? (i := 0) rfl))).wr W9 (Or.inl (List.mem_of_getElem? (i := 0) rfl)), ((F1.same W5).other W7 (Or.inr (slot_ne (Or.inr (hw _ (List.mem_of_getElem? (i := 20) rfl))) (Or.inr (hw _ (List.mem_of_getElem? (i := 22) rfl))) (by decide) (t := .long) (t' := .long) (by decide) (by decide)))).other W9 (Or.inr (slot_ne (Or.inr (hw _ (List.mem_of_getElem? (i := 20) rfl))) (Or.inr (hw _ (List.mem_of_getElem? (i := 24) rfl))) (by decide) (t := .long) (t' := .long) (by decide) (by decide)))⟩
abbrev own_C : List own_Call := [(13, 2, own_P1), (26, 3, own_P6)]
abbrev own_V (Z : State) : List own_Call := [(22, 2, own_P5 Z)]
theorem own_mx1 (y : Int64) : 1 ≤ (own_mx 1 y).toInt := by
  have o1 : (1 : Int64).toInt = 1 := by decide
  unfold own_mx
  split <;> omega
theorem own_w0 (Z : State) (f : Int32) (ag nw no by' sg : Int64) (h : Heap) : own_wp [21] own_tb0 (own_C, own_V Z, [], [], h, 17, 6) (fun pc L st => ∃ mA : Int64, 1 ≤ mA.toInt ∧ pc = 21 ∧ L = #[.val (.int f), .val (.long ag), .second, .val (.long nw), .second, .val (.long no), .second, .val (.long by'), .second, .val (.long sg), .second, .unset, .unset, .unset, .unset, .unset, .unset] ∧ st = [.long mA]) 20 0 #[.val (.int f), .val (.long ag), .second, .val (.long nw), .second, .val (.long no), .second, .val (.long by'), .second, .val (.long sg), .second, .unset, .unset, .unset, .unset, .unset, .unset] [] := by
  refine And.intro (fun _ => ?_) (fun _ => ?_)
  · refine Exists.intro (.long (own_mx 1 (ag &&& 9223372036854775807))) (And.intro ⟨_, _, rfl, rfl⟩ (And.intro rfl (And.intro (Nat.le_of_ble_eq_true rfl) (And.intro rfl ?_))))
    exact Exists.intro (own_mx 1 (ag &&& 9223372036854775807)) (And.intro (own_mx1 _) (And.intro rfl (And.intro rfl rfl)))
  · exact Exists.intro 9223372036854775807 (And.intro (by decide) (And.intro rfl (And.intro rfl rfl)))
theorem own_efL (m : MethodId) (f : Int32) (ag nw no by' sg : Int64) : entryFrame m #[(.int f), (.long ag), (.long nw), (.long no), (.long by'), (.long sg)] maxLocals = mkF m 0 #[.val (.int f), .val (.long ag), .second, .val (.long nw), .second, .val (.long no), .second, .val (.long by'), .second, .val (.long sg), .second, .unset, .unset, .unset, .unset, .unset, .unset] [] := by first | (simp [entryFrame, mkF, argsToLocals, Value.category, maxLocals]; done) | rfl
set_option maxRecDepth 65536 in
set_option maxHeartbeats 2000000 in
theorem own_law (l : Launch) (Z : State) (a0 : Array Value) (hw : ∀ d ∈ tables_1, d.before a0 Z = true) (ws : List Jvm.Cond) (f : Int32) (ag nw no by' sg : Int64) (h0 : Heap) (n0 : Nat) (Z0 : n0 ≤ h0.size) :
    MetFree l x (head1 (Jvm.Cond.code x code maxLocals ret :: ws) room_1) (fun a' U => a' = #[(.int f), (.long ag), (.long nw), (.long no), (.long by'), (.long sg)] ∧ Z.Warmed39 U.vm ∧ U.heap = h0) (fun _ _ _ _ _ => True) (fun _ U o U' => ∃ v L, o = .returned v ∧ (v = some (.int 1) ∧ Fr n0 L) ∧ FrameEnd U o U' L room_1.cells room_1.slots) := by
  refine MetFree.of_bodySF (plainFor_of_name (by decide +kernel)) hisR ?_
  intro p e s m args below meth c s₁ Bd hml0 hP hK
  obtain ⟨rfl, hZ, hh⟩ := hP
  have hx := Bd.exec
  have hby := Bd.bytes
  have hml : c.maxLocals = 17 := hml0
  have hown : s.vm.findClass own_LW = some m.cls := findClass_of_methodNamed Bd.named
  have X0 : Stand p l e room_1 s m #[(.int f), (.long ag), (.long nw), (.long no), (.long by'), (.long sg)] below meth c s₁ [] 0 0 := Stand.of_body Bd
  have e0 : s₁.heap = h0 := by rw [← hh, Bd.state]; rfl
  have N0 := Fr.nil n0
  have hC : ∀ q ∈ own_C, own_CallOk l Z a0 own_LW room_1 6 q := fun q hq => by
    simp only [own_C, List.mem_cons, List.not_mem_nil, or_false] at hq
    rcases hq with rfl | rfl
    · exact ⟨_, _, _, _, _, own_m1 l Z a0 hw, hw _ (List.mem_of_getElem? (i := 1) rfl), hw _ (List.mem_of_getElem? (i := 2) rfl), hw _ (List.mem_of_getElem? (i := 3) rfl), hw _ (List.mem_of_getElem? (i := 4) rfl), by decide, ⟨_, _, (by decide +kernel : parseMethodDescriptor "(JJ)J" = some ⟨[.long, .long], some .long⟩), rfl⟩, rfl, rfl, by decide, by decide⟩
    · exact ⟨_, _, _, _, _, own_m6 l Z a0 hw, hw _ (List.mem_of_getElem? (i := 31) rfl), hw _ (List.mem_of_getElem? (i := 32) rfl), hw _ (List.mem_of_getElem? (i := 33) rfl), hw _ (List.mem_of_getElem? (i := 34) rfl), by decide, ⟨_, _, (by decide +kernel : parseMethodDescriptor "(JJJ)Z" = some ⟨[.long, .long, .long], some .boolean⟩), rfl⟩, rfl, rfl, by decide, by decide⟩
  have hV : ∀ q ∈ own_V Z, own_VirtOk l Z a0 own_LW room_1 6 q := fun q hq => by
    obtain rfl : q = (22, 2, own_P5 Z) := by simpa using hq
    refine ⟨_, _, _, _, _, own_m5 l Z a0 hw, ?_, hw _ (List.mem_of_getElem? (i := 25) rfl), hw _ (List.mem_of_getElem? (i := 26) rfl), hw _ (List.mem_of_getElem? (i := 28) rfl), hw _ (List.mem_of_getElem? (i := 27) rfl), hw _ (List.mem_of_getElem? (i := 7) rfl), hw _ (List.mem_of_getElem? (i := 29) rfl), by decide, ⟨_, _, (by decide +kernel : parseMethodDescriptor "(JJ)Z" = some ⟨[.long, .long], some .boolean⟩), rfl⟩, rfl, rfl, by decide, by decide⟩
    rintro h a as w ⟨a', m', t', n', q1, hE, -⟩
    cases q1
    exact hE
  have pre0 : ∀ t, Steps p.tables e below (s₁.setTop (mkF m 0 #[.val (.int f), .val (.long ag), .second, .val (.long nw), .second, .val (.long no), .second, .val (.long by'), .second, .val (.long sg), .second, .unset, .unset, .unset, .unset, .unset, .unset] [])) t → Steps p.tables e below (s₁.setTop (entryFrame m #[(.int f), (.long ag), (.long nw), (.long no), (.long by'), (.long sg)] maxLocals)) t := fun t k => castTop (own_efL m f ag nw no by' sg) k
  obtain ⟨T1, _, _, _, X1, e1, ⟨mA, hmA, rfl, rfl, rfl⟩, st1⟩ := own_wp_sound hx hby hZ hown hw own_tb0_ok (E := (own_C, own_V Z, [], [], h0, 17, 6)) hml ⟨hC, hV, (fun q hq => by cases hq), (fun q hq => by cases hq)⟩ (by decide) (by decide) 20 0 _ [] X0 e0 (own_w0 Z f ag nw no by' sg h0)
  obtain ⟨T2, X2, e2, st2⟩ := own_seg X1 hx hby hZ hown hw own_tb0_ok (E := (own_C, own_V Z, [], [], h0, 17, 6)) hml ⟨hC, hV, (fun q hq => by cases hq), (fun q hq => by cases hq)⟩ (by decide) (by decide) e1 (stop := []) (n := 40) (pc0 := 21) (pc1 := 31) (L0 := #[.val (.int f), .val (.long ag), .second, .val (.long nw), .second, .val (.long no), .second, .val (.long by'), .second, .val (.long sg), .second, .unset, .unset, .unset, .unset, .unset, .unset]) (L1 := #[.val (.int f), .val (.long ag), .second, .val (.long nw), .second, .val (.long no), .second, .val (.long by'), .second, .val (.long sg), .second, .val (.long mA), .second, .val (.long (no &&& 9223372036854775807)), .second, .unset, .unset]) (st0 := [.long mA]) (st1 := []) (And.intro rfl (And.intro rfl rfl))
  have hn : 0 ≤ (no &&& 9223372036854775807).toInt := by rw [Jvm.Kit.i64_mask no 9223372036854775807 (k := 63) (by decide) (by decide)]; exact Int.emod_nonneg _ (by decide)
  generalize (no &&& 9223372036854775807) = nn at *
  obtain ⟨T3, h3, X3, e3, E3, A3, D3, -, st3⟩ := newO X2 hx hZ hown (hw _ (List.mem_of_getElem? (i := 5) rfl)) (hw _ (List.mem_of_getElem? (i := 6) rfl)) (hw _ (List.mem_of_getElem? (i := 7) rfl)) e2 (g := (mkF m 31 #[.val (.int f), .val (.long ag), .second, .val (.long nw), .second, .val (.long no), .second, .val (.long by'), .second, .val (.long sg), .second, .val (.long mA), .second, .val (.long nn), .second, .unset, .unset] [])) rfl (hb hby at_31) (by decide) (by decide)
  obtain ⟨a3, g3⟩ : ∃ z, z = h0.size := ⟨_, rfl⟩
  rw [← g3] at A3 D3 st3
  have F30 : Fld Z h3 a3 own_RT "maxAgeMillis" "J" (.long (0 : Int64)) := (D3 (Or.inr (hw _ (List.mem_of_getElem? (i := 20) rfl))) (ty := .long) (by decide))
  have F31 : Fld Z h3 a3 own_RT "maxBytes" "J" (.long (0 : Int64)) := (D3 (Or.inr (hw _ (List.mem_of_getElem? (i := 22) rfl))) (ty := .long) (by decide))
  have F32 : Fld Z h3 a3 own_RT "segmentBytes" "J" (.long (0 : Int64)) := (D3 (Or.inr (hw _ (List.mem_of_getElem? (i := 24) rfl))) (ty := .long) (by decide))
  obtain ⟨T4, X4, e4, st4⟩ := own_seg X3 hx hby hZ hown hw own_tb0_ok (E := (own_C, own_V Z, [], [], h3, 17, 6)) hml ⟨hC, hV, (fun q hq => by cases hq), (fun q hq => by cases hq)⟩ (by decide) (by decide) e3 (stop := []) (n := 40) (pc0 := 34) (pc1 := 57) (L0 := #[.val (.int f), .val (.long ag), .second, .val (.long nw), .second, .val (.long no), .second, .val (.long by'), .second, .val (.long sg), .second, .val (.long mA), .second, .val (.long nn), .second, .unset, .unset]) (L1 := #[.val (.int f), .val (.long ag), .second, .val (.long nw), .second, .val (.long no), .second, .val (.long by'), .second, .val (.long sg), .second, .val (.long mA), .second, .val (.long nn), .second, .unset, .unset]) (st0 := [.ref a3]) (st1 := [.long (own_mx 1 (sg &&& 9223372036854775807)), .long (own_mx 1 (by' &&& 9223372036854775807)), .long mA, .ref a3, .ref a3]) (by
    refine Exists.intro (.long (own_mx 1 (by' &&& 9223372036854775807))) (And.intro ⟨_, _, rfl, rfl⟩ (And.intro rfl (And.intro (Nat.le_of_ble_eq_true rfl) (And.intro rfl ?_))))
    refine Exists.intro (.long (own_mx 1 (sg &&& 9223372036854775807))) (And.intro ⟨_, _, rfl, rfl⟩ (And.intro rfl (And.intro (Nat.le_of_ble_eq_true rfl) (And.intro rfl ?_))))
    exact And.intro rfl (And.intro rfl rfl))
  have hB := own_mx1 (by' &&& 9223372036854775807)
  have hS := own_mx1 (sg &&& 9223372036854775807)
  generalize (own_mx 1 (by' &&& 9223372036854775807)) = bb at *
  generalize (own_mx 1 (sg &&& 9223372036854775807)) = ss at *
  obtain ⟨_, _, ⟨T5, L5, k5, n5⟩, -, X5, ⟨Lc5, hQ5, l5, y5, z5⟩, st5⟩ := X4.specialBack hx (y := (⟨own_RT, "<init>", "(JJJ)V"⟩ : MethodName)) rfl hown (mvT hZ (hw _ (List.mem_of_getElem? (i := 8) rfl))) (mvT hZ (hw _ (List.mem_of_getElem? (i := 9) rfl))) (mvT hZ (hw _ (List.mem_of_getElem? (i := 10) rfl))) (by decide) (backOf (W := 1) (own_rm2 l Z a0 hw [] a3 mA bb ss h3 n0 A3 F30 F31 F32 (Nat.le_trans Z0 (Nat.le_of_eq g3.symm)) hmA hB hS) hZ (hw _ (List.mem_of_getElem? (i := 10) rfl)) (hw _ (List.mem_of_getElem? (i := 7) rfl)) (by decide) (by decide)) (g := (mkF m 57 #[.val (.int f), .val (.long ag), .second, .val (.long nw), .second, .val (.long no), .second, .val (.long by'), .second, .val (.long sg), .second, .val (.long mA), .second, .val (.long nn), .second, .unset, .unset] [.long ss, .long bb, .long mA, .ref a3, .ref a3])) rfl (by rw [hml]; rfl) (Steps.refl _) (a := a3) (argsL := [.long mA, .long bb, .long ss]) (rest := [(.ref a3)]) (lenOf (by decide +kernel : parseMethodDescriptor "(JJJ)V" = some ⟨[.long, .long, .long], none⟩) rfl) rfl (by show 2 * 0 + _ ≤ _; exact Nat.le_of_eq rfl) (hb hby at_57) (fun _ _ => ⟨rfl, e4, (by decide : 1 + 0 ≤ _), (by decide : 3 + 0 ≤ _)⟩)
  dsimp only [Pt.U, Pt.locs, Pt.cells, Pt.slots] at X5 l5 y5 z5 st5 hQ5
  subst l5 y5 z5
  obtain ⟨rfl, N5, K5, F5⟩ := hQ5
  have N6 := Fr.app N0 N5
  obtain ⟨T6, pc6, L6, st6', X6, e6, ⟨hpc, htop⟩, st6⟩ := own_wp_sound hx hby hZ hown hw own_tb0_ok (E := (own_C, own_V Z, [], [], T5.heap, 17, 6)) hml ⟨hC, hV, (fun q hq => by cases hq), (fun q hq => by cases hq)⟩ (by decide) (by decide) (stop := []) (Q := own_retQ [90] .boolean (.int 1)) 40 60 #[.val (.int f), .val (.long ag), .second, .val (.long nw), .second, .val (.long no), .second, .val (.long by'), .second, .val (.long sg), .second, .val (.long mA), .second, .val (.long nn), .second, .unset, .unset] [.ref a3] X5 rfl (by
    refine Exists.intro (.int (own_old mA nw nn)) (And.intro ⟨a3, mA, nw, nn, rfl, A3.keep K5, F5, hmA, hn, rfl⟩ (And.intro rfl (And.intro (Nat.le_of_ble_eq_true rfl) (And.intro rfl ?_))))
    refine Exists.intro (.int (own_old mA nw nn)) (And.intro ⟨mA, nw, nn, rfl, hmA, hn, rfl⟩ (And.intro rfl (And.intro (Nat.le_of_ble_eq_true rfl) (And.intro rfl ?_))))
    refine And.intro (fun q => absurd rfl q) (fun _ => ?_)
    exact And.intro rfl rfl)
  have hd6 : decode code pc6 = .ok (.ireturn, 1) := by
    have : pc6 = 90 := by simpa using hpc
    subst this; exact at_90
  obtain ⟨fs, hr, hrun, hended, hW, hsame⟩ := X6.leave (v := some (.int (1 : Int32))) (fun h => by rw [Bd.returns] at h; cases h)
  refine ⟨_, _, pre0 _ ?_, hrun, hended, _, _, rfl, ⟨rfl, N6⟩, ⟨_, rfl⟩, hW, hsame.mono (by decide) (by decide)⟩
  refine st1 _ ?_
  refine st2 _ ?_
  refine st3 _ ?_
  refine st4 _ ?_
  refine st5.trans ?_
  refine st6 _ ?_
  exact own_ret X6 hx Bd.returns (hb hby hd6) htop hr
set_option maxRecDepth 65536 in
theorem comes_1 {Post : Tables → Env → Array Value → State → Outcome → State → Prop} (hpost : ∀ tb e args s v u, (limb_1_1.after args s (.returned v) u = true ∧ limb_1_2.after args s (.returned v) u = true ∧ True) → FrameEnd s (.returned v) u (Jvm.fieldLocs frame_1_writes args s ++ Jvm.arrayLocs frame_1_arrays args s ++ Jvm.staticLocs frame_1_statics s) 16 128 → Post tb e args s (.returned v) u) :
    ArmFor flags0 classFile x code maxLocals ret World_1 tables_1 room_1 Calls_1 rest_1 Pre_1 Post := by
  intro l hfl _ _ p e ha hc hk s m args below hf hA hF happ hP
  obtain ⟨hcalls, hrest, hpre⟩ := hP
  obtain ⟨-, -, -, hnamed, -, -, -, hat⟩ := (Spec.applies_iff hf).mp happ
  obtain ⟨hg, hn⟩ := and_e (Cond.before_iff.mp (show (Jvm.Cond.and given_1 narrow_1).before args s = true from hpre))
  obtain ⟨hcount, k0⟩ := and_e hg
  obtain ⟨g0, k1⟩ := and_e k0
  obtain ⟨g1, k2⟩ := and_e k1
  obtain ⟨g2, k3⟩ := and_e k2
  obtain ⟨g3, k4⟩ := and_e k3
  obtain ⟨g4, k5⟩ := and_e k4
  obtain ⟨w0, w1, w2, w3, w4, w5, rfl⟩ : ∃ w0 w1 w2 w3 w4 w5 : Value, args = #[w0, w1, w2, w3, w4, w5] := by
    have hs : args.size = 6 := by simpa [Cond.value, given_1] using hcount
    obtain ⟨L⟩ := args
    match L, hs with
    | [w0, w1, w2, w3, w4, w5], _ => exact ⟨w0, w1, w2, w3, w4, w5, rfl⟩
  have hw := fun d (hd : d ∈ tables_1) => atoms_spec (ws := Jvm.Cond.code x code maxLocals ret :: tables_1) hat d (List.mem_cons_of_mem _ hd)
  obtain ⟨i0, ei0⟩ := is_v g0
  obtain rfl : w0 = (.int i0) := Option.some.inj ei0
  obtain ⟨i1, ei1⟩ := isL_v g1
  obtain rfl : w1 = (.long i1) := Option.some.inj ei1
  obtain ⟨i2, ei2⟩ := isL_v g2
  obtain rfl : w2 = (.long i2) := Option.some.inj ei2
  obtain ⟨i3, ei3⟩ := isL_v g3
  obtain rfl : w3 = (.long i3) := Option.some.inj ei3
  obtain ⟨i4, ei4⟩ := isL_v g4
  obtain rfl : w4 = (.long i4) := Option.some.inj ei4
  obtain ⟨i5, ei5⟩ := isL_v k5
  obtain rfl : w5 = (.long i5) := Option.some.inj ei5
  obtain ⟨n, o, h1, h2, h3, _, L, rfl, ⟨rfl, N⟩, hq⟩ := own_law l s _ hw tables_1 i0 i1 i2 i3 i4 i5 s.heap s.heap.size (Nat.le_refl _) p e ha hc hk s m _ below hf ((Spec.applies_iff_loose hf).mp happ).1 ⟨rfl, State.Warmed39.refl s, rfl⟩ trivial
  refine ⟨n, _, h1, h2, h3, hpost _ _ _ _ _ _ ⟨Cond.after_iff.mpr rfl, Cond.after_iff.mpr (eq_i res_at (Term.int_eval (1)) rfl), trivial⟩ ⟨hq.1, hq.2.1, (hq.2.2.sift fun y hy => Or.inr (N y hy)).mono (by decide) (by decide)⟩⟩
theorem main_1_1 : Claimed_1_1 := comes_1 fun _ _ _ _ _ _ h hF => ⟨h.1, hF⟩
theorem main_1_2 : Claimed_1_2 := comes_1 fun _ _ _ _ _ _ h hF => ⟨h.2.1, hF⟩
end Jvm.Pilot.@@N@@
namespace Jvm.Pilot.@@N@@
open Jvm Jvm.ClassFile Sem Op Lib Jvm.Free Jvm.Stand Jvm.Pilot.@@N@@.Jvm.D
/-! MADE BY PROGRAM (witnessworld.py) out of the Statement's table words and the real class files: 11 classes; the members and pool entries that the words name. The judged class is class 1, her method 1. -/
namespace start1
open Jvm.ClassFile
def u (s : String) : CpInfo := .utf8 (stringToUtf16 s)
/-- a pool by its gaps: so many unusable entries, then the entry; so many at the end -/
def gap : Nat → List CpInfo → List CpInfo
  | 0, r => r
  | n + 1, r => .unusable :: gap n r
def poolList (es : List (Nat × CpInfo)) (last : Nat) : List CpInfo := es.foldr (fun e r => gap e.1 (e.2 :: r)) (gap last [])
def pool (es : List (Nat × CpInfo)) (last : Nat) : Array CpInfo := ⟨poolList es last⟩
def fileOf (pool : Array CpInfo) (this : Nat) (attrs : Array Attribute := #[]) (ms : Array MethodInfo := #[]) (fl : Nat := 33) (sup : Nat := 0) (ifs : Array Nat := #[]) (fds : Array FieldInfo := #[]) : ClassFile where
  minorVersion := 0
  majorVersion := 65
  constantPool := pool
  accessFlags := fl
  thisClass := this
  superClass := sup
  interfaces := ifs
  fields := fds
  methods := ms
  attributes := attrs
def plain (name : String) (sup : Option ClassId) : Class where
  name := name
  kind := .ordinary
  loader := none
  accessFlags := 33
  super := sup
  interfaces := #[]
  cf := none
  fields := #[]
  methods := #[]
  instanceTypes := #[]
  staticTypes := #[]
  resolved := #[]
  callSites := []
  init := .initialized
  statics := none
  mirror := none

def pool0 : Array CpInfo := pool [(5, u "<init>"), (0, u "()V"), (1, .class_ 10), (1, u "java/lang/Object")] 113

def k0c0 : Code := { maxStack := 0, maxLocals := 1, code := object_method_1_code, exceptionTable := #[], attributes := #[] }
def k0m0 : Method := { name := "<init>", desc := "()V", sig := { parameters := [], returnType := none }, accessFlags := 1, code := some k0c0 }
/-- java/lang/Object -/
def k0 : Class := { plain "java/lang/Object" none with
  accessFlags := 33
  interfaces := #[]
  cf := some (fileOf pool0 8 #[] #[{ accessFlags := 1, nameIndex := 5, descriptorIndex := 6, attributes := #[] }] 33 0 #[] #[])
  fields := #[]
  methods := #[k0m0]
  instanceTypes := #[]
  staticTypes := #[]
  resolved := Array.replicate 124 none
  statics := none }

def pool1 : Array CpInfo := pool [(2, .class_ 4), (1, u "java/lang/Object"), (0, u "<init>"), (0, u "()V"), (0, .class_ 8), (0, u "com/example/onceward/onceward/log/Retention"), (0, .long 9223372036854775807), (3, .methodref 14 15), (0, .class_ 16), (0, .nameAndType 17 18), (0, u "java/lang/Math"), (0, u "max"), (0, u "(JJ)J"), (0, .methodref 7 20), (0, .nameAndType 5 21), (0, u "(JJJ)V"), (0, .methodref 7 23), (0, .nameAndType 24 25), (0, u "isTooOld"), (0, u "(JJ)Z"), (0, .methodref 27 28), (0, .class_ 29), (0, .nameAndType 30 31), (0, u "com/example/onceward/onceward/log/RetentionIsTooOldPinLaw"), (0, u "expected"), (0, u "(JJJ)Z"), (0, .long 18446744073709551615), (3, u "law"), (0, u "(IJJJJJ)Z")] 3

def k1m0 : Method := { name := "<init>", desc := "()V", sig := { parameters := [], returnType := none }, accessFlags := 1, code := none }
def k1c1 : Code := { maxStack := 12, maxLocals := 17, code := code, exceptionTable := #[], attributes := #[] }
def k1m1 : Method := { name := "law", desc := "(IJJJJJ)Z", sig := { parameters := [.int, .long, .long, .long, .long, .long], returnType := some .boolean }, accessFlags := 9, code := some k1c1 }
def k1c2 : Code := { maxStack := 6, maxLocals := 8, code := method_3_code, exceptionTable := #[], attributes := #[] }
def k1m2 : Method := { name := "expected", desc := "(JJJ)Z", sig := { parameters := [.long, .long, .long], returnType := some .boolean }, accessFlags := 10, code := some k1c2 }
/-- com/example/onceward/onceward/log/RetentionIsTooOldPinLaw -/
def k1 : Class := { plain "com/example/onceward/onceward/log/RetentionIsTooOldPinLaw" (some 0) with
  accessFlags := 49
  interfaces := #[]
  cf := some (fileOf pool1 27 #[] #[{ accessFlags := 1, nameIndex := 5, descriptorIndex := 6, attributes := #[] }, { accessFlags := 9, nameIndex := 36, descriptorIndex := 37, attributes := #[] }, { accessFlags := 10, nameIndex := 30, descriptorIndex := 31, attributes := #[] }] 49 2 #[] #[])
  fields := #[]
  methods := #[k1m0, k1m1, k1m2]
  instanceTypes := #[]
  staticTypes := #[]
  resolved := Array.replicate 41 none
  statics := none }

def pool2 : Array CpInfo := pool [(1, .class_ 2), (0, u "java/lang/Math"), (1, .class_ 6), (1, u "java/lang/Object"), (0, u "<init>"), (0, u "()V"), (89, .class_ 100), (1, u "java/lang/Math$RandomNumberGeneratorHolder"), (20, u "(JJ)J"), (50, u "negativeZeroFloatBits"), (0, u "J"), (2, u "negativeZeroDoubleBits"), (21, u "max"), (46, u "$assertionsDisabled"), (0, u "Z"), (91, u "twoToTheDoubleScaleDown"), (0, u "D"), (4, u "twoToTheDoubleScaleUp"), (9, u "E"), (3, u "PI"), (2, u "TAU"), (2, u "DEGREES_TO_RADIANS"), (0, u "RADIANS_TO_DEGREES")] 94

def k2m0 : Method := { name := "<init>", desc := "()V", sig := { parameters := [], returnType := none }, accessFlags := 2, code := none }
def k2c1 : Code := { maxStack := 4, maxLocals := 4, code := jdk_29_method_66_code, exceptionTable := #[], attributes := #[] }
def k2m1 : Method := { name := "max", desc := "(JJ)J", sig := { parameters := [.long, .long], returnType := some .long }, accessFlags := 9, code := some k2c1 }
/-- java/lang/Math -/
def k2 : Class := { plain "java/lang/Math" (some 0) with
  accessFlags := 49
  interfaces := #[]
  cf := some (fileOf pool2 1 #[.nestMembers #[98]] #[{ accessFlags := 2, nameIndex := 7, descriptorIndex := 8, attributes := #[] }, { accessFlags := 9, nameIndex := 198, descriptorIndex := 121, attributes := #[] }] 49 4 #[] #[{ accessFlags := 25, nameIndex := 354, descriptorIndex := 339, attributes := #[] }, { accessFlags := 25, nameIndex := 358, descriptorIndex := 339, attributes := #[] }, { accessFlags := 25, nameIndex := 361, descriptorIndex := 339, attributes := #[] }, { accessFlags := 26, nameIndex := 364, descriptorIndex := 339, attributes := #[] }, { accessFlags := 26, nameIndex := 365, descriptorIndex := 339, attributes := #[] }, { accessFlags := 26, nameIndex := 172, descriptorIndex := 173, attributes := #[] }, { accessFlags := 26, nameIndex := 176, descriptorIndex := 173, attributes := #[] }, { accessFlags := 8, nameIndex := 344, descriptorIndex := 339, attributes := #[] }, { accessFlags := 8, nameIndex := 338, descriptorIndex := 339, attributes := #[] }, { accessFlags := 4120, nameIndex := 245, descriptorIndex := 246, attributes := #[] }])
  fields := #[{ name := "E", type := .double, accessFlags := 25, slot := 0, constantValue := 0 }, { name := "PI", type := .double, accessFlags := 25, slot := 1, constantValue := 0 }, { name := "TAU", type := .double, accessFlags := 25, slot := 2, constantValue := 0 }, { name := "DEGREES_TO_RADIANS", type := .double, accessFlags := 26, slot := 3, constantValue := 0 }, { name := "RADIANS_TO_DEGREES", type := .double, accessFlags := 26, slot := 4, constantValue := 0 }, { name := "negativeZeroFloatBits", type := .long, accessFlags := 26, slot := 5, constantValue := 0 }, { name := "negativeZeroDoubleBits", type := .long, accessFlags := 26, slot := 6, constantValue := 0 }, { name := "twoToTheDoubleScaleUp", type := .double, accessFlags := 8, slot := 7, constantValue := 0 }, { name := "twoToTheDoubleScaleDown", type := .double, accessFlags := 8, slot := 8, constantValue := 0 }, { name := "$assertionsDisabled", type := .boolean, accessFlags := 4120, slot := 9, constantValue := 0 }]
  methods := #[k2m0, k2m1]
  instanceTypes := #[]
  staticTypes := #[.double, .double, .double, .double, .double, .long, .long, .double, .double, .boolean]
  resolved := Array.replicate 460 none
  statics := none }

def pool3 : Array CpInfo := pool [(1, .methodref 2 3), (0, .class_ 4), (0, .nameAndType 5 6), (0, u "java/lang/Object"), (0, u "<init>"), (0, u "()V"), (0, .class_ 8), (0, u "java/lang/Record")] 13

def k3c0 : Code := { maxStack := 1, maxLocals := 1, code := jdk_30_method_1_code, exceptionTable := #[], attributes := #[] }
def k3m0 : Method := { name := "<init>", desc := "()V", sig := { parameters := [], returnType := none }, accessFlags := 4, code := some k3c0 }
/-- java/lang/Record -/
def k3 : Class := { plain "java/lang/Record" (some 0) with
  accessFlags := 1057
  interfaces := #[]
  cf := some (fileOf pool3 7 #[] #[{ accessFlags := 4, nameIndex := 5, descriptorIndex := 6, attributes := #[] }] 1057 2 #[] #[])
  fields := #[]
  methods := #[k3m0]
  instanceTypes := #[]
  staticTypes := #[]
  resolved := Array.replicate 22 none
  statics := none }

def pool4 : Array CpInfo := pool [(3, .methodref 4 5), (0, .class_ 6), (0, .nameAndType 7 8), (0, u "java/lang/Record"), (0, u "<init>"), (0, u "()V"), (9, .fieldref 19 20), (0, .class_ 21), (0, .nameAndType 22 23), (0, u "com/example/onceward/onceward/log/Retention"), (0, u "maxAgeMillis"), (0, u "J"), (0, .fieldref 19 25), (0, .nameAndType 26 23), (0, u "maxBytes"), (0, .fieldref 19 28), (0, .nameAndType 29 23), (0, u "segmentBytes"), (0, .long 9223372036854775807), (17, u "(JJJ)V"), (2, u "KEEP_ALL"), (0, u "Lcom/example/onceward/onceward/log/Retention;"), (0, u "NO_LIMIT"), (1, u "DEFAULT_SEGMENT_BYTES"), (4, u "isTooOld"), (0, u "(JJ)Z")] 35

def k4c0 : Code := { maxStack := 8, maxLocals := 7, code := prog_81_method_1_code, exceptionTable := #[], attributes := #[] }
def k4m0 : Method := { name := "<init>", desc := "(JJJ)V", sig := { parameters := [.long, .long, .long], returnType := none }, accessFlags := 1, code := some k4c0 }
def k4c1 : Code := { maxStack := 6, maxLocals := 5, code := prog_81_method_2_code, exceptionTable := #[], attributes := #[] }
def k4m1 : Method := { name := "isTooOld", desc := "(JJ)Z", sig := { parameters := [.long, .long], returnType := some .boolean }, accessFlags := 0, code := some k4c1 }
/-- com/example/onceward/onceward/log/Retention -/
def k4 : Class := { plain "com/example/onceward/onceward/log/Retention" (some 3) with
  accessFlags := 49
  interfaces := #[]
  cf := some (fileOf pool4 19 #[] #[{ accessFlags := 1, nameIndex := 7, descriptorIndex := 48, attributes := #[] }, { accessFlags := 0, nameIndex := 60, descriptorIndex := 61, attributes := #[] }] 49 4 #[] #[{ accessFlags := 18, nameIndex := 22, descriptorIndex := 23, attributes := #[] }, { accessFlags := 18, nameIndex := 26, descriptorIndex := 23, attributes := #[] }, { accessFlags := 18, nameIndex := 29, descriptorIndex := 23, attributes := #[] }, { accessFlags := 25, nameIndex := 53, descriptorIndex := 23, attributes := #[] }, { accessFlags := 25, nameIndex := 55, descriptorIndex := 23, attributes := #[] }, { accessFlags := 25, nameIndex := 51, descriptorIndex := 52, attributes := #[] }])
  fields := #[{ name := "maxAgeMillis", type := .long, accessFlags := 18, slot := 0, constantValue := 0 }, { name := "maxBytes", type := .long, accessFlags := 18, slot := 1, constantValue := 0 }, { name := "segmentBytes", type := .long, accessFlags := 18, slot := 2, constantValue := 0 }, { name := "NO_LIMIT", type := .long, accessFlags := 25, slot := 0, constantValue := 0 }, { name := "DEFAULT_SEGMENT_BYTES", type := .long, accessFlags := 25, slot := 1, constantValue := 0 }, { name := "KEEP_ALL", type := (.object "com/example/onceward/onceward/log/Retention"), accessFlags := 25, slot := 2, constantValue := 0 }]
  methods := #[k4m0, k4m1]
  instanceTypes := #[.long, .long, .long]
  staticTypes := #[.long, .long, (.object "com/example/onceward/onceward/log/Retention")]
  resolved := Array.replicate 97 none
  statics := none }

def pool5 : Array CpInfo := pool [(1, u "java/lang/Cloneable"), (0, .class_ 1), (0, u "java/lang/Object"), (0, .class_ 3)] 3

/-- java/lang/Cloneable -/
def k5 : Class := { plain "java/lang/Cloneable" (some 0) with
  accessFlags := 1537
  interfaces := #[]
  cf := some (fileOf pool5 2 #[] #[] 1537 4 #[] #[])
  fields := #[]
  methods := #[]
  instanceTypes := #[]
  staticTypes := #[]
  resolved := Array.replicate 8 none
  statics := none }

def pool6 : Array CpInfo := pool [(1, u "java/io/Serializable"), (0, .class_ 1), (0, u "java/lang/Object"), (0, .class_ 3)] 3

/-- java/io/Serializable -/
def k6 : Class := { plain "java/io/Serializable" (some 0) with
  accessFlags := 1537
  interfaces := #[]
  cf := some (fileOf pool6 2 #[] #[] 1537 4 #[] #[])
  fields := #[]
  methods := #[]
  instanceTypes := #[]
  staticTypes := #[]
  resolved := Array.replicate 8 none
  statics := none }

/-- the primitive byte -/
def k7 : Class := { plain "byte" none with kind := .primitive 'B', accessFlags := 0x411 }
/-- [B -/
def k8 : Class := { plain "[B" (some 0) with kind := .array 7 .byte, interfaces := #[5, 6], accessFlags := 1041 }

/-- the primitive int -/
def k9 : Class := { plain "int" none with kind := .primitive 'I', accessFlags := 0x411 }
/-- [I -/
def k10 : Class := { plain "[I" (some 0) with kind := .array 9 .int, interfaces := #[5, 6], accessFlags := 1041 }

def heap : Heap := #[]
def classes : Array Class := #[k0, k1, k2, k3, k4, k5, k6, k7, k8, k9, k10]
def interned : List (Array UInt16 × Addr) := []
def slotsUsed : Nat := 0
def theMethod : MethodId := ⟨1, 1⟩
def args0 : Array Value := #[.int 5, .long 5, .long 7, .long 9, .long 3, .long 4]
def aboutOver (below : List Frame) : State where
  vm := { classes := classes, interned := interned.toArray }
  heap := heap
  slotsUsed := slotsUsed
  threads := #[{ frames := .invoking theMethod args0 :: below }]
def below0 : List Frame := [.native { method := ⟨0, 0⟩, args := #[] }]
def about1 : State := aboutOver below0
def p0 : Program := .bare "" "" ""
def e0 : Env := launch0.env 0 0 0
theorem w_frames : about1.frames = Frame.invoking theMethod args0 :: below0 := rfl
set_option maxRecDepth 65536 in
theorem w_args : argsFit about1.vm theMethod args0 = true := by decide +kernel
set_option maxRecDepth 65536 in
theorem w_heap : heapFits about1 = true := by decide +kernel
set_option maxRecDepth 65536 in
theorem w_runnable : about1.curStatus? = some .runnable := by decide +kernel
set_option maxRecDepth 65536 in
theorem w_alone : about1.alone = true := by decide +kernel
set_option maxRecDepth 65536 in
theorem w_named : about1.methodNamed? x = some theMethod := by decide +kernel
set_option maxRecDepth 65536 in
theorem w_hears : about1.hears theMethod below0 = true := by decide +kernel
set_option maxRecDepth 65536 in
theorem w_ripe : about1.ripe theMethod args0 below0 = true := by decide +kernel
theorem w_running : about1.status = .running := rfl
set_option maxRecDepth 65536 in
theorem w_room : about1.hasRoom e0.platform room_1 = true :=
  launch0.hasRoom_least _ room_1 (by decide +kernel) (by decide +kernel) (by decide +kernel) (by decide +kernel) (by decide +kernel) (by decide +kernel)
theorem allAtoms_all (ts : List Jvm.Cond) (a : Array Jvm.Value) (st : Jvm.State) : (allAtoms ts).before a st = ts.all (fun c => c.before a st) := by
  induction ts with
  | nil => rfl
  | cons c t ih =>
    show (Jvm.Cond.and c (allAtoms t)).before a st = _
    rw [Jvm.Cond.before_and, ih, List.all_cons]
def words1 : List Jvm.Cond := Jvm.Cond.code x code maxLocals ret :: tables_1
/-- a 'code' word, met by the world's own term for the bytes: nothing is compared byte by byte -/
theorem code_word {y : MethodName} {bytes : ByteArray} {mx : Nat} {rt : Option FieldType} {a : Array Value} {s : State} {m : MethodId} {meth : Method} {c : Code} (h1 : s.methodNamed? y = some m) (h2 : s.vm.method? m = some meth) (h3 : meth.code = some c) (h4 : c.code = bytes)
    (h5 : (c.maxLocals == mx && c.exceptionTable.isEmpty && decide (c.maxStack ≤ mostOperands) && decide (meth.sig.returnType = rt) && !meth.locks && decide (parseMethodDescriptor y.desc = some meth.sig)) = true) : (Jvm.Cond.code y bytes mx rt).before a s = true := by
  simp only [Bool.and_eq_true, beq_iff_eq, Bool.not_eq_true', decide_eq_true_eq] at h5
  obtain ⟨⟨⟨⟨⟨g1, g2⟩, g3⟩, g4⟩, g5⟩, g6⟩ := h5
  simp [Cond.before, Cond.holds, Cond.value, h1, h2, h3, h4, g1, g2, g3, g4, g5, g6]
def isCode : Jvm.Cond → Bool
  | .code _ _ _ _ => true
  | _ => false
theorem all_split {L : List Jvm.Cond} {P : Jvm.Cond → Bool} (h1 : L.all (fun c => isCode c || P c) = true) (h2 : ∀ c ∈ L.filter isCode, P c = true) : L.all P = true := by
  refine List.all_eq_true.mpr fun c hc => ?_
  have h := List.all_eq_true.mp h1 c hc
  rcases Bool.eq_false_or_eq_true (isCode c) with hi | hi
  · exact h2 c (List.mem_filter.mpr ⟨hc, hi⟩)
  · simpa [hi] using h
set_option maxRecDepth 65536 in
theorem w_c0 : (Jvm.Cond.code x code maxLocals ret).before args0 about1 = true := code_word (m := ⟨1, 1⟩) (meth := k1m1) (c := k1c1) (by decide +kernel) rfl rfl rfl (by decide +kernel)
set_option maxRecDepth 65536 in
theorem w_c1 : (Jvm.Cond.code ({ cls := "java/lang/Math", name := "max", desc := "(JJ)J" } : Jvm.MethodName) jdk_29_method_66_code (4 : Nat) (Option.some Jvm.ClassFile.FieldType.long)).before args0 about1 = true := code_word (m := ⟨2, 1⟩) (meth := k2m1) (c := k2c1) (by decide +kernel) rfl rfl rfl (by decide +kernel)
set_option maxRecDepth 65536 in
theorem w_c2 : (Jvm.Cond.code ({ cls := "com/example/onceward/onceward/log/Retention", name := "<init>", desc := "(JJJ)V" } : Jvm.MethodName) prog_81_method_1_code (7 : Nat) (Option.none : Option Jvm.ClassFile.FieldType)).before args0 about1 = true := code_word (m := ⟨4, 0⟩) (meth := k4m0) (c := k4c0) (by decide +kernel) rfl rfl rfl (by decide +kernel)
set_option maxRecDepth 65536 in
theorem w_c3 : (Jvm.Cond.code ({ cls := "java/lang/Record", name := "<init>", desc := "()V" } : Jvm.MethodName) jdk_30_method_1_code (1 : Nat) (Option.none : Option Jvm.ClassFile.FieldType)).before args0 about1 = true := code_word (m := ⟨3, 0⟩) (meth := k3m0) (c := k3c0) (by decide +kernel) rfl rfl rfl (by decide +kernel)
set_option maxRecDepth 65536 in
theorem w_c4 : (Jvm.Cond.code ({ cls := "java/lang/Object", name := "<init>", desc := "()V" } : Jvm.MethodName) object_method_1_code (1 : Nat) (Option.none : Option Jvm.ClassFile.FieldType)).before args0 about1 = true := code_word (m := ⟨0, 0⟩) (meth := k0m0) (c := k0c0) (by decide +kernel) rfl rfl rfl (by decide +kernel)
set_option maxRecDepth 65536 in
theorem w_c5 : (Jvm.Cond.code ({ cls := "com/example/onceward/onceward/log/Retention", name := "isTooOld", desc := "(JJ)Z" } : Jvm.MethodName) prog_81_method_2_code (5 : Nat) (Option.some Jvm.ClassFile.FieldType.boolean)).before args0 about1 = true := code_word (m := ⟨4, 1⟩) (meth := k4m1) (c := k4c1) (by decide +kernel) rfl rfl rfl (by decide +kernel)
set_option maxRecDepth 65536 in
theorem w_c6 : (Jvm.Cond.code ({ cls := "com/example/onceward/onceward/log/RetentionIsTooOldPinLaw", name := "expected", desc := "(JJJ)Z" } : Jvm.MethodName) method_3_code (8 : Nat) (Option.some Jvm.ClassFile.FieldType.boolean)).before args0 about1 = true := code_word (m := ⟨1, 2⟩) (meth := k1m2) (c := k1c2) (by decide +kernel) rfl rfl rfl (by decide +kernel)
def codes1 : List Jvm.Cond := [Jvm.Cond.code x code maxLocals ret, Jvm.Cond.code ({ cls := "java/lang/Math", name := "max", desc := "(JJ)J" } : Jvm.MethodName) jdk_29_method_66_code (4 : Nat) (Option.some Jvm.ClassFile.FieldType.long), Jvm.Cond.code ({ cls := "com/example/onceward/onceward/log/Retention", name := "<init>", desc := "(JJJ)V" } : Jvm.MethodName) prog_81_method_1_code (7 : Nat) (Option.none : Option Jvm.ClassFile.FieldType), Jvm.Cond.code ({ cls := "java/lang/Record", name := "<init>", desc := "()V" } : Jvm.MethodName) jdk_30_method_1_code (1 : Nat) (Option.none : Option Jvm.ClassFile.FieldType), Jvm.Cond.code ({ cls := "java/lang/Object", name := "<init>", desc := "()V" } : Jvm.MethodName) object_method_1_code (1 : Nat) (Option.none : Option Jvm.ClassFile.FieldType), Jvm.Cond.code ({ cls := "com/example/onceward/onceward/log/Retention", name := "isTooOld", desc := "(JJ)Z" } : Jvm.MethodName) prog_81_method_2_code (5 : Nat) (Option.some Jvm.ClassFile.FieldType.boolean), Jvm.Cond.code ({ cls := "com/example/onceward/onceward/log/RetentionIsTooOldPinLaw", name := "expected", desc := "(JJJ)Z" } : Jvm.MethodName) method_3_code (8 : Nat) (Option.some Jvm.ClassFile.FieldType.boolean)]
set_option maxRecDepth 65536 in
theorem codes_eq : words1.filter isCode = codes1 := rfl
theorem w_codes : ∀ c ∈ words1.filter isCode, c.before args0 about1 = true := by
  rw [codes_eq]
  intro c hc
  simp only [codes1, List.mem_cons, List.not_mem_nil, or_false] at hc
  rcases hc with rfl | rfl | rfl | rfl | rfl | rfl | rfl
  · exact w_c0
  · exact w_c1
  · exact w_c2
  · exact w_c3
  · exact w_c4
  · exact w_c5
  · exact w_c6
set_option maxRecDepth 65536 in
theorem w_t1 : (words1.take 24).all (fun c => isCode c || c.before args0 about1) = true := by decide +kernel
set_option maxRecDepth 65536 in
theorem w_t2 : (words1.drop 24).all (fun c => isCode c || c.before args0 about1) = true := by decide +kernel
theorem w_tables : (allAtoms (Jvm.Cond.code x code maxLocals ret :: tables_1)).before args0 about1 = true := by
  rw [allAtoms_all]
  show words1.all (fun c => c.before args0 about1) = true
  refine all_split ?_ w_codes
  rw [← List.take_append_drop 24 words1, List.all_append, w_t1, w_t2]
  rfl
set_option maxRecDepth 65536 in
theorem w_case : (Jvm.Cond.and given_1 narrow_1).before args0 about1 = true := by decide +kernel
theorem w_applies : (headSpec (Jvm.Cond.code x code maxLocals ret :: tables_1) room_1).applies x e0.platform about1 = true :=
  (Spec.applies_iff w_frames).mpr ⟨w_running, w_runnable, w_alone, w_named, w_hears, w_ripe, w_room, w_tables⟩
theorem atStart : AtStart classFile x code maxLocals ret World_1 tables_1 room_1 Calls_1 rest_1 Pre_1 launch0 p0 e0 about1 theMethod args0 below0 :=
  ⟨lists_1, trivial, launch0.admits_env _ _ _, launch0.least_env, fairChoices_fair.cas, fairChoices_fair.clock, w_frames, w_args, w_heap, w_applies, trivial, trivial, w_case⟩
end start1
theorem witness_1 : WitnessClaimed_1 := ⟨start1.p0, start1.e0, start1.about1, start1.theMethod, start1.args0, start1.below0, start1.atStart⟩
end Jvm.Pilot.@@N@@
