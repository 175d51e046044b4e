import JvmDerived
import JvmDerived.Pilot.@@N@@Statement
import JvmDerived.Pilot.@@N@@Code
set_option linter.unusedVariables false
set_option linter.unusedSimpArgs false
@@BLOCK:NumsL.lean.txt@@
namespace Jvm.Pilot.@@N@@
open Jvm Jvm.ClassFile Sem Op Lib Jvm.Free Jvm.Stand Jvm.LawKit Jvm.RoadKit Bundle Jvm.Pilot.@@N@@.Jvm.D
/-! ## OWN EVALUATOR: a run of plain bytecode (ints, longs, references that are only carried; static calls by contract) as one Prop that unfolds by computation.
An entry of a table: pc, the instruction, the next pc, the target of a branch, the constant that it pushes. -/
abbrev own_Ent := Nat × Instr × Nat × Nat × Value
def own_look : List own_Ent → Nat → Option (Instr × Nat × Nat × Value)
  | [], _ => none
  | e :: t, pc => bif Nat.beq e.1 pc then some e.2 else own_look t pc
theorem own_look_mem : ∀ {tab : List own_Ent} {pc : Nat} {r : Instr × Nat × Nat × Value}, own_look tab pc = some r → (pc, r) ∈ tab
  | [], _, _, h => by simp [own_look] at h
  | e :: t, pc, r, h => by
    simp only [own_look] at h
    cases hb : Nat.beq e.1 pc with
    | true =>
      rw [hb] at h
      have h1 : e.1 = pc := Nat.eq_of_beq_eq_true hb
      have h2 : e.2 = r := Option.some.inj h
      subst h1 h2
      exact List.mem_cons_self
    | false => rw [hb] at h; exact List.mem_cons_of_mem _ (own_look_mem h)
/-- what a conditional branch asks -/
def own_icmp : ClassFile.Cond → Int32 → Int32 → Prop
  | .eq, a, b => a = b
  | .ne, a, b => ¬ a = b
  | .lt, a, b => a < b
  | .ge, a, b => b ≤ a
  | .gt, a, b => b < a
  | .le, a, b => a ≤ b
theorem own_icmp_iff {cd : ClassFile.Cond} {a b : Int32} : if_icmp.holds cd a b = true ↔ own_icmp cd a b := by
  cases cd <;> simp [if_icmp.holds, own_icmp]
theorem own_if_iff {cd : ClassFile.Cond} {a : Int32} : ifCond.holds cd a = true ↔ own_icmp cd a 0 := by
  cases cd <;> simp [ifCond.holds, own_icmp]
def own_ldI (L : Array Slot) (st : List Value) (k : Nat) : Option (Array Slot × List Value) :=
  match L[k]? with
  | some (.val (.int v)) => some (L, .int v :: st)
  | _ => none
def own_ldJ (L : Array Slot) (st : List Value) (k : Nat) : Option (Array Slot × List Value) :=
  match L[k]? with
  | some (.val (.long v)) => some (L, .long v :: st)
  | _ => none
def own_ldA (L : Array Slot) (st : List Value) (k : Nat) : Option (Array Slot × List Value) :=
  match L[k]? with
  | some (.val (.ref a)) => some (L, .ref a :: st)
  | _ => none
def own_put (L : Array Slot) (k : Nat) (v : Value) (r : List Value) : Option (Array Slot × List Value) :=
  match storeLocals L k v with
  | some L' => some (L', r)
  | none => none
def own_stI (L : Array Slot) (st : List Value) (k : Nat) : Option (Array Slot × List Value) :=
  match st with
  | .int v :: r => own_put L k (.int v) r
  | _ => none
def own_stJ (L : Array Slot) (st : List Value) (k : Nat) : Option (Array Slot × List Value) :=
  match st with
  | .long v :: r => own_put L k (.long v) r
  | _ => none
def own_stA (L : Array Slot) (st : List Value) (k : Nat) : Option (Array Slot × List Value) :=
  match st with
  | .ref v :: r => own_put L k (.ref v) r
  | _ => none
def own_bI (L : Array Slot) (st : List Value) (f : Int32 → Int32 → Int32) : Option (Array Slot × List Value) :=
  match st with
  | .int y :: .int x :: r => some (L, .int (f x y) :: r)
  | _ => none
def own_bJ (L : Array Slot) (st : List Value) (f : Int64 → Int64 → Int64) : Option (Array Slot × List Value) :=
  match st with
  | .long y :: .long x :: r => some (L, .long (f x y) :: r)
  | _ => none
def own_sJ (L : Array Slot) (st : List Value) (f : Int64 → Int32 → Int64) : Option (Array Slot × List Value) :=
  match st with
  | .int y :: .long x :: r => some (L, .long (f x y) :: r)
  | _ => none
def own_uI (L : Array Slot) (st : List Value) (f : Int32 → Int32) : Option (Array Slot × List Value) :=
  match st with
  | .int x :: r => some (L, .int (f x) :: r)
  | _ => none
/-- i2c, as the machine reckons it -/
def own_i2c (x : Int32) : Int32 := x.toUInt32.toUInt16.toUInt32.toInt32
/-- a straight step -/
def own_stp (L : Array Slot) (st : List Value) (cv : Value) : Instr → Option (Array Slot × List Value)
  | .iconst _ => some (L, cv :: st)
  | .bipush _ => some (L, cv :: st)
  | .sipush _ => some (L, cv :: st)
  | .lconst _ => some (L, cv :: st)
  | .ldc _ => some (L, cv :: st)
  | .ldc2_w _ => some (L, cv :: st)
  | .iload k => own_ldI L st k
  | .iload_n k => own_ldI L st k.val
  | .lload k => own_ldJ L st k
  | .lload_n k => own_ldJ L st k.val
  | .aload k => own_ldA L st k
  | .aload_n k => own_ldA L st k.val
  | .istore k => own_stI L st k
  | .istore_n k => own_stI L st k.val
  | .lstore k => own_stJ L st k
  | .lstore_n k => own_stJ L st k.val
  | .astore k => own_stA L st k
  | .astore_n k => own_stA L st k.val
  | .iadd => own_bI L st (fun x y => x + y)
  | .isub => own_bI L st (fun x y => x - y)
  | .imul => own_bI L st (fun x y => x * y)
  | .iand => own_bI L st (fun x y => x &&& y)
  | .ior => own_bI L st (fun x y => x ||| y)
  | .ixor => own_bI L st (fun x y => x ^^^ y)
  | .ishl => own_bI L st (fun x y => x <<< (y &&& 31))
  | .ishr => own_bI L st (fun x y => x >>> (y &&& 31))
  | .iushr => own_bI L st (fun x y => XT.ushr x y)
  | .ladd => own_bJ L st (fun x y => x + y)
  | .lsub => own_bJ L st (fun x y => x - y)
  | .lmul => own_bJ L st (fun x y => x * y)
  | .land => own_bJ L st (fun x y => x &&& y)
  | .lor => own_bJ L st (fun x y => x ||| y)
  | .lxor => own_bJ L st (fun x y => x ^^^ y)
  | .lshl => own_sJ L st (fun x y => x <<< (y.toInt64 &&& 63))
  | .lshr => own_sJ L st (fun x y => x >>> (y.toInt64 &&& 63))
  | .lushr => own_sJ L st (fun x y => XT.ushrL x y)
  | .i2b => own_uI L st (fun x => x.toInt8.toInt32)
  | .i2c => own_uI L st own_i2c
  | .i2s => own_uI L st (fun x => x.toInt16.toInt32)
  | .i2l => match st with
    | .int x :: r => some (L, .long x.toInt64 :: r)
    | _ => none
  | .l2i => match st with
    | .long x :: r => some (L, .int x.toInt32 :: r)
    | _ => none
  | .lneg => match st with
    | .long x :: r => some (L, .long (-x) :: r)
    | _ => none
  | .lcmp => match st with
    | .long y :: .long x :: r => some (L, .int (XT.cmpL x y) :: r)
    | _ => none
  | .iinc k z => match L[k]? with
    | some (.val (.int v)) => own_put L k (.int (v + Int32.ofInt z)) st
    | _ => none
  | .dup => match st with
    | .ref a :: r => some (L, .ref a :: .ref a :: r)
    | _ => none
  | _ => none
/-- how long an instruction is -/
def own_len : Instr → Nat
  | .bipush _ => 2
  | .sipush _ => 3
  | .ldc _ => 2
  | .ldc2_w _ => 3
  | .iload _ => 2
  | .lload _ => 2
  | .aload _ => 2
  | .istore _ => 2
  | .lstore _ => 2
  | .astore _ => 2
  | .iinc _ _ => 3
  | .invokestatic _ => 3
  | .invokevirtual _ => 3
  | .getfield _ => 3
  | _ => 1
/-- the constant that an instruction pushes is the entry's -/
def own_cv (own : String) (ws : List Jvm.Cond) (cv : Value) : Instr → Bool
  | .iconst i => decide (cv = .int (Int32.ofInt i))
  | .bipush i => decide (cv = .int (Int8.ofInt i).toInt32)
  | .sipush i => decide (cv = .int (Int16.ofInt i).toInt32)
  | .lconst k => decide (cv = .long (Int64.ofNat k))
  | .ldc idx => match cv with
    | .int v => ws.contains (Jvm.Cond.constant own idx v)
    | _ => false
  | .ldc2_w idx => match cv with
    | .long v => ws.contains (Jvm.Cond.constantLong own idx v)
    | _ => false
  | _ => true
/-- an entry is true of the code -/
def own_ok (code : ByteArray) (own : String) (ws : List Jvm.Cond) (q : own_Ent) : Bool :=
  match q with
  | (pc, .if_icmp cd o, nx, tg, _) => decide (decode code pc = .ok (.if_icmp cd o, 3)) && decide (0 ≤ (pc : Int) + o) && decide (((pc : Int) + o).toNat = tg) && decide (nx = pc + 3)
  | (pc, .ifCond cd o, nx, tg, _) => decide (decode code pc = .ok (.ifCond cd o, 3)) && decide (0 ≤ (pc : Int) + o) && decide (((pc : Int) + o).toNat = tg) && decide (nx = pc + 3)
  | (pc, .goto o, _, tg, _) => decide (decode code pc = .ok (.goto o, 3)) && decide (0 ≤ (pc : Int) + o) && decide (((pc : Int) + o).toNat = tg)
  | (pc, i, nx, _, cv) => decide (decode code pc = .ok (i, own_len i)) && decide (nx = pc + own_len i) && own_cv own ws cv i
abbrev own_Call := Nat × Nat × (Heap → List Value → Value → Prop)
abbrev own_Fld := Nat × Addr × Value
abbrev own_Arr := Addr × Int32 × FieldType × List Value × Value
/-- what a run may lean on: static calls, virtual calls, fields read, an array read, the heap, max_locals, the weight of the operand stack under a call -/
abbrev own_Env := List own_Call × List own_Call × List own_Fld × List own_Arr × Heap × Nat × Nat
def own_lookC : List own_Call → Nat → Option (Nat × (Heap → List Value → Value → Prop))
  | [], _ => none
  | e :: t, pc => bif Nat.beq e.1 pc then some e.2 else own_lookC t pc
theorem own_lookC_mem : ∀ {C : List own_Call} {i : Nat} {r : Nat × (Heap → List Value → Value → Prop)}, own_lookC C i = some r → (i, r) ∈ C
  | [], _, _, h => by simp [own_lookC] at h
  | e :: t, i, r, h => by
    simp only [own_lookC] at h
    cases hb : Nat.beq e.1 i with
    | true =>
      rw [hb] at h
      have h1 : e.1 = i := Nat.eq_of_beq_eq_true hb
      have h2 : e.2 = r := Option.some.inj h
      subst h1 h2
      exact List.mem_cons_self
    | false => rw [hb] at h; exact List.mem_cons_of_mem _ (own_lookC_mem h)
def own_lookF : List own_Fld → Nat → Option (Addr × Value)
  | [], _ => none
  | e :: t, pc => bif Nat.beq e.1 pc then some e.2 else own_lookF t pc
theorem own_lookF_mem : ∀ {C : List own_Fld} {i : Nat} {r : Addr × Value}, own_lookF C i = some r → (i, r) ∈ C
  | [], _, _, h => by simp [own_lookF] at h
  | e :: t, i, r, h => by
    simp only [own_lookF] at h
    cases hb : Nat.beq e.1 i with
    | true =>
      rw [hb] at h
      have h1 : e.1 = i := Nat.eq_of_beq_eq_true hb
      have h2 : e.2 = r := Option.some.inj h
      subst h1 h2
      exact List.mem_cons_self
    | false => rw [hb] at h; exact List.mem_cons_of_mem _ (own_lookF_mem h)
def own_cat (st : List Value) : Nat := (st.map fun v => v.category).sum
/-- one step: k: what is asked behind it; q: what is asked where it stops here -/
def own_nxt (E : own_Env) (L : Array Slot) (st : List Value) (nx tg : Nat) (cv : Value) (k : Nat → Array Slot → List Value → Prop) (q : Prop) (i : Instr) : Prop :=
  match i with
  | .if_icmp cd _ => match st with
    | .int y :: .int x :: r => (own_icmp cd x y → k tg L r) ∧ (¬ own_icmp cd x y → k nx L r)
    | _ => q
  | .ifCond cd _ => match st with
    | .int x :: r => (own_icmp cd x 0 → k tg L r) ∧ (¬ own_icmp cd x 0 → k nx L r)
    | _ => q
  | .goto _ => k tg L st
  | .irem => match st with
    | .int y :: .int x :: r => y ≠ 0 ∧ k nx L (.int (x % y) :: r)
    | _ => q
  | .idiv => match st with
    | .int y :: .int x :: r => y ≠ 0 ∧ k nx L (.int (x / y) :: r)
    | _ => q
  | .lrem => match st with
    | .long y :: .long x :: r => y ≠ 0 ∧ k nx L (.long (x - (x / y) * y) :: r)
    | _ => q
  | .ldiv => match st with
    | .long y :: .long x :: r => y ≠ 0 ∧ k nx L (.long (x / y) :: r)
    | _ => q
  | .invokestatic idx => match own_lookC E.1 idx with
    | some (n, P) => ∃ v, P E.2.2.2.2.1 (st.take n).reverse v ∧ (st.take n).length = n ∧ own_cat (st.drop n) ≤ E.2.2.2.2.2.2 ∧ L.size = E.2.2.2.2.2.1 ∧ k nx L (v :: st.drop n)
    | none => q
  | .invokevirtual idx => match own_lookC E.2.1 idx with
    | some (n, P) => match st.drop n with
      | .ref a :: r => ∃ v, P E.2.2.2.2.1 (.ref a :: (st.take n).reverse) v ∧ (st.take n).length = n ∧ own_cat r ≤ E.2.2.2.2.2.2 ∧ L.size = E.2.2.2.2.2.1 ∧ k nx L (v :: r)
      | _ => q
    | none => q
  | .getfield idx => match st with
    | .ref a :: r => match own_lookF E.2.2.1 idx with
      | some (b, v) => a = b ∧ k nx L (v :: r)
      | none => q
    | _ => q
  | .arraylength => match st with
    | .ref a :: r => match E.2.2.2.1 with
      | (b, n, _, _, _) :: _ => a = b ∧ k nx L (.int n :: r)
      | [] => q
    | _ => q
  | .laload => match st with
    | .int j :: .ref a :: r => match E.2.2.2.1 with
      | (b, n, ty, vs, d) :: _ => a = b ∧ ty = .long ∧ (¬ j < 0) ∧ j < n ∧ ∃ z, vs.getD j.toNatClampNeg d = .long z ∧ k nx L (.long z :: r)
      | [] => q
    | _ => q
  | .baload => match st with
    | .int j :: .ref a :: r => match E.2.2.2.1 with
      | (b, n, ty, vs, d) :: _ => a = b ∧ ty = .byte ∧ (¬ j < 0) ∧ j < n ∧ ∃ z, vs.getD j.toNatClampNeg d = .int z ∧ k nx L (.int z :: r)
      | [] => q
    | _ => q
  | i => match own_stp L st cv i with
    | some (L', st') => k nx L' st'
    | none => q
def own_in : List Nat → Nat → Bool
  | [], _ => false
  | a :: t, pc => bif Nat.beq a pc then true else own_in t pc
/-- the run, till a pc of 'stop' or where the table ends; Q: what is asked there -/
def own_wp (stop : List Nat) (tab : List own_Ent) (E : own_Env) (Q : Nat → Array Slot → List Value → Prop) : Nat → Nat → Array Slot → List Value → Prop
  | 0, _, _, _ => False
  | n + 1, pc, L, st => bif own_in stop pc then Q pc L st else match own_look tab pc with
    | none => Q pc L st
    | some (i, nx, tg, cv) => own_nxt E L st nx tg cv (own_wp stop tab E Q n) (Q pc L st) i
theorem own_nxt_mono {E : own_Env} {L : Array Slot} {st : List Value} {nx tg : Nat} {cv : Value} {k k' : Nat → Array Slot → List Value → Prop} {q q' : Prop} {i : Instr} (hk : ∀ pc L st, k pc L st → k' pc L st) (hq : q → q') (h : own_nxt E L st nx tg cv k q i) : own_nxt E L st nx tg cv k' q' i := by
  unfold own_nxt at h ⊢
  split at h
  · split at h
    · exact ⟨fun z => hk _ _ _ (h.1 z), fun z => hk _ _ _ (h.2 z)⟩
    · exact hq h
  · split at h
    · exact ⟨fun z => hk _ _ _ (h.1 z), fun z => hk _ _ _ (h.2 z)⟩
    · exact hq h
  · exact (hk _ _ _ h)
  · split at h
    · exact ⟨h.1, hk _ _ _ h.2⟩
    · exact hq h
  · split at h
    · exact ⟨h.1, hk _ _ _ h.2⟩
    · exact hq h
  · split at h
    · exact ⟨h.1, hk _ _ _ h.2⟩
    · exact hq h
  · split at h
    · exact ⟨h.1, hk _ _ _ h.2⟩
    · exact hq h
  · try dsimp only
    split at h
    · obtain ⟨v, h1, h2, h3, h4, h5⟩ := h
      exact ⟨v, h1, h2, h3, h4, hk _ _ _ h5⟩
    · exact hq h
  · try dsimp only
    split at h
    · split at h
      · obtain ⟨v, h1, h2, h3, h4, h5⟩ := h
        exact ⟨v, h1, h2, h3, h4, hk _ _ _ h5⟩
      · exact hq h
    · exact hq h
  · split at h
    · try dsimp only
      split at h
      · exact ⟨h.1, hk _ _ _ h.2⟩
      · exact hq h
    · exact hq h
  · split at h
    · try dsimp only
      split at h
      · exact ⟨h.1, hk _ _ _ h.2⟩
      · exact hq h
    · exact hq h
  · split at h
    · try dsimp only
      split at h
      · obtain ⟨h1, h2, h3, h4, z, h5, h6⟩ := h
        exact ⟨h1, h2, h3, h4, z, h5, hk _ _ _ h6⟩
      · exact hq h
    · exact hq h
  · split at h
    · try dsimp only
      split at h
      · obtain ⟨h1, h2, h3, h4, z, h5, h6⟩ := h
        exact ⟨h1, h2, h3, h4, z, h5, hk _ _ _ h6⟩
      · exact hq h
    · exact hq h
  · try dsimp only
    split at h
    · exact (hk _ _ _ h)
    · exact hq h
theorem own_nxt_or {E : own_Env} {L : Array Slot} {st : List Value} {nx tg : Nat} {cv : Value} {k k' : Nat → Array Slot → List Value → Prop} {q q' : Prop} {i : Instr} (hk : ∀ pc L st, k pc L st → k' pc L st) (h : own_nxt E L st nx tg cv k q i) : q ∨ own_nxt E L st nx tg cv k' q' i := by
  unfold own_nxt at h ⊢
  split at h
  · split at h
    · exact Or.inr ⟨fun z => hk _ _ _ (h.1 z), fun z => hk _ _ _ (h.2 z)⟩
    · exact Or.inl h
  · split at h
    · exact Or.inr ⟨fun z => hk _ _ _ (h.1 z), fun z => hk _ _ _ (h.2 z)⟩
    · exact Or.inl h
  · exact Or.inr (hk _ _ _ h)
  · split at h
    · exact Or.inr ⟨h.1, hk _ _ _ h.2⟩
    · exact Or.inl h
  · split at h
    · exact Or.inr ⟨h.1, hk _ _ _ h.2⟩
    · exact Or.inl h
  · split at h
    · exact Or.inr ⟨h.1, hk _ _ _ h.2⟩
    · exact Or.inl h
  · split at h
    · exact Or.inr ⟨h.1, hk _ _ _ h.2⟩
    · exact Or.inl h
  · try dsimp only
    split at h
    · obtain ⟨v, h1, h2, h3, h4, h5⟩ := h
      exact Or.inr ⟨v, h1, h2, h3, h4, hk _ _ _ h5⟩
    · exact Or.inl h
  · try dsimp only
    split at h
    · split at h
      · obtain ⟨v, h1, h2, h3, h4, h5⟩ := h
        exact Or.inr ⟨v, h1, h2, h3, h4, hk _ _ _ h5⟩
      · exact Or.inl h
    · exact Or.inl h
  · split at h
    · try dsimp only
      split at h
      · exact Or.inr ⟨h.1, hk _ _ _ h.2⟩
      · exact Or.inl h
    · exact Or.inl h
  · split at h
    · try dsimp only
      split at h
      · exact Or.inr ⟨h.1, hk _ _ _ h.2⟩
      · exact Or.inl h
    · exact Or.inl h
  · split at h
    · try dsimp only
      split at h
      · obtain ⟨h1, h2, h3, h4, z, h5, h6⟩ := h
        exact Or.inr ⟨h1, h2, h3, h4, z, h5, hk _ _ _ h6⟩
      · exact Or.inl h
    · exact Or.inl h
  · split at h
    · try dsimp only
      split at h
      · obtain ⟨h1, h2, h3, h4, z, h5, h6⟩ := h
        exact Or.inr ⟨h1, h2, h3, h4, z, h5, hk _ _ _ h6⟩
      · exact Or.inl h
    · exact Or.inl h
  · try dsimp only
    split at h
    · exact Or.inr (hk _ _ _ h)
    · exact Or.inl h
theorem own_wp_mono {stop : List Nat} {tab : List own_Ent} {E : own_Env} {Q : Nat → Array Slot → List Value → Prop} : ∀ (n : Nat) {pc : Nat} {L : Array Slot} {st : List Value}, own_wp stop tab E Q n pc L st → own_wp stop tab E Q (n + 1) pc L st
  | 0, _, _, _, h => h.elim
  | n + 1, pc, L, st, h => by
    unfold own_wp at h ⊢
    cases hs : own_in stop pc with
    | true => simpa only [hs, cond_true] using h
    | false =>
      simp only [hs, cond_false] at h ⊢
      cases hl : own_look tab pc with
      | none => simpa only [hl] using h
      | some r => simp only [hl] at h ⊢; exact own_nxt_mono (fun _ _ _ z => own_wp_mono n z) (fun z => z) h
theorem own_wp_more {stop : List Nat} {tab : List own_Ent} {E : own_Env} {Q : Nat → Array Slot → List Value → Prop} {n : Nat} {pc : Nat} {L : Array Slot} {st : List Value} (h : own_wp stop tab E Q n pc L st) : ∀ k, own_wp stop tab E Q (k + n) pc L st
  | 0 => by rw [Nat.zero_add]; exact h
  | k + 1 => by rw [Nat.add_right_comm]; exact own_wp_mono _ (own_wp_more h k)
/-- two runs, one behind the other -/
theorem own_join {stop : List Nat} {tab : List own_Ent} {E : own_Env} {Q : Nat → Array Slot → List Value → Prop} {n2 : Nat} : ∀ {n1 : Nat} {pc : Nat} {L : Array Slot} {st : List Value}, own_wp stop tab E (fun pc L st => True ∧ own_wp [] tab E Q n2 pc L st) n1 pc L st → own_wp [] tab E Q (n1 + n2) pc L st
  | 0, _, _, _, h => h.elim
  | n + 1, pc, L, st, h => by
    have e : n + 1 + n2 = n + n2 + 1 := by omega
    unfold own_wp at h
    cases hs : own_in stop pc with
    | true => simp only [hs, cond_true] at h; exact own_wp_more h.2 _
    | false =>
      simp only [hs, cond_false] at h
      cases hl : own_look tab pc with
      | none => simp only [hl] at h; exact own_wp_more h.2 _
      | some r =>
        simp only [hl] at h
        rw [e]
        unfold own_wp
        simp only [own_in, cond_false, hl]
        rcases own_nxt_or (q' := Q pc L st) (fun _ _ _ z => own_join (n1 := n) z) h with z | z
        · have z2 := own_wp_more z.2 (n + 1)
          rw [e] at z2
          unfold own_wp at z2
          simpa only [own_in, cond_false, hl] using z2
        · exact z
theorem own_inb {cl : Cell} {n j : Int32} (S : cl.slots.size = n.toNatClampNeg) (h0 : ¬ j < 0) (hn : j < n) : ¬ (j < 0 ∨ cl.slots.size ≤ j.toNatClampNeg) := by
  rw [S]
  simp only [Int32.lt_iff_toInt_lt, Int32.toNatClampNeg, Int32.reduceToInt] at h0 hn ⊢
  omega
section own_Sound
variable {p : Program} {l : Launch} {e : Env} {R : Room} {s : State} {m : MethodId} {args : Array Value} {below : List Frame} {meth : Method} {c : Code} {locs : List Loc} {cells slots : Nat} {Z : State} {a0 : Array Value}
theorem own_stp_sound {T : State} (X : Stand p l e R s m args below meth c T locs cells slots) (hx : p.tables.exec = Jvm.exec) {code : ByteArray} (hby : c.code = code) (hZ : Z.Warmed39 s.vm) {own : String} (hown : s.vm.findClass own = some m.cls) {ws : List Jvm.Cond} (hw : ∀ d ∈ ws, d.before a0 Z = true)
    {pc nx tg : Nat} {cv : Value} {L L' : Array Slot} {st st' : List Value} {i : Instr} {t : State} (he : own_ok code own ws (pc, i, nx, tg, cv) = true) (h : own_stp L st cv i = some (L', st')) (k : Steps p.tables e below (T.setTop (mkF m nx L' st')) t) : Steps p.tables e below (T.setTop (mkF m pc L st)) t := by
  cases i
  all_goals try (simp [own_stp] at h; done)
  all_goals
    simp only [own_ok, Bool.and_eq_true, decide_eq_true_eq] at he
    simp only [own_len, own_cv, decide_eq_true_eq, and_true] at he
  case iconst z =>
    obtain ⟨⟨hd, rfl⟩, rfl⟩ := he
    simp only [own_stp, Option.some.injEq, Prod.mk.injEq] at h
    obtain ⟨rfl, rfl⟩ := h
    exact XS.iconst X.here hx rfl (hb hby hd) k
  case bipush z =>
    obtain ⟨⟨hd, rfl⟩, rfl⟩ := he
    simp only [own_stp, Option.some.injEq, Prod.mk.injEq] at h
    obtain ⟨rfl, rfl⟩ := h
    exact XS.bipush X.here hx rfl (hb hby hd) k
  case sipush z =>
    obtain ⟨⟨hd, rfl⟩, rfl⟩ := he
    simp only [own_stp, Option.some.injEq, Prod.mk.injEq] at h
    obtain ⟨rfl, rfl⟩ := h
    exact XS.sipush X.here hx rfl (hb hby hd) k
  case lconst z =>
    obtain ⟨⟨hd, rfl⟩, rfl⟩ := he
    simp only [own_stp, Option.some.injEq, Prod.mk.injEq] at h
    obtain ⟨rfl, rfl⟩ := h
    exact XT.lconst X.here hx rfl (hb hby hd) k
  case ldc idx =>
    obtain ⟨⟨hd, rfl⟩, hc⟩ := he
    simp only [own_stp, Option.some.injEq, Prod.mk.injEq] at h
    obtain ⟨rfl, rfl⟩ := h
    cases cv <;> first | (simp at hc; done) | skip
    exact X.ldcInt hx hown (mvT hZ (hw _ (List.contains_iff_mem.mp hc))) (g := mkF m pc L st) rfl (hb hby hd) _ k
  case ldc2_w idx =>
    obtain ⟨⟨hd, rfl⟩, hc⟩ := he
    simp only [own_stp, Option.some.injEq, Prod.mk.injEq] at h
    obtain ⟨rfl, rfl⟩ := h
    cases cv <;> first | (simp at hc; done) | skip
    exact X.ldc2Long hx hown (mvT hZ (hw _ (List.contains_iff_mem.mp hc))) (g := mkF m pc L st) rfl (hb hby hd) _ k
  case iload z =>
    obtain ⟨hd, rfl⟩ := he
    simp only [own_stp, own_ldI] at h
    split at h
    · rename_i v hl
      simp only [Option.some.injEq, Prod.mk.injEq] at h
      obtain ⟨rfl, rfl⟩ := h
      exact XS.iload X.here hx rfl (hb hby hd) hl k
    · cases h
  case iload_n z =>
    obtain ⟨hd, rfl⟩ := he
    simp only [own_stp, own_ldI] at h
    split at h
    · rename_i v hl
      simp only [Option.some.injEq, Prod.mk.injEq] at h
      obtain ⟨rfl, rfl⟩ := h
      exact XS.iloadN X.here hx rfl (hb hby hd) hl k
    · cases h
  case lload z =>
    obtain ⟨hd, rfl⟩ := he
    simp only [own_stp, own_ldJ] at h
    split at h
    · rename_i v hl
      simp only [Option.some.injEq, Prod.mk.injEq] at h
      obtain ⟨rfl, rfl⟩ := h
      exact XT.lload X.here hx rfl (hb hby hd) hl k
    · cases h
  case lload_n z =>
    obtain ⟨hd, rfl⟩ := he
    simp only [own_stp, own_ldJ] at h
    split at h
    · rename_i v hl
      simp only [Option.some.injEq, Prod.mk.injEq] at h
      obtain ⟨rfl, rfl⟩ := h
      exact XT.lloadN X.here hx rfl (hb hby hd) hl k
    · cases h
  case aload z =>
    obtain ⟨hd, rfl⟩ := he
    simp only [own_stp, own_ldA] at h
    split at h
    · rename_i v hl
      simp only [Option.some.injEq, Prod.mk.injEq] at h
      obtain ⟨rfl, rfl⟩ := h
      exact XS.aload X.here hx rfl (hb hby hd) hl rfl k
    · cases h
  case aload_n z =>
    obtain ⟨hd, rfl⟩ := he
    simp only [own_stp, own_ldA] at h
    split at h
    · rename_i v hl
      simp only [Option.some.injEq, Prod.mk.injEq] at h
      obtain ⟨rfl, rfl⟩ := h
      exact XS.aloadN X.here hx rfl (hb hby hd) hl rfl k
    · cases h
  case istore z =>
    obtain ⟨hd, rfl⟩ := he
    simp only [own_stp, own_stI] at h
    split at h
    · rename_i v r
      simp only [own_put] at h
      split at h
      · rename_i l' hl
        simp only [Option.some.injEq, Prod.mk.injEq] at h
        obtain ⟨rfl, rfl⟩ := h
        exact XS.istore X.here hx rfl (hb hby hd) rfl hl k
      · cases h
    · cases h
  case istore_n z =>
    obtain ⟨hd, rfl⟩ := he
    simp only [own_stp, own_stI] at h
    split at h
    · rename_i v r
      simp only [own_put] at h
      split at h
      · rename_i l' hl
        simp only [Option.some.injEq, Prod.mk.injEq] at h
        obtain ⟨rfl, rfl⟩ := h
        exact XS.istoreN X.here hx rfl (hb hby hd) rfl hl k
      · cases h
    · cases h
  case lstore z =>
    obtain ⟨hd, rfl⟩ := he
    simp only [own_stp, own_stJ] at h
    split at h
    · rename_i v r
      simp only [own_put] at h
      split at h
      · rename_i l' hl
        simp only [Option.some.injEq, Prod.mk.injEq] at h
        obtain ⟨rfl, rfl⟩ := h
        exact XT.lstore X.here hx rfl (hb hby hd) rfl hl k
      · cases h
    · cases h
  case lstore_n z =>
    obtain ⟨hd, rfl⟩ := he
    simp only [own_stp, own_stJ] at h
    split at h
    · rename_i v r
      simp only [own_put] at h
      split at h
      · rename_i l' hl
        simp only [Option.some.injEq, Prod.mk.injEq] at h
        obtain ⟨rfl, rfl⟩ := h
        exact XT.lstoreN X.here hx rfl (hb hby hd) rfl hl k
      · cases h
    · cases h
  case astore z =>
    obtain ⟨hd, rfl⟩ := he
    simp only [own_stp, own_stA] at h
    split at h
    · rename_i v r
      simp only [own_put] at h
      split at h
      · rename_i l' hl
        simp only [Option.some.injEq, Prod.mk.injEq] at h
        obtain ⟨rfl, rfl⟩ := h
        exact XS.astore X.here hx rfl (hb hby hd) rfl rfl hl k
      · cases h
    · cases h
  case astore_n z =>
    obtain ⟨hd, rfl⟩ := he
    simp only [own_stp, own_stA] at h
    split at h
    · rename_i v r
      simp only [own_put] at h
      split at h
      · rename_i l' hl
        simp only [Option.some.injEq, Prod.mk.injEq] at h
        obtain ⟨rfl, rfl⟩ := h
        exact XS.astoreN X.here hx rfl (hb hby hd) rfl rfl hl k
      · cases h
    · cases h
  case iadd =>
    obtain ⟨hd, rfl⟩ := he
    simp only [own_stp, own_bI] at h
    split at h
    · simp only [Option.some.injEq, Prod.mk.injEq] at h
      obtain ⟨rfl, rfl⟩ := h
      exact XS.iadd X.here hx rfl (hb hby hd) rfl k
    · cases h
  case isub =>
    obtain ⟨hd, rfl⟩ := he
    simp only [own_stp, own_bI] at h
    split at h
    · simp only [Option.some.injEq, Prod.mk.injEq] at h
      obtain ⟨rfl, rfl⟩ := h
      exact XS.isub X.here hx rfl (hb hby hd) rfl k
    · cases h
  case imul =>
    obtain ⟨hd, rfl⟩ := he
    simp only [own_stp, own_bI] at h
    split at h
    · simp only [Option.some.injEq, Prod.mk.injEq] at h
      obtain ⟨rfl, rfl⟩ := h
      exact XS.imul X.here hx rfl (hb hby hd) rfl k
    · cases h
  case iand =>
    obtain ⟨hd, rfl⟩ := he
    simp only [own_stp, own_bI] at h
    split at h
    · simp only [Option.some.injEq, Prod.mk.injEq] at h
      obtain ⟨rfl, rfl⟩ := h
      exact XS.iand X.here hx rfl (hb hby hd) rfl k
    · cases h
  case ior =>
    obtain ⟨hd, rfl⟩ := he
    simp only [own_stp, own_bI] at h
    split at h
    · simp only [Option.some.injEq, Prod.mk.injEq] at h
      obtain ⟨rfl, rfl⟩ := h
      exact XT.ior X.here hx rfl (hb hby hd) rfl k
    · cases h
  case ixor =>
    obtain ⟨hd, rfl⟩ := he
    simp only [own_stp, own_bI] at h
    split at h
    · simp only [Option.some.injEq, Prod.mk.injEq] at h
      obtain ⟨rfl, rfl⟩ := h
      exact XT.ixor X.here hx rfl (hb hby hd) rfl k
    · cases h
  case ishl =>
    obtain ⟨hd, rfl⟩ := he
    simp only [own_stp, own_bI] at h
    split at h
    · simp only [Option.some.injEq, Prod.mk.injEq] at h
      obtain ⟨rfl, rfl⟩ := h
      exact XT.ishl X.here hx rfl (hb hby hd) rfl k
    · cases h
  case ishr =>
    obtain ⟨hd, rfl⟩ := he
    simp only [own_stp, own_bI] at h
    split at h
    · simp only [Option.some.injEq, Prod.mk.injEq] at h
      obtain ⟨rfl, rfl⟩ := h
      exact XT.ishr X.here hx rfl (hb hby hd) rfl k
    · cases h
  case iushr =>
    obtain ⟨hd, rfl⟩ := he
    simp only [own_stp, own_bI] at h
    split at h
    · simp only [Option.some.injEq, Prod.mk.injEq] at h
      obtain ⟨rfl, rfl⟩ := h
      exact XT.iushr X.here hx rfl (hb hby hd) rfl k
    · cases h
  case ladd =>
    obtain ⟨hd, rfl⟩ := he
    simp only [own_stp, own_bJ] at h
    split at h
    · simp only [Option.some.injEq, Prod.mk.injEq] at h
      obtain ⟨rfl, rfl⟩ := h
      exact XT.ladd X.here hx rfl (hb hby hd) rfl k
    · cases h
  case lsub =>
    obtain ⟨hd, rfl⟩ := he
    simp only [own_stp, own_bJ] at h
    split at h
    · simp only [Option.some.injEq, Prod.mk.injEq] at h
      obtain ⟨rfl, rfl⟩ := h
      exact XT.lsub X.here hx rfl (hb hby hd) rfl k
    · cases h
  case lmul =>
    obtain ⟨hd, rfl⟩ := he
    simp only [own_stp, own_bJ] at h
    split at h
    · simp only [Option.some.injEq, Prod.mk.injEq] at h
      obtain ⟨rfl, rfl⟩ := h
      exact XT.lmul X.here hx rfl (hb hby hd) rfl k
    · cases h
  case land =>
    obtain ⟨hd, rfl⟩ := he
    simp only [own_stp, own_bJ] at h
    split at h
    · simp only [Option.some.injEq, Prod.mk.injEq] at h
      obtain ⟨rfl, rfl⟩ := h
      exact XT.land X.here hx rfl (hb hby hd) rfl k
    · cases h
  case lor =>
    obtain ⟨hd, rfl⟩ := he
    simp only [own_stp, own_bJ] at h
    split at h
    · simp only [Option.some.injEq, Prod.mk.injEq] at h
      obtain ⟨rfl, rfl⟩ := h
      exact XT.lor X.here hx rfl (hb hby hd) rfl k
    · cases h
  case lxor =>
    obtain ⟨hd, rfl⟩ := he
    simp only [own_stp, own_bJ] at h
    split at h
    · simp only [Option.some.injEq, Prod.mk.injEq] at h
      obtain ⟨rfl, rfl⟩ := h
      exact XT.lxor X.here hx rfl (hb hby hd) rfl k
    · cases h
  case lshl =>
    obtain ⟨hd, rfl⟩ := he
    simp only [own_stp, own_sJ] at h
    split at h
    · simp only [Option.some.injEq, Prod.mk.injEq] at h
      obtain ⟨rfl, rfl⟩ := h
      exact XT.lshl X.here hx rfl (hb hby hd) rfl k
    · cases h
  case lshr =>
    obtain ⟨hd, rfl⟩ := he
    simp only [own_stp, own_sJ] at h
    split at h
    · simp only [Option.some.injEq, Prod.mk.injEq] at h
      obtain ⟨rfl, rfl⟩ := h
      exact XT.lshr X.here hx rfl (hb hby hd) rfl k
    · cases h
  case lushr =>
    obtain ⟨hd, rfl⟩ := he
    simp only [own_stp, own_sJ] at h
    split at h
    · simp only [Option.some.injEq, Prod.mk.injEq] at h
      obtain ⟨rfl, rfl⟩ := h
      exact XT.lushr X.here hx rfl (hb hby hd) rfl k
    · cases h
  case i2b =>
    obtain ⟨hd, rfl⟩ := he
    simp only [own_stp, own_uI] at h
    split at h
    · simp only [Option.some.injEq, Prod.mk.injEq] at h
      obtain ⟨rfl, rfl⟩ := h
      exact XT.i2b X.here hx rfl (hb hby hd) rfl k
    · cases h
  case i2c =>
    obtain ⟨hd, rfl⟩ := he
    simp only [own_stp, own_uI] at h
    split at h
    · simp only [Option.some.injEq, Prod.mk.injEq] at h
      obtain ⟨rfl, rfl⟩ := h
      exact XT.i2c X.here hx rfl (hb hby hd) rfl k
    · cases h
  case i2s =>
    obtain ⟨hd, rfl⟩ := he
    simp only [own_stp, own_uI] at h
    split at h
    · simp only [Option.some.injEq, Prod.mk.injEq] at h
      obtain ⟨rfl, rfl⟩ := h
      exact XT.i2s X.here hx rfl (hb hby hd) rfl k
    · cases h
  case i2l =>
    obtain ⟨hd, rfl⟩ := he
    simp only [own_stp, own_uI] at h
    split at h
    · simp only [Option.some.injEq, Prod.mk.injEq] at h
      obtain ⟨rfl, rfl⟩ := h
      exact XT.i2l X.here hx rfl (hb hby hd) rfl k
    · cases h
  case l2i =>
    obtain ⟨hd, rfl⟩ := he
    simp only [own_stp, own_uI] at h
    split at h
    · simp only [Option.some.injEq, Prod.mk.injEq] at h
      obtain ⟨rfl, rfl⟩ := h
      exact XT.l2i X.here hx rfl (hb hby hd) rfl k
    · cases h
  case lneg =>
    obtain ⟨hd, rfl⟩ := he
    simp only [own_stp, own_uI] at h
    split at h
    · simp only [Option.some.injEq, Prod.mk.injEq] at h
      obtain ⟨rfl, rfl⟩ := h
      exact XT.lneg X.here hx rfl (hb hby hd) rfl k
    · cases h
  case lcmp =>
    obtain ⟨hd, rfl⟩ := he
    simp only [own_stp, own_uI] at h
    split at h
    · simp only [Option.some.injEq, Prod.mk.injEq] at h
      obtain ⟨rfl, rfl⟩ := h
      exact XT.lcmp X.here hx rfl (hb hby hd) rfl k
    · cases h
  case iinc z q =>
    obtain ⟨hd, rfl⟩ := he
    simp only [own_stp] at h
    split at h
    · rename_i v hl
      simp only [own_put] at h
      split at h
      · rename_i l' hl'
        simp only [Option.some.injEq, Prod.mk.injEq] at h
        obtain ⟨rfl, rfl⟩ := h
        exact XS.iinc X.here hx rfl (hb hby hd) hl hl' k
      · cases h
    · cases h
  case dup =>
    obtain ⟨hd, rfl⟩ := he
    simp only [own_stp] at h
    split at h
    · simp only [Option.some.injEq, Prod.mk.injEq] at h
      obtain ⟨rfl, rfl⟩ := h
      exact XS.dup X.here hx rfl (hb hby hd) rfl rfl k
    · cases h
/-- a reading method's contract: where P says so of the heap, the arguments and v it returns v, keeps the heap, makes nothing -/
def own_Pure (l : Launch) (Z : State) (y : MethodName) (bytes : ByteArray) (maxL : Nat) (ret : Option FieldType) (rm : Room) (P : Heap → List Value → Value → Prop) : Prop :=
  ∀ (ws : List Jvm.Cond) (h0 : Heap) (as : List Value) (w : Value), P h0 as w → MetFree l y (head1 (Jvm.Cond.code y bytes maxL ret :: ws) rm) (fun a U => a = as.toArray ∧ Z.Warmed39 U.vm ∧ U.heap = h0) (fun _ _ _ _ _ => True)
    (fun _ U o U' => ∃ v L, o = .returned v ∧ (v = some w ∧ L = [] ∧ U'.heap = h0) ∧ FrameEnd U o U' L rm.cells rm.slots)
/-- a static call of the table 'own' at entry q.1 -/
def own_CallOk (l : Launch) (Z : State) (a0 : Array Value) (own : String) (R : Room) (W : Nat) (q : own_Call) : Prop :=
  ∃ (y : MethodName) (bytes : ByteArray) (maxL : Nat) (ret : Option FieldType) (rm : Room), own_Pure l Z y bytes maxL ret rm q.2.2 ∧ (Jvm.Cond.methodLink own q.1 y).before a0 Z = true ∧ (Jvm.Cond.static y).before a0 Z = true ∧ (Jvm.Cond.initialized y.cls).before a0 Z = true ∧ (Jvm.Cond.code y bytes maxL ret).before a0 Z = true ∧
    (y.cls ≠ "java/lang/invoke/MethodHandle" ∧ y.cls ≠ "java/lang/invoke/VarHandle") ∧ (∃ ps r, parseMethodDescriptor y.desc = some ⟨ps, r⟩ ∧ q.2.1 = ps.length) ∧ rm.cells = 0 ∧ rm.slots = 0 ∧ rm.frames + 1 ≤ R.frames ∧ W + (maxL + 11) + rm.locals ≤ R.locals
/-- a virtual call on an object of the class y.cls itself -/
def own_VirtOk (l : Launch) (Z : State) (a0 : Array Value) (own : String) (R : Room) (W : Nat) (q : own_Call) : Prop :=
  ∃ (y : MethodName) (bytes : ByteArray) (maxL : Nat) (ret : Option FieldType) (rm : Room), own_Pure l Z y bytes maxL ret rm q.2.2 ∧ (∀ h a as w, q.2.2 h (.ref a :: as) w → Exa Z h a y.cls) ∧ (Jvm.Cond.methodLink own q.1 y).before a0 Z = true ∧ (Jvm.Cond.declares y).before a0 Z = true ∧ (Jvm.Cond.selects y.cls y y).before a0 Z = true ∧ (Jvm.Cond.instanceMethod y).before a0 Z = true ∧ (Jvm.Cond.initialized y.cls).before a0 Z = true ∧ (Jvm.Cond.code y bytes maxL ret).before a0 Z = true ∧
    (y.cls ≠ "java/lang/invoke/MethodHandle" ∧ y.cls ≠ "java/lang/invoke/VarHandle") ∧ (∃ ps r, parseMethodDescriptor y.desc = some ⟨ps, r⟩ ∧ q.2.1 = ps.length) ∧ rm.cells = 0 ∧ rm.slots = 0 ∧ rm.frames + 1 ≤ R.frames ∧ W + (maxL + 11) + rm.locals ≤ R.locals
def own_FldOk (Z : State) (a0 : Array Value) (own : String) (h : Heap) (q : own_Fld) : Prop :=
  ∃ R0 O n d, (Jvm.Cond.fieldLink own q.1 R0 n d).before a0 Z = true ∧ Via Z R0 O n d ∧ Fld Z h q.2.1 O n d q.2.2
def own_ArrOk (Z : State) (h : Heap) (q : own_Arr) : Prop := ∃ k, Arv Z h q.1 k q.2.2.1 q.2.1 q.2.2.2.1 q.2.2.2.2
def own_EnvOk (l : Launch) (Z : State) (a0 : Array Value) (own : String) (R : Room) (E : own_Env) : Prop :=
  (∀ q ∈ E.1, own_CallOk l Z a0 own R E.2.2.2.2.2.2 q) ∧ (∀ q ∈ E.2.1, own_VirtOk l Z a0 own R E.2.2.2.2.2.2 q) ∧ (∀ q ∈ E.2.2.1, own_FldOk Z a0 own E.2.2.2.2.1 q) ∧ (∀ q ∈ E.2.2.2.1, own_ArrOk Z E.2.2.2.2.1 q)
theorem own_wp_sound (hx : p.tables.exec = Jvm.exec) {code : ByteArray} (hby : c.code = code) (hZ : Z.Warmed39 s.vm) {own : String} (hown : s.vm.findClass own = some m.cls) {ws : List Jvm.Cond} (hw : ∀ d ∈ ws, d.before a0 Z = true)
    {tab : List own_Ent} (hT : tab.all (own_ok code own ws) = true) {E : own_Env} (hml : c.maxLocals = E.2.2.2.2.2.1) (hE : own_EnvOk l Z a0 own R E) (hcl : cells ≤ R.cells) (hsl : slots ≤ R.slots) {stop : List Nat} {Q : Nat → Array Slot → List Value → Prop} :
    ∀ (n pc : Nat) (L : Array Slot) (st : List Value) {T : State}, Stand p l e R s m args below meth c T locs cells slots → T.heap = E.2.2.2.2.1 → own_wp stop tab E Q n pc L st →
      ∃ T' pc' L' st', Stand p l e R s m args below meth c T' locs cells slots ∧ T'.heap = E.2.2.2.2.1 ∧ Q pc' L' st' ∧ ∀ t, Steps p.tables e below (T'.setTop (mkF m pc' L' st')) t → Steps p.tables e below (T.setTop (mkF m pc L st)) t := by
  obtain ⟨hC, hV, hF, hA⟩ := hE
  intro n
  induction n with
  | zero => intro pc L st T X eT h; exact h.elim
  | succ n ih =>
    intro pc L st T X eT h
    have stay : Q pc L st → ∃ T' pc' L' st', Stand p l e R s m args below meth c T' locs cells slots ∧ T'.heap = E.2.2.2.2.1 ∧ Q pc' L' st' ∧ ∀ t, Steps p.tables e below (T'.setTop (mkF m pc' L' st')) t → Steps p.tables e below (T.setTop (mkF m pc L st)) t := fun h => ⟨T, pc, L, st, X, eT, h, fun _ k => k⟩
    have go : ∀ {pc1 : Nat} {L1 : Array Slot} {st1 : List Value} {T1 : State}, Stand p l e R s m args below meth c T1 locs cells slots → T1.heap = E.2.2.2.2.1 → own_wp stop tab E Q n pc1 L1 st1 → (∀ t, Steps p.tables e below (T1.setTop (mkF m pc1 L1 st1)) t → Steps p.tables e below (T.setTop (mkF m pc L st)) t) →
        ∃ T' pc' L' st', Stand p l e R s m args below meth c T' locs cells slots ∧ T'.heap = E.2.2.2.2.1 ∧ Q pc' L' st' ∧ ∀ t, Steps p.tables e below (T'.setTop (mkF m pc' L' st')) t → Steps p.tables e below (T.setTop (mkF m pc L st)) t := by
      intro pc1 L1 st1 T1 X1 e1 h1 k1
      obtain ⟨T', pc', L', st', X', e', q', k'⟩ := ih pc1 L1 st1 X1 e1 h1
      exact ⟨T', pc', L', st', X', e', q', fun t k => k1 t (k' t k)⟩
    unfold own_wp at h
    cases hs : own_in stop pc with
    | true => rw [hs] at h; exact stay h
    | false =>
    rw [hs] at h
    simp only [cond_false] at h
    cases hl : own_look tab pc with
    | none => rw [hl] at h; exact stay h
    | some r =>
      obtain ⟨i, nx, tg, cv⟩ := r
      rw [hl] at h
      have he : own_ok code own ws (pc, i, nx, tg, cv) = true := List.all_eq_true.mp hT _ (own_look_mem hl)
      dsimp only at h
      unfold own_nxt at h
      split at h
      · rename_i cd o
        simp only [own_ok, Bool.and_eq_true, decide_eq_true_eq] at he
        obtain ⟨⟨⟨hd, ho⟩, ht⟩, rfl⟩ := he
        split at h
        · rename_i y x r
          by_cases hc : own_icmp cd x y
          · exact go X eT (h.1 hc) (fun t k => XS.icmpYes X.here hx rfl (pc0 := pc) rfl (hb hby hd) rfl (own_icmp_iff.mpr hc) ho ht k)
          · exact go X eT (h.2 hc) (fun t k => XS.icmpNo X.here hx rfl (hb hby hd) rfl (by simpa using mt own_icmp_iff.mp hc) k)
        · exact stay h
      · rename_i cd o
        simp only [own_ok, Bool.and_eq_true, decide_eq_true_eq] at he
        obtain ⟨⟨⟨hd, ho⟩, ht⟩, rfl⟩ := he
        split at h
        · rename_i x r
          by_cases hc : own_icmp cd x 0
          · exact go X eT (h.1 hc) (fun t k => XS.ifYes X.here hx rfl (pc0 := pc) rfl (hb hby hd) rfl (own_if_iff.mpr hc) ho ht k)
          · exact go X eT (h.2 hc) (fun t k => XS.ifNo X.here hx rfl (hb hby hd) rfl (by simpa using mt own_if_iff.mp hc) k)
        · exact stay h
      · rename_i o
        simp only [own_ok, Bool.and_eq_true, decide_eq_true_eq] at he
        obtain ⟨⟨hd, ho⟩, ht⟩ := he
        exact go X eT h (fun t k => XS.goto X.here hx rfl (pc0 := pc) rfl (hb hby hd) ho ht k)
      · simp only [own_ok, Bool.and_eq_true, decide_eq_true_eq] at he
        simp only [own_len, own_cv, decide_eq_true_eq, and_true] at he
        obtain ⟨hd, rfl⟩ := he
        split at h
        · exact go X eT h.2 (fun t k => iremM X hx (g := mkF m pc L _) rfl (hb hby hd) rfl h.1 k)
        · exact stay h
      · simp only [own_ok, Bool.and_eq_true, decide_eq_true_eq] at he
        simp only [own_len, own_cv, decide_eq_true_eq, and_true] at he
        obtain ⟨hd, rfl⟩ := he
        split at h
        · exact go X eT h.2 (fun t k => XS.idiv X.here hx rfl (hb hby hd) rfl h.1 k)
        · exact stay h
      · simp only [own_ok, Bool.and_eq_true, decide_eq_true_eq] at he
        simp only [own_len, own_cv, decide_eq_true_eq, and_true] at he
        obtain ⟨hd, rfl⟩ := he
        split at h
        · exact go X eT h.2 (fun t k => XT.lrem X.here hx rfl (hb hby hd) rfl h.1 k)
        · exact stay h
      · simp only [own_ok, Bool.and_eq_true, decide_eq_true_eq] at he
        simp only [own_len, own_cv, decide_eq_true_eq, and_true] at he
        obtain ⟨hd, rfl⟩ := he
        split at h
        · exact go X eT h.2 (fun t k => XT.ldiv X.here hx rfl (hb hby hd) rfl h.1 k)
        · exact stay h
      · rename_i idx
        simp only [own_ok, Bool.and_eq_true, decide_eq_true_eq] at he
        simp only [own_len, own_cv, decide_eq_true_eq, and_true] at he
        obtain ⟨hd, rfl⟩ := he
        split at h
        · rename_i n' P hC'
          obtain ⟨w, hP, hlen, hcat, hsz, h⟩ := h
          obtain ⟨y, bytes, maxL, ret, rm, hM, w1, w2, w3, w4, hy, ⟨ps, rr, hsig, hpl⟩, hrc, hrs, hf, hlo⟩ := hC _ (own_lookC_mem hC')
          dsimp only at hM hpl
          obtain ⟨v, vm₁, ⟨T2, L2, k2, n2⟩, -, X2, ⟨Lc, hQ, l2, y2, z2⟩, st2⟩ := Jvm.LawKit.callS X hx (y := y) hown (mvT hZ w1) (mvT hZ w2) (mvT hZ w3) (mvT hZ w4) hy
            (backOf (W := E.2.2.2.2.2.2) (Q := fun v h L => v = some w ∧ L = [] ∧ h = E.2.2.2.2.1) (hM [] E.2.2.2.2.1 (st.take n').reverse w hP) hZ w4 w3 hf hlo) (g := mkF m pc L st) rfl (by rw [hml]; exact hsz) (argsL := (st.take n').reverse) (rest := st.drop n')
            (lenOf hsig (by rw [List.length_reverse, hlen]; exact hpl)) (by simp) (by show 2 * 0 + own_cat _ ≤ _; omega) (hb hby hd) (fun _ _ => ⟨rfl, eT, by rw [hrc]; exact hcl, by rw [hrs]; exact hsl⟩)
          dsimp only [Pt.U, Pt.locs, Pt.cells, Pt.slots] at X2 l2 y2 z2 st2 hQ
          subst l2 y2 z2
          obtain ⟨rfl, rfl, hh⟩ := hQ
          rw [hrc, hrs] at X2
          simp only [List.append_nil, Nat.add_zero] at X2
          exact go X2 hh h (fun t k => st2 t k)
        · exact stay h
      · rename_i idx
        simp only [own_ok, Bool.and_eq_true, decide_eq_true_eq] at he
        simp only [own_len, own_cv, decide_eq_true_eq, and_true] at he
        obtain ⟨hd, rfl⟩ := he
        split at h
        · rename_i n' P hC'
          split at h
          · rename_i a r hdrop
            obtain ⟨w, hP, hlen, hcat, hsz, h⟩ := h
            obtain ⟨y, bytes, maxL, ret, rm, hM, hEx, w1, w2, w5, w6, w3, w4, hy, ⟨ps, rr, hsig, hpl⟩, hrc, hrs, hf, hlo⟩ := hV _ (own_lookC_mem hC')
            dsimp only at hM hpl hEx
            obtain ⟨cq, kq, qa, qb, qc⟩ := isOf hZ eT (hEx _ _ _ _ hP)
            obtain ⟨v, vm₁, ⟨T2, L2, k2, n2⟩, -, X2, ⟨Lc, hQ, l2, y2, z2⟩, st2⟩ := X.virtualBack hx (y := y) (z := y) hown (mvT hZ w1) (mvT hZ w2) (notFace_of_selects (args := #[]) (mvT hZ w5)) (mvT hZ w5) (mvT hZ w6) hy
              (backOf (W := E.2.2.2.2.2.2) (Q := fun v h L => v = some w ∧ L = [] ∧ h = E.2.2.2.2.1) (hM [] E.2.2.2.2.1 (.ref a :: (st.take n').reverse) w hP) hZ w4 w3 hf hlo) qa qc (g := mkF m pc L st) rfl (by rw [hml]; exact hsz) (Steps.refl _) (argsL := (st.take n').reverse) (rest := r)
              (lenOf hsig (by rw [List.length_reverse, hlen]; exact hpl)) (by show st = _; rw [List.reverse_reverse, ← hdrop, List.take_append_drop]) (by show 2 * 0 + own_cat _ ≤ _; omega) (hb hby hd) (fun _ _ => ⟨rfl, eT, by rw [hrc]; exact hcl, by rw [hrs]; exact hsl⟩)
            dsimp only [Pt.U, Pt.locs, Pt.cells, Pt.slots] at X2 l2 y2 z2 st2 hQ
            subst l2 y2 z2
            obtain ⟨rfl, rfl, hh⟩ := hQ
            rw [hrc, hrs] at X2
            simp only [List.append_nil, Nat.add_zero] at X2
            exact go X2 hh h (fun t k => st2.trans k)
          · exact stay h
        · exact stay h
      · rename_i idx
        simp only [own_ok, Bool.and_eq_true, decide_eq_true_eq] at he
        simp only [own_len, own_cv, decide_eq_true_eq, and_true] at he
        obtain ⟨hd, rfl⟩ := he
        split at h
        · rename_i a r
          split at h
          · rename_i b v hF'
            obtain ⟨rfl, h⟩ := h
            obtain ⟨R0, O, nn, dd, w1, via, F1⟩ := hF _ (own_lookF_mem hF')
            obtain ⟨T2, X2, e2, st2⟩ := getF X hx hZ hown (host := "") (Or.inl w1) via eT F1 (g := mkF m pc L (.ref a :: r)) rfl rfl (hb hby hd)
            exact go X2 e2 h (fun t k => st2 t k)
          · exact stay h
        · exact stay h
      · simp only [own_ok, Bool.and_eq_true, decide_eq_true_eq] at he
        simp only [own_len, own_cv, decide_eq_true_eq, and_true] at he
        obtain ⟨hd, rfl⟩ := he
        split at h
        · rename_i a r
          split at h
          · rename_i b nn ty vs dd rest hA'
            obtain ⟨rfl, h⟩ := h
            obtain ⟨kk, cl, Ar, -, Sz, Mz, Hz, -⟩ := hA _ (by rw [hA']; exact List.mem_cons_self)
            dsimp only at Ar Sz Mz Hz
            refine go X eT h (fun t k => ?_)
            have k2 := X.arraylength hx (by rw [eT]; exact Ar.1) (State.isArrayOf_alike hZ.alike Ar.2.1) (g := mkF m pc L (.ref a :: r)) rfl rfl (hb hby hd) t
            rw [len_of Sz Mz] at k2
            exact k2 k
          · exact stay h
        · exact stay h
      · simp only [own_ok, Bool.and_eq_true, decide_eq_true_eq] at he
        simp only [own_len, own_cv, decide_eq_true_eq, and_true] at he
        obtain ⟨hd, rfl⟩ := he
        split at h
        · rename_i j a r
          split at h
          · rename_i b nn ty vs dd rest hA'
            obtain ⟨rfl, rfl, hj0, hjn, z, hz, h⟩ := h
            obtain ⟨kk, cl, Ar, -, Sz, Mz, Hz, -⟩ := hA _ (by rw [hA']; exact List.mem_cons_self)
            dsimp only at Ar Sz Mz Hz
            have hin : ¬ (j < 0 ∨ cl.slots.size ≤ j.toNatClampNeg) := own_inb Sz hj0 hjn
            exact go X eT h (fun t k => X.laload hx (j := j) (v := .long z) (by rw [eT]; exact Ar.1) (State.isArrayOf_alike hZ.alike Ar.2.1) Ar.2.2 hin (by rw [Hz _ (Nat.lt_of_not_le fun q => hin (Or.inr q)), hz]) (g := mkF m pc L (.int j :: .ref a :: r)) rfl rfl (hb hby hd) t k)
          · exact stay h
        · exact stay h
      · simp only [own_ok, Bool.and_eq_true, decide_eq_true_eq] at he
        simp only [own_len, own_cv, decide_eq_true_eq, and_true] at he
        obtain ⟨hd, rfl⟩ := he
        split at h
        · rename_i j a r
          split at h
          · rename_i b nn ty vs dd rest hA'
            obtain ⟨rfl, rfl, hj0, hjn, z, hz, h⟩ := h
            obtain ⟨kk, cl, Ar, -, Sz, Mz, Hz, -⟩ := hA _ (by rw [hA']; exact List.mem_cons_self)
            dsimp only at Ar Sz Mz Hz
            have hin : ¬ (j < 0 ∨ cl.slots.size ≤ j.toNatClampNeg) := own_inb Sz hj0 hjn
            exact go X eT h (fun t k => X.baloadBytes hx (j := j) (v := .int z) (by rw [eT]; exact Ar.1) (State.isArrayOf_alike hZ.alike Ar.2.1) Ar.2.2 hin (by rw [Hz _ (Nat.lt_of_not_le fun q => hin (Or.inr q)), hz]) (g := mkF m pc L (.int j :: .ref a :: r)) rfl rfl (hb hby hd) t k)
          · exact stay h
        · exact stay h
      · split at h
        · rename_i L' st' hs
          exact go X eT h (fun t k => own_stp_sound X hx hby hZ hown hw he hs k)
        · exact stay h
/-- what a return hands back -/
def own_top : FieldType → List Value → Option Value
  | .long, .long z :: _ => some (.long z)
  | .int, .int z :: _ => some (.int z)
  | .boolean, .int z :: _ => some (.int (z &&& 1))
  | .byte, .int z :: _ => some (.int (nar .byte z))
  | .char, .int z :: _ => some (.int (nar .char z))
  | .short, .int z :: _ => some (.int (nar .short z))
  | _, _ => none
def own_reti : FieldType → Instr
  | .long => .lreturn
  | _ => .ireturn
theorem own_ret {T : State} (X : Stand p l e R s m args below meth c T locs cells slots) (hx : p.tables.exec = Jvm.exec) {pc : Nat} {L : Array Slot} {st : List Value} {t : FieldType} {v : Value} (hret : meth.sig.returnType = some t) (hd : decode c.code pc = .ok (own_reti t, 1)) (ht : own_top t st = some v) {fs : List Frame}
    (hl : ∀ (f : JFrame) (acts : List Action), f.method = m → f.locked = none → f.entered = [] → (doReturn e (T.setTop f) acts (some v)).1 = T.setFrames fs) : Steps p.tables e below (T.setTop (mkF m pc L st)) (T.setFrames fs) := by
  unfold own_top at ht
  split at ht
  · cases ht; exact retOut X hx hret rfl (Or.inr (Or.inl ⟨rfl, rfl, _, rfl⟩)) hd hl
  · cases ht; exact retOut X hx hret rfl (Or.inl ⟨rfl, Or.inl rfl, _, rfl⟩) hd hl
  · cases ht; exact retN X hx (t := .boolean) hret (by simp) hd hl
  · cases ht; exact retN X hx (t := .byte) hret (by simp) hd hl
  · cases ht; exact retN X hx (t := .char) hret (by simp) hd hl
  · cases ht; exact retN X hx (t := .short) hret (by simp) hd hl
  · cases ht
/-- the end of a reading walk: at one of the returns, with this value -/
def own_retQ (rets : List Nat) (rt : FieldType) (v : Value) (pc : Nat) (_L : Array Slot) (st : List Value) : Prop := rets.contains pc = true ∧ own_top rt st = some v
theorem own_pure {y : MethodName} {bytes : ByteArray} {maxL N : Nat} {rt : FieldType} {rm : Room} {tab : List own_Ent} {ws : List Jvm.Cond} {P : Heap → List Value → Value → Prop} (rets : List Nat) (hp : plainFor y = true) (hw : ∀ d ∈ ws, d.before a0 Z = true)
    (hT : tab.all (own_ok bytes y.cls ws) = true) (hR : rets.all (fun q => decide (decode bytes q = .ok (own_reti rt, 1))) = true) (W : Nat) (C V : List own_Call) (hC : ∀ q ∈ C, own_CallOk l Z a0 y.cls rm W q) (hV : ∀ q ∈ V, own_VirtOk l Z a0 y.cls rm W q)
    (H : ∀ h as v, P h as v → ∃ L0 F A, argsToLocals as.toArray maxL = L0 ∧ (∀ q ∈ F, own_FldOk Z a0 y.cls h q) ∧ (∀ q ∈ A, own_ArrOk Z h q) ∧ own_wp [] tab (C, V, F, A, h, maxL, W) (own_retQ rets rt v) N 0 L0 []) : own_Pure l Z y bytes maxL (some rt) rm P := by
  intro ws' h0 as v hP
  refine MetFree.of_bodySF hp hisR ?_
  intro p e s m args below meth c s₁ Bd hml hQ hK
  obtain ⟨rfl, hZ, hh⟩ := hQ
  have hx := Bd.exec
  have hby := Bd.bytes
  have hown : s.vm.findClass y.cls = some m.cls := findClass_of_methodNamed Bd.named
  have X0 : Stand p l e rm s m as.toArray below meth c s₁ [] 0 0 := Stand.of_body Bd
  have e0 : s₁.heap = h0 := by rw [← hh, Bd.state]; rfl
  obtain ⟨L0, F, A, hL0, hF, hA, hwp⟩ := H h0 as v hP
  subst hL0
  obtain ⟨T, pc, L, st, X, eT, ⟨hpc, htop⟩, k⟩ := own_wp_sound hx hby hZ hown hw hT (E := (C, V, F, A, h0, maxL, W)) hml ⟨hC, hV, hF, hA⟩ (Nat.zero_le _) (Nat.zero_le _) N 0 _ [] X0 e0 hwp
  have hd : decode bytes pc = .ok (own_reti rt, 1) := by simpa using List.all_eq_true.mp hR pc (List.contains_iff_mem.mp hpc)
  obtain ⟨fs, hr, hrun, hended, hW, hsame⟩ := X.leave (v := some v) (fun h => by rw [Bd.returns] at h; cases h)
  refine ⟨_, _, k _ ?_, hrun, hended, _, _, rfl, ⟨rfl, rfl, ?_⟩, ⟨_, rfl⟩, hW, hsame.mono (Nat.zero_le _) (Nat.zero_le _)⟩
  · exact own_ret X hx Bd.returns (hb hby hd) htop hr
  · exact eT
/-- a piece of a walk, its end told -/
theorem own_seg {T : State} (X : Stand p l e R s m args below meth c T locs cells slots) (hx : p.tables.exec = Jvm.exec) {code : ByteArray} (hby : c.code = code) (hZ : Z.Warmed39 s.vm) {own : String} (hown : s.vm.findClass own = some m.cls) {ws : List Jvm.Cond} (hw : ∀ d ∈ ws, d.before a0 Z = true)
    {tab : List own_Ent} (hT : tab.all (own_ok code own ws) = true) {E : own_Env} (hml : c.maxLocals = E.2.2.2.2.2.1) (hE : own_EnvOk l Z a0 own R E) (hcl : cells ≤ R.cells) (hsl : slots ≤ R.slots) (eT : T.heap = E.2.2.2.2.1) {stop : List Nat} {n pc0 pc1 : Nat} {L0 L1 : Array Slot} {st0 st1 : List Value}
    (h : own_wp stop tab E (fun pc L st => pc = pc1 ∧ L = L1 ∧ st = st1) n pc0 L0 st0) :
    ∃ T', Stand p l e R s m args below meth c T' locs cells slots ∧ T'.heap = E.2.2.2.2.1 ∧ ∀ t, Steps p.tables e below (T'.setTop (mkF m pc1 L1 st1)) t → Steps p.tables e below (T.setTop (mkF m pc0 L0 st0)) t := by
  obtain ⟨T', _, _, _, X', e', ⟨rfl, rfl, rfl⟩, k⟩ := own_wp_sound hx hby hZ hown hw hT hml hE hcl hsl n pc0 L0 st0 X eT h
  exact ⟨T', X', e', k⟩
end own_Sound
def own_tb0 : List own_Ent := [(0, .bipush 18, 2, 0, (.int 18)), (4, .dup, 5, 0, .null), (5, .iconst 0, 6, 0, (.int 0)), (6, .bipush 97, 8, 0, (.int 97)), (9, .dup, 10, 0, .null), (10, .iconst 1, 11, 0, (.int 1)), (11, .bipush 97, 13, 0, (.int 97)), (14, .dup, 15, 0, .null), (15, .iconst 2, 16, 0, (.int 2)), (16, .bipush 97, 18, 0, (.int 97)), (19, .dup, 20, 0, .null), (20, .iconst 3, 21, 0, (.int 3)), (21, .bipush 97, 23, 0, (.int 97)), (24, .dup, 25, 0, .null), (25, .iconst 4, 26, 0, (.int 4)), (26, .bipush 97, 28, 0, (.int 97)), (29, .dup, 30, 0, .null), (30, .iconst 5, 31, 0, (.int 5)), (31, .bipush 97, 33, 0, (.int 97)), (34, .dup, 35, 0, .null), (35, .bipush 6, 37, 0, (.int 6)), (37, .bipush 97, 39, 0, (.int 97)), (40, .dup, 41, 0, .null), (41, .bipush 7, 43, 0, (.int 7)), (43, .bipush 97, 45, 0, (.int 97)), (46, .dup, 47, 0, .null), (47, .bipush 8, 49, 0, (.int 8)), (49, .bipush 97, 51, 0, (.int 97)), (52, .dup, 53, 0, .null), (53, .bipush 9, 55, 0, (.int 9)), (55, .bipush 97, 57, 0, (.int 97)), (58, .dup, 59, 0, .null), (59, .bipush 10, 61, 0, (.int 10)), (61, .bipush 97, 63, 0, (.int 97)), (64, .dup, 65, 0, .null), (65, .bipush 11, 67, 0, (.int 11)), (67, .bipush 97, 69, 0, (.int 97)), (70, .dup, 71, 0, .null), (71, .bipush 12, 73, 0, (.int 12)), (73, .bipush 97, 75, 0, (.int 97)), (76, .dup, 77, 0, .null), (77, .bipush 13, 79, 0, (.int 13)), (79, .bipush 97, 81, 0, (.int 97)), (82, .dup, 83, 0, .null), (83, .bipush 14, 85, 0, (.int 14)), (85, .bipush 97, 87, 0, (.int 97)), (88, .dup, 89, 0, .null), (89, .bipush 15, 91, 0, (.int 15)), (91, .bipush 97, 93, 0, (.int 97)), (94, .dup, 95, 0, .null), (95, .bipush 16, 97, 0, (.int 16)), (97, .bipush 97, 99, 0, (.int 97)), (100, .dup, 101, 0, .null), (101, .bipush 17, 103, 0, (.int 17)), (103, .bipush 97, 105, 0, (.int 97)), (106, .astore 5, 108, 0, .null), (108, .aload 5, 110, 0, .null), (110, .iconst 0, 111, 0, (.int 0)), (111, .iload_n 0, 112, 0, .null), (112, .invokestatic 18, 115, 0, .null), (115, .istore 6, 117, 0, .null), (117, .iload 6, 119, 0, .null), (119, .aload 5, 121, 0, .null), (121, .iload 6, 123, 0, .null), (123, .iload_n 1, 124, 0, .null), (124, .invokestatic 18, 127, 0, .null), (127, .iadd, 128, 0, .null), (128, .istore 7, 130, 0, .null), (130, .iload 7, 132, 0, .null), (132, .aload 5, 134, 0, .null), (134, .iload 7, 136, 0, .null), (136, .iload_n 2, 137, 0, .null), (137, .invokestatic 18, 140, 0, .null), (140, .iadd, 141, 0, .null), (141, .istore 8, 143, 0, .null), (143, .iload_n 3, 144, 0, .null), (144, .iconst 3, 145, 0, (.int 3)), (145, .iand, 146, 0, .null), (146, .istore 9, 148, 0, .null), (148, .iload 9, 150, 0, .null), (150, .ifCond .ne 7, 153, 157, .null), (153, .iconst 0, 154, 0, (.int 0)), (154, .goto 27, 0, 181, .null), (157, .iload 9, 159, 0, .null), (159, .iconst 1, 160, 0, (.int 1)), (160, .if_icmp .ne 8, 163, 168, .null), (163, .iload 6, 165, 0, .null), (165, .goto 16, 0, 181, .null), (168, .iload 9, 170, 0, .null), (170, .iconst 2, 171, 0, (.int 2)), (171, .if_icmp .ne 8, 174, 179, .null), (174, .iload 7, 176, 0, .null), (176, .goto 5, 0, 181, .null), (179, .iload 8, 181, 0, .null), (181, .istore 10, 183, 0, .null), (183, .iload 4, 185, 0, .null), (185, .ldc 22, 187, 0, (.int 1073741824)), (187, .iand, 188, 0, .null), (188, .ifCond .eq 13, 191, 201, .null), (191, .iload 10, 193, 0, .null), (193, .iload 4, 195, 0, .null), (195, .invokestatic 23, 198, 0, .null), (198, .goto 11, 0, 209, .null), (201, .iload 10, 203, 0, .null), (203, .iload 4, 205, 0, .null), (205, .bipush 31, 207, 0, (.int 31)), (207, .iand, 208, 0, .null), (208, .iadd, 209, 0, .null), (209, .istore 11, 211, 0, .null), (211, .iload 11, 213, 0, .null), (213, .iload 8, 215, 0, .null), (215, .if_icmp .lt 15, 218, 230, .null), (218, .iload 11, 220, 0, .null), (220, .bipush 18, 222, 0, (.int 18)), (222, .invokestatic 29, 225, 0, .null), (225, .istore 12, 227, 0, .null), (227, .goto 34, 0, 261, .null), (230, .iload 11, 232, 0, .null), (232, .iload 7, 234, 0, .null), (234, .if_icmp .lt 10, 237, 244, .null), (237, .iload 7, 239, 0, .null), (239, .istore 12, 241, 0, .null), (241, .goto 20, 0, 261, .null), (244, .iload 11, 246, 0, .null), (246, .iload 6, 248, 0, .null), (248, .if_icmp .lt 10, 251, 258, .null), (251, .iload 6, 253, 0, .null), (253, .istore 12, 255, 0, .null), (255, .goto 6, 0, 261, .null), (258, .iconst 0, 259, 0, (.int 0)), (259, .istore 12, 261, 0, .null), (261, .aload 5, 263, 0, .null), (263, .iload 10, 265, 0, .null), (265, .iload 11, 267, 0, .null), (267, .invokestatic 32, 270, 0, .null), (270, .iload 12, 272, 0, .null), (272, .if_icmp .ne 7, 275, 279, .null), (275, .iconst 1, 276, 0, (.int 1)), (276, .goto 4, 0, 280, .null), (279, .iconst 0, 280, 0, (.int 0))]
theorem own_tb0_ok : own_tb0.all (own_ok code "org/auditrail/JsonCutPlacePinLaw" tables_1) = true := by decide +kernel
def own_tb1 : List own_Ent := [(0, .iload_n 2, 1, 0, .null), (1, .sipush 255, 4, 0, (.int 255)), (4, .iand, 5, 0, .null), (5, .bipush 6, 7, 0, (.int 6)), (7, .irem, 8, 0, .null), (8, .istore_n 3, 9, 0, .null), (9, .iload_n 2, 10, 0, .null), (10, .bipush 8, 12, 0, (.int 8)), (12, .iushr, 13, 0, .null), (13, .ldc 7, 15, 0, (.int 16777215)), (15, .iand, 16, 0, .null), (16, .istore 4, 18, 0, .null), (18, .iload_n 3, 19, 0, .null), (19, .ifCond .ne 43, 22, 62, .null), (22, .iload 4, 24, 0, .null), (24, .bipush 127, 26, 0, (.int 127)), (26, .iand, 27, 0, .null), (27, .istore 5, 29, 0, .null), (29, .iload 5, 31, 0, .null), (31, .bipush 32, 33, 0, (.int 32)), (33, .if_icmp .lt 17, 36, 50, .null), (36, .iload 5, 38, 0, .null), (38, .bipush 34, 40, 0, (.int 34)), (40, .if_icmp .eq 10, 43, 50, .null), (43, .iload 5, 45, 0, .null), (45, .bipush 92, 47, 0, (.int 92)), (47, .if_icmp .ne 7, 50, 54, .null), (50, .bipush 97, 52, 0, (.int 97)), (52, .istore 5, 54, 0, .null), (54, .aload_n 0, 55, 0, .null), (55, .iload_n 1, 56, 0, .null), (56, .iload 5, 58, 0, .null), (58, .i2b, 59, 0, .null), (60, .iconst 1, 61, 0, (.int 1)), (62, .iload_n 3, 63, 0, .null), (63, .iconst 1, 64, 0, (.int 1)), (64, .if_icmp .ne 94, 67, 158, .null), (67, .iload 4, 69, 0, .null), (69, .bipush 7, 71, 0, (.int 7)), (71, .irem, 72, 0, .null), (72, .istore 5, 74, 0, .null), (74, .iload 5, 76, 0, .null), (76, .ifCond .ne 8, 79, 84, .null), (79, .bipush 34, 81, 0, (.int 34)), (81, .goto 60, 0, 141, .null), (84, .iload 5, 86, 0, .null), (86, .iconst 1, 87, 0, (.int 1)), (87, .if_icmp .ne 8, 90, 95, .null), (90, .bipush 92, 92, 0, (.int 92)), (92, .goto 49, 0, 141, .null), (95, .iload 5, 97, 0, .null), (97, .iconst 2, 98, 0, (.int 2)), (98, .if_icmp .ne 8, 101, 106, .null), (101, .bipush 110, 103, 0, (.int 110)), (103, .goto 38, 0, 141, .null), (106, .iload 5, 108, 0, .null), (108, .iconst 3, 109, 0, (.int 3)), (109, .if_icmp .ne 8, 112, 117, .null), (112, .bipush 114, 114, 0, (.int 114)), (114, .goto 27, 0, 141, .null), (117, .iload 5, 119, 0, .null), (119, .iconst 4, 120, 0, (.int 4)), (120, .if_icmp .ne 8, 123, 128, .null), (123, .bipush 116, 125, 0, (.int 116)), (125, .goto 16, 0, 141, .null), (128, .iload 5, 130, 0, .null), (130, .iconst 5, 131, 0, (.int 5)), (131, .if_icmp .ne 8, 134, 139, .null), (134, .bipush 98, 136, 0, (.int 98)), (136, .goto 5, 0, 141, .null), (139, .bipush 102, 141, 0, (.int 102)), (141, .istore 6, 143, 0, .null), (143, .aload_n 0, 144, 0, .null), (144, .iload_n 1, 145, 0, .null), (145, .bipush 92, 147, 0, (.int 92)), (148, .aload_n 0, 149, 0, .null), (149, .iload_n 1, 150, 0, .null), (150, .iconst 1, 151, 0, (.int 1)), (151, .iadd, 152, 0, .null), (152, .iload 6, 154, 0, .null), (154, .i2b, 155, 0, .null), (156, .iconst 2, 157, 0, (.int 2)), (158, .iload_n 3, 159, 0, .null), (159, .iconst 2, 160, 0, (.int 2)), (160, .if_icmp .ne 64, 163, 224, .null), (163, .iload 4, 165, 0, .null), (165, .bipush 31, 167, 0, (.int 31)), (167, .iand, 168, 0, .null), (168, .istore 5, 170, 0, .null), (170, .aload_n 0, 171, 0, .null), (171, .iload_n 1, 172, 0, .null), (172, .bipush 92, 174, 0, (.int 92)), (175, .aload_n 0, 176, 0, .null), (176, .iload_n 1, 177, 0, .null), (177, .iconst 1, 178, 0, (.int 1)), (178, .iadd, 179, 0, .null), (179, .bipush 117, 181, 0, (.int 117)), (182, .aload_n 0, 183, 0, .null), (183, .iload_n 1, 184, 0, .null), (184, .iconst 2, 185, 0, (.int 2)), (185, .iadd, 186, 0, .null), (186, .bipush 48, 188, 0, (.int 48)), (189, .aload_n 0, 190, 0, .null), (190, .iload_n 1, 191, 0, .null), (191, .iconst 3, 192, 0, (.int 3)), (192, .iadd, 193, 0, .null), (193, .bipush 48, 195, 0, (.int 48)), (196, .aload_n 0, 197, 0, .null), (197, .iload_n 1, 198, 0, .null), (198, .iconst 4, 199, 0, (.int 4)), (199, .iadd, 200, 0, .null), (200, .iload 5, 202, 0, .null), (202, .iconst 4, 203, 0, (.int 4)), (203, .ishr, 204, 0, .null), (204, .invokestatic 8, 207, 0, .null), (208, .aload_n 0, 209, 0, .null), (209, .iload_n 1, 210, 0, .null), (210, .iconst 5, 211, 0, (.int 5)), (211, .iadd, 212, 0, .null), (212, .iload 5, 214, 0, .null), (214, .bipush 15, 216, 0, (.int 15)), (216, .iand, 217, 0, .null), (217, .invokestatic 8, 220, 0, .null), (221, .bipush 6, 223, 0, (.int 6)), (224, .iload_n 3, 225, 0, .null), (225, .iconst 3, 226, 0, (.int 3)), (226, .if_icmp .ne 45, 229, 271, .null), (229, .sipush 128, 232, 0, (.int 128)), (232, .iload 4, 234, 0, .null), (234, .sipush 1920, 237, 0, (.int 1920)), (237, .irem, 238, 0, .null), (238, .iadd, 239, 0, .null), (239, .istore 5, 241, 0, .null), (241, .aload_n 0, 242, 0, .null), (242, .iload_n 1, 243, 0, .null), (243, .sipush 192, 246, 0, (.int 192)), (246, .iload 5, 248, 0, .null), (248, .bipush 6, 250, 0, (.int 6)), (250, .ishr, 251, 0, .null), (251, .ior, 252, 0, .null), (252, .i2b, 253, 0, .null), (254, .aload_n 0, 255, 0, .null), (255, .iload_n 1, 256, 0, .null), (256, .iconst 1, 257, 0, (.int 1)), (257, .iadd, 258, 0, .null), (258, .sipush 128, 261, 0, (.int 128)), (261, .iload 5, 263, 0, .null), (263, .bipush 63, 265, 0, (.int 63)), (265, .iand, 266, 0, .null), (266, .ior, 267, 0, .null), (267, .i2b, 268, 0, .null), (269, .iconst 2, 270, 0, (.int 2)), (271, .iload_n 3, 272, 0, .null), (272, .iconst 4, 273, 0, (.int 4)), (273, .if_icmp .ne 75, 276, 348, .null), (276, .sipush 2048, 279, 0, (.int 2048)), (279, .iload 4, 281, 0, .null), (281, .ldc 14, 283, 0, (.int 61440)), (283, .irem, 284, 0, .null), (284, .iadd, 285, 0, .null), (285, .istore 5, 287, 0, .null), (287, .iload 5, 289, 0, .null), (289, .ldc 15, 291, 0, (.int 55296)), (291, .if_icmp .lt 9, 294, 300, .null), (300, .aload_n 0, 301, 0, .null), (301, .iload_n 1, 302, 0, .null), (302, .sipush 224, 305, 0, (.int 224)), (305, .iload 5, 307, 0, .null), (307, .bipush 12, 309, 0, (.int 12)), (309, .ishr, 310, 0, .null), (310, .ior, 311, 0, .null), (311, .i2b, 312, 0, .null), (313, .aload_n 0, 314, 0, .null), (314, .iload_n 1, 315, 0, .null), (315, .iconst 1, 316, 0, (.int 1)), (316, .iadd, 317, 0, .null), (317, .sipush 128, 320, 0, (.int 128)), (320, .iload 5, 322, 0, .null), (322, .bipush 6, 324, 0, (.int 6)), (324, .ishr, 325, 0, .null), (325, .bipush 63, 327, 0, (.int 63)), (327, .iand, 328, 0, .null), (328, .ior, 329, 0, .null), (329, .i2b, 330, 0, .null), (331, .aload_n 0, 332, 0, .null), (332, .iload_n 1, 333, 0, .null), (333, .iconst 2, 334, 0, (.int 2)), (334, .iadd, 335, 0, .null), (335, .sipush 128, 338, 0, (.int 128)), (338, .iload 5, 340, 0, .null), (340, .bipush 63, 342, 0, (.int 63)), (342, .iand, 343, 0, .null), (343, .ior, 344, 0, .null), (344, .i2b, 345, 0, .null), (346, .iconst 3, 347, 0, (.int 3)), (348, .ldc 16, 350, 0, (.int 65536)), (350, .iload 4, 352, 0, .null), (352, .ldc 17, 354, 0, (.int 1048576)), (354, .irem, 355, 0, .null), (355, .iadd, 356, 0, .null), (356, .istore 5, 358, 0, .null), (358, .aload_n 0, 359, 0, .null), (359, .iload_n 1, 360, 0, .null), (360, .sipush 240, 363, 0, (.int 240)), (363, .iload 5, 365, 0, .null), (365, .bipush 18, 367, 0, (.int 18)), (367, .ishr, 368, 0, .null), (368, .ior, 369, 0, .null), (369, .i2b, 370, 0, .null), (371, .aload_n 0, 372, 0, .null), (372, .iload_n 1, 373, 0, .null), (373, .iconst 1, 374, 0, (.int 1)), (374, .iadd, 375, 0, .null), (375, .sipush 128, 378, 0, (.int 128)), (378, .iload 5, 380, 0, .null), (380, .bipush 12, 382, 0, (.int 12)), (382, .ishr, 383, 0, .null), (383, .bipush 63, 385, 0, (.int 63)), (385, .iand, 386, 0, .null), (386, .ior, 387, 0, .null), (387, .i2b, 388, 0, .null), (389, .aload_n 0, 390, 0, .null), (390, .iload_n 1, 391, 0, .null), (391, .iconst 2, 392, 0, (.int 2)), (392, .iadd, 393, 0, .null), (393, .sipush 128, 396, 0, (.int 128)), (396, .iload 5, 398, 0, .null), (398, .bipush 6, 400, 0, (.int 6)), (400, .ishr, 401, 0, .null), (401, .bipush 63, 403, 0, (.int 63)), (403, .iand, 404, 0, .null), (404, .ior, 405, 0, .null), (405, .i2b, 406, 0, .null), (407, .aload_n 0, 408, 0, .null), (408, .iload_n 1, 409, 0, .null), (409, .iconst 3, 410, 0, (.int 3)), (410, .iadd, 411, 0, .null), (411, .sipush 128, 414, 0, (.int 128)), (414, .iload 5, 416, 0, .null), (416, .bipush 63, 418, 0, (.int 63)), (418, .iand, 419, 0, .null), (419, .ior, 420, 0, .null), (420, .i2b, 421, 0, .null), (422, .iconst 4, 423, 0, (.int 4))]
theorem own_tb1_ok : own_tb1.all (own_ok method_3_code "org/auditrail/JsonCutPlacePinLaw" tables_1) = true := by decide +kernel
def own_tb2 : List own_Ent := [(0, .iload_n 0, 1, 0, .null), (1, .bipush 10, 3, 0, (.int 10)), (3, .if_icmp .ge 10, 6, 13, .null), (6, .bipush 48, 8, 0, (.int 48)), (8, .iload_n 0, 9, 0, .null), (9, .iadd, 10, 0, .null), (10, .goto 10, 0, 20, .null), (13, .bipush 97, 15, 0, (.int 97)), (15, .iload_n 0, 16, 0, .null), (16, .iadd, 17, 0, .null), (17, .bipush 10, 19, 0, (.int 10)), (19, .isub, 20, 0, .null), (20, .i2b, 21, 0, .null)]
theorem own_tb2_ok : own_tb2.all (own_ok method_2_code "org/auditrail/JsonCutPlacePinLaw" tables_1) = true := by decide +kernel
def own_tb3 : List own_Ent := [(0, .iload_n 1, 1, 0, .null), (1, .istore_n 3, 2, 0, .null), (2, .iload_n 3, 3, 0, .null), (3, .aload_n 0, 4, 0, .null), (4, .arraylength, 5, 0, .null), (5, .if_icmp .ge 105, 8, 110, .null), (8, .aload_n 0, 9, 0, .null), (9, .iload_n 3, 10, 0, .null), (10, .baload, 11, 0, .null), (11, .istore 4, 13, 0, .null), (13, .iload 4, 15, 0, .null), (15, .bipush 92, 17, 0, (.int 92)), (17, .if_icmp .ne 24, 20, 41, .null), (20, .aload_n 0, 21, 0, .null), (21, .iload_n 3, 22, 0, .null), (22, .iconst 1, 23, 0, (.int 1)), (23, .iadd, 24, 0, .null), (24, .baload, 25, 0, .null), (25, .bipush 117, 27, 0, (.int 117)), (27, .if_icmp .ne 8, 30, 35, .null), (30, .bipush 6, 32, 0, (.int 6)), (32, .goto 4, 0, 36, .null), (35, .iconst 2, 36, 0, (.int 2)), (36, .istore 5, 38, 0, .null), (38, .goto 53, 0, 91, .null), (41, .iload 4, 43, 0, .null), (43, .ifCond .lt 9, 46, 52, .null), (46, .iconst 1, 47, 0, (.int 1)), (47, .istore 5, 49, 0, .null), (49, .goto 42, 0, 91, .null), (52, .iload 4, 54, 0, .null), (54, .sipush 224, 57, 0, (.int 224)), (57, .iand, 58, 0, .null), (58, .sipush 192, 61, 0, (.int 192)), (61, .if_icmp .ne 9, 64, 70, .null), (64, .iconst 2, 65, 0, (.int 2)), (65, .istore 5, 67, 0, .null), (67, .goto 24, 0, 91, .null), (70, .iload 4, 72, 0, .null), (72, .sipush 240, 75, 0, (.int 240)), (75, .iand, 76, 0, .null), (76, .sipush 224, 79, 0, (.int 224)), (79, .if_icmp .ne 9, 82, 88, .null), (82, .iconst 3, 83, 0, (.int 3)), (83, .istore 5, 85, 0, .null), (85, .goto 6, 0, 91, .null), (88, .iconst 4, 89, 0, (.int 4)), (89, .istore 5, 91, 0, .null), (91, .iload_n 3, 92, 0, .null), (92, .iload 5, 94, 0, .null), (94, .iadd, 95, 0, .null), (95, .iload_n 2, 96, 0, .null), (96, .if_icmp .le 6, 99, 102, .null), (99, .goto 11, 0, 110, .null), (102, .iload_n 3, 103, 0, .null), (103, .iload 5, 105, 0, .null), (105, .iadd, 106, 0, .null), (106, .istore_n 3, 107, 0, .null), (107, .goto (-105), 0, 2, .null), (110, .iload_n 3, 111, 0, .null)]
theorem own_tb3_ok : own_tb3.all (own_ok prog_24_method_11_code "org/auditrail/Json" tables_1) = true := by decide +kernel
def own_tb4 : List own_Ent := [(0, .iload_n 0, 1, 0, .null), (1, .iload_n 1, 2, 0, .null), (2, .if_icmp .gt 7, 5, 9, .null), (5, .iload_n 0, 6, 0, .null), (6, .goto 4, 0, 10, .null), (9, .iload_n 1, 10, 0, .null)]
theorem own_tb4_ok : own_tb4.all (own_ok jdk_29_method_69_code "java/lang/Math" tables_1) = true := by decide +kernel
def own_tb5 : List own_Ent := [(0, .iload_n 0, 1, 0, .null), (1, .iload_n 1, 2, 0, .null), (2, .if_icmp .lt 7, 5, 9, .null), (5, .iload_n 0, 6, 0, .null), (6, .goto 4, 0, 10, .null), (9, .iload_n 1, 10, 0, .null)]
theorem own_tb5_ok : own_tb5.all (own_ok jdk_29_method_65_code "java/lang/Math" tables_1) = true := by decide +kernel
abbrev own_LW : String := "org/auditrail/JsonCutPlacePinLaw"
abbrev own_d0 : Value := .int (0 : Int32)
def own_hexv (d : Int32) : Int32 := if d < 10 then nar .byte (48 + d).toInt8.toInt32 else nar .byte (97 + d - 10).toInt8.toInt32
def own_mn (x y : Int32) : Int32 := if y < x then y else x
def own_mxI (x y : Int32) : Int32 := if x < y then y else x
def own_ln (z : Int32) : Int32 := if z < 0 then (if z &&& 224 = 192 then 2 else if z &&& 240 = 224 then 3 else 4) else 1
def own_tok (vs : List Value) (i : Nat) (n : Int32) : Prop := ∃ z : Int32, vs.getD i own_d0 = .int z ∧ ((z = 92 ∧ i + 1 < 18 ∧ ∃ z2 : Int32, vs.getD (i + 1) own_d0 = .int z2 ∧ n = if z2 = 117 then 6 else 2) ∨ (¬ z = 92 ∧ n = own_ln z))
def own_okc (vs : List Value) : List Int32 → Int32 → Prop
  | [], p => p = 18
  | n :: ns, p => (∃ i : Nat, p.toInt = (i : Int) ∧ i < 18 ∧ own_tok vs i n) ∧ own_okc vs ns (p + n)
def own_run : List Int32 → Int32 → Int32 → Int32
  | [], p, _ => p
  | n :: ns, p, lim => if p + n ≤ lim then own_run ns (p + n) lim else p
def own_res (vs vs' : List Value) (tn : Nat) (n : Int32) : Prop := vs'.length = 18 ∧ ∃ nn : Nat, n.toInt = (nn : Int) ∧ 1 ≤ nn ∧ nn ≤ 6 ∧ own_tok vs' tn n ∧ ∀ i, (i < tn ∨ tn + nn ≤ i) → vs'.getD i own_d0 = vs.getD i own_d0
theorem own_same {vs : List Value} {i j : Nat} {v d : Value} (h : i ≠ j) : (vs.set i v).getD j d = vs.getD j d := by
  simp only [List.getD_eq_getElem?_getD, List.getElem?_set_ne h]
theorem own_at {vs : List Value} {i : Nat} {v d : Value} (h : i < vs.length) : (vs.set i v).getD i d = v := by
  simp only [List.getD_eq_getElem?_getD, List.getElem?_set_self h, Option.getD_some]
theorem own_ln_b (z : Int32) : ∃ nn : Nat, (own_ln z).toInt = (nn : Int) ∧ 1 ≤ nn ∧ nn ≤ 6 := by
  unfold own_ln
  split
  · split
    · exact ⟨2, by decide, by decide, by decide⟩
    · split
      · exact ⟨3, by decide, by decide, by decide⟩
      · exact ⟨4, by decide, by decide, by decide⟩
  · exact ⟨1, by decide, by decide, by decide⟩
theorem own_tok_keep {vs vs' : List Value} {i nn : Nat} {n : Int32} (ht : own_tok vs i n) (hn : n.toInt = (nn : Int)) (h1 : 1 ≤ nn) (h : ∀ j, i ≤ j → j < i + nn → vs'.getD j own_d0 = vs.getD j own_d0) : own_tok vs' i n := by
  obtain ⟨z, g, hz⟩ := ht
  refine ⟨z, (h i (Nat.le_refl _) (by omega)).trans g, ?_⟩
  rcases hz with ⟨e, h17, z2, g2, hn2⟩ | hz
  · have h2 : 2 ≤ nn := by
      have a6 : (6 : Int32).toInt = 6 := by decide
      have a2 : (2 : Int32).toInt = 2 := by decide
      rw [hn2] at hn
      split at hn
      · rw [a6] at hn; omega
      · rw [a2] at hn; omega
    exact Or.inl ⟨e, h17, z2, (h (i + 1) (by omega) (by omega)).trans g2, hn2⟩
  · exact Or.inr hz
theorem own_ld0 : ∀ k : Fin 128, k.val ≠ 92 → ¬ nar .byte (Int32.ofNat k.val).toInt8.toInt32 = 92 ∧ own_ln (nar .byte (Int32.ofNat k.val).toInt8.toInt32) = 1 := by decide +kernel
theorem own_ld3 : ∀ k : Fin 32, ¬ nar .byte (192 ||| Int32.ofNat k.val).toInt8.toInt32 = 92 ∧ own_ln (nar .byte (192 ||| Int32.ofNat k.val).toInt8.toInt32) = 2 := by decide +kernel
theorem own_ld4 : ∀ k : Fin 16, ¬ nar .byte (224 ||| Int32.ofNat k.val).toInt8.toInt32 = 92 ∧ own_ln (nar .byte (224 ||| Int32.ofNat k.val).toInt8.toInt32) = 3 := by decide +kernel
theorem own_ld5 : ∀ k : Fin 8, ¬ nar .byte (240 ||| Int32.ofNat k.val).toInt8.toInt32 = 92 ∧ own_ln (nar .byte (240 ||| Int32.ofNat k.val).toInt8.toInt32) = 4 := by decide +kernel
theorem own_fin {y : Int32} {b : Nat} (h0 : 0 ≤ y.toInt) (h1 : y.toInt < (b : Int)) (hb : b ≤ 256) : ∃ k : Fin b, y = Int32.ofNat k.val := by
  refine ⟨⟨y.toInt.toNat, by omega⟩, ?_⟩
  show y = Int32.ofNat y.toInt.toNat
  apply Int32.toInt_inj.mp
  rw [Int32.toInt_ofNat_small (by omega)]
  omega
theorem own_z0 {c : Int32} (h0 : 0 ≤ c.toInt) (h1 : c.toInt < 128) (h2 : ¬ c = 92) : ¬ nar .byte c.toInt8.toInt32 = 92 ∧ own_ln (nar .byte c.toInt8.toInt32) = 1 := by
  obtain ⟨k, rfl⟩ := own_fin (b := 128) h0 (by omega) (by decide)
  exact own_ld0 k (fun e => h2 (congrArg Int32.ofNat e))
theorem own_z3 {cp : Int32} (h0 : 128 ≤ cp.toInt) (h1 : cp.toInt < 2048) : ¬ nar .byte (192 ||| (cp >>> ((6 : Int32) &&& 31))).toInt8.toInt32 = 92 ∧ own_ln (nar .byte (192 ||| (cp >>> ((6 : Int32) &&& 31))).toInt8.toInt32) = 2 := by
  have e : (cp >>> ((6 : Int32) &&& 31)).toInt = cp.toInt / 2 ^ 6 := Jvm.Kit.i32_shr _ _ (by decide)
  obtain ⟨k, hk⟩ := own_fin (y := cp >>> ((6 : Int32) &&& 31)) (b := 32) (by omega) (by omega) (by decide)
  rw [hk]
  exact own_ld3 k
theorem own_z4 {cp : Int32} (h0 : 2048 ≤ cp.toInt) (h1 : cp.toInt < 65536) : ¬ nar .byte (224 ||| (cp >>> ((12 : Int32) &&& 31))).toInt8.toInt32 = 92 ∧ own_ln (nar .byte (224 ||| (cp >>> ((12 : Int32) &&& 31))).toInt8.toInt32) = 3 := by
  have e : (cp >>> ((12 : Int32) &&& 31)).toInt = cp.toInt / 2 ^ 12 := Jvm.Kit.i32_shr _ _ (by decide)
  obtain ⟨k, hk⟩ := own_fin (y := cp >>> ((12 : Int32) &&& 31)) (b := 16) (by omega) (by omega) (by decide)
  rw [hk]
  exact own_ld4 k
theorem own_z5 {cp : Int32} (h0 : 65536 ≤ cp.toInt) (h1 : cp.toInt < 1114112) : ¬ nar .byte (240 ||| (cp >>> ((18 : Int32) &&& 31))).toInt8.toInt32 = 92 ∧ own_ln (nar .byte (240 ||| (cp >>> ((18 : Int32) &&& 31))).toInt8.toInt32) = 4 := by
  have e : (cp >>> ((18 : Int32) &&& 31)).toInt = cp.toInt / 2 ^ 18 := Jvm.Kit.i32_shr _ _ (by decide)
  obtain ⟨k, hk⟩ := own_fin (y := cp >>> ((18 : Int32) &&& 31)) (b := 8) (by omega) (by omega) (by decide)
  rw [hk]
  exact own_ld5 k
def own_P2 (_h : Heap) (as : List Value) (v : Value) : Prop := ∃ d : Int32, as = [.int d] ∧ v = .int (own_hexv d)
theorem own_m2 (l : Launch) (Z : State) (a0 : Array Value) (hw : ∀ d ∈ tables_1, d.before a0 Z = true) : own_Pure l Z ⟨"org/auditrail/JsonCutPlacePinLaw", "hex", "(I)B"⟩ method_2_code 1 (some .byte) ({ frames := 0, cells := 0, slots := 0, locals := 0 } : Room) own_P2 := by
  refine own_pure (N := 30) (tab := own_tb2) [21] (plainFor_of_name (by decide +kernel)) hw own_tb2_ok (by decide +kernel) 0 [] [] (fun q hq => by cases hq) (fun q hq => by cases hq) ?_
  rintro h as v ⟨d, rfl, rfl⟩
  refine ⟨#[.val (.int d)], [], [], by simp [argsToLocals, Value.category], (fun q hq => by cases hq), (fun q hq => by cases hq), ?_⟩
  refine And.intro (fun h1 => ?_) (fun h1 => ?_)
  · have e1 : ¬ d < 10 := by
      have z : (10 : Int32) ≤ d := h1
      rw [Int32.le_iff_toInt_le] at z
      rw [Int32.lt_iff_toInt_lt]
      omega
    have e : own_hexv d = nar .byte (97 + d - 10).toInt8.toInt32 := if_neg e1
    exact And.intro rfl (by rw [e]; rfl)
  · have e1 : d < 10 := by
      have z : ¬ (10 : Int32) ≤ d := h1
      rw [Int32.le_iff_toInt_le] at z
      rw [Int32.lt_iff_toInt_lt]
      omega
    have e : own_hexv d = nar .byte (48 + d).toInt8.toInt32 := if_pos e1
    exact And.intro rfl (by rw [e]; rfl)
def own_P4 (_h : Heap) (as : List Value) (v : Value) : Prop := ∃ x y : Int32, as = [.int x, .int y] ∧ v = .int (own_mn x y)
theorem own_m4 (l : Launch) (Z : State) (a0 : Array Value) (hw : ∀ d ∈ tables_1, d.before a0 Z = true) : own_Pure l Z ⟨"java/lang/Math", "min", "(II)I"⟩ jdk_29_method_69_code 2 (some .int) ({ frames := 0, cells := 0, slots := 0, locals := 0 } : Room) own_P4 := by
  refine own_pure (N := 30) (tab := own_tb4) [10] (by decide +kernel) hw own_tb4_ok (by decide +kernel) 0 [] [] (fun q hq => by cases hq) (fun q hq => by cases hq) ?_
  rintro h as v ⟨x, y, rfl, rfl⟩
  refine ⟨#[.val (.int x), .val (.int y)], [], [], by simp [argsToLocals, Value.category], (fun q hq => by cases hq), (fun q hq => by cases hq), ?_⟩
  refine And.intro (fun h1 => ?_) (fun h1 => ?_)
  · have e : own_mn x y = y := if_pos (show y < x from h1)
    exact And.intro rfl (by rw [e]; rfl)
  · have e : own_mn x y = x := if_neg (show ¬ y < x from h1)
    exact And.intro rfl (by rw [e]; rfl)
def own_P5 (_h : Heap) (as : List Value) (v : Value) : Prop := ∃ x y : Int32, as = [.int x, .int y] ∧ v = .int (own_mxI x y)
theorem own_m5 (l : Launch) (Z : State) (a0 : Array Value) (hw : ∀ d ∈ tables_1, d.before a0 Z = true) : own_Pure l Z ⟨"java/lang/Math", "max", "(II)I"⟩ jdk_29_method_65_code 2 (some .int) ({ frames := 0, cells := 0, slots := 0, locals := 0 } : Room) own_P5 := by
  refine own_pure (N := 30) (tab := own_tb5) [10] (by decide +kernel) hw own_tb5_ok (by decide +kernel) 0 [] [] (fun q hq => by cases hq) (fun q hq => by cases hq) ?_
  rintro h as v ⟨x, y, rfl, rfl⟩
  refine ⟨#[.val (.int x), .val (.int y)], [], [], by simp [argsToLocals, Value.category], (fun q hq => by cases hq), (fun q hq => by cases hq), ?_⟩
  refine And.intro (fun h1 => ?_) (fun h1 => ?_)
  · have e : own_mxI x y = y := if_pos (show x < y from h1)
    exact And.intro rfl (by rw [e]; rfl)
  · have e : own_mxI x y = x := if_neg (show ¬ x < y from h1)
    exact And.intro rfl (by rw [e]; rfl)
abbrev own_E3 (a : Addr) (vs : List Value) (h : Heap) : own_Env := ([], [], [], [(a, (18 : Int32), .byte, vs, own_d0)], h, 6, 0)
def own_P3 (Z : State) (h : Heap) (as : List Value) (v : Value) : Prop := ∃ (a : Addr) (k : ClassId) (vs : List Value) (ns : List Int32) (f lim : Int32), as = [.ref a, .int f, .int lim] ∧ ns.length ≤ 18 ∧ Arv Z h a k .byte (18 : Int32) vs own_d0 ∧ own_okc vs ns f ∧ v = .int (own_run ns f lim)
set_option maxHeartbeats 2000000 in
theorem own_loop (h : Heap) (a : Addr) (f lim : Int32) (vs : List Value) : ∀ (ns : List Int32) (p : Int32) (s4 s5 : Slot), own_okc vs ns p → ((s4 = .unset ∧ s5 = .unset) ∨ ∃ x y, s4 = .val (.int x) ∧ s5 = .val (.int y)) →
    own_wp [] own_tb3 (own_E3 a vs h) (own_retQ [111] .int (.int (own_run ns p lim))) (60 * (ns.length + 1)) 2 #[.val (.ref a), .val (.int f), .val (.int lim), .val (.int p), s4, s5] [] := by
  have o1 : (1 : Int32).toInt = 1 := by decide
  have z0 : (0 : Int32).toInt = 0 := by decide
  have z18 : (18 : Int32).toInt = 18 := by decide
  intro ns
  induction ns with
  | nil =>
    intro p s4 s5 hk _
    obtain rfl : p = 18 := hk
    show own_wp [] own_tb3 _ _ 60 2 _ _
    exact And.intro rfl (And.intro (fun _ => And.intro rfl rfl) (fun q => absurd (Int32.le_refl 18) q))
  | cons n ns ih =>
    intro p s4 s5 hk hs
    obtain ⟨⟨i, hp, hi, z, gz, hz⟩, hk'⟩ := hk
    have nge : ¬ (18 : Int32) ≤ p := by rw [Int32.le_iff_toInt_le, hp, z18]; omega
    have i0 : ¬ p < 0 := by rw [Int32.lt_iff_toInt_lt, hp, z0]; omega
    have ilt : p < 18 := by rw [Int32.lt_iff_toInt_lt, hp, z18]; omega
    have g0 : vs.getD p.toNatClampNeg own_d0 = .int z := by
      have q : p.toNatClampNeg = i := by show p.toInt.toNat = i; rw [hp]; omega
      rw [q]; exact gz
    have fin : own_wp [2] own_tb3 (own_E3 a vs h) (fun pc L st => True ∧ own_wp [] own_tb3 (own_E3 a vs h) (own_retQ [111] .int (.int (own_run (n :: ns) p lim))) (60 * (ns.length + 1)) pc L st) 20 91 #[.val (.ref a), .val (.int f), .val (.int lim), .val (.int p), .val (.int z), .val (.int n)] [] := by
      refine And.intro (fun q => ?_) (fun q => ?_)
      · have e : own_run (n :: ns) p lim = own_run ns (p + n) lim := if_pos (show p + n ≤ lim from q)
        rw [e]
        exact And.intro trivial (ih (p + n) (.val (.int z)) (.val (.int n)) hk' (Or.inr ⟨z, n, rfl, rfl⟩))
      · have e : own_run (n :: ns) p lim = p := if_neg (show ¬ p + n ≤ lim from q)
        rw [e]
        refine And.intro trivial ?_
        have w : own_wp [] own_tb3 (own_E3 a vs h) (own_retQ [111] .int (.int p)) 1 111 #[.val (.ref a), .val (.int f), .val (.int lim), .val (.int p), .val (.int z), .val (.int n)] [.int p] := And.intro rfl rfl
        have w2 := own_wp_more w (60 * (ns.length + 1) - 1)
        rw [show 60 * (ns.length + 1) - 1 + 1 = 60 * (ns.length + 1) by omega] at w2
        exact w2
    have e60 : 60 * ((n :: ns).length + 1) = 40 + (20 + 60 * (ns.length + 1)) := by rw [List.length_cons]; omega
    rw [e60]
    refine own_join (stop := [91]) ?_
    rcases hs with ⟨rfl, rfl⟩ | ⟨x, y, rfl, rfl⟩
    · refine And.intro rfl (And.intro (fun q => absurd q nge) (fun _ => ?_))
      refine And.intro rfl (And.intro rfl (And.intro i0 (And.intro ilt (Exists.intro z (And.intro g0 ?_)))))
      rcases hz with ⟨z92, h17, z2, g1, hn⟩ | ⟨zn, hn⟩
      · have ej : (p + 1).toInt = ((i + 1 : Nat) : Int) := by
          rw [Jvm.Kit.i32_add (by rw [hp, o1]; omega) (by rw [hp, o1]; omega), hp, o1]
          omega
        have j0 : ¬ p + 1 < 0 := by rw [Int32.lt_iff_toInt_lt, ej, z0]; omega
        have jlt : p + 1 < 18 := by rw [Int32.lt_iff_toInt_lt, ej, z18]; omega
        have g1' : vs.getD (p + 1).toNatClampNeg own_d0 = .int z2 := by
          have q : (p + 1).toNatClampNeg = i + 1 := by show (p + 1).toInt.toNat = i + 1; rw [ej]; omega
          rw [q]; exact g1
        refine And.intro (fun q => absurd z92 q) (fun _ => ?_)
        refine And.intro rfl (And.intro rfl (And.intro j0 (And.intro jlt (Exists.intro z2 (And.intro g1' ?_)))))
        refine And.intro (fun q => ?_) (fun q => ?_)
        · have q' : ¬ z2 = 117 := q
          have e : n = 2 := by
            rw [hn]; exact if_neg q'
          subst e
          exact And.intro trivial (own_join fin)
        · have q' : z2 = 117 := Classical.byContradiction q
          have e : n = 6 := by
            rw [hn]; exact if_pos q'
          subst e
          exact And.intro trivial (own_join fin)
      · refine And.intro (fun _ => ?_) (fun q => absurd zn q)
        refine And.intro (fun q => ?_) (fun q => ?_)
        · have q' : z < 0 := q
          refine And.intro (fun q1 => ?_) (fun q1 => ?_)
          · have q1' : ¬ z &&& 224 = 192 := q1
            refine And.intro (fun q2 => ?_) (fun q2 => ?_)
            · have q2' : ¬ z &&& 240 = 224 := q2
              have e : n = 4 := by
                rw [hn]; unfold own_ln; rw [if_pos q', if_neg q1', if_neg q2']
              subst e
              exact And.intro trivial (own_join fin)
            · have q2' : z &&& 240 = 224 := Classical.byContradiction q2
              have e : n = 3 := by
                rw [hn]; unfold own_ln; rw [if_pos q', if_neg q1', if_pos q2']
              subst e
              exact And.intro trivial (own_join fin)
          · have q1' : z &&& 224 = 192 := Classical.byContradiction q1
            have e : n = 2 := by
              rw [hn]; unfold own_ln; rw [if_pos q', if_pos q1']
            subst e
            exact And.intro trivial (own_join fin)
        · have q' : ¬ z < 0 := q
          have e : n = 1 := by
            rw [hn]; unfold own_ln; rw [if_neg q']
          subst e
          exact And.intro trivial (own_join fin)
    · refine And.intro rfl (And.intro (fun q => absurd q nge) (fun _ => ?_))
      refine And.intro rfl (And.intro rfl (And.intro i0 (And.intro ilt (Exists.intro z (And.intro g0 ?_)))))
      rcases hz with ⟨z92, h17, z2, g1, hn⟩ | ⟨zn, hn⟩
      · have ej : (p + 1).toInt = ((i + 1 : Nat) : Int) := by
          rw [Jvm.Kit.i32_add (by rw [hp, o1]; omega) (by rw [hp, o1]; omega), hp, o1]
          omega
        have j0 : ¬ p + 1 < 0 := by rw [Int32.lt_iff_toInt_lt, ej, z0]; omega
        have jlt : p + 1 < 18 := by rw [Int32.lt_iff_toInt_lt, ej, z18]; omega
        have g1' : vs.getD (p + 1).toNatClampNeg own_d0 = .int z2 := by
          have q : (p + 1).toNatClampNeg = i + 1 := by show (p + 1).toInt.toNat = i + 1; rw [ej]; omega
          rw [q]; exact g1
        refine And.intro (fun q => absurd z92 q) (fun _ => ?_)
        refine And.intro rfl (And.intro rfl (And.intro j0 (And.intro jlt (Exists.intro z2 (And.intro g1' ?_)))))
        refine And.intro (fun q => ?_) (fun q => ?_)
        · have q' : ¬ z2 = 117 := q
          have e : n = 2 := by
            rw [hn]; exact if_neg q'
          subst e
          exact And.intro trivial (own_join fin)
        · have q' : z2 = 117 := Classical.byContradiction q
          have e : n = 6 := by
            rw [hn]; exact if_pos q'
          subst e
          exact And.intro trivial (own_join fin)
      · refine And.intro (fun _ => ?_) (fun q => absurd zn q)
        refine And.intro (fun q => ?_) (fun q => ?_)
        · have q' : z < 0 := q
          refine And.intro (fun q1 => ?_) (fun q1 => ?_)
          · have q1' : ¬ z &&& 224 = 192 := q1
            refine And.intro (fun q2 => ?_) (fun q2 => ?_)
            · have q2' : ¬ z &&& 240 = 224 := q2
              have e : n = 4 := by
                rw [hn]; unfold own_ln; rw [if_pos q', if_neg q1', if_neg q2']
              subst e
              exact And.intro trivial (own_join fin)
            · have q2' : z &&& 240 = 224 := Classical.byContradiction q2
              have e : n = 3 := by
                rw [hn]; unfold own_ln; rw [if_pos q', if_neg q1', if_pos q2']
              subst e
              exact And.intro trivial (own_join fin)
          · have q1' : z &&& 224 = 192 := Classical.byContradiction q1
            have e : n = 2 := by
              rw [hn]; unfold own_ln; rw [if_pos q', if_pos q1']
            subst e
            exact And.intro trivial (own_join fin)
        · have q' : ¬ z < 0 := q
          have e : n = 1 := by
            rw [hn]; unfold own_ln; rw [if_neg q']
          subst e
          exact And.intro trivial (own_join fin)
theorem own_m3 (l : Launch) (Z : State) (a0 : Array Value) (hw : ∀ d ∈ tables_1, d.before a0 Z = true) : own_Pure l Z ⟨"org/auditrail/Json", "cutPlace", "([BII)I"⟩ prog_24_method_11_code 6 (some .int) ({ frames := 0, cells := 0, slots := 0, locals := 0 } : Room) (own_P3 Z) := by
  refine own_pure (N := 1300) (tab := own_tb3) [111] (plainFor_of_name (by decide +kernel)) hw own_tb3_ok (by decide +kernel) 0 [] [] (fun q hq => by cases hq) (fun q hq => by cases hq) ?_
  rintro h as v ⟨a, k, vs, ns, f, lim, rfl, hlen, hA, hk, rfl⟩
  refine ⟨#[.val (.ref a), .val (.int f), .val (.int lim), .unset, .unset, .unset], [], [(a, (18 : Int32), .byte, vs, own_d0)], by simp [argsToLocals, Value.category], (fun q hq => by cases hq), ?_, ?_⟩
  · intro q hq
    obtain rfl : q = (a, (18 : Int32), .byte, vs, own_d0) := by simpa using hq
    exact ⟨k, hA⟩
  · obtain ⟨N, hN⟩ : ∃ N, 1270 = N + 60 * (ns.length + 1) := ⟨1270 - 60 * (ns.length + 1), by omega⟩
    have lp := own_wp_more (own_loop h a f lim vs ns f .unset .unset hk (Or.inl ⟨rfl, rfl⟩)) N
    rw [← hN] at lp
    refine own_join (stop := [2]) (n1 := 30) (n2 := 1270) ?_
    exact And.intro trivial lp
section own_Put
variable {p : Program} {l : Launch} {e : Env} {R : Room} {s : State} {m : MethodId} {args : Array Value} {below : List Frame} {meth : Method} {c : Code} {Z : State} {aa : Array Value} {locs : List Loc} {cells slots : Nat}
theorem own_stB {T : State} (X : Stand p l e R s m args below meth c T locs cells slots) (hx : p.tables.exec = Jvm.exec) (hZ : Z.Warmed39 s.vm) {h : Heap} (eT : T.heap = h) {a : Addr} {k : ClassId} {vs : List Value} (V : Arv Z h a k .byte (18 : Int32) vs own_d0) (hl : vs.length = 18) {j x : Int32} {i : Nat} (hj : j.toInt = (i : Int)) (hi : i < 18) {n0 : Nat} (N : Fr n0 locs) (hn : n0 ≤ a) {pc : Nat} {L : Array Slot} {rest : List Value} (hd : decode c.code pc = .ok (.bastore, 1)) :
    ∃ T' h' locs', Stand p l e R s m args below meth c T' locs' cells slots ∧ T'.heap = h' ∧ Arv Z h' a k .byte (18 : Int32) (vs.set i (.int (nar .byte x))) own_d0 ∧ Keep h h' [a] ∧ Fr n0 locs' ∧ ∀ t, Steps p.tables e below (T'.setTop (mkF m (pc + 1) L rest)) t → Steps p.tables e below (T.setTop (mkF m pc L (.int x :: .int j :: .ref a :: rest))) t := by
  obtain ⟨cl, Ar, q1, S, Nn, H, G⟩ := V
  have z18 : (18 : Int32).toInt = 18 := by decide
  have z0 : (0 : Int32).toInt = 0 := by decide
  have j0 : ¬ j < 0 := by rw [Int32.lt_iff_toInt_lt, hj, z0]; omega
  have j1 : j < 18 := by rw [Int32.lt_iff_toInt_lt, hj, z18]; omega
  have ej : j.toNatClampNeg = i := by show j.toInt.toNat = i; rw [hj]; omega
  have hin : ¬ (j < 0 ∨ cl.slots.size ≤ j.toNatClampNeg) := inb_of S ⟨j0, j1⟩
  obtain ⟨T', h', X', e', W, st⟩ := stB X hx hZ eT Ar (j := j) (x := x) hin (g := mkF m pc L (.int x :: .int j :: .ref a :: rest)) rfl rfl hd
  exact ⟨T', h', _, X', e', Arv.set Ar q1 S Nn H G (fits_nar_byte x) W i ej (by rw [hl]; exact hi), Keep.of_wr W, Fr.snoc X' N hn, st⟩
theorem own_iincW {T target : State} {g : JFrame} (X : Stand p l e R s m args below meth c T locs cells slots) (hx : p.tables.exec = Jvm.exec) (hg : g.method = m) {k : Nat} {cst : Int} {x : Int32} {l' : Array Slot} (hd : decode c.code g.pc = .ok (.iinc k cst, 6)) (hl : g.locals[k]? = some (.val (.int x))) (hl' : storeLocals g.locals k (.int (x + Int32.ofInt cst)) = some l')
    (hr : Steps p.tables e below (T.setTop { g with pc := g.pc + 6, locals := l' }) target) : Steps p.tables e below (T.setTop g) target := by
  subst hg
  jvm_step X.here [X.here.top, hx, hd, hl, hl']
  exact hr
theorem own_jadd {t c : Int32} {tn cn : Nat} (ht : t.toInt = (tn : Int)) (hc : c.toInt = (cn : Int)) (h : tn ≤ 12) (h' : cn ≤ 6) : (t + c).toInt = ((tn + cn : Nat) : Int) := by
  rw [Jvm.Kit.i32_add (by omega) (by omega), ht, hc]
  omega
abbrev own_roomP : Room := { frames := 1, cells := 0, slots := 0, locals := 20 }
abbrev own_CP : List own_Call := [(8, 1, own_P2)]
abbrev own_EP (h : Heap) : own_Env := (own_CP, [], [], [], h, 7, 6)
theorem own_d1_59 : decode method_3_code 59 = .ok (.bastore, 1) := by decide +kernel
theorem own_d1_61 : decode method_3_code 61 = .ok (.ireturn, 1) := by decide +kernel
theorem own_d1_147 : decode method_3_code 147 = .ok (.bastore, 1) := by decide +kernel
theorem own_d1_155 : decode method_3_code 155 = .ok (.bastore, 1) := by decide +kernel
theorem own_d1_157 : decode method_3_code 157 = .ok (.ireturn, 1) := by decide +kernel
theorem own_d1_174 : decode method_3_code 174 = .ok (.bastore, 1) := by decide +kernel
theorem own_d1_181 : decode method_3_code 181 = .ok (.bastore, 1) := by decide +kernel
theorem own_d1_188 : decode method_3_code 188 = .ok (.bastore, 1) := by decide +kernel
theorem own_d1_195 : decode method_3_code 195 = .ok (.bastore, 1) := by decide +kernel
theorem own_d1_207 : decode method_3_code 207 = .ok (.bastore, 1) := by decide +kernel
theorem own_d1_220 : decode method_3_code 220 = .ok (.bastore, 1) := by decide +kernel
theorem own_d1_223 : decode method_3_code 223 = .ok (.ireturn, 1) := by decide +kernel
theorem own_d1_253 : decode method_3_code 253 = .ok (.bastore, 1) := by decide +kernel
theorem own_d1_268 : decode method_3_code 268 = .ok (.bastore, 1) := by decide +kernel
theorem own_d1_270 : decode method_3_code 270 = .ok (.ireturn, 1) := by decide +kernel
theorem own_d1_294 : decode method_3_code 294 = .ok (.iinc 5 2048, 6) := by decide +kernel
theorem own_d1_312 : decode method_3_code 312 = .ok (.bastore, 1) := by decide +kernel
theorem own_d1_330 : decode method_3_code 330 = .ok (.bastore, 1) := by decide +kernel
theorem own_d1_345 : decode method_3_code 345 = .ok (.bastore, 1) := by decide +kernel
theorem own_d1_347 : decode method_3_code 347 = .ok (.ireturn, 1) := by decide +kernel
theorem own_d1_370 : decode method_3_code 370 = .ok (.bastore, 1) := by decide +kernel
theorem own_d1_388 : decode method_3_code 388 = .ok (.bastore, 1) := by decide +kernel
theorem own_d1_406 : decode method_3_code 406 = .ok (.bastore, 1) := by decide +kernel
theorem own_d1_421 : decode method_3_code 421 = .ok (.bastore, 1) := by decide +kernel
theorem own_d1_423 : decode method_3_code 423 = .ok (.ireturn, 1) := by decide +kernel
set_option maxRecDepth 65536 in
set_option maxHeartbeats 2000000 in
theorem own_kind0 {T : State} (hx : p.tables.exec = Jvm.exec) (hby : c.code = method_3_code) (hZ : Z.Warmed39 s.vm) (hown : s.vm.findClass own_LW = some m.cls) (hw : ∀ d ∈ tables_1, d.before aa Z = true) (hml : c.maxLocals = 7) (hC : ∀ q ∈ own_CP, own_CallOk l Z aa own_LW own_roomP 6 q) (a : Addr) (t pq v : Int32) (tn : Nat) (ht : t.toInt = (tn : Int)) (h12 : tn ≤ 12) (hv0 : 0 ≤ v.toInt) (hv1 : v.toInt < 16777216) (h0 : Heap) (k : ClassId) (vs : List Value) (hl : vs.length = 18) (V0 : Arv Z h0 a k .byte (18 : Int32) vs own_d0) (n0 : Nat) (hn : n0 ≤ a) (X0 : Stand p l e own_roomP s m args below meth c T [] 0 0) (e0 : T.heap = h0) :
    ∃ T' locs' h' vs' n pc' L', Stand p l e own_roomP s m args below meth c T' locs' 0 0 ∧ T'.heap = h' ∧ Keep h0 h' [a] ∧ Fr n0 locs' ∧ Arv Z h' a k .byte (18 : Int32) vs' own_d0 ∧ own_res vs vs' tn n ∧ decode method_3_code pc' = .ok (.ireturn, 1) ∧ ∀ t', Steps p.tables e below (T'.setTop (mkF m pc' L' [.int n])) t' → Steps p.tables e below (T.setTop (mkF m 18 #[.val (.ref a), .val (.int t), .val (.int pq), .val (.int 0), .val (.int v), .unset, .unset] [])) t' := by
  have N0 := Fr.nil n0
  have K0 := Keep.refl h0 [a]
  obtain ⟨T1, _, _, _, X1, e1, ⟨cc, hcc, rfl, rfl, rfl⟩, st1⟩ := own_wp_sound hx hby hZ hown hw own_tb1_ok (E := own_EP h0) hml ⟨hC, (fun q hq => by cases hq), (fun q hq => by cases hq), (fun q hq => by cases hq)⟩ (by decide) (by decide) (stop := [59]) (Q := fun pc L st => ∃ cc : Int32, (¬ nar .byte cc.toInt8.toInt32 = 92 ∧ own_ln (nar .byte cc.toInt8.toInt32) = 1) ∧ pc = 59 ∧ L = #[.val (.ref a), .val (.int t), .val (.int pq), .val (.int 0), .val (.int v), .val (.int cc), .unset] ∧ st = [.int cc.toInt8.toInt32, .int t, .ref a]) 60 18 #[.val (.ref a), .val (.int t), .val (.int pq), .val (.int 0), .val (.int v), .unset, .unset] [] X0 e0 (by
    refine And.intro (fun q => absurd rfl q) (fun _ => ?_)
    have m1 : (v &&& 127).toInt = v.toInt % 2 ^ 7 := Jvm.Kit.i32_mask v 127 (k := 7) (by decide) (by decide)
    have g97 := own_z0 (c := 97) (by decide) (by decide) (by decide)
    refine And.intro (fun _ => ?_) (fun _ => ?_)
    · exact Exists.intro 97 (And.intro g97 (And.intro rfl (And.intro rfl rfl)))
    refine And.intro (fun _ => ?_) (fun _ => ?_)
    · exact Exists.intro 97 (And.intro g97 (And.intro rfl (And.intro rfl rfl)))
    refine And.intro (fun q => ?_) (fun _ => ?_)
    · exact Exists.intro (v &&& 127) (And.intro (own_z0 (by omega) (by omega) q) (And.intro rfl (And.intro rfl rfl)))
    · exact Exists.intro 97 (And.intro g97 (And.intro rfl (And.intro rfl rfl))))
  obtain ⟨T2, h2, lc2, X2, e2, V2, K2, N2, st2⟩ := own_stB X1 hx hZ e1 V0 hl (j := t) (x := cc.toInt8.toInt32) (i := tn) ht (by omega) N0 hn (pc := 59) (L := #[.val (.ref a), .val (.int t), .val (.int pq), .val (.int 0), .val (.int v), .val (.int cc), .unset]) (rest := []) (hb hby own_d1_59)
  have Kc2 := K0.trans K2 (fun x hx => Or.inl hx)
  obtain ⟨T3, X3, e3, st3⟩ := own_seg X2 hx hby hZ hown hw own_tb1_ok (E := own_EP h2) hml ⟨hC, (fun q hq => by cases hq), (fun q hq => by cases hq), (fun q hq => by cases hq)⟩ (by decide) (by decide) e2 (stop := []) (n := 60) (pc0 := 60) (pc1 := 61) (L0 := #[.val (.ref a), .val (.int t), .val (.int pq), .val (.int 0), .val (.int v), .val (.int cc), .unset]) (L1 := #[.val (.ref a), .val (.int t), .val (.int pq), .val (.int 0), .val (.int v), .val (.int cc), .unset]) (st0 := []) (st1 := [.int 1]) (And.intro rfl (And.intro rfl rfl))
  refine ⟨T3, _, h2, _, 1, 61, #[.val (.ref a), .val (.int t), .val (.int pq), .val (.int 0), .val (.int v), .val (.int cc), .unset], X3, e3, Kc2, N2, V2, ⟨by simp only [List.length_set]; exact hl, 1, by decide, by decide, by decide, ?_, ?_⟩, own_d1_61, fun t' z => ?_⟩
  · refine ⟨nar .byte cc.toInt8.toInt32, ?_, Or.inr ⟨hcc.1, hcc.2.symm⟩⟩
    · show _ = Value.int (nar .byte cc.toInt8.toInt32)
      exact own_at (by first | (simp only [List.length_set]; omega) | omega)
  · intro i hi
    rw [own_same (by omega)]
  · refine st1 _ ?_
    refine st2 _ ?_
    refine st3 _ ?_
    exact z
set_option maxRecDepth 65536 in
set_option maxHeartbeats 2000000 in
theorem own_kind1 {T : State} (hx : p.tables.exec = Jvm.exec) (hby : c.code = method_3_code) (hZ : Z.Warmed39 s.vm) (hown : s.vm.findClass own_LW = some m.cls) (hw : ∀ d ∈ tables_1, d.before aa Z = true) (hml : c.maxLocals = 7) (hC : ∀ q ∈ own_CP, own_CallOk l Z aa own_LW own_roomP 6 q) (a : Addr) (t pq v : Int32) (tn : Nat) (ht : t.toInt = (tn : Int)) (h12 : tn ≤ 12) (hv0 : 0 ≤ v.toInt) (hv1 : v.toInt < 16777216) (h0 : Heap) (k : ClassId) (vs : List Value) (hl : vs.length = 18) (V0 : Arv Z h0 a k .byte (18 : Int32) vs own_d0) (n0 : Nat) (hn : n0 ≤ a) (X0 : Stand p l e own_roomP s m args below meth c T [] 0 0) (e0 : T.heap = h0) :
    ∃ T' locs' h' vs' n pc' L', Stand p l e own_roomP s m args below meth c T' locs' 0 0 ∧ T'.heap = h' ∧ Keep h0 h' [a] ∧ Fr n0 locs' ∧ Arv Z h' a k .byte (18 : Int32) vs' own_d0 ∧ own_res vs vs' tn n ∧ decode method_3_code pc' = .ok (.ireturn, 1) ∧ ∀ t', Steps p.tables e below (T'.setTop (mkF m pc' L' [.int n])) t' → Steps p.tables e below (T.setTop (mkF m 18 #[.val (.ref a), .val (.int t), .val (.int pq), .val (.int 1), .val (.int v), .unset, .unset] [])) t' := by
  have N0 := Fr.nil n0
  have K0 := Keep.refl h0 [a]
  obtain ⟨T1, _, _, _, X1, e1, ⟨cc, hcc, rfl, rfl, rfl⟩, st1⟩ := own_wp_sound hx hby hZ hown hw own_tb1_ok (E := own_EP h0) hml ⟨hC, (fun q hq => by cases hq), (fun q hq => by cases hq), (fun q hq => by cases hq)⟩ (by decide) (by decide) (stop := [147]) (Q := fun pc L st => ∃ cc : Int32, ¬ nar .byte cc.toInt8.toInt32 = 117 ∧ pc = 147 ∧ L = #[.val (.ref a), .val (.int t), .val (.int pq), .val (.int 1), .val (.int v), .val (.int (v % 7)), .val (.int cc)] ∧ st = [.int 92, .int t, .ref a]) 60 18 #[.val (.ref a), .val (.int t), .val (.int pq), .val (.int 1), .val (.int v), .unset, .unset] [] X0 e0 (by
    refine And.intro (fun _ => ?_) (fun q => absurd (show ¬ (1 : Int32) = 0 by decide) q)
    refine And.intro (fun q => absurd rfl q) (fun _ => ?_)
    refine And.intro (by decide) ?_
    refine And.intro (fun _ => ?_) (fun _ => ?_)
    rotate_left
    · exact Exists.intro 34 (And.intro (by decide) (And.intro rfl (And.intro rfl rfl)))
    refine And.intro (fun _ => ?_) (fun _ => ?_)
    rotate_left
    · exact Exists.intro 92 (And.intro (by decide) (And.intro rfl (And.intro rfl rfl)))
    refine And.intro (fun _ => ?_) (fun _ => ?_)
    rotate_left
    · exact Exists.intro 110 (And.intro (by decide) (And.intro rfl (And.intro rfl rfl)))
    refine And.intro (fun _ => ?_) (fun _ => ?_)
    rotate_left
    · exact Exists.intro 114 (And.intro (by decide) (And.intro rfl (And.intro rfl rfl)))
    refine And.intro (fun _ => ?_) (fun _ => ?_)
    rotate_left
    · exact Exists.intro 116 (And.intro (by decide) (And.intro rfl (And.intro rfl rfl)))
    refine And.intro (fun _ => ?_) (fun _ => ?_)
    rotate_left
    · exact Exists.intro 98 (And.intro (by decide) (And.intro rfl (And.intro rfl rfl)))
    exact Exists.intro 102 (And.intro (by decide) (And.intro rfl (And.intro rfl rfl))))
  obtain ⟨T2, h2, lc2, X2, e2, V2, K2, N2, st2⟩ := own_stB X1 hx hZ e1 V0 hl (j := t) (x := 92) (i := tn) ht (by omega) N0 hn (pc := 147) (L := #[.val (.ref a), .val (.int t), .val (.int pq), .val (.int 1), .val (.int v), .val (.int (v % 7)), .val (.int cc)]) (rest := []) (hb hby own_d1_147)
  have Kc2 := K0.trans K2 (fun x hx => Or.inl hx)
  obtain ⟨T3, X3, e3, st3⟩ := own_seg X2 hx hby hZ hown hw own_tb1_ok (E := own_EP h2) hml ⟨hC, (fun q hq => by cases hq), (fun q hq => by cases hq), (fun q hq => by cases hq)⟩ (by decide) (by decide) e2 (stop := []) (n := 60) (pc0 := 148) (pc1 := 155) (L0 := #[.val (.ref a), .val (.int t), .val (.int pq), .val (.int 1), .val (.int v), .val (.int (v % 7)), .val (.int cc)]) (L1 := #[.val (.ref a), .val (.int t), .val (.int pq), .val (.int 1), .val (.int v), .val (.int (v % 7)), .val (.int cc)]) (st0 := []) (st1 := [.int cc.toInt8.toInt32, .int (t + 1), .ref a]) (And.intro rfl (And.intro rfl rfl))
  have hl3 : (vs.set tn (.int (nar .byte 92))).length = 18 := by simp only [List.length_set]; exact hl
  obtain ⟨T4, h4, lc4, X4, e4, V4, K4, N4, st4⟩ := own_stB X3 hx hZ e3 V2 hl3 (j := (t + 1)) (x := cc.toInt8.toInt32) (i := (tn + 1)) (own_jadd ht (c := 1) (cn := 1) (by decide) h12 (by decide)) (by omega) N2 hn (pc := 155) (L := #[.val (.ref a), .val (.int t), .val (.int pq), .val (.int 1), .val (.int v), .val (.int (v % 7)), .val (.int cc)]) (rest := []) (hb hby own_d1_155)
  have Kc4 := Kc2.trans K4 (fun x hx => Or.inl hx)
  obtain ⟨T5, X5, e5, st5⟩ := own_seg X4 hx hby hZ hown hw own_tb1_ok (E := own_EP h4) hml ⟨hC, (fun q hq => by cases hq), (fun q hq => by cases hq), (fun q hq => by cases hq)⟩ (by decide) (by decide) e4 (stop := []) (n := 60) (pc0 := 156) (pc1 := 157) (L0 := #[.val (.ref a), .val (.int t), .val (.int pq), .val (.int 1), .val (.int v), .val (.int (v % 7)), .val (.int cc)]) (L1 := #[.val (.ref a), .val (.int t), .val (.int pq), .val (.int 1), .val (.int v), .val (.int (v % 7)), .val (.int cc)]) (st0 := []) (st1 := [.int 2]) (And.intro rfl (And.intro rfl rfl))
  refine ⟨T5, _, h4, _, 2, 157, #[.val (.ref a), .val (.int t), .val (.int pq), .val (.int 1), .val (.int v), .val (.int (v % 7)), .val (.int cc)], X5, e5, Kc4, N4, V4, ⟨by simp only [List.length_set]; exact hl, 2, by decide, by decide, by decide, ?_, ?_⟩, own_d1_157, fun t' z => ?_⟩
  · refine ⟨nar .byte 92, ?_, Or.inl ⟨by decide, by omega, nar .byte cc.toInt8.toInt32, ?_, (if_neg hcc).symm⟩⟩
    · show _ = Value.int (nar .byte 92)
      rw [own_same (by omega)]
      exact own_at (by first | (simp only [List.length_set]; omega) | omega)
    · show _ = Value.int (nar .byte cc.toInt8.toInt32)
      exact own_at (by first | (simp only [List.length_set]; omega) | omega)
  · intro i hi
    rw [own_same (by omega)]
    rw [own_same (by omega)]
  · refine st1 _ ?_
    refine st2 _ ?_
    refine st3 _ ?_
    refine st4 _ ?_
    refine st5 _ ?_
    exact z
set_option maxRecDepth 65536 in
set_option maxHeartbeats 2000000 in
theorem own_kind2 {T : State} (hx : p.tables.exec = Jvm.exec) (hby : c.code = method_3_code) (hZ : Z.Warmed39 s.vm) (hown : s.vm.findClass own_LW = some m.cls) (hw : ∀ d ∈ tables_1, d.before aa Z = true) (hml : c.maxLocals = 7) (hC : ∀ q ∈ own_CP, own_CallOk l Z aa own_LW own_roomP 6 q) (a : Addr) (t pq v : Int32) (tn : Nat) (ht : t.toInt = (tn : Int)) (h12 : tn ≤ 12) (hv0 : 0 ≤ v.toInt) (hv1 : v.toInt < 16777216) (h0 : Heap) (k : ClassId) (vs : List Value) (hl : vs.length = 18) (V0 : Arv Z h0 a k .byte (18 : Int32) vs own_d0) (n0 : Nat) (hn : n0 ≤ a) (X0 : Stand p l e own_roomP s m args below meth c T [] 0 0) (e0 : T.heap = h0) :
    ∃ T' locs' h' vs' n pc' L', Stand p l e own_roomP s m args below meth c T' locs' 0 0 ∧ T'.heap = h' ∧ Keep h0 h' [a] ∧ Fr n0 locs' ∧ Arv Z h' a k .byte (18 : Int32) vs' own_d0 ∧ own_res vs vs' tn n ∧ decode method_3_code pc' = .ok (.ireturn, 1) ∧ ∀ t', Steps p.tables e below (T'.setTop (mkF m pc' L' [.int n])) t' → Steps p.tables e below (T.setTop (mkF m 18 #[.val (.ref a), .val (.int t), .val (.int pq), .val (.int 2), .val (.int v), .unset, .unset] [])) t' := by
  have N0 := Fr.nil n0
  have K0 := Keep.refl h0 [a]
  obtain ⟨T1, X1, e1, st1⟩ := own_seg X0 hx hby hZ hown hw own_tb1_ok (E := own_EP h0) hml ⟨hC, (fun q hq => by cases hq), (fun q hq => by cases hq), (fun q hq => by cases hq)⟩ (by decide) (by decide) e0 (stop := []) (n := 60) (pc0 := 18) (pc1 := 174) (L0 := #[.val (.ref a), .val (.int t), .val (.int pq), .val (.int 2), .val (.int v), .unset, .unset]) (L1 := #[.val (.ref a), .val (.int t), .val (.int pq), .val (.int 2), .val (.int v), .val (.int (v &&& 31)), .unset]) (st0 := []) (st1 := [.int 92, .int t, .ref a]) (by
    refine And.intro (fun _ => ?_) (fun q => absurd (show ¬ (2 : Int32) = 0 by decide) q)
    refine And.intro (fun _ => ?_) (fun q => absurd (show ¬ (2 : Int32) = 1 by decide) q)
    refine And.intro (fun q => absurd rfl q) (fun _ => ?_)
    exact And.intro rfl (And.intro rfl rfl))
  generalize (v &&& 31) = c5 at *
  obtain ⟨T2, h2, lc2, X2, e2, V2, K2, N2, st2⟩ := own_stB X1 hx hZ e1 V0 hl (j := t) (x := 92) (i := tn) ht (by omega) N0 hn (pc := 174) (L := #[.val (.ref a), .val (.int t), .val (.int pq), .val (.int 2), .val (.int v), .val (.int c5), .unset]) (rest := []) (hb hby own_d1_174)
  have Kc2 := K0.trans K2 (fun x hx => Or.inl hx)
  obtain ⟨T3, X3, e3, st3⟩ := own_seg X2 hx hby hZ hown hw own_tb1_ok (E := own_EP h2) hml ⟨hC, (fun q hq => by cases hq), (fun q hq => by cases hq), (fun q hq => by cases hq)⟩ (by decide) (by decide) e2 (stop := []) (n := 60) (pc0 := 175) (pc1 := 181) (L0 := #[.val (.ref a), .val (.int t), .val (.int pq), .val (.int 2), .val (.int v), .val (.int c5), .unset]) (L1 := #[.val (.ref a), .val (.int t), .val (.int pq), .val (.int 2), .val (.int v), .val (.int c5), .unset]) (st0 := []) (st1 := [.int 117, .int (t + 1), .ref a]) (And.intro rfl (And.intro rfl rfl))
  have hl3 : (vs.set tn (.int (nar .byte 92))).length = 18 := by simp only [List.length_set]; exact hl
  obtain ⟨T4, h4, lc4, X4, e4, V4, K4, N4, st4⟩ := own_stB X3 hx hZ e3 V2 hl3 (j := (t + 1)) (x := 117) (i := (tn + 1)) (own_jadd ht (c := 1) (cn := 1) (by decide) h12 (by decide)) (by omega) N2 hn (pc := 181) (L := #[.val (.ref a), .val (.int t), .val (.int pq), .val (.int 2), .val (.int v), .val (.int c5), .unset]) (rest := []) (hb hby own_d1_181)
  have Kc4 := Kc2.trans K4 (fun x hx => Or.inl hx)
  obtain ⟨T5, X5, e5, st5⟩ := own_seg X4 hx hby hZ hown hw own_tb1_ok (E := own_EP h4) hml ⟨hC, (fun q hq => by cases hq), (fun q hq => by cases hq), (fun q hq => by cases hq)⟩ (by decide) (by decide) e4 (stop := []) (n := 60) (pc0 := 182) (pc1 := 188) (L0 := #[.val (.ref a), .val (.int t), .val (.int pq), .val (.int 2), .val (.int v), .val (.int c5), .unset]) (L1 := #[.val (.ref a), .val (.int t), .val (.int pq), .val (.int 2), .val (.int v), .val (.int c5), .unset]) (st0 := []) (st1 := [.int 48, .int (t + 2), .ref a]) (And.intro rfl (And.intro rfl rfl))
  have hl5 : ((vs.set tn (.int (nar .byte 92))).set (tn + 1) (.int (nar .byte 117))).length = 18 := by simp only [List.length_set]; exact hl
  obtain ⟨T6, h6, lc6, X6, e6, V6, K6, N6, st6⟩ := own_stB X5 hx hZ e5 V4 hl5 (j := (t + 2)) (x := 48) (i := (tn + 2)) (own_jadd ht (c := 2) (cn := 2) (by decide) h12 (by decide)) (by omega) N4 hn (pc := 188) (L := #[.val (.ref a), .val (.int t), .val (.int pq), .val (.int 2), .val (.int v), .val (.int c5), .unset]) (rest := []) (hb hby own_d1_188)
  have Kc6 := Kc4.trans K6 (fun x hx => Or.inl hx)
  obtain ⟨T7, X7, e7, st7⟩ := own_seg X6 hx hby hZ hown hw own_tb1_ok (E := own_EP h6) hml ⟨hC, (fun q hq => by cases hq), (fun q hq => by cases hq), (fun q hq => by cases hq)⟩ (by decide) (by decide) e6 (stop := []) (n := 60) (pc0 := 189) (pc1 := 195) (L0 := #[.val (.ref a), .val (.int t), .val (.int pq), .val (.int 2), .val (.int v), .val (.int c5), .unset]) (L1 := #[.val (.ref a), .val (.int t), .val (.int pq), .val (.int 2), .val (.int v), .val (.int c5), .unset]) (st0 := []) (st1 := [.int 48, .int (t + 3), .ref a]) (And.intro rfl (And.intro rfl rfl))
  have hl7 : (((vs.set tn (.int (nar .byte 92))).set (tn + 1) (.int (nar .byte 117))).set (tn + 2) (.int (nar .byte 48))).length = 18 := by simp only [List.length_set]; exact hl
  obtain ⟨T8, h8, lc8, X8, e8, V8, K8, N8, st8⟩ := own_stB X7 hx hZ e7 V6 hl7 (j := (t + 3)) (x := 48) (i := (tn + 3)) (own_jadd ht (c := 3) (cn := 3) (by decide) h12 (by decide)) (by omega) N6 hn (pc := 195) (L := #[.val (.ref a), .val (.int t), .val (.int pq), .val (.int 2), .val (.int v), .val (.int c5), .unset]) (rest := []) (hb hby own_d1_195)
  have Kc8 := Kc6.trans K8 (fun x hx => Or.inl hx)
  obtain ⟨T9, X9, e9, st9⟩ := own_seg X8 hx hby hZ hown hw own_tb1_ok (E := own_EP h8) hml ⟨hC, (fun q hq => by cases hq), (fun q hq => by cases hq), (fun q hq => by cases hq)⟩ (by decide) (by decide) e8 (stop := []) (n := 60) (pc0 := 196) (pc1 := 207) (L0 := #[.val (.ref a), .val (.int t), .val (.int pq), .val (.int 2), .val (.int v), .val (.int c5), .unset]) (L1 := #[.val (.ref a), .val (.int t), .val (.int pq), .val (.int 2), .val (.int v), .val (.int c5), .unset]) (st0 := []) (st1 := [.int (own_hexv (c5 >>> ((4 : Int32) &&& 31))), .int (t + 4), .ref a]) (Exists.intro (.int (own_hexv (c5 >>> ((4 : Int32) &&& 31)))) (And.intro ⟨_, rfl, rfl⟩ (And.intro rfl (And.intro (Nat.le_of_ble_eq_true rfl) (And.intro rfl (And.intro rfl (And.intro rfl rfl)))))))
  have hl9 : ((((vs.set tn (.int (nar .byte 92))).set (tn + 1) (.int (nar .byte 117))).set (tn + 2) (.int (nar .byte 48))).set (tn + 3) (.int (nar .byte 48))).length = 18 := by simp only [List.length_set]; exact hl
  obtain ⟨T10, h10, lc10, X10, e10, V10, K10, N10, st10⟩ := own_stB X9 hx hZ e9 V8 hl9 (j := (t + 4)) (x := (own_hexv (c5 >>> ((4 : Int32) &&& 31)))) (i := (tn + 4)) (own_jadd ht (c := 4) (cn := 4) (by decide) h12 (by decide)) (by omega) N8 hn (pc := 207) (L := #[.val (.ref a), .val (.int t), .val (.int pq), .val (.int 2), .val (.int v), .val (.int c5), .unset]) (rest := []) (hb hby own_d1_207)
  have Kc10 := Kc8.trans K10 (fun x hx => Or.inl hx)
  obtain ⟨T11, X11, e11, st11⟩ := own_seg X10 hx hby hZ hown hw own_tb1_ok (E := own_EP h10) hml ⟨hC, (fun q hq => by cases hq), (fun q hq => by cases hq), (fun q hq => by cases hq)⟩ (by decide) (by decide) e10 (stop := []) (n := 60) (pc0 := 208) (pc1 := 220) (L0 := #[.val (.ref a), .val (.int t), .val (.int pq), .val (.int 2), .val (.int v), .val (.int c5), .unset]) (L1 := #[.val (.ref a), .val (.int t), .val (.int pq), .val (.int 2), .val (.int v), .val (.int c5), .unset]) (st0 := []) (st1 := [.int (own_hexv (c5 &&& 15)), .int (t + 5), .ref a]) (Exists.intro (.int (own_hexv (c5 &&& 15))) (And.intro ⟨_, rfl, rfl⟩ (And.intro rfl (And.intro (Nat.le_of_ble_eq_true rfl) (And.intro rfl (And.intro rfl (And.intro rfl rfl)))))))
  have hl11 : (((((vs.set tn (.int (nar .byte 92))).set (tn + 1) (.int (nar .byte 117))).set (tn + 2) (.int (nar .byte 48))).set (tn + 3) (.int (nar .byte 48))).set (tn + 4) (.int (nar .byte (own_hexv (c5 >>> ((4 : Int32) &&& 31)))))).length = 18 := by simp only [List.length_set]; exact hl
  obtain ⟨T12, h12, lc12, X12, e12, V12, K12, N12, st12⟩ := own_stB X11 hx hZ e11 V10 hl11 (j := (t + 5)) (x := (own_hexv (c5 &&& 15))) (i := (tn + 5)) (own_jadd ht (c := 5) (cn := 5) (by decide) h12 (by decide)) (by omega) N10 hn (pc := 220) (L := #[.val (.ref a), .val (.int t), .val (.int pq), .val (.int 2), .val (.int v), .val (.int c5), .unset]) (rest := []) (hb hby own_d1_220)
  have Kc12 := Kc10.trans K12 (fun x hx => Or.inl hx)
  obtain ⟨T13, X13, e13, st13⟩ := own_seg X12 hx hby hZ hown hw own_tb1_ok (E := own_EP h12) hml ⟨hC, (fun q hq => by cases hq), (fun q hq => by cases hq), (fun q hq => by cases hq)⟩ (by decide) (by decide) e12 (stop := []) (n := 60) (pc0 := 221) (pc1 := 223) (L0 := #[.val (.ref a), .val (.int t), .val (.int pq), .val (.int 2), .val (.int v), .val (.int c5), .unset]) (L1 := #[.val (.ref a), .val (.int t), .val (.int pq), .val (.int 2), .val (.int v), .val (.int c5), .unset]) (st0 := []) (st1 := [.int 6]) (And.intro rfl (And.intro rfl rfl))
  refine ⟨T13, _, h12, _, 6, 223, #[.val (.ref a), .val (.int t), .val (.int pq), .val (.int 2), .val (.int v), .val (.int c5), .unset], X13, e13, Kc12, N12, V12, ⟨by simp only [List.length_set]; exact hl, 6, by decide, by decide, by decide, ?_, ?_⟩, own_d1_223, fun t' z => ?_⟩
  · refine ⟨nar .byte 92, ?_, Or.inl ⟨by decide, by omega, nar .byte 117, ?_, (if_pos (by decide)).symm⟩⟩
    · show _ = Value.int (nar .byte 92)
      rw [own_same (by omega)]
      rw [own_same (by omega)]
      rw [own_same (by omega)]
      rw [own_same (by omega)]
      rw [own_same (by omega)]
      exact own_at (by first | (simp only [List.length_set]; omega) | omega)
    · show _ = Value.int (nar .byte 117)
      rw [own_same (by omega)]
      rw [own_same (by omega)]
      rw [own_same (by omega)]
      rw [own_same (by omega)]
      exact own_at (by first | (simp only [List.length_set]; omega) | omega)
  · intro i hi
    rw [own_same (by omega)]
    rw [own_same (by omega)]
    rw [own_same (by omega)]
    rw [own_same (by omega)]
    rw [own_same (by omega)]
    rw [own_same (by omega)]
  · refine st1 _ ?_
    refine st2 _ ?_
    refine st3 _ ?_
    refine st4 _ ?_
    refine st5 _ ?_
    refine st6 _ ?_
    refine st7 _ ?_
    refine st8 _ ?_
    refine st9 _ ?_
    refine st10 _ ?_
    refine st11 _ ?_
    refine st12 _ ?_
    refine st13 _ ?_
    exact z
set_option maxRecDepth 65536 in
set_option maxHeartbeats 2000000 in
theorem own_kind3 {T : State} (hx : p.tables.exec = Jvm.exec) (hby : c.code = method_3_code) (hZ : Z.Warmed39 s.vm) (hown : s.vm.findClass own_LW = some m.cls) (hw : ∀ d ∈ tables_1, d.before aa Z = true) (hml : c.maxLocals = 7) (hC : ∀ q ∈ own_CP, own_CallOk l Z aa own_LW own_roomP 6 q) (a : Addr) (t pq v : Int32) (tn : Nat) (ht : t.toInt = (tn : Int)) (h12 : tn ≤ 12) (hv0 : 0 ≤ v.toInt) (hv1 : v.toInt < 16777216) (h0 : Heap) (k : ClassId) (vs : List Value) (hl : vs.length = 18) (V0 : Arv Z h0 a k .byte (18 : Int32) vs own_d0) (n0 : Nat) (hn : n0 ≤ a) (X0 : Stand p l e own_roomP s m args below meth c T [] 0 0) (e0 : T.heap = h0) :
    ∃ T' locs' h' vs' n pc' L', Stand p l e own_roomP s m args below meth c T' locs' 0 0 ∧ T'.heap = h' ∧ Keep h0 h' [a] ∧ Fr n0 locs' ∧ Arv Z h' a k .byte (18 : Int32) vs' own_d0 ∧ own_res vs vs' tn n ∧ decode method_3_code pc' = .ok (.ireturn, 1) ∧ ∀ t', Steps p.tables e below (T'.setTop (mkF m pc' L' [.int n])) t' → Steps p.tables e below (T.setTop (mkF m 18 #[.val (.ref a), .val (.int t), .val (.int pq), .val (.int 3), .val (.int v), .unset, .unset] [])) t' := by
  have N0 := Fr.nil n0
  have K0 := Keep.refl h0 [a]
  obtain ⟨T1, X1, e1, st1⟩ := own_seg X0 hx hby hZ hown hw own_tb1_ok (E := own_EP h0) hml ⟨hC, (fun q hq => by cases hq), (fun q hq => by cases hq), (fun q hq => by cases hq)⟩ (by decide) (by decide) e0 (stop := []) (n := 60) (pc0 := 18) (pc1 := 253) (L0 := #[.val (.ref a), .val (.int t), .val (.int pq), .val (.int 3), .val (.int v), .unset, .unset]) (L1 := #[.val (.ref a), .val (.int t), .val (.int pq), .val (.int 3), .val (.int v), .val (.int (128 + v % 1920)), .unset]) (st0 := []) (st1 := [.int (192 ||| ((128 + v % 1920) >>> ((6 : Int32) &&& 31))).toInt8.toInt32, .int t, .ref a]) (by
    refine And.intro (fun _ => ?_) (fun q => absurd (show ¬ (3 : Int32) = 0 by decide) q)
    refine And.intro (fun _ => ?_) (fun q => absurd (show ¬ (3 : Int32) = 1 by decide) q)
    refine And.intro (fun _ => ?_) (fun q => absurd (show ¬ (3 : Int32) = 2 by decide) q)
    refine And.intro (fun q => absurd rfl q) (fun _ => ?_)
    exact And.intro (by decide) (And.intro rfl (And.intro rfl rfl)))
  have r1 : (v % 1920).toInt = v.toInt % 1920 := Jvm.Kit.i32_rem_nonneg (y := 1920) hv0
  have b1 : (128 + v % 1920).toInt = 128 + v.toInt % 1920 := by
    have o : (128 : Int32).toInt = 128 := by decide
    rw [Jvm.Kit.i32_add (by rw [o, r1]; omega) (by rw [o, r1]; omega), o, r1]
  generalize (128 + v % 1920) = cp at *
  have hz := own_z3 (cp := cp) (by omega) (by omega)
  obtain ⟨T2, h2, lc2, X2, e2, V2, K2, N2, st2⟩ := own_stB X1 hx hZ e1 V0 hl (j := t) (x := (192 ||| (cp >>> ((6 : Int32) &&& 31))).toInt8.toInt32) (i := tn) ht (by omega) N0 hn (pc := 253) (L := #[.val (.ref a), .val (.int t), .val (.int pq), .val (.int 3), .val (.int v), .val (.int cp), .unset]) (rest := []) (hb hby own_d1_253)
  have Kc2 := K0.trans K2 (fun x hx => Or.inl hx)
  obtain ⟨T3, X3, e3, st3⟩ := own_seg X2 hx hby hZ hown hw own_tb1_ok (E := own_EP h2) hml ⟨hC, (fun q hq => by cases hq), (fun q hq => by cases hq), (fun q hq => by cases hq)⟩ (by decide) (by decide) e2 (stop := []) (n := 60) (pc0 := 254) (pc1 := 268) (L0 := #[.val (.ref a), .val (.int t), .val (.int pq), .val (.int 3), .val (.int v), .val (.int cp), .unset]) (L1 := #[.val (.ref a), .val (.int t), .val (.int pq), .val (.int 3), .val (.int v), .val (.int cp), .unset]) (st0 := []) (st1 := [.int (128 ||| (cp &&& 63)).toInt8.toInt32, .int (t + 1), .ref a]) (And.intro rfl (And.intro rfl rfl))
  have hl3 : (vs.set tn (.int (nar .byte (192 ||| (cp >>> ((6 : Int32) &&& 31))).toInt8.toInt32))).length = 18 := by simp only [List.length_set]; exact hl
  obtain ⟨T4, h4, lc4, X4, e4, V4, K4, N4, st4⟩ := own_stB X3 hx hZ e3 V2 hl3 (j := (t + 1)) (x := (128 ||| (cp &&& 63)).toInt8.toInt32) (i := (tn + 1)) (own_jadd ht (c := 1) (cn := 1) (by decide) h12 (by decide)) (by omega) N2 hn (pc := 268) (L := #[.val (.ref a), .val (.int t), .val (.int pq), .val (.int 3), .val (.int v), .val (.int cp), .unset]) (rest := []) (hb hby own_d1_268)
  have Kc4 := Kc2.trans K4 (fun x hx => Or.inl hx)
  obtain ⟨T5, X5, e5, st5⟩ := own_seg X4 hx hby hZ hown hw own_tb1_ok (E := own_EP h4) hml ⟨hC, (fun q hq => by cases hq), (fun q hq => by cases hq), (fun q hq => by cases hq)⟩ (by decide) (by decide) e4 (stop := []) (n := 60) (pc0 := 269) (pc1 := 270) (L0 := #[.val (.ref a), .val (.int t), .val (.int pq), .val (.int 3), .val (.int v), .val (.int cp), .unset]) (L1 := #[.val (.ref a), .val (.int t), .val (.int pq), .val (.int 3), .val (.int v), .val (.int cp), .unset]) (st0 := []) (st1 := [.int 2]) (And.intro rfl (And.intro rfl rfl))
  refine ⟨T5, _, h4, _, 2, 270, #[.val (.ref a), .val (.int t), .val (.int pq), .val (.int 3), .val (.int v), .val (.int cp), .unset], X5, e5, Kc4, N4, V4, ⟨by simp only [List.length_set]; exact hl, 2, by decide, by decide, by decide, ?_, ?_⟩, own_d1_270, fun t' z => ?_⟩
  · refine ⟨nar .byte (192 ||| (cp >>> ((6 : Int32) &&& 31))).toInt8.toInt32, ?_, Or.inr ⟨hz.1, hz.2.symm⟩⟩
    · show _ = Value.int (nar .byte (192 ||| (cp >>> ((6 : Int32) &&& 31))).toInt8.toInt32)
      rw [own_same (by omega)]
      exact own_at (by first | (simp only [List.length_set]; omega) | omega)
  · intro i hi
    rw [own_same (by omega)]
    rw [own_same (by omega)]
  · refine st1 _ ?_
    refine st2 _ ?_
    refine st3 _ ?_
    refine st4 _ ?_
    refine st5 _ ?_
    exact z
set_option maxRecDepth 65536 in
set_option maxHeartbeats 2000000 in
theorem own_kind5 {T : State} (hx : p.tables.exec = Jvm.exec) (hby : c.code = method_3_code) (hZ : Z.Warmed39 s.vm) (hown : s.vm.findClass own_LW = some m.cls) (hw : ∀ d ∈ tables_1, d.before aa Z = true) (hml : c.maxLocals = 7) (hC : ∀ q ∈ own_CP, own_CallOk l Z aa own_LW own_roomP 6 q) (a : Addr) (t pq v : Int32) (tn : Nat) (ht : t.toInt = (tn : Int)) (h12 : tn ≤ 12) (hv0 : 0 ≤ v.toInt) (hv1 : v.toInt < 16777216) (h0 : Heap) (k : ClassId) (vs : List Value) (hl : vs.length = 18) (V0 : Arv Z h0 a k .byte (18 : Int32) vs own_d0) (n0 : Nat) (hn : n0 ≤ a) (X0 : Stand p l e own_roomP s m args below meth c T [] 0 0) (e0 : T.heap = h0) :
    ∃ T' locs' h' vs' n pc' L', Stand p l e own_roomP s m args below meth c T' locs' 0 0 ∧ T'.heap = h' ∧ Keep h0 h' [a] ∧ Fr n0 locs' ∧ Arv Z h' a k .byte (18 : Int32) vs' own_d0 ∧ own_res vs vs' tn n ∧ decode method_3_code pc' = .ok (.ireturn, 1) ∧ ∀ t', Steps p.tables e below (T'.setTop (mkF m pc' L' [.int n])) t' → Steps p.tables e below (T.setTop (mkF m 18 #[.val (.ref a), .val (.int t), .val (.int pq), .val (.int 5), .val (.int v), .unset, .unset] [])) t' := by
  have N0 := Fr.nil n0
  have K0 := Keep.refl h0 [a]
  obtain ⟨T1, X1, e1, st1⟩ := own_seg X0 hx hby hZ hown hw own_tb1_ok (E := own_EP h0) hml ⟨hC, (fun q hq => by cases hq), (fun q hq => by cases hq), (fun q hq => by cases hq)⟩ (by decide) (by decide) e0 (stop := []) (n := 60) (pc0 := 18) (pc1 := 370) (L0 := #[.val (.ref a), .val (.int t), .val (.int pq), .val (.int 5), .val (.int v), .unset, .unset]) (L1 := #[.val (.ref a), .val (.int t), .val (.int pq), .val (.int 5), .val (.int v), .val (.int (65536 + v % 1048576)), .unset]) (st0 := []) (st1 := [.int (240 ||| ((65536 + v % 1048576) >>> ((18 : Int32) &&& 31))).toInt8.toInt32, .int t, .ref a]) (by
    refine And.intro (fun _ => ?_) (fun q => absurd (show ¬ (5 : Int32) = 0 by decide) q)
    refine And.intro (fun _ => ?_) (fun q => absurd (show ¬ (5 : Int32) = 1 by decide) q)
    refine And.intro (fun _ => ?_) (fun q => absurd (show ¬ (5 : Int32) = 2 by decide) q)
    refine And.intro (fun _ => ?_) (fun q => absurd (show ¬ (5 : Int32) = 3 by decide) q)
    refine And.intro (fun _ => ?_) (fun q => absurd (show ¬ (5 : Int32) = 4 by decide) q)
    exact And.intro (by decide) (And.intro rfl (And.intro rfl rfl)))
  have r1 : (v % 1048576).toInt = v.toInt % 1048576 := Jvm.Kit.i32_rem_nonneg (y := 1048576) hv0
  have b1 : (65536 + v % 1048576).toInt = 65536 + v.toInt % 1048576 := by
    have o : (65536 : Int32).toInt = 65536 := by decide
    rw [Jvm.Kit.i32_add (by rw [o, r1]; omega) (by rw [o, r1]; omega), o, r1]
  generalize (65536 + v % 1048576) = cp at *
  have hz := own_z5 (cp := cp) (by omega) (by omega)
  obtain ⟨T2, h2, lc2, X2, e2, V2, K2, N2, st2⟩ := own_stB X1 hx hZ e1 V0 hl (j := t) (x := (240 ||| (cp >>> ((18 : Int32) &&& 31))).toInt8.toInt32) (i := tn) ht (by omega) N0 hn (pc := 370) (L := #[.val (.ref a), .val (.int t), .val (.int pq), .val (.int 5), .val (.int v), .val (.int cp), .unset]) (rest := []) (hb hby own_d1_370)
  have Kc2 := K0.trans K2 (fun x hx => Or.inl hx)
  obtain ⟨T3, X3, e3, st3⟩ := own_seg X2 hx hby hZ hown hw own_tb1_ok (E := own_EP h2) hml ⟨hC, (fun q hq => by cases hq), (fun q hq => by cases hq), (fun q hq => by cases hq)⟩ (by decide) (by decide) e2 (stop := []) (n := 60) (pc0 := 371) (pc1 := 388) (L0 := #[.val (.ref a), .val (.int t), .val (.int pq), .val (.int 5), .val (.int v), .val (.int cp), .unset]) (L1 := #[.val (.ref a), .val (.int t), .val (.int pq), .val (.int 5), .val (.int v), .val (.int cp), .unset]) (st0 := []) (st1 := [.int (128 ||| ((cp >>> ((12 : Int32) &&& 31)) &&& 63)).toInt8.toInt32, .int (t + 1), .ref a]) (And.intro rfl (And.intro rfl rfl))
  have hl3 : (vs.set tn (.int (nar .byte (240 ||| (cp >>> ((18 : Int32) &&& 31))).toInt8.toInt32))).length = 18 := by simp only [List.length_set]; exact hl
  obtain ⟨T4, h4, lc4, X4, e4, V4, K4, N4, st4⟩ := own_stB X3 hx hZ e3 V2 hl3 (j := (t + 1)) (x := (128 ||| ((cp >>> ((12 : Int32) &&& 31)) &&& 63)).toInt8.toInt32) (i := (tn + 1)) (own_jadd ht (c := 1) (cn := 1) (by decide) h12 (by decide)) (by omega) N2 hn (pc := 388) (L := #[.val (.ref a), .val (.int t), .val (.int pq), .val (.int 5), .val (.int v), .val (.int cp), .unset]) (rest := []) (hb hby own_d1_388)
  have Kc4 := Kc2.trans K4 (fun x hx => Or.inl hx)
  obtain ⟨T5, X5, e5, st5⟩ := own_seg X4 hx hby hZ hown hw own_tb1_ok (E := own_EP h4) hml ⟨hC, (fun q hq => by cases hq), (fun q hq => by cases hq), (fun q hq => by cases hq)⟩ (by decide) (by decide) e4 (stop := []) (n := 60) (pc0 := 389) (pc1 := 406) (L0 := #[.val (.ref a), .val (.int t), .val (.int pq), .val (.int 5), .val (.int v), .val (.int cp), .unset]) (L1 := #[.val (.ref a), .val (.int t), .val (.int pq), .val (.int 5), .val (.int v), .val (.int cp), .unset]) (st0 := []) (st1 := [.int (128 ||| ((cp >>> ((6 : Int32) &&& 31)) &&& 63)).toInt8.toInt32, .int (t + 2), .ref a]) (And.intro rfl (And.intro rfl rfl))
  have hl5 : ((vs.set tn (.int (nar .byte (240 ||| (cp >>> ((18 : Int32) &&& 31))).toInt8.toInt32))).set (tn + 1) (.int (nar .byte (128 ||| ((cp >>> ((12 : Int32) &&& 31)) &&& 63)).toInt8.toInt32))).length = 18 := by simp only [List.length_set]; exact hl
  obtain ⟨T6, h6, lc6, X6, e6, V6, K6, N6, st6⟩ := own_stB X5 hx hZ e5 V4 hl5 (j := (t + 2)) (x := (128 ||| ((cp >>> ((6 : Int32) &&& 31)) &&& 63)).toInt8.toInt32) (i := (tn + 2)) (own_jadd ht (c := 2) (cn := 2) (by decide) h12 (by decide)) (by omega) N4 hn (pc := 406) (L := #[.val (.ref a), .val (.int t), .val (.int pq), .val (.int 5), .val (.int v), .val (.int cp), .unset]) (rest := []) (hb hby own_d1_406)
  have Kc6 := Kc4.trans K6 (fun x hx => Or.inl hx)
  obtain ⟨T7, X7, e7, st7⟩ := own_seg X6 hx hby hZ hown hw own_tb1_ok (E := own_EP h6) hml ⟨hC, (fun q hq => by cases hq), (fun q hq => by cases hq), (fun q hq => by cases hq)⟩ (by decide) (by decide) e6 (stop := []) (n := 60) (pc0 := 407) (pc1 := 421) (L0 := #[.val (.ref a), .val (.int t), .val (.int pq), .val (.int 5), .val (.int v), .val (.int cp), .unset]) (L1 := #[.val (.ref a), .val (.int t), .val (.int pq), .val (.int 5), .val (.int v), .val (.int cp), .unset]) (st0 := []) (st1 := [.int (128 ||| (cp &&& 63)).toInt8.toInt32, .int (t + 3), .ref a]) (And.intro rfl (And.intro rfl rfl))
  have hl7 : (((vs.set tn (.int (nar .byte (240 ||| (cp >>> ((18 : Int32) &&& 31))).toInt8.toInt32))).set (tn + 1) (.int (nar .byte (128 ||| ((cp >>> ((12 : Int32) &&& 31)) &&& 63)).toInt8.toInt32))).set (tn + 2) (.int (nar .byte (128 ||| ((cp >>> ((6 : Int32) &&& 31)) &&& 63)).toInt8.toInt32))).length = 18 := by simp only [List.length_set]; exact hl
  obtain ⟨T8, h8, lc8, X8, e8, V8, K8, N8, st8⟩ := own_stB X7 hx hZ e7 V6 hl7 (j := (t + 3)) (x := (128 ||| (cp &&& 63)).toInt8.toInt32) (i := (tn + 3)) (own_jadd ht (c := 3) (cn := 3) (by decide) h12 (by decide)) (by omega) N6 hn (pc := 421) (L := #[.val (.ref a), .val (.int t), .val (.int pq), .val (.int 5), .val (.int v), .val (.int cp), .unset]) (rest := []) (hb hby own_d1_421)
  have Kc8 := Kc6.trans K8 (fun x hx => Or.inl hx)
  obtain ⟨T9, X9, e9, st9⟩ := own_seg X8 hx hby hZ hown hw own_tb1_ok (E := own_EP h8) hml ⟨hC, (fun q hq => by cases hq), (fun q hq => by cases hq), (fun q hq => by cases hq)⟩ (by decide) (by decide) e8 (stop := []) (n := 60) (pc0 := 422) (pc1 := 423) (L0 := #[.val (.ref a), .val (.int t), .val (.int pq), .val (.int 5), .val (.int v), .val (.int cp), .unset]) (L1 := #[.val (.ref a), .val (.int t), .val (.int pq), .val (.int 5), .val (.int v), .val (.int cp), .unset]) (st0 := []) (st1 := [.int 4]) (And.intro rfl (And.intro rfl rfl))
  refine ⟨T9, _, h8, _, 4, 423, #[.val (.ref a), .val (.int t), .val (.int pq), .val (.int 5), .val (.int v), .val (.int cp), .unset], X9, e9, Kc8, N8, V8, ⟨by simp only [List.length_set]; exact hl, 4, by decide, by decide, by decide, ?_, ?_⟩, own_d1_423, fun t' z => ?_⟩
  · refine ⟨nar .byte (240 ||| (cp >>> ((18 : Int32) &&& 31))).toInt8.toInt32, ?_, Or.inr ⟨hz.1, hz.2.symm⟩⟩
    · show _ = Value.int (nar .byte (240 ||| (cp >>> ((18 : Int32) &&& 31))).toInt8.toInt32)
      rw [own_same (by omega)]
      rw [own_same (by omega)]
      rw [own_same (by omega)]
      exact own_at (by first | (simp only [List.length_set]; omega) | omega)
  · intro i hi
    rw [own_same (by omega)]
    rw [own_same (by omega)]
    rw [own_same (by omega)]
    rw [own_same (by omega)]
  · refine st1 _ ?_
    refine st2 _ ?_
    refine st3 _ ?_
    refine st4 _ ?_
    refine st5 _ ?_
    refine st6 _ ?_
    refine st7 _ ?_
    refine st8 _ ?_
    refine st9 _ ?_
    exact z
set_option maxRecDepth 65536 in
set_option maxHeartbeats 2000000 in
theorem own_kind4 {T : State} (hx : p.tables.exec = Jvm.exec) (hby : c.code = method_3_code) (hZ : Z.Warmed39 s.vm) (hown : s.vm.findClass own_LW = some m.cls) (hw : ∀ d ∈ tables_1, d.before aa Z = true) (hml : c.maxLocals = 7) (hC : ∀ q ∈ own_CP, own_CallOk l Z aa own_LW own_roomP 6 q) (a : Addr) (t pq v : Int32) (tn : Nat) (ht : t.toInt = (tn : Int)) (h12 : tn ≤ 12) (hv0 : 0 ≤ v.toInt) (hv1 : v.toInt < 16777216) (h0 : Heap) (k : ClassId) (vs : List Value) (hl : vs.length = 18) (V0 : Arv Z h0 a k .byte (18 : Int32) vs own_d0) (n0 : Nat) (hn : n0 ≤ a) (X0 : Stand p l e own_roomP s m args below meth c T [] 0 0) (e0 : T.heap = h0) :
    ∃ T' locs' h' vs' n pc' L', Stand p l e own_roomP s m args below meth c T' locs' 0 0 ∧ T'.heap = h' ∧ Keep h0 h' [a] ∧ Fr n0 locs' ∧ Arv Z h' a k .byte (18 : Int32) vs' own_d0 ∧ own_res vs vs' tn n ∧ decode method_3_code pc' = .ok (.ireturn, 1) ∧ ∀ t', Steps p.tables e below (T'.setTop (mkF m pc' L' [.int n])) t' → Steps p.tables e below (T.setTop (mkF m 18 #[.val (.ref a), .val (.int t), .val (.int pq), .val (.int 4), .val (.int v), .unset, .unset] [])) t' := by
  have N0 := Fr.nil n0
  have K0 := Keep.refl h0 [a]
  have r1 : (v % 61440).toInt = v.toInt % 61440 := Jvm.Kit.i32_rem_nonneg (y := 61440) hv0
  have b1 : (2048 + v % 61440).toInt = 2048 + v.toInt % 61440 := by
    have o : (2048 : Int32).toInt = 2048 := by decide
    rw [Jvm.Kit.i32_add (by rw [o, r1]; omega) (by rw [o, r1]; omega), o, r1]
  obtain ⟨T1, cp, X1, e1, hc0, hc1, st1⟩ : ∃ T1 cp, Stand p l e own_roomP s m args below meth c T1 [] 0 0 ∧ T1.heap = h0 ∧ 2048 ≤ cp.toInt ∧ cp.toInt < 65536 ∧ ∀ t', Steps p.tables e below (T1.setTop (mkF m 300 #[.val (.ref a), .val (.int t), .val (.int pq), .val (.int 4), .val (.int v), .val (.int cp), .unset] [])) t' → Steps p.tables e below (T.setTop (mkF m 18 #[.val (.ref a), .val (.int t), .val (.int pq), .val (.int 4), .val (.int v), .unset, .unset] [])) t' := by
    have c55 : (55296 : Int32).toInt = 55296 := by decide
    by_cases hlt : (2048 + v % 61440) < 55296
    · obtain ⟨T1, X1, e1, st1⟩ := own_seg X0 hx hby hZ hown hw own_tb1_ok (E := own_EP h0) hml ⟨hC, (fun q hq => by cases hq), (fun q hq => by cases hq), (fun q hq => by cases hq)⟩ (by decide) (by decide) e0 (stop := [300]) (n := 60) (pc0 := 18) (pc1 := 300) (L0 := #[.val (.ref a), .val (.int t), .val (.int pq), .val (.int 4), .val (.int v), .unset, .unset]) (L1 := #[.val (.ref a), .val (.int t), .val (.int pq), .val (.int 4), .val (.int v), .val (.int (2048 + v % 61440)), .unset]) (st0 := []) (st1 := []) (by
        refine And.intro (fun _ => ?_) (fun q => absurd (show ¬ (4 : Int32) = 0 by decide) q)
        refine And.intro (fun _ => ?_) (fun q => absurd (show ¬ (4 : Int32) = 1 by decide) q)
        refine And.intro (fun _ => ?_) (fun q => absurd (show ¬ (4 : Int32) = 2 by decide) q)
        refine And.intro (fun _ => ?_) (fun q => absurd (show ¬ (4 : Int32) = 3 by decide) q)
        refine And.intro (fun q => absurd rfl q) (fun _ => ?_)
        refine And.intro (by decide) ?_
        refine And.intro (fun _ => ?_) (fun q => absurd hlt q)
        exact And.intro rfl (And.intro rfl rfl))
      refine ⟨T1, (2048 + v % 61440), X1, e1, by omega, ?_, st1⟩
      rw [Int32.lt_iff_toInt_lt, c55] at hlt
      omega
    · obtain ⟨T1, X1, e1, st1⟩ := own_seg X0 hx hby hZ hown hw own_tb1_ok (E := own_EP h0) hml ⟨hC, (fun q hq => by cases hq), (fun q hq => by cases hq), (fun q hq => by cases hq)⟩ (by decide) (by decide) e0 (stop := [300]) (n := 60) (pc0 := 18) (pc1 := 294) (L0 := #[.val (.ref a), .val (.int t), .val (.int pq), .val (.int 4), .val (.int v), .unset, .unset]) (L1 := #[.val (.ref a), .val (.int t), .val (.int pq), .val (.int 4), .val (.int v), .val (.int (2048 + v % 61440)), .unset]) (st0 := []) (st1 := []) (by
        refine And.intro (fun _ => ?_) (fun q => absurd (show ¬ (4 : Int32) = 0 by decide) q)
        refine And.intro (fun _ => ?_) (fun q => absurd (show ¬ (4 : Int32) = 1 by decide) q)
        refine And.intro (fun _ => ?_) (fun q => absurd (show ¬ (4 : Int32) = 2 by decide) q)
        refine And.intro (fun _ => ?_) (fun q => absurd (show ¬ (4 : Int32) = 3 by decide) q)
        refine And.intro (fun q => absurd rfl q) (fun _ => ?_)
        refine And.intro (by decide) ?_
        refine And.intro (fun q => absurd q hlt) (fun _ => ?_)
        exact And.intro rfl (And.intro rfl rfl))
      have k2 : (Int32.ofInt 2048).toInt = 2048 := by decide
      rw [Int32.lt_iff_toInt_lt, c55] at hlt
      have b2 : ((2048 + v % 61440) + Int32.ofInt 2048).toInt = (2048 + v % 61440).toInt + 2048 := by rw [Jvm.Kit.i32_add (by rw [k2]; omega) (by rw [k2]; omega), k2]
      refine ⟨T1, (2048 + v % 61440) + Int32.ofInt 2048, X1, e1, by omega, by omega, fun t' z => st1 _ ?_⟩
      exact own_iincW X1 hx (g := mkF m 294 #[.val (.ref a), .val (.int t), .val (.int pq), .val (.int 4), .val (.int v), .val (.int (2048 + v % 61440)), .unset] []) rfl (k := 5) (cst := 2048) (x := (2048 + v % 61440)) (hb hby own_d1_294) rfl rfl z
  have hz := own_z4 (cp := cp) hc0 hc1
  obtain ⟨T2, X2, e2, st2⟩ := own_seg X1 hx hby hZ hown hw own_tb1_ok (E := own_EP h0) hml ⟨hC, (fun q hq => by cases hq), (fun q hq => by cases hq), (fun q hq => by cases hq)⟩ (by decide) (by decide) e1 (stop := []) (n := 60) (pc0 := 300) (pc1 := 312) (L0 := #[.val (.ref a), .val (.int t), .val (.int pq), .val (.int 4), .val (.int v), .val (.int cp), .unset]) (L1 := #[.val (.ref a), .val (.int t), .val (.int pq), .val (.int 4), .val (.int v), .val (.int cp), .unset]) (st0 := []) (st1 := [.int (224 ||| (cp >>> ((12 : Int32) &&& 31))).toInt8.toInt32, .int t, .ref a]) (And.intro rfl (And.intro rfl rfl))
  obtain ⟨T3, h3, lc3, X3, e3, V3, K3, N3, st3⟩ := own_stB X2 hx hZ e2 V0 hl (j := t) (x := (224 ||| (cp >>> ((12 : Int32) &&& 31))).toInt8.toInt32) (i := tn) ht (by omega) N0 hn (pc := 312) (L := #[.val (.ref a), .val (.int t), .val (.int pq), .val (.int 4), .val (.int v), .val (.int cp), .unset]) (rest := []) (hb hby own_d1_312)
  have Kc3 := K0.trans K3 (fun x hx => Or.inl hx)
  obtain ⟨T4, X4, e4, st4⟩ := own_seg X3 hx hby hZ hown hw own_tb1_ok (E := own_EP h3) hml ⟨hC, (fun q hq => by cases hq), (fun q hq => by cases hq), (fun q hq => by cases hq)⟩ (by decide) (by decide) e3 (stop := []) (n := 60) (pc0 := 313) (pc1 := 330) (L0 := #[.val (.ref a), .val (.int t), .val (.int pq), .val (.int 4), .val (.int v), .val (.int cp), .unset]) (L1 := #[.val (.ref a), .val (.int t), .val (.int pq), .val (.int 4), .val (.int v), .val (.int cp), .unset]) (st0 := []) (st1 := [.int (128 ||| ((cp >>> ((6 : Int32) &&& 31)) &&& 63)).toInt8.toInt32, .int (t + 1), .ref a]) (And.intro rfl (And.intro rfl rfl))
  have hl4 : (vs.set tn (.int (nar .byte (224 ||| (cp >>> ((12 : Int32) &&& 31))).toInt8.toInt32))).length = 18 := by simp only [List.length_set]; exact hl
  obtain ⟨T5, h5, lc5, X5, e5, V5, K5, N5, st5⟩ := own_stB X4 hx hZ e4 V3 hl4 (j := (t + 1)) (x := (128 ||| ((cp >>> ((6 : Int32) &&& 31)) &&& 63)).toInt8.toInt32) (i := (tn + 1)) (own_jadd ht (c := 1) (cn := 1) (by decide) h12 (by decide)) (by omega) N3 hn (pc := 330) (L := #[.val (.ref a), .val (.int t), .val (.int pq), .val (.int 4), .val (.int v), .val (.int cp), .unset]) (rest := []) (hb hby own_d1_330)
  have Kc5 := Kc3.trans K5 (fun x hx => Or.inl hx)
  obtain ⟨T6, X6, e6, st6⟩ := own_seg X5 hx hby hZ hown hw own_tb1_ok (E := own_EP h5) hml ⟨hC, (fun q hq => by cases hq), (fun q hq => by cases hq), (fun q hq => by cases hq)⟩ (by decide) (by decide) e5 (stop := []) (n := 60) (pc0 := 331) (pc1 := 345) (L0 := #[.val (.ref a), .val (.int t), .val (.int pq), .val (.int 4), .val (.int v), .val (.int cp), .unset]) (L1 := #[.val (.ref a), .val (.int t), .val (.int pq), .val (.int 4), .val (.int v), .val (.int cp), .unset]) (st0 := []) (st1 := [.int (128 ||| (cp &&& 63)).toInt8.toInt32, .int (t + 2), .ref a]) (And.intro rfl (And.intro rfl rfl))
  have hl6 : ((vs.set tn (.int (nar .byte (224 ||| (cp >>> ((12 : Int32) &&& 31))).toInt8.toInt32))).set (tn + 1) (.int (nar .byte (128 ||| ((cp >>> ((6 : Int32) &&& 31)) &&& 63)).toInt8.toInt32))).length = 18 := by simp only [List.length_set]; exact hl
  obtain ⟨T7, h7, lc7, X7, e7, V7, K7, N7, st7⟩ := own_stB X6 hx hZ e6 V5 hl6 (j := (t + 2)) (x := (128 ||| (cp &&& 63)).toInt8.toInt32) (i := (tn + 2)) (own_jadd ht (c := 2) (cn := 2) (by decide) h12 (by decide)) (by omega) N5 hn (pc := 345) (L := #[.val (.ref a), .val (.int t), .val (.int pq), .val (.int 4), .val (.int v), .val (.int cp), .unset]) (rest := []) (hb hby own_d1_345)
  have Kc7 := Kc5.trans K7 (fun x hx => Or.inl hx)
  obtain ⟨T8, X8, e8, st8⟩ := own_seg X7 hx hby hZ hown hw own_tb1_ok (E := own_EP h7) hml ⟨hC, (fun q hq => by cases hq), (fun q hq => by cases hq), (fun q hq => by cases hq)⟩ (by decide) (by decide) e7 (stop := []) (n := 60) (pc0 := 346) (pc1 := 347) (L0 := #[.val (.ref a), .val (.int t), .val (.int pq), .val (.int 4), .val (.int v), .val (.int cp), .unset]) (L1 := #[.val (.ref a), .val (.int t), .val (.int pq), .val (.int 4), .val (.int v), .val (.int cp), .unset]) (st0 := []) (st1 := [.int 3]) (And.intro rfl (And.intro rfl rfl))
  refine ⟨T8, _, h7, _, 3, 347, #[.val (.ref a), .val (.int t), .val (.int pq), .val (.int 4), .val (.int v), .val (.int cp), .unset], X8, e8, Kc7, N7, V7, ⟨by simp only [List.length_set]; exact hl, 3, by decide, by decide, by decide, ?_, ?_⟩, own_d1_347, fun t' z => ?_⟩
  · refine ⟨nar .byte (224 ||| (cp >>> ((12 : Int32) &&& 31))).toInt8.toInt32, ?_, Or.inr ⟨hz.1, hz.2.symm⟩⟩
    · show _ = Value.int (nar .byte (224 ||| (cp >>> ((12 : Int32) &&& 31))).toInt8.toInt32)
      rw [own_same (by omega)]
      rw [own_same (by omega)]
      exact own_at (by first | (simp only [List.length_set]; omega) | omega)
  · intro i hi
    rw [own_same (by omega)]
    rw [own_same (by omega)]
    rw [own_same (by omega)]
  · refine st1 _ ?_
    refine st2 _ ?_
    refine st3 _ ?_
    refine st4 _ ?_
    refine st5 _ ?_
    refine st6 _ ?_
    refine st7 _ ?_
    refine st8 _ ?_
    exact z
end own_Put
theorem own_k6 (pq : Int32) : ((pq &&& 255) % 6) = 0 ∨ ((pq &&& 255) % 6) = 1 ∨ ((pq &&& 255) % 6) = 2 ∨ ((pq &&& 255) % 6) = 3 ∨ ((pq &&& 255) % 6) = 4 ∨ ((pq &&& 255) % 6) = 5 := by
  have e1 : (pq &&& 255).toInt = pq.toInt % 2 ^ 8 := Jvm.Kit.i32_mask pq 255 (k := 8) (by decide) (by decide)
  have e2 : ((pq &&& 255) % 6).toInt = (pq &&& 255).toInt % 6 := Jvm.Kit.i32_rem_nonneg (y := 6) (by omega)
  have i : ∀ (c d : Int32) (k : Int), d.toInt = k → c.toInt = k → c = d := fun c d k h1 h2 => Int32.toInt_inj.mp (by rw [h1, h2])
  have r : ((pq &&& 255) % 6).toInt = 0 ∨ ((pq &&& 255) % 6).toInt = 1 ∨ ((pq &&& 255) % 6).toInt = 2 ∨ ((pq &&& 255) % 6).toInt = 3 ∨ ((pq &&& 255) % 6).toInt = 4 ∨ ((pq &&& 255) % 6).toInt = 5 := by omega
  rcases r with r | r | r | r | r | r
  · exact Or.inl (i _ 0 0 rfl r)
  · exact Or.inr (Or.inl (i _ 1 1 rfl r))
  · exact Or.inr (Or.inr (Or.inl (i _ 2 2 rfl r)))
  · exact Or.inr (Or.inr (Or.inr (Or.inl (i _ 3 3 rfl r))))
  · exact Or.inr (Or.inr (Or.inr (Or.inr (Or.inl (i _ 4 4 rfl r)))))
  · exact Or.inr (Or.inr (Or.inr (Or.inr (Or.inr (i _ 5 5 rfl r)))))
def own_QP (Z : State) (a : Addr) (k : ClassId) (h0 : Heap) (vs : List Value) (tn n0 : Nat) (v : Option Value) (h : Heap) (L : List Loc) : Prop := ∃ n vs', v = some (.int n) ∧ Fr n0 L ∧ Keep h0 h [a] ∧ Arv Z h a k .byte (18 : Int32) vs' own_d0 ∧ own_res vs vs' tn n
theorem own_efP (m : MethodId) (a : Addr) (t pq : Int32) : entryFrame m #[(.ref a), (.int t), (.int pq)] 7 = mkF m 0 #[.val (.ref a), .val (.int t), .val (.int pq), .unset, .unset, .unset, .unset] [] := by first | (simp [entryFrame, mkF, argsToLocals, Value.category]; done) | rfl
set_option maxRecDepth 65536 in
set_option maxHeartbeats 2000000 in
theorem own_rmP (l : Launch) (Z : State) (a0 : Array Value) (hw : ∀ d ∈ tables_1, d.before a0 Z = true) (ws : List Jvm.Cond) (a : Addr) (t pq : Int32) (tn : Nat) (ht : t.toInt = (tn : Int)) (h12 : tn ≤ 12) (h0 : Heap) (k : ClassId) (vs : List Value) (hl : vs.length = 18) (V0 : Arv Z h0 a k .byte (18 : Int32) vs own_d0) (n0 : Nat) (hn : n0 ≤ a) :
    MetFree l (⟨own_LW, "put", "([BII)I"⟩ : MethodName) (head1 (Jvm.Cond.code (⟨own_LW, "put", "([BII)I"⟩ : MethodName) method_3_code 7 (some .int) :: ws) own_roomP) (fun a' U => a' = #[(.ref a), (.int t), (.int pq)] ∧ Z.Warmed39 U.vm ∧ U.heap = h0) (fun _ _ _ _ _ => True) (fun _ U o U' => ∃ v L, o = .returned v ∧ own_QP Z a k h0 vs tn n0 v U'.heap L ∧ FrameEnd U o U' L own_roomP.cells own_roomP.slots) := by
  refine MetFree.of_bodySF (plainFor_of_name (by decide +kernel)) hisR ?_
  intro p e s m args below meth c s₁ Bd hml0 hP hK
  obtain ⟨rfl, hZ, hh⟩ := hP
  have hx := Bd.exec
  have hby := Bd.bytes
  have hml : c.maxLocals = 7 := hml0
  have hown : s.vm.findClass own_LW = some m.cls := findClass_of_methodNamed Bd.named
  have X0 : Stand p l e own_roomP s m #[(.ref a), (.int t), (.int pq)] below meth c s₁ [] 0 0 := Stand.of_body Bd
  have e0 : s₁.heap = h0 := by rw [← hh, Bd.state]; rfl
  have hC : ∀ q ∈ own_CP, own_CallOk l Z a0 own_LW own_roomP 6 q := fun q hq => by
    obtain rfl : q = (8, 1, own_P2) := by simpa using hq
    exact ⟨_, _, _, _, _, own_m2 l Z a0 hw, (hw _ (List.mem_of_getElem? (i := 6) rfl)), (hw _ (List.mem_of_getElem? (i := 7) rfl)), (hw _ (List.mem_of_getElem? (i := 3) rfl)), (hw _ (List.mem_of_getElem? (i := 8) rfl)), by decide, ⟨_, _, (by decide +kernel : parseMethodDescriptor "(I)B" = some ⟨[.int], some .byte⟩), rfl⟩, rfl, rfl, by decide, by decide⟩
  have pre0 : ∀ t', Steps p.tables e below (s₁.setTop (mkF m 0 #[.val (.ref a), .val (.int t), .val (.int pq), .unset, .unset, .unset, .unset] [])) t' → Steps p.tables e below (s₁.setTop (entryFrame m #[(.ref a), (.int t), (.int pq)] 7)) t' := fun t' z => castTop (own_efP m a t pq) z
  obtain ⟨T1, X1, e1, st1⟩ := own_seg X0 hx hby hZ hown hw own_tb1_ok (E := own_EP h0) hml ⟨hC, (fun q hq => by cases hq), (fun q hq => by cases hq), (fun q hq => by cases hq)⟩ (by decide) (by decide) e0 (stop := [18]) (n := 60) (pc0 := 0) (pc1 := 18) (L0 := #[.val (.ref a), .val (.int t), .val (.int pq), .unset, .unset, .unset, .unset]) (L1 := #[.val (.ref a), .val (.int t), .val (.int pq), .val (.int ((pq &&& 255) % 6)), .val (.int ((XT.ushr pq 8) &&& 16777215)), .unset, .unset]) (st0 := []) (st1 := []) (And.intro (by decide) (And.intro rfl (And.intro rfl rfl)))
  have hk := own_k6 pq
  have mv : ((XT.ushr pq 8) &&& 16777215).toInt = (XT.ushr pq 8).toInt % 2 ^ 24 := Jvm.Kit.i32_mask _ 16777215 (k := 24) (by decide) (by decide)
  have hv0 : 0 ≤ ((XT.ushr pq 8) &&& 16777215).toInt := by omega
  have hv1 : ((XT.ushr pq 8) &&& 16777215).toInt < 16777216 := by omega
  clear mv
  generalize ((pq &&& 255) % 6) = kd at *
  generalize ((XT.ushr pq 8) &&& 16777215) = v at *
  obtain ⟨T2, lc2, h2, vs', n, pc', L', X2, e2, K2, N2, V2, hres, hd2, st2⟩ : ∃ T' locs' h' vs' n pc' L', Stand p l e own_roomP s m #[(.ref a), (.int t), (.int pq)] below meth c T' locs' 0 0 ∧ T'.heap = h' ∧ Keep h0 h' [a] ∧ Fr n0 locs' ∧ Arv Z h' a k .byte (18 : Int32) vs' own_d0 ∧ own_res vs vs' tn n ∧ decode method_3_code pc' = .ok (.ireturn, 1) ∧ ∀ t', Steps p.tables e below (T'.setTop (mkF m pc' L' [.int n])) t' → Steps p.tables e below (T1.setTop (mkF m 18 #[.val (.ref a), .val (.int t), .val (.int pq), .val (.int kd), .val (.int v), .unset, .unset] [])) t' := by
    rcases hk with rfl | rfl | rfl | rfl | rfl | rfl
    · exact own_kind0 hx hby hZ hown hw hml hC a t pq v tn ht h12 hv0 hv1 h0 k vs hl V0 n0 hn X1 e1
    · exact own_kind1 hx hby hZ hown hw hml hC a t pq v tn ht h12 hv0 hv1 h0 k vs hl V0 n0 hn X1 e1
    · exact own_kind2 hx hby hZ hown hw hml hC a t pq v tn ht h12 hv0 hv1 h0 k vs hl V0 n0 hn X1 e1
    · exact own_kind3 hx hby hZ hown hw hml hC a t pq v tn ht h12 hv0 hv1 h0 k vs hl V0 n0 hn X1 e1
    · exact own_kind4 hx hby hZ hown hw hml hC a t pq v tn ht h12 hv0 hv1 h0 k vs hl V0 n0 hn X1 e1
    · exact own_kind5 hx hby hZ hown hw hml hC a t pq v tn ht h12 hv0 hv1 h0 k vs hl V0 n0 hn X1 e1
  obtain ⟨fs, hr, hrun, hended, hW, hsame⟩ := X2.leave (v := some (.int n)) (fun h => by rw [Bd.returns] at h; cases h)
  refine ⟨_, _, pre0 _ ?_, hrun, hended, _, _, rfl, ?_, ⟨_, rfl⟩, hW, hsame.mono (by decide) (by decide)⟩
  · refine st1 _ ?_
    refine st2 _ ?_
    exact own_ret X2 hx Bd.returns (hb hby hd2) rfl hr
  · show own_QP Z a k h0 vs tn n0 _ T2.heap _
    rw [e2]
    exact ⟨n, vs', rfl, N2, K2, V2, hres⟩
theorem own_mn18 {lim : Int32} (h : lim.toInt ≤ 18) : own_mn lim 18 = lim := if_neg (by
  have z18 : (18 : Int32).toInt = 18 := by decide
  rw [Int32.lt_iff_toInt_lt, z18]; omega)
theorem own_mn18' {lim : Int32} (h : 18 ≤ lim.toInt) : own_mn lim 18 = 18 := by
  have z18 : (18 : Int32).toInt = 18 := by decide
  by_cases q : (18 : Int32) < lim
  · exact if_pos q
  · have e : own_mn lim 18 = lim := if_neg q
    rw [e]
    apply Int32.toInt_inj.mp
    rw [Int32.lt_iff_toInt_lt, z18] at q
    rw [z18]; omega
theorem own_ones : ∀ (k : Nat) (p lim : Int32) (i : Nat), p.toInt = (i : Int) → i + k = 18 → p.toInt ≤ lim.toInt → own_run (List.replicate k 1) p lim = own_mn lim 18
  | 0, p, lim, i, hp, hk, hl => by
    have z18 : (18 : Int32).toInt = 18 := by decide
    have e : p = 18 := Int32.toInt_inj.mp (by rw [hp, z18]; omega)
    rw [own_mn18' (by omega)]
    exact e
  | k + 1, p, lim, i, hp, hk, hl => by
    have o1 : (1 : Int32).toInt = 1 := by decide
    have e1 : (p + 1).toInt = ((i + 1 : Nat) : Int) := by
      rw [Jvm.Kit.i32_add (by rw [hp, o1]; omega) (by rw [hp, o1]; omega), hp, o1]; omega
    show (if p + 1 ≤ lim then own_run (List.replicate k 1) (p + 1) lim else p) = own_mn lim 18
    by_cases q : p + 1 ≤ lim
    · rw [if_pos q]
      exact own_ones k (p + 1) lim (i + 1) e1 (by omega) (by rw [Int32.le_iff_toInt_le] at q; exact q)
    · rw [if_neg q]
      rw [Int32.le_iff_toInt_le, e1] at q
      rw [own_mn18 (by omega)]
      exact Int32.toInt_inj.mp (by omega)
theorem own_okc1 (vs : List Value) : ∀ (k : Nat) (p : Int32) (i : Nat), p.toInt = (i : Int) → i + k = 18 → (∀ j, i ≤ j → j < 18 → vs.getD j own_d0 = .int 97) → own_okc vs (List.replicate k 1) p
  | 0, p, i, hp, hk, _ => by
    have z18 : (18 : Int32).toInt = 18 := by decide
    exact Int32.toInt_inj.mp (by rw [hp, z18]; omega)
  | k + 1, p, i, hp, hk, hv => by
    have o1 : (1 : Int32).toInt = 1 := by decide
    have e1 : (p + 1).toInt = ((i + 1 : Nat) : Int) := by
      rw [Jvm.Kit.i32_add (by rw [hp, o1]; omega) (by rw [hp, o1]; omega), hp, o1]; omega
    exact ⟨⟨i, hp, by omega, 97, hv i (Nat.le_refl _) (by omega), Or.inr ⟨by decide, by decide⟩⟩, own_okc1 vs k (p + 1) (i + 1) e1 (by omega) (fun j h1 h2 => hv j (by omega) h2)⟩
def own_exp (b1 b2 b3 lim : Int32) : Int32 := if lim < b3 then (if lim < b2 then (if lim < b1 then 0 else b1) else b2) else own_mn lim 18
theorem own_ltp {x y : Int32} (h : x.toInt < y.toInt) : x < y := Int32.lt_iff_toInt_lt.mpr h
theorem own_ltn {x y : Int32} (h : y.toInt ≤ x.toInt) : ¬ x < y := fun z => by
  rw [Int32.lt_iff_toInt_lt] at z
  omega
theorem own_cut {n1 n2 n3 b1 b2 b3 lim fr : Int32} {ns : List Int32} {k i1 i2 i3 : Nat} (h1 : 0 + n1 = b1) (h2 : b1 + n2 = b2) (h3 : b2 + n3 = b3) (q1 : b1.toInt = (i1 : Int)) (q2 : b2.toInt = (i2 : Int)) (q3 : b3.toInt = (i3 : Int)) (l1 : 1 ≤ i1) (l2 : i1 < i2) (l3 : i2 < i3) (l4 : i3 + k = 18) (hlim : fr.toInt ≤ lim.toInt)
    (hf : (fr = 0 ∧ ns = n1 :: n2 :: n3 :: List.replicate k 1) ∨ (fr = b1 ∧ ns = n2 :: n3 :: List.replicate k 1) ∨ (fr = b2 ∧ ns = n3 :: List.replicate k 1) ∨ (fr = b3 ∧ ns = List.replicate k 1)) : own_run ns fr lim = own_exp b1 b2 b3 lim := by
  have r3 : b3.toInt ≤ lim.toInt → own_run (List.replicate k 1) b3 lim = own_mn lim 18 := fun z => own_ones k b3 lim i3 q3 l4 z
  have r2 : b2.toInt ≤ lim.toInt → own_run (n3 :: List.replicate k 1) b2 lim = if b3.toInt ≤ lim.toInt then own_mn lim 18 else b2 := fun z => by
    show (if b2 + n3 ≤ lim then own_run (List.replicate k 1) (b2 + n3) lim else b2) = _
    rw [h3]
    by_cases w : b3 ≤ lim
    · rw [if_pos w, if_pos (Int32.le_iff_toInt_le.mp w), r3 (Int32.le_iff_toInt_le.mp w)]
    · rw [if_neg w, if_neg (fun z => w (Int32.le_iff_toInt_le.mpr z))]
  have r1 : b1.toInt ≤ lim.toInt → own_run (n2 :: n3 :: List.replicate k 1) b1 lim = if b2.toInt ≤ lim.toInt then (if b3.toInt ≤ lim.toInt then own_mn lim 18 else b2) else b1 := fun z => by
    show (if b1 + n2 ≤ lim then own_run (n3 :: List.replicate k 1) (b1 + n2) lim else b1) = _
    rw [h2]
    by_cases w : b2 ≤ lim
    · rw [if_pos w, if_pos (Int32.le_iff_toInt_le.mp w), r2 (Int32.le_iff_toInt_le.mp w)]
    · rw [if_neg w, if_neg (fun z => w (Int32.le_iff_toInt_le.mpr z))]
  have r0 : own_run (n1 :: n2 :: n3 :: List.replicate k 1) 0 lim = if b1.toInt ≤ lim.toInt then (if b2.toInt ≤ lim.toInt then (if b3.toInt ≤ lim.toInt then own_mn lim 18 else b2) else b1) else 0 := by
    show (if 0 + n1 ≤ lim then own_run (n2 :: n3 :: List.replicate k 1) (0 + n1) lim else 0) = _
    rw [h1]
    by_cases w : b1 ≤ lim
    · rw [if_pos w, if_pos (Int32.le_iff_toInt_le.mp w), r1 (Int32.le_iff_toInt_le.mp w)]
    · rw [if_neg w, if_neg (fun z => w (Int32.le_iff_toInt_le.mpr z))]
  unfold own_exp
  rcases hf with ⟨hf, rfl⟩ | ⟨hf, rfl⟩ | ⟨hf, rfl⟩ | ⟨hf, rfl⟩
  · rw [hf, r0]
    by_cases w1 : b1.toInt ≤ lim.toInt
    · rw [if_pos w1]
      by_cases w2 : b2.toInt ≤ lim.toInt
      · rw [if_pos w2]
        by_cases w3 : b3.toInt ≤ lim.toInt
        · rw [if_pos w3, if_neg (show ¬ lim < b3 from own_ltn (by omega))]
        · rw [if_neg w3, if_pos (show lim < b3 from own_ltp (by omega)), if_neg (show ¬ lim < b2 from own_ltn (by omega))]
      · rw [if_neg w2, if_pos (show lim < b3 from own_ltp (by omega)), if_pos (show lim < b2 from own_ltp (by omega)), if_neg (show ¬ lim < b1 from own_ltn (by omega))]
    · rw [if_neg w1, if_pos (show lim < b3 from own_ltp (by omega)), if_pos (show lim < b2 from own_ltp (by omega)), if_pos (show lim < b1 from own_ltp (by omega))]
  · rw [hf] at hlim
    rw [hf, r1 hlim]
    by_cases w2 : b2.toInt ≤ lim.toInt
    · rw [if_pos w2]
      by_cases w3 : b3.toInt ≤ lim.toInt
      · rw [if_pos w3, if_neg (show ¬ lim < b3 from own_ltn (by omega))]
      · rw [if_neg w3, if_pos (show lim < b3 from own_ltp (by omega)), if_neg (show ¬ lim < b2 from own_ltn (by omega))]
    · rw [if_neg w2, if_pos (show lim < b3 from own_ltp (by omega)), if_pos (show lim < b2 from own_ltp (by omega)), if_neg (show ¬ lim < b1 from own_ltn (by omega))]
  · rw [hf] at hlim
    rw [hf, r2 hlim]
    by_cases w3 : b3.toInt ≤ lim.toInt
    · rw [if_pos w3, if_neg (show ¬ lim < b3 from own_ltn (by omega))]
    · rw [if_neg w3, if_pos (show lim < b3 from own_ltp (by omega)), if_neg (show ¬ lim < b2 from own_ltn (by omega))]
  · rw [hf] at hlim
    rw [hf, r3 hlim, if_neg (show ¬ lim < b3 from own_ltn (by omega))]
abbrev own_CL (Z : State) : List own_Call := [(23, 2, own_P5), (29, 2, own_P4), (32, 3, own_P3 Z)]
abbrev own_EL (Z : State) (h : Heap) : own_Env := (own_CL Z, [], [], [], h, 13, 6)
def own_fil (i : Nat) (vs : List Value) : Prop := vs.length = 18 ∧ ∀ j, j < i → vs.getD j own_d0 = .int 97
theorem own_fil1 {i : Nat} {vs : List Value} (h : own_fil i vs) (hi : i < 18) : own_fil (i + 1) (vs.set i (.int (nar .byte 97))) := by
  refine ⟨by rw [List.length_set]; exact h.1, fun j hj => ?_⟩
  by_cases q : i = j
  · subst q
    have e : nar .byte (97 : Int32) = 97 := by decide
    rw [own_at (by rw [h.1]; exact hi), e]
  · rw [own_same q]
    exact h.2 j (by omega)
section own_Law
variable {p : Program} {l : Launch} {e : Env} {s : State} {m : MethodId} {args : Array Value} {below : List Frame} {meth : Method} {c : Code} {Z : State} {aa : Array Value}
theorem own_efL (m : MethodId) (p0 p1 p2 p3 p4 : Int32) : entryFrame m #[(.int p0), (.int p1), (.int p2), (.int p3), (.int p4)] maxLocals = mkF m 0 #[.val (.int p0), .val (.int p1), .val (.int p2), .val (.int p3), .val (.int p4), .unset, .unset, .unset, .unset, .unset, .unset, .unset, .unset] [] := by first | (simp [entryFrame, mkF, argsToLocals, Value.category, maxLocals]; done) | rfl
set_option maxRecDepth 65536 in
set_option maxHeartbeats 4000000 in
theorem own_fill {T : State} (hx : p.tables.exec = Jvm.exec) (hby : c.code = code) (hZ : Z.Warmed39 s.vm) (hown : s.vm.findClass own_LW = some m.cls) (hw : ∀ d ∈ tables_1, d.before aa Z = true) (hml : c.maxLocals = 13) (hC : ∀ q ∈ own_CL Z, own_CallOk l Z aa own_LW room_1 6 q) (p0 p1 p2 p3 p4 : Int32) (h0 : Heap) (n0 : Nat) (Z0 : n0 ≤ h0.size) (X0 : Stand p l e room_1 s m args below meth c T [] 0 0) (e0 : T.heap = h0) :
    ∃ T' locs' h' a k vs, Stand p l e room_1 s m args below meth c T' locs' 1 18 ∧ T'.heap = h' ∧ Fr n0 locs' ∧ n0 ≤ a ∧ Arv Z h' a k .byte (18 : Int32) vs own_d0 ∧ own_fil 18 vs ∧ ∀ t, Steps p.tables e below (T'.setTop (mkF m 106 #[.val (.int p0), .val (.int p1), .val (.int p2), .val (.int p3), .val (.int p4), .unset, .unset, .unset, .unset, .unset, .unset, .unset, .unset] [.ref a])) t → Steps p.tables e below (T.setTop (mkF m 0 #[.val (.int p0), .val (.int p1), .val (.int p2), .val (.int p3), .val (.int p4), .unset, .unset, .unset, .unset, .unset, .unset, .unset, .unset] [])) t := by
  have N2 := Fr.nil n0
  obtain ⟨T1, X1, e1, st1⟩ := own_seg X0 hx hby hZ hown hw own_tb0_ok (E := own_EL Z h0) hml ⟨hC, (fun q hq => by cases hq), (fun q hq => by cases hq), (fun q hq => by cases hq)⟩ (by decide) (by decide) e0 (stop := []) (n := 40) (pc0 := 0) (pc1 := 2) (L0 := #[.val (.int p0), .val (.int p1), .val (.int p2), .val (.int p3), .val (.int p4), .unset, .unset, .unset, .unset, .unset, .unset, .unset, .unset]) (L1 := #[.val (.int p0), .val (.int p1), .val (.int p2), .val (.int p3), .val (.int p4), .unset, .unset, .unset, .unset, .unset, .unset, .unset, .unset]) (st0 := []) (st1 := [.int 18]) (And.intro rfl (And.intro rfl rfl))
  obtain ⟨T2, h2, k2, X2, e2, E2, A2, st2⟩ := newP X1 hx hZ (hw _ (List.mem_of_getElem? (i := 0) rfl)) e1 (g := (mkF m 2 #[.val (.int p0), .val (.int p1), .val (.int p2), .val (.int p3), .val (.int p4), .unset, .unset, .unset, .unset, .unset, .unset, .unset, .unset] [.int (18 : Int32)])) rfl (hb hby at_2) rfl (by decide) (cap := 18) (by decide) (by decide) (by decide) (by decide)
  obtain ⟨a, gr⟩ : ∃ z, z = h0.size := ⟨_, rfl⟩
  rw [← gr] at A2 st2
  have rn : n0 ≤ a := Nat.le_trans Z0 (Nat.le_of_eq gr.symm)
  obtain ⟨vs2, hvs2⟩ : ∃ vs2, vs2 = List.replicate 18 own_d0 := ⟨_, rfl⟩
  have V2 : Arv Z h2 a k2 .byte (18 : Int32) vs2 own_d0 := by
    rw [hvs2]
    exact (Arv.new A2 (by decide)).pad (pad_rep [] own_d0 18)
  have G2 : own_fil 0 vs2 := ⟨by rw [hvs2]; rfl, fun j hj => absurd hj (Nat.not_lt_zero _)⟩
  clear hvs2
  obtain ⟨T3, X3, e3, st3⟩ := own_seg X2 hx hby hZ hown hw own_tb0_ok (E := own_EL Z h2) hml ⟨hC, (fun q hq => by cases hq), (fun q hq => by cases hq), (fun q hq => by cases hq)⟩ (by decide) (by decide) e2 (stop := []) (n := 40) (pc0 := 4) (pc1 := 8) (L0 := #[.val (.int p0), .val (.int p1), .val (.int p2), .val (.int p3), .val (.int p4), .unset, .unset, .unset, .unset, .unset, .unset, .unset, .unset]) (L1 := #[.val (.int p0), .val (.int p1), .val (.int p2), .val (.int p3), .val (.int p4), .unset, .unset, .unset, .unset, .unset, .unset, .unset, .unset]) (st0 := [.ref a]) (st1 := [.int 97, .int 0, .ref a, .ref a]) (And.intro rfl (And.intro rfl rfl))
  obtain ⟨T4, h4, lc4, X4, e4, V4', -, N4, st4⟩ := own_stB X3 hx hZ e3 V2 G2.1 (j := 0) (x := 97) (i := 0) (by decide) (by decide) N2 rn (pc := 8) (L := #[.val (.int p0), .val (.int p1), .val (.int p2), .val (.int p3), .val (.int p4), .unset, .unset, .unset, .unset, .unset, .unset, .unset, .unset]) (rest := [.ref a]) (hb hby at_8)
  have G4' := own_fil1 G2 (by decide)
  obtain ⟨vs4, hv4⟩ : ∃ z, z = vs2.set 0 (.int (nar .byte 97)) := ⟨_, rfl⟩
  have V4 : Arv Z h4 a k2 .byte (18 : Int32) vs4 own_d0 := by rw [hv4]; exact V4'
  have G4 : own_fil 1 vs4 := by rw [hv4]; exact G4'
  clear V4' G4' hv4
  obtain ⟨T5, X5, e5, st5⟩ := own_seg X4 hx hby hZ hown hw own_tb0_ok (E := own_EL Z h4) hml ⟨hC, (fun q hq => by cases hq), (fun q hq => by cases hq), (fun q hq => by cases hq)⟩ (by decide) (by decide) e4 (stop := []) (n := 40) (pc0 := 9) (pc1 := 13) (L0 := #[.val (.int p0), .val (.int p1), .val (.int p2), .val (.int p3), .val (.int p4), .unset, .unset, .unset, .unset, .unset, .unset, .unset, .unset]) (L1 := #[.val (.int p0), .val (.int p1), .val (.int p2), .val (.int p3), .val (.int p4), .unset, .unset, .unset, .unset, .unset, .unset, .unset, .unset]) (st0 := [.ref a]) (st1 := [.int 97, .int 1, .ref a, .ref a]) (And.intro rfl (And.intro rfl rfl))
  obtain ⟨T6, h6, lc6, X6, e6, V6', -, N6, st6⟩ := own_stB X5 hx hZ e5 V4 G4.1 (j := 1) (x := 97) (i := 1) (by decide) (by decide) N4 rn (pc := 13) (L := #[.val (.int p0), .val (.int p1), .val (.int p2), .val (.int p3), .val (.int p4), .unset, .unset, .unset, .unset, .unset, .unset, .unset, .unset]) (rest := [.ref a]) (hb hby at_13)
  have G6' := own_fil1 G4 (by decide)
  obtain ⟨vs6, hv6⟩ : ∃ z, z = vs4.set 1 (.int (nar .byte 97)) := ⟨_, rfl⟩
  have V6 : Arv Z h6 a k2 .byte (18 : Int32) vs6 own_d0 := by rw [hv6]; exact V6'
  have G6 : own_fil 2 vs6 := by rw [hv6]; exact G6'
  clear V6' G6' hv6
  obtain ⟨T7, X7, e7, st7⟩ := own_seg X6 hx hby hZ hown hw own_tb0_ok (E := own_EL Z h6) hml ⟨hC, (fun q hq => by cases hq), (fun q hq => by cases hq), (fun q hq => by cases hq)⟩ (by decide) (by decide) e6 (stop := []) (n := 40) (pc0 := 14) (pc1 := 18) (L0 := #[.val (.int p0), .val (.int p1), .val (.int p2), .val (.int p3), .val (.int p4), .unset, .unset, .unset, .unset, .unset, .unset, .unset, .unset]) (L1 := #[.val (.int p0), .val (.int p1), .val (.int p2), .val (.int p3), .val (.int p4), .unset, .unset, .unset, .unset, .unset, .unset, .unset, .unset]) (st0 := [.ref a]) (st1 := [.int 97, .int 2, .ref a, .ref a]) (And.intro rfl (And.intro rfl rfl))
  obtain ⟨T8, h8, lc8, X8, e8, V8', -, N8, st8⟩ := own_stB X7 hx hZ e7 V6 G6.1 (j := 2) (x := 97) (i := 2) (by decide) (by decide) N6 rn (pc := 18) (L := #[.val (.int p0), .val (.int p1), .val (.int p2), .val (.int p3), .val (.int p4), .unset, .unset, .unset, .unset, .unset, .unset, .unset, .unset]) (rest := [.ref a]) (hb hby at_18)
  have G8' := own_fil1 G6 (by decide)
  obtain ⟨vs8, hv8⟩ : ∃ z, z = vs6.set 2 (.int (nar .byte 97)) := ⟨_, rfl⟩
  have V8 : Arv Z h8 a k2 .byte (18 : Int32) vs8 own_d0 := by rw [hv8]; exact V8'
  have G8 : own_fil 3 vs8 := by rw [hv8]; exact G8'
  clear V8' G8' hv8
  obtain ⟨T9, X9, e9, st9⟩ := own_seg X8 hx hby hZ hown hw own_tb0_ok (E := own_EL Z h8) hml ⟨hC, (fun q hq => by cases hq), (fun q hq => by cases hq), (fun q hq => by cases hq)⟩ (by decide) (by decide) e8 (stop := []) (n := 40) (pc0 := 19) (pc1 := 23) (L0 := #[.val (.int p0), .val (.int p1), .val (.int p2), .val (.int p3), .val (.int p4), .unset, .unset, .unset, .unset, .unset, .unset, .unset, .unset]) (L1 := #[.val (.int p0), .val (.int p1), .val (.int p2), .val (.int p3), .val (.int p4), .unset, .unset, .unset, .unset, .unset, .unset, .unset, .unset]) (st0 := [.ref a]) (st1 := [.int 97, .int 3, .ref a, .ref a]) (And.intro rfl (And.intro rfl rfl))
  obtain ⟨T10, h10, lc10, X10, e10, V10', -, N10, st10⟩ := own_stB X9 hx hZ e9 V8 G8.1 (j := 3) (x := 97) (i := 3) (by decide) (by decide) N8 rn (pc := 23) (L := #[.val (.int p0), .val (.int p1), .val (.int p2), .val (.int p3), .val (.int p4), .unset, .unset, .unset, .unset, .unset, .unset, .unset, .unset]) (rest := [.ref a]) (hb hby at_23)
  have G10' := own_fil1 G8 (by decide)
  obtain ⟨vs10, hv10⟩ : ∃ z, z = vs8.set 3 (.int (nar .byte 97)) := ⟨_, rfl⟩
  have V10 : Arv Z h10 a k2 .byte (18 : Int32) vs10 own_d0 := by rw [hv10]; exact V10'
  have G10 : own_fil 4 vs10 := by rw [hv10]; exact G10'
  clear V10' G10' hv10
  obtain ⟨T11, X11, e11, st11⟩ := own_seg X10 hx hby hZ hown hw own_tb0_ok (E := own_EL Z h10) hml ⟨hC, (fun q hq => by cases hq), (fun q hq => by cases hq), (fun q hq => by cases hq)⟩ (by decide) (by decide) e10 (stop := []) (n := 40) (pc0 := 24) (pc1 := 28) (L0 := #[.val (.int p0), .val (.int p1), .val (.int p2), .val (.int p3), .val (.int p4), .unset, .unset, .unset, .unset, .unset, .unset, .unset, .unset]) (L1 := #[.val (.int p0), .val (.int p1), .val (.int p2), .val (.int p3), .val (.int p4), .unset, .unset, .unset, .unset, .unset, .unset, .unset, .unset]) (st0 := [.ref a]) (st1 := [.int 97, .int 4, .ref a, .ref a]) (And.intro rfl (And.intro rfl rfl))
  obtain ⟨T12, h12, lc12, X12, e12, V12', -, N12, st12⟩ := own_stB X11 hx hZ e11 V10 G10.1 (j := 4) (x := 97) (i := 4) (by decide) (by decide) N10 rn (pc := 28) (L := #[.val (.int p0), .val (.int p1), .val (.int p2), .val (.int p3), .val (.int p4), .unset, .unset, .unset, .unset, .unset, .unset, .unset, .unset]) (rest := [.ref a]) (hb hby at_28)
  have G12' := own_fil1 G10 (by decide)
  obtain ⟨vs12, hv12⟩ : ∃ z, z = vs10.set 4 (.int (nar .byte 97)) := ⟨_, rfl⟩
  have V12 : Arv Z h12 a k2 .byte (18 : Int32) vs12 own_d0 := by rw [hv12]; exact V12'
  have G12 : own_fil 5 vs12 := by rw [hv12]; exact G12'
  clear V12' G12' hv12
  obtain ⟨T13, X13, e13, st13⟩ := own_seg X12 hx hby hZ hown hw own_tb0_ok (E := own_EL Z h12) hml ⟨hC, (fun q hq => by cases hq), (fun q hq => by cases hq), (fun q hq => by cases hq)⟩ (by decide) (by decide) e12 (stop := []) (n := 40) (pc0 := 29) (pc1 := 33) (L0 := #[.val (.int p0), .val (.int p1), .val (.int p2), .val (.int p3), .val (.int p4), .unset, .unset, .unset, .unset, .unset, .unset, .unset, .unset]) (L1 := #[.val (.int p0), .val (.int p1), .val (.int p2), .val (.int p3), .val (.int p4), .unset, .unset, .unset, .unset, .unset, .unset, .unset, .unset]) (st0 := [.ref a]) (st1 := [.int 97, .int 5, .ref a, .ref a]) (And.intro rfl (And.intro rfl rfl))
  obtain ⟨T14, h14, lc14, X14, e14, V14', -, N14, st14⟩ := own_stB X13 hx hZ e13 V12 G12.1 (j := 5) (x := 97) (i := 5) (by decide) (by decide) N12 rn (pc := 33) (L := #[.val (.int p0), .val (.int p1), .val (.int p2), .val (.int p3), .val (.int p4), .unset, .unset, .unset, .unset, .unset, .unset, .unset, .unset]) (rest := [.ref a]) (hb hby at_33)
  have G14' := own_fil1 G12 (by decide)
  obtain ⟨vs14, hv14⟩ : ∃ z, z = vs12.set 5 (.int (nar .byte 97)) := ⟨_, rfl⟩
  have V14 : Arv Z h14 a k2 .byte (18 : Int32) vs14 own_d0 := by rw [hv14]; exact V14'
  have G14 : own_fil 6 vs14 := by rw [hv14]; exact G14'
  clear V14' G14' hv14
  obtain ⟨T15, X15, e15, st15⟩ := own_seg X14 hx hby hZ hown hw own_tb0_ok (E := own_EL Z h14) hml ⟨hC, (fun q hq => by cases hq), (fun q hq => by cases hq), (fun q hq => by cases hq)⟩ (by decide) (by decide) e14 (stop := []) (n := 40) (pc0 := 34) (pc1 := 39) (L0 := #[.val (.int p0), .val (.int p1), .val (.int p2), .val (.int p3), .val (.int p4), .unset, .unset, .unset, .unset, .unset, .unset, .unset, .unset]) (L1 := #[.val (.int p0), .val (.int p1), .val (.int p2), .val (.int p3), .val (.int p4), .unset, .unset, .unset, .unset, .unset, .unset, .unset, .unset]) (st0 := [.ref a]) (st1 := [.int 97, .int 6, .ref a, .ref a]) (And.intro rfl (And.intro rfl rfl))
  obtain ⟨T16, h16, lc16, X16, e16, V16', -, N16, st16⟩ := own_stB X15 hx hZ e15 V14 G14.1 (j := 6) (x := 97) (i := 6) (by decide) (by decide) N14 rn (pc := 39) (L := #[.val (.int p0), .val (.int p1), .val (.int p2), .val (.int p3), .val (.int p4), .unset, .unset, .unset, .unset, .unset, .unset, .unset, .unset]) (rest := [.ref a]) (hb hby at_39)
  have G16' := own_fil1 G14 (by decide)
  obtain ⟨vs16, hv16⟩ : ∃ z, z = vs14.set 6 (.int (nar .byte 97)) := ⟨_, rfl⟩
  have V16 : Arv Z h16 a k2 .byte (18 : Int32) vs16 own_d0 := by rw [hv16]; exact V16'
  have G16 : own_fil 7 vs16 := by rw [hv16]; exact G16'
  clear V16' G16' hv16
  obtain ⟨T17, X17, e17, st17⟩ := own_seg X16 hx hby hZ hown hw own_tb0_ok (E := own_EL Z h16) hml ⟨hC, (fun q hq => by cases hq), (fun q hq => by cases hq), (fun q hq => by cases hq)⟩ (by decide) (by decide) e16 (stop := []) (n := 40) (pc0 := 40) (pc1 := 45) (L0 := #[.val (.int p0), .val (.int p1), .val (.int p2), .val (.int p3), .val (.int p4), .unset, .unset, .unset, .unset, .unset, .unset, .unset, .unset]) (L1 := #[.val (.int p0), .val (.int p1), .val (.int p2), .val (.int p3), .val (.int p4), .unset, .unset, .unset, .unset, .unset, .unset, .unset, .unset]) (st0 := [.ref a]) (st1 := [.int 97, .int 7, .ref a, .ref a]) (And.intro rfl (And.intro rfl rfl))
  obtain ⟨T18, h18, lc18, X18, e18, V18', -, N18, st18⟩ := own_stB X17 hx hZ e17 V16 G16.1 (j := 7) (x := 97) (i := 7) (by decide) (by decide) N16 rn (pc := 45) (L := #[.val (.int p0), .val (.int p1), .val (.int p2), .val (.int p3), .val (.int p4), .unset, .unset, .unset, .unset, .unset, .unset, .unset, .unset]) (rest := [.ref a]) (hb hby at_45)
  have G18' := own_fil1 G16 (by decide)
  obtain ⟨vs18, hv18⟩ : ∃ z, z = vs16.set 7 (.int (nar .byte 97)) := ⟨_, rfl⟩
  have V18 : Arv Z h18 a k2 .byte (18 : Int32) vs18 own_d0 := by rw [hv18]; exact V18'
  have G18 : own_fil 8 vs18 := by rw [hv18]; exact G18'
  clear V18' G18' hv18
  obtain ⟨T19, X19, e19, st19⟩ := own_seg X18 hx hby hZ hown hw own_tb0_ok (E := own_EL Z h18) hml ⟨hC, (fun q hq => by cases hq), (fun q hq => by cases hq), (fun q hq => by cases hq)⟩ (by decide) (by decide) e18 (stop := []) (n := 40) (pc0 := 46) (pc1 := 51) (L0 := #[.val (.int p0), .val (.int p1), .val (.int p2), .val (.int p3), .val (.int p4), .unset, .unset, .unset, .unset, .unset, .unset, .unset, .unset]) (L1 := #[.val (.int p0), .val (.int p1), .val (.int p2), .val (.int p3), .val (.int p4), .unset, .unset, .unset, .unset, .unset, .unset, .unset, .unset]) (st0 := [.ref a]) (st1 := [.int 97, .int 8, .ref a, .ref a]) (And.intro rfl (And.intro rfl rfl))
  obtain ⟨T20, h20, lc20, X20, e20, V20', -, N20, st20⟩ := own_stB X19 hx hZ e19 V18 G18.1 (j := 8) (x := 97) (i := 8) (by decide) (by decide) N18 rn (pc := 51) (L := #[.val (.int p0), .val (.int p1), .val (.int p2), .val (.int p3), .val (.int p4), .unset, .unset, .unset, .unset, .unset, .unset, .unset, .unset]) (rest := [.ref a]) (hb hby at_51)
  have G20' := own_fil1 G18 (by decide)
  obtain ⟨vs20, hv20⟩ : ∃ z, z = vs18.set 8 (.int (nar .byte 97)) := ⟨_, rfl⟩
  have V20 : Arv Z h20 a k2 .byte (18 : Int32) vs20 own_d0 := by rw [hv20]; exact V20'
  have G20 : own_fil 9 vs20 := by rw [hv20]; exact G20'
  clear V20' G20' hv20
  obtain ⟨T21, X21, e21, st21⟩ := own_seg X20 hx hby hZ hown hw own_tb0_ok (E := own_EL Z h20) hml ⟨hC, (fun q hq => by cases hq), (fun q hq => by cases hq), (fun q hq => by cases hq)⟩ (by decide) (by decide) e20 (stop := []) (n := 40) (pc0 := 52) (pc1 := 57) (L0 := #[.val (.int p0), .val (.int p1), .val (.int p2), .val (.int p3), .val (.int p4), .unset, .unset, .unset, .unset, .unset, .unset, .unset, .unset]) (L1 := #[.val (.int p0), .val (.int p1), .val (.int p2), .val (.int p3), .val (.int p4), .unset, .unset, .unset, .unset, .unset, .unset, .unset, .unset]) (st0 := [.ref a]) (st1 := [.int 97, .int 9, .ref a, .ref a]) (And.intro rfl (And.intro rfl rfl))
  obtain ⟨T22, h22, lc22, X22, e22, V22', -, N22, st22⟩ := own_stB X21 hx hZ e21 V20 G20.1 (j := 9) (x := 97) (i := 9) (by decide) (by decide) N20 rn (pc := 57) (L := #[.val (.int p0), .val (.int p1), .val (.int p2), .val (.int p3), .val (.int p4), .unset, .unset, .unset, .unset, .unset, .unset, .unset, .unset]) (rest := [.ref a]) (hb hby at_57)
  have G22' := own_fil1 G20 (by decide)
  obtain ⟨vs22, hv22⟩ : ∃ z, z = vs20.set 9 (.int (nar .byte 97)) := ⟨_, rfl⟩
  have V22 : Arv Z h22 a k2 .byte (18 : Int32) vs22 own_d0 := by rw [hv22]; exact V22'
  have G22 : own_fil 10 vs22 := by rw [hv22]; exact G22'
  clear V22' G22' hv22
  obtain ⟨T23, X23, e23, st23⟩ := own_seg X22 hx hby hZ hown hw own_tb0_ok (E := own_EL Z h22) hml ⟨hC, (fun q hq => by cases hq), (fun q hq => by cases hq), (fun q hq => by cases hq)⟩ (by decide) (by decide) e22 (stop := []) (n := 40) (pc0 := 58) (pc1 := 63) (L0 := #[.val (.int p0), .val (.int p1), .val (.int p2), .val (.int p3), .val (.int p4), .unset, .unset, .unset, .unset, .unset, .unset, .unset, .unset]) (L1 := #[.val (.int p0), .val (.int p1), .val (.int p2), .val (.int p3), .val (.int p4), .unset, .unset, .unset, .unset, .unset, .unset, .unset, .unset]) (st0 := [.ref a]) (st1 := [.int 97, .int 10, .ref a, .ref a]) (And.intro rfl (And.intro rfl rfl))
  obtain ⟨T24, h24, lc24, X24, e24, V24', -, N24, st24⟩ := own_stB X23 hx hZ e23 V22 G22.1 (j := 10) (x := 97) (i := 10) (by decide) (by decide) N22 rn (pc := 63) (L := #[.val (.int p0), .val (.int p1), .val (.int p2), .val (.int p3), .val (.int p4), .unset, .unset, .unset, .unset, .unset, .unset, .unset, .unset]) (rest := [.ref a]) (hb hby at_63)
  have G24' := own_fil1 G22 (by decide)
  obtain ⟨vs24, hv24⟩ : ∃ z, z = vs22.set 10 (.int (nar .byte 97)) := ⟨_, rfl⟩
  have V24 : Arv Z h24 a k2 .byte (18 : Int32) vs24 own_d0 := by rw [hv24]; exact V24'
  have G24 : own_fil 11 vs24 := by rw [hv24]; exact G24'
  clear V24' G24' hv24
  obtain ⟨T25, X25, e25, st25⟩ := own_seg X24 hx hby hZ hown hw own_tb0_ok (E := own_EL Z h24) hml ⟨hC, (fun q hq => by cases hq), (fun q hq => by cases hq), (fun q hq => by cases hq)⟩ (by decide) (by decide) e24 (stop := []) (n := 40) (pc0 := 64) (pc1 := 69) (L0 := #[.val (.int p0), .val (.int p1), .val (.int p2), .val (.int p3), .val (.int p4), .unset, .unset, .unset, .unset, .unset, .unset, .unset, .unset]) (L1 := #[.val (.int p0), .val (.int p1), .val (.int p2), .val (.int p3), .val (.int p4), .unset, .unset, .unset, .unset, .unset, .unset, .unset, .unset]) (st0 := [.ref a]) (st1 := [.int 97, .int 11, .ref a, .ref a]) (And.intro rfl (And.intro rfl rfl))
  obtain ⟨T26, h26, lc26, X26, e26, V26', -, N26, st26⟩ := own_stB X25 hx hZ e25 V24 G24.1 (j := 11) (x := 97) (i := 11) (by decide) (by decide) N24 rn (pc := 69) (L := #[.val (.int p0), .val (.int p1), .val (.int p2), .val (.int p3), .val (.int p4), .unset, .unset, .unset, .unset, .unset, .unset, .unset, .unset]) (rest := [.ref a]) (hb hby at_69)
  have G26' := own_fil1 G24 (by decide)
  obtain ⟨vs26, hv26⟩ : ∃ z, z = vs24.set 11 (.int (nar .byte 97)) := ⟨_, rfl⟩
  have V26 : Arv Z h26 a k2 .byte (18 : Int32) vs26 own_d0 := by rw [hv26]; exact V26'
  have G26 : own_fil 12 vs26 := by rw [hv26]; exact G26'
  clear V26' G26' hv26
  obtain ⟨T27, X27, e27, st27⟩ := own_seg X26 hx hby hZ hown hw own_tb0_ok (E := own_EL Z h26) hml ⟨hC, (fun q hq => by cases hq), (fun q hq => by cases hq), (fun q hq => by cases hq)⟩ (by decide) (by decide) e26 (stop := []) (n := 40) (pc0 := 70) (pc1 := 75) (L0 := #[.val (.int p0), .val (.int p1), .val (.int p2), .val (.int p3), .val (.int p4), .unset, .unset, .unset, .unset, .unset, .unset, .unset, .unset]) (L1 := #[.val (.int p0), .val (.int p1), .val (.int p2), .val (.int p3), .val (.int p4), .unset, .unset, .unset, .unset, .unset, .unset, .unset, .unset]) (st0 := [.ref a]) (st1 := [.int 97, .int 12, .ref a, .ref a]) (And.intro rfl (And.intro rfl rfl))
  obtain ⟨T28, h28, lc28, X28, e28, V28', -, N28, st28⟩ := own_stB X27 hx hZ e27 V26 G26.1 (j := 12) (x := 97) (i := 12) (by decide) (by decide) N26 rn (pc := 75) (L := #[.val (.int p0), .val (.int p1), .val (.int p2), .val (.int p3), .val (.int p4), .unset, .unset, .unset, .unset, .unset, .unset, .unset, .unset]) (rest := [.ref a]) (hb hby at_75)
  have G28' := own_fil1 G26 (by decide)
  obtain ⟨vs28, hv28⟩ : ∃ z, z = vs26.set 12 (.int (nar .byte 97)) := ⟨_, rfl⟩
  have V28 : Arv Z h28 a k2 .byte (18 : Int32) vs28 own_d0 := by rw [hv28]; exact V28'
  have G28 : own_fil 13 vs28 := by rw [hv28]; exact G28'
  clear V28' G28' hv28
  obtain ⟨T29, X29, e29, st29⟩ := own_seg X28 hx hby hZ hown hw own_tb0_ok (E := own_EL Z h28) hml ⟨hC, (fun q hq => by cases hq), (fun q hq => by cases hq), (fun q hq => by cases hq)⟩ (by decide) (by decide) e28 (stop := []) (n := 40) (pc0 := 76) (pc1 := 81) (L0 := #[.val (.int p0), .val (.int p1), .val (.int p2), .val (.int p3), .val (.int p4), .unset, .unset, .unset, .unset, .unset, .unset, .unset, .unset]) (L1 := #[.val (.int p0), .val (.int p1), .val (.int p2), .val (.int p3), .val (.int p4), .unset, .unset, .unset, .unset, .unset, .unset, .unset, .unset]) (st0 := [.ref a]) (st1 := [.int 97, .int 13, .ref a, .ref a]) (And.intro rfl (And.intro rfl rfl))
  obtain ⟨T30, h30, lc30, X30, e30, V30', -, N30, st30⟩ := own_stB X29 hx hZ e29 V28 G28.1 (j := 13) (x := 97) (i := 13) (by decide) (by decide) N28 rn (pc := 81) (L := #[.val (.int p0), .val (.int p1), .val (.int p2), .val (.int p3), .val (.int p4), .unset, .unset, .unset, .unset, .unset, .unset, .unset, .unset]) (rest := [.ref a]) (hb hby at_81)
  have G30' := own_fil1 G28 (by decide)
  obtain ⟨vs30, hv30⟩ : ∃ z, z = vs28.set 13 (.int (nar .byte 97)) := ⟨_, rfl⟩
  have V30 : Arv Z h30 a k2 .byte (18 : Int32) vs30 own_d0 := by rw [hv30]; exact V30'
  have G30 : own_fil 14 vs30 := by rw [hv30]; exact G30'
  clear V30' G30' hv30
  obtain ⟨T31, X31, e31, st31⟩ := own_seg X30 hx hby hZ hown hw own_tb0_ok (E := own_EL Z h30) hml ⟨hC, (fun q hq => by cases hq), (fun q hq => by cases hq), (fun q hq => by cases hq)⟩ (by decide) (by decide) e30 (stop := []) (n := 40) (pc0 := 82) (pc1 := 87) (L0 := #[.val (.int p0), .val (.int p1), .val (.int p2), .val (.int p3), .val (.int p4), .unset, .unset, .unset, .unset, .unset, .unset, .unset, .unset]) (L1 := #[.val (.int p0), .val (.int p1), .val (.int p2), .val (.int p3), .val (.int p4), .unset, .unset, .unset, .unset, .unset, .unset, .unset, .unset]) (st0 := [.ref a]) (st1 := [.int 97, .int 14, .ref a, .ref a]) (And.intro rfl (And.intro rfl rfl))
  obtain ⟨T32, h32, lc32, X32, e32, V32', -, N32, st32⟩ := own_stB X31 hx hZ e31 V30 G30.1 (j := 14) (x := 97) (i := 14) (by decide) (by decide) N30 rn (pc := 87) (L := #[.val (.int p0), .val (.int p1), .val (.int p2), .val (.int p3), .val (.int p4), .unset, .unset, .unset, .unset, .unset, .unset, .unset, .unset]) (rest := [.ref a]) (hb hby at_87)
  have G32' := own_fil1 G30 (by decide)
  obtain ⟨vs32, hv32⟩ : ∃ z, z = vs30.set 14 (.int (nar .byte 97)) := ⟨_, rfl⟩
  have V32 : Arv Z h32 a k2 .byte (18 : Int32) vs32 own_d0 := by rw [hv32]; exact V32'
  have G32 : own_fil 15 vs32 := by rw [hv32]; exact G32'
  clear V32' G32' hv32
  obtain ⟨T33, X33, e33, st33⟩ := own_seg X32 hx hby hZ hown hw own_tb0_ok (E := own_EL Z h32) hml ⟨hC, (fun q hq => by cases hq), (fun q hq => by cases hq), (fun q hq => by cases hq)⟩ (by decide) (by decide) e32 (stop := []) (n := 40) (pc0 := 88) (pc1 := 93) (L0 := #[.val (.int p0), .val (.int p1), .val (.int p2), .val (.int p3), .val (.int p4), .unset, .unset, .unset, .unset, .unset, .unset, .unset, .unset]) (L1 := #[.val (.int p0), .val (.int p1), .val (.int p2), .val (.int p3), .val (.int p4), .unset, .unset, .unset, .unset, .unset, .unset, .unset, .unset]) (st0 := [.ref a]) (st1 := [.int 97, .int 15, .ref a, .ref a]) (And.intro rfl (And.intro rfl rfl))
  obtain ⟨T34, h34, lc34, X34, e34, V34', -, N34, st34⟩ := own_stB X33 hx hZ e33 V32 G32.1 (j := 15) (x := 97) (i := 15) (by decide) (by decide) N32 rn (pc := 93) (L := #[.val (.int p0), .val (.int p1), .val (.int p2), .val (.int p3), .val (.int p4), .unset, .unset, .unset, .unset, .unset, .unset, .unset, .unset]) (rest := [.ref a]) (hb hby at_93)
  have G34' := own_fil1 G32 (by decide)
  obtain ⟨vs34, hv34⟩ : ∃ z, z = vs32.set 15 (.int (nar .byte 97)) := ⟨_, rfl⟩
  have V34 : Arv Z h34 a k2 .byte (18 : Int32) vs34 own_d0 := by rw [hv34]; exact V34'
  have G34 : own_fil 16 vs34 := by rw [hv34]; exact G34'
  clear V34' G34' hv34
  obtain ⟨T35, X35, e35, st35⟩ := own_seg X34 hx hby hZ hown hw own_tb0_ok (E := own_EL Z h34) hml ⟨hC, (fun q hq => by cases hq), (fun q hq => by cases hq), (fun q hq => by cases hq)⟩ (by decide) (by decide) e34 (stop := []) (n := 40) (pc0 := 94) (pc1 := 99) (L0 := #[.val (.int p0), .val (.int p1), .val (.int p2), .val (.int p3), .val (.int p4), .unset, .unset, .unset, .unset, .unset, .unset, .unset, .unset]) (L1 := #[.val (.int p0), .val (.int p1), .val (.int p2), .val (.int p3), .val (.int p4), .unset, .unset, .unset, .unset, .unset, .unset, .unset, .unset]) (st0 := [.ref a]) (st1 := [.int 97, .int 16, .ref a, .ref a]) (And.intro rfl (And.intro rfl rfl))
  obtain ⟨T36, h36, lc36, X36, e36, V36', -, N36, st36⟩ := own_stB X35 hx hZ e35 V34 G34.1 (j := 16) (x := 97) (i := 16) (by decide) (by decide) N34 rn (pc := 99) (L := #[.val (.int p0), .val (.int p1), .val (.int p2), .val (.int p3), .val (.int p4), .unset, .unset, .unset, .unset, .unset, .unset, .unset, .unset]) (rest := [.ref a]) (hb hby at_99)
  have G36' := own_fil1 G34 (by decide)
  obtain ⟨vs36, hv36⟩ : ∃ z, z = vs34.set 16 (.int (nar .byte 97)) := ⟨_, rfl⟩
  have V36 : Arv Z h36 a k2 .byte (18 : Int32) vs36 own_d0 := by rw [hv36]; exact V36'
  have G36 : own_fil 17 vs36 := by rw [hv36]; exact G36'
  clear V36' G36' hv36
  obtain ⟨T37, X37, e37, st37⟩ := own_seg X36 hx hby hZ hown hw own_tb0_ok (E := own_EL Z h36) hml ⟨hC, (fun q hq => by cases hq), (fun q hq => by cases hq), (fun q hq => by cases hq)⟩ (by decide) (by decide) e36 (stop := []) (n := 40) (pc0 := 100) (pc1 := 105) (L0 := #[.val (.int p0), .val (.int p1), .val (.int p2), .val (.int p3), .val (.int p4), .unset, .unset, .unset, .unset, .unset, .unset, .unset, .unset]) (L1 := #[.val (.int p0), .val (.int p1), .val (.int p2), .val (.int p3), .val (.int p4), .unset, .unset, .unset, .unset, .unset, .unset, .unset, .unset]) (st0 := [.ref a]) (st1 := [.int 97, .int 17, .ref a, .ref a]) (And.intro rfl (And.intro rfl rfl))
  obtain ⟨T38, h38, lc38, X38, e38, V38', -, N38, st38⟩ := own_stB X37 hx hZ e37 V36 G36.1 (j := 17) (x := 97) (i := 17) (by decide) (by decide) N36 rn (pc := 105) (L := #[.val (.int p0), .val (.int p1), .val (.int p2), .val (.int p3), .val (.int p4), .unset, .unset, .unset, .unset, .unset, .unset, .unset, .unset]) (rest := [.ref a]) (hb hby at_105)
  have G38' := own_fil1 G36 (by decide)
  obtain ⟨vs38, hv38⟩ : ∃ z, z = vs36.set 17 (.int (nar .byte 97)) := ⟨_, rfl⟩
  have V38 : Arv Z h38 a k2 .byte (18 : Int32) vs38 own_d0 := by rw [hv38]; exact V38'
  have G38 : own_fil 18 vs38 := by rw [hv38]; exact G38'
  clear V38' G38' hv38
  refine ⟨T38, _, h38, a, k2, vs38, X38, e38, N38, rn, V38, G38, fun t z => ?_⟩
  refine st1 _ ?_
  refine st2 _ ?_
  refine st3 _ ?_
  refine st4 _ ?_
  refine st5 _ ?_
  refine st6 _ ?_
  refine st7 _ ?_
  refine st8 _ ?_
  refine st9 _ ?_
  refine st10 _ ?_
  refine st11 _ ?_
  refine st12 _ ?_
  refine st13 _ ?_
  refine st14 _ ?_
  refine st15 _ ?_
  refine st16 _ ?_
  refine st17 _ ?_
  refine st18 _ ?_
  refine st19 _ ?_
  refine st20 _ ?_
  refine st21 _ ?_
  refine st22 _ ?_
  refine st23 _ ?_
  refine st24 _ ?_
  refine st25 _ ?_
  refine st26 _ ?_
  refine st27 _ ?_
  refine st28 _ ?_
  refine st29 _ ?_
  refine st30 _ ?_
  refine st31 _ ?_
  refine st32 _ ?_
  refine st33 _ ?_
  refine st34 _ ?_
  refine st35 _ ?_
  refine st36 _ ?_
  refine st37 _ ?_
  refine st38 _ ?_
  exact z
end own_Law
abbrev own_QL : Nat → Array Slot → List Value → Prop := own_retQ [280] .boolean (.int 1)
theorem own_t261 (Z : State) (p0 p1 p2 p3 p4 : Int32) (a : Addr) (b1 b2 b3 sel fr lim ex : Int32) (h : Heap) (hP : own_P3 Z h [.ref a, .int fr, .int lim] (.int ex)) : own_wp [] own_tb0 (own_EL Z h) own_QL 40 261 #[.val (.int p0), .val (.int p1), .val (.int p2), .val (.int p3), .val (.int p4), .val (.ref a), .val (.int b1), .val (.int b2), .val (.int b3), .val (.int sel), .val (.int fr), .val (.int lim), .val (.int ex)] [] := by
  refine Exists.intro (.int ex) (And.intro hP (And.intro rfl (And.intro (Nat.le_of_ble_eq_true rfl) (And.intro rfl ?_))))
  refine And.intro (fun q => absurd rfl q) (fun _ => ?_)
  exact And.intro rfl rfl
theorem own_t211 (Z : State) (p0 p1 p2 p3 p4 : Int32) (a : Addr) (b1 b2 b3 sel fr lim : Int32) (h : Heap) (hP : own_P3 Z h [.ref a, .int fr, .int lim] (.int (own_exp b1 b2 b3 lim))) : own_wp [] own_tb0 (own_EL Z h) own_QL 80 211 #[.val (.int p0), .val (.int p1), .val (.int p2), .val (.int p3), .val (.int p4), .val (.ref a), .val (.int b1), .val (.int b2), .val (.int b3), .val (.int sel), .val (.int fr), .val (.int lim), .unset] [] := by
  obtain ⟨ex, hex⟩ : ∃ ex, ex = own_exp b1 b2 b3 lim := ⟨_, rfl⟩
  rw [← hex] at hP
  have g := own_t261 Z p0 p1 p2 p3 p4 a b1 b2 b3 sel fr lim ex h hP
  unfold own_exp at hex
  refine own_join (stop := [261]) (n1 := 40) (n2 := 40) ?_
  refine And.intro (fun q1 => ?_) (fun q1 => ?_)
  · rw [if_pos (show lim < b3 from q1)] at hex
    refine And.intro (fun q2 => ?_) (fun q2 => ?_)
    · rw [if_pos (show lim < b2 from q2)] at hex
      refine And.intro (fun q3 => ?_) (fun q3 => ?_)
      · rw [if_pos (show lim < b1 from q3)] at hex
        subst hex
        exact And.intro trivial g
      · rw [if_neg (show ¬ lim < b1 from q3)] at hex
        subst hex
        exact And.intro trivial g
    · rw [if_neg (show ¬ lim < b2 from q2)] at hex
      subst hex
      exact And.intro trivial g
  · rw [if_neg (show ¬ lim < b3 from q1)] at hex
    subst hex
    refine Exists.intro (.int (own_mn lim 18)) (And.intro ⟨_, _, rfl, rfl⟩ (And.intro rfl (And.intro (Nat.le_of_ble_eq_true rfl) (And.intro rfl ?_))))
    exact And.intro trivial g
theorem own_lim1 (fr p4 : Int32) : fr.toInt ≤ (own_mxI fr p4).toInt := by
  by_cases q : fr < p4
  · have e : own_mxI fr p4 = p4 := if_pos q
    rw [e]
    rw [Int32.lt_iff_toInt_lt] at q
    omega
  · have e : own_mxI fr p4 = fr := if_neg q
    rw [e]
    exact Int.le_refl _
theorem own_lim2 (fr p4 : Int32) (h0 : 0 ≤ fr.toInt) (h1 : fr.toInt ≤ 18) : fr.toInt ≤ (fr + (p4 &&& 31)).toInt := by
  have m1 : (p4 &&& 31).toInt = p4.toInt % 2 ^ 5 := Jvm.Kit.i32_mask p4 31 (k := 5) (by decide) (by decide)
  rw [Jvm.Kit.i32_add (by omega) (by omega)]
  omega
theorem own_t183 (Z : State) (p0 p1 p2 p3 p4 : Int32) (a : Addr) (b1 b2 b3 sel fr : Int32) (h : Heap) (f0 : 0 ≤ fr.toInt) (f1 : fr.toInt ≤ 18) (hP : ∀ lim : Int32, fr.toInt ≤ lim.toInt → own_P3 Z h [.ref a, .int fr, .int lim] (.int (own_exp b1 b2 b3 lim))) : own_wp [] own_tb0 (own_EL Z h) own_QL 110 183 #[.val (.int p0), .val (.int p1), .val (.int p2), .val (.int p3), .val (.int p4), .val (.ref a), .val (.int b1), .val (.int b2), .val (.int b3), .val (.int sel), .val (.int fr), .unset, .unset] [] := by
  have g1 := own_t211 Z p0 p1 p2 p3 p4 a b1 b2 b3 sel fr _ h (hP _ (own_lim1 fr p4))
  have g2 := own_t211 Z p0 p1 p2 p3 p4 a b1 b2 b3 sel fr _ h (hP _ (own_lim2 fr p4 f0 f1))
  refine own_join (stop := [211]) (n1 := 30) (n2 := 80) ?_
  refine And.intro (fun _ => ?_) (fun _ => ?_)
  · exact And.intro trivial g2
  · refine Exists.intro (.int (own_mxI fr p4)) (And.intro ⟨_, _, rfl, rfl⟩ (And.intro rfl (And.intro (Nat.le_of_ble_eq_true rfl) (And.intro rfl ?_))))
    exact And.intro trivial g1
theorem own_t143 (Z : State) (p0 p1 p2 p3 p4 : Int32) (a : Addr) (b1 b2 b3 : Int32) (h : Heap) (hP : ∀ fr : Int32, (fr = 0 ∨ fr = b1 ∨ fr = b2 ∨ fr = b3) → (0 ≤ fr.toInt ∧ fr.toInt ≤ 18) ∧ ∀ lim : Int32, fr.toInt ≤ lim.toInt → own_P3 Z h [.ref a, .int fr, .int lim] (.int (own_exp b1 b2 b3 lim))) : own_wp [] own_tb0 (own_EL Z h) own_QL 150 143 #[.val (.int p0), .val (.int p1), .val (.int p2), .val (.int p3), .val (.int p4), .val (.ref a), .val (.int b1), .val (.int b2), .val (.int b3), .unset, .unset, .unset, .unset] [] := by
  have g : ∀ fr : Int32, (fr = 0 ∨ fr = b1 ∨ fr = b2 ∨ fr = b3) → own_wp [] own_tb0 (own_EL Z h) own_QL 110 183 #[.val (.int p0), .val (.int p1), .val (.int p2), .val (.int p3), .val (.int p4), .val (.ref a), .val (.int b1), .val (.int b2), .val (.int b3), .val (.int (p3 &&& 3)), .val (.int fr), .unset, .unset] [] := fun fr q => own_t183 Z p0 p1 p2 p3 p4 a b1 b2 b3 (p3 &&& 3) fr h (hP fr q).1.1 (hP fr q).1.2 (hP fr q).2
  refine own_join (stop := [183]) (n1 := 40) (n2 := 110) ?_
  refine And.intro (fun _ => ?_) (fun _ => ?_)
  · refine And.intro (fun _ => ?_) (fun _ => ?_)
    · refine And.intro (fun _ => ?_) (fun _ => ?_)
      · exact And.intro trivial (g b3 (Or.inr (Or.inr (Or.inr rfl))))
      · exact And.intro trivial (g b2 (Or.inr (Or.inr (Or.inl rfl))))
    · exact And.intro trivial (g b1 (Or.inr (Or.inl rfl)))
  · exact And.intro trivial (g 0 (Or.inl rfl))
set_option maxRecDepth 65536 in
set_option maxHeartbeats 4000000 in
theorem own_law (l : Launch) (Z : State) (a0 : Array Value) (hw : ∀ d ∈ tables_1, d.before a0 Z = true) (ws : List Jvm.Cond) (p0 p1 p2 p3 p4 : Int32) (h0 : Heap) (n0 : Nat) (Z0 : n0 ≤ h0.size) :
    MetFree l x (head1 (Jvm.Cond.code x code maxLocals ret :: ws) room_1) (fun a' U => a' = #[(.int p0), (.int p1), (.int p2), (.int p3), (.int p4)] ∧ Z.Warmed39 U.vm ∧ U.heap = h0) (fun _ _ _ _ _ => True) (fun _ U o U' => ∃ v L, o = .returned v ∧ (v = some (.int 1) ∧ Fr n0 L) ∧ FrameEnd U o U' L room_1.cells room_1.slots) := by
  refine MetFree.of_bodySF (plainFor_of_name (by decide +kernel)) hisR ?_
  intro p e s m args below meth c s₁ Bd hml0 hP hK
  obtain ⟨rfl, hZ, hh⟩ := hP
  have hx := Bd.exec
  have hby := Bd.bytes
  have hml : c.maxLocals = 13 := hml0
  have hown : s.vm.findClass own_LW = some m.cls := findClass_of_methodNamed Bd.named
  have X0 : Stand p l e room_1 s m #[(.int p0), (.int p1), (.int p2), (.int p3), (.int p4)] below meth c s₁ [] 0 0 := Stand.of_body Bd
  have e0 : s₁.heap = h0 := by rw [← hh, Bd.state]; rfl
  have hC : ∀ q ∈ own_CL Z, own_CallOk l Z a0 own_LW room_1 6 q := fun q hq => by
    simp only [own_CL, List.mem_cons, List.not_mem_nil, or_false] at hq
    rcases hq with rfl | rfl | rfl
    · exact ⟨_, _, _, _, _, own_m5 l Z a0 hw, (hw _ (List.mem_of_getElem? (i := 20) rfl)), (hw _ (List.mem_of_getElem? (i := 21) rfl)), (hw _ (List.mem_of_getElem? (i := 18) rfl)), (hw _ (List.mem_of_getElem? (i := 22) rfl)), by decide, ⟨_, _, (by decide +kernel : parseMethodDescriptor "(II)I" = some ⟨[.int, .int], some .int⟩), rfl⟩, rfl, rfl, by decide, by decide⟩
    · exact ⟨_, _, _, _, _, own_m4 l Z a0 hw, (hw _ (List.mem_of_getElem? (i := 16) rfl)), (hw _ (List.mem_of_getElem? (i := 17) rfl)), (hw _ (List.mem_of_getElem? (i := 18) rfl)), (hw _ (List.mem_of_getElem? (i := 19) rfl)), by decide, ⟨_, _, (by decide +kernel : parseMethodDescriptor "(II)I" = some ⟨[.int, .int], some .int⟩), rfl⟩, rfl, rfl, by decide, by decide⟩
    · exact ⟨_, _, _, _, _, own_m3 l Z a0 hw, (hw _ (List.mem_of_getElem? (i := 10) rfl)), (hw _ (List.mem_of_getElem? (i := 11) rfl)), (hw _ (List.mem_of_getElem? (i := 12) rfl)), (hw _ (List.mem_of_getElem? (i := 13) rfl)), by decide, ⟨_, _, (by decide +kernel : parseMethodDescriptor "([BII)I" = some ⟨[.array .byte, .int, .int], some .int⟩), rfl⟩, rfl, rfl, by decide, by decide⟩
  have pre0 : ∀ t, Steps p.tables e below (s₁.setTop (mkF m 0 #[.val (.int p0), .val (.int p1), .val (.int p2), .val (.int p3), .val (.int p4), .unset, .unset, .unset, .unset, .unset, .unset, .unset, .unset] [])) t → Steps p.tables e below (s₁.setTop (entryFrame m #[(.int p0), (.int p1), (.int p2), (.int p3), (.int p4)] maxLocals)) t := fun t z => castTop (own_efL m p0 p1 p2 p3 p4) z
  obtain ⟨T1, lc1, h1, a, k, vs0, X1, e1, N1, rn, V0, G0, st1⟩ := own_fill hx hby hZ hown hw hml hC p0 p1 p2 p3 p4 h0 n0 Z0 X0 e0
  obtain ⟨T2, X2, e2, st2⟩ := own_seg X1 hx hby hZ hown hw own_tb0_ok (E := own_EL Z h1) hml ⟨hC, (fun q hq => by cases hq), (fun q hq => by cases hq), (fun q hq => by cases hq)⟩ (by decide) (by decide) e1 (stop := []) (n := 40) (pc0 := 106) (pc1 := 112) (L0 := #[.val (.int p0), .val (.int p1), .val (.int p2), .val (.int p3), .val (.int p4), .unset, .unset, .unset, .unset, .unset, .unset, .unset, .unset]) (L1 := #[.val (.int p0), .val (.int p1), .val (.int p2), .val (.int p3), .val (.int p4), .val (.ref a), .unset, .unset, .unset, .unset, .unset, .unset, .unset]) (st0 := [.ref a]) (st1 := [.int p0, .int 0, .ref a]) (And.intro rfl (And.intro rfl rfl))
  obtain ⟨_, _, ⟨T3, L3, k3, m3⟩, -, X3, ⟨Lc3, hQ3, l3, y3, z3⟩, st3⟩ := Jvm.LawKit.callS X2 hx (y := (⟨own_LW, "put", "([BII)I"⟩ : MethodName)) hown (mvT hZ (hw _ (List.mem_of_getElem? (i := 1) rfl))) (mvT hZ (hw _ (List.mem_of_getElem? (i := 2) rfl))) (mvT hZ (hw _ (List.mem_of_getElem? (i := 3) rfl))) (mvT hZ (hw _ (List.mem_of_getElem? (i := 4) rfl))) (by decide) (backOf (W := 1) (own_rmP l Z a0 hw [] a 0 p0 0 (by decide) (by decide) h1 k vs0 G0.1 V0 n0 rn) hZ (hw _ (List.mem_of_getElem? (i := 4) rfl)) (hw _ (List.mem_of_getElem? (i := 3) rfl)) (by decide) (by decide)) (g := (mkF m 112 #[.val (.int p0), .val (.int p1), .val (.int p2), .val (.int p3), .val (.int p4), .val (.ref a), .unset, .unset, .unset, .unset, .unset, .unset, .unset] [.int p0, .int 0, .ref a])) rfl (by rw [hml]; rfl) (argsL := [.ref a, .int 0, .int p0]) (rest := []) (lenOf (by decide +kernel : parseMethodDescriptor "([BII)I" = some ⟨[.array .byte, .int, .int], some .int⟩) rfl) rfl (by show 2 * 0 + _ ≤ _; exact Nat.le_of_ble_eq_true rfl) (hb hby at_112) (fun _ _ => ⟨rfl, e2, (by decide : 1 + 0 ≤ _), (by decide : 18 + 0 ≤ _)⟩)
  dsimp only [Pt.U, Pt.locs, Pt.cells, Pt.slots] at X3 l3 y3 z3 st3 hQ3
  subst l3 y3 z3
  obtain ⟨n1, vs1, rfl, N3, K3, V1, hl1, i1, q1, lo1, hi1, tk1, un1⟩ := hQ3
  obtain ⟨h3, e3⟩ : ∃ h3, T3.heap = h3 := ⟨_, rfl⟩
  rw [e3] at V1
  have M3 := Fr.app N1 N3
  obtain ⟨T4, X4, e4, st4⟩ := own_seg X3 hx hby hZ hown hw own_tb0_ok (E := own_EL Z h3) hml ⟨hC, (fun q hq => by cases hq), (fun q hq => by cases hq), (fun q hq => by cases hq)⟩ (by decide) (by decide) e3 (stop := []) (n := 40) (pc0 := 115) (pc1 := 124) (L0 := #[.val (.int p0), .val (.int p1), .val (.int p2), .val (.int p3), .val (.int p4), .val (.ref a), .unset, .unset, .unset, .unset, .unset, .unset, .unset]) (L1 := #[.val (.int p0), .val (.int p1), .val (.int p2), .val (.int p3), .val (.int p4), .val (.ref a), .val (.int n1), .unset, .unset, .unset, .unset, .unset, .unset]) (st0 := [.int n1]) (st1 := [.int p1, .int n1, .ref a, .int n1]) (And.intro rfl (And.intro rfl rfl))
  obtain ⟨_, _, ⟨T5, L5, k5, m5⟩, -, X5, ⟨Lc5, hQ5, l5, y5, z5⟩, st5⟩ := Jvm.LawKit.callS X4 hx (y := (⟨own_LW, "put", "([BII)I"⟩ : MethodName)) hown (mvT hZ (hw _ (List.mem_of_getElem? (i := 1) rfl))) (mvT hZ (hw _ (List.mem_of_getElem? (i := 2) rfl))) (mvT hZ (hw _ (List.mem_of_getElem? (i := 3) rfl))) (mvT hZ (hw _ (List.mem_of_getElem? (i := 4) rfl))) (by decide) (backOf (W := 1) (own_rmP l Z a0 hw [] a n1 p1 i1 q1 (by omega) h3 k vs1 hl1 V1 n0 rn) hZ (hw _ (List.mem_of_getElem? (i := 4) rfl)) (hw _ (List.mem_of_getElem? (i := 3) rfl)) (by decide) (by decide)) (g := (mkF m 124 #[.val (.int p0), .val (.int p1), .val (.int p2), .val (.int p3), .val (.int p4), .val (.ref a), .val (.int n1), .unset, .unset, .unset, .unset, .unset, .unset] [.int p1, .int n1, .ref a, .int n1])) rfl (by rw [hml]; rfl) (argsL := [.ref a, .int n1, .int p1]) (rest := [.int n1]) (lenOf (by decide +kernel : parseMethodDescriptor "([BII)I" = some ⟨[.array .byte, .int, .int], some .int⟩) rfl) rfl (by show 2 * 0 + _ ≤ _; exact Nat.le_of_ble_eq_true rfl) (hb hby at_124) (fun _ _ => ⟨rfl, e4, (by decide : 1 + 0 ≤ _), (by decide : 18 + 0 ≤ _)⟩)
  dsimp only [Pt.U, Pt.locs, Pt.cells, Pt.slots] at X5 l5 y5 z5 st5 hQ5
  subst l5 y5 z5
  obtain ⟨n2, vs2, rfl, N5, K5, V2, hl2, i2, q2, lo2, hi2, tk2, un2⟩ := hQ5
  obtain ⟨h5, e5⟩ : ∃ h5, T5.heap = h5 := ⟨_, rfl⟩
  rw [e5] at V2
  have M5 := Fr.app M3 N5
  obtain ⟨T6, X6, e6, st6⟩ := own_seg X5 hx hby hZ hown hw own_tb0_ok (E := own_EL Z h5) hml ⟨hC, (fun q hq => by cases hq), (fun q hq => by cases hq), (fun q hq => by cases hq)⟩ (by decide) (by decide) e5 (stop := []) (n := 40) (pc0 := 127) (pc1 := 137) (L0 := #[.val (.int p0), .val (.int p1), .val (.int p2), .val (.int p3), .val (.int p4), .val (.ref a), .val (.int n1), .unset, .unset, .unset, .unset, .unset, .unset]) (L1 := #[.val (.int p0), .val (.int p1), .val (.int p2), .val (.int p3), .val (.int p4), .val (.ref a), .val (.int n1), .val (.int (n1 + n2)), .unset, .unset, .unset, .unset, .unset]) (st0 := [.int n2, .int n1]) (st1 := [.int p2, .int (n1 + n2), .ref a, .int (n1 + n2)]) (And.intro rfl (And.intro rfl rfl))
  have qb2 : (n1 + n2).toInt = ((i1 + i2 : Nat) : Int) := own_jadd q1 q2 (by omega) hi2
  obtain ⟨b2, hb2⟩ : ∃ z, z = n1 + n2 := ⟨_, rfl⟩
  rw [← hb2] at st6 qb2
  obtain ⟨_, _, ⟨T7, L7, k7, m7⟩, -, X7, ⟨Lc7, hQ7, l7, y7, z7⟩, st7⟩ := Jvm.LawKit.callS X6 hx (y := (⟨own_LW, "put", "([BII)I"⟩ : MethodName)) hown (mvT hZ (hw _ (List.mem_of_getElem? (i := 1) rfl))) (mvT hZ (hw _ (List.mem_of_getElem? (i := 2) rfl))) (mvT hZ (hw _ (List.mem_of_getElem? (i := 3) rfl))) (mvT hZ (hw _ (List.mem_of_getElem? (i := 4) rfl))) (by decide) (backOf (W := 1) (own_rmP l Z a0 hw [] a b2 p2 (i1 + i2) qb2 (by omega) h5 k vs2 hl2 V2 n0 rn) hZ (hw _ (List.mem_of_getElem? (i := 4) rfl)) (hw _ (List.mem_of_getElem? (i := 3) rfl)) (by decide) (by decide)) (g := (mkF m 137 #[.val (.int p0), .val (.int p1), .val (.int p2), .val (.int p3), .val (.int p4), .val (.ref a), .val (.int n1), .val (.int b2), .unset, .unset, .unset, .unset, .unset] [.int p2, .int b2, .ref a, .int b2])) rfl (by rw [hml]; rfl) (argsL := [.ref a, .int b2, .int p2]) (rest := [.int b2]) (lenOf (by decide +kernel : parseMethodDescriptor "([BII)I" = some ⟨[.array .byte, .int, .int], some .int⟩) rfl) rfl (by show 2 * 0 + _ ≤ _; exact Nat.le_of_ble_eq_true rfl) (hb hby at_137) (fun _ _ => ⟨rfl, e6, (by decide : 1 + 0 ≤ _), (by decide : 18 + 0 ≤ _)⟩)
  dsimp only [Pt.U, Pt.locs, Pt.cells, Pt.slots] at X7 l7 y7 z7 st7 hQ7
  subst l7 y7 z7
  obtain ⟨n3, vs3, rfl, N7, K7, V3, hl3, i3, q3, lo3, hi3, tk3, un3⟩ := hQ7
  obtain ⟨h7, e7⟩ : ∃ h7, T7.heap = h7 := ⟨_, rfl⟩
  rw [e7] at V3
  have M7 := Fr.app M5 N7
  obtain ⟨T8, X8, e8, st8⟩ := own_seg X7 hx hby hZ hown hw own_tb0_ok (E := own_EL Z h7) hml ⟨hC, (fun q hq => by cases hq), (fun q hq => by cases hq), (fun q hq => by cases hq)⟩ (by decide) (by decide) e7 (stop := [143]) (n := 40) (pc0 := 140) (pc1 := 143) (L0 := #[.val (.int p0), .val (.int p1), .val (.int p2), .val (.int p3), .val (.int p4), .val (.ref a), .val (.int n1), .val (.int b2), .unset, .unset, .unset, .unset, .unset]) (L1 := #[.val (.int p0), .val (.int p1), .val (.int p2), .val (.int p3), .val (.int p4), .val (.ref a), .val (.int n1), .val (.int b2), .val (.int (b2 + n3)), .unset, .unset, .unset, .unset]) (st0 := [.int n3, .int b2]) (st1 := []) (And.intro rfl (And.intro rfl rfl))
  have qb3 : (b2 + n3).toInt = ((i1 + i2 + i3 : Nat) : Int) := own_jadd qb2 q3 (by omega) hi3
  obtain ⟨b3, hb3⟩ : ∃ z, z = b2 + n3 := ⟨_, rfl⟩
  rw [← hb3] at st8 qb3
  obtain ⟨kk, hkk⟩ : ∃ kk, i1 + i2 + i3 + kk = 18 := ⟨18 - (i1 + i2 + i3), by omega⟩
  have z0 : (0 : Int32).toInt = ((0 : Nat) : Int) := by decide
  have ones : own_okc vs3 (List.replicate kk 1) b3 := own_okc1 vs3 kk b3 (i1 + i2 + i3) qb3 hkk (fun j h1 h2 => by
    rw [un3 j (by omega), un2 j (by omega), un1 j (by omega)]
    exact G0.2 j h2)
  have o3 : own_okc vs3 (n3 :: List.replicate kk 1) b2 := ⟨⟨i1 + i2, qb2, by omega, tk3⟩, by show own_okc vs3 (List.replicate kk 1) (b2 + n3); rw [← hb3]; exact ones⟩
  have o2 : own_okc vs3 (n2 :: n3 :: List.replicate kk 1) n1 := ⟨⟨i1, q1, by omega, own_tok_keep tk2 q2 lo2 (fun j h1 h2 => un3 j (by omega))⟩, by show own_okc vs3 (n3 :: List.replicate kk 1) (n1 + n2); rw [← hb2]; exact o3⟩
  have zn : (0 : Int32) + n1 = n1 := Int32.zero_add n1
  have o0 : own_okc vs3 (n1 :: n2 :: n3 :: List.replicate kk 1) 0 := ⟨⟨0, z0, by omega, own_tok_keep tk1 q1 lo1 (fun j h1 h2 => by rw [un3 j (by omega), un2 j (by omega)])⟩, by show own_okc vs3 (n2 :: n3 :: List.replicate kk 1) (0 + n1); rw [zn]; exact o2⟩
  have V3' : Arv Z h7 a k .byte (18 : Int32) vs3 own_d0 := V3
  have cut : ∀ (fr : Int32), (fr = 0 ∨ fr = n1 ∨ fr = b2 ∨ fr = b3) → (0 ≤ fr.toInt ∧ fr.toInt ≤ 18) ∧ ∀ lim : Int32, fr.toInt ≤ lim.toInt → own_P3 Z h7 [.ref a, .int fr, .int lim] (.int (own_exp n1 b2 b3 lim)) := fun fr hf => by
    rcases hf with hf | hf | hf | hf
    · rw [hf]
      exact ⟨⟨by omega, by omega⟩, fun lim hlim => ⟨a, k, vs3, _, _, lim, rfl, by simp only [List.length_cons, List.length_replicate]; omega, V3', o0, congrArg Value.int (own_cut zn hb2.symm hb3.symm q1 qb2 qb3 lo1 (by omega) (by omega) hkk hlim (Or.inl ⟨rfl, rfl⟩)).symm⟩⟩
    · rw [hf]
      exact ⟨⟨by omega, by omega⟩, fun lim hlim => ⟨a, k, vs3, _, _, lim, rfl, by simp only [List.length_cons, List.length_replicate]; omega, V3', o2, congrArg Value.int (own_cut zn hb2.symm hb3.symm q1 qb2 qb3 lo1 (by omega) (by omega) hkk hlim (Or.inr (Or.inl ⟨rfl, rfl⟩))).symm⟩⟩
    · rw [hf]
      exact ⟨⟨by omega, by omega⟩, fun lim hlim => ⟨a, k, vs3, _, _, lim, rfl, by simp only [List.length_cons, List.length_replicate]; omega, V3', o3, congrArg Value.int (own_cut zn hb2.symm hb3.symm q1 qb2 qb3 lo1 (by omega) (by omega) hkk hlim (Or.inr (Or.inr (Or.inl ⟨rfl, rfl⟩)))).symm⟩⟩
    · rw [hf]
      exact ⟨⟨by omega, by omega⟩, fun lim hlim => ⟨a, k, vs3, _, _, lim, rfl, by simp only [List.length_cons, List.length_replicate]; omega, V3', ones, congrArg Value.int (own_cut zn hb2.symm hb3.symm q1 qb2 qb3 lo1 (by omega) (by omega) hkk hlim (Or.inr (Or.inr (Or.inr ⟨rfl, rfl⟩)))).symm⟩⟩
  obtain ⟨T9, pc9, L9, st9', X9, e9, ⟨hpc, htop⟩, st9⟩ := own_wp_sound hx hby hZ hown hw own_tb0_ok (E := own_EL Z h7) hml ⟨hC, (fun q hq => by cases hq), (fun q hq => by cases hq), (fun q hq => by cases hq)⟩ (by decide) (by decide) (stop := []) (Q := own_QL) 150 143 _ [] X8 e8 (own_t143 Z p0 p1 p2 p3 p4 a n1 b2 b3 h7 cut)
  have hd9 : decode code pc9 = .ok (.ireturn, 1) := by
    have : pc9 = 280 := by simpa using hpc
    subst this; exact at_280
  obtain ⟨fs, hr, hrun, hended, hW, hsame⟩ := X9.leave (v := some (.int (1 : Int32))) (fun h => by rw [Bd.returns] at h; cases h)
  refine ⟨_, _, pre0 _ ?_, hrun, hended, _, _, rfl, ⟨rfl, M7⟩, ⟨_, rfl⟩, hW, hsame.mono (by decide) (by decide)⟩
  refine st1 _ ?_
  refine st2 _ ?_
  refine st3 _ ?_
  refine st4 _ ?_
  refine st5 _ ?_
  refine st6 _ ?_
  refine st7 _ ?_
  refine st8 _ ?_
  refine st9 _ ?_
  exact own_ret X9 hx Bd.returns (hb hby hd9) htop hr
set_option maxRecDepth 65536 in
theorem comes_1 {Post : Tables → Env → Array Value → State → Outcome → State → Prop} (hpost : ∀ tb e args s v u, (limb_1_1.after args s (.returned v) u = true ∧ limb_1_2.after args s (.returned v) u = true ∧ True) → FrameEnd s (.returned v) u (Jvm.fieldLocs frame_1_writes args s ++ Jvm.arrayLocs frame_1_arrays args s ++ Jvm.staticLocs frame_1_statics s) 16 128 → Post tb e args s (.returned v) u) :
    ArmFor flags0 classFile x code maxLocals ret World_1 tables_1 room_1 Calls_1 rest_1 Pre_1 Post := by
  intro l hfl _ _ p e ha hc hk s m args below hf hA hF happ hP
  obtain ⟨hcalls, hrest, hpre⟩ := hP
  obtain ⟨-, -, -, hnamed, -, -, -, hat⟩ := (Spec.applies_iff hf).mp happ
  obtain ⟨hg, hn⟩ := and_e (Cond.before_iff.mp (show (Jvm.Cond.and given_1 narrow_1).before args s = true from hpre))
  obtain ⟨hcount, k0⟩ := and_e hg
  obtain ⟨g0, k1⟩ := and_e k0
  obtain ⟨g1, k2⟩ := and_e k1
  obtain ⟨g2, k3⟩ := and_e k2
  obtain ⟨g3, k4⟩ := and_e k3
  obtain ⟨w0, w1, w2, w3, w4, rfl⟩ : ∃ w0 w1 w2 w3 w4 : Value, args = #[w0, w1, w2, w3, w4] := by
    have hs : args.size = 5 := by simpa [Cond.value, given_1] using hcount
    obtain ⟨L⟩ := args
    match L, hs with
    | [w0, w1, w2, w3, w4], _ => exact ⟨w0, w1, w2, w3, w4, rfl⟩
  have hw := fun d (hd : d ∈ tables_1) => atoms_spec (ws := Jvm.Cond.code x code maxLocals ret :: tables_1) hat d (List.mem_cons_of_mem _ hd)
  obtain ⟨i0, ei0⟩ := is_v g0
  obtain rfl : w0 = (.int i0) := Option.some.inj ei0
  obtain ⟨i1, ei1⟩ := is_v g1
  obtain rfl : w1 = (.int i1) := Option.some.inj ei1
  obtain ⟨i2, ei2⟩ := is_v g2
  obtain rfl : w2 = (.int i2) := Option.some.inj ei2
  obtain ⟨i3, ei3⟩ := is_v g3
  obtain rfl : w3 = (.int i3) := Option.some.inj ei3
  obtain ⟨i4, ei4⟩ := is_v k4
  obtain rfl : w4 = (.int i4) := Option.some.inj ei4
  obtain ⟨n, o, h1, h2, h3, _, L, rfl, ⟨rfl, N⟩, hq⟩ := own_law l s _ hw tables_1 i0 i1 i2 i3 i4 s.heap s.heap.size (Nat.le_refl _) p e ha hc hk s m _ below hf ((Spec.applies_iff_loose hf).mp happ).1 ⟨rfl, State.Warmed39.refl s, rfl⟩ trivial
  refine ⟨n, _, h1, h2, h3, hpost _ _ _ _ _ _ ⟨Cond.after_iff.mpr rfl, Cond.after_iff.mpr (eq_i res_at (Term.int_eval (1)) rfl), trivial⟩ ⟨hq.1, hq.2.1, (hq.2.2.sift fun y hy => Or.inr (N y hy)).mono (by decide) (by decide)⟩⟩
theorem main_1_1 : Claimed_1_1 := comes_1 fun _ _ _ _ _ _ h hF => ⟨h.1, hF⟩
theorem main_1_2 : Claimed_1_2 := comes_1 fun _ _ _ _ _ _ h hF => ⟨h.2.1, hF⟩
end Jvm.Pilot.@@N@@
namespace Jvm.Pilot.@@N@@
open Jvm Jvm.ClassFile Sem Op Lib Jvm.Free Jvm.Stand Jvm.Pilot.@@N@@.Jvm.D
/-! MADE BY PROGRAM (witnessworld.py) out of the Statement's table words and the real class files: 10 classes; the members and pool entries that the words name. The judged class is class 1, her method 3. -/
namespace start1
open Jvm.ClassFile
def u (s : String) : CpInfo := .utf8 (stringToUtf16 s)
/-- a pool by its gaps: so many unusable entries, then the entry; so many at the end -/
def gap : Nat → List CpInfo → List CpInfo
  | 0, r => r
  | n + 1, r => .unusable :: gap n r
def poolList (es : List (Nat × CpInfo)) (last : Nat) : List CpInfo := es.foldr (fun e r => gap e.1 (e.2 :: r)) (gap last [])
def pool (es : List (Nat × CpInfo)) (last : Nat) : Array CpInfo := ⟨poolList es last⟩
def fileOf (pool : Array CpInfo) (this : Nat) (attrs : Array Attribute := #[]) (ms : Array MethodInfo := #[]) (fl : Nat := 33) (sup : Nat := 0) (ifs : Array Nat := #[]) (fds : Array FieldInfo := #[]) : ClassFile where
  minorVersion := 0
  majorVersion := 65
  constantPool := pool
  accessFlags := fl
  thisClass := this
  superClass := sup
  interfaces := ifs
  fields := fds
  methods := ms
  attributes := attrs
def plain (name : String) (sup : Option ClassId) : Class where
  name := name
  kind := .ordinary
  loader := none
  accessFlags := 33
  super := sup
  interfaces := #[]
  cf := none
  fields := #[]
  methods := #[]
  instanceTypes := #[]
  staticTypes := #[]
  resolved := #[]
  callSites := []
  init := .initialized
  statics := none
  mirror := none

def pool0 : Array CpInfo := pool [(5, u "<init>"), (0, u "()V"), (1, .class_ 10), (1, u "java/lang/Object")] 113

def k0m0 : Method := { name := "<init>", desc := "()V", sig := { parameters := [], returnType := none }, accessFlags := 1, code := none }
/-- java/lang/Object -/
def k0 : Class := { plain "java/lang/Object" none with
  accessFlags := 33
  interfaces := #[]
  cf := some (fileOf pool0 8 #[] #[{ accessFlags := 1, nameIndex := 5, descriptorIndex := 6, attributes := #[] }] 33 0 #[] #[])
  fields := #[]
  methods := #[k0m0]
  instanceTypes := #[]
  staticTypes := #[]
  resolved := Array.replicate 124 none
  statics := none }

def pool1 : Array CpInfo := pool [(2, .class_ 4), (1, u "java/lang/Object"), (0, u "<init>"), (0, u "()V"), (0, .integer 16777215), (0, .methodref 9 10), (0, .class_ 11), (0, .nameAndType 12 13), (0, u "org/auditrail/JsonCutPlacePinLaw"), (0, u "hex"), (0, u "(I)B"), (0, .integer 61440), (0, .integer 55296), (0, .integer 65536), (0, .integer 1048576), (0, .methodref 9 19), (0, .nameAndType 20 21), (0, u "put"), (0, u "([BII)I"), (0, .integer 1073741824), (0, .methodref 24 25), (0, .class_ 26), (0, .nameAndType 27 28), (0, u "java/lang/Math"), (0, u "max"), (0, u "(II)I"), (0, .methodref 24 30), (0, .nameAndType 31 28), (0, u "min"), (0, .methodref 33 34), (0, .class_ 35), (0, .nameAndType 36 21), (0, u "org/auditrail/Json"), (0, u "cutPlace"), (3, u "law"), (0, u "(IIIII)Z")] 4

def k1m0 : Method := { name := "<init>", desc := "()V", sig := { parameters := [], returnType := none }, accessFlags := 1, code := none }
def k1c1 : Code := { maxStack := 2, maxLocals := 1, code := method_2_code, exceptionTable := #[], attributes := #[] }
def k1m1 : Method := { name := "hex", desc := "(I)B", sig := { parameters := [.int], returnType := some .byte }, accessFlags := 10, code := some k1c1 }
def k1c2 : Code := { maxStack := 5, maxLocals := 7, code := method_3_code, exceptionTable := #[], attributes := #[] }
def k1m2 : Method := { name := "put", desc := "([BII)I", sig := { parameters := [(.array .byte), .int, .int], returnType := some .int }, accessFlags := 10, code := some k1c2 }
def k1c3 : Code := { maxStack := 4, maxLocals := 13, code := code, exceptionTable := #[], attributes := #[] }
def k1m3 : Method := { name := "law", desc := "(IIIII)Z", sig := { parameters := [.int, .int, .int, .int, .int], returnType := some .boolean }, accessFlags := 9, code := some k1c3 }
/-- org/auditrail/JsonCutPlacePinLaw -/
def k1 : Class := { plain "org/auditrail/JsonCutPlacePinLaw" (some 0) with
  accessFlags := 49
  interfaces := #[]
  cf := some (fileOf pool1 9 #[] #[{ accessFlags := 1, nameIndex := 5, descriptorIndex := 6, attributes := #[] }, { accessFlags := 10, nameIndex := 12, descriptorIndex := 13, attributes := #[] }, { accessFlags := 10, nameIndex := 20, descriptorIndex := 21, attributes := #[] }, { accessFlags := 9, nameIndex := 40, descriptorIndex := 41, attributes := #[] }] 49 2 #[] #[])
  fields := #[]
  methods := #[k1m0, k1m1, k1m2, k1m3]
  instanceTypes := #[]
  staticTypes := #[]
  resolved := Array.replicate 46 none
  statics := none }

def pool2 : Array CpInfo := pool [(2, .class_ 4), (1, u "java/lang/Object"), (3, .class_ 10), (1, u "org/auditrail/Json"), (0, u "text"), (0, u "Ljava/lang/String;"), (12, u "pos"), (0, u "I"), (198, u "HEX"), (0, u "[C"), (84, .class_ 312), (0, u "org/auditrail/Json$NumberText"), (30, u "MAX_DEPTH"), (16, u "cutPlace"), (0, u "([BII)I")] 30

def k2c0 : Code := { maxStack := 3, maxLocals := 6, code := prog_24_method_11_code, exceptionTable := #[], attributes := #[] }
def k2m0 : Method := { name := "cutPlace", desc := "([BII)I", sig := { parameters := [(.array .byte), .int, .int], returnType := some .int }, accessFlags := 8, code := some k2c0 }
/-- org/auditrail/Json -/
def k2 : Class := { plain "org/auditrail/Json" (some 0) with
  accessFlags := 48
  interfaces := #[]
  cf := some (fileOf pool2 8 #[.nestMembers #[311]] #[{ accessFlags := 8, nameIndex := 360, descriptorIndex := 361, attributes := #[] }] 48 2 #[] #[{ accessFlags := 24, nameIndex := 343, descriptorIndex := 26, attributes := #[] }, { accessFlags := 26, nameIndex := 225, descriptorIndex := 226, attributes := #[] }, { accessFlags := 18, nameIndex := 11, descriptorIndex := 12, attributes := #[] }, { accessFlags := 2, nameIndex := 25, descriptorIndex := 26, attributes := #[] }])
  fields := #[{ name := "MAX_DEPTH", type := .int, accessFlags := 24, slot := 0, constantValue := 0 }, { name := "HEX", type := (.array .char), accessFlags := 26, slot := 1, constantValue := 0 }, { name := "text", type := (.object "java/lang/String"), accessFlags := 18, slot := 0, constantValue := 0 }, { name := "pos", type := .int, accessFlags := 2, slot := 1, constantValue := 0 }]
  methods := #[k2m0]
  instanceTypes := #[(.object "java/lang/String"), .int]
  staticTypes := #[.int, (.array .char)]
  resolved := Array.replicate 392 none
  statics := none }

def pool3 : Array CpInfo := pool [(1, .class_ 2), (0, u "java/lang/Math"), (1, .class_ 6), (1, u "java/lang/Object"), (0, u "<init>"), (0, u "()V"), (89, .class_ 100), (1, u "java/lang/Math$RandomNumberGeneratorHolder"), (71, u "negativeZeroFloatBits"), (0, u "J"), (2, u "negativeZeroDoubleBits"), (21, u "max"), (2, u "min"), (43, u "$assertionsDisabled"), (0, u "Z"), (88, u "(II)I"), (2, u "twoToTheDoubleScaleDown"), (0, u "D"), (4, u "twoToTheDoubleScaleUp"), (9, u "E"), (3, u "PI"), (2, u "TAU"), (2, u "DEGREES_TO_RADIANS"), (0, u "RADIANS_TO_DEGREES")] 94

def k3m0 : Method := { name := "<init>", desc := "()V", sig := { parameters := [], returnType := none }, accessFlags := 2, code := none }
def k3c1 : Code := { maxStack := 2, maxLocals := 2, code := jdk_29_method_65_code, exceptionTable := #[], attributes := #[] }
def k3m1 : Method := { name := "max", desc := "(II)I", sig := { parameters := [.int, .int], returnType := some .int }, accessFlags := 9, code := some k3c1 }
def k3c2 : Code := { maxStack := 2, maxLocals := 2, code := jdk_29_method_69_code, exceptionTable := #[], attributes := #[] }
def k3m2 : Method := { name := "min", desc := "(II)I", sig := { parameters := [.int, .int], returnType := some .int }, accessFlags := 9, code := some k3c2 }
/-- java/lang/Math -/
def k3 : Class := { plain "java/lang/Math" (some 0) with
  accessFlags := 49
  interfaces := #[]
  cf := some (fileOf pool3 1 #[.nestMembers #[98]] #[{ accessFlags := 2, nameIndex := 7, descriptorIndex := 8, attributes := #[] }, { accessFlags := 9, nameIndex := 198, descriptorIndex := 335, attributes := #[] }, { accessFlags := 9, nameIndex := 201, descriptorIndex := 335, attributes := #[] }] 49 4 #[] #[{ accessFlags := 25, nameIndex := 354, descriptorIndex := 339, attributes := #[] }, { accessFlags := 25, nameIndex := 358, descriptorIndex := 339, attributes := #[] }, { accessFlags := 25, nameIndex := 361, descriptorIndex := 339, attributes := #[] }, { accessFlags := 26, nameIndex := 364, descriptorIndex := 339, attributes := #[] }, { accessFlags := 26, nameIndex := 365, descriptorIndex := 339, attributes := #[] }, { accessFlags := 26, nameIndex := 172, descriptorIndex := 173, attributes := #[] }, { accessFlags := 26, nameIndex := 176, descriptorIndex := 173, attributes := #[] }, { accessFlags := 8, nameIndex := 344, descriptorIndex := 339, attributes := #[] }, { accessFlags := 8, nameIndex := 338, descriptorIndex := 339, attributes := #[] }, { accessFlags := 4120, nameIndex := 245, descriptorIndex := 246, attributes := #[] }])
  fields := #[{ name := "E", type := .double, accessFlags := 25, slot := 0, constantValue := 0 }, { name := "PI", type := .double, accessFlags := 25, slot := 1, constantValue := 0 }, { name := "TAU", type := .double, accessFlags := 25, slot := 2, constantValue := 0 }, { name := "DEGREES_TO_RADIANS", type := .double, accessFlags := 26, slot := 3, constantValue := 0 }, { name := "RADIANS_TO_DEGREES", type := .double, accessFlags := 26, slot := 4, constantValue := 0 }, { name := "negativeZeroFloatBits", type := .long, accessFlags := 26, slot := 5, constantValue := 0 }, { name := "negativeZeroDoubleBits", type := .long, accessFlags := 26, slot := 6, constantValue := 0 }, { name := "twoToTheDoubleScaleUp", type := .double, accessFlags := 8, slot := 7, constantValue := 0 }, { name := "twoToTheDoubleScaleDown", type := .double, accessFlags := 8, slot := 8, constantValue := 0 }, { name := "$assertionsDisabled", type := .boolean, accessFlags := 4120, slot := 9, constantValue := 0 }]
  methods := #[k3m0, k3m1, k3m2]
  instanceTypes := #[]
  staticTypes := #[.double, .double, .double, .double, .double, .long, .long, .double, .double, .boolean]
  resolved := Array.replicate 460 none
  statics := none }

def pool4 : Array CpInfo := pool [(1, u "java/lang/Cloneable"), (0, .class_ 1), (0, u "java/lang/Object"), (0, .class_ 3)] 3

/-- java/lang/Cloneable -/
def k4 : Class := { plain "java/lang/Cloneable" (some 0) with
  accessFlags := 1537
  interfaces := #[]
  cf := some (fileOf pool4 2 #[] #[] 1537 4 #[] #[])
  fields := #[]
  methods := #[]
  instanceTypes := #[]
  staticTypes := #[]
  resolved := Array.replicate 8 none
  statics := none }

def pool5 : Array CpInfo := pool [(1, u "java/io/Serializable"), (0, .class_ 1), (0, u "java/lang/Object"), (0, .class_ 3)] 3

/-- java/io/Serializable -/
def k5 : Class := { plain "java/io/Serializable" (some 0) with
  accessFlags := 1537
  interfaces := #[]
  cf := some (fileOf pool5 2 #[] #[] 1537 4 #[] #[])
  fields := #[]
  methods := #[]
  instanceTypes := #[]
  staticTypes := #[]
  resolved := Array.replicate 8 none
  statics := none }

/-- the primitive byte -/
def k6 : Class := { plain "byte" none with kind := .primitive 'B', accessFlags := 0x411 }
/-- [B -/
def k7 : Class := { plain "[B" (some 0) with kind := .array 6 .byte, interfaces := #[4, 5], accessFlags := 1041 }

/-- the primitive int -/
def k8 : Class := { plain "int" none with kind := .primitive 'I', accessFlags := 0x411 }
/-- [I -/
def k9 : Class := { plain "[I" (some 0) with kind := .array 8 .int, interfaces := #[4, 5], accessFlags := 1041 }

def heap : Heap := #[]
def classes : Array Class := #[k0, k1, k2, k3, k4, k5, k6, k7, k8, k9]
def interned : List (Array UInt16 × Addr) := []
def slotsUsed : Nat := 0
def theMethod : MethodId := ⟨1, 3⟩
def args0 : Array Value := #[.int 5, .int 1, .int 9, .int 4, .int 2]
def aboutOver (below : List Frame) : State where
  vm := { classes := classes, interned := interned.toArray }
  heap := heap
  slotsUsed := slotsUsed
  threads := #[{ frames := .invoking theMethod args0 :: below }]
def below0 : List Frame := [.native { method := ⟨0, 0⟩, args := #[] }]
def about1 : State := aboutOver below0
def p0 : Program := .bare "" "" ""
def e0 : Env := launch0.env 0 0 0
theorem w_frames : about1.frames = Frame.invoking theMethod args0 :: below0 := rfl
set_option maxRecDepth 65536 in
theorem w_args : argsFit about1.vm theMethod args0 = true := by decide +kernel
set_option maxRecDepth 65536 in
theorem w_heap : heapFits about1 = true := by decide +kernel
set_option maxRecDepth 65536 in
theorem w_runnable : about1.curStatus? = some .runnable := by decide +kernel
set_option maxRecDepth 65536 in
theorem w_alone : about1.alone = true := by decide +kernel
set_option maxRecDepth 65536 in
theorem w_named : about1.methodNamed? x = some theMethod := by decide +kernel
set_option maxRecDepth 65536 in
theorem w_hears : about1.hears theMethod below0 = true := by decide +kernel
set_option maxRecDepth 65536 in
theorem w_ripe : about1.ripe theMethod args0 below0 = true := by decide +kernel
theorem w_running : about1.status = .running := rfl
set_option maxRecDepth 65536 in
theorem w_room : about1.hasRoom e0.platform room_1 = true :=
  launch0.hasRoom_least _ room_1 (by decide +kernel) (by decide +kernel) (by decide +kernel) (by decide +kernel) (by decide +kernel) (by decide +kernel)
theorem allAtoms_all (ts : List Jvm.Cond) (a : Array Jvm.Value) (st : Jvm.State) : (allAtoms ts).before a st = ts.all (fun c => c.before a st) := by
  induction ts with
  | nil => rfl
  | cons c t ih =>
    show (Jvm.Cond.and c (allAtoms t)).before a st = _
    rw [Jvm.Cond.before_and, ih, List.all_cons]
def words1 : List Jvm.Cond := Jvm.Cond.code x code maxLocals ret :: tables_1
/-- a 'code' word, met by the world's own term for the bytes: nothing is compared byte by byte -/
theorem code_word {y : MethodName} {bytes : ByteArray} {mx : Nat} {rt : Option FieldType} {a : Array Value} {s : State} {m : MethodId} {meth : Method} {c : Code} (h1 : s.methodNamed? y = some m) (h2 : s.vm.method? m = some meth) (h3 : meth.code = some c) (h4 : c.code = bytes)
    (h5 : (c.maxLocals == mx && c.exceptionTable.isEmpty && decide (c.maxStack ≤ mostOperands) && decide (meth.sig.returnType = rt) && !meth.locks && decide (parseMethodDescriptor y.desc = some meth.sig)) = true) : (Jvm.Cond.code y bytes mx rt).before a s = true := by
  simp only [Bool.and_eq_true, beq_iff_eq, Bool.not_eq_true', decide_eq_true_eq] at h5
  obtain ⟨⟨⟨⟨⟨g1, g2⟩, g3⟩, g4⟩, g5⟩, g6⟩ := h5
  simp [Cond.before, Cond.holds, Cond.value, h1, h2, h3, h4, g1, g2, g3, g4, g5, g6]
def isCode : Jvm.Cond → Bool
  | .code _ _ _ _ => true
  | _ => false
theorem all_split {L : List Jvm.Cond} {P : Jvm.Cond → Bool} (h1 : L.all (fun c => isCode c || P c) = true) (h2 : ∀ c ∈ L.filter isCode, P c = true) : L.all P = true := by
  refine List.all_eq_true.mpr fun c hc => ?_
  have h := List.all_eq_true.mp h1 c hc
  rcases Bool.eq_false_or_eq_true (isCode c) with hi | hi
  · exact h2 c (List.mem_filter.mpr ⟨hc, hi⟩)
  · simpa [hi] using h
set_option maxRecDepth 65536 in
theorem w_c0 : (Jvm.Cond.code x code maxLocals ret).before args0 about1 = true := code_word (m := ⟨1, 3⟩) (meth := k1m3) (c := k1c3) (by decide +kernel) rfl rfl rfl (by decide +kernel)
set_option maxRecDepth 65536 in
theorem w_c1 : (Jvm.Cond.code ({ cls := "org/auditrail/JsonCutPlacePinLaw", name := "put", desc := "([BII)I" } : Jvm.MethodName) method_3_code (7 : Nat) (Option.some Jvm.ClassFile.FieldType.int)).before args0 about1 = true := code_word (m := ⟨1, 2⟩) (meth := k1m2) (c := k1c2) (by decide +kernel) rfl rfl rfl (by decide +kernel)
set_option maxRecDepth 65536 in
theorem w_c2 : (Jvm.Cond.code ({ cls := "org/auditrail/JsonCutPlacePinLaw", name := "hex", desc := "(I)B" } : Jvm.MethodName) method_2_code (1 : Nat) (Option.some Jvm.ClassFile.FieldType.byte)).before args0 about1 = true := code_word (m := ⟨1, 1⟩) (meth := k1m1) (c := k1c1) (by decide +kernel) rfl rfl rfl (by decide +kernel)
set_option maxRecDepth 65536 in
theorem w_c3 : (Jvm.Cond.code ({ cls := "org/auditrail/Json", name := "cutPlace", desc := "([BII)I" } : Jvm.MethodName) prog_24_method_11_code (6 : Nat) (Option.some Jvm.ClassFile.FieldType.int)).before args0 about1 = true := code_word (m := ⟨2, 0⟩) (meth := k2m0) (c := k2c0) (by decide +kernel) rfl rfl rfl (by decide +kernel)
set_option maxRecDepth 65536 in
theorem w_c4 : (Jvm.Cond.code ({ cls := "java/lang/Math", name := "min", desc := "(II)I" } : Jvm.MethodName) jdk_29_method_69_code (2 : Nat) (Option.some Jvm.ClassFile.FieldType.int)).before args0 about1 = true := code_word (m := ⟨3, 2⟩) (meth := k3m2) (c := k3c2) (by decide +kernel) rfl rfl rfl (by decide +kernel)
set_option maxRecDepth 65536 in
theorem w_c5 : (Jvm.Cond.code ({ cls := "java/lang/Math", name := "max", desc := "(II)I" } : Jvm.MethodName) jdk_29_method_65_code (2 : Nat) (Option.some Jvm.ClassFile.FieldType.int)).before args0 about1 = true := code_word (m := ⟨3, 1⟩) (meth := k3m1) (c := k3c1) (by decide +kernel) rfl rfl rfl (by decide +kernel)
def codes1 : List Jvm.Cond := [Jvm.Cond.code x code maxLocals ret, Jvm.Cond.code ({ cls := "org/auditrail/JsonCutPlacePinLaw", name := "put", desc := "([BII)I" } : Jvm.MethodName) method_3_code (7 : Nat) (Option.some Jvm.ClassFile.FieldType.int), Jvm.Cond.code ({ cls := "org/auditrail/JsonCutPlacePinLaw", name := "hex", desc := "(I)B" } : Jvm.MethodName) method_2_code (1 : Nat) (Option.some Jvm.ClassFile.FieldType.byte), Jvm.Cond.code ({ cls := "org/auditrail/Json", name := "cutPlace", desc := "([BII)I" } : Jvm.MethodName) prog_24_method_11_code (6 : Nat) (Option.some Jvm.ClassFile.FieldType.int), Jvm.Cond.code ({ cls := "java/lang/Math", name := "min", desc := "(II)I" } : Jvm.MethodName) jdk_29_method_69_code (2 : Nat) (Option.some Jvm.ClassFile.FieldType.int), Jvm.Cond.code ({ cls := "java/lang/Math", name := "max", desc := "(II)I" } : Jvm.MethodName) jdk_29_method_65_code (2 : Nat) (Option.some Jvm.ClassFile.FieldType.int)]
set_option maxRecDepth 65536 in
theorem codes_eq : words1.filter isCode = codes1 := rfl
theorem w_codes : ∀ c ∈ words1.filter isCode, c.before args0 about1 = true := by
  rw [codes_eq]
  intro c hc
  simp only [codes1, List.mem_cons, List.not_mem_nil, or_false] at hc
  rcases hc with rfl | rfl | rfl | rfl | rfl | rfl
  · exact w_c0
  · exact w_c1
  · exact w_c2
  · exact w_c3
  · exact w_c4
  · exact w_c5
set_option maxRecDepth 65536 in
theorem w_t1 : (words1.take 24).all (fun c => isCode c || c.before args0 about1) = true := by decide +kernel
set_option maxRecDepth 65536 in
theorem w_t2 : (words1.drop 24).all (fun c => isCode c || c.before args0 about1) = true := by decide +kernel
theorem w_tables : (allAtoms (Jvm.Cond.code x code maxLocals ret :: tables_1)).before args0 about1 = true := by
  rw [allAtoms_all]
  show words1.all (fun c => c.before args0 about1) = true
  refine all_split ?_ w_codes
  rw [← List.take_append_drop 24 words1, List.all_append, w_t1, w_t2]
  rfl
set_option maxRecDepth 65536 in
theorem w_case : (Jvm.Cond.and given_1 narrow_1).before args0 about1 = true := by decide +kernel
theorem w_applies : (headSpec (Jvm.Cond.code x code maxLocals ret :: tables_1) room_1).applies x e0.platform about1 = true :=
  (Spec.applies_iff w_frames).mpr ⟨w_running, w_runnable, w_alone, w_named, w_hears, w_ripe, w_room, w_tables⟩
theorem atStart : AtStart classFile x code maxLocals ret World_1 tables_1 room_1 Calls_1 rest_1 Pre_1 launch0 p0 e0 about1 theMethod args0 below0 :=
  ⟨lists_1, trivial, launch0.admits_env _ _ _, launch0.least_env, fairChoices_fair.cas, fairChoices_fair.clock, w_frames, w_args, w_heap, w_applies, trivial, trivial, w_case⟩
end start1
theorem witness_1 : WitnessClaimed_1 := ⟨start1.p0, start1.e0, start1.about1, start1.theMethod, start1.args0, start1.below0, start1.atStart⟩
end Jvm.Pilot.@@N@@
