import JvmDerived
import JvmDerived.Pilot.@@N@@Statement
import JvmDerived.Pilot.@@N@@Code
set_option linter.unusedVariables false
set_option linter.unusedSimpArgs false
@@BLOCK:NumsL.lean.txt@@
namespace Jvm.Pilot.@@N@@
open Jvm Jvm.ClassFile Sem Op Lib Jvm.Free Jvm.Stand Jvm.LawKit Jvm.RoadKit Bundle Jvm.Pilot.@@N@@.Jvm.D
/-! ## OWN EVALUATOR: a run of plain bytecode (ints, longs, references that are only carried; static calls by contract) as one Prop that unfolds by computation.
An entry of a table: pc, the instruction, the next pc, the target of a branch, the constant that it pushes. -/
abbrev own_Ent := Nat × Instr × Nat × Nat × Value
def own_look : List own_Ent → Nat → Option (Instr × Nat × Nat × Value)
  | [], _ => none
  | e :: t, pc => bif Nat.beq e.1 pc then some e.2 else own_look t pc
theorem own_look_mem : ∀ {tab : List own_Ent} {pc : Nat} {r : Instr × Nat × Nat × Value}, own_look tab pc = some r → (pc, r) ∈ tab
  | [], _, _, h => by simp [own_look] at h
  | e :: t, pc, r, h => by
    simp only [own_look] at h
    cases hb : Nat.beq e.1 pc with
    | true =>
      rw [hb] at h
      have h1 : e.1 = pc := Nat.eq_of_beq_eq_true hb
      have h2 : e.2 = r := Option.some.inj h
      subst h1 h2
      exact List.mem_cons_self
    | false => rw [hb] at h; exact List.mem_cons_of_mem _ (own_look_mem h)
/-- what a conditional branch asks -/
def own_icmp : ClassFile.Cond → Int32 → Int32 → Prop
  | .eq, a, b => a = b
  | .ne, a, b => ¬ a = b
  | .lt, a, b => a < b
  | .ge, a, b => b ≤ a
  | .gt, a, b => b < a
  | .le, a, b => a ≤ b
theorem own_icmp_iff {cd : ClassFile.Cond} {a b : Int32} : if_icmp.holds cd a b = true ↔ own_icmp cd a b := by
  cases cd <;> simp [if_icmp.holds, own_icmp]
theorem own_if_iff {cd : ClassFile.Cond} {a : Int32} : ifCond.holds cd a = true ↔ own_icmp cd a 0 := by
  cases cd <;> simp [ifCond.holds, own_icmp]
def own_ldI (L : Array Slot) (st : List Value) (k : Nat) : Option (Array Slot × List Value) :=
  match L[k]? with
  | some (.val (.int v)) => some (L, .int v :: st)
  | _ => none
def own_ldJ (L : Array Slot) (st : List Value) (k : Nat) : Option (Array Slot × List Value) :=
  match L[k]? with
  | some (.val (.long v)) => some (L, .long v :: st)
  | _ => none
def own_ldA (L : Array Slot) (st : List Value) (k : Nat) : Option (Array Slot × List Value) :=
  match L[k]? with
  | some (.val (.ref a)) => some (L, .ref a :: st)
  | _ => none
def own_put (L : Array Slot) (k : Nat) (v : Value) (r : List Value) : Option (Array Slot × List Value) :=
  match storeLocals L k v with
  | some L' => some (L', r)
  | none => none
def own_stI (L : Array Slot) (st : List Value) (k : Nat) : Option (Array Slot × List Value) :=
  match st with
  | .int v :: r => own_put L k (.int v) r
  | _ => none
def own_stJ (L : Array Slot) (st : List Value) (k : Nat) : Option (Array Slot × List Value) :=
  match st with
  | .long v :: r => own_put L k (.long v) r
  | _ => none
def own_stA (L : Array Slot) (st : List Value) (k : Nat) : Option (Array Slot × List Value) :=
  match st with
  | .ref v :: r => own_put L k (.ref v) r
  | _ => none
def own_bI (L : Array Slot) (st : List Value) (f : Int32 → Int32 → Int32) : Option (Array Slot × List Value) :=
  match st with
  | .int y :: .int x :: r => some (L, .int (f x y) :: r)
  | _ => none
def own_bJ (L : Array Slot) (st : List Value) (f : Int64 → Int64 → Int64) : Option (Array Slot × List Value) :=
  match st with
  | .long y :: .long x :: r => some (L, .long (f x y) :: r)
  | _ => none
def own_sJ (L : Array Slot) (st : List Value) (f : Int64 → Int32 → Int64) : Option (Array Slot × List Value) :=
  match st with
  | .int y :: .long x :: r => some (L, .long (f x y) :: r)
  | _ => none
def own_uI (L : Array Slot) (st : List Value) (f : Int32 → Int32) : Option (Array Slot × List Value) :=
  match st with
  | .int x :: r => some (L, .int (f x) :: r)
  | _ => none
/-- i2c, as the machine reckons it -/
def own_i2c (x : Int32) : Int32 := x.toUInt32.toUInt16.toUInt32.toInt32
/-- a straight step -/
def own_stp (L : Array Slot) (st : List Value) (cv : Value) : Instr → Option (Array Slot × List Value)
  | .iconst _ => some (L, cv :: st)
  | .bipush _ => some (L, cv :: st)
  | .sipush _ => some (L, cv :: st)
  | .lconst _ => some (L, cv :: st)
  | .ldc _ => some (L, cv :: st)
  | .ldc2_w _ => some (L, cv :: st)
  | .iload k => own_ldI L st k
  | .iload_n k => own_ldI L st k.val
  | .lload k => own_ldJ L st k
  | .lload_n k => own_ldJ L st k.val
  | .aload k => own_ldA L st k
  | .aload_n k => own_ldA L st k.val
  | .istore k => own_stI L st k
  | .istore_n k => own_stI L st k.val
  | .lstore k => own_stJ L st k
  | .lstore_n k => own_stJ L st k.val
  | .astore k => own_stA L st k
  | .astore_n k => own_stA L st k.val
  | .iadd => own_bI L st (fun x y => x + y)
  | .isub => own_bI L st (fun x y => x - y)
  | .imul => own_bI L st (fun x y => x * y)
  | .iand => own_bI L st (fun x y => x &&& y)
  | .ior => own_bI L st (fun x y => x ||| y)
  | .ixor => own_bI L st (fun x y => x ^^^ y)
  | .ishl => own_bI L st (fun x y => x <<< (y &&& 31))
  | .ishr => own_bI L st (fun x y => x >>> (y &&& 31))
  | .iushr => own_bI L st (fun x y => XT.ushr x y)
  | .ladd => own_bJ L st (fun x y => x + y)
  | .lsub => own_bJ L st (fun x y => x - y)
  | .lmul => own_bJ L st (fun x y => x * y)
  | .land => own_bJ L st (fun x y => x &&& y)
  | .lor => own_bJ L st (fun x y => x ||| y)
  | .lxor => own_bJ L st (fun x y => x ^^^ y)
  | .lshl => own_sJ L st (fun x y => x <<< (y.toInt64 &&& 63))
  | .lshr => own_sJ L st (fun x y => x >>> (y.toInt64 &&& 63))
  | .lushr => own_sJ L st (fun x y => XT.ushrL x y)
  | .i2b => own_uI L st (fun x => x.toInt8.toInt32)
  | .i2c => own_uI L st own_i2c
  | .i2s => own_uI L st (fun x => x.toInt16.toInt32)
  | .i2l => match st with
    | .int x :: r => some (L, .long x.toInt64 :: r)
    | _ => none
  | .l2i => match st with
    | .long x :: r => some (L, .int x.toInt32 :: r)
    | _ => none
  | .lneg => match st with
    | .long x :: r => some (L, .long (-x) :: r)
    | _ => none
  | .lcmp => match st with
    | .long y :: .long x :: r => some (L, .int (XT.cmpL x y) :: r)
    | _ => none
  | .iinc k z => match L[k]? with
    | some (.val (.int v)) => own_put L k (.int (v + Int32.ofInt z)) st
    | _ => none
  | .dup => match st with
    | .ref a :: r => some (L, .ref a :: .ref a :: r)
    | _ => none
  | _ => none
/-- how long an instruction is -/
def own_len : Instr → Nat
  | .bipush _ => 2
  | .sipush _ => 3
  | .ldc _ => 2
  | .ldc2_w _ => 3
  | .iload _ => 2
  | .lload _ => 2
  | .aload _ => 2
  | .istore _ => 2
  | .lstore _ => 2
  | .astore _ => 2
  | .iinc _ _ => 3
  | .invokestatic _ => 3
  | .invokevirtual _ => 3
  | .getfield _ => 3
  | _ => 1
/-- the constant that an instruction pushes is the entry's -/
def own_cv (own : String) (ws : List Jvm.Cond) (cv : Value) : Instr → Bool
  | .iconst i => decide (cv = .int (Int32.ofInt i))
  | .bipush i => decide (cv = .int (Int8.ofInt i).toInt32)
  | .sipush i => decide (cv = .int (Int16.ofInt i).toInt32)
  | .lconst k => decide (cv = .long (Int64.ofNat k))
  | .ldc idx => match cv with
    | .int v => ws.contains (Jvm.Cond.constant own idx v)
    | _ => false
  | .ldc2_w idx => match cv with
    | .long v => ws.contains (Jvm.Cond.constantLong own idx v)
    | _ => false
  | _ => true
/-- an entry is true of the code -/
def own_ok (code : ByteArray) (own : String) (ws : List Jvm.Cond) (q : own_Ent) : Bool :=
  match q with
  | (pc, .if_icmp cd o, nx, tg, _) => decide (decode code pc = .ok (.if_icmp cd o, 3)) && decide (0 ≤ (pc : Int) + o) && decide (((pc : Int) + o).toNat = tg) && decide (nx = pc + 3)
  | (pc, .ifCond cd o, nx, tg, _) => decide (decode code pc = .ok (.ifCond cd o, 3)) && decide (0 ≤ (pc : Int) + o) && decide (((pc : Int) + o).toNat = tg) && decide (nx = pc + 3)
  | (pc, .goto o, _, tg, _) => decide (decode code pc = .ok (.goto o, 3)) && decide (0 ≤ (pc : Int) + o) && decide (((pc : Int) + o).toNat = tg)
  | (pc, i, nx, _, cv) => decide (decode code pc = .ok (i, own_len i)) && decide (nx = pc + own_len i) && own_cv own ws cv i
abbrev own_Call := Nat × Nat × (Heap → List Value → Value → Prop)
abbrev own_Fld := Nat × Addr × Value
abbrev own_Arr := Addr × Int32 × FieldType × List Value × Value
/-- what a run may lean on: static calls, virtual calls, fields read, an array read, the heap, max_locals, the weight of the operand stack under a call -/
abbrev own_Env := List own_Call × List own_Call × List own_Fld × List own_Arr × Heap × Nat × Nat
def own_lookC : List own_Call → Nat → Option (Nat × (Heap → List Value → Value → Prop))
  | [], _ => none
  | e :: t, pc => bif Nat.beq e.1 pc then some e.2 else own_lookC t pc
theorem own_lookC_mem : ∀ {C : List own_Call} {i : Nat} {r : Nat × (Heap → List Value → Value → Prop)}, own_lookC C i = some r → (i, r) ∈ C
  | [], _, _, h => by simp [own_lookC] at h
  | e :: t, i, r, h => by
    simp only [own_lookC] at h
    cases hb : Nat.beq e.1 i with
    | true =>
      rw [hb] at h
      have h1 : e.1 = i := Nat.eq_of_beq_eq_true hb
      have h2 : e.2 = r := Option.some.inj h
      subst h1 h2
      exact List.mem_cons_self
    | false => rw [hb] at h; exact List.mem_cons_of_mem _ (own_lookC_mem h)
def own_lookF : List own_Fld → Nat → Option (Addr × Value)
  | [], _ => none
  | e :: t, pc => bif Nat.beq e.1 pc then some e.2 else own_lookF t pc
theorem own_lookF_mem : ∀ {C : List own_Fld} {i : Nat} {r : Addr × Value}, own_lookF C i = some r → (i, r) ∈ C
  | [], _, _, h => by simp [own_lookF] at h
  | e :: t, i, r, h => by
    simp only [own_lookF] at h
    cases hb : Nat.beq e.1 i with
    | true =>
      rw [hb] at h
      have h1 : e.1 = i := Nat.eq_of_beq_eq_true hb
      have h2 : e.2 = r := Option.some.inj h
      subst h1 h2
      exact List.mem_cons_self
    | false => rw [hb] at h; exact List.mem_cons_of_mem _ (own_lookF_mem h)
def own_cat (st : List Value) : Nat := (st.map fun v => v.category).sum
/-- one step: k: what is asked behind it; q: what is asked where it stops here -/
def own_nxt (E : own_Env) (L : Array Slot) (st : List Value) (nx tg : Nat) (cv : Value) (k : Nat → Array Slot → List Value → Prop) (q : Prop) (i : Instr) : Prop :=
  match i with
  | .if_icmp cd _ => match st with
    | .int y :: .int x :: r => (own_icmp cd x y → k tg L r) ∧ (¬ own_icmp cd x y → k nx L r)
    | _ => q
  | .ifCond cd _ => match st with
    | .int x :: r => (own_icmp cd x 0 → k tg L r) ∧ (¬ own_icmp cd x 0 → k nx L r)
    | _ => q
  | .goto _ => k tg L st
  | .irem => match st with
    | .int y :: .int x :: r => y ≠ 0 ∧ k nx L (.int (x % y) :: r)
    | _ => q
  | .idiv => match st with
    | .int y :: .int x :: r => y ≠ 0 ∧ k nx L (.int (x / y) :: r)
    | _ => q
  | .lrem => match st with
    | .long y :: .long x :: r => y ≠ 0 ∧ k nx L (.long (x - (x / y) * y) :: r)
    | _ => q
  | .ldiv => match st with
    | .long y :: .long x :: r => y ≠ 0 ∧ k nx L (.long (x / y) :: r)
    | _ => q
  | .invokestatic idx => match own_lookC E.1 idx with
    | some (n, P) => ∃ v, P E.2.2.2.2.1 (st.take n).reverse v ∧ (st.take n).length = n ∧ own_cat (st.drop n) ≤ E.2.2.2.2.2.2 ∧ L.size = E.2.2.2.2.2.1 ∧ k nx L (v :: st.drop n)
    | none => q
  | .invokevirtual idx => match own_lookC E.2.1 idx with
    | some (n, P) => match st.drop n with
      | .ref a :: r => ∃ v, P E.2.2.2.2.1 (.ref a :: (st.take n).reverse) v ∧ (st.take n).length = n ∧ own_cat r ≤ E.2.2.2.2.2.2 ∧ L.size = E.2.2.2.2.2.1 ∧ k nx L (v :: r)
      | _ => q
    | none => q
  | .getfield idx => match st with
    | .ref a :: r => match own_lookF E.2.2.1 idx with
      | some (b, v) => a = b ∧ k nx L (v :: r)
      | none => q
    | _ => q
  | .arraylength => match st with
    | .ref a :: r => match E.2.2.2.1 with
      | (b, n, _, _, _) :: _ => a = b ∧ k nx L (.int n :: r)
      | [] => q
    | _ => q
  | .laload => match st with
    | .int j :: .ref a :: r => match E.2.2.2.1 with
      | (b, n, ty, vs, d) :: _ => a = b ∧ ty = .long ∧ (¬ j < 0) ∧ j < n ∧ ∃ z, vs.getD j.toNatClampNeg d = .long z ∧ k nx L (.long z :: r)
      | [] => q
    | _ => q
  | .baload => match st with
    | .int j :: .ref a :: r => match E.2.2.2.1 with
      | (b, n, ty, vs, d) :: _ => a = b ∧ ty = .byte ∧ (¬ j < 0) ∧ j < n ∧ ∃ z, vs.getD j.toNatClampNeg d = .int z ∧ k nx L (.int z :: r)
      | [] => q
    | _ => q
  | i => match own_stp L st cv i with
    | some (L', st') => k nx L' st'
    | none => q
def own_in : List Nat → Nat → Bool
  | [], _ => false
  | a :: t, pc => bif Nat.beq a pc then true else own_in t pc
/-- the run, till a pc of 'stop' or where the table ends; Q: what is asked there -/
def own_wp (stop : List Nat) (tab : List own_Ent) (E : own_Env) (Q : Nat → Array Slot → List Value → Prop) : Nat → Nat → Array Slot → List Value → Prop
  | 0, _, _, _ => False
  | n + 1, pc, L, st => bif own_in stop pc then Q pc L st else match own_look tab pc with
    | none => Q pc L st
    | some (i, nx, tg, cv) => own_nxt E L st nx tg cv (own_wp stop tab E Q n) (Q pc L st) i
theorem own_nxt_mono {E : own_Env} {L : Array Slot} {st : List Value} {nx tg : Nat} {cv : Value} {k k' : Nat → Array Slot → List Value → Prop} {q q' : Prop} {i : Instr} (hk : ∀ pc L st, k pc L st → k' pc L st) (hq : q → q') (h : own_nxt E L st nx tg cv k q i) : own_nxt E L st nx tg cv k' q' i := by
  unfold own_nxt at h ⊢
  split at h
  · split at h
    · exact ⟨fun z => hk _ _ _ (h.1 z), fun z => hk _ _ _ (h.2 z)⟩
    · exact hq h
  · split at h
    · exact ⟨fun z => hk _ _ _ (h.1 z), fun z => hk _ _ _ (h.2 z)⟩
    · exact hq h
  · exact (hk _ _ _ h)
  · split at h
    · exact ⟨h.1, hk _ _ _ h.2⟩
    · exact hq h
  · split at h
    · exact ⟨h.1, hk _ _ _ h.2⟩
    · exact hq h
  · split at h
    · exact ⟨h.1, hk _ _ _ h.2⟩
    · exact hq h
  · split at h
    · exact ⟨h.1, hk _ _ _ h.2⟩
    · exact hq h
  · try dsimp only
    split at h
    · obtain ⟨v, h1, h2, h3, h4, h5⟩ := h
      exact ⟨v, h1, h2, h3, h4, hk _ _ _ h5⟩
    · exact hq h
  · try dsimp only
    split at h
    · split at h
      · obtain ⟨v, h1, h2, h3, h4, h5⟩ := h
        exact ⟨v, h1, h2, h3, h4, hk _ _ _ h5⟩
      · exact hq h
    · exact hq h
  · split at h
    · try dsimp only
      split at h
      · exact ⟨h.1, hk _ _ _ h.2⟩
      · exact hq h
    · exact hq h
  · split at h
    · try dsimp only
      split at h
      · exact ⟨h.1, hk _ _ _ h.2⟩
      · exact hq h
    · exact hq h
  · split at h
    · try dsimp only
      split at h
      · obtain ⟨h1, h2, h3, h4, z, h5, h6⟩ := h
        exact ⟨h1, h2, h3, h4, z, h5, hk _ _ _ h6⟩
      · exact hq h
    · exact hq h
  · split at h
    · try dsimp only
      split at h
      · obtain ⟨h1, h2, h3, h4, z, h5, h6⟩ := h
        exact ⟨h1, h2, h3, h4, z, h5, hk _ _ _ h6⟩
      · exact hq h
    · exact hq h
  · try dsimp only
    split at h
    · exact (hk _ _ _ h)
    · exact hq h
theorem own_nxt_or {E : own_Env} {L : Array Slot} {st : List Value} {nx tg : Nat} {cv : Value} {k k' : Nat → Array Slot → List Value → Prop} {q q' : Prop} {i : Instr} (hk : ∀ pc L st, k pc L st → k' pc L st) (h : own_nxt E L st nx tg cv k q i) : q ∨ own_nxt E L st nx tg cv k' q' i := by
  unfold own_nxt at h ⊢
  split at h
  · split at h
    · exact Or.inr ⟨fun z => hk _ _ _ (h.1 z), fun z => hk _ _ _ (h.2 z)⟩
    · exact Or.inl h
  · split at h
    · exact Or.inr ⟨fun z => hk _ _ _ (h.1 z), fun z => hk _ _ _ (h.2 z)⟩
    · exact Or.inl h
  · exact Or.inr (hk _ _ _ h)
  · split at h
    · exact Or.inr ⟨h.1, hk _ _ _ h.2⟩
    · exact Or.inl h
  · split at h
    · exact Or.inr ⟨h.1, hk _ _ _ h.2⟩
    · exact Or.inl h
  · split at h
    · exact Or.inr ⟨h.1, hk _ _ _ h.2⟩
    · exact Or.inl h
  · split at h
    · exact Or.inr ⟨h.1, hk _ _ _ h.2⟩
    · exact Or.inl h
  · try dsimp only
    split at h
    · obtain ⟨v, h1, h2, h3, h4, h5⟩ := h
      exact Or.inr ⟨v, h1, h2, h3, h4, hk _ _ _ h5⟩
    · exact Or.inl h
  · try dsimp only
    split at h
    · split at h
      · obtain ⟨v, h1, h2, h3, h4, h5⟩ := h
        exact Or.inr ⟨v, h1, h2, h3, h4, hk _ _ _ h5⟩
      · exact Or.inl h
    · exact Or.inl h
  · split at h
    · try dsimp only
      split at h
      · exact Or.inr ⟨h.1, hk _ _ _ h.2⟩
      · exact Or.inl h
    · exact Or.inl h
  · split at h
    · try dsimp only
      split at h
      · exact Or.inr ⟨h.1, hk _ _ _ h.2⟩
      · exact Or.inl h
    · exact Or.inl h
  · split at h
    · try dsimp only
      split at h
      · obtain ⟨h1, h2, h3, h4, z, h5, h6⟩ := h
        exact Or.inr ⟨h1, h2, h3, h4, z, h5, hk _ _ _ h6⟩
      · exact Or.inl h
    · exact Or.inl h
  · split at h
    · try dsimp only
      split at h
      · obtain ⟨h1, h2, h3, h4, z, h5, h6⟩ := h
        exact Or.inr ⟨h1, h2, h3, h4, z, h5, hk _ _ _ h6⟩
      · exact Or.inl h
    · exact Or.inl h
  · try dsimp only
    split at h
    · exact Or.inr (hk _ _ _ h)
    · exact Or.inl h
theorem own_wp_mono {stop : List Nat} {tab : List own_Ent} {E : own_Env} {Q : Nat → Array Slot → List Value → Prop} : ∀ (n : Nat) {pc : Nat} {L : Array Slot} {st : List Value}, own_wp stop tab E Q n pc L st → own_wp stop tab E Q (n + 1) pc L st
  | 0, _, _, _, h => h.elim
  | n + 1, pc, L, st, h => by
    unfold own_wp at h ⊢
    cases hs : own_in stop pc with
    | true => simpa only [hs, cond_true] using h
    | false =>
      simp only [hs, cond_false] at h ⊢
      cases hl : own_look tab pc with
      | none => simpa only [hl] using h
      | some r => simp only [hl] at h ⊢; exact own_nxt_mono (fun _ _ _ z => own_wp_mono n z) (fun z => z) h
theorem own_wp_more {stop : List Nat} {tab : List own_Ent} {E : own_Env} {Q : Nat → Array Slot → List Value → Prop} {n : Nat} {pc : Nat} {L : Array Slot} {st : List Value} (h : own_wp stop tab E Q n pc L st) : ∀ k, own_wp stop tab E Q (k + n) pc L st
  | 0 => by rw [Nat.zero_add]; exact h
  | k + 1 => by rw [Nat.add_right_comm]; exact own_wp_mono _ (own_wp_more h k)
/-- two runs, one behind the other -/
theorem own_join {stop : List Nat} {tab : List own_Ent} {E : own_Env} {Q : Nat → Array Slot → List Value → Prop} {n2 : Nat} : ∀ {n1 : Nat} {pc : Nat} {L : Array Slot} {st : List Value}, own_wp stop tab E (fun pc L st => True ∧ own_wp [] tab E Q n2 pc L st) n1 pc L st → own_wp [] tab E Q (n1 + n2) pc L st
  | 0, _, _, _, h => h.elim
  | n + 1, pc, L, st, h => by
    have e : n + 1 + n2 = n + n2 + 1 := by omega
    unfold own_wp at h
    cases hs : own_in stop pc with
    | true => simp only [hs, cond_true] at h; exact own_wp_more h.2 _
    | false =>
      simp only [hs, cond_false] at h
      cases hl : own_look tab pc with
      | none => simp only [hl] at h; exact own_wp_more h.2 _
      | some r =>
        simp only [hl] at h
        rw [e]
        unfold own_wp
        simp only [own_in, cond_false, hl]
        rcases own_nxt_or (q' := Q pc L st) (fun _ _ _ z => own_join (n1 := n) z) h with z | z
        · have z2 := own_wp_more z.2 (n + 1)
          rw [e] at z2
          unfold own_wp at z2
          simpa only [own_in, cond_false, hl] using z2
        · exact z
theorem own_inb {cl : Cell} {n j : Int32} (S : cl.slots.size = n.toNatClampNeg) (h0 : ¬ j < 0) (hn : j < n) : ¬ (j < 0 ∨ cl.slots.size ≤ j.toNatClampNeg) := by
  rw [S]
  simp only [Int32.lt_iff_toInt_lt, Int32.toNatClampNeg, Int32.reduceToInt] at h0 hn ⊢
  omega
section own_Sound
variable {p : Program} {l : Launch} {e : Env} {R : Room} {s : State} {m : MethodId} {args : Array Value} {below : List Frame} {meth : Method} {c : Code} {locs : List Loc} {cells slots : Nat} {Z : State} {a0 : Array Value}
theorem own_stp_sound {T : State} (X : Stand p l e R s m args below meth c T locs cells slots) (hx : p.tables.exec = Jvm.exec) {code : ByteArray} (hby : c.code = code) (hZ : Z.Warmed39 s.vm) {own : String} (hown : s.vm.findClass own = some m.cls) {ws : List Jvm.Cond} (hw : ∀ d ∈ ws, d.before a0 Z = true)
    {pc nx tg : Nat} {cv : Value} {L L' : Array Slot} {st st' : List Value} {i : Instr} {t : State} (he : own_ok code own ws (pc, i, nx, tg, cv) = true) (h : own_stp L st cv i = some (L', st')) (k : Steps p.tables e below (T.setTop (mkF m nx L' st')) t) : Steps p.tables e below (T.setTop (mkF m pc L st)) t := by
  cases i
  all_goals try (simp [own_stp] at h; done)
  all_goals
    simp only [own_ok, Bool.and_eq_true, decide_eq_true_eq] at he
    simp only [own_len, own_cv, decide_eq_true_eq, and_true] at he
  case iconst z =>
    obtain ⟨⟨hd, rfl⟩, rfl⟩ := he
    simp only [own_stp, Option.some.injEq, Prod.mk.injEq] at h
    obtain ⟨rfl, rfl⟩ := h
    exact XS.iconst X.here hx rfl (hb hby hd) k
  case bipush z =>
    obtain ⟨⟨hd, rfl⟩, rfl⟩ := he
    simp only [own_stp, Option.some.injEq, Prod.mk.injEq] at h
    obtain ⟨rfl, rfl⟩ := h
    exact XS.bipush X.here hx rfl (hb hby hd) k
  case sipush z =>
    obtain ⟨⟨hd, rfl⟩, rfl⟩ := he
    simp only [own_stp, Option.some.injEq, Prod.mk.injEq] at h
    obtain ⟨rfl, rfl⟩ := h
    exact XS.sipush X.here hx rfl (hb hby hd) k
  case lconst z =>
    obtain ⟨⟨hd, rfl⟩, rfl⟩ := he
    simp only [own_stp, Option.some.injEq, Prod.mk.injEq] at h
    obtain ⟨rfl, rfl⟩ := h
    exact XT.lconst X.here hx rfl (hb hby hd) k
  case ldc idx =>
    obtain ⟨⟨hd, rfl⟩, hc⟩ := he
    simp only [own_stp, Option.some.injEq, Prod.mk.injEq] at h
    obtain ⟨rfl, rfl⟩ := h
    cases cv <;> first | (simp at hc; done) | skip
    exact X.ldcInt hx hown (mvT hZ (hw _ (List.contains_iff_mem.mp hc))) (g := mkF m pc L st) rfl (hb hby hd) _ k
  case ldc2_w idx =>
    obtain ⟨⟨hd, rfl⟩, hc⟩ := he
    simp only [own_stp, Option.some.injEq, Prod.mk.injEq] at h
    obtain ⟨rfl, rfl⟩ := h
    cases cv <;> first | (simp at hc; done) | skip
    exact X.ldc2Long hx hown (mvT hZ (hw _ (List.contains_iff_mem.mp hc))) (g := mkF m pc L st) rfl (hb hby hd) _ k
  case iload z =>
    obtain ⟨hd, rfl⟩ := he
    simp only [own_stp, own_ldI] at h
    split at h
    · rename_i v hl
      simp only [Option.some.injEq, Prod.mk.injEq] at h
      obtain ⟨rfl, rfl⟩ := h
      exact XS.iload X.here hx rfl (hb hby hd) hl k
    · cases h
  case iload_n z =>
    obtain ⟨hd, rfl⟩ := he
    simp only [own_stp, own_ldI] at h
    split at h
    · rename_i v hl
      simp only [Option.some.injEq, Prod.mk.injEq] at h
      obtain ⟨rfl, rfl⟩ := h
      exact XS.iloadN X.here hx rfl (hb hby hd) hl k
    · cases h
  case lload z =>
    obtain ⟨hd, rfl⟩ := he
    simp only [own_stp, own_ldJ] at h
    split at h
    · rename_i v hl
      simp only [Option.some.injEq, Prod.mk.injEq] at h
      obtain ⟨rfl, rfl⟩ := h
      exact XT.lload X.here hx rfl (hb hby hd) hl k
    · cases h
  case lload_n z =>
    obtain ⟨hd, rfl⟩ := he
    simp only [own_stp, own_ldJ] at h
    split at h
    · rename_i v hl
      simp only [Option.some.injEq, Prod.mk.injEq] at h
      obtain ⟨rfl, rfl⟩ := h
      exact XT.lloadN X.here hx rfl (hb hby hd) hl k
    · cases h
  case aload z =>
    obtain ⟨hd, rfl⟩ := he
    simp only [own_stp, own_ldA] at h
    split at h
    · rename_i v hl
      simp only [Option.some.injEq, Prod.mk.injEq] at h
      obtain ⟨rfl, rfl⟩ := h
      exact XS.aload X.here hx rfl (hb hby hd) hl rfl k
    · cases h
  case aload_n z =>
    obtain ⟨hd, rfl⟩ := he
    simp only [own_stp, own_ldA] at h
    split at h
    · rename_i v hl
      simp only [Option.some.injEq, Prod.mk.injEq] at h
      obtain ⟨rfl, rfl⟩ := h
      exact XS.aloadN X.here hx rfl (hb hby hd) hl rfl k
    · cases h
  case istore z =>
    obtain ⟨hd, rfl⟩ := he
    simp only [own_stp, own_stI] at h
    split at h
    · rename_i v r
      simp only [own_put] at h
      split at h
      · rename_i l' hl
        simp only [Option.some.injEq, Prod.mk.injEq] at h
        obtain ⟨rfl, rfl⟩ := h
        exact XS.istore X.here hx rfl (hb hby hd) rfl hl k
      · cases h
    · cases h
  case istore_n z =>
    obtain ⟨hd, rfl⟩ := he
    simp only [own_stp, own_stI] at h
    split at h
    · rename_i v r
      simp only [own_put] at h
      split at h
      · rename_i l' hl
        simp only [Option.some.injEq, Prod.mk.injEq] at h
        obtain ⟨rfl, rfl⟩ := h
        exact XS.istoreN X.here hx rfl (hb hby hd) rfl hl k
      · cases h
    · cases h
  case lstore z =>
    obtain ⟨hd, rfl⟩ := he
    simp only [own_stp, own_stJ] at h
    split at h
    · rename_i v r
      simp only [own_put] at h
      split at h
      · rename_i l' hl
        simp only [Option.some.injEq, Prod.mk.injEq] at h
        obtain ⟨rfl, rfl⟩ := h
        exact XT.lstore X.here hx rfl (hb hby hd) rfl hl k
      · cases h
    · cases h
  case lstore_n z =>
    obtain ⟨hd, rfl⟩ := he
    simp only [own_stp, own_stJ] at h
    split at h
    · rename_i v r
      simp only [own_put] at h
      split at h
      · rename_i l' hl
        simp only [Option.some.injEq, Prod.mk.injEq] at h
        obtain ⟨rfl, rfl⟩ := h
        exact XT.lstoreN X.here hx rfl (hb hby hd) rfl hl k
      · cases h
    · cases h
  case astore z =>
    obtain ⟨hd, rfl⟩ := he
    simp only [own_stp, own_stA] at h
    split at h
    · rename_i v r
      simp only [own_put] at h
      split at h
      · rename_i l' hl
        simp only [Option.some.injEq, Prod.mk.injEq] at h
        obtain ⟨rfl, rfl⟩ := h
        exact XS.astore X.here hx rfl (hb hby hd) rfl rfl hl k
      · cases h
    · cases h
  case astore_n z =>
    obtain ⟨hd, rfl⟩ := he
    simp only [own_stp, own_stA] at h
    split at h
    · rename_i v r
      simp only [own_put] at h
      split at h
      · rename_i l' hl
        simp only [Option.some.injEq, Prod.mk.injEq] at h
        obtain ⟨rfl, rfl⟩ := h
        exact XS.astoreN X.here hx rfl (hb hby hd) rfl rfl hl k
      · cases h
    · cases h
  case iadd =>
    obtain ⟨hd, rfl⟩ := he
    simp only [own_stp, own_bI] at h
    split at h
    · simp only [Option.some.injEq, Prod.mk.injEq] at h
      obtain ⟨rfl, rfl⟩ := h
      exact XS.iadd X.here hx rfl (hb hby hd) rfl k
    · cases h
  case isub =>
    obtain ⟨hd, rfl⟩ := he
    simp only [own_stp, own_bI] at h
    split at h
    · simp only [Option.some.injEq, Prod.mk.injEq] at h
      obtain ⟨rfl, rfl⟩ := h
      exact XS.isub X.here hx rfl (hb hby hd) rfl k
    · cases h
  case imul =>
    obtain ⟨hd, rfl⟩ := he
    simp only [own_stp, own_bI] at h
    split at h
    · simp only [Option.some.injEq, Prod.mk.injEq] at h
      obtain ⟨rfl, rfl⟩ := h
      exact XS.imul X.here hx rfl (hb hby hd) rfl k
    · cases h
  case iand =>
    obtain ⟨hd, rfl⟩ := he
    simp only [own_stp, own_bI] at h
    split at h
    · simp only [Option.some.injEq, Prod.mk.injEq] at h
      obtain ⟨rfl, rfl⟩ := h
      exact XS.iand X.here hx rfl (hb hby hd) rfl k
    · cases h
  case ior =>
    obtain ⟨hd, rfl⟩ := he
    simp only [own_stp, own_bI] at h
    split at h
    · simp only [Option.some.injEq, Prod.mk.injEq] at h
      obtain ⟨rfl, rfl⟩ := h
      exact XT.ior X.here hx rfl (hb hby hd) rfl k
    · cases h
  case ixor =>
    obtain ⟨hd, rfl⟩ := he
    simp only [own_stp, own_bI] at h
    split at h
    · simp only [Option.some.injEq, Prod.mk.injEq] at h
      obtain ⟨rfl, rfl⟩ := h
      exact XT.ixor X.here hx rfl (hb hby hd) rfl k
    · cases h
  case ishl =>
    obtain ⟨hd, rfl⟩ := he
    simp only [own_stp, own_bI] at h
    split at h
    · simp only [Option.some.injEq, Prod.mk.injEq] at h
      obtain ⟨rfl, rfl⟩ := h
      exact XT.ishl X.here hx rfl (hb hby hd) rfl k
    · cases h
  case ishr =>
    obtain ⟨hd, rfl⟩ := he
    simp only [own_stp, own_bI] at h
    split at h
    · simp only [Option.some.injEq, Prod.mk.injEq] at h
      obtain ⟨rfl, rfl⟩ := h
      exact XT.ishr X.here hx rfl (hb hby hd) rfl k
    · cases h
  case iushr =>
    obtain ⟨hd, rfl⟩ := he
    simp only [own_stp, own_bI] at h
    split at h
    · simp only [Option.some.injEq, Prod.mk.injEq] at h
      obtain ⟨rfl, rfl⟩ := h
      exact XT.iushr X.here hx rfl (hb hby hd) rfl k
    · cases h
  case ladd =>
    obtain ⟨hd, rfl⟩ := he
    simp only [own_stp, own_bJ] at h
    split at h
    · simp only [Option.some.injEq, Prod.mk.injEq] at h
      obtain ⟨rfl, rfl⟩ := h
      exact XT.ladd X.here hx rfl (hb hby hd) rfl k
    · cases h
  case lsub =>
    obtain ⟨hd, rfl⟩ := he
    simp only [own_stp, own_bJ] at h
    split at h
    · simp only [Option.some.injEq, Prod.mk.injEq] at h
      obtain ⟨rfl, rfl⟩ := h
      exact XT.lsub X.here hx rfl (hb hby hd) rfl k
    · cases h
  case lmul =>
    obtain ⟨hd, rfl⟩ := he
    simp only [own_stp, own_bJ] at h
    split at h
    · simp only [Option.some.injEq, Prod.mk.injEq] at h
      obtain ⟨rfl, rfl⟩ := h
      exact XT.lmul X.here hx rfl (hb hby hd) rfl k
    · cases h
  case land =>
    obtain ⟨hd, rfl⟩ := he
    simp only [own_stp, own_bJ] at h
    split at h
    · simp only [Option.some.injEq, Prod.mk.injEq] at h
      obtain ⟨rfl, rfl⟩ := h
      exact XT.land X.here hx rfl (hb hby hd) rfl k
    · cases h
  case lor =>
    obtain ⟨hd, rfl⟩ := he
    simp only [own_stp, own_bJ] at h
    split at h
    · simp only [Option.some.injEq, Prod.mk.injEq] at h
      obtain ⟨rfl, rfl⟩ := h
      exact XT.lor X.here hx rfl (hb hby hd) rfl k
    · cases h
  case lxor =>
    obtain ⟨hd, rfl⟩ := he
    simp only [own_stp, own_bJ] at h
    split at h
    · simp only [Option.some.injEq, Prod.mk.injEq] at h
      obtain ⟨rfl, rfl⟩ := h
      exact XT.lxor X.here hx rfl (hb hby hd) rfl k
    · cases h
  case lshl =>
    obtain ⟨hd, rfl⟩ := he
    simp only [own_stp, own_sJ] at h
    split at h
    · simp only [Option.some.injEq, Prod.mk.injEq] at h
      obtain ⟨rfl, rfl⟩ := h
      exact XT.lshl X.here hx rfl (hb hby hd) rfl k
    · cases h
  case lshr =>
    obtain ⟨hd, rfl⟩ := he
    simp only [own_stp, own_sJ] at h
    split at h
    · simp only [Option.some.injEq, Prod.mk.injEq] at h
      obtain ⟨rfl, rfl⟩ := h
      exact XT.lshr X.here hx rfl (hb hby hd) rfl k
    · cases h
  case lushr =>
    obtain ⟨hd, rfl⟩ := he
    simp only [own_stp, own_sJ] at h
    split at h
    · simp only [Option.some.injEq, Prod.mk.injEq] at h
      obtain ⟨rfl, rfl⟩ := h
      exact XT.lushr X.here hx rfl (hb hby hd) rfl k
    · cases h
  case i2b =>
    obtain ⟨hd, rfl⟩ := he
    simp only [own_stp, own_uI] at h
    split at h
    · simp only [Option.some.injEq, Prod.mk.injEq] at h
      obtain ⟨rfl, rfl⟩ := h
      exact XT.i2b X.here hx rfl (hb hby hd) rfl k
    · cases h
  case i2c =>
    obtain ⟨hd, rfl⟩ := he
    simp only [own_stp, own_uI] at h
    split at h
    · simp only [Option.some.injEq, Prod.mk.injEq] at h
      obtain ⟨rfl, rfl⟩ := h
      exact XT.i2c X.here hx rfl (hb hby hd) rfl k
    · cases h
  case i2s =>
    obtain ⟨hd, rfl⟩ := he
    simp only [own_stp, own_uI] at h
    split at h
    · simp only [Option.some.injEq, Prod.mk.injEq] at h
      obtain ⟨rfl, rfl⟩ := h
      exact XT.i2s X.here hx rfl (hb hby hd) rfl k
    · cases h
  case i2l =>
    obtain ⟨hd, rfl⟩ := he
    simp only [own_stp, own_uI] at h
    split at h
    · simp only [Option.some.injEq, Prod.mk.injEq] at h
      obtain ⟨rfl, rfl⟩ := h
      exact XT.i2l X.here hx rfl (hb hby hd) rfl k
    · cases h
  case l2i =>
    obtain ⟨hd, rfl⟩ := he
    simp only [own_stp, own_uI] at h
    split at h
    · simp only [Option.some.injEq, Prod.mk.injEq] at h
      obtain ⟨rfl, rfl⟩ := h
      exact XT.l2i X.here hx rfl (hb hby hd) rfl k
    · cases h
  case lneg =>
    obtain ⟨hd, rfl⟩ := he
    simp only [own_stp, own_uI] at h
    split at h
    · simp only [Option.some.injEq, Prod.mk.injEq] at h
      obtain ⟨rfl, rfl⟩ := h
      exact XT.lneg X.here hx rfl (hb hby hd) rfl k
    · cases h
  case lcmp =>
    obtain ⟨hd, rfl⟩ := he
    simp only [own_stp, own_uI] at h
    split at h
    · simp only [Option.some.injEq, Prod.mk.injEq] at h
      obtain ⟨rfl, rfl⟩ := h
      exact XT.lcmp X.here hx rfl (hb hby hd) rfl k
    · cases h
  case iinc z q =>
    obtain ⟨hd, rfl⟩ := he
    simp only [own_stp] at h
    split at h
    · rename_i v hl
      simp only [own_put] at h
      split at h
      · rename_i l' hl'
        simp only [Option.some.injEq, Prod.mk.injEq] at h
        obtain ⟨rfl, rfl⟩ := h
        exact XS.iinc X.here hx rfl (hb hby hd) hl hl' k
      · cases h
    · cases h
  case dup =>
    obtain ⟨hd, rfl⟩ := he
    simp only [own_stp] at h
    split at h
    · simp only [Option.some.injEq, Prod.mk.injEq] at h
      obtain ⟨rfl, rfl⟩ := h
      exact XS.dup X.here hx rfl (hb hby hd) rfl rfl k
    · cases h
/-- a reading method's contract: where P says so of the heap, the arguments and v it returns v, keeps the heap, makes nothing -/
def own_Pure (l : Launch) (Z : State) (y : MethodName) (bytes : ByteArray) (maxL : Nat) (ret : Option FieldType) (rm : Room) (P : Heap → List Value → Value → Prop) : Prop :=
  ∀ (ws : List Jvm.Cond) (h0 : Heap) (as : List Value) (w : Value), P h0 as w → MetFree l y (head1 (Jvm.Cond.code y bytes maxL ret :: ws) rm) (fun a U => a = as.toArray ∧ Z.Warmed39 U.vm ∧ U.heap = h0) (fun _ _ _ _ _ => True)
    (fun _ U o U' => ∃ v L, o = .returned v ∧ (v = some w ∧ L = [] ∧ U'.heap = h0) ∧ FrameEnd U o U' L rm.cells rm.slots)
/-- a static call of the table 'own' at entry q.1 -/
def own_CallOk (l : Launch) (Z : State) (a0 : Array Value) (own : String) (R : Room) (W : Nat) (q : own_Call) : Prop :=
  ∃ (y : MethodName) (bytes : ByteArray) (maxL : Nat) (ret : Option FieldType) (rm : Room), own_Pure l Z y bytes maxL ret rm q.2.2 ∧ (Jvm.Cond.methodLink own q.1 y).before a0 Z = true ∧ (Jvm.Cond.static y).before a0 Z = true ∧ (Jvm.Cond.initialized y.cls).before a0 Z = true ∧ (Jvm.Cond.code y bytes maxL ret).before a0 Z = true ∧
    (y.cls ≠ "java/lang/invoke/MethodHandle" ∧ y.cls ≠ "java/lang/invoke/VarHandle") ∧ (∃ ps r, parseMethodDescriptor y.desc = some ⟨ps, r⟩ ∧ q.2.1 = ps.length) ∧ rm.cells = 0 ∧ rm.slots = 0 ∧ rm.frames + 1 ≤ R.frames ∧ W + (maxL + 11) + rm.locals ≤ R.locals
/-- a virtual call on an object of the class y.cls itself -/
def own_VirtOk (l : Launch) (Z : State) (a0 : Array Value) (own : String) (R : Room) (W : Nat) (q : own_Call) : Prop :=
  ∃ (y : MethodName) (bytes : ByteArray) (maxL : Nat) (ret : Option FieldType) (rm : Room), own_Pure l Z y bytes maxL ret rm q.2.2 ∧ (∀ h a as w, q.2.2 h (.ref a :: as) w → Exa Z h a y.cls) ∧ (Jvm.Cond.methodLink own q.1 y).before a0 Z = true ∧ (Jvm.Cond.declares y).before a0 Z = true ∧ (Jvm.Cond.selects y.cls y y).before a0 Z = true ∧ (Jvm.Cond.instanceMethod y).before a0 Z = true ∧ (Jvm.Cond.initialized y.cls).before a0 Z = true ∧ (Jvm.Cond.code y bytes maxL ret).before a0 Z = true ∧
    (y.cls ≠ "java/lang/invoke/MethodHandle" ∧ y.cls ≠ "java/lang/invoke/VarHandle") ∧ (∃ ps r, parseMethodDescriptor y.desc = some ⟨ps, r⟩ ∧ q.2.1 = ps.length) ∧ rm.cells = 0 ∧ rm.slots = 0 ∧ rm.frames + 1 ≤ R.frames ∧ W + (maxL + 11) + rm.locals ≤ R.locals
def own_FldOk (Z : State) (a0 : Array Value) (own : String) (h : Heap) (q : own_Fld) : Prop :=
  ∃ R0 O n d, (Jvm.Cond.fieldLink own q.1 R0 n d).before a0 Z = true ∧ Via Z R0 O n d ∧ Fld Z h q.2.1 O n d q.2.2
def own_ArrOk (Z : State) (h : Heap) (q : own_Arr) : Prop := ∃ k, Arv Z h q.1 k q.2.2.1 q.2.1 q.2.2.2.1 q.2.2.2.2
def own_EnvOk (l : Launch) (Z : State) (a0 : Array Value) (own : String) (R : Room) (E : own_Env) : Prop :=
  (∀ q ∈ E.1, own_CallOk l Z a0 own R E.2.2.2.2.2.2 q) ∧ (∀ q ∈ E.2.1, own_VirtOk l Z a0 own R E.2.2.2.2.2.2 q) ∧ (∀ q ∈ E.2.2.1, own_FldOk Z a0 own E.2.2.2.2.1 q) ∧ (∀ q ∈ E.2.2.2.1, own_ArrOk Z E.2.2.2.2.1 q)
theorem own_wp_sound (hx : p.tables.exec = Jvm.exec) {code : ByteArray} (hby : c.code = code) (hZ : Z.Warmed39 s.vm) {own : String} (hown : s.vm.findClass own = some m.cls) {ws : List Jvm.Cond} (hw : ∀ d ∈ ws, d.before a0 Z = true)
    {tab : List own_Ent} (hT : tab.all (own_ok code own ws) = true) {E : own_Env} (hml : c.maxLocals = E.2.2.2.2.2.1) (hE : own_EnvOk l Z a0 own R E) (hcl : cells ≤ R.cells) (hsl : slots ≤ R.slots) {stop : List Nat} {Q : Nat → Array Slot → List Value → Prop} :
    ∀ (n pc : Nat) (L : Array Slot) (st : List Value) {T : State}, Stand p l e R s m args below meth c T locs cells slots → T.heap = E.2.2.2.2.1 → own_wp stop tab E Q n pc L st →
      ∃ T' pc' L' st', Stand p l e R s m args below meth c T' locs cells slots ∧ T'.heap = E.2.2.2.2.1 ∧ Q pc' L' st' ∧ ∀ t, Steps p.tables e below (T'.setTop (mkF m pc' L' st')) t → Steps p.tables e below (T.setTop (mkF m pc L st)) t := by
  obtain ⟨hC, hV, hF, hA⟩ := hE
  intro n
  induction n with
  | zero => intro pc L st T X eT h; exact h.elim
  | succ n ih =>
    intro pc L st T X eT h
    have stay : Q pc L st → ∃ T' pc' L' st', Stand p l e R s m args below meth c T' locs cells slots ∧ T'.heap = E.2.2.2.2.1 ∧ Q pc' L' st' ∧ ∀ t, Steps p.tables e below (T'.setTop (mkF m pc' L' st')) t → Steps p.tables e below (T.setTop (mkF m pc L st)) t := fun h => ⟨T, pc, L, st, X, eT, h, fun _ k => k⟩
    have go : ∀ {pc1 : Nat} {L1 : Array Slot} {st1 : List Value} {T1 : State}, Stand p l e R s m args below meth c T1 locs cells slots → T1.heap = E.2.2.2.2.1 → own_wp stop tab E Q n pc1 L1 st1 → (∀ t, Steps p.tables e below (T1.setTop (mkF m pc1 L1 st1)) t → Steps p.tables e below (T.setTop (mkF m pc L st)) t) →
        ∃ T' pc' L' st', Stand p l e R s m args below meth c T' locs cells slots ∧ T'.heap = E.2.2.2.2.1 ∧ Q pc' L' st' ∧ ∀ t, Steps p.tables e below (T'.setTop (mkF m pc' L' st')) t → Steps p.tables e below (T.setTop (mkF m pc L st)) t := by
      intro pc1 L1 st1 T1 X1 e1 h1 k1
      obtain ⟨T', pc', L', st', X', e', q', k'⟩ := ih pc1 L1 st1 X1 e1 h1
      exact ⟨T', pc', L', st', X', e', q', fun t k => k1 t (k' t k)⟩
    unfold own_wp at h
    cases hs : own_in stop pc with
    | true => rw [hs] at h; exact stay h
    | false =>
    rw [hs] at h
    simp only [cond_false] at h
    cases hl : own_look tab pc with
    | none => rw [hl] at h; exact stay h
    | some r =>
      obtain ⟨i, nx, tg, cv⟩ := r
      rw [hl] at h
      have he : own_ok code own ws (pc, i, nx, tg, cv) = true := List.all_eq_true.mp hT _ (own_look_mem hl)
      dsimp only at h
      unfold own_nxt at h
      split at h
      · rename_i cd o
        simp only [own_ok, Bool.and_eq_true, decide_eq_true_eq] at he
        obtain ⟨⟨⟨hd, ho⟩, ht⟩, rfl⟩ := he
        split at h
        · rename_i y x r
          by_cases hc : own_icmp cd x y
          · exact go X eT (h.1 hc) (fun t k => XS.icmpYes X.here hx rfl (pc0 := pc) rfl (hb hby hd) rfl (own_icmp_iff.mpr hc) ho ht k)
          · exact go X eT (h.2 hc) (fun t k => XS.icmpNo X.here hx rfl (hb hby hd) rfl (by simpa using mt own_icmp_iff.mp hc) k)
        · exact stay h
      · rename_i cd o
        simp only [own_ok, Bool.and_eq_true, decide_eq_true_eq] at he
        obtain ⟨⟨⟨hd, ho⟩, ht⟩, rfl⟩ := he
        split at h
        · rename_i x r
          by_cases hc : own_icmp cd x 0
          · exact go X eT (h.1 hc) (fun t k => XS.ifYes X.here hx rfl (pc0 := pc) rfl (hb hby hd) rfl (own_if_iff.mpr hc) ho ht k)
          · exact go X eT (h.2 hc) (fun t k => XS.ifNo X.here hx rfl (hb hby hd) rfl (by simpa using mt own_if_iff.mp hc) k)
        · exact stay h
      · rename_i o
        simp only [own_ok, Bool.and_eq_true, decide_eq_true_eq] at he
        obtain ⟨⟨hd, ho⟩, ht⟩ := he
        exact go X eT h (fun t k => XS.goto X.here hx rfl (pc0 := pc) rfl (hb hby hd) ho ht k)
      · simp only [own_ok, Bool.and_eq_true, decide_eq_true_eq] at he
        simp only [own_len, own_cv, decide_eq_true_eq, and_true] at he
        obtain ⟨hd, rfl⟩ := he
        split at h
        · exact go X eT h.2 (fun t k => iremM X hx (g := mkF m pc L _) rfl (hb hby hd) rfl h.1 k)
        · exact stay h
      · simp only [own_ok, Bool.and_eq_true, decide_eq_true_eq] at he
        simp only [own_len, own_cv, decide_eq_true_eq, and_true] at he
        obtain ⟨hd, rfl⟩ := he
        split at h
        · exact go X eT h.2 (fun t k => XS.idiv X.here hx rfl (hb hby hd) rfl h.1 k)
        · exact stay h
      · simp only [own_ok, Bool.and_eq_true, decide_eq_true_eq] at he
        simp only [own_len, own_cv, decide_eq_true_eq, and_true] at he
        obtain ⟨hd, rfl⟩ := he
        split at h
        · exact go X eT h.2 (fun t k => XT.lrem X.here hx rfl (hb hby hd) rfl h.1 k)
        · exact stay h
      · simp only [own_ok, Bool.and_eq_true, decide_eq_true_eq] at he
        simp only [own_len, own_cv, decide_eq_true_eq, and_true] at he
        obtain ⟨hd, rfl⟩ := he
        split at h
        · exact go X eT h.2 (fun t k => XT.ldiv X.here hx rfl (hb hby hd) rfl h.1 k)
        · exact stay h
      · rename_i idx
        simp only [own_ok, Bool.and_eq_true, decide_eq_true_eq] at he
        simp only [own_len, own_cv, decide_eq_true_eq, and_true] at he
        obtain ⟨hd, rfl⟩ := he
        split at h
        · rename_i n' P hC'
          obtain ⟨w, hP, hlen, hcat, hsz, h⟩ := h
          obtain ⟨y, bytes, maxL, ret, rm, hM, w1, w2, w3, w4, hy, ⟨ps, rr, hsig, hpl⟩, hrc, hrs, hf, hlo⟩ := hC _ (own_lookC_mem hC')
          dsimp only at hM hpl
          obtain ⟨v, vm₁, ⟨T2, L2, k2, n2⟩, -, X2, ⟨Lc, hQ, l2, y2, z2⟩, st2⟩ := Jvm.LawKit.callS X hx (y := y) hown (mvT hZ w1) (mvT hZ w2) (mvT hZ w3) (mvT hZ w4) hy
            (backOf (W := E.2.2.2.2.2.2) (Q := fun v h L => v = some w ∧ L = [] ∧ h = E.2.2.2.2.1) (hM [] E.2.2.2.2.1 (st.take n').reverse w hP) hZ w4 w3 hf hlo) (g := mkF m pc L st) rfl (by rw [hml]; exact hsz) (argsL := (st.take n').reverse) (rest := st.drop n')
            (lenOf hsig (by rw [List.length_reverse, hlen]; exact hpl)) (by simp) (by show 2 * 0 + own_cat _ ≤ _; omega) (hb hby hd) (fun _ _ => ⟨rfl, eT, by rw [hrc]; exact hcl, by rw [hrs]; exact hsl⟩)
          dsimp only [Pt.U, Pt.locs, Pt.cells, Pt.slots] at X2 l2 y2 z2 st2 hQ
          subst l2 y2 z2
          obtain ⟨rfl, rfl, hh⟩ := hQ
          rw [hrc, hrs] at X2
          simp only [List.append_nil, Nat.add_zero] at X2
          exact go X2 hh h (fun t k => st2 t k)
        · exact stay h
      · rename_i idx
        simp only [own_ok, Bool.and_eq_true, decide_eq_true_eq] at he
        simp only [own_len, own_cv, decide_eq_true_eq, and_true] at he
        obtain ⟨hd, rfl⟩ := he
        split at h
        · rename_i n' P hC'
          split at h
          · rename_i a r hdrop
            obtain ⟨w, hP, hlen, hcat, hsz, h⟩ := h
            obtain ⟨y, bytes, maxL, ret, rm, hM, hEx, w1, w2, w5, w6, w3, w4, hy, ⟨ps, rr, hsig, hpl⟩, hrc, hrs, hf, hlo⟩ := hV _ (own_lookC_mem hC')
            dsimp only at hM hpl hEx
            obtain ⟨cq, kq, qa, qb, qc⟩ := isOf hZ eT (hEx _ _ _ _ hP)
            obtain ⟨v, vm₁, ⟨T2, L2, k2, n2⟩, -, X2, ⟨Lc, hQ, l2, y2, z2⟩, st2⟩ := X.virtualBack hx (y := y) (z := y) hown (mvT hZ w1) (mvT hZ w2) (notFace_of_selects (args := #[]) (mvT hZ w5)) (mvT hZ w5) (mvT hZ w6) hy
              (backOf (W := E.2.2.2.2.2.2) (Q := fun v h L => v = some w ∧ L = [] ∧ h = E.2.2.2.2.1) (hM [] E.2.2.2.2.1 (.ref a :: (st.take n').reverse) w hP) hZ w4 w3 hf hlo) qa qc (g := mkF m pc L st) rfl (by rw [hml]; exact hsz) (Steps.refl _) (argsL := (st.take n').reverse) (rest := r)
              (lenOf hsig (by rw [List.length_reverse, hlen]; exact hpl)) (by show st = _; rw [List.reverse_reverse, ← hdrop, List.take_append_drop]) (by show 2 * 0 + own_cat _ ≤ _; omega) (hb hby hd) (fun _ _ => ⟨rfl, eT, by rw [hrc]; exact hcl, by rw [hrs]; exact hsl⟩)
            dsimp only [Pt.U, Pt.locs, Pt.cells, Pt.slots] at X2 l2 y2 z2 st2 hQ
            subst l2 y2 z2
            obtain ⟨rfl, rfl, hh⟩ := hQ
            rw [hrc, hrs] at X2
            simp only [List.append_nil, Nat.add_zero] at X2
            exact go X2 hh h (fun t k => st2.trans k)
          · exact stay h
        · exact stay h
      · rename_i idx
        simp only [own_ok, Bool.and_eq_true, decide_eq_true_eq] at he
        simp only [own_len, own_cv, decide_eq_true_eq, and_true] at he
        obtain ⟨hd, rfl⟩ := he
        split at h
        · rename_i a r
          split at h
          · rename_i b v hF'
            obtain ⟨rfl, h⟩ := h
            obtain ⟨R0, O, nn, dd, w1, via, F1⟩ := hF _ (own_lookF_mem hF')
            obtain ⟨T2, X2, e2, st2⟩ := getF X hx hZ hown (host := "") (Or.inl w1) via eT F1 (g := mkF m pc L (.ref a :: r)) rfl rfl (hb hby hd)
            exact go X2 e2 h (fun t k => st2 t k)
          · exact stay h
        · exact stay h
      · simp only [own_ok, Bool.and_eq_true, decide_eq_true_eq] at he
        simp only [own_len, own_cv, decide_eq_true_eq, and_true] at he
        obtain ⟨hd, rfl⟩ := he
        split at h
        · rename_i a r
          split at h
          · rename_i b nn ty vs dd rest hA'
            obtain ⟨rfl, h⟩ := h
            obtain ⟨kk, cl, Ar, -, Sz, Mz, Hz, -⟩ := hA _ (by rw [hA']; exact List.mem_cons_self)
            dsimp only at Ar Sz Mz Hz
            refine go X eT h (fun t k => ?_)
            have k2 := X.arraylength hx (by rw [eT]; exact Ar.1) (State.isArrayOf_alike hZ.alike Ar.2.1) (g := mkF m pc L (.ref a :: r)) rfl rfl (hb hby hd) t
            rw [len_of Sz Mz] at k2
            exact k2 k
          · exact stay h
        · exact stay h
      · simp only [own_ok, Bool.and_eq_true, decide_eq_true_eq] at he
        simp only [own_len, own_cv, decide_eq_true_eq, and_true] at he
        obtain ⟨hd, rfl⟩ := he
        split at h
        · rename_i j a r
          split at h
          · rename_i b nn ty vs dd rest hA'
            obtain ⟨rfl, rfl, hj0, hjn, z, hz, h⟩ := h
            obtain ⟨kk, cl, Ar, -, Sz, Mz, Hz, -⟩ := hA _ (by rw [hA']; exact List.mem_cons_self)
            dsimp only at Ar Sz Mz Hz
            have hin : ¬ (j < 0 ∨ cl.slots.size ≤ j.toNatClampNeg) := own_inb Sz hj0 hjn
            exact go X eT h (fun t k => X.laload hx (j := j) (v := .long z) (by rw [eT]; exact Ar.1) (State.isArrayOf_alike hZ.alike Ar.2.1) Ar.2.2 hin (by rw [Hz _ (Nat.lt_of_not_le fun q => hin (Or.inr q)), hz]) (g := mkF m pc L (.int j :: .ref a :: r)) rfl rfl (hb hby hd) t k)
          · exact stay h
        · exact stay h
      · simp only [own_ok, Bool.and_eq_true, decide_eq_true_eq] at he
        simp only [own_len, own_cv, decide_eq_true_eq, and_true] at he
        obtain ⟨hd, rfl⟩ := he
        split at h
        · rename_i j a r
          split at h
          · rename_i b nn ty vs dd rest hA'
            obtain ⟨rfl, rfl, hj0, hjn, z, hz, h⟩ := h
            obtain ⟨kk, cl, Ar, -, Sz, Mz, Hz, -⟩ := hA _ (by rw [hA']; exact List.mem_cons_self)
            dsimp only at Ar Sz Mz Hz
            have hin : ¬ (j < 0 ∨ cl.slots.size ≤ j.toNatClampNeg) := own_inb Sz hj0 hjn
            exact go X eT h (fun t k => X.baloadBytes hx (j := j) (v := .int z) (by rw [eT]; exact Ar.1) (State.isArrayOf_alike hZ.alike Ar.2.1) Ar.2.2 hin (by rw [Hz _ (Nat.lt_of_not_le fun q => hin (Or.inr q)), hz]) (g := mkF m pc L (.int j :: .ref a :: r)) rfl rfl (hb hby hd) t k)
          · exact stay h
        · exact stay h
      · split at h
        · rename_i L' st' hs
          exact go X eT h (fun t k => own_stp_sound X hx hby hZ hown hw he hs k)
        · exact stay h
/-- what a return hands back -/
def own_top : FieldType → List Value → Option Value
  | .long, .long z :: _ => some (.long z)
  | .int, .int z :: _ => some (.int z)
  | .boolean, .int z :: _ => some (.int (z &&& 1))
  | .byte, .int z :: _ => some (.int (nar .byte z))
  | .char, .int z :: _ => some (.int (nar .char z))
  | .short, .int z :: _ => some (.int (nar .short z))
  | _, _ => none
def own_reti : FieldType → Instr
  | .long => .lreturn
  | _ => .ireturn
theorem own_ret {T : State} (X : Stand p l e R s m args below meth c T locs cells slots) (hx : p.tables.exec = Jvm.exec) {pc : Nat} {L : Array Slot} {st : List Value} {t : FieldType} {v : Value} (hret : meth.sig.returnType = some t) (hd : decode c.code pc = .ok (own_reti t, 1)) (ht : own_top t st = some v) {fs : List Frame}
    (hl : ∀ (f : JFrame) (acts : List Action), f.method = m → f.locked = none → f.entered = [] → (doReturn e (T.setTop f) acts (some v)).1 = T.setFrames fs) : Steps p.tables e below (T.setTop (mkF m pc L st)) (T.setFrames fs) := by
  unfold own_top at ht
  split at ht
  · cases ht; exact retOut X hx hret rfl (Or.inr (Or.inl ⟨rfl, rfl, _, rfl⟩)) hd hl
  · cases ht; exact retOut X hx hret rfl (Or.inl ⟨rfl, Or.inl rfl, _, rfl⟩) hd hl
  · cases ht; exact retN X hx (t := .boolean) hret (by simp) hd hl
  · cases ht; exact retN X hx (t := .byte) hret (by simp) hd hl
  · cases ht; exact retN X hx (t := .char) hret (by simp) hd hl
  · cases ht; exact retN X hx (t := .short) hret (by simp) hd hl
  · cases ht
/-- the end of a reading walk: at one of the returns, with this value -/
def own_retQ (rets : List Nat) (rt : FieldType) (v : Value) (pc : Nat) (_L : Array Slot) (st : List Value) : Prop := rets.contains pc = true ∧ own_top rt st = some v
theorem own_pure {y : MethodName} {bytes : ByteArray} {maxL N : Nat} {rt : FieldType} {rm : Room} {tab : List own_Ent} {ws : List Jvm.Cond} {P : Heap → List Value → Value → Prop} (rets : List Nat) (hp : plainFor y = true) (hw : ∀ d ∈ ws, d.before a0 Z = true)
    (hT : tab.all (own_ok bytes y.cls ws) = true) (hR : rets.all (fun q => decide (decode bytes q = .ok (own_reti rt, 1))) = true) (W : Nat) (C V : List own_Call) (hC : ∀ q ∈ C, own_CallOk l Z a0 y.cls rm W q) (hV : ∀ q ∈ V, own_VirtOk l Z a0 y.cls rm W q)
    (H : ∀ h as v, P h as v → ∃ L0 F A, argsToLocals as.toArray maxL = L0 ∧ (∀ q ∈ F, own_FldOk Z a0 y.cls h q) ∧ (∀ q ∈ A, own_ArrOk Z h q) ∧ own_wp [] tab (C, V, F, A, h, maxL, W) (own_retQ rets rt v) N 0 L0 []) : own_Pure l Z y bytes maxL (some rt) rm P := by
  intro ws' h0 as v hP
  refine MetFree.of_bodySF hp hisR ?_
  intro p e s m args below meth c s₁ Bd hml hQ hK
  obtain ⟨rfl, hZ, hh⟩ := hQ
  have hx := Bd.exec
  have hby := Bd.bytes
  have hown : s.vm.findClass y.cls = some m.cls := findClass_of_methodNamed Bd.named
  have X0 : Stand p l e rm s m as.toArray below meth c s₁ [] 0 0 := Stand.of_body Bd
  have e0 : s₁.heap = h0 := by rw [← hh, Bd.state]; rfl
  obtain ⟨L0, F, A, hL0, hF, hA, hwp⟩ := H h0 as v hP
  subst hL0
  obtain ⟨T, pc, L, st, X, eT, ⟨hpc, htop⟩, k⟩ := own_wp_sound hx hby hZ hown hw hT (E := (C, V, F, A, h0, maxL, W)) hml ⟨hC, hV, hF, hA⟩ (Nat.zero_le _) (Nat.zero_le _) N 0 _ [] X0 e0 hwp
  have hd : decode bytes pc = .ok (own_reti rt, 1) := by simpa using List.all_eq_true.mp hR pc (List.contains_iff_mem.mp hpc)
  obtain ⟨fs, hr, hrun, hended, hW, hsame⟩ := X.leave (v := some v) (fun h => by rw [Bd.returns] at h; cases h)
  refine ⟨_, _, k _ ?_, hrun, hended, _, _, rfl, ⟨rfl, rfl, ?_⟩, ⟨_, rfl⟩, hW, hsame.mono (Nat.zero_le _) (Nat.zero_le _)⟩
  · exact own_ret X hx Bd.returns (hb hby hd) htop hr
  · exact eT
/-- a piece of a walk, its end told -/
theorem own_seg {T : State} (X : Stand p l e R s m args below meth c T locs cells slots) (hx : p.tables.exec = Jvm.exec) {code : ByteArray} (hby : c.code = code) (hZ : Z.Warmed39 s.vm) {own : String} (hown : s.vm.findClass own = some m.cls) {ws : List Jvm.Cond} (hw : ∀ d ∈ ws, d.before a0 Z = true)
    {tab : List own_Ent} (hT : tab.all (own_ok code own ws) = true) {E : own_Env} (hml : c.maxLocals = E.2.2.2.2.2.1) (hE : own_EnvOk l Z a0 own R E) (hcl : cells ≤ R.cells) (hsl : slots ≤ R.slots) (eT : T.heap = E.2.2.2.2.1) {stop : List Nat} {n pc0 pc1 : Nat} {L0 L1 : Array Slot} {st0 st1 : List Value}
    (h : own_wp stop tab E (fun pc L st => pc = pc1 ∧ L = L1 ∧ st = st1) n pc0 L0 st0) :
    ∃ T', Stand p l e R s m args below meth c T' locs cells slots ∧ T'.heap = E.2.2.2.2.1 ∧ ∀ t, Steps p.tables e below (T'.setTop (mkF m pc1 L1 st1)) t → Steps p.tables e below (T.setTop (mkF m pc0 L0 st0)) t := by
  obtain ⟨T', _, _, _, X', e', ⟨rfl, rfl, rfl⟩, k⟩ := own_wp_sound hx hby hZ hown hw hT hml hE hcl hsl n pc0 L0 st0 X eT h
  exact ⟨T', X', e', k⟩
end own_Sound
def own_tb0 : List own_Ent := [(0, .lload_n 0, 1, 0, .null), (1, .ldc2_w 9, 4, 0, (.long 9223372036854775807)), (4, .land, 5, 0, .null), (5, .ldc2_w 11, 8, 0, (.long 1000001)), (8, .lrem, 9, 0, .null), (9, .lstore 6, 11, 0, .null), (11, .ldc2_w 13, 14, 0, (.long (-1))), (14, .lload_n 2, 15, 0, .null), (15, .ldc2_w 9, 18, 0, (.long 9223372036854775807)), (18, .land, 19, 0, .null), (19, .lsub, 20, 0, .null), (20, .lstore 8, 22, 0, .null), (22, .ldc2_w 11, 25, 0, (.long 1000001)), (25, .lload 4, 27, 0, .null), (27, .ldc2_w 9, 30, 0, (.long 9223372036854775807)), (30, .land, 31, 0, .null), (31, .ldc2_w 15, 34, 0, (.long 9223372036853775807)), (34, .lrem, 35, 0, .null), (35, .ladd, 36, 0, .null), (36, .lstore 10, 38, 0, .null), (38, .lload 6, 40, 0, .null), (40, .invokestatic 17, 43, 0, .null), (43, .ifCond .ne 5, 46, 48, .null), (46, .iconst 0, 47, 0, (.int 0)), (48, .lload 8, 50, 0, .null), (50, .invokestatic 17, 53, 0, .null), (53, .ifCond .eq 5, 56, 58, .null), (56, .iconst 0, 57, 0, (.int 0)), (58, .lload 10, 60, 0, .null), (60, .invokestatic 17, 63, 0, .null), (63, .ifCond .eq 5, 66, 68, .null), (66, .iconst 0, 67, 0, (.int 0)), (68, .lconst 0, 69, 0, (.long 0)), (69, .invokestatic 17, 72, 0, .null), (72, .ifCond .eq 12, 75, 84, .null), (75, .ldc2_w 23, 78, 0, (.long 1000000)), (78, .invokestatic 17, 81, 0, .null), (81, .ifCond .ne 5, 84, 86, .null), (84, .iconst 0, 85, 0, (.int 0)), (86, .ldc2_w 13, 89, 0, (.long (-1))), (89, .invokestatic 17, 92, 0, .null), (92, .ifCond .ne 12, 95, 104, .null), (95, .ldc2_w 11, 98, 0, (.long 1000001)), (98, .invokestatic 17, 101, 0, .null), (101, .ifCond .eq 5, 104, 106, .null), (104, .iconst 0, 105, 0, (.int 0)), (109, .dup, 110, 0, .null), (110, .lload 6, 112, 0, .null), (112, .l2i, 113, 0, .null), (116, .astore 12, 118, 0, .null), (118, .aload 12, 120, 0, .null), (120, .invokevirtual 28, 123, 0, .null), (123, .i2l, 124, 0, .null), (124, .lload 6, 126, 0, .null), (126, .lcmp, 127, 0, .null), (127, .ifCond .ne 7, 130, 134, .null), (130, .iconst 1, 131, 0, (.int 1)), (131, .goto 4, 0, 135, .null), (134, .iconst 0, 135, 0, (.int 0))]
theorem own_tb0_ok : own_tb0.all (own_ok code "com/example/incentd/incentd/programs/EarnRateAllowsPinLaw" tables_1) = true := by decide +kernel
def own_tb1 : List own_Ent := [(0, .lload_n 0, 1, 0, .null), (1, .lconst 0, 2, 0, (.long 0)), (2, .lcmp, 3, 0, .null), (3, .ifCond .lt 15, 6, 18, .null), (6, .lload_n 0, 7, 0, .null), (7, .ldc2_w 26, 10, 0, (.long 1000000)), (10, .lcmp, 11, 0, .null), (11, .ifCond .gt 7, 14, 18, .null), (14, .iconst 1, 15, 0, (.int 1)), (15, .goto 4, 0, 19, .null), (18, .iconst 0, 19, 0, (.int 0))]
theorem own_tb1_ok : own_tb1.all (own_ok prog_9_method_2_code "com/example/incentd/incentd/programs/EarnRate" tables_1) = true := by decide +kernel
def own_tb2 : List own_Ent := [(0, .aload_n 0, 1, 0, .null), (4, .iload_n 1, 5, 0, .null), (5, .i2l, 6, 0, .null), (6, .invokestatic 7, 9, 0, .null), (9, .ifCond .ne 17, 12, 26, .null), (15, .dup, 16, 0, .null), (16, .iload_n 1, 17, 0, .null), (26, .aload_n 0, 27, 0, .null), (27, .iload_n 1, 28, 0, .null)]
theorem own_tb2_ok : own_tb2.all (own_ok prog_9_method_1_code "com/example/incentd/incentd/programs/EarnRate" tables_1) = true := by decide +kernel
def own_tb3 : List own_Ent := [(0, .aload_n 0, 1, 0, .null)]
theorem own_tb3_ok : own_tb3.all (own_ok jdk_30_method_1_code "java/lang/Record" tables_1) = true := by decide +kernel
def own_tb4 : List own_Ent := []
theorem own_tb4_ok : own_tb4.all (own_ok object_method_1_code "java/lang/Object" tables_1) = true := by decide +kernel
def own_tb5 : List own_Ent := [(0, .aload_n 0, 1, 0, .null), (1, .getfield 22, 4, 0, .null)]
theorem own_tb5_ok : own_tb5.all (own_ok prog_9_method_7_code "com/example/incentd/incentd/programs/EarnRate" tables_1) = true := by decide +kernel
theorem own_cmpL0 (a b : Int64) : XT.cmpL a b = 0 ↔ a = b := by
  unfold XT.cmpL
  by_cases h1 : b < a
  · rw [if_pos h1]
    exact ⟨fun z => absurd z (by decide), fun z => absurd (z ▸ h1) (Int64.lt_irrefl)⟩
  · rw [if_neg h1]
    by_cases h2 : a = b
    · rw [if_pos h2]; exact ⟨fun _ => h2, fun _ => rfl⟩
    · rw [if_neg h2]; exact ⟨fun z => absurd z (by decide), fun z => absurd z h2⟩
theorem own_cmpL_cases (a b : Int64) : (b < a ∧ XT.cmpL a b = 1) ∨ (a = b ∧ XT.cmpL a b = 0) ∨ (a < b ∧ XT.cmpL a b = -1) := by
  unfold XT.cmpL
  by_cases h1 : b < a
  · rw [if_pos h1]; exact Or.inl ⟨h1, rfl⟩
  · rw [if_neg h1]
    by_cases h2 : a = b
    · rw [if_pos h2]; exact Or.inr (Or.inl ⟨h2, rfl⟩)
    · rw [if_neg h2]
      refine Or.inr (Or.inr ⟨?_, rfl⟩)
      have h3 : a.toInt ≠ b.toInt := fun z => h2 (Int64.toInt_inj.mp z)
      rw [Int64.lt_iff_toInt_lt] at h1 ⊢
      omega
theorem own_cmpLlt (a b : Int64) : XT.cmpL a b < 0 ↔ a.toInt < b.toInt := by
  rcases own_cmpL_cases a b with ⟨h, e⟩ | ⟨h, e⟩ | ⟨h, e⟩ <;> rw [e]
  · rw [Int64.lt_iff_toInt_lt] at h; exact ⟨fun z => absurd z (by decide), fun z => by omega⟩
  · subst h; exact ⟨fun z => absurd z (by decide), fun z => by omega⟩
  · rw [Int64.lt_iff_toInt_lt] at h; exact ⟨fun _ => h, fun _ => by decide⟩
theorem own_cmpLgt (a b : Int64) : 0 < XT.cmpL a b ↔ b.toInt < a.toInt := by
  rcases own_cmpL_cases a b with ⟨h, e⟩ | ⟨h, e⟩ | ⟨h, e⟩ <;> rw [e]
  · rw [Int64.lt_iff_toInt_lt] at h; exact ⟨fun _ => h, fun _ => by decide⟩
  · subst h; exact ⟨fun z => absurd z (by decide), fun z => by omega⟩
  · rw [Int64.lt_iff_toInt_lt] at h; exact ⟨fun z => absurd z (by decide), fun z => by omega⟩
theorem own_cmpLle (a b : Int64) : XT.cmpL a b ≤ 0 ↔ a.toInt ≤ b.toInt := by
  rcases own_cmpL_cases a b with ⟨h, e⟩ | ⟨h, e⟩ | ⟨h, e⟩ <;> rw [e]
  · rw [Int64.lt_iff_toInt_lt] at h; exact ⟨fun z => absurd z (by decide), fun z => by omega⟩
  · subst h; exact ⟨fun _ => Int.le_refl _, fun _ => by decide⟩
  · rw [Int64.lt_iff_toInt_lt] at h; exact ⟨fun _ => by omega, fun _ => by decide⟩
theorem own_cmpLge (a b : Int64) : 0 ≤ XT.cmpL a b ↔ b.toInt ≤ a.toInt := by
  rcases own_cmpL_cases a b with ⟨h, e⟩ | ⟨h, e⟩ | ⟨h, e⟩ <;> rw [e]
  · rw [Int64.lt_iff_toInt_lt] at h; exact ⟨fun _ => by omega, fun _ => by decide⟩
  · subst h; exact ⟨fun _ => Int.le_refl _, fun _ => by decide⟩
  · rw [Int64.lt_iff_toInt_lt] at h; exact ⟨fun z => absurd z (by decide), fun z => by omega⟩
theorem own_d3_0 : decode jdk_30_method_1_code 0 = .ok (.aload_n 0, 1) := by decide +kernel
theorem own_d3_1 : decode jdk_30_method_1_code 1 = .ok (.invokespecial 1, 3) := by decide +kernel
theorem own_d3_4 : decode jdk_30_method_1_code 4 = .ok (.return_, 1) := by decide +kernel
theorem own_ef3 (m : MethodId) (x0 : Addr) : entryFrame m #[(.ref x0)] 1 = mkF m 0 #[.val (.ref x0)] [] := by first | (simp [entryFrame, mkF, argsToLocals, Value.category]; done) | rfl
abbrev own_room3 : Room := { frames := 1, cells := 0, slots := 0, locals := 12 }
def own_Q3 (h0 : Heap) (v : Option Value) (h : Heap) (L : List Loc) : Prop := v = none ∧ L = [] ∧ h = h0
set_option maxRecDepth 65536 in
theorem own_rm3 (l : Launch) (Z : State) (a0 : Array Value) (hw : ∀ d ∈ tables_1, d.before a0 Z = true) (ws : List Jvm.Cond) (a1 : Addr) (h0 : Heap) :
    MetFree l (⟨"java/lang/Record", "<init>", "()V"⟩ : MethodName) (head1 (Jvm.Cond.code (⟨"java/lang/Record", "<init>", "()V"⟩ : MethodName) jdk_30_method_1_code 1 none :: ws) own_room3) (fun a U => a = #[(.ref a1)] ∧ Z.Warmed39 U.vm ∧ U.heap = h0) (fun _ _ _ _ _ => True) (fun _ U o U' => ∃ v L, o = .returned v ∧ own_Q3 h0 v U'.heap L ∧ FrameEnd U o U' L own_room3.cells own_room3.slots) := by
  refine MetFree.of_bodySF (plainFor_of_name (by decide +kernel)) hisR ?_
  intro p e s m args below meth c s₁ Bd hml0 hP hK
  obtain ⟨rfl, hZ, hh⟩ := hP
  have hx := Bd.exec
  have hby := Bd.bytes
  have hml : c.maxLocals = 1 := hml0
  have hown : s.vm.findClass "java/lang/Record" = some m.cls := findClass_of_methodNamed Bd.named
  have X0 : Stand p l e own_room3 s m #[(.ref a1)] below meth c s₁ [] 0 0 := Stand.of_body Bd
  have e0 : s₁.heap = h0 := by rw [← hh, Bd.state]; rfl
  have pre0 : ∀ t, Steps p.tables e below (s₁.setTop (mkF m 0 #[.val (.ref a1)] [])) t → Steps p.tables e below (s₁.setTop (entryFrame m #[(.ref a1)] 1)) t := fun t k => castTop (own_ef3 m a1) k
  obtain ⟨T2, X2, e2, st2⟩ := initO X0 hx hZ hown (hw _ (List.mem_of_getElem? (i := 20) rfl)) (hw _ (List.mem_of_getElem? (i := 21) rfl)) (hw _ (List.mem_of_getElem? (i := 22) rfl)) e0 (g := (mkF m 1 #[.val (.ref a1)] [(.ref a1)])) rfl (by rw [hml]; rfl) rfl (hb hby own_d3_1) (by decide) (W := 0) (by show 2 * 0 + _ ≤ _; exact Nat.le_of_eq rfl) (by decide)
  obtain ⟨fs, hr, hrun, hended, hW, hsame⟩ := X2.leave (v := none) (fun _ => rfl)
  refine ⟨_, _, pre0 _ ?_, hrun, hended, _, _, rfl, ?_, ⟨_, rfl⟩, hW, hsame.mono (by decide) (by decide)⟩
  · refine XS.aloadN X0.here hx rfl (hb hby own_d3_0) rfl rfl ?_
    show Steps p.tables e below (s₁.setTop (mkF m 1 #[.val (.ref a1)] [(.ref a1)])) _
    refine st2 _ ?_
    show Steps p.tables e below (T2.setTop (mkF m 4 #[.val (.ref a1)] [])) _
    exact X2.returnOut hx Bd.returns (hb hby own_d3_4) hr
  · exact ⟨rfl, rfl, e2⟩
theorem own_pdV : parseMethodDescriptor "()V" = some ⟨[], none⟩ := by decide +kernel
abbrev own_ER : String := "com/example/incentd/incentd/programs/EarnRate"
def own_al (x : Int64) : Int32 := if x.toInt < 0 then 0 else if 1000000 < x.toInt then 0 else 1
def own_P1 (_h : Heap) (as : List Value) (v : Value) : Prop := ∃ x, as = [.long x] ∧ v = .int (own_al x)
theorem own_m1 (l : Launch) (Z : State) (a0 : Array Value) (hw : ∀ d ∈ tables_1, d.before a0 Z = true) : own_Pure l Z ⟨own_ER, "allows", "(J)Z"⟩ prog_9_method_2_code 2 (some .boolean) ({ frames := 0, cells := 0, slots := 0, locals := 0 } : Room) own_P1 := by
  refine own_pure (N := 30) (tab := own_tb1) [19] (plainFor_of_name (by decide +kernel)) hw own_tb1_ok (by decide +kernel) 0 [] [] (fun q hq => by cases hq) (fun q hq => by cases hq) ?_
  rintro h as v ⟨x, rfl, rfl⟩
  refine ⟨#[.val (.long x), .second], [], [], by simp [argsToLocals, Value.category], (fun q hq => by cases hq), (fun q hq => by cases hq), ?_⟩
  refine And.intro (fun h1 => ?_) (fun h1 => And.intro (fun h2 => ?_) (fun h2 => ?_))
  · have e1 : x.toInt < 0 := (own_cmpLlt x 0).mp h1
    exact And.intro rfl (by simp [own_top, own_al, e1])
  · have e1 : ¬ x.toInt < 0 := fun z => h1 ((own_cmpLlt x 0).mpr z)
    have e2 : 1000000 < x.toInt := (own_cmpLgt x 1000000).mp h2
    exact And.intro rfl (by simp [own_top, own_al, e1, e2])
  · have e1 : ¬ x.toInt < 0 := fun z => h1 ((own_cmpLlt x 0).mpr z)
    have e2 : ¬ 1000000 < x.toInt := fun z => h2 ((own_cmpLgt x 1000000).mpr z)
    exact And.intro rfl (by simp [own_top, own_al, e1, e2])
def own_P5 (Z : State) (h : Heap) (as : List Value) (v : Value) : Prop := ∃ a z, as = [.ref a] ∧ Exa Z h a own_ER ∧ Fld Z h a own_ER "basisPoints" "I" (.int z) ∧ v = .int z
theorem own_m5 (l : Launch) (Z : State) (a0 : Array Value) (hw : ∀ d ∈ tables_1, d.before a0 Z = true) : own_Pure l Z ⟨own_ER, "basisPoints", "()I"⟩ prog_9_method_7_code 1 (some .int) ({ frames := 0, cells := 0, slots := 0, locals := 0 } : Room) (own_P5 Z) := by
  refine own_pure (N := 30) (tab := own_tb5) [4] (plainFor_of_name (by decide +kernel)) hw own_tb5_ok (by decide +kernel) 0 [] [] (fun q hq => by cases hq) (fun q hq => by cases hq) ?_
  rintro h as v ⟨a, z, rfl, hE, hF, rfl⟩
  refine ⟨#[.val (.ref a)], [(22, a, .int z)], [], by simp [argsToLocals, Value.category], ?_, (fun q hq => by cases hq), ?_⟩
  · intro q hq
    obtain rfl : q = (22, a, .int z) := by simpa using hq
    exact ⟨own_ER, own_ER, "basisPoints", "I", hw _ (List.mem_of_getElem? (i := 24) rfl), Via.refl, hF⟩
  · exact And.intro rfl (And.intro rfl rfl)
abbrev own_room2 : Room := { frames := 2, cells := 0, slots := 0, locals := 24 }
def own_Q2 (Z : State) (a1 : Addr) (p2 : Int32) (h0 : Heap) (n0 : Nat) (v : Option Value) (h : Heap) (L : List Loc) : Prop := v = none ∧ Fr n0 L ∧ Keep h0 h [a1] ∧ Fld Z h a1 own_ER "basisPoints" "I" (.int p2)
theorem own_d2_0 : decode prog_9_method_1_code 0 = .ok (.aload_n 0, 1) := by decide +kernel
theorem own_d2_1 : decode prog_9_method_1_code 1 = .ok (.invokespecial 1, 3) := by decide +kernel
theorem own_d2_28 : decode prog_9_method_1_code 28 = .ok (.putfield 22, 3) := by decide +kernel
theorem own_d2_31 : decode prog_9_method_1_code 31 = .ok (.return_, 1) := by decide +kernel
theorem own_ef2 (m : MethodId) (x0 : Addr) (x1 : Int32) : entryFrame m #[(.ref x0), (.int x1)] 2 = mkF m 0 #[.val (.ref x0), .val (.int x1)] [] := by first | (simp [entryFrame, mkF, argsToLocals, Value.category]; done) | rfl
theorem own_callAl (l : Launch) (Z : State) (a0 : Array Value) (hw : ∀ d ∈ tables_1, d.before a0 Z = true) {own : String} {R : Room} {W idx : Nat} (hl : (Jvm.Cond.methodLink own idx ⟨own_ER, "allows", "(J)Z"⟩).before a0 Z = true) (hf : 1 ≤ R.frames) (hlo : W + 13 ≤ R.locals) : own_CallOk l Z a0 own R W (idx, 1, own_P1) :=
  ⟨_, _, _, _, _, own_m1 l Z a0 hw, hl, hw _ (List.mem_of_getElem? (i := 5) rfl), hw _ (List.mem_of_getElem? (i := 6) rfl), hw _ (List.mem_of_getElem? (i := 7) rfl), by decide, ⟨_, _, (by decide +kernel : parseMethodDescriptor "(J)Z" = some ⟨[.long], some .boolean⟩), rfl⟩, rfl, rfl, hf, hlo⟩
set_option maxRecDepth 65536 in
set_option maxHeartbeats 4000000 in
theorem own_rm2 (l : Launch) (Z : State) (a0 : Array Value) (hw : ∀ d ∈ tables_1, d.before a0 Z = true) (ws : List Jvm.Cond) (a1 : Addr) (p2 : Int32) (u : Value) (h0 : Heap) (n0 : Nat) (E1 : Exa Z h0 a1 own_ER) (F1 : Fld Z h0 a1 own_ER "basisPoints" "I" u) (g1 : n0 ≤ a1) (hp0 : 0 ≤ p2.toInt) (hp1 : p2.toInt ≤ 1000000) :
    MetFree l (⟨own_ER, "<init>", "(I)V"⟩ : MethodName) (head1 (Jvm.Cond.code (⟨own_ER, "<init>", "(I)V"⟩ : MethodName) prog_9_method_1_code 2 none :: ws) own_room2) (fun a U => a = #[(.ref a1), (.int p2)] ∧ Z.Warmed39 U.vm ∧ U.heap = h0) (fun _ _ _ _ _ => True) (fun _ U o U' => ∃ v L, o = .returned v ∧ own_Q2 Z a1 p2 h0 n0 v U'.heap L ∧ FrameEnd U o U' L own_room2.cells own_room2.slots) := by
  refine MetFree.of_bodySF (plainFor_of_name (by decide +kernel)) hisR ?_
  intro p e s m args below meth c s₁ Bd hml0 hP hK
  obtain ⟨rfl, hZ, hh⟩ := hP
  have hx := Bd.exec
  have hby := Bd.bytes
  have hml : c.maxLocals = 2 := hml0
  have hown : s.vm.findClass own_ER = some m.cls := findClass_of_methodNamed Bd.named
  have hnm := (name_of_methodNamed Bd.named Bd.method).1
  have X0 : Stand p l e own_room2 s m #[(.ref a1), (.int p2)] below meth c s₁ [] 0 0 := Stand.of_body Bd
  have e0 : s₁.heap = h0 := by rw [← hh, Bd.state]; rfl
  have N0 := Fr.nil n0
  have pre0 : ∀ t, Steps p.tables e below (s₁.setTop (mkF m 0 #[.val (.ref a1), .val (.int p2)] [])) t → Steps p.tables e below (s₁.setTop (entryFrame m #[(.ref a1), (.int p2)] 2)) t := fun t k => castTop (own_ef2 m a1 p2) k
  obtain ⟨_, _, ⟨T3, L3, k3, n3⟩, -, X3, ⟨Lc3, hQ3, l3, y3, z3⟩, st3⟩ := X0.specialBack hx (y := (⟨"java/lang/Record", "<init>", "()V"⟩ : MethodName)) rfl hown (mvT hZ (hw _ (List.mem_of_getElem? (i := 15) rfl))) (mvT hZ (hw _ (List.mem_of_getElem? (i := 16) rfl))) (mvT hZ (hw _ (List.mem_of_getElem? (i := 19) rfl))) (by decide) (backOf (W := 0) (own_rm3 l Z a0 hw [] a1 h0) hZ (hw _ (List.mem_of_getElem? (i := 19) rfl)) (hw _ (List.mem_of_getElem? (i := 18) rfl)) (by decide) (by decide)) (g := (mkF m 1 #[.val (.ref a1), .val (.int p2)] [(.ref a1)])) rfl (by rw [hml]; rfl) (Steps.refl _) (a := a1) (argsL := []) (rest := []) (lenOf own_pdV rfl) rfl (by show 2 * 0 + _ ≤ _; exact Nat.le_of_eq rfl) (hb hby own_d2_1) (fun _ _ => ⟨rfl, e0, (by decide : 0 + 0 ≤ _), (by decide : 0 + 0 ≤ _)⟩)
  dsimp only [Pt.U, Pt.locs, Pt.cells, Pt.slots] at X3 l3 y3 z3 st3 hQ3
  subst l3 y3 z3
  obtain ⟨rfl, rfl, e3⟩ := hQ3
  have el : (p2.toInt64).toInt = p2.toInt := Jvm.Kit.i64_of_i32 p2
  have hC2 : ∀ q ∈ [((7, 1, own_P1) : own_Call)], own_CallOk l Z a0 own_ER own_room2 0 q := fun q hq => by
    obtain rfl : q = (7, 1, own_P1) := by simpa using hq
    exact own_callAl l Z a0 hw (hw _ (List.mem_of_getElem? (i := 23) rfl)) (by decide) (by decide)
  obtain ⟨T4, X4, e4, st4⟩ := own_seg X3 hx hby hZ hown hw own_tb2_ok (E := ([(7, 1, own_P1)], [], [], [], h0, 2, 0)) hml
    ⟨hC2, (fun q hq => by cases hq), (fun q hq => by cases hq), (fun q hq => by cases hq)⟩
    (by decide) (by decide) e3 (stop := []) (n := 20) (pc0 := 4) (pc1 := 28) (L0 := #[.val (.ref a1), .val (.int p2)]) (L1 := #[.val (.ref a1), .val (.int p2)]) (st0 := []) (st1 := [.int p2, .ref a1]) (by
      refine Exists.intro (.int 1) (And.intro ⟨p2.toInt64, rfl, by simp [own_al, el, show ¬ p2.toInt < 0 by omega, show ¬ 1000000 < p2.toInt by omega]⟩ (And.intro rfl (And.intro (Nat.le_of_ble_eq_true rfl) (And.intro rfl ?_))))
      refine And.intro (fun _ => ?_) (fun q => absurd (show ¬ (1 : Int32) = 0 by decide) q)
      exact And.intro rfl (And.intro rfl rfl))
  obtain ⟨T5, h5, X5, e5, W5, st5⟩ := putF X4 hx hZ hown (host := "") (Or.inl (hw _ (List.mem_of_getElem? (i := 24) rfl))) Via.refl e4 F1 E1 (Or.inr ⟨(hw _ (List.mem_of_getElem? (i := 25) rfl)), rfl, hnm⟩) (hw _ (List.mem_of_getElem? (i := 11) rfl)) (ty := .int) (by decide) rfl rfl (g := (mkF m 28 #[.val (.ref a1), .val (.int p2)] [(.int p2), (.ref a1)])) rfl rfl (hb hby own_d2_28)
  have N5 := Fr.snoc X5 N0 g1
  obtain ⟨fs, hr, hrun, hended, hW, hsame⟩ := X5.leave (v := none) (fun _ => rfl)
  refine ⟨_, _, pre0 _ ?_, hrun, hended, _, _, rfl, ?_, ⟨_, rfl⟩, hW, hsame.mono (by decide) (by decide)⟩
  · refine XS.aloadN X0.here hx rfl (hb hby own_d2_0) rfl rfl ?_
    show Steps p.tables e below (s₁.setTop (mkF m 1 #[.val (.ref a1), .val (.int p2)] [(.ref a1)])) _
    refine st3.trans ?_
    show Steps p.tables e below (T3.setTop (mkF m 4 #[.val (.ref a1), .val (.int p2)] [])) _
    refine st4 _ ?_
    refine st5 _ ?_
    show Steps p.tables e below (T5.setTop (mkF m 31 #[.val (.ref a1), .val (.int p2)] [])) _
    exact X5.returnOut hx Bd.returns (hb hby own_d2_31) hr
  · show own_Q2 Z a1 p2 h0 n0 _ T5.heap _
    rw [e5]
    exact ⟨rfl, N5, (Keep.refl _ _).wr W5 (Or.inl (List.mem_of_getElem? (i := 0) rfl)), F1.same W5⟩
abbrev own_C : List own_Call := [(17, 1, own_P1)]
abbrev own_V (Z : State) : List own_Call := [(28, 0, own_P5 Z)]
theorem own_w0a (Z : State) (a b c : Int64) (h : Heap) : own_wp [11] own_tb0 (own_C, own_V Z, [], [], h, 13, 0) (fun pc L st => pc = 11 ∧ L = #[.val (.long a), .second, .val (.long b), .second, .val (.long c), .second, .val (.long ((a &&& 9223372036854775807) - (a &&& 9223372036854775807) / 1000001 * 1000001)), .second, .unset, .unset, .unset, .unset, .unset] ∧ st = []) 20 0 #[.val (.long a), .second, .val (.long b), .second, .val (.long c), .second, .unset, .unset, .unset, .unset, .unset, .unset, .unset] [] := by
  exact And.intro (by decide) (And.intro rfl (And.intro rfl rfl))
theorem own_w0b (Z : State) (a b c i : Int64) (h : Heap) : own_wp [22] own_tb0 (own_C, own_V Z, [], [], h, 13, 0) (fun pc L st => pc = 22 ∧ L = #[.val (.long a), .second, .val (.long b), .second, .val (.long c), .second, .val (.long i), .second, .val (.long (-1 - (b &&& 9223372036854775807))), .second, .unset, .unset, .unset] ∧ st = []) 20 11 #[.val (.long a), .second, .val (.long b), .second, .val (.long c), .second, .val (.long i), .second, .unset, .unset, .unset, .unset, .unset] [] := by
  exact And.intro rfl (And.intro rfl rfl)
theorem own_w0c (Z : State) (a b c i bl : Int64) (h : Heap) : own_wp [38] own_tb0 (own_C, own_V Z, [], [], h, 13, 0) (fun pc L st => pc = 38 ∧ L = #[.val (.long a), .second, .val (.long b), .second, .val (.long c), .second, .val (.long i), .second, .val (.long bl), .second, .val (.long (1000001 + ((c &&& 9223372036854775807) - (c &&& 9223372036854775807) / 9223372036853775807 * 9223372036853775807))), .second, .unset] ∧ st = []) 20 22 #[.val (.long a), .second, .val (.long b), .second, .val (.long c), .second, .val (.long i), .second, .val (.long bl), .second, .unset, .unset, .unset] [] := by
  exact And.intro (by decide) (And.intro rfl (And.intro rfl rfl))
set_option maxHeartbeats 2000000 in
theorem own_w38 (Z : State) (a b c i bl ab : Int64) (h : Heap) (hi0 : 0 ≤ i.toInt) (hi1 : i.toInt ≤ 1000000) (hb : bl.toInt < 0) (ha : 1000000 < ab.toInt) : own_wp [] own_tb0 (own_C, own_V Z, [], [], h, 13, 0) (fun pc L st => pc = 106 ∧ L = #[.val (.long a), .second, .val (.long b), .second, .val (.long c), .second, .val (.long i), .second, .val (.long bl), .second, .val (.long ab), .second, .unset] ∧ st = []) 60 38 #[.val (.long a), .second, .val (.long b), .second, .val (.long c), .second, .val (.long i), .second, .val (.long bl), .second, .val (.long ab), .second, .unset] [] := by
  refine Exists.intro (.int 1) (And.intro ⟨_, rfl, by simp [own_al, show ¬ i.toInt < 0 by omega, show ¬ 1000000 < i.toInt by omega]⟩ (And.intro rfl (And.intro (Nat.le_of_ble_eq_true rfl) (And.intro rfl ?_))))
  refine And.intro (fun _ => ?_) (fun q => absurd (show ¬ (1 : Int32) = 0 by decide) q)
  refine Exists.intro (.int 0) (And.intro ⟨_, rfl, by simp [own_al, hb]⟩ (And.intro rfl (And.intro (Nat.le_of_ble_eq_true rfl) (And.intro rfl ?_))))
  refine And.intro (fun _ => ?_) (fun q => absurd rfl q)
  refine Exists.intro (.int 0) (And.intro ⟨_, rfl, by simp [own_al, show ¬ ab.toInt < 0 by omega, ha]⟩ (And.intro rfl (And.intro (Nat.le_of_ble_eq_true rfl) (And.intro rfl ?_))))
  refine And.intro (fun _ => ?_) (fun q => absurd rfl q)
  refine Exists.intro (.int 1) (And.intro ⟨_, rfl, rfl⟩ (And.intro rfl (And.intro (Nat.le_of_ble_eq_true rfl) (And.intro rfl ?_))))
  refine And.intro (fun q => absurd (show (1 : Int32) = 0 from q) (by decide)) (fun _ => ?_)
  refine Exists.intro (.int 1) (And.intro ⟨_, rfl, rfl⟩ (And.intro rfl (And.intro (Nat.le_of_ble_eq_true rfl) (And.intro rfl ?_))))
  refine And.intro (fun _ => ?_) (fun q => absurd (show ¬ (1 : Int32) = 0 by decide) q)
  refine Exists.intro (.int 0) (And.intro ⟨_, rfl, rfl⟩ (And.intro rfl (And.intro (Nat.le_of_ble_eq_true rfl) (And.intro rfl ?_))))
  refine And.intro (fun q => absurd rfl q) (fun _ => ?_)
  refine Exists.intro (.int 0) (And.intro ⟨_, rfl, rfl⟩ (And.intro rfl (And.intro (Nat.le_of_ble_eq_true rfl) (And.intro rfl ?_))))
  refine And.intro (fun _ => ?_) (fun q => absurd rfl q)
  exact And.intro rfl (And.intro rfl rfl)
theorem own_na (a : Int64) : 0 ≤ ((a &&& 9223372036854775807) - (a &&& 9223372036854775807) / 1000001 * 1000001).toInt ∧ ((a &&& 9223372036854775807) - (a &&& 9223372036854775807) / 1000001 * 1000001).toInt ≤ 1000000 := by
  have ma : (a &&& 9223372036854775807).toInt = a.toInt % 2 ^ 63 := Jvm.Kit.i64_mask a 9223372036854775807 (k := 63) (by decide) (by decide)
  have h0 : 0 ≤ (a &&& 9223372036854775807).toInt := by rw [ma]; exact Int.emod_nonneg _ (by decide)
  have qa := Jvm.Kit.i64_rem_nonneg (y := 1000001) h0
  have t : (1000001 : Int64).toInt = 1000001 := by decide
  rw [t] at qa
  rw [qa]
  exact ⟨Int.emod_nonneg _ (by decide), by omega⟩
theorem own_nb (b : Int64) : (-1 - (b &&& 9223372036854775807)).toInt < 0 := by
  have mb : (b &&& 9223372036854775807).toInt = b.toInt % 2 ^ 63 := Jvm.Kit.i64_mask b 9223372036854775807 (k := 63) (by decide) (by decide)
  have h0 : 0 ≤ (b &&& 9223372036854775807).toInt := by rw [mb]; exact Int.emod_nonneg _ (by decide)
  have h1 : (b &&& 9223372036854775807).toInt < 2 ^ 63 := Int64.toInt_lt _
  have t : (-1 : Int64).toInt = -1 := by decide
  have q := Jvm.Kit.i64_sub (x := -1) (y := b &&& 9223372036854775807) (by rw [t]; omega) (by rw [t]; omega)
  rw [q, t]
  omega
theorem own_nc (c : Int64) : 1000000 < (1000001 + ((c &&& 9223372036854775807) - (c &&& 9223372036854775807) / 9223372036853775807 * 9223372036853775807)).toInt := by
  have mc : (c &&& 9223372036854775807).toInt = c.toInt % 2 ^ 63 := Jvm.Kit.i64_mask c 9223372036854775807 (k := 63) (by decide) (by decide)
  have h0 : 0 ≤ (c &&& 9223372036854775807).toInt := by rw [mc]; exact Int.emod_nonneg _ (by decide)
  have qc := Jvm.Kit.i64_rem_nonneg (y := 9223372036853775807) h0
  have t : (9223372036853775807 : Int64).toInt = 9223372036853775807 := by decide
  have t1 : (1000001 : Int64).toInt = 1000001 := by decide
  rw [t] at qc
  have l1 := Int.emod_nonneg (c &&& 9223372036854775807).toInt (show (9223372036853775807 : Int) ≠ 0 by decide)
  have l2 := Int.emod_lt_of_pos (c &&& 9223372036854775807).toInt (show (0 : Int) < 9223372036853775807 by decide)
  rw [← qc] at l1 l2
  have q := Jvm.Kit.i64_add (x := 1000001) (y := (c &&& 9223372036854775807) - (c &&& 9223372036854775807) / 9223372036853775807 * 9223372036853775807) (by rw [t1]; omega) (by rw [t1]; omega)
  rw [q, t1]
  omega
theorem own_efL (m : MethodId) (x0 x1 x2 : Int64) : entryFrame m #[(.long x0), (.long x1), (.long x2)] maxLocals = mkF m 0 #[.val (.long x0), .second, .val (.long x1), .second, .val (.long x2), .second, .unset, .unset, .unset, .unset, .unset, .unset, .unset] [] := by first | (simp [entryFrame, mkF, argsToLocals, Value.category, maxLocals]; done) | rfl
set_option maxRecDepth 65536 in
set_option maxHeartbeats 4000000 in
theorem own_law (l : Launch) (Z : State) (a0 : Array Value) (hw : ∀ d ∈ tables_1, d.before a0 Z = true) (ws : List Jvm.Cond) (a b c' : Int64) (h0 : Heap) (n0 : Nat) (Z0 : n0 ≤ h0.size) :
    MetFree l x (head1 (Jvm.Cond.code x code maxLocals ret :: ws) room_1) (fun a' U => a' = #[(.long a), (.long b), (.long c')] ∧ Z.Warmed39 U.vm ∧ U.heap = h0) (fun _ _ _ _ _ => True) (fun _ U o U' => ∃ v L, o = .returned v ∧ (v = some (.int 1) ∧ Fr n0 L) ∧ FrameEnd U o U' L room_1.cells room_1.slots) := by
  refine MetFree.of_bodySF (plainFor_of_name (by decide +kernel)) hisR ?_
  intro p e s m args below meth c s₁ Bd hml0 hP hK
  obtain ⟨rfl, hZ, hh⟩ := hP
  have hx := Bd.exec
  have hby := Bd.bytes
  have hml : c.maxLocals = 13 := hml0
  have hown : s.vm.findClass "com/example/incentd/incentd/programs/EarnRateAllowsPinLaw" = some m.cls := findClass_of_methodNamed Bd.named
  have X0 : Stand p l e room_1 s m #[(.long a), (.long b), (.long c')] below meth c s₁ [] 0 0 := Stand.of_body Bd
  have e0 : s₁.heap = h0 := by rw [← hh, Bd.state]; rfl
  have N0 := Fr.nil n0
  have hC : ∀ q ∈ own_C, own_CallOk l Z a0 "com/example/incentd/incentd/programs/EarnRateAllowsPinLaw" room_1 0 q := fun q hq => by
    obtain rfl : q = (17, 1, own_P1) := by simpa using hq
    exact own_callAl l Z a0 hw (hw _ (List.mem_of_getElem? (i := 4) rfl)) (by decide) (by decide)
  have hV : ∀ q ∈ own_V Z, own_VirtOk l Z a0 "com/example/incentd/incentd/programs/EarnRateAllowsPinLaw" room_1 0 q := fun q hq => by
    obtain rfl : q = (28, 0, own_P5 Z) := by simpa using hq
    refine ⟨_, _, _, _, _, own_m5 l Z a0 hw, ?_, hw _ (List.mem_of_getElem? (i := 26) rfl), hw _ (List.mem_of_getElem? (i := 27) rfl), hw _ (List.mem_of_getElem? (i := 29) rfl), hw _ (List.mem_of_getElem? (i := 28) rfl), hw _ (List.mem_of_getElem? (i := 6) rfl), hw _ (List.mem_of_getElem? (i := 30) rfl), by decide, ⟨_, _, (by decide +kernel : parseMethodDescriptor "()I" = some ⟨[], some .int⟩), rfl⟩, rfl, rfl, by decide, by decide⟩
    rintro h a as w ⟨a', z, e1, hE, -⟩
    cases e1
    exact hE
  have pre0 : ∀ t, Steps p.tables e below (s₁.setTop (mkF m 0 #[.val (.long a), .second, .val (.long b), .second, .val (.long c'), .second, .unset, .unset, .unset, .unset, .unset, .unset, .unset] [])) t → Steps p.tables e below (s₁.setTop (entryFrame m #[(.long a), (.long b), (.long c')] maxLocals)) t := fun t k => castTop (own_efL m a b c') k
  obtain ⟨T1a, X1a, e1a, st1a⟩ := own_seg X0 hx hby hZ hown hw own_tb0_ok (E := (own_C, own_V Z, [], [], h0, 13, 0)) hml ⟨hC, hV, (fun q hq => by cases hq), (fun q hq => by cases hq)⟩ (by decide) (by decide) e0 (own_w0a Z a b c' h0)
  obtain ⟨T1b, X1b, e1b, st1b⟩ := own_seg X1a hx hby hZ hown hw own_tb0_ok (E := (own_C, own_V Z, [], [], h0, 13, 0)) hml ⟨hC, hV, (fun q hq => by cases hq), (fun q hq => by cases hq)⟩ (by decide) (by decide) e1a (own_w0b Z a b c' ((a &&& 9223372036854775807) - (a &&& 9223372036854775807) / 1000001 * 1000001) h0)
  obtain ⟨T1, X1, e1, st1⟩ := own_seg X1b hx hby hZ hown hw own_tb0_ok (E := (own_C, own_V Z, [], [], h0, 13, 0)) hml ⟨hC, hV, (fun q hq => by cases hq), (fun q hq => by cases hq)⟩ (by decide) (by decide) e1b (own_w0c Z a b c' ((a &&& 9223372036854775807) - (a &&& 9223372036854775807) / 1000001 * 1000001) (-1 - (b &&& 9223372036854775807)) h0)
  obtain ⟨hi0, hi1⟩ := own_na a
  have hbl := own_nb b
  have hab := own_nc c'
  generalize ((a &&& 9223372036854775807) - (a &&& 9223372036854775807) / 1000001 * 1000001) = i at *
  generalize (1000001 + ((c' &&& 9223372036854775807) - (c' &&& 9223372036854775807) / 9223372036853775807 * 9223372036853775807)) = ab at *
  generalize (-1 - (b &&& 9223372036854775807)) = bl at *
  obtain ⟨T2, X2, e2, st2⟩ := own_seg X1 hx hby hZ hown hw own_tb0_ok (E := (own_C, own_V Z, [], [], h0, 13, 0)) hml ⟨hC, hV, (fun q hq => by cases hq), (fun q hq => by cases hq)⟩ (by decide) (by decide) e1 (own_w38 Z a b c' i bl ab h0 hi0 hi1 hbl hab)
  obtain ⟨T3, h3, X3, e3, E3, A3, D3, -, st3⟩ := newO X2 hx hZ hown (hw _ (List.mem_of_getElem? (i := 10) rfl)) (hw _ (List.mem_of_getElem? (i := 11) rfl)) (hw _ (List.mem_of_getElem? (i := 6) rfl)) e2 (g := (mkF m 106 #[.val (.long a), .second, .val (.long b), .second, .val (.long c'), .second, .val (.long i), .second, .val (.long bl), .second, .val (.long ab), .second, .unset] [])) rfl (hb hby at_106) (by decide) (by decide)
  obtain ⟨a3, g3⟩ : ∃ z, z = h0.size := ⟨_, rfl⟩
  rw [← g3] at A3 D3 st3
  have F3 : Fld Z h3 a3 own_ER "basisPoints" "I" (.int (0 : Int32)) := (D3 (Or.inr (hw _ (List.mem_of_getElem? (i := 25) rfl))) (ty := .int) (by decide))
  obtain ⟨T4, X4, e4, st4⟩ := own_seg X3 hx hby hZ hown hw own_tb0_ok (E := (own_C, own_V Z, [], [], h3, 13, 0)) hml ⟨hC, hV, (fun q hq => by cases hq), (fun q hq => by cases hq)⟩ (by decide) (by decide) e3 (stop := []) (n := 10) (pc0 := 109) (pc1 := 113) (L0 := #[.val (.long a), .second, .val (.long b), .second, .val (.long c'), .second, .val (.long i), .second, .val (.long bl), .second, .val (.long ab), .second, .unset]) (L1 := #[.val (.long a), .second, .val (.long b), .second, .val (.long c'), .second, .val (.long i), .second, .val (.long bl), .second, .val (.long ab), .second, .unset]) (st0 := [.ref a3]) (st1 := [.int i.toInt32, .ref a3, .ref a3]) (And.intro rfl (And.intro rfl rfl))
  have ip : i.toInt32.toInt = i.toInt := Jvm.Kit.i32_of_i64 (by omega) (by omega)
  obtain ⟨_, _, ⟨T5, L5, k5, n5⟩, -, X5, ⟨Lc5, hQ5, l5, y5, z5⟩, st5⟩ := X4.specialBack hx (y := (⟨own_ER, "<init>", "(I)V"⟩ : MethodName)) rfl hown (mvT hZ (hw _ (List.mem_of_getElem? (i := 12) rfl))) (mvT hZ (hw _ (List.mem_of_getElem? (i := 13) rfl))) (mvT hZ (hw _ (List.mem_of_getElem? (i := 14) rfl))) (by decide) (backOf (W := 1) (own_rm2 l Z a0 hw [] a3 i.toInt32 (.int 0) h3 n0 A3 F3 (Nat.le_trans Z0 (Nat.le_of_eq g3.symm)) (by omega) (by omega)) hZ (hw _ (List.mem_of_getElem? (i := 14) rfl)) (hw _ (List.mem_of_getElem? (i := 6) rfl)) (by decide) (by decide)) (g := (mkF m 113 #[.val (.long a), .second, .val (.long b), .second, .val (.long c'), .second, .val (.long i), .second, .val (.long bl), .second, .val (.long ab), .second, .unset] [.int i.toInt32, .ref a3, .ref a3])) rfl (by rw [hml]; rfl) (Steps.refl _) (a := a3) (argsL := [(.int i.toInt32)]) (rest := [(.ref a3)]) (lenOf (by decide +kernel : parseMethodDescriptor "(I)V" = some ⟨[.int], none⟩) rfl) rfl (by show 2 * 0 + _ ≤ _; exact Nat.le_of_eq rfl) (hb hby at_113) (fun _ _ => ⟨rfl, e4, (by decide : 1 + 0 ≤ _), (by decide : 1 + 0 ≤ _)⟩)
  dsimp only [Pt.U, Pt.locs, Pt.cells, Pt.slots] at X5 l5 y5 z5 st5 hQ5
  subst l5 y5 z5
  obtain ⟨rfl, N5, K5, F5⟩ := hQ5
  have N6 := Fr.app N0 N5
  have eq64 : i.toInt32.toInt64 = i := Int64.toInt_inj.mp (by rw [Jvm.Kit.i64_of_i32, ip])
  obtain ⟨T6, pc6, L6, st6', X6, e6, ⟨hpc, htop⟩, st6⟩ := own_wp_sound hx hby hZ hown hw own_tb0_ok (E := (own_C, own_V Z, [], [], T5.heap, 13, 0)) hml ⟨hC, hV, (fun q hq => by cases hq), (fun q hq => by cases hq)⟩ (by decide) (by decide) (stop := []) (Q := own_retQ [135] .boolean (.int 1)) 30 116 #[.val (.long a), .second, .val (.long b), .second, .val (.long c'), .second, .val (.long i), .second, .val (.long bl), .second, .val (.long ab), .second, .unset] [.ref a3] X5 rfl (by
    refine Exists.intro (.int i.toInt32) (And.intro ⟨a3, _, rfl, A3.keep K5, F5, rfl⟩ (And.intro rfl (And.intro (Nat.le_of_ble_eq_true rfl) (And.intro rfl ?_))))
    refine And.intro (fun q => absurd (by rw [eq64]; exact (own_cmpL0 i i).mpr rfl) q) (fun _ => ?_)
    exact And.intro rfl rfl)
  have hd6 : decode code pc6 = .ok (.ireturn, 1) := by
    have : pc6 = 135 := by simpa using hpc
    subst this; exact at_135
  obtain ⟨fs, hr, hrun, hended, hW, hsame⟩ := X6.leave (v := some (.int (1 : Int32))) (fun h => by rw [Bd.returns] at h; cases h)
  refine ⟨_, _, pre0 _ ?_, hrun, hended, _, _, rfl, ⟨rfl, N6⟩, ⟨_, rfl⟩, hW, hsame.mono (by decide) (by decide)⟩
  refine st1a _ ?_
  refine st1b _ ?_
  refine st1 _ ?_
  refine st2 _ ?_
  refine st3 _ ?_
  refine st4 _ ?_
  refine st5.trans ?_
  refine st6 _ ?_
  exact own_ret X6 hx Bd.returns (hb hby hd6) htop hr
set_option maxRecDepth 65536 in
theorem comes_1 {Post : Tables → Env → Array Value → State → Outcome → State → Prop} (hpost : ∀ tb e args s v u, (limb_1_1.after args s (.returned v) u = true ∧ limb_1_2.after args s (.returned v) u = true ∧ True) → FrameEnd s (.returned v) u (Jvm.fieldLocs frame_1_writes args s ++ Jvm.arrayLocs frame_1_arrays args s ++ Jvm.staticLocs frame_1_statics s) 16 128 → Post tb e args s (.returned v) u) :
    ArmFor flags0 classFile x code maxLocals ret World_1 tables_1 room_1 Calls_1 rest_1 Pre_1 Post := by
  intro l hfl _ _ p e ha hc hk s m args below hf hA hF happ hP
  obtain ⟨hcalls, hrest, hpre⟩ := hP
  obtain ⟨-, -, -, hnamed, -, -, -, hat⟩ := (Spec.applies_iff hf).mp happ
  obtain ⟨hg, hn⟩ := and_e (Cond.before_iff.mp (show (Jvm.Cond.and given_1 narrow_1).before args s = true from hpre))
  obtain ⟨hcount, k0⟩ := and_e hg
  obtain ⟨g0, k1⟩ := and_e k0
  obtain ⟨g1, k2⟩ := and_e k1
  obtain ⟨w0, w1, w2, rfl⟩ : ∃ w0 w1 w2 : Value, args = #[w0, w1, w2] := by
    have hs : args.size = 3 := by simpa [Cond.value, given_1] using hcount
    obtain ⟨L⟩ := args
    match L, hs with
    | [w0, w1, w2], _ => exact ⟨w0, w1, w2, rfl⟩
  have hw := fun d (hd : d ∈ tables_1) => atoms_spec (ws := Jvm.Cond.code x code maxLocals ret :: tables_1) hat d (List.mem_cons_of_mem _ hd)
  obtain ⟨i0, ei0⟩ := isL_v g0
  obtain rfl : w0 = (.long i0) := Option.some.inj ei0
  obtain ⟨i1, ei1⟩ := isL_v g1
  obtain rfl : w1 = (.long i1) := Option.some.inj ei1
  obtain ⟨i2, ei2⟩ := isL_v k2
  obtain rfl : w2 = (.long i2) := Option.some.inj ei2
  obtain ⟨n, o, h1, h2, h3, _, L, rfl, ⟨rfl, N⟩, hq⟩ := own_law l s _ hw tables_1 i0 i1 i2 s.heap s.heap.size (Nat.le_refl _) p e ha hc hk s m _ below hf ((Spec.applies_iff_loose hf).mp happ).1 ⟨rfl, State.Warmed39.refl s, rfl⟩ trivial
  refine ⟨n, _, h1, h2, h3, hpost _ _ _ _ _ _ ⟨Cond.after_iff.mpr rfl, Cond.after_iff.mpr (eq_i res_at (Term.int_eval (1)) rfl), trivial⟩ ⟨hq.1, hq.2.1, (hq.2.2.sift fun y hy => Or.inr (N y hy)).mono (by decide) (by decide)⟩⟩
theorem main_1_1 : Claimed_1_1 := comes_1 fun _ _ _ _ _ _ h hF => ⟨h.1, hF⟩
theorem main_1_2 : Claimed_1_2 := comes_1 fun _ _ _ _ _ _ h hF => ⟨h.2.1, hF⟩
end Jvm.Pilot.@@N@@
namespace Jvm.Pilot.@@N@@
open Jvm Jvm.ClassFile Sem Op Lib Jvm.Free Jvm.Stand Jvm.Pilot.@@N@@.Jvm.D
/-! MADE BY PROGRAM (witnessworld.py) out of the Statement's table words and the real class files: 10 classes; the members and pool entries that the words name. The judged class is class 1, her method 1. -/
namespace start1
open Jvm.ClassFile
def u (s : String) : CpInfo := .utf8 (stringToUtf16 s)
/-- a pool by its gaps: so many unusable entries, then the entry; so many at the end -/
def gap : Nat → List CpInfo → List CpInfo
  | 0, r => r
  | n + 1, r => .unusable :: gap n r
def poolList (es : List (Nat × CpInfo)) (last : Nat) : List CpInfo := es.foldr (fun e r => gap e.1 (e.2 :: r)) (gap last [])
def pool (es : List (Nat × CpInfo)) (last : Nat) : Array CpInfo := ⟨poolList es last⟩
def fileOf (pool : Array CpInfo) (this : Nat) (attrs : Array Attribute := #[]) (ms : Array MethodInfo := #[]) (fl : Nat := 33) (sup : Nat := 0) (ifs : Array Nat := #[]) (fds : Array FieldInfo := #[]) : ClassFile where
  minorVersion := 0
  majorVersion := 65
  constantPool := pool
  accessFlags := fl
  thisClass := this
  superClass := sup
  interfaces := ifs
  fields := fds
  methods := ms
  attributes := attrs
def plain (name : String) (sup : Option ClassId) : Class where
  name := name
  kind := .ordinary
  loader := none
  accessFlags := 33
  super := sup
  interfaces := #[]
  cf := none
  fields := #[]
  methods := #[]
  instanceTypes := #[]
  staticTypes := #[]
  resolved := #[]
  callSites := []
  init := .initialized
  statics := none
  mirror := none

def pool0 : Array CpInfo := pool [(5, u "<init>"), (0, u "()V"), (1, .class_ 10), (1, u "java/lang/Object")] 113

def k0c0 : Code := { maxStack := 0, maxLocals := 1, code := object_method_1_code, exceptionTable := #[], attributes := #[] }
def k0m0 : Method := { name := "<init>", desc := "()V", sig := { parameters := [], returnType := none }, accessFlags := 1, code := some k0c0 }
/-- java/lang/Object -/
def k0 : Class := { plain "java/lang/Object" none with
  accessFlags := 33
  interfaces := #[]
  cf := some (fileOf pool0 8 #[] #[{ accessFlags := 1, nameIndex := 5, descriptorIndex := 6, attributes := #[] }] 33 0 #[] #[])
  fields := #[]
  methods := #[k0m0]
  instanceTypes := #[]
  staticTypes := #[]
  resolved := Array.replicate 124 none
  statics := none }

def pool1 : Array CpInfo := pool [(2, .class_ 4), (1, u "java/lang/Object"), (0, u "<init>"), (0, u "()V"), (2, .long 9223372036854775807), (1, .long 1000001), (1, .long 18446744073709551615), (1, .long 9223372036853775807), (1, .methodref 18 19), (0, .class_ 20), (0, .nameAndType 21 22), (0, u "com/example/incentd/incentd/programs/EarnRate"), (0, u "allows"), (0, u "(J)Z"), (0, .long 1000000), (1, .methodref 18 26), (0, .nameAndType 5 27), (0, u "(I)V"), (0, .methodref 18 29), (0, .nameAndType 30 31), (0, u "basisPoints"), (0, u "()I"), (0, .class_ 33), (0, u "com/example/incentd/incentd/programs/EarnRateAllowsPinLaw"), (2, u "law"), (0, u "(JJJ)Z")] 3

def k1m0 : Method := { name := "<init>", desc := "()V", sig := { parameters := [], returnType := none }, accessFlags := 2, code := none }
def k1c1 : Code := { maxStack := 6, maxLocals := 13, code := code, exceptionTable := #[], attributes := #[] }
def k1m1 : Method := { name := "law", desc := "(JJJ)Z", sig := { parameters := [.long, .long, .long], returnType := some .boolean }, accessFlags := 9, code := some k1c1 }
/-- com/example/incentd/incentd/programs/EarnRateAllowsPinLaw -/
def k1 : Class := { plain "com/example/incentd/incentd/programs/EarnRateAllowsPinLaw" (some 0) with
  accessFlags := 49
  interfaces := #[]
  cf := some (fileOf pool1 32 #[] #[{ accessFlags := 2, nameIndex := 5, descriptorIndex := 6, attributes := #[] }, { accessFlags := 9, nameIndex := 36, descriptorIndex := 37, attributes := #[] }] 49 2 #[] #[])
  fields := #[]
  methods := #[k1m0, k1m1]
  instanceTypes := #[]
  staticTypes := #[]
  resolved := Array.replicate 41 none
  statics := none }

def pool2 : Array CpInfo := pool [(1, .methodref 2 3), (0, .class_ 4), (0, .nameAndType 5 6), (0, u "java/lang/Object"), (0, u "<init>"), (0, u "()V"), (0, .class_ 8), (0, u "java/lang/Record")] 13

def k2c0 : Code := { maxStack := 1, maxLocals := 1, code := jdk_30_method_1_code, exceptionTable := #[], attributes := #[] }
def k2m0 : Method := { name := "<init>", desc := "()V", sig := { parameters := [], returnType := none }, accessFlags := 4, code := some k2c0 }
/-- java/lang/Record -/
def k2 : Class := { plain "java/lang/Record" (some 0) with
  accessFlags := 1057
  interfaces := #[]
  cf := some (fileOf pool2 7 #[] #[{ accessFlags := 4, nameIndex := 5, descriptorIndex := 6, attributes := #[] }] 1057 2 #[] #[])
  fields := #[]
  methods := #[k2m0]
  instanceTypes := #[]
  staticTypes := #[]
  resolved := Array.replicate 22 none
  statics := none }

def pool3 : Array CpInfo := pool [(1, .methodref 2 3), (0, .class_ 4), (0, .nameAndType 5 6), (0, u "java/lang/Record"), (0, u "<init>"), (0, u "()V"), (0, .methodref 8 9), (0, .class_ 10), (0, .nameAndType 11 12), (0, u "com/example/incentd/incentd/programs/EarnRate"), (0, u "allows"), (0, u "(J)Z"), (9, .fieldref 8 23), (0, .nameAndType 24 25), (0, u "basisPoints"), (0, u "I"), (0, .long 1000000), (19, u "MAX_BASIS_POINTS"), (2, u "TOO_MANY_POINTS"), (0, u "Ljava/lang/String;"), (2, u "(I)V"), (7, u "()I")] 28

def k3c0 : Code := { maxStack := 3, maxLocals := 2, code := prog_9_method_1_code, exceptionTable := #[], attributes := #[] }
def k3m0 : Method := { name := "<init>", desc := "(I)V", sig := { parameters := [.int], returnType := none }, accessFlags := 1, code := some k3c0 }
def k3c1 : Code := { maxStack := 4, maxLocals := 2, code := prog_9_method_2_code, exceptionTable := #[], attributes := #[] }
def k3m1 : Method := { name := "allows", desc := "(J)Z", sig := { parameters := [.long], returnType := some .boolean }, accessFlags := 9, code := some k3c1 }
def k3c2 : Code := { maxStack := 1, maxLocals := 1, code := prog_9_method_7_code, exceptionTable := #[], attributes := #[] }
def k3m2 : Method := { name := "basisPoints", desc := "()I", sig := { parameters := [], returnType := some .int }, accessFlags := 1, code := some k3c2 }
/-- com/example/incentd/incentd/programs/EarnRate -/
def k3 : Class := { plain "com/example/incentd/incentd/programs/EarnRate" (some 2) with
  accessFlags := 49
  interfaces := #[]
  cf := some (fileOf pool3 8 #[] #[{ accessFlags := 1, nameIndex := 5, descriptorIndex := 53, attributes := #[] }, { accessFlags := 9, nameIndex := 11, descriptorIndex := 12, attributes := #[] }, { accessFlags := 1, nameIndex := 24, descriptorIndex := 61, attributes := #[] }] 49 2 #[] #[{ accessFlags := 18, nameIndex := 24, descriptorIndex := 25, attributes := #[] }, { accessFlags := 25, nameIndex := 46, descriptorIndex := 25, attributes := #[] }, { accessFlags := 25, nameIndex := 49, descriptorIndex := 50, attributes := #[] }])
  fields := #[{ name := "basisPoints", type := .int, accessFlags := 18, slot := 0, constantValue := 0 }, { name := "MAX_BASIS_POINTS", type := .int, accessFlags := 25, slot := 0, constantValue := 0 }, { name := "TOO_MANY_POINTS", type := (.object "java/lang/String"), accessFlags := 25, slot := 1, constantValue := 0 }]
  methods := #[k3m0, k3m1, k3m2]
  instanceTypes := #[.int]
  staticTypes := #[.int, (.object "java/lang/String")]
  resolved := Array.replicate 90 none
  statics := none }

def pool4 : Array CpInfo := pool [(1, u "java/lang/Cloneable"), (0, .class_ 1), (0, u "java/lang/Object"), (0, .class_ 3)] 3

/-- java/lang/Cloneable -/
def k4 : Class := { plain "java/lang/Cloneable" (some 0) with
  accessFlags := 1537
  interfaces := #[]
  cf := some (fileOf pool4 2 #[] #[] 1537 4 #[] #[])
  fields := #[]
  methods := #[]
  instanceTypes := #[]
  staticTypes := #[]
  resolved := Array.replicate 8 none
  statics := none }

def pool5 : Array CpInfo := pool [(1, u "java/io/Serializable"), (0, .class_ 1), (0, u "java/lang/Object"), (0, .class_ 3)] 3

/-- java/io/Serializable -/
def k5 : Class := { plain "java/io/Serializable" (some 0) with
  accessFlags := 1537
  interfaces := #[]
  cf := some (fileOf pool5 2 #[] #[] 1537 4 #[] #[])
  fields := #[]
  methods := #[]
  instanceTypes := #[]
  staticTypes := #[]
  resolved := Array.replicate 8 none
  statics := none }

/-- the primitive byte -/
def k6 : Class := { plain "byte" none with kind := .primitive 'B', accessFlags := 0x411 }
/-- [B -/
def k7 : Class := { plain "[B" (some 0) with kind := .array 6 .byte, interfaces := #[4, 5], accessFlags := 1041 }

/-- the primitive int -/
def k8 : Class := { plain "int" none with kind := .primitive 'I', accessFlags := 0x411 }
/-- [I -/
def k9 : Class := { plain "[I" (some 0) with kind := .array 8 .int, interfaces := #[4, 5], accessFlags := 1041 }

def heap : Heap := #[]
def classes : Array Class := #[k0, k1, k2, k3, k4, k5, k6, k7, k8, k9]
def interned : List (Array UInt16 × Addr) := []
def slotsUsed : Nat := 0
def theMethod : MethodId := ⟨1, 1⟩
def args0 : Array Value := #[.long 5, .long 7, .long 9]
def aboutOver (below : List Frame) : State where
  vm := { classes := classes, interned := interned.toArray }
  heap := heap
  slotsUsed := slotsUsed
  threads := #[{ frames := .invoking theMethod args0 :: below }]
def below0 : List Frame := [.native { method := ⟨0, 0⟩, args := #[] }]
def about1 : State := aboutOver below0
def p0 : Program := .bare "" "" ""
def e0 : Env := launch0.env 0 0 0
theorem w_frames : about1.frames = Frame.invoking theMethod args0 :: below0 := rfl
set_option maxRecDepth 65536 in
theorem w_args : argsFit about1.vm theMethod args0 = true := by decide +kernel
set_option maxRecDepth 65536 in
theorem w_heap : heapFits about1 = true := by decide +kernel
set_option maxRecDepth 65536 in
theorem w_runnable : about1.curStatus? = some .runnable := by decide +kernel
set_option maxRecDepth 65536 in
theorem w_alone : about1.alone = true := by decide +kernel
set_option maxRecDepth 65536 in
theorem w_named : about1.methodNamed? x = some theMethod := by decide +kernel
set_option maxRecDepth 65536 in
theorem w_hears : about1.hears theMethod below0 = true := by decide +kernel
set_option maxRecDepth 65536 in
theorem w_ripe : about1.ripe theMethod args0 below0 = true := by decide +kernel
theorem w_running : about1.status = .running := rfl
set_option maxRecDepth 65536 in
theorem w_room : about1.hasRoom e0.platform room_1 = true :=
  launch0.hasRoom_least _ room_1 (by decide +kernel) (by decide +kernel) (by decide +kernel) (by decide +kernel) (by decide +kernel) (by decide +kernel)
theorem allAtoms_all (ts : List Jvm.Cond) (a : Array Jvm.Value) (st : Jvm.State) : (allAtoms ts).before a st = ts.all (fun c => c.before a st) := by
  induction ts with
  | nil => rfl
  | cons c t ih =>
    show (Jvm.Cond.and c (allAtoms t)).before a st = _
    rw [Jvm.Cond.before_and, ih, List.all_cons]
def words1 : List Jvm.Cond := Jvm.Cond.code x code maxLocals ret :: tables_1
/-- a 'code' word, met by the world's own term for the bytes: nothing is compared byte by byte -/
theorem code_word {y : MethodName} {bytes : ByteArray} {mx : Nat} {rt : Option FieldType} {a : Array Value} {s : State} {m : MethodId} {meth : Method} {c : Code} (h1 : s.methodNamed? y = some m) (h2 : s.vm.method? m = some meth) (h3 : meth.code = some c) (h4 : c.code = bytes)
    (h5 : (c.maxLocals == mx && c.exceptionTable.isEmpty && decide (c.maxStack ≤ mostOperands) && decide (meth.sig.returnType = rt) && !meth.locks && decide (parseMethodDescriptor y.desc = some meth.sig)) = true) : (Jvm.Cond.code y bytes mx rt).before a s = true := by
  simp only [Bool.and_eq_true, beq_iff_eq, Bool.not_eq_true', decide_eq_true_eq] at h5
  obtain ⟨⟨⟨⟨⟨g1, g2⟩, g3⟩, g4⟩, g5⟩, g6⟩ := h5
  simp [Cond.before, Cond.holds, Cond.value, h1, h2, h3, h4, g1, g2, g3, g4, g5, g6]
def isCode : Jvm.Cond → Bool
  | .code _ _ _ _ => true
  | _ => false
theorem all_split {L : List Jvm.Cond} {P : Jvm.Cond → Bool} (h1 : L.all (fun c => isCode c || P c) = true) (h2 : ∀ c ∈ L.filter isCode, P c = true) : L.all P = true := by
  refine List.all_eq_true.mpr fun c hc => ?_
  have h := List.all_eq_true.mp h1 c hc
  rcases Bool.eq_false_or_eq_true (isCode c) with hi | hi
  · exact h2 c (List.mem_filter.mpr ⟨hc, hi⟩)
  · simpa [hi] using h
set_option maxRecDepth 65536 in
theorem w_c0 : (Jvm.Cond.code x code maxLocals ret).before args0 about1 = true := code_word (m := ⟨1, 1⟩) (meth := k1m1) (c := k1c1) (by decide +kernel) rfl rfl rfl (by decide +kernel)
set_option maxRecDepth 65536 in
theorem w_c1 : (Jvm.Cond.code ({ cls := "com/example/incentd/incentd/programs/EarnRate", name := "allows", desc := "(J)Z" } : Jvm.MethodName) prog_9_method_2_code (2 : Nat) (Option.some Jvm.ClassFile.FieldType.boolean)).before args0 about1 = true := code_word (m := ⟨3, 1⟩) (meth := k3m1) (c := k3c1) (by decide +kernel) rfl rfl rfl (by decide +kernel)
set_option maxRecDepth 65536 in
theorem w_c2 : (Jvm.Cond.code ({ cls := "com/example/incentd/incentd/programs/EarnRate", name := "<init>", desc := "(I)V" } : Jvm.MethodName) prog_9_method_1_code (2 : Nat) (Option.none : Option Jvm.ClassFile.FieldType)).before args0 about1 = true := code_word (m := ⟨3, 0⟩) (meth := k3m0) (c := k3c0) (by decide +kernel) rfl rfl rfl (by decide +kernel)
set_option maxRecDepth 65536 in
theorem w_c3 : (Jvm.Cond.code ({ cls := "java/lang/Record", name := "<init>", desc := "()V" } : Jvm.MethodName) jdk_30_method_1_code (1 : Nat) (Option.none : Option Jvm.ClassFile.FieldType)).before args0 about1 = true := code_word (m := ⟨2, 0⟩) (meth := k2m0) (c := k2c0) (by decide +kernel) rfl rfl rfl (by decide +kernel)
set_option maxRecDepth 65536 in
theorem w_c4 : (Jvm.Cond.code ({ cls := "java/lang/Object", name := "<init>", desc := "()V" } : Jvm.MethodName) object_method_1_code (1 : Nat) (Option.none : Option Jvm.ClassFile.FieldType)).before args0 about1 = true := code_word (m := ⟨0, 0⟩) (meth := k0m0) (c := k0c0) (by decide +kernel) rfl rfl rfl (by decide +kernel)
set_option maxRecDepth 65536 in
theorem w_c5 : (Jvm.Cond.code ({ cls := "com/example/incentd/incentd/programs/EarnRate", name := "basisPoints", desc := "()I" } : Jvm.MethodName) prog_9_method_7_code (1 : Nat) (Option.some Jvm.ClassFile.FieldType.int)).before args0 about1 = true := code_word (m := ⟨3, 2⟩) (meth := k3m2) (c := k3c2) (by decide +kernel) rfl rfl rfl (by decide +kernel)
def codes1 : List Jvm.Cond := [Jvm.Cond.code x code maxLocals ret, Jvm.Cond.code ({ cls := "com/example/incentd/incentd/programs/EarnRate", name := "allows", desc := "(J)Z" } : Jvm.MethodName) prog_9_method_2_code (2 : Nat) (Option.some Jvm.ClassFile.FieldType.boolean), Jvm.Cond.code ({ cls := "com/example/incentd/incentd/programs/EarnRate", name := "<init>", desc := "(I)V" } : Jvm.MethodName) prog_9_method_1_code (2 : Nat) (Option.none : Option Jvm.ClassFile.FieldType), Jvm.Cond.code ({ cls := "java/lang/Record", name := "<init>", desc := "()V" } : Jvm.MethodName) jdk_30_method_1_code (1 : Nat) (Option.none : Option Jvm.ClassFile.FieldType), Jvm.Cond.code ({ cls := "java/lang/Object", name := "<init>", desc := "()V" } : Jvm.MethodName) object_method_1_code (1 : Nat) (Option.none : Option Jvm.ClassFile.FieldType), Jvm.Cond.code ({ cls := "com/example/incentd/incentd/programs/EarnRate", name := "basisPoints", desc := "()I" } : Jvm.MethodName) prog_9_method_7_code (1 : Nat) (Option.some Jvm.ClassFile.FieldType.int)]
set_option maxRecDepth 65536 in
theorem codes_eq : words1.filter isCode = codes1 := rfl
theorem w_codes : ∀ c ∈ words1.filter isCode, c.before args0 about1 = true := by
  rw [codes_eq]
  intro c hc
  simp only [codes1, List.mem_cons, List.not_mem_nil, or_false] at hc
  rcases hc with rfl | rfl | rfl | rfl | rfl | rfl
  · exact w_c0
  · exact w_c1
  · exact w_c2
  · exact w_c3
  · exact w_c4
  · exact w_c5
set_option maxRecDepth 65536 in
theorem w_t1 : (words1.take 24).all (fun c => isCode c || c.before args0 about1) = true := by decide +kernel
set_option maxRecDepth 65536 in
theorem w_t2 : (words1.drop 24).all (fun c => isCode c || c.before args0 about1) = true := by decide +kernel
theorem w_tables : (allAtoms (Jvm.Cond.code x code maxLocals ret :: tables_1)).before args0 about1 = true := by
  rw [allAtoms_all]
  show words1.all (fun c => c.before args0 about1) = true
  refine all_split ?_ w_codes
  rw [← List.take_append_drop 24 words1, List.all_append, w_t1, w_t2]
  rfl
set_option maxRecDepth 65536 in
theorem w_case : (Jvm.Cond.and given_1 narrow_1).before args0 about1 = true := by decide +kernel
theorem w_applies : (headSpec (Jvm.Cond.code x code maxLocals ret :: tables_1) room_1).applies x e0.platform about1 = true :=
  (Spec.applies_iff w_frames).mpr ⟨w_running, w_runnable, w_alone, w_named, w_hears, w_ripe, w_room, w_tables⟩
theorem atStart : AtStart classFile x code maxLocals ret World_1 tables_1 room_1 Calls_1 rest_1 Pre_1 launch0 p0 e0 about1 theMethod args0 below0 :=
  ⟨lists_1, trivial, launch0.admits_env _ _ _, launch0.least_env, fairChoices_fair.cas, fairChoices_fair.clock, w_frames, w_args, w_heap, w_applies, trivial, trivial, w_case⟩
end start1
theorem witness_1 : WitnessClaimed_1 := ⟨start1.p0, start1.e0, start1.about1, start1.theMethod, start1.args0, start1.below0, start1.atStart⟩
end Jvm.Pilot.@@N@@
