import JvmDerived
import JvmDerived.Pilot.@@N@@Statement
import JvmDerived.Pilot.@@N@@Code
set_option linter.unusedVariables false
set_option linter.unusedSimpArgs false
@@BLOCK:NumsL.lean.txt@@
namespace Jvm.Pilot.@@N@@
open Jvm Jvm.ClassFile Sem Op Lib Jvm.Free Jvm.Stand Jvm.LawKit Jvm.RoadKit Bundle Jvm.Pilot.@@N@@.Jvm.D
/-! ## OWN EVALUATOR: a run of plain bytecode (ints, longs, references that are only carried; static calls by contract) as one Prop that unfolds by computation.
An entry of a table: pc, the instruction, the next pc, the target of a branch, the constant that it pushes. -/
abbrev own_Ent := Nat × Instr × Nat × Nat × Value
def own_look : List own_Ent → Nat → Option (Instr × Nat × Nat × Value)
  | [], _ => none
  | e :: t, pc => bif Nat.beq e.1 pc then some e.2 else own_look t pc
theorem own_look_mem : ∀ {tab : List own_Ent} {pc : Nat} {r : Instr × Nat × Nat × Value}, own_look tab pc = some r → (pc, r) ∈ tab
  | [], _, _, h => by simp [own_look] at h
  | e :: t, pc, r, h => by
    simp only [own_look] at h
    cases hb : Nat.beq e.1 pc with
    | true =>
      rw [hb] at h
      have h1 : e.1 = pc := Nat.eq_of_beq_eq_true hb
      have h2 : e.2 = r := Option.some.inj h
      subst h1 h2
      exact List.mem_cons_self
    | false => rw [hb] at h; exact List.mem_cons_of_mem _ (own_look_mem h)
/-- what a conditional branch asks -/
def own_icmp : ClassFile.Cond → Int32 → Int32 → Prop
  | .eq, a, b => a = b
  | .ne, a, b => ¬ a = b
  | .lt, a, b => a < b
  | .ge, a, b => b ≤ a
  | .gt, a, b => b < a
  | .le, a, b => a ≤ b
theorem own_icmp_iff {cd : ClassFile.Cond} {a b : Int32} : if_icmp.holds cd a b = true ↔ own_icmp cd a b := by
  cases cd <;> simp [if_icmp.holds, own_icmp]
theorem own_if_iff {cd : ClassFile.Cond} {a : Int32} : ifCond.holds cd a = true ↔ own_icmp cd a 0 := by
  cases cd <;> simp [ifCond.holds, own_icmp]
def own_ldI (L : Array Slot) (st : List Value) (k : Nat) : Option (Array Slot × List Value) :=
  match L[k]? with
  | some (.val (.int v)) => some (L, .int v :: st)
  | _ => none
def own_ldJ (L : Array Slot) (st : List Value) (k : Nat) : Option (Array Slot × List Value) :=
  match L[k]? with
  | some (.val (.long v)) => some (L, .long v :: st)
  | _ => none
def own_ldA (L : Array Slot) (st : List Value) (k : Nat) : Option (Array Slot × List Value) :=
  match L[k]? with
  | some (.val (.ref a)) => some (L, .ref a :: st)
  | _ => none
def own_put (L : Array Slot) (k : Nat) (v : Value) (r : List Value) : Option (Array Slot × List Value) :=
  match storeLocals L k v with
  | some L' => some (L', r)
  | none => none
def own_stI (L : Array Slot) (st : List Value) (k : Nat) : Option (Array Slot × List Value) :=
  match st with
  | .int v :: r => own_put L k (.int v) r
  | _ => none
def own_stJ (L : Array Slot) (st : List Value) (k : Nat) : Option (Array Slot × List Value) :=
  match st with
  | .long v :: r => own_put L k (.long v) r
  | _ => none
def own_stA (L : Array Slot) (st : List Value) (k : Nat) : Option (Array Slot × List Value) :=
  match st with
  | .ref v :: r => own_put L k (.ref v) r
  | _ => none
def own_bI (L : Array Slot) (st : List Value) (f : Int32 → Int32 → Int32) : Option (Array Slot × List Value) :=
  match st with
  | .int y :: .int x :: r => some (L, .int (f x y) :: r)
  | _ => none
def own_bJ (L : Array Slot) (st : List Value) (f : Int64 → Int64 → Int64) : Option (Array Slot × List Value) :=
  match st with
  | .long y :: .long x :: r => some (L, .long (f x y) :: r)
  | _ => none
def own_sJ (L : Array Slot) (st : List Value) (f : Int64 → Int32 → Int64) : Option (Array Slot × List Value) :=
  match st with
  | .int y :: .long x :: r => some (L, .long (f x y) :: r)
  | _ => none
def own_uI (L : Array Slot) (st : List Value) (f : Int32 → Int32) : Option (Array Slot × List Value) :=
  match st with
  | .int x :: r => some (L, .int (f x) :: r)
  | _ => none
/-- i2c, as the machine reckons it -/
def own_i2c (x : Int32) : Int32 := x.toUInt32.toUInt16.toUInt32.toInt32
/-- a straight step -/
def own_stp (L : Array Slot) (st : List Value) (cv : Value) : Instr → Option (Array Slot × List Value)
  | .iconst _ => some (L, cv :: st)
  | .bipush _ => some (L, cv :: st)
  | .sipush _ => some (L, cv :: st)
  | .lconst _ => some (L, cv :: st)
  | .ldc _ => some (L, cv :: st)
  | .ldc2_w _ => some (L, cv :: st)
  | .iload k => own_ldI L st k
  | .iload_n k => own_ldI L st k.val
  | .lload k => own_ldJ L st k
  | .lload_n k => own_ldJ L st k.val
  | .aload k => own_ldA L st k
  | .aload_n k => own_ldA L st k.val
  | .istore k => own_stI L st k
  | .istore_n k => own_stI L st k.val
  | .lstore k => own_stJ L st k
  | .lstore_n k => own_stJ L st k.val
  | .astore k => own_stA L st k
  | .astore_n k => own_stA L st k.val
  | .iadd => own_bI L st (fun x y => x + y)
  | .isub => own_bI L st (fun x y => x - y)
  | .imul => own_bI L st (fun x y => x * y)
  | .iand => own_bI L st (fun x y => x &&& y)
  | .ior => own_bI L st (fun x y => x ||| y)
  | .ixor => own_bI L st (fun x y => x ^^^ y)
  | .ishl => own_bI L st (fun x y => x <<< (y &&& 31))
  | .ishr => own_bI L st (fun x y => x >>> (y &&& 31))
  | .iushr => own_bI L st (fun x y => XT.ushr x y)
  | .ladd => own_bJ L st (fun x y => x + y)
  | .lsub => own_bJ L st (fun x y => x - y)
  | .lmul => own_bJ L st (fun x y => x * y)
  | .land => own_bJ L st (fun x y => x &&& y)
  | .lor => own_bJ L st (fun x y => x ||| y)
  | .lxor => own_bJ L st (fun x y => x ^^^ y)
  | .lshl => own_sJ L st (fun x y => x <<< (y.toInt64 &&& 63))
  | .lshr => own_sJ L st (fun x y => x >>> (y.toInt64 &&& 63))
  | .lushr => own_sJ L st (fun x y => XT.ushrL x y)
  | .i2b => own_uI L st (fun x => x.toInt8.toInt32)
  | .i2c => own_uI L st own_i2c
  | .i2s => own_uI L st (fun x => x.toInt16.toInt32)
  | .i2l => match st with
    | .int x :: r => some (L, .long x.toInt64 :: r)
    | _ => none
  | .l2i => match st with
    | .long x :: r => some (L, .int x.toInt32 :: r)
    | _ => none
  | .lneg => match st with
    | .long x :: r => some (L, .long (-x) :: r)
    | _ => none
  | .lcmp => match st with
    | .long y :: .long x :: r => some (L, .int (XT.cmpL x y) :: r)
    | _ => none
  | .iinc k z => match L[k]? with
    | some (.val (.int v)) => own_put L k (.int (v + Int32.ofInt z)) st
    | _ => none
  | .dup => match st with
    | .ref a :: r => some (L, .ref a :: .ref a :: r)
    | _ => none
  | _ => none
/-- how long an instruction is -/
def own_len : Instr → Nat
  | .bipush _ => 2
  | .sipush _ => 3
  | .ldc _ => 2
  | .ldc2_w _ => 3
  | .iload _ => 2
  | .lload _ => 2
  | .aload _ => 2
  | .istore _ => 2
  | .lstore _ => 2
  | .astore _ => 2
  | .iinc _ _ => 3
  | .invokestatic _ => 3
  | .invokevirtual _ => 3
  | .getfield _ => 3
  | _ => 1
/-- the constant that an instruction pushes is the entry's -/
def own_cv (own : String) (ws : List Jvm.Cond) (cv : Value) : Instr → Bool
  | .iconst i => decide (cv = .int (Int32.ofInt i))
  | .bipush i => decide (cv = .int (Int8.ofInt i).toInt32)
  | .sipush i => decide (cv = .int (Int16.ofInt i).toInt32)
  | .lconst k => decide (cv = .long (Int64.ofNat k))
  | .ldc idx => match cv with
    | .int v => ws.contains (Jvm.Cond.constant own idx v)
    | _ => false
  | .ldc2_w idx => match cv with
    | .long v => ws.contains (Jvm.Cond.constantLong own idx v)
    | _ => false
  | _ => true
/-- an entry is true of the code -/
def own_ok (code : ByteArray) (own : String) (ws : List Jvm.Cond) (q : own_Ent) : Bool :=
  match q with
  | (pc, .if_icmp cd o, nx, tg, _) => decide (decode code pc = .ok (.if_icmp cd o, 3)) && decide (0 ≤ (pc : Int) + o) && decide (((pc : Int) + o).toNat = tg) && decide (nx = pc + 3)
  | (pc, .ifCond cd o, nx, tg, _) => decide (decode code pc = .ok (.ifCond cd o, 3)) && decide (0 ≤ (pc : Int) + o) && decide (((pc : Int) + o).toNat = tg) && decide (nx = pc + 3)
  | (pc, .goto o, _, tg, _) => decide (decode code pc = .ok (.goto o, 3)) && decide (0 ≤ (pc : Int) + o) && decide (((pc : Int) + o).toNat = tg)
  | (pc, i, nx, _, cv) => decide (decode code pc = .ok (i, own_len i)) && decide (nx = pc + own_len i) && own_cv own ws cv i
abbrev own_Call := Nat × Nat × (Heap → List Value → Value → Prop)
abbrev own_Fld := Nat × Addr × Value
abbrev own_Arr := Addr × Int32 × FieldType × List Value × Value
/-- what a run may lean on: static calls, virtual calls, fields read, an array read, the heap, max_locals, the weight of the operand stack under a call -/
abbrev own_Env := List own_Call × List own_Call × List own_Fld × List own_Arr × Heap × Nat × Nat
def own_lookC : List own_Call → Nat → Option (Nat × (Heap → List Value → Value → Prop))
  | [], _ => none
  | e :: t, pc => bif Nat.beq e.1 pc then some e.2 else own_lookC t pc
theorem own_lookC_mem : ∀ {C : List own_Call} {i : Nat} {r : Nat × (Heap → List Value → Value → Prop)}, own_lookC C i = some r → (i, r) ∈ C
  | [], _, _, h => by simp [own_lookC] at h
  | e :: t, i, r, h => by
    simp only [own_lookC] at h
    cases hb : Nat.beq e.1 i with
    | true =>
      rw [hb] at h
      have h1 : e.1 = i := Nat.eq_of_beq_eq_true hb
      have h2 : e.2 = r := Option.some.inj h
      subst h1 h2
      exact List.mem_cons_self
    | false => rw [hb] at h; exact List.mem_cons_of_mem _ (own_lookC_mem h)
def own_lookF : List own_Fld → Nat → Option (Addr × Value)
  | [], _ => none
  | e :: t, pc => bif Nat.beq e.1 pc then some e.2 else own_lookF t pc
theorem own_lookF_mem : ∀ {C : List own_Fld} {i : Nat} {r : Addr × Value}, own_lookF C i = some r → (i, r) ∈ C
  | [], _, _, h => by simp [own_lookF] at h
  | e :: t, i, r, h => by
    simp only [own_lookF] at h
    cases hb : Nat.beq e.1 i with
    | true =>
      rw [hb] at h
      have h1 : e.1 = i := Nat.eq_of_beq_eq_true hb
      have h2 : e.2 = r := Option.some.inj h
      subst h1 h2
      exact List.mem_cons_self
    | false => rw [hb] at h; exact List.mem_cons_of_mem _ (own_lookF_mem h)
def own_cat (st : List Value) : Nat := (st.map fun v => v.category).sum
/-- one step: k: what is asked behind it; q: what is asked where it stops here -/
def own_nxt (E : own_Env) (L : Array Slot) (st : List Value) (nx tg : Nat) (cv : Value) (k : Nat → Array Slot → List Value → Prop) (q : Prop) (i : Instr) : Prop :=
  match i with
  | .if_icmp cd _ => match st with
    | .int y :: .int x :: r => (own_icmp cd x y → k tg L r) ∧ (¬ own_icmp cd x y → k nx L r)
    | _ => q
  | .ifCond cd _ => match st with
    | .int x :: r => (own_icmp cd x 0 → k tg L r) ∧ (¬ own_icmp cd x 0 → k nx L r)
    | _ => q
  | .goto _ => k tg L st
  | .irem => match st with
    | .int y :: .int x :: r => y ≠ 0 ∧ k nx L (.int (x % y) :: r)
    | _ => q
  | .idiv => match st with
    | .int y :: .int x :: r => y ≠ 0 ∧ k nx L (.int (x / y) :: r)
    | _ => q
  | .lrem => match st with
    | .long y :: .long x :: r => y ≠ 0 ∧ k nx L (.long (x - (x / y) * y) :: r)
    | _ => q
  | .ldiv => match st with
    | .long y :: .long x :: r => y ≠ 0 ∧ k nx L (.long (x / y) :: r)
    | _ => q
  | .invokestatic idx => match own_lookC E.1 idx with
    | some (n, P) => ∃ v, P E.2.2.2.2.1 (st.take n).reverse v ∧ (st.take n).length = n ∧ own_cat (st.drop n) ≤ E.2.2.2.2.2.2 ∧ L.size = E.2.2.2.2.2.1 ∧ k nx L (v :: st.drop n)
    | none => q
  | .invokevirtual idx => match own_lookC E.2.1 idx with
    | some (n, P) => match st.drop n with
      | .ref a :: r => ∃ v, P E.2.2.2.2.1 (.ref a :: (st.take n).reverse) v ∧ (st.take n).length = n ∧ own_cat r ≤ E.2.2.2.2.2.2 ∧ L.size = E.2.2.2.2.2.1 ∧ k nx L (v :: r)
      | _ => q
    | none => q
  | .getfield idx => match st with
    | .ref a :: r => match own_lookF E.2.2.1 idx with
      | some (b, v) => a = b ∧ k nx L (v :: r)
      | none => q
    | _ => q
  | .arraylength => match st with
    | .ref a :: r => match E.2.2.2.1 with
      | (b, n, _, _, _) :: _ => a = b ∧ k nx L (.int n :: r)
      | [] => q
    | _ => q
  | .laload => match st with
    | .int j :: .ref a :: r => match E.2.2.2.1 with
      | (b, n, ty, vs, d) :: _ => a = b ∧ ty = .long ∧ (¬ j < 0) ∧ j < n ∧ ∃ z, vs.getD j.toNatClampNeg d = .long z ∧ k nx L (.long z :: r)
      | [] => q
    | _ => q
  | .baload => match st with
    | .int j :: .ref a :: r => match E.2.2.2.1 with
      | (b, n, ty, vs, d) :: _ => a = b ∧ ty = .byte ∧ (¬ j < 0) ∧ j < n ∧ ∃ z, vs.getD j.toNatClampNeg d = .int z ∧ k nx L (.int z :: r)
      | [] => q
    | _ => q
  | i => match own_stp L st cv i with
    | some (L', st') => k nx L' st'
    | none => q
def own_in : List Nat → Nat → Bool
  | [], _ => false
  | a :: t, pc => bif Nat.beq a pc then true else own_in t pc
/-- the run, till a pc of 'stop' or where the table ends; Q: what is asked there -/
def own_wp (stop : List Nat) (tab : List own_Ent) (E : own_Env) (Q : Nat → Array Slot → List Value → Prop) : Nat → Nat → Array Slot → List Value → Prop
  | 0, _, _, _ => False
  | n + 1, pc, L, st => bif own_in stop pc then Q pc L st else match own_look tab pc with
    | none => Q pc L st
    | some (i, nx, tg, cv) => own_nxt E L st nx tg cv (own_wp stop tab E Q n) (Q pc L st) i
theorem own_nxt_mono {E : own_Env} {L : Array Slot} {st : List Value} {nx tg : Nat} {cv : Value} {k k' : Nat → Array Slot → List Value → Prop} {q q' : Prop} {i : Instr} (hk : ∀ pc L st, k pc L st → k' pc L st) (hq : q → q') (h : own_nxt E L st nx tg cv k q i) : own_nxt E L st nx tg cv k' q' i := by
  unfold own_nxt at h ⊢
  split at h
  · split at h
    · exact ⟨fun z => hk _ _ _ (h.1 z), fun z => hk _ _ _ (h.2 z)⟩
    · exact hq h
  · split at h
    · exact ⟨fun z => hk _ _ _ (h.1 z), fun z => hk _ _ _ (h.2 z)⟩
    · exact hq h
  · exact (hk _ _ _ h)
  · split at h
    · exact ⟨h.1, hk _ _ _ h.2⟩
    · exact hq h
  · split at h
    · exact ⟨h.1, hk _ _ _ h.2⟩
    · exact hq h
  · split at h
    · exact ⟨h.1, hk _ _ _ h.2⟩
    · exact hq h
  · split at h
    · exact ⟨h.1, hk _ _ _ h.2⟩
    · exact hq h
  · try dsimp only
    split at h
    · obtain ⟨v, h1, h2, h3, h4, h5⟩ := h
      exact ⟨v, h1, h2, h3, h4, hk _ _ _ h5⟩
    · exact hq h
  · try dsimp only
    split at h
    · split at h
      · obtain ⟨v, h1, h2, h3, h4, h5⟩ := h
        exact ⟨v, h1, h2, h3, h4, hk _ _ _ h5⟩
      · exact hq h
    · exact hq h
  · split at h
    · try dsimp only
      split at h
      · exact ⟨h.1, hk _ _ _ h.2⟩
      · exact hq h
    · exact hq h
  · split at h
    · try dsimp only
      split at h
      · exact ⟨h.1, hk _ _ _ h.2⟩
      · exact hq h
    · exact hq h
  · split at h
    · try dsimp only
      split at h
      · obtain ⟨h1, h2, h3, h4, z, h5, h6⟩ := h
        exact ⟨h1, h2, h3, h4, z, h5, hk _ _ _ h6⟩
      · exact hq h
    · exact hq h
  · split at h
    · try dsimp only
      split at h
      · obtain ⟨h1, h2, h3, h4, z, h5, h6⟩ := h
        exact ⟨h1, h2, h3, h4, z, h5, hk _ _ _ h6⟩
      · exact hq h
    · exact hq h
  · try dsimp only
    split at h
    · exact (hk _ _ _ h)
    · exact hq h
theorem own_nxt_or {E : own_Env} {L : Array Slot} {st : List Value} {nx tg : Nat} {cv : Value} {k k' : Nat → Array Slot → List Value → Prop} {q q' : Prop} {i : Instr} (hk : ∀ pc L st, k pc L st → k' pc L st) (h : own_nxt E L st nx tg cv k q i) : q ∨ own_nxt E L st nx tg cv k' q' i := by
  unfold own_nxt at h ⊢
  split at h
  · split at h
    · exact Or.inr ⟨fun z => hk _ _ _ (h.1 z), fun z => hk _ _ _ (h.2 z)⟩
    · exact Or.inl h
  · split at h
    · exact Or.inr ⟨fun z => hk _ _ _ (h.1 z), fun z => hk _ _ _ (h.2 z)⟩
    · exact Or.inl h
  · exact Or.inr (hk _ _ _ h)
  · split at h
    · exact Or.inr ⟨h.1, hk _ _ _ h.2⟩
    · exact Or.inl h
  · split at h
    · exact Or.inr ⟨h.1, hk _ _ _ h.2⟩
    · exact Or.inl h
  · split at h
    · exact Or.inr ⟨h.1, hk _ _ _ h.2⟩
    · exact Or.inl h
  · split at h
    · exact Or.inr ⟨h.1, hk _ _ _ h.2⟩
    · exact Or.inl h
  · try dsimp only
    split at h
    · obtain ⟨v, h1, h2, h3, h4, h5⟩ := h
      exact Or.inr ⟨v, h1, h2, h3, h4, hk _ _ _ h5⟩
    · exact Or.inl h
  · try dsimp only
    split at h
    · split at h
      · obtain ⟨v, h1, h2, h3, h4, h5⟩ := h
        exact Or.inr ⟨v, h1, h2, h3, h4, hk _ _ _ h5⟩
      · exact Or.inl h
    · exact Or.inl h
  · split at h
    · try dsimp only
      split at h
      · exact Or.inr ⟨h.1, hk _ _ _ h.2⟩
      · exact Or.inl h
    · exact Or.inl h
  · split at h
    · try dsimp only
      split at h
      · exact Or.inr ⟨h.1, hk _ _ _ h.2⟩
      · exact Or.inl h
    · exact Or.inl h
  · split at h
    · try dsimp only
      split at h
      · obtain ⟨h1, h2, h3, h4, z, h5, h6⟩ := h
        exact Or.inr ⟨h1, h2, h3, h4, z, h5, hk _ _ _ h6⟩
      · exact Or.inl h
    · exact Or.inl h
  · split at h
    · try dsimp only
      split at h
      · obtain ⟨h1, h2, h3, h4, z, h5, h6⟩ := h
        exact Or.inr ⟨h1, h2, h3, h4, z, h5, hk _ _ _ h6⟩
      · exact Or.inl h
    · exact Or.inl h
  · try dsimp only
    split at h
    · exact Or.inr (hk _ _ _ h)
    · exact Or.inl h
theorem own_wp_mono {stop : List Nat} {tab : List own_Ent} {E : own_Env} {Q : Nat → Array Slot → List Value → Prop} : ∀ (n : Nat) {pc : Nat} {L : Array Slot} {st : List Value}, own_wp stop tab E Q n pc L st → own_wp stop tab E Q (n + 1) pc L st
  | 0, _, _, _, h => h.elim
  | n + 1, pc, L, st, h => by
    unfold own_wp at h ⊢
    cases hs : own_in stop pc with
    | true => simpa only [hs, cond_true] using h
    | false =>
      simp only [hs, cond_false] at h ⊢
      cases hl : own_look tab pc with
      | none => simpa only [hl] using h
      | some r => simp only [hl] at h ⊢; exact own_nxt_mono (fun _ _ _ z => own_wp_mono n z) (fun z => z) h
theorem own_wp_more {stop : List Nat} {tab : List own_Ent} {E : own_Env} {Q : Nat → Array Slot → List Value → Prop} {n : Nat} {pc : Nat} {L : Array Slot} {st : List Value} (h : own_wp stop tab E Q n pc L st) : ∀ k, own_wp stop tab E Q (k + n) pc L st
  | 0 => by rw [Nat.zero_add]; exact h
  | k + 1 => by rw [Nat.add_right_comm]; exact own_wp_mono _ (own_wp_more h k)
/-- two runs, one behind the other -/
theorem own_join {stop : List Nat} {tab : List own_Ent} {E : own_Env} {Q : Nat → Array Slot → List Value → Prop} {n2 : Nat} : ∀ {n1 : Nat} {pc : Nat} {L : Array Slot} {st : List Value}, own_wp stop tab E (fun pc L st => True ∧ own_wp [] tab E Q n2 pc L st) n1 pc L st → own_wp [] tab E Q (n1 + n2) pc L st
  | 0, _, _, _, h => h.elim
  | n + 1, pc, L, st, h => by
    have e : n + 1 + n2 = n + n2 + 1 := by omega
    unfold own_wp at h
    cases hs : own_in stop pc with
    | true => simp only [hs, cond_true] at h; exact own_wp_more h.2 _
    | false =>
      simp only [hs, cond_false] at h
      cases hl : own_look tab pc with
      | none => simp only [hl] at h; exact own_wp_more h.2 _
      | some r =>
        simp only [hl] at h
        rw [e]
        unfold own_wp
        simp only [own_in, cond_false, hl]
        rcases own_nxt_or (q' := Q pc L st) (fun _ _ _ z => own_join (n1 := n) z) h with z | z
        · have z2 := own_wp_more z.2 (n + 1)
          rw [e] at z2
          unfold own_wp at z2
          simpa only [own_in, cond_false, hl] using z2
        · exact z
theorem own_inb {cl : Cell} {n j : Int32} (S : cl.slots.size = n.toNatClampNeg) (h0 : ¬ j < 0) (hn : j < n) : ¬ (j < 0 ∨ cl.slots.size ≤ j.toNatClampNeg) := by
  rw [S]
  simp only [Int32.lt_iff_toInt_lt, Int32.toNatClampNeg, Int32.reduceToInt] at h0 hn ⊢
  omega
section own_Sound
variable {p : Program} {l : Launch} {e : Env} {R : Room} {s : State} {m : MethodId} {args : Array Value} {below : List Frame} {meth : Method} {c : Code} {locs : List Loc} {cells slots : Nat} {Z : State} {a0 : Array Value}
theorem own_stp_sound {T : State} (X : Stand p l e R s m args below meth c T locs cells slots) (hx : p.tables.exec = Jvm.exec) {code : ByteArray} (hby : c.code = code) (hZ : Z.Warmed39 s.vm) {own : String} (hown : s.vm.findClass own = some m.cls) {ws : List Jvm.Cond} (hw : ∀ d ∈ ws, d.before a0 Z = true)
    {pc nx tg : Nat} {cv : Value} {L L' : Array Slot} {st st' : List Value} {i : Instr} {t : State} (he : own_ok code own ws (pc, i, nx, tg, cv) = true) (h : own_stp L st cv i = some (L', st')) (k : Steps p.tables e below (T.setTop (mkF m nx L' st')) t) : Steps p.tables e below (T.setTop (mkF m pc L st)) t := by
  cases i
  all_goals try (simp [own_stp] at h; done)
  all_goals
    simp only [own_ok, Bool.and_eq_true, decide_eq_true_eq] at he
    simp only [own_len, own_cv, decide_eq_true_eq, and_true] at he
  case iconst z =>
    obtain ⟨⟨hd, rfl⟩, rfl⟩ := he
    simp only [own_stp, Option.some.injEq, Prod.mk.injEq] at h
    obtain ⟨rfl, rfl⟩ := h
    exact XS.iconst X.here hx rfl (hb hby hd) k
  case bipush z =>
    obtain ⟨⟨hd, rfl⟩, rfl⟩ := he
    simp only [own_stp, Option.some.injEq, Prod.mk.injEq] at h
    obtain ⟨rfl, rfl⟩ := h
    exact XS.bipush X.here hx rfl (hb hby hd) k
  case sipush z =>
    obtain ⟨⟨hd, rfl⟩, rfl⟩ := he
    simp only [own_stp, Option.some.injEq, Prod.mk.injEq] at h
    obtain ⟨rfl, rfl⟩ := h
    exact XS.sipush X.here hx rfl (hb hby hd) k
  case lconst z =>
    obtain ⟨⟨hd, rfl⟩, rfl⟩ := he
    simp only [own_stp, Option.some.injEq, Prod.mk.injEq] at h
    obtain ⟨rfl, rfl⟩ := h
    exact XT.lconst X.here hx rfl (hb hby hd) k
  case ldc idx =>
    obtain ⟨⟨hd, rfl⟩, hc⟩ := he
    simp only [own_stp, Option.some.injEq, Prod.mk.injEq] at h
    obtain ⟨rfl, rfl⟩ := h
    cases cv <;> first | (simp at hc; done) | skip
    exact X.ldcInt hx hown (mvT hZ (hw _ (List.contains_iff_mem.mp hc))) (g := mkF m pc L st) rfl (hb hby hd) _ k
  case ldc2_w idx =>
    obtain ⟨⟨hd, rfl⟩, hc⟩ := he
    simp only [own_stp, Option.some.injEq, Prod.mk.injEq] at h
    obtain ⟨rfl, rfl⟩ := h
    cases cv <;> first | (simp at hc; done) | skip
    exact X.ldc2Long hx hown (mvT hZ (hw _ (List.contains_iff_mem.mp hc))) (g := mkF m pc L st) rfl (hb hby hd) _ k
  case iload z =>
    obtain ⟨hd, rfl⟩ := he
    simp only [own_stp, own_ldI] at h
    split at h
    · rename_i v hl
      simp only [Option.some.injEq, Prod.mk.injEq] at h
      obtain ⟨rfl, rfl⟩ := h
      exact XS.iload X.here hx rfl (hb hby hd) hl k
    · cases h
  case iload_n z =>
    obtain ⟨hd, rfl⟩ := he
    simp only [own_stp, own_ldI] at h
    split at h
    · rename_i v hl
      simp only [Option.some.injEq, Prod.mk.injEq] at h
      obtain ⟨rfl, rfl⟩ := h
      exact XS.iloadN X.here hx rfl (hb hby hd) hl k
    · cases h
  case lload z =>
    obtain ⟨hd, rfl⟩ := he
    simp only [own_stp, own_ldJ] at h
    split at h
    · rename_i v hl
      simp only [Option.some.injEq, Prod.mk.injEq] at h
      obtain ⟨rfl, rfl⟩ := h
      exact XT.lload X.here hx rfl (hb hby hd) hl k
    · cases h
  case lload_n z =>
    obtain ⟨hd, rfl⟩ := he
    simp only [own_stp, own_ldJ] at h
    split at h
    · rename_i v hl
      simp only [Option.some.injEq, Prod.mk.injEq] at h
      obtain ⟨rfl, rfl⟩ := h
      exact XT.lloadN X.here hx rfl (hb hby hd) hl k
    · cases h
  case aload z =>
    obtain ⟨hd, rfl⟩ := he
    simp only [own_stp, own_ldA] at h
    split at h
    · rename_i v hl
      simp only [Option.some.injEq, Prod.mk.injEq] at h
      obtain ⟨rfl, rfl⟩ := h
      exact XS.aload X.here hx rfl (hb hby hd) hl rfl k
    · cases h
  case aload_n z =>
    obtain ⟨hd, rfl⟩ := he
    simp only [own_stp, own_ldA] at h
    split at h
    · rename_i v hl
      simp only [Option.some.injEq, Prod.mk.injEq] at h
      obtain ⟨rfl, rfl⟩ := h
      exact XS.aloadN X.here hx rfl (hb hby hd) hl rfl k
    · cases h
  case istore z =>
    obtain ⟨hd, rfl⟩ := he
    simp only [own_stp, own_stI] at h
    split at h
    · rename_i v r
      simp only [own_put] at h
      split at h
      · rename_i l' hl
        simp only [Option.some.injEq, Prod.mk.injEq] at h
        obtain ⟨rfl, rfl⟩ := h
        exact XS.istore X.here hx rfl (hb hby hd) rfl hl k
      · cases h
    · cases h
  case istore_n z =>
    obtain ⟨hd, rfl⟩ := he
    simp only [own_stp, own_stI] at h
    split at h
    · rename_i v r
      simp only [own_put] at h
      split at h
      · rename_i l' hl
        simp only [Option.some.injEq, Prod.mk.injEq] at h
        obtain ⟨rfl, rfl⟩ := h
        exact XS.istoreN X.here hx rfl (hb hby hd) rfl hl k
      · cases h
    · cases h
  case lstore z =>
    obtain ⟨hd, rfl⟩ := he
    simp only [own_stp, own_stJ] at h
    split at h
    · rename_i v r
      simp only [own_put] at h
      split at h
      · rename_i l' hl
        simp only [Option.some.injEq, Prod.mk.injEq] at h
        obtain ⟨rfl, rfl⟩ := h
        exact XT.lstore X.here hx rfl (hb hby hd) rfl hl k
      · cases h
    · cases h
  case lstore_n z =>
    obtain ⟨hd, rfl⟩ := he
    simp only [own_stp, own_stJ] at h
    split at h
    · rename_i v r
      simp only [own_put] at h
      split at h
      · rename_i l' hl
        simp only [Option.some.injEq, Prod.mk.injEq] at h
        obtain ⟨rfl, rfl⟩ := h
        exact XT.lstoreN X.here hx rfl (hb hby hd) rfl hl k
      · cases h
    · cases h
  case astore z =>
    obtain ⟨hd, rfl⟩ := he
    simp only [own_stp, own_stA] at h
    split at h
    · rename_i v r
      simp only [own_put] at h
      split at h
      · rename_i l' hl
        simp only [Option.some.injEq, Prod.mk.injEq] at h
        obtain ⟨rfl, rfl⟩ := h
        exact XS.astore X.here hx rfl (hb hby hd) rfl rfl hl k
      · cases h
    · cases h
  case astore_n z =>
    obtain ⟨hd, rfl⟩ := he
    simp only [own_stp, own_stA] at h
    split at h
    · rename_i v r
      simp only [own_put] at h
      split at h
      · rename_i l' hl
        simp only [Option.some.injEq, Prod.mk.injEq] at h
        obtain ⟨rfl, rfl⟩ := h
        exact XS.astoreN X.here hx rfl (hb hby hd) rfl rfl hl k
      · cases h
    · cases h
  case iadd =>
    obtain ⟨hd, rfl⟩ := he
    simp only [own_stp, own_bI] at h
    split at h
    · simp only [Option.some.injEq, Prod.mk.injEq] at h
      obtain ⟨rfl, rfl⟩ := h
      exact XS.iadd X.here hx rfl (hb hby hd) rfl k
    · cases h
  case isub =>
    obtain ⟨hd, rfl⟩ := he
    simp only [own_stp, own_bI] at h
    split at h
    · simp only [Option.some.injEq, Prod.mk.injEq] at h
      obtain ⟨rfl, rfl⟩ := h
      exact XS.isub X.here hx rfl (hb hby hd) rfl k
    · cases h
  case imul =>
    obtain ⟨hd, rfl⟩ := he
    simp only [own_stp, own_bI] at h
    split at h
    · simp only [Option.some.injEq, Prod.mk.injEq] at h
      obtain ⟨rfl, rfl⟩ := h
      exact XS.imul X.here hx rfl (hb hby hd) rfl k
    · cases h
  case iand =>
    obtain ⟨hd, rfl⟩ := he
    simp only [own_stp, own_bI] at h
    split at h
    · simp only [Option.some.injEq, Prod.mk.injEq] at h
      obtain ⟨rfl, rfl⟩ := h
      exact XS.iand X.here hx rfl (hb hby hd) rfl k
    · cases h
  case ior =>
    obtain ⟨hd, rfl⟩ := he
    simp only [own_stp, own_bI] at h
    split at h
    · simp only [Option.some.injEq, Prod.mk.injEq] at h
      obtain ⟨rfl, rfl⟩ := h
      exact XT.ior X.here hx rfl (hb hby hd) rfl k
    · cases h
  case ixor =>
    obtain ⟨hd, rfl⟩ := he
    simp only [own_stp, own_bI] at h
    split at h
    · simp only [Option.some.injEq, Prod.mk.injEq] at h
      obtain ⟨rfl, rfl⟩ := h
      exact XT.ixor X.here hx rfl (hb hby hd) rfl k
    · cases h
  case ishl =>
    obtain ⟨hd, rfl⟩ := he
    simp only [own_stp, own_bI] at h
    split at h
    · simp only [Option.some.injEq, Prod.mk.injEq] at h
      obtain ⟨rfl, rfl⟩ := h
      exact XT.ishl X.here hx rfl (hb hby hd) rfl k
    · cases h
  case ishr =>
    obtain ⟨hd, rfl⟩ := he
    simp only [own_stp, own_bI] at h
    split at h
    · simp only [Option.some.injEq, Prod.mk.injEq] at h
      obtain ⟨rfl, rfl⟩ := h
      exact XT.ishr X.here hx rfl (hb hby hd) rfl k
    · cases h
  case iushr =>
    obtain ⟨hd, rfl⟩ := he
    simp only [own_stp, own_bI] at h
    split at h
    · simp only [Option.some.injEq, Prod.mk.injEq] at h
      obtain ⟨rfl, rfl⟩ := h
      exact XT.iushr X.here hx rfl (hb hby hd) rfl k
    · cases h
  case ladd =>
    obtain ⟨hd, rfl⟩ := he
    simp only [own_stp, own_bJ] at h
    split at h
    · simp only [Option.some.injEq, Prod.mk.injEq] at h
      obtain ⟨rfl, rfl⟩ := h
      exact XT.ladd X.here hx rfl (hb hby hd) rfl k
    · cases h
  case lsub =>
    obtain ⟨hd, rfl⟩ := he
    simp only [own_stp, own_bJ] at h
    split at h
    · simp only [Option.some.injEq, Prod.mk.injEq] at h
      obtain ⟨rfl, rfl⟩ := h
      exact XT.lsub X.here hx rfl (hb hby hd) rfl k
    · cases h
  case lmul =>
    obtain ⟨hd, rfl⟩ := he
    simp only [own_stp, own_bJ] at h
    split at h
    · simp only [Option.some.injEq, Prod.mk.injEq] at h
      obtain ⟨rfl, rfl⟩ := h
      exact XT.lmul X.here hx rfl (hb hby hd) rfl k
    · cases h
  case land =>
    obtain ⟨hd, rfl⟩ := he
    simp only [own_stp, own_bJ] at h
    split at h
    · simp only [Option.some.injEq, Prod.mk.injEq] at h
      obtain ⟨rfl, rfl⟩ := h
      exact XT.land X.here hx rfl (hb hby hd) rfl k
    · cases h
  case lor =>
    obtain ⟨hd, rfl⟩ := he
    simp only [own_stp, own_bJ] at h
    split at h
    · simp only [Option.some.injEq, Prod.mk.injEq] at h
      obtain ⟨rfl, rfl⟩ := h
      exact XT.lor X.here hx rfl (hb hby hd) rfl k
    · cases h
  case lxor =>
    obtain ⟨hd, rfl⟩ := he
    simp only [own_stp, own_bJ] at h
    split at h
    · simp only [Option.some.injEq, Prod.mk.injEq] at h
      obtain ⟨rfl, rfl⟩ := h
      exact XT.lxor X.here hx rfl (hb hby hd) rfl k
    · cases h
  case lshl =>
    obtain ⟨hd, rfl⟩ := he
    simp only [own_stp, own_sJ] at h
    split at h
    · simp only [Option.some.injEq, Prod.mk.injEq] at h
      obtain ⟨rfl, rfl⟩ := h
      exact XT.lshl X.here hx rfl (hb hby hd) rfl k
    · cases h
  case lshr =>
    obtain ⟨hd, rfl⟩ := he
    simp only [own_stp, own_sJ] at h
    split at h
    · simp only [Option.some.injEq, Prod.mk.injEq] at h
      obtain ⟨rfl, rfl⟩ := h
      exact XT.lshr X.here hx rfl (hb hby hd) rfl k
    · cases h
  case lushr =>
    obtain ⟨hd, rfl⟩ := he
    simp only [own_stp, own_sJ] at h
    split at h
    · simp only [Option.some.injEq, Prod.mk.injEq] at h
      obtain ⟨rfl, rfl⟩ := h
      exact XT.lushr X.here hx rfl (hb hby hd) rfl k
    · cases h
  case i2b =>
    obtain ⟨hd, rfl⟩ := he
    simp only [own_stp, own_uI] at h
    split at h
    · simp only [Option.some.injEq, Prod.mk.injEq] at h
      obtain ⟨rfl, rfl⟩ := h
      exact XT.i2b X.here hx rfl (hb hby hd) rfl k
    · cases h
  case i2c =>
    obtain ⟨hd, rfl⟩ := he
    simp only [own_stp, own_uI] at h
    split at h
    · simp only [Option.some.injEq, Prod.mk.injEq] at h
      obtain ⟨rfl, rfl⟩ := h
      exact XT.i2c X.here hx rfl (hb hby hd) rfl k
    · cases h
  case i2s =>
    obtain ⟨hd, rfl⟩ := he
    simp only [own_stp, own_uI] at h
    split at h
    · simp only [Option.some.injEq, Prod.mk.injEq] at h
      obtain ⟨rfl, rfl⟩ := h
      exact XT.i2s X.here hx rfl (hb hby hd) rfl k
    · cases h
  case i2l =>
    obtain ⟨hd, rfl⟩ := he
    simp only [own_stp, own_uI] at h
    split at h
    · simp only [Option.some.injEq, Prod.mk.injEq] at h
      obtain ⟨rfl, rfl⟩ := h
      exact XT.i2l X.here hx rfl (hb hby hd) rfl k
    · cases h
  case l2i =>
    obtain ⟨hd, rfl⟩ := he
    simp only [own_stp, own_uI] at h
    split at h
    · simp only [Option.some.injEq, Prod.mk.injEq] at h
      obtain ⟨rfl, rfl⟩ := h
      exact XT.l2i X.here hx rfl (hb hby hd) rfl k
    · cases h
  case lneg =>
    obtain ⟨hd, rfl⟩ := he
    simp only [own_stp, own_uI] at h
    split at h
    · simp only [Option.some.injEq, Prod.mk.injEq] at h
      obtain ⟨rfl, rfl⟩ := h
      exact XT.lneg X.here hx rfl (hb hby hd) rfl k
    · cases h
  case lcmp =>
    obtain ⟨hd, rfl⟩ := he
    simp only [own_stp, own_uI] at h
    split at h
    · simp only [Option.some.injEq, Prod.mk.injEq] at h
      obtain ⟨rfl, rfl⟩ := h
      exact XT.lcmp X.here hx rfl (hb hby hd) rfl k
    · cases h
  case iinc z q =>
    obtain ⟨hd, rfl⟩ := he
    simp only [own_stp] at h
    split at h
    · rename_i v hl
      simp only [own_put] at h
      split at h
      · rename_i l' hl'
        simp only [Option.some.injEq, Prod.mk.injEq] at h
        obtain ⟨rfl, rfl⟩ := h
        exact XS.iinc X.here hx rfl (hb hby hd) hl hl' k
      · cases h
    · cases h
  case dup =>
    obtain ⟨hd, rfl⟩ := he
    simp only [own_stp] at h
    split at h
    · simp only [Option.some.injEq, Prod.mk.injEq] at h
      obtain ⟨rfl, rfl⟩ := h
      exact XS.dup X.here hx rfl (hb hby hd) rfl rfl k
    · cases h
/-- a reading method's contract: where P says so of the heap, the arguments and v it returns v, keeps the heap, makes nothing -/
def own_Pure (l : Launch) (Z : State) (y : MethodName) (bytes : ByteArray) (maxL : Nat) (ret : Option FieldType) (rm : Room) (P : Heap → List Value → Value → Prop) : Prop :=
  ∀ (ws : List Jvm.Cond) (h0 : Heap) (as : List Value) (w : Value), P h0 as w → MetFree l y (head1 (Jvm.Cond.code y bytes maxL ret :: ws) rm) (fun a U => a = as.toArray ∧ Z.Warmed39 U.vm ∧ U.heap = h0) (fun _ _ _ _ _ => True)
    (fun _ U o U' => ∃ v L, o = .returned v ∧ (v = some w ∧ L = [] ∧ U'.heap = h0) ∧ FrameEnd U o U' L rm.cells rm.slots)
/-- a static call of the table 'own' at entry q.1 -/
def own_CallOk (l : Launch) (Z : State) (a0 : Array Value) (own : String) (R : Room) (W : Nat) (q : own_Call) : Prop :=
  ∃ (y : MethodName) (bytes : ByteArray) (maxL : Nat) (ret : Option FieldType) (rm : Room), own_Pure l Z y bytes maxL ret rm q.2.2 ∧ (Jvm.Cond.methodLink own q.1 y).before a0 Z = true ∧ (Jvm.Cond.static y).before a0 Z = true ∧ (Jvm.Cond.initialized y.cls).before a0 Z = true ∧ (Jvm.Cond.code y bytes maxL ret).before a0 Z = true ∧
    (y.cls ≠ "java/lang/invoke/MethodHandle" ∧ y.cls ≠ "java/lang/invoke/VarHandle") ∧ (∃ ps r, parseMethodDescriptor y.desc = some ⟨ps, r⟩ ∧ q.2.1 = ps.length) ∧ rm.cells = 0 ∧ rm.slots = 0 ∧ rm.frames + 1 ≤ R.frames ∧ W + (maxL + 11) + rm.locals ≤ R.locals
/-- a virtual call on an object of the class y.cls itself -/
def own_VirtOk (l : Launch) (Z : State) (a0 : Array Value) (own : String) (R : Room) (W : Nat) (q : own_Call) : Prop :=
  ∃ (y : MethodName) (bytes : ByteArray) (maxL : Nat) (ret : Option FieldType) (rm : Room), own_Pure l Z y bytes maxL ret rm q.2.2 ∧ (∀ h a as w, q.2.2 h (.ref a :: as) w → Exa Z h a y.cls) ∧ (Jvm.Cond.methodLink own q.1 y).before a0 Z = true ∧ (Jvm.Cond.declares y).before a0 Z = true ∧ (Jvm.Cond.selects y.cls y y).before a0 Z = true ∧ (Jvm.Cond.instanceMethod y).before a0 Z = true ∧ (Jvm.Cond.initialized y.cls).before a0 Z = true ∧ (Jvm.Cond.code y bytes maxL ret).before a0 Z = true ∧
    (y.cls ≠ "java/lang/invoke/MethodHandle" ∧ y.cls ≠ "java/lang/invoke/VarHandle") ∧ (∃ ps r, parseMethodDescriptor y.desc = some ⟨ps, r⟩ ∧ q.2.1 = ps.length) ∧ rm.cells = 0 ∧ rm.slots = 0 ∧ rm.frames + 1 ≤ R.frames ∧ W + (maxL + 11) + rm.locals ≤ R.locals
def own_FldOk (Z : State) (a0 : Array Value) (own : String) (h : Heap) (q : own_Fld) : Prop :=
  ∃ R0 O n d, (Jvm.Cond.fieldLink own q.1 R0 n d).before a0 Z = true ∧ Via Z R0 O n d ∧ Fld Z h q.2.1 O n d q.2.2
def own_ArrOk (Z : State) (h : Heap) (q : own_Arr) : Prop := ∃ k, Arv Z h q.1 k q.2.2.1 q.2.1 q.2.2.2.1 q.2.2.2.2
def own_EnvOk (l : Launch) (Z : State) (a0 : Array Value) (own : String) (R : Room) (E : own_Env) : Prop :=
  (∀ q ∈ E.1, own_CallOk l Z a0 own R E.2.2.2.2.2.2 q) ∧ (∀ q ∈ E.2.1, own_VirtOk l Z a0 own R E.2.2.2.2.2.2 q) ∧ (∀ q ∈ E.2.2.1, own_FldOk Z a0 own E.2.2.2.2.1 q) ∧ (∀ q ∈ E.2.2.2.1, own_ArrOk Z E.2.2.2.2.1 q)
theorem own_wp_sound (hx : p.tables.exec = Jvm.exec) {code : ByteArray} (hby : c.code = code) (hZ : Z.Warmed39 s.vm) {own : String} (hown : s.vm.findClass own = some m.cls) {ws : List Jvm.Cond} (hw : ∀ d ∈ ws, d.before a0 Z = true)
    {tab : List own_Ent} (hT : tab.all (own_ok code own ws) = true) {E : own_Env} (hml : c.maxLocals = E.2.2.2.2.2.1) (hE : own_EnvOk l Z a0 own R E) (hcl : cells ≤ R.cells) (hsl : slots ≤ R.slots) {stop : List Nat} {Q : Nat → Array Slot → List Value → Prop} :
    ∀ (n pc : Nat) (L : Array Slot) (st : List Value) {T : State}, Stand p l e R s m args below meth c T locs cells slots → T.heap = E.2.2.2.2.1 → own_wp stop tab E Q n pc L st →
      ∃ T' pc' L' st', Stand p l e R s m args below meth c T' locs cells slots ∧ T'.heap = E.2.2.2.2.1 ∧ Q pc' L' st' ∧ ∀ t, Steps p.tables e below (T'.setTop (mkF m pc' L' st')) t → Steps p.tables e below (T.setTop (mkF m pc L st)) t := by
  obtain ⟨hC, hV, hF, hA⟩ := hE
  intro n
  induction n with
  | zero => intro pc L st T X eT h; exact h.elim
  | succ n ih =>
    intro pc L st T X eT h
    have stay : Q pc L st → ∃ T' pc' L' st', Stand p l e R s m args below meth c T' locs cells slots ∧ T'.heap = E.2.2.2.2.1 ∧ Q pc' L' st' ∧ ∀ t, Steps p.tables e below (T'.setTop (mkF m pc' L' st')) t → Steps p.tables e below (T.setTop (mkF m pc L st)) t := fun h => ⟨T, pc, L, st, X, eT, h, fun _ k => k⟩
    have go : ∀ {pc1 : Nat} {L1 : Array Slot} {st1 : List Value} {T1 : State}, Stand p l e R s m args below meth c T1 locs cells slots → T1.heap = E.2.2.2.2.1 → own_wp stop tab E Q n pc1 L1 st1 → (∀ t, Steps p.tables e below (T1.setTop (mkF m pc1 L1 st1)) t → Steps p.tables e below (T.setTop (mkF m pc L st)) t) →
        ∃ T' pc' L' st', Stand p l e R s m args below meth c T' locs cells slots ∧ T'.heap = E.2.2.2.2.1 ∧ Q pc' L' st' ∧ ∀ t, Steps p.tables e below (T'.setTop (mkF m pc' L' st')) t → Steps p.tables e below (T.setTop (mkF m pc L st)) t := by
      intro pc1 L1 st1 T1 X1 e1 h1 k1
      obtain ⟨T', pc', L', st', X', e', q', k'⟩ := ih pc1 L1 st1 X1 e1 h1
      exact ⟨T', pc', L', st', X', e', q', fun t k => k1 t (k' t k)⟩
    unfold own_wp at h
    cases hs : own_in stop pc with
    | true => rw [hs] at h; exact stay h
    | false =>
    rw [hs] at h
    simp only [cond_false] at h
    cases hl : own_look tab pc with
    | none => rw [hl] at h; exact stay h
    | some r =>
      obtain ⟨i, nx, tg, cv⟩ := r
      rw [hl] at h
      have he : own_ok code own ws (pc, i, nx, tg, cv) = true := List.all_eq_true.mp hT _ (own_look_mem hl)
      dsimp only at h
      unfold own_nxt at h
      split at h
      · rename_i cd o
        simp only [own_ok, Bool.and_eq_true, decide_eq_true_eq] at he
        obtain ⟨⟨⟨hd, ho⟩, ht⟩, rfl⟩ := he
        split at h
        · rename_i y x r
          by_cases hc : own_icmp cd x y
          · exact go X eT (h.1 hc) (fun t k => XS.icmpYes X.here hx rfl (pc0 := pc) rfl (hb hby hd) rfl (own_icmp_iff.mpr hc) ho ht k)
          · exact go X eT (h.2 hc) (fun t k => XS.icmpNo X.here hx rfl (hb hby hd) rfl (by simpa using mt own_icmp_iff.mp hc) k)
        · exact stay h
      · rename_i cd o
        simp only [own_ok, Bool.and_eq_true, decide_eq_true_eq] at he
        obtain ⟨⟨⟨hd, ho⟩, ht⟩, rfl⟩ := he
        split at h
        · rename_i x r
          by_cases hc : own_icmp cd x 0
          · exact go X eT (h.1 hc) (fun t k => XS.ifYes X.here hx rfl (pc0 := pc) rfl (hb hby hd) rfl (own_if_iff.mpr hc) ho ht k)
          · exact go X eT (h.2 hc) (fun t k => XS.ifNo X.here hx rfl (hb hby hd) rfl (by simpa using mt own_if_iff.mp hc) k)
        · exact stay h
      · rename_i o
        simp only [own_ok, Bool.and_eq_true, decide_eq_true_eq] at he
        obtain ⟨⟨hd, ho⟩, ht⟩ := he
        exact go X eT h (fun t k => XS.goto X.here hx rfl (pc0 := pc) rfl (hb hby hd) ho ht k)
      · simp only [own_ok, Bool.and_eq_true, decide_eq_true_eq] at he
        simp only [own_len, own_cv, decide_eq_true_eq, and_true] at he
        obtain ⟨hd, rfl⟩ := he
        split at h
        · exact go X eT h.2 (fun t k => iremM X hx (g := mkF m pc L _) rfl (hb hby hd) rfl h.1 k)
        · exact stay h
      · simp only [own_ok, Bool.and_eq_true, decide_eq_true_eq] at he
        simp only [own_len, own_cv, decide_eq_true_eq, and_true] at he
        obtain ⟨hd, rfl⟩ := he
        split at h
        · exact go X eT h.2 (fun t k => XS.idiv X.here hx rfl (hb hby hd) rfl h.1 k)
        · exact stay h
      · simp only [own_ok, Bool.and_eq_true, decide_eq_true_eq] at he
        simp only [own_len, own_cv, decide_eq_true_eq, and_true] at he
        obtain ⟨hd, rfl⟩ := he
        split at h
        · exact go X eT h.2 (fun t k => XT.lrem X.here hx rfl (hb hby hd) rfl h.1 k)
        · exact stay h
      · simp only [own_ok, Bool.and_eq_true, decide_eq_true_eq] at he
        simp only [own_len, own_cv, decide_eq_true_eq, and_true] at he
        obtain ⟨hd, rfl⟩ := he
        split at h
        · exact go X eT h.2 (fun t k => XT.ldiv X.here hx rfl (hb hby hd) rfl h.1 k)
        · exact stay h
      · rename_i idx
        simp only [own_ok, Bool.and_eq_true, decide_eq_true_eq] at he
        simp only [own_len, own_cv, decide_eq_true_eq, and_true] at he
        obtain ⟨hd, rfl⟩ := he
        split at h
        · rename_i n' P hC'
          obtain ⟨w, hP, hlen, hcat, hsz, h⟩ := h
          obtain ⟨y, bytes, maxL, ret, rm, hM, w1, w2, w3, w4, hy, ⟨ps, rr, hsig, hpl⟩, hrc, hrs, hf, hlo⟩ := hC _ (own_lookC_mem hC')
          dsimp only at hM hpl
          obtain ⟨v, vm₁, ⟨T2, L2, k2, n2⟩, -, X2, ⟨Lc, hQ, l2, y2, z2⟩, st2⟩ := Jvm.LawKit.callS X hx (y := y) hown (mvT hZ w1) (mvT hZ w2) (mvT hZ w3) (mvT hZ w4) hy
            (backOf (W := E.2.2.2.2.2.2) (Q := fun v h L => v = some w ∧ L = [] ∧ h = E.2.2.2.2.1) (hM [] E.2.2.2.2.1 (st.take n').reverse w hP) hZ w4 w3 hf hlo) (g := mkF m pc L st) rfl (by rw [hml]; exact hsz) (argsL := (st.take n').reverse) (rest := st.drop n')
            (lenOf hsig (by rw [List.length_reverse, hlen]; exact hpl)) (by simp) (by show 2 * 0 + own_cat _ ≤ _; omega) (hb hby hd) (fun _ _ => ⟨rfl, eT, by rw [hrc]; exact hcl, by rw [hrs]; exact hsl⟩)
          dsimp only [Pt.U, Pt.locs, Pt.cells, Pt.slots] at X2 l2 y2 z2 st2 hQ
          subst l2 y2 z2
          obtain ⟨rfl, rfl, hh⟩ := hQ
          rw [hrc, hrs] at X2
          simp only [List.append_nil, Nat.add_zero] at X2
          exact go X2 hh h (fun t k => st2 t k)
        · exact stay h
      · rename_i idx
        simp only [own_ok, Bool.and_eq_true, decide_eq_true_eq] at he
        simp only [own_len, own_cv, decide_eq_true_eq, and_true] at he
        obtain ⟨hd, rfl⟩ := he
        split at h
        · rename_i n' P hC'
          split at h
          · rename_i a r hdrop
            obtain ⟨w, hP, hlen, hcat, hsz, h⟩ := h
            obtain ⟨y, bytes, maxL, ret, rm, hM, hEx, w1, w2, w5, w6, w3, w4, hy, ⟨ps, rr, hsig, hpl⟩, hrc, hrs, hf, hlo⟩ := hV _ (own_lookC_mem hC')
            dsimp only at hM hpl hEx
            obtain ⟨cq, kq, qa, qb, qc⟩ := isOf hZ eT (hEx _ _ _ _ hP)
            obtain ⟨v, vm₁, ⟨T2, L2, k2, n2⟩, -, X2, ⟨Lc, hQ, l2, y2, z2⟩, st2⟩ := X.virtualBack hx (y := y) (z := y) hown (mvT hZ w1) (mvT hZ w2) (notFace_of_selects (args := #[]) (mvT hZ w5)) (mvT hZ w5) (mvT hZ w6) hy
              (backOf (W := E.2.2.2.2.2.2) (Q := fun v h L => v = some w ∧ L = [] ∧ h = E.2.2.2.2.1) (hM [] E.2.2.2.2.1 (.ref a :: (st.take n').reverse) w hP) hZ w4 w3 hf hlo) qa qc (g := mkF m pc L st) rfl (by rw [hml]; exact hsz) (Steps.refl _) (argsL := (st.take n').reverse) (rest := r)
              (lenOf hsig (by rw [List.length_reverse, hlen]; exact hpl)) (by show st = _; rw [List.reverse_reverse, ← hdrop, List.take_append_drop]) (by show 2 * 0 + own_cat _ ≤ _; omega) (hb hby hd) (fun _ _ => ⟨rfl, eT, by rw [hrc]; exact hcl, by rw [hrs]; exact hsl⟩)
            dsimp only [Pt.U, Pt.locs, Pt.cells, Pt.slots] at X2 l2 y2 z2 st2 hQ
            subst l2 y2 z2
            obtain ⟨rfl, rfl, hh⟩ := hQ
            rw [hrc, hrs] at X2
            simp only [List.append_nil, Nat.add_zero] at X2
            exact go X2 hh h (fun t k => st2.trans k)
          · exact stay h
        · exact stay h
      · rename_i idx
        simp only [own_ok, Bool.and_eq_true, decide_eq_true_eq] at he
        simp only [own_len, own_cv, decide_eq_true_eq, and_true] at he
        obtain ⟨hd, rfl⟩ := he
        split at h
        · rename_i a r
          split at h
          · rename_i b v hF'
            obtain ⟨rfl, h⟩ := h
            obtain ⟨R0, O, nn, dd, w1, via, F1⟩ := hF _ (own_lookF_mem hF')
            obtain ⟨T2, X2, e2, st2⟩ := getF X hx hZ hown (host := "") (Or.inl w1) via eT F1 (g := mkF m pc L (.ref a :: r)) rfl rfl (hb hby hd)
            exact go X2 e2 h (fun t k => st2 t k)
          · exact stay h
        · exact stay h
      · simp only [own_ok, Bool.and_eq_true, decide_eq_true_eq] at he
        simp only [own_len, own_cv, decide_eq_true_eq, and_true] at he
        obtain ⟨hd, rfl⟩ := he
        split at h
        · rename_i a r
          split at h
          · rename_i b nn ty vs dd rest hA'
            obtain ⟨rfl, h⟩ := h
            obtain ⟨kk, cl, Ar, -, Sz, Mz, Hz, -⟩ := hA _ (by rw [hA']; exact List.mem_cons_self)
            dsimp only at Ar Sz Mz Hz
            refine go X eT h (fun t k => ?_)
            have k2 := X.arraylength hx (by rw [eT]; exact Ar.1) (State.isArrayOf_alike hZ.alike Ar.2.1) (g := mkF m pc L (.ref a :: r)) rfl rfl (hb hby hd) t
            rw [len_of Sz Mz] at k2
            exact k2 k
          · exact stay h
        · exact stay h
      · simp only [own_ok, Bool.and_eq_true, decide_eq_true_eq] at he
        simp only [own_len, own_cv, decide_eq_true_eq, and_true] at he
        obtain ⟨hd, rfl⟩ := he
        split at h
        · rename_i j a r
          split at h
          · rename_i b nn ty vs dd rest hA'
            obtain ⟨rfl, rfl, hj0, hjn, z, hz, h⟩ := h
            obtain ⟨kk, cl, Ar, -, Sz, Mz, Hz, -⟩ := hA _ (by rw [hA']; exact List.mem_cons_self)
            dsimp only at Ar Sz Mz Hz
            have hin : ¬ (j < 0 ∨ cl.slots.size ≤ j.toNatClampNeg) := own_inb Sz hj0 hjn
            exact go X eT h (fun t k => X.laload hx (j := j) (v := .long z) (by rw [eT]; exact Ar.1) (State.isArrayOf_alike hZ.alike Ar.2.1) Ar.2.2 hin (by rw [Hz _ (Nat.lt_of_not_le fun q => hin (Or.inr q)), hz]) (g := mkF m pc L (.int j :: .ref a :: r)) rfl rfl (hb hby hd) t k)
          · exact stay h
        · exact stay h
      · simp only [own_ok, Bool.and_eq_true, decide_eq_true_eq] at he
        simp only [own_len, own_cv, decide_eq_true_eq, and_true] at he
        obtain ⟨hd, rfl⟩ := he
        split at h
        · rename_i j a r
          split at h
          · rename_i b nn ty vs dd rest hA'
            obtain ⟨rfl, rfl, hj0, hjn, z, hz, h⟩ := h
            obtain ⟨kk, cl, Ar, -, Sz, Mz, Hz, -⟩ := hA _ (by rw [hA']; exact List.mem_cons_self)
            dsimp only at Ar Sz Mz Hz
            have hin : ¬ (j < 0 ∨ cl.slots.size ≤ j.toNatClampNeg) := own_inb Sz hj0 hjn
            exact go X eT h (fun t k => X.baloadBytes hx (j := j) (v := .int z) (by rw [eT]; exact Ar.1) (State.isArrayOf_alike hZ.alike Ar.2.1) Ar.2.2 hin (by rw [Hz _ (Nat.lt_of_not_le fun q => hin (Or.inr q)), hz]) (g := mkF m pc L (.int j :: .ref a :: r)) rfl rfl (hb hby hd) t k)
          · exact stay h
        · exact stay h
      · split at h
        · rename_i L' st' hs
          exact go X eT h (fun t k => own_stp_sound X hx hby hZ hown hw he hs k)
        · exact stay h
/-- what a return hands back -/
def own_top : FieldType → List Value → Option Value
  | .long, .long z :: _ => some (.long z)
  | .int, .int z :: _ => some (.int z)
  | .boolean, .int z :: _ => some (.int (z &&& 1))
  | .byte, .int z :: _ => some (.int (nar .byte z))
  | .char, .int z :: _ => some (.int (nar .char z))
  | .short, .int z :: _ => some (.int (nar .short z))
  | _, _ => none
def own_reti : FieldType → Instr
  | .long => .lreturn
  | _ => .ireturn
theorem own_ret {T : State} (X : Stand p l e R s m args below meth c T locs cells slots) (hx : p.tables.exec = Jvm.exec) {pc : Nat} {L : Array Slot} {st : List Value} {t : FieldType} {v : Value} (hret : meth.sig.returnType = some t) (hd : decode c.code pc = .ok (own_reti t, 1)) (ht : own_top t st = some v) {fs : List Frame}
    (hl : ∀ (f : JFrame) (acts : List Action), f.method = m → f.locked = none → f.entered = [] → (doReturn e (T.setTop f) acts (some v)).1 = T.setFrames fs) : Steps p.tables e below (T.setTop (mkF m pc L st)) (T.setFrames fs) := by
  unfold own_top at ht
  split at ht
  · cases ht; exact retOut X hx hret rfl (Or.inr (Or.inl ⟨rfl, rfl, _, rfl⟩)) hd hl
  · cases ht; exact retOut X hx hret rfl (Or.inl ⟨rfl, Or.inl rfl, _, rfl⟩) hd hl
  · cases ht; exact retN X hx (t := .boolean) hret (by simp) hd hl
  · cases ht; exact retN X hx (t := .byte) hret (by simp) hd hl
  · cases ht; exact retN X hx (t := .char) hret (by simp) hd hl
  · cases ht; exact retN X hx (t := .short) hret (by simp) hd hl
  · cases ht
/-- the end of a reading walk: at one of the returns, with this value -/
def own_retQ (rets : List Nat) (rt : FieldType) (v : Value) (pc : Nat) (_L : Array Slot) (st : List Value) : Prop := rets.contains pc = true ∧ own_top rt st = some v
theorem own_pure {y : MethodName} {bytes : ByteArray} {maxL N : Nat} {rt : FieldType} {rm : Room} {tab : List own_Ent} {ws : List Jvm.Cond} {P : Heap → List Value → Value → Prop} (rets : List Nat) (hp : plainFor y = true) (hw : ∀ d ∈ ws, d.before a0 Z = true)
    (hT : tab.all (own_ok bytes y.cls ws) = true) (hR : rets.all (fun q => decide (decode bytes q = .ok (own_reti rt, 1))) = true) (W : Nat) (C V : List own_Call) (hC : ∀ q ∈ C, own_CallOk l Z a0 y.cls rm W q) (hV : ∀ q ∈ V, own_VirtOk l Z a0 y.cls rm W q)
    (H : ∀ h as v, P h as v → ∃ L0 F A, argsToLocals as.toArray maxL = L0 ∧ (∀ q ∈ F, own_FldOk Z a0 y.cls h q) ∧ (∀ q ∈ A, own_ArrOk Z h q) ∧ own_wp [] tab (C, V, F, A, h, maxL, W) (own_retQ rets rt v) N 0 L0 []) : own_Pure l Z y bytes maxL (some rt) rm P := by
  intro ws' h0 as v hP
  refine MetFree.of_bodySF hp hisR ?_
  intro p e s m args below meth c s₁ Bd hml hQ hK
  obtain ⟨rfl, hZ, hh⟩ := hQ
  have hx := Bd.exec
  have hby := Bd.bytes
  have hown : s.vm.findClass y.cls = some m.cls := findClass_of_methodNamed Bd.named
  have X0 : Stand p l e rm s m as.toArray below meth c s₁ [] 0 0 := Stand.of_body Bd
  have e0 : s₁.heap = h0 := by rw [← hh, Bd.state]; rfl
  obtain ⟨L0, F, A, hL0, hF, hA, hwp⟩ := H h0 as v hP
  subst hL0
  obtain ⟨T, pc, L, st, X, eT, ⟨hpc, htop⟩, k⟩ := own_wp_sound hx hby hZ hown hw hT (E := (C, V, F, A, h0, maxL, W)) hml ⟨hC, hV, hF, hA⟩ (Nat.zero_le _) (Nat.zero_le _) N 0 _ [] X0 e0 hwp
  have hd : decode bytes pc = .ok (own_reti rt, 1) := by simpa using List.all_eq_true.mp hR pc (List.contains_iff_mem.mp hpc)
  obtain ⟨fs, hr, hrun, hended, hW, hsame⟩ := X.leave (v := some v) (fun h => by rw [Bd.returns] at h; cases h)
  refine ⟨_, _, k _ ?_, hrun, hended, _, _, rfl, ⟨rfl, rfl, ?_⟩, ⟨_, rfl⟩, hW, hsame.mono (Nat.zero_le _) (Nat.zero_le _)⟩
  · exact own_ret X hx Bd.returns (hb hby hd) htop hr
  · exact eT
/-- a piece of a walk, its end told -/
theorem own_seg {T : State} (X : Stand p l e R s m args below meth c T locs cells slots) (hx : p.tables.exec = Jvm.exec) {code : ByteArray} (hby : c.code = code) (hZ : Z.Warmed39 s.vm) {own : String} (hown : s.vm.findClass own = some m.cls) {ws : List Jvm.Cond} (hw : ∀ d ∈ ws, d.before a0 Z = true)
    {tab : List own_Ent} (hT : tab.all (own_ok code own ws) = true) {E : own_Env} (hml : c.maxLocals = E.2.2.2.2.2.1) (hE : own_EnvOk l Z a0 own R E) (hcl : cells ≤ R.cells) (hsl : slots ≤ R.slots) (eT : T.heap = E.2.2.2.2.1) {stop : List Nat} {n pc0 pc1 : Nat} {L0 L1 : Array Slot} {st0 st1 : List Value}
    (h : own_wp stop tab E (fun pc L st => pc = pc1 ∧ L = L1 ∧ st = st1) n pc0 L0 st0) :
    ∃ T', Stand p l e R s m args below meth c T' locs cells slots ∧ T'.heap = E.2.2.2.2.1 ∧ ∀ t, Steps p.tables e below (T'.setTop (mkF m pc1 L1 st1)) t → Steps p.tables e below (T.setTop (mkF m pc0 L0 st0)) t := by
  obtain ⟨T', _, _, _, X', e', ⟨rfl, rfl, rfl⟩, k⟩ := own_wp_sound hx hby hZ hown hw hT hml hE hcl hsl n pc0 L0 st0 X eT h
  exact ⟨T', X', e', k⟩
end own_Sound
def own_tb0 : List own_Ent := [(0, .iload_n 3, 1, 0, .null), (1, .bipush 31, 3, 0, (.int 31)), (3, .iand, 4, 0, .null), (4, .istore 5, 6, 0, .null), (6, .bipush 19, 8, 0, (.int 19)), (8, .iload 5, 10, 0, .null), (10, .isub, 11, 0, .null), (11, .iload 4, 13, 0, .null), (13, .bipush 63, 15, 0, (.int 63)), (15, .iand, 16, 0, .null), (16, .invokestatic 7, 19, 0, .null), (19, .istore 6, 21, 0, .null), (21, .lload_n 0, 22, 0, .null), (22, .iload 6, 24, 0, .null), (24, .lshr, 25, 0, .null), (25, .lstore 7, 27, 0, .null), (27, .iload_n 2, 28, 0, .null), (28, .iload 5, 30, 0, .null), (30, .ishr, 31, 0, .null), (31, .istore 9, 33, 0, .null), (33, .lload 7, 35, 0, .null), (35, .iload 9, 37, 0, .null), (37, .invokestatic 13, 40, 0, .null), (40, .lstore 10, 42, 0, .null), (42, .lload 7, 44, 0, .null), (44, .ldc2_w 19, 47, 0, (.long 10000)), (47, .ldiv, 48, 0, .null), (48, .lstore 12, 50, 0, .null), (50, .lload 7, 52, 0, .null), (52, .ldc2_w 19, 55, 0, (.long 10000)), (55, .lrem, 56, 0, .null), (56, .lstore 14, 58, 0, .null), (58, .lload 10, 60, 0, .null), (60, .lload 12, 62, 0, .null), (62, .iload 9, 64, 0, .null), (64, .i2l, 65, 0, .null), (65, .lmul, 66, 0, .null), (66, .lsub, 67, 0, .null), (67, .lstore 16, 69, 0, .null), (69, .lload 16, 71, 0, .null), (71, .ldc2_w 21, 74, 0, (.long 4294967296)), (74, .lcmp, 75, 0, .null), (75, .ifCond .gt 12, 78, 87, .null), (78, .lload 16, 80, 0, .null), (80, .ldc2_w 23, 83, 0, (.long (-4294967296))), (83, .lcmp, 84, 0, .null), (84, .ifCond .ge 5, 87, 89, .null), (87, .iconst 0, 88, 0, (.int 0)), (89, .ldc2_w 19, 92, 0, (.long 10000)), (92, .lload 16, 94, 0, .null), (94, .lmul, 95, 0, .null), (95, .lload 14, 97, 0, .null), (97, .iload 9, 99, 0, .null), (99, .i2l, 100, 0, .null), (100, .lmul, 101, 0, .null), (101, .lsub, 102, 0, .null), (102, .lstore 18, 104, 0, .null), (104, .lload 7, 106, 0, .null), (106, .lconst 0, 107, 0, (.long 0)), (107, .lcmp, 108, 0, .null), (108, .ifCond .le 8, 111, 116, .null), (111, .iload 9, 113, 0, .null), (113, .ifCond .gt 15, 116, 128, .null), (116, .lload 7, 118, 0, .null), (118, .lconst 0, 119, 0, (.long 0)), (119, .lcmp, 120, 0, .null), (120, .ifCond .ge 12, 123, 132, .null), (123, .iload 9, 125, 0, .null), (125, .ifCond .ge 7, 128, 132, .null), (128, .iconst 1, 129, 0, (.int 1)), (129, .goto 4, 0, 133, .null), (132, .iconst 0, 133, 0, (.int 0)), (133, .istore 20, 135, 0, .null), (135, .lload 7, 137, 0, .null), (137, .lconst 0, 138, 0, (.long 0)), (138, .lcmp, 139, 0, .null), (139, .ifCond .le 8, 142, 147, .null), (142, .iload 9, 144, 0, .null), (144, .ifCond .lt 15, 147, 159, .null), (147, .lload 7, 149, 0, .null), (149, .lconst 0, 150, 0, (.long 0)), (150, .lcmp, 151, 0, .null), (151, .ifCond .ge 12, 154, 163, .null), (154, .iload 9, 156, 0, .null), (156, .ifCond .le 7, 159, 163, .null), (159, .iconst 1, 160, 0, (.int 1)), (160, .goto 4, 0, 164, .null), (163, .iconst 0, 164, 0, (.int 0)), (164, .istore 21, 166, 0, .null), (166, .lload 18, 168, 0, .null), (168, .ldc2_w 25, 171, 0, (.long (-5000))), (171, .lcmp, 172, 0, .null), (172, .ifCond .le 14, 175, 186, .null), (175, .lload 18, 177, 0, .null), (177, .ldc2_w 27, 180, 0, (.long 5000)), (180, .lcmp, 181, 0, .null), (181, .ifCond .ge 5, 184, 186, .null), (184, .iconst 1, 185, 0, (.int 1)), (186, .lload 18, 188, 0, .null), (188, .ldc2_w 27, 191, 0, (.long 5000)), (191, .lcmp, 192, 0, .null), (192, .ifCond .ne 6, 195, 198, .null), (195, .iload 20, 197, 0, .null), (198, .lload 18, 200, 0, .null), (200, .ldc2_w 25, 203, 0, (.long (-5000))), (203, .lcmp, 204, 0, .null), (204, .ifCond .ne 6, 207, 210, .null), (207, .iload 21, 209, 0, .null), (210, .iconst 0, 211, 0, (.int 0))]
theorem own_tb0_ok : own_tb0.all (own_ok code "com/example/incentd/incentd/programs/BasisPointsSharePinLaw" tables_1) = true := by decide +kernel
def own_tb1 : List own_Ent := [(0, .iload_n 0, 1, 0, .null), (1, .iload_n 1, 2, 0, .null), (2, .if_icmp .lt 7, 5, 9, .null), (5, .iload_n 0, 6, 0, .null), (6, .goto 4, 0, 10, .null), (9, .iload_n 1, 10, 0, .null)]
theorem own_tb1_ok : own_tb1.all (own_ok jdk_29_method_65_code "java/lang/Math" tables_1) = true := by decide +kernel
def own_tb2 : List own_Ent := [(0, .lload_n 0, 1, 0, .null), (1, .ldc2_w 9, 4, 0, (.long 10000)), (4, .ldiv, 5, 0, .null), (5, .iload_n 2, 6, 0, .null), (6, .invokestatic 11, 9, 0, .null), (9, .lstore_n 3, 10, 0, .null), (10, .lload_n 0, 11, 0, .null), (11, .ldc2_w 9, 14, 0, (.long 10000)), (14, .lrem, 15, 0, .null), (15, .iload_n 2, 16, 0, .null), (16, .i2l, 17, 0, .null), (17, .lmul, 18, 0, .null), (18, .lstore 5, 20, 0, .null), (20, .lload 5, 22, 0, .null), (22, .invokestatic 17, 25, 0, .null), (25, .ldc2_w 21, 28, 0, (.long 5000)), (28, .ladd, 29, 0, .null), (29, .ldc2_w 9, 32, 0, (.long 10000)), (32, .ldiv, 33, 0, .null), (33, .lstore 7, 35, 0, .null), (35, .lload_n 3, 36, 0, .null), (36, .lload 5, 38, 0, .null), (38, .lconst 0, 39, 0, (.long 0)), (39, .lcmp, 40, 0, .null), (40, .ifCond .ge 9, 43, 49, .null), (43, .lload 7, 45, 0, .null), (45, .lneg, 46, 0, .null), (46, .goto 5, 0, 51, .null), (49, .lload 7, 51, 0, .null), (51, .invokestatic 23, 54, 0, .null)]
theorem own_tb2_ok : own_tb2.all (own_ok prog_8_method_2_code "com/example/incentd/incentd/programs/BasisPoints" tables_1) = true := by decide +kernel
def own_tb3 : List own_Ent := [(0, .lload_n 0, 1, 0, .null), (1, .iload_n 2, 2, 0, .null), (2, .i2l, 3, 0, .null), (3, .invokestatic 118, 6, 0, .null)]
theorem own_tb3_ok : own_tb3.all (own_ok jdk_29_method_29_code "java/lang/Math" tables_1) = true := by decide +kernel
def own_tb4 : List own_Ent := [(0, .lload_n 0, 1, 0, .null), (1, .lload_n 2, 2, 0, .null), (2, .lmul, 3, 0, .null), (3, .lstore 4, 5, 0, .null), (5, .lload_n 0, 6, 0, .null), (6, .invokestatic 122, 9, 0, .null), (9, .lstore 6, 11, 0, .null), (11, .lload_n 2, 12, 0, .null), (12, .invokestatic 122, 15, 0, .null), (15, .lstore 8, 17, 0, .null), (17, .lload 6, 19, 0, .null), (19, .lload 8, 21, 0, .null), (21, .lor, 22, 0, .null), (22, .bipush 31, 24, 0, (.int 31)), (24, .lushr, 25, 0, .null), (25, .lconst 0, 26, 0, (.long 0)), (26, .lcmp, 27, 0, .null), (27, .ifCond .eq 44, 30, 71, .null), (30, .lload_n 2, 31, 0, .null), (31, .lconst 0, 32, 0, (.long 0)), (32, .lcmp, 33, 0, .null), (33, .ifCond .eq 12, 36, 45, .null), (36, .lload 4, 38, 0, .null), (38, .lload_n 2, 39, 0, .null), (39, .ldiv, 40, 0, .null), (40, .lload_n 0, 41, 0, .null), (41, .lcmp, 42, 0, .null), (42, .ifCond .ne 19, 45, 61, .null), (45, .lload_n 0, 46, 0, .null), (46, .ldc2_w 128, 49, 0, (.long (-9223372036854775808))), (49, .lcmp, 50, 0, .null), (50, .ifCond .ne 21, 53, 71, .null), (53, .lload_n 2, 54, 0, .null), (57, .lcmp, 58, 0, .null), (58, .ifCond .ne 13, 61, 71, .null), (64, .dup, 65, 0, .null), (71, .lload 4, 73, 0, .null)]
theorem own_tb4_ok : own_tb4.all (own_ok jdk_29_method_30_code "java/lang/Math" tables_1) = true := by decide +kernel
def own_tb5 : List own_Ent := [(0, .lload_n 0, 1, 0, .null), (1, .lconst 0, 2, 0, (.long 0)), (2, .lcmp, 3, 0, .null), (3, .ifCond .ge 8, 6, 11, .null), (6, .lload_n 0, 7, 0, .null), (7, .lneg, 8, 0, .null), (8, .goto 4, 0, 12, .null), (11, .lload_n 0, 12, 0, .null)]
theorem own_tb5_ok : own_tb5.all (own_ok jdk_29_method_61_code "java/lang/Math" tables_1) = true := by decide +kernel
def own_tb6 : List own_Ent := [(0, .lload_n 0, 1, 0, .null), (1, .lload_n 2, 2, 0, .null), (2, .ladd, 3, 0, .null), (3, .lstore 4, 5, 0, .null), (5, .lload_n 0, 6, 0, .null), (6, .lload 4, 8, 0, .null), (8, .lxor, 9, 0, .null), (9, .lload_n 2, 10, 0, .null), (10, .lload 4, 12, 0, .null), (12, .lxor, 13, 0, .null), (13, .land, 14, 0, .null), (14, .lconst 0, 15, 0, (.long 0)), (15, .lcmp, 16, 0, .null), (16, .ifCond .ge 13, 19, 29, .null), (22, .dup, 23, 0, .null), (29, .lload 4, 31, 0, .null)]
theorem own_tb6_ok : own_tb6.all (own_ok jdk_29_method_25_code "java/lang/Math" tables_1) = true := by decide +kernel
theorem own_cmpL0 (a b : Int64) : XT.cmpL a b = 0 ↔ a = b := by
  unfold XT.cmpL
  by_cases h1 : b < a
  · rw [if_pos h1]
    exact ⟨fun z => absurd z (by decide), fun z => absurd (z ▸ h1) (Int64.lt_irrefl)⟩
  · rw [if_neg h1]
    by_cases h2 : a = b
    · rw [if_pos h2]; exact ⟨fun _ => h2, fun _ => rfl⟩
    · rw [if_neg h2]; exact ⟨fun z => absurd z (by decide), fun z => absurd z h2⟩
theorem own_cmpL_cases (a b : Int64) : (b < a ∧ XT.cmpL a b = 1) ∨ (a = b ∧ XT.cmpL a b = 0) ∨ (a < b ∧ XT.cmpL a b = -1) := by
  unfold XT.cmpL
  by_cases h1 : b < a
  · rw [if_pos h1]; exact Or.inl ⟨h1, rfl⟩
  · rw [if_neg h1]
    by_cases h2 : a = b
    · rw [if_pos h2]; exact Or.inr (Or.inl ⟨h2, rfl⟩)
    · rw [if_neg h2]
      refine Or.inr (Or.inr ⟨?_, rfl⟩)
      have h3 : a.toInt ≠ b.toInt := fun z => h2 (Int64.toInt_inj.mp z)
      rw [Int64.lt_iff_toInt_lt] at h1 ⊢
      omega
theorem own_cmpLlt (a b : Int64) : XT.cmpL a b < 0 ↔ a.toInt < b.toInt := by
  rcases own_cmpL_cases a b with ⟨h, e⟩ | ⟨h, e⟩ | ⟨h, e⟩ <;> rw [e]
  · rw [Int64.lt_iff_toInt_lt] at h; exact ⟨fun z => absurd z (by decide), fun z => by omega⟩
  · subst h; exact ⟨fun z => absurd z (by decide), fun z => by omega⟩
  · rw [Int64.lt_iff_toInt_lt] at h; exact ⟨fun _ => h, fun _ => by decide⟩
theorem own_cmpLgt (a b : Int64) : 0 < XT.cmpL a b ↔ b.toInt < a.toInt := by
  rcases own_cmpL_cases a b with ⟨h, e⟩ | ⟨h, e⟩ | ⟨h, e⟩ <;> rw [e]
  · rw [Int64.lt_iff_toInt_lt] at h; exact ⟨fun _ => h, fun _ => by decide⟩
  · subst h; exact ⟨fun z => absurd z (by decide), fun z => by omega⟩
  · rw [Int64.lt_iff_toInt_lt] at h; exact ⟨fun z => absurd z (by decide), fun z => by omega⟩
theorem own_cmpLle (a b : Int64) : XT.cmpL a b ≤ 0 ↔ a.toInt ≤ b.toInt := by
  rcases own_cmpL_cases a b with ⟨h, e⟩ | ⟨h, e⟩ | ⟨h, e⟩ <;> rw [e]
  · rw [Int64.lt_iff_toInt_lt] at h; exact ⟨fun z => absurd z (by decide), fun z => by omega⟩
  · subst h; exact ⟨fun _ => Int.le_refl _, fun _ => by decide⟩
  · rw [Int64.lt_iff_toInt_lt] at h; exact ⟨fun _ => by omega, fun _ => by decide⟩
theorem own_cmpLge (a b : Int64) : 0 ≤ XT.cmpL a b ↔ b.toInt ≤ a.toInt := by
  rcases own_cmpL_cases a b with ⟨h, e⟩ | ⟨h, e⟩ | ⟨h, e⟩ <;> rw [e]
  · rw [Int64.lt_iff_toInt_lt] at h; exact ⟨fun _ => by omega, fun _ => by decide⟩
  · subst h; exact ⟨fun _ => Int.le_refl _, fun _ => by decide⟩
  · rw [Int64.lt_iff_toInt_lt] at h; exact ⟨fun z => absurd z (by decide), fun z => by omega⟩
/-! the plain arithmetic of the law -/
theorem own_div_bound {a : Int} {n j : Nat} (hj : j ≤ n) (h1 : -(2 ^ n : Int) ≤ a) (h2 : a < 2 ^ n) : (a / 2 ^ j).natAbs * 2 ^ j ≤ 2 ^ n := by
  have hp : (0 : Int) < 2 ^ j := Int.pow_pos (by decide)
  obtain ⟨i, rfl⟩ : ∃ i, n = i + j := ⟨n - j, by omega⟩
  have e : (2 ^ (i + j) : Int) = 2 ^ i * 2 ^ j := Int.pow_add ..
  have lo : -(2 ^ i : Int) ≤ a / 2 ^ j := (Int.le_ediv_iff_mul_le hp).mpr (by rw [Int.neg_mul, ← e]; exact h1)
  have hi : a / 2 ^ j < 2 ^ i := (Int.ediv_lt_iff_lt_mul hp).mpr (by rw [← e]; exact h2)
  have na : (a / 2 ^ j).natAbs ≤ 2 ^ i := by
    have c : ((2 ^ i : Nat) : Int) = 2 ^ i := by simp
    omega
  calc (a / 2 ^ j).natAbs * 2 ^ j ≤ 2 ^ i * 2 ^ j := Nat.mul_le_mul_right _ na
    _ = 2 ^ (i + j) := (Nat.pow_add ..).symm
theorem own_prod_bound {A B j k : Nat} (hA : A * 2 ^ j ≤ 2 ^ 63) (hB : B * 2 ^ k ≤ 2 ^ 31) (hjk : 19 ≤ j + k) : A * B ≤ 2 ^ 75 := by
  have h1 : (A * 2 ^ j) * (B * 2 ^ k) ≤ 2 ^ 63 * 2 ^ 31 := Nat.mul_le_mul hA hB
  have h2 : (A * 2 ^ j) * (B * 2 ^ k) = (A * B) * 2 ^ (j + k) := by rw [Nat.pow_add]; ac_rfl
  have h3 : 2 ^ 19 ≤ 2 ^ (j + k) := Nat.pow_le_pow_right (by decide) hjk
  have h4 : (A * B) * 2 ^ 19 ≤ (A * B) * 2 ^ (j + k) := Nat.mul_le_mul_left _ h3
  have h5 : (A * B) * 2 ^ 19 ≤ 2 ^ 63 * 2 ^ 31 := by omega
  omega
/-- the quotient by 10000 times the rate is small -/
theorem own_quot_bound {A b : Int} (h : A.natAbs * b.natAbs ≤ 2 ^ 75) : (A.tdiv 10000 * b).natAbs ≤ 2 ^ 62 := by
  rw [Int.natAbs_mul, Int.natAbs_tdiv]
  have h1 : A.natAbs / (10000 : Int).natAbs * 10000 ≤ A.natAbs := Nat.div_mul_le_self _ _
  have h2 : (A.natAbs / (10000 : Int).natAbs * 10000) * b.natAbs ≤ A.natAbs * b.natAbs := Nat.mul_le_mul_right _ h1
  have h3 : (A.natAbs / (10000 : Int).natAbs * 10000) * b.natAbs = (A.natAbs / (10000 : Int).natAbs * b.natAbs) * 10000 := by ac_rfl
  generalize A.natAbs / (10000 : Int).natAbs * b.natAbs = z at *
  omega
theorem own_rem_bound {A b : Int} (h1 : -(2 ^ 31) ≤ b) (h2 : b < 2 ^ 31) : (A.tmod 10000 * b).natAbs ≤ 9999 * 2 ^ 31 := by
  rw [Int.natAbs_mul]
  have r : (A.tmod 10000).natAbs ≤ 9999 := by
    rw [Int.natAbs_tmod]
    have := Nat.mod_lt A.natAbs (show 0 < (10000 : Int).natAbs by decide)
    have e : (10000 : Int).natAbs = 10000 := rfl
    omega
  exact Nat.mul_le_mul r (by omega)
/-- what is added to the quotient's part, and how far it is off -/
def own_add (P : Int) : Int := if P < 0 then -((P.natAbs + 5000) / 10000 : Nat) else ((P.natAbs + 5000) / 10000 : Nat)
theorem own_add_spec (P : Int) : (0 ≤ P → -4999 ≤ 10000 * own_add P - P ∧ 10000 * own_add P - P ≤ 5000) ∧ (P < 0 → -5000 ≤ 10000 * own_add P - P ∧ 10000 * own_add P - P ≤ 4999) := by
  unfold own_add
  constructor
  · intro h
    rw [if_neg (by omega)]
    omega
  · intro h
    rw [if_pos h]
    omega
theorem own_add_zero : own_add 0 = 0 := by decide
theorem own_add_bound {P : Int} (h : P.natAbs ≤ 9999 * 2 ^ 31) : (own_add P).natAbs ≤ 2 ^ 31 := by
  unfold own_add
  split <;> omega
theorem own_sign {A b : Int} : (0 < A.tmod 10000 * b → (0 < A ∧ 0 < b) ∨ (A < 0 ∧ b < 0)) ∧ (A.tmod 10000 * b < 0 → (0 < A ∧ b < 0) ∨ (A < 0 ∧ 0 < b)) := by
  have hs : (0 ≤ A → 0 ≤ A.tmod 10000) ∧ (A ≤ 0 → A.tmod 10000 ≤ 0) := by
    constructor
    · intro h; rw [Int.tmod_eq_emod_of_nonneg h]; omega
    · intro h
      have e : A.tmod 10000 = -((-A).tmod 10000) := by rw [Int.neg_tmod]; omega
      rw [e, Int.tmod_eq_emod_of_nonneg (by omega)]
      omega
  generalize A.tmod 10000 = R at *
  constructor
  · intro h
    rcases Int.lt_trichotomy b 0 with hb | hb | hb
    · have hR : R < 0 := Classical.byContradiction fun z => by
        have := Int.mul_nonpos_of_nonneg_of_nonpos (show 0 ≤ R by omega) (show b ≤ 0 by omega)
        omega
      exact Or.inr ⟨by omega, hb⟩
    · subst hb; simp at h
    · have hR : 0 < R := Classical.byContradiction fun z => by
        have := Int.mul_nonpos_of_nonpos_of_nonneg (show R ≤ 0 by omega) (show 0 ≤ b by omega)
        omega
      exact Or.inl ⟨by omega, hb⟩
  · intro h
    rcases Int.lt_trichotomy b 0 with hb | hb | hb
    · have hR : 0 < R := Classical.byContradiction fun z => by
        have := Int.mul_nonneg_of_nonpos_of_nonpos (show R ≤ 0 by omega) (show b ≤ 0 by omega)
        omega
      exact Or.inl ⟨by omega, hb⟩
    · subst hb; simp at h
    · have hR : R < 0 := Classical.byContradiction fun z => by
        have := Int.mul_nonneg (show 0 ≤ R by omega) (show 0 ≤ b by omega)
        omega
      exact Or.inr ⟨by omega, hb⟩
def own_mxI (x y : Int32) : Int32 := if x < y then y else x
def own_P1 (_h : Heap) (as : List Value) (v : Value) : Prop := ∃ x y, as = [.int x, .int y] ∧ v = .int (own_mxI x y)
theorem own_m1 (l : Launch) (Z : State) (a0 : Array Value) (hw : ∀ d ∈ tables_1, d.before a0 Z = true) : own_Pure l Z ⟨"java/lang/Math", "max", "(II)I"⟩ jdk_29_method_65_code 2 (some .int) ({ frames := 0, cells := 0, slots := 0, locals := 0 } : Room) own_P1 := by
  refine own_pure (N := 30) (tab := own_tb1) [10] (by decide +kernel) hw own_tb1_ok (by decide +kernel) 0 [] [] (fun q hq => by cases hq) (fun q hq => by cases hq) ?_
  rintro h as v ⟨x, y, rfl, rfl⟩
  refine ⟨#[.val (.int x), .val (.int y)], [], [], by simp [argsToLocals, Value.category], (fun q hq => by cases hq), (fun q hq => by cases hq), ?_⟩
  refine And.intro (fun h1 => ?_) (fun h1 => ?_)
  · have e1 : x < y := h1
    exact And.intro rfl (by simp [own_top, own_mxI, e1])
  · have e1 : ¬ x < y := h1
    exact And.intro rfl (by simp [own_top, own_mxI, e1])
def own_abs (x : Int64) : Int64 := if x.toInt < 0 then -x else x
def own_Pa (_h : Heap) (as : List Value) (v : Value) : Prop := ∃ x, as = [.long x] ∧ v = .long (own_abs x)
theorem own_ma (l : Launch) (Z : State) (a0 : Array Value) (hw : ∀ d ∈ tables_1, d.before a0 Z = true) : own_Pure l Z ⟨"java/lang/Math", "abs", "(J)J"⟩ jdk_29_method_61_code 2 (some .long) ({ frames := 0, cells := 0, slots := 0, locals := 0 } : Room) own_Pa := by
  refine own_pure (N := 30) (tab := own_tb5) [12] (by decide +kernel) hw own_tb5_ok (by decide +kernel) 0 [] [] (fun q hq => by cases hq) (fun q hq => by cases hq) ?_
  rintro h as v ⟨x, rfl, rfl⟩
  refine ⟨#[.val (.long x), .second], [], [], by simp [argsToLocals, Value.category], (fun q hq => by cases hq), (fun q hq => by cases hq), ?_⟩
  refine And.intro (fun h1 => ?_) (fun h1 => ?_)
  · have e1 : ¬ x.toInt < 0 := Int.not_lt.mpr ((own_cmpLge x 0).mp h1)
    exact And.intro rfl (by simp [own_top, own_abs, e1])
  · have e1 : x.toInt < 0 := Int.not_le.mp fun z => h1 ((own_cmpLge x 0).mpr z)
    exact And.intro rfl (by simp [own_top, own_abs, e1])
def own_Pm (_h : Heap) (as : List Value) (v : Value) : Prop := ∃ x y : Int64, as = [.long x, .long y] ∧ -2 ^ 63 ≤ x.toInt * y.toInt ∧ x.toInt * y.toInt < 2 ^ 63 ∧ x.toInt ≠ -2 ^ 63 ∧ v = .long (x * y)
theorem own_back {x y : Int64} (h1 : -2 ^ 63 ≤ x.toInt * y.toInt) (h2 : x.toInt * y.toInt < 2 ^ 63) (hy : y ≠ 0) : x * y / y = x := by
  have em : (x * y).toInt = x.toInt * y.toInt := Jvm.Kit.i64_mul h1 h2
  have y0 : y.toInt ≠ 0 := fun z => hy (Int64.toInt_inj.mp (by rw [z]; rfl))
  have lx := Int64.toInt_lt x
  apply Int64.toInt_inj.mp
  rw [Jvm.Kit.i64_div (by
    rintro ⟨q1, q2⟩
    rw [em, q2] at q1
    omega), em]
  exact Int.mul_tdiv_cancel _ y0
set_option maxHeartbeats 1000000 in
theorem own_mm (l : Launch) (Z : State) (a0 : Array Value) (hw : ∀ d ∈ tables_1, d.before a0 Z = true) : own_Pure l Z ⟨"java/lang/Math", "multiplyExact", "(JJ)J"⟩ jdk_29_method_30_code 10 (some .long) ({ frames := 1, cells := 0, slots := 0, locals := 16 } : Room) own_Pm := by
  refine own_pure (N := 60) (tab := own_tb4) [73] (by decide +kernel) hw own_tb4_ok (by decide +kernel) 2 [(122, 1, own_Pa)] [] ?_ (fun q hq => by cases hq) ?_
  · intro q hq
    obtain rfl : q = (122, 1, own_Pa) := by simpa using hq
    exact ⟨_, _, _, _, _, own_ma l Z a0 hw, hw _ (List.mem_of_getElem? (i := 15) rfl), hw _ (List.mem_of_getElem? (i := 16) rfl), hw _ (List.mem_of_getElem? (i := 2) rfl), hw _ (List.mem_of_getElem? (i := 17) rfl), by decide, ⟨_, _, (by decide +kernel : parseMethodDescriptor "(J)J" = some ⟨[.long], some .long⟩), rfl⟩, rfl, rfl, by decide, by decide⟩
  rintro h as v ⟨x, y, rfl, h1, h2, hx, rfl⟩
  refine ⟨#[.val (.long x), .second, .val (.long y), .second, .unset, .unset, .unset, .unset, .unset, .unset], [], [], by simp [argsToLocals, Value.category], (fun q hq => by cases hq), (fun q hq => by cases hq), ?_⟩
  have mn : (-9223372036854775808 : Int64).toInt = -2 ^ 63 := by decide
  have l45 : own_wp [] own_tb4 ([(122, 1, own_Pa)], [], [], [], h, 10, 2) (own_retQ [73] .long (.long (x * y))) 20 45 #[.val (.long x), .second, .val (.long y), .second, .val (.long (x * y)), .second, .val (.long (own_abs x)), .second, .val (.long (own_abs y)), .second] [] := by
    refine And.intro (fun _ => ?_) (fun q => ?_)
    · exact And.intro rfl rfl
    · have z : x = -9223372036854775808 := (own_cmpL0 _ _).mp (Classical.byContradiction q)
      exact absurd (by rw [z, mn]) hx
  refine own_join (stop := [17]) (n1 := 20) (n2 := 40) ?_
  refine Exists.intro (.long (own_abs x)) (And.intro ⟨_, rfl, rfl⟩ (And.intro rfl (And.intro (Nat.le_of_ble_eq_true rfl) (And.intro rfl ?_))))
  refine Exists.intro (.long (own_abs y)) (And.intro ⟨_, rfl, rfl⟩ (And.intro rfl (And.intro (Nat.le_of_ble_eq_true rfl) (And.intro rfl ?_))))
  refine And.intro trivial ?_
  show own_wp [] own_tb4 _ _ 40 17 #[.val (.long x), .second, .val (.long y), .second, .val (.long (x * y)), .second, .val (.long (own_abs x)), .second, .val (.long (own_abs y)), .second] []
  refine own_join (stop := [45]) (n1 := 20) (n2 := 20) ?_
  refine And.intro (fun _ => ?_) (fun _ => And.intro (fun _ => ?_) (fun q => ?_))
  · exact And.intro trivial (And.intro rfl rfl)
  · exact And.intro trivial l45
  · have hy : y ≠ 0 := fun z => q ((own_cmpL0 _ _).mpr z)
    refine And.intro hy (And.intro (fun q2 => ?_) (fun _ => ?_))
    · exact absurd ((own_cmpL0 _ _).mpr (own_back h1 h2 hy)) q2
    · exact And.intro trivial l45
def own_Pn (_h : Heap) (as : List Value) (v : Value) : Prop := ∃ (x : Int64) (y : Int32), as = [.long x, .int y] ∧ -2 ^ 63 ≤ x.toInt * y.toInt ∧ x.toInt * y.toInt < 2 ^ 63 ∧ x.toInt ≠ -2 ^ 63 ∧ v = .long (x * y.toInt64)
theorem own_mn (l : Launch) (Z : State) (a0 : Array Value) (hw : ∀ d ∈ tables_1, d.before a0 Z = true) : own_Pure l Z ⟨"java/lang/Math", "multiplyExact", "(JI)J"⟩ jdk_29_method_29_code 3 (some .long) ({ frames := 2, cells := 0, slots := 0, locals := 40 } : Room) own_Pn := by
  refine own_pure (N := 60) (tab := own_tb3) [6] (by decide +kernel) hw own_tb3_ok (by decide +kernel) 0 [(118, 2, own_Pm)] [] ?_ (fun q hq => by cases hq) ?_
  · intro q hq
    obtain rfl : q = (118, 2, own_Pm) := by simpa using hq
    exact ⟨_, _, _, _, _, own_mm l Z a0 hw, hw _ (List.mem_of_getElem? (i := 12) rfl), hw _ (List.mem_of_getElem? (i := 13) rfl), hw _ (List.mem_of_getElem? (i := 2) rfl), hw _ (List.mem_of_getElem? (i := 14) rfl), by decide, ⟨_, _, (by decide +kernel : parseMethodDescriptor "(JJ)J" = some ⟨[.long, .long], some .long⟩), rfl⟩, rfl, rfl, by decide, by decide⟩
  rintro h as v ⟨x, y, rfl, h1, h2, hx, rfl⟩
  have e : y.toInt64.toInt = y.toInt := Jvm.Kit.i64_of_i32 y
  refine ⟨#[.val (.long x), .second, .val (.int y)], [], [], by simp [argsToLocals, Value.category], (fun q hq => by cases hq), (fun q hq => by cases hq), ?_⟩
  refine Exists.intro (.long (x * y.toInt64)) (And.intro ⟨_, _, rfl, by rw [e]; exact h1, by rw [e]; exact h2, hx, rfl⟩ (And.intro rfl (And.intro (Nat.le_of_ble_eq_true rfl) (And.intro rfl ?_))))
  exact And.intro rfl rfl
def own_Pp (_h : Heap) (as : List Value) (v : Value) : Prop := ∃ x y : Int64, as = [.long x, .long y] ∧ -2 ^ 63 ≤ x.toInt + y.toInt ∧ x.toInt + y.toInt < 2 ^ 63 ∧ v = .long (x + y)
theorem own_neg_iff (x : Int64) : x.toInt < 0 ↔ x.toBitVec.msb = true := by
  show x.toBitVec.toInt < 0 ↔ _
  rw [BitVec.msb_eq_toInt]
  simp
theorem own_add_ok {x y : Int64} (h1 : -2 ^ 63 ≤ x.toInt + y.toInt) (h2 : x.toInt + y.toInt < 2 ^ 63) : 0 ≤ ((x ^^^ (x + y)) &&& (y ^^^ (x + y))).toInt := by
  have es : (x + y).toInt = x.toInt + y.toInt := Jvm.Kit.i64_add h1 h2
  generalize x + y = s at *
  refine Int.not_lt.mp fun z => ?_
  rw [own_neg_iff] at z
  simp only [Int64.toBitVec_and, Int64.toBitVec_xor, BitVec.msb_and, BitVec.msb_xor, Bool.and_eq_true, bne_iff_ne, ne_eq] at z
  have nx := own_neg_iff x
  have ny := own_neg_iff y
  have ns := own_neg_iff s
  obtain ⟨z1, z2⟩ := z
  cases hx : x.toBitVec.msb <;> cases hy : y.toBitVec.msb <;> cases hs : s.toBitVec.msb <;> simp [hx, hy, hs] at nx ny ns z1 z2 <;> omega
theorem own_mp (l : Launch) (Z : State) (a0 : Array Value) (hw : ∀ d ∈ tables_1, d.before a0 Z = true) : own_Pure l Z ⟨"java/lang/Math", "addExact", "(JJ)J"⟩ jdk_29_method_25_code 6 (some .long) ({ frames := 0, cells := 0, slots := 0, locals := 0 } : Room) own_Pp := by
  refine own_pure (N := 60) (tab := own_tb6) [31] (by decide +kernel) hw own_tb6_ok (by decide +kernel) 0 [] [] (fun q hq => by cases hq) (fun q hq => by cases hq) ?_
  rintro h as v ⟨x, y, rfl, h1, h2, rfl⟩
  refine ⟨#[.val (.long x), .second, .val (.long y), .second, .unset, .unset], [], [], by simp [argsToLocals, Value.category], (fun q hq => by cases hq), (fun q hq => by cases hq), ?_⟩
  refine And.intro (fun _ => ?_) (fun q => ?_)
  · exact And.intro rfl rfl
  · exact absurd ((own_cmpLge _ 0).mpr (own_add_ok h1 h2)) q
abbrev own_X (A : Int64) : Int64 := A / 10000
abbrev own_R (A : Int64) : Int64 := A - A / 10000 * 10000
abbrev own_p (A : Int64) (b : Int32) : Int64 := own_R A * b.toInt64
abbrev own_q (p : Int64) : Int64 := (own_abs p + 5000) / 10000
def own_sg (p : Int64) : Int64 := if 0 ≤ p.toInt then own_q p else -own_q p
def own_sh (A : Int64) (b : Int32) : Int64 := own_X A * b.toInt64 + own_sg (own_p A b)
def own_Ps (_h : Heap) (as : List Value) (v : Value) : Prop := ∃ (A : Int64) (b : Int32), as = [.long A, .int b] ∧ (A.toInt.tdiv 10000 * b.toInt).natAbs ≤ 2 ^ 62 ∧ v = .long (own_sh A b)
/-- the numbers behind the words -/
theorem own_nums (A : Int64) (b : Int32) (hq : (A.toInt.tdiv 10000 * b.toInt).natAbs ≤ 2 ^ 62) : (own_X A).toInt = A.toInt.tdiv 10000 ∧ (own_R A).toInt = A.toInt.tmod 10000 ∧ (own_p A b).toInt = A.toInt.tmod 10000 * b.toInt ∧ (own_sg (own_p A b)).toInt = own_add (A.toInt.tmod 10000 * b.toInt) ∧ (own_X A * b.toInt64).toInt = A.toInt.tdiv 10000 * b.toInt ∧ (own_X A).toInt ≠ -2 ^ 63 ∧ (A.toInt.tmod 10000 * b.toInt).natAbs ≤ 9999 * 2 ^ 31 := by
  have t4 : (10000 : Int64).toInt = 10000 := by decide
  have t5 : (5000 : Int64).toInt = 5000 := by decide
  have e64 : b.toInt64.toInt = b.toInt := Jvm.Kit.i64_of_i32 b
  have b1 := Int32.le_toInt b
  have b2 := Int32.toInt_lt b
  have a1 := Int64.le_toInt A
  have a2 := Int64.toInt_lt A
  have eX : (own_X A).toInt = A.toInt.tdiv 10000 := by
    have := Jvm.Kit.i64_div (x := A) (y := 10000) (by rw [t4]; omega)
    rw [this, t4]
  have eR : (own_R A).toInt = A.toInt.tmod 10000 := by
    have := Jvm.Kit.i64_rem A 10000
    rw [this, t4]
  have hr := own_rem_bound (A := A.toInt) (b := b.toInt) b1 b2
  have eP : (own_p A b).toInt = A.toInt.tmod 10000 * b.toInt := by
    have := Jvm.Kit.i64_mul (x := own_R A) (y := b.toInt64) (by rw [eR, e64]; omega) (by rw [eR, e64]; omega)
    rw [this, eR, e64]
  have eM : (own_X A * b.toInt64).toInt = A.toInt.tdiv 10000 * b.toInt := by
    have := Jvm.Kit.i64_mul (x := own_X A) (y := b.toInt64) (by rw [eX, e64]; omega) (by rw [eX, e64]; omega)
    rw [this, eX, e64]
  have nX : (own_X A).toInt ≠ -2 ^ 63 := by
    rw [eX]
    have h : (A.toInt.tdiv 10000).natAbs = A.toInt.natAbs / 10000 := Int.natAbs_tdiv A.toInt 10000
    have h2 : (10000 : Int).natAbs = 10000 := rfl
    have h3 : (-2 ^ 63 : Int).natAbs = 9223372036854775808 := by decide
    intro z
    rw [z, h3] at h
    omega
  refine ⟨eX, eR, eP, ?_, eM, nX, hr⟩
  generalize A.toInt.tmod 10000 * b.toInt = P at *
  generalize own_p A b = p at *
  have ea : (own_abs p).toInt = P.natAbs := by
    unfold own_abs
    by_cases hn : p.toInt < 0
    · rw [if_pos hn, Jvm.Kit.i64_neg (by omega), eP]; omega
    · rw [if_neg hn, eP]; omega
  have eq0 : (own_abs p + 5000).toInt = P.natAbs + 5000 := by
    have := Jvm.Kit.i64_add (x := own_abs p) (y := 5000) (by rw [ea, t5]; omega) (by rw [ea, t5]; omega)
    rw [this, ea, t5]
  have eq : (own_q p).toInt = ((P.natAbs + 5000) / 10000 : Nat) := by
    have := Jvm.Kit.i64_div (x := own_abs p + 5000) (y := 10000) (by rw [t4]; omega)
    rw [this, eq0, t4, Int.tdiv_eq_ediv_of_nonneg (by omega)]
    omega
  unfold own_sg own_add
  by_cases hn : P < 0
  · rw [if_neg (by rw [eP]; omega), if_pos hn, Jvm.Kit.i64_neg (by rw [eq]; omega), eq]
  · rw [if_pos (by rw [eP]; omega), if_neg hn, eq]
set_option maxHeartbeats 1000000 in
theorem own_ms (l : Launch) (Z : State) (a0 : Array Value) (hw : ∀ d ∈ tables_1, d.before a0 Z = true) : own_Pure l Z ⟨"com/example/incentd/incentd/programs/BasisPoints", "share", "(JI)J"⟩ prog_8_method_2_code 9 (some .long) ({ frames := 3, cells := 0, slots := 0, locals := 60 } : Room) own_Ps := by
  refine own_pure (N := 120) (tab := own_tb2) [54] (plainFor_of_name (by decide +kernel)) hw own_tb2_ok (by decide +kernel) 0 [(11, 2, own_Pn), (17, 1, own_Pa), (23, 2, own_Pp)] [] ?_ (fun q hq => by cases hq) ?_
  · intro q hq
    simp only [List.mem_cons, List.not_mem_nil, or_false] at hq
    rcases hq with rfl | rfl | rfl
    · exact ⟨_, _, _, _, _, own_mn l Z a0 hw, hw _ (List.mem_of_getElem? (i := 9) rfl), hw _ (List.mem_of_getElem? (i := 10) rfl), hw _ (List.mem_of_getElem? (i := 2) rfl), hw _ (List.mem_of_getElem? (i := 11) rfl), by decide, ⟨_, _, (by decide +kernel : parseMethodDescriptor "(JI)J" = some ⟨[.long, .int], some .long⟩), rfl⟩, rfl, rfl, by decide, by decide⟩
    · exact ⟨_, _, _, _, _, own_ma l Z a0 hw, hw _ (List.mem_of_getElem? (i := 18) rfl), hw _ (List.mem_of_getElem? (i := 16) rfl), hw _ (List.mem_of_getElem? (i := 2) rfl), hw _ (List.mem_of_getElem? (i := 17) rfl), by decide, ⟨_, _, (by decide +kernel : parseMethodDescriptor "(J)J" = some ⟨[.long], some .long⟩), rfl⟩, rfl, rfl, by decide, by decide⟩
    · exact ⟨_, _, _, _, _, own_mp l Z a0 hw, hw _ (List.mem_of_getElem? (i := 20) rfl), hw _ (List.mem_of_getElem? (i := 21) rfl), hw _ (List.mem_of_getElem? (i := 2) rfl), hw _ (List.mem_of_getElem? (i := 22) rfl), by decide, ⟨_, _, (by decide +kernel : parseMethodDescriptor "(JJ)J" = some ⟨[.long, .long], some .long⟩), rfl⟩, rfl, rfl, by decide, by decide⟩
  rintro h as v ⟨A, b, rfl, hq, rfl⟩
  obtain ⟨eX, eR, eP, eS, eM, nX, hr⟩ := own_nums A b hq
  have hS := own_add_bound hr
  refine ⟨#[.val (.long A), .second, .val (.int b), .unset, .unset, .unset, .unset, .unset, .unset], [], [], by simp [argsToLocals, Value.category], (fun q hq => by cases hq), (fun q hq => by cases hq), ?_⟩
  refine own_join (stop := [20]) (n1 := 40) (n2 := 80) ?_
  refine And.intro (by decide) ?_
  refine Exists.intro (.long (own_X A * b.toInt64)) (And.intro ⟨_, _, rfl, by rw [eX]; omega, by rw [eX]; omega, nX, rfl⟩ (And.intro rfl (And.intro (Nat.le_of_ble_eq_true rfl) (And.intro rfl ?_))))
  refine And.intro (by decide) (And.intro trivial ?_)
  show own_wp [] own_tb2 _ _ 80 20 #[.val (.long A), .second, .val (.int b), .val (.long (own_X A * b.toInt64)), .second, .val (.long (own_p A b)), .second, .unset, .unset] []
  refine own_join (stop := [35]) (n1 := 40) (n2 := 40) ?_
  refine Exists.intro (.long (own_abs (own_p A b))) (And.intro ⟨_, rfl, rfl⟩ (And.intro rfl (And.intro (Nat.le_of_ble_eq_true rfl) (And.intro rfl ?_))))
  refine And.intro (by decide) (And.intro trivial ?_)
  show own_wp [] own_tb2 _ _ 40 35 #[.val (.long A), .second, .val (.int b), .val (.long (own_X A * b.toInt64)), .second, .val (.long (own_p A b)), .second, .val (.long (own_q (own_p A b))), .second] []
  refine And.intro (fun q => ?_) (fun q => ?_)
  · have z : 0 ≤ (own_p A b).toInt := (own_cmpLge _ 0).mp q
    have e : own_sg (own_p A b) = own_q (own_p A b) := if_pos z
    rw [e] at eS
    refine Exists.intro (.long (own_sh A b)) (And.intro ⟨_, _, rfl, by rw [eM, eS]; omega, by rw [eM, eS]; omega, by unfold own_sh; rw [e]⟩ (And.intro rfl (And.intro (Nat.le_of_ble_eq_true rfl) (And.intro rfl ?_))))
    exact And.intro rfl rfl
  · have z : ¬ 0 ≤ (own_p A b).toInt := fun z => q ((own_cmpLge _ 0).mpr z)
    have e : own_sg (own_p A b) = -own_q (own_p A b) := if_neg z
    rw [e] at eS
    refine Exists.intro (.long (own_sh A b)) (And.intro ⟨_, _, rfl, by rw [eM, eS]; omega, by rw [eM, eS]; omega, by unfold own_sh; rw [e]⟩ (And.intro rfl (And.intro (Nat.le_of_ble_eq_true rfl) (And.intro rfl ?_))))
    exact And.intro rfl rfl
abbrev own_C : List own_Call := [(7, 2, own_P1), (13, 2, own_Ps)]
abbrev own_E (h : Heap) : own_Env := (own_C, [], [], [], h, 22, 0)
abbrev own_Q : Nat → Array Slot → List Value → Prop := own_retQ [88, 185, 197, 209, 211] .boolean (.int 1)
theorem own_s166 (a : Int64) (b c d k j : Int32) (A : Int64) (bp : Int32) (s xx rr ee dd : Int64) (ps ng : Int32) (h : Heap) (D1 : -5000 ≤ dd.toInt) (D2 : dd.toInt ≤ 5000) (Hp : dd.toInt = 5000 → ps = 1) (Hn : dd.toInt = -5000 → ng = 1) : own_wp [] own_tb0 (own_E h) own_Q 40 166 #[.val (.long a), .second, .val (.int b), .val (.int c), .val (.int d), .val (.int k), .val (.int j), .val (.long A), .second, .val (.int bp), .val (.long s), .second, .val (.long xx), .second, .val (.long rr), .second, .val (.long ee), .second, .val (.long dd), .second, .val (.int ps), .val (.int ng)] [] := by
  have m5 : (-5000 : Int64).toInt = -5000 := by decide
  have p5 : (5000 : Int64).toInt = 5000 := by decide
  have l186 : (dd.toInt = 5000 ∨ dd.toInt = -5000) → own_wp [] own_tb0 (own_E h) own_Q 20 186 #[.val (.long a), .second, .val (.int b), .val (.int c), .val (.int d), .val (.int k), .val (.int j), .val (.long A), .second, .val (.int bp), .val (.long s), .second, .val (.long xx), .second, .val (.long rr), .second, .val (.long ee), .second, .val (.long dd), .second, .val (.int ps), .val (.int ng)] [] := by
    intro z
    refine And.intro (fun q => ?_) (fun q => ?_)
    · have n5 : ¬ dd.toInt = 5000 := fun z => q ((own_cmpL0 _ _).mpr (Int64.toInt_inj.mp (by rw [z, p5])))
      have e5 : dd.toInt = -5000 := z.resolve_left n5
      refine And.intro (fun q2 => ?_) (fun _ => ?_)
      · exact absurd ((own_cmpL0 _ _).mpr (Int64.toInt_inj.mp (by rw [e5, m5]))) q2
      · rw [Hn e5]
        exact And.intro rfl rfl
    · have z5 : dd = 5000 := (own_cmpL0 _ _).mp (Classical.byContradiction q)
      rw [Hp (by rw [z5, p5])]
      exact And.intro rfl rfl
  refine own_join (stop := [186]) (n1 := 20) (n2 := 20) ?_
  refine And.intro (fun q => ?_) (fun q => And.intro (fun q2 => ?_) (fun _ => ?_))
  · have z : dd.toInt ≤ (-5000 : Int64).toInt := (own_cmpLle _ _).mp q
    exact And.intro trivial (l186 (by omega))
  · have z : (5000 : Int64).toInt ≤ dd.toInt := (own_cmpLge _ _).mp q2
    exact And.intro trivial (l186 (by omega))
  · exact And.intro trivial (And.intro rfl rfl)
theorem own_i32lt (x : Int32) : x < 0 ↔ x.toInt < 0 := by rw [Int32.lt_iff_toInt_lt]; rfl
theorem own_i32le (x : Int32) : x ≤ 0 ↔ x.toInt ≤ 0 := by rw [Int32.le_iff_toInt_le]; rfl
theorem own_i32gt (x : Int32) : 0 < x ↔ 0 < x.toInt := by rw [Int32.lt_iff_toInt_lt]; rfl
theorem own_i32ge (x : Int32) : 0 ≤ x ↔ 0 ≤ x.toInt := by rw [Int32.le_iff_toInt_le]; rfl
set_option maxHeartbeats 1000000 in
theorem own_s135 (a : Int64) (b c d k j : Int32) (A : Int64) (bp : Int32) (s xx rr ee dd : Int64) (ps : Int32) (h : Heap) (D1 : -5000 ≤ dd.toInt) (D2 : dd.toInt ≤ 5000) (Hp : dd.toInt = 5000 → ps = 1) (Hc : dd.toInt = -5000 → (0 < A.toInt ∧ bp.toInt < 0) ∨ (A.toInt < 0 ∧ 0 < bp.toInt)) : own_wp [] own_tb0 (own_E h) own_Q 60 135 #[.val (.long a), .second, .val (.int b), .val (.int c), .val (.int d), .val (.int k), .val (.int j), .val (.long A), .second, .val (.int bp), .val (.long s), .second, .val (.long xx), .second, .val (.long rr), .second, .val (.long ee), .second, .val (.long dd), .second, .val (.int ps), .unset] [] := by
  have g := fun ng Hn => own_s166 a b c d k j A bp s xx rr ee dd ps ng h D1 D2 Hp Hn
  have o0 : (0 : Int64).toInt = 0 := by decide
  refine own_join (stop := [166]) (n1 := 20) (n2 := 40) ?_
  refine And.intro (fun q1 => ?_) (fun q1 => And.intro (fun _ => And.intro trivial (g 1 fun _ => rfl)) (fun q2 => ?_))
  · have z1 : A.toInt ≤ (0 : Int64).toInt := (own_cmpLle _ _).mp q1
    refine And.intro (fun q3 => And.intro trivial (g 0 fun z => ?_)) (fun q3 => And.intro (fun q4 => And.intro trivial (g 0 fun z => ?_)) (fun _ => And.intro trivial (g 1 fun _ => rfl)))
    · have z3 : (0 : Int64).toInt ≤ A.toInt := (own_cmpLge _ _).mp q3
      have := Hc z
      omega
    · have z4 : bp.toInt ≤ 0 := (own_i32le bp).mp q4
      have := Hc z
      omega
  · have z1 : ¬ A.toInt ≤ (0 : Int64).toInt := fun z => q1 ((own_cmpLle _ _).mpr z)
    have z2 : ¬ bp.toInt < 0 := fun z => q2 ((own_i32lt bp).mpr z)
    refine And.intro (fun q3 => And.intro trivial (g 0 fun z => ?_)) (fun q3 => And.intro (fun q4 => And.intro trivial (g 0 fun z => ?_)) (fun _ => And.intro trivial (g 1 fun _ => rfl)))
    · have := Hc z
      omega
    · have := Hc z
      omega
set_option maxHeartbeats 1000000 in
theorem own_s104 (a : Int64) (b c d k j : Int32) (A : Int64) (bp : Int32) (s xx rr ee dd : Int64) (h : Heap) (D1 : -5000 ≤ dd.toInt) (D2 : dd.toInt ≤ 5000) (Hd : dd.toInt = 5000 → (0 < A.toInt ∧ 0 < bp.toInt) ∨ (A.toInt < 0 ∧ bp.toInt < 0)) (Hc : dd.toInt = -5000 → (0 < A.toInt ∧ bp.toInt < 0) ∨ (A.toInt < 0 ∧ 0 < bp.toInt)) : own_wp [] own_tb0 (own_E h) own_Q 80 104 #[.val (.long a), .second, .val (.int b), .val (.int c), .val (.int d), .val (.int k), .val (.int j), .val (.long A), .second, .val (.int bp), .val (.long s), .second, .val (.long xx), .second, .val (.long rr), .second, .val (.long ee), .second, .val (.long dd), .second, .unset, .unset] [] := by
  have g := fun ps Hp => own_s135 a b c d k j A bp s xx rr ee dd ps h D1 D2 Hp Hc
  have o0 : (0 : Int64).toInt = 0 := by decide
  refine own_join (stop := [135]) (n1 := 20) (n2 := 60) ?_
  refine And.intro (fun q1 => ?_) (fun q1 => And.intro (fun _ => And.intro trivial (g 1 fun _ => rfl)) (fun q2 => ?_))
  · have z1 : A.toInt ≤ (0 : Int64).toInt := (own_cmpLle _ _).mp q1
    refine And.intro (fun q3 => And.intro trivial (g 0 fun z => ?_)) (fun q3 => And.intro (fun q4 => And.intro trivial (g 0 fun z => ?_)) (fun _ => And.intro trivial (g 1 fun _ => rfl)))
    · have z3 : (0 : Int64).toInt ≤ A.toInt := (own_cmpLge _ _).mp q3
      have := Hd z
      omega
    · have z4 : 0 ≤ bp.toInt := (own_i32ge bp).mp q4
      have := Hd z
      omega
  · have z1 : ¬ A.toInt ≤ (0 : Int64).toInt := fun z => q1 ((own_cmpLle _ _).mpr z)
    have z2 : ¬ 0 < bp.toInt := fun z => q2 ((own_i32gt bp).mpr z)
    refine And.intro (fun q3 => And.intro trivial (g 0 fun z => ?_)) (fun q3 => And.intro (fun q4 => And.intro trivial (g 0 fun z => ?_)) (fun _ => And.intro trivial (g 1 fun _ => rfl)))
    · have := Hd z
      omega
    · have := Hd z
      omega
set_option maxHeartbeats 1000000 in
theorem own_s42 (a : Int64) (b c d k j : Int32) (A : Int64) (bp : Int32) (h : Heap) (hq : (A.toInt.tdiv 10000 * bp.toInt).natAbs ≤ 2 ^ 62) : own_wp [] own_tb0 (own_E h) own_Q 200 42 #[.val (.long a), .second, .val (.int b), .val (.int c), .val (.int d), .val (.int k), .val (.int j), .val (.long A), .second, .val (.int bp), .val (.long (own_sh A bp)), .second, .unset, .unset, .unset, .unset, .unset, .unset, .unset, .unset, .unset, .unset] [] := by
  obtain ⟨eX, eR, eP, eS, eM, nX, hr⟩ := own_nums A bp hq
  have hS := own_add_bound hr
  have t4 : (10000 : Int64).toInt = 10000 := by decide
  have sP := own_add_spec (A.toInt.tmod 10000 * bp.toInt)
  have sg := own_sign (A := A.toInt) (b := bp.toInt)
  have az := own_add_zero
  have es : (own_sh A bp).toInt = A.toInt.tdiv 10000 * bp.toInt + own_add (A.toInt.tmod 10000 * bp.toInt) := by
    unfold own_sh
    rw [Jvm.Kit.i64_add (by rw [eM, eS]; omega) (by rw [eM, eS]; omega), eM, eS]
  have ee : (own_sh A bp - own_X A * bp.toInt64).toInt = own_add (A.toInt.tmod 10000 * bp.toInt) := by
    rw [Jvm.Kit.i64_sub (by rw [es, eM]; omega) (by rw [es, eM]; omega), es, eM]; omega
  refine own_join (stop := [58]) (n1 := 20) (n2 := 180) ?_
  refine And.intro (by decide) (And.intro (by decide) (And.intro trivial ?_))
  show own_wp [] own_tb0 (own_E h) own_Q 180 58 #[.val (.long a), .second, .val (.int b), .val (.int c), .val (.int d), .val (.int k), .val (.int j), .val (.long A), .second, .val (.int bp), .val (.long (own_sh A bp)), .second, .val (.long (own_X A)), .second, .val (.long (own_R A)), .second, .unset, .unset, .unset, .unset, .unset, .unset] []
  refine own_join (stop := [69]) (n1 := 20) (n2 := 160) ?_
  refine And.intro trivial ?_
  show own_wp [] own_tb0 (own_E h) own_Q 160 69 #[.val (.long a), .second, .val (.int b), .val (.int c), .val (.int d), .val (.int k), .val (.int j), .val (.long A), .second, .val (.int bp), .val (.long (own_sh A bp)), .second, .val (.long (own_X A)), .second, .val (.long (own_R A)), .second, .val (.long (own_sh A bp - own_X A * bp.toInt64)), .second, .unset, .unset, .unset, .unset] []
  generalize own_sh A bp - own_X A * bp.toInt64 = e1 at *
  have hi : (4294967296 : Int64).toInt = 4294967296 := by decide
  have lo : (-4294967296 : Int64).toInt = -4294967296 := by decide
  refine own_join (stop := [89]) (n1 := 20) (n2 := 140) ?_
  refine And.intro (fun q => ?_) (fun _ => And.intro (fun _ => And.intro trivial ?_) (fun q => ?_))
  · have z := (own_cmpLgt _ _).mp q
    omega
  · show own_wp [] own_tb0 (own_E h) own_Q 140 89 #[.val (.long a), .second, .val (.int b), .val (.int c), .val (.int d), .val (.int k), .val (.int j), .val (.long A), .second, .val (.int bp), .val (.long (own_sh A bp)), .second, .val (.long (own_X A)), .second, .val (.long (own_R A)), .second, .val (.long e1), .second, .unset, .unset, .unset, .unset] []
    have m1 : (10000 * e1).toInt = 10000 * own_add (A.toInt.tmod 10000 * bp.toInt) := by
      rw [Jvm.Kit.i64_mul (x := 10000) (by rw [t4, ee]; omega) (by rw [t4, ee]; omega), t4, ee]
    have ed : (10000 * e1 - own_p A bp).toInt = 10000 * own_add (A.toInt.tmod 10000 * bp.toInt) - A.toInt.tmod 10000 * bp.toInt := by
      rw [Jvm.Kit.i64_sub (by rw [m1, eP]; omega) (by rw [m1, eP]; omega), m1, eP]
    refine own_join (stop := [104]) (n1 := 20) (n2 := 120) ?_
    refine And.intro trivial ?_
    show own_wp [] own_tb0 (own_E h) own_Q 120 104 #[.val (.long a), .second, .val (.int b), .val (.int c), .val (.int d), .val (.int k), .val (.int j), .val (.long A), .second, .val (.int bp), .val (.long (own_sh A bp)), .second, .val (.long (own_X A)), .second, .val (.long (own_R A)), .second, .val (.long e1), .second, .val (.long (10000 * e1 - own_p A bp)), .second, .unset, .unset] []
    generalize 10000 * e1 - own_p A bp = d1 at *
    generalize hPP : A.toInt.tmod 10000 * bp.toInt = PP at *
    have hz : PP = 0 → own_add PP = 0 := fun z => by rw [z]; exact az
    exact own_wp_more (own_s104 a b c d k j A bp (own_sh A bp) (own_X A) (own_R A) e1 d1 h (by omega) (by omega) (fun z => sg.1 (by omega)) (fun z => sg.2 (by omega))) 40
  · exact absurd ((own_cmpLge _ _).mpr (by omega)) q
theorem own_sh64 : ∀ n : Fin 64, (((Int32.ofNat n.val).toInt64 &&& 63).toBitVec.smod 64).toNat = n.val := by decide +kernel
theorem own_sh32 : ∀ n : Fin 32, (((Int32.ofNat n.val) &&& 31).toBitVec.smod 32).toNat = n.val := by decide +kernel
theorem own_bound (a : Int64) (b c d : Int32) : (((a >>> ((own_mxI (19 - (c &&& 31)) (d &&& 63)).toInt64 &&& 63)).toInt).tdiv 10000 * (b >>> ((c &&& 31) &&& 31)).toInt).natAbs ≤ 2 ^ 62 := by
  have mk : (c &&& 31).toInt = c.toInt % 2 ^ 5 := Jvm.Kit.i32_mask c 31 (k := 5) (by decide) (by decide)
  have md : (d &&& 63).toInt = d.toInt % 2 ^ 6 := Jvm.Kit.i32_mask d 63 (k := 6) (by decide) (by decide)
  have t19 : (19 : Int32).toInt = 19 := by decide
  generalize c &&& 31 = k at *
  generalize d &&& 63 = d' at *
  have es : (19 - k).toInt = 19 - k.toInt := by rw [Jvm.Kit.i32_sub (by rw [t19]; omega) (by rw [t19]; omega), t19]
  have hj : 0 ≤ (own_mxI (19 - k) d').toInt ∧ (own_mxI (19 - k) d').toInt < 64 ∧ 19 ≤ (own_mxI (19 - k) d').toInt + k.toInt := by
    unfold own_mxI
    by_cases q : 19 - k < d'
    · rw [if_pos q]; rw [Int32.lt_iff_toInt_lt] at q; omega
    · rw [if_neg q]; rw [Int32.lt_iff_toInt_lt] at q; omega
  generalize own_mxI (19 - k) d' = j at *
  obtain ⟨j0, j1, jk⟩ := hj
  have ej : j = Int32.ofNat j.toInt.toNat := Int32.toInt_inj.mp (by rw [Int32.toInt_ofNat_small (by omega)]; omega)
  have ek : k = Int32.ofNat k.toInt.toNat := Int32.toInt_inj.mp (by rw [Int32.toInt_ofNat_small (by omega)]; omega)
  have sj := own_sh64 ⟨j.toInt.toNat, by omega⟩
  have sk := own_sh32 ⟨k.toInt.toNat, by omega⟩
  dsimp only at sj sk
  rw [← ej] at sj
  rw [← ek] at sk
  rw [Jvm.Kit.i64_shr a _ sj, Jvm.Kit.i32_shr b _ sk]
  have bA := own_div_bound (a := a.toInt) (n := 63) (j := j.toInt.toNat) (by omega) (Int64.le_toInt a) (Int64.toInt_lt a)
  have bB := own_div_bound (a := b.toInt) (n := 31) (j := k.toInt.toNat) (by omega) (Int32.le_toInt b) (Int32.toInt_lt b)
  exact own_quot_bound (own_prod_bound bA bB (by omega))
set_option maxHeartbeats 1000000 in
theorem own_s0 (a : Int64) (b c d : Int32) (h : Heap) : own_wp [] own_tb0 (own_E h) own_Q 300 0 #[.val (.long a), .second, .val (.int b), .val (.int c), .val (.int d), .unset, .unset, .unset, .unset, .unset, .unset, .unset, .unset, .unset, .unset, .unset, .unset, .unset, .unset, .unset, .unset, .unset] [] := by
  have hb := own_bound a b c d
  refine own_join (stop := [21]) (n1 := 20) (n2 := 280) ?_
  refine Exists.intro (.int (own_mxI (19 - (c &&& 31)) (d &&& 63))) (And.intro ⟨_, _, rfl, rfl⟩ (And.intro rfl (And.intro (Nat.le_of_ble_eq_true rfl) (And.intro rfl ?_))))
  refine And.intro trivial ?_
  show own_wp [] own_tb0 (own_E h) own_Q 280 21 #[.val (.long a), .second, .val (.int b), .val (.int c), .val (.int d), .val (.int (c &&& 31)), .val (.int (own_mxI (19 - (c &&& 31)) (d &&& 63))), .unset, .unset, .unset, .unset, .unset, .unset, .unset, .unset, .unset, .unset, .unset, .unset, .unset, .unset, .unset] []
  refine own_join (stop := [33]) (n1 := 20) (n2 := 260) ?_
  refine And.intro trivial ?_
  show own_wp [] own_tb0 (own_E h) own_Q 260 33 #[.val (.long a), .second, .val (.int b), .val (.int c), .val (.int d), .val (.int (c &&& 31)), .val (.int (own_mxI (19 - (c &&& 31)) (d &&& 63))), .val (.long (a >>> ((own_mxI (19 - (c &&& 31)) (d &&& 63)).toInt64 &&& 63))), .second, .val (.int (b >>> ((c &&& 31) &&& 31))), .unset, .unset, .unset, .unset, .unset, .unset, .unset, .unset, .unset, .unset, .unset, .unset] []
  generalize (a >>> ((own_mxI (19 - (c &&& 31)) (d &&& 63)).toInt64 &&& 63)) = A at *
  generalize (b >>> ((c &&& 31) &&& 31)) = bp at *
  refine own_join (stop := [42]) (n1 := 20) (n2 := 240) ?_
  refine Exists.intro (.long (own_sh A bp)) (And.intro ⟨_, _, rfl, hb, rfl⟩ (And.intro rfl (And.intro (Nat.le_of_ble_eq_true rfl) (And.intro rfl ?_))))
  refine And.intro trivial ?_
  exact own_wp_more (own_s42 a b c d (c &&& 31) (own_mxI (19 - (c &&& 31)) (d &&& 63)) A bp h hb) 40
theorem own_law (l : Launch) (Z : State) (a0 : Array Value) (hw : ∀ d ∈ tables_1, d.before a0 Z = true) : own_Pure l Z x code maxLocals ret room_1 (fun _ as v => (∃ a b c d, as = [.long a, .int b, .int c, .int d]) ∧ v = .int 1) := by
  refine own_pure (N := 300) (tab := own_tb0) [88, 185, 197, 209, 211] (plainFor_of_name (by decide +kernel)) hw own_tb0_ok (by decide +kernel) 0 own_C [] ?_ (fun q hq => by cases hq) ?_
  · intro q hq
    simp only [own_C, List.mem_cons, List.not_mem_nil, or_false] at hq
    rcases hq with rfl | rfl
    · exact ⟨_, _, _, _, _, own_m1 l Z a0 hw, hw _ (List.mem_of_getElem? (i := 0) rfl), hw _ (List.mem_of_getElem? (i := 1) rfl), hw _ (List.mem_of_getElem? (i := 2) rfl), hw _ (List.mem_of_getElem? (i := 3) rfl), by decide, ⟨_, _, (by decide +kernel : parseMethodDescriptor "(II)I" = some ⟨[.int, .int], some .int⟩), rfl⟩, rfl, rfl, by decide, by decide⟩
    · exact ⟨_, _, _, _, _, own_ms l Z a0 hw, hw _ (List.mem_of_getElem? (i := 4) rfl), hw _ (List.mem_of_getElem? (i := 5) rfl), hw _ (List.mem_of_getElem? (i := 6) rfl), hw _ (List.mem_of_getElem? (i := 7) rfl), by decide, ⟨_, _, (by decide +kernel : parseMethodDescriptor "(JI)J" = some ⟨[.long, .int], some .long⟩), rfl⟩, rfl, rfl, by decide, by decide⟩
  · rintro h as v ⟨⟨a, b, c, d, rfl⟩, rfl⟩
    exact ⟨#[.val (.long a), .second, .val (.int b), .val (.int c), .val (.int d), .unset, .unset, .unset, .unset, .unset, .unset, .unset, .unset, .unset, .unset, .unset, .unset, .unset, .unset, .unset, .unset, .unset], [], [], by simp [argsToLocals, Value.category, maxLocals], (fun q hq => by cases hq), (fun q hq => by cases hq), own_s0 a b c d h⟩
set_option maxRecDepth 65536 in
theorem comes_1 {Post : Tables → Env → Array Value → State → Outcome → State → Prop} (hpost : ∀ tb e args s v u, (limb_1_1.after args s (.returned v) u = true ∧ limb_1_2.after args s (.returned v) u = true ∧ True) → FrameEnd s (.returned v) u (Jvm.fieldLocs frame_1_writes args s ++ Jvm.arrayLocs frame_1_arrays args s ++ Jvm.staticLocs frame_1_statics s) 0 0 → Post tb e args s (.returned v) u) :
    ArmFor flags0 classFile x code maxLocals ret World_1 tables_1 room_1 Calls_1 rest_1 Pre_1 Post := by
  intro l hfl _ _ p e ha hc hk s m args below hf hA hF happ hP
  obtain ⟨hcalls, hrest, hpre⟩ := hP
  obtain ⟨-, -, -, hnamed, -, -, -, hat⟩ := (Spec.applies_iff hf).mp happ
  obtain ⟨hg, hn⟩ := and_e (Cond.before_iff.mp (show (Jvm.Cond.and given_1 narrow_1).before args s = true from hpre))
  obtain ⟨hcount, k0⟩ := and_e hg
  obtain ⟨g0, k1⟩ := and_e k0
  obtain ⟨g1, k2⟩ := and_e k1
  obtain ⟨g2, k3⟩ := and_e k2
  obtain ⟨w0, w1, w2, w3, rfl⟩ : ∃ w0 w1 w2 w3 : Value, args = #[w0, w1, w2, w3] := by
    have hs : args.size = 4 := by simpa [Cond.value, given_1] using hcount
    obtain ⟨L⟩ := args
    match L, hs with
    | [w0, w1, w2, w3], _ => exact ⟨w0, w1, w2, w3, rfl⟩
  have hw := fun d (hd : d ∈ tables_1) => atoms_spec (ws := Jvm.Cond.code x code maxLocals ret :: tables_1) hat d (List.mem_cons_of_mem _ hd)
  obtain ⟨i0, ei0⟩ := isL_v g0
  obtain rfl : w0 = (.long i0) := Option.some.inj ei0
  obtain ⟨i1, ei1⟩ := is_v g1
  obtain rfl : w1 = (.int i1) := Option.some.inj ei1
  obtain ⟨i2, ei2⟩ := is_v g2
  obtain rfl : w2 = (.int i2) := Option.some.inj ei2
  obtain ⟨i3, ei3⟩ := is_v k3
  obtain rfl : w3 = (.int i3) := Option.some.inj ei3
  obtain ⟨n, o, h1, h2, h3, _, L, rfl, ⟨rfl, rfl, hh⟩, hq⟩ := own_law l s _ hw tables_1 s.heap [.long i0, .int i1, .int i2, .int i3] (.int 1) ⟨⟨i0, i1, i2, i3, rfl⟩, rfl⟩ p e ha hc hk s m _ below hf ((Spec.applies_iff_loose hf).mp happ).1 ⟨rfl, State.Warmed39.refl s, rfl⟩ trivial
  refine ⟨n, _, h1, h2, h3, hpost _ _ _ _ _ _ ⟨Cond.after_iff.mpr rfl, Cond.after_iff.mpr (eq_i res_at (Term.int_eval (1)) rfl), trivial⟩ ⟨hq.1, hq.2.1, (hq.2.2.sift fun y hy => nomatch hy).mono (by decide) (by decide)⟩⟩
theorem main_1_1 : Claimed_1_1 := comes_1 fun _ _ _ _ _ _ h hF => ⟨h.1, hF⟩
theorem main_1_2 : Claimed_1_2 := comes_1 fun _ _ _ _ _ _ h hF => ⟨h.2.1, hF⟩
end Jvm.Pilot.@@N@@
namespace Jvm.Pilot.@@N@@
open Jvm Jvm.ClassFile Sem Op Lib Jvm.Free Jvm.Stand Jvm.Pilot.@@N@@.Jvm.D
/-! MADE BY PROGRAM (witnessworld.py) out of the Statement's table words and the real class files: 10 classes; the members and pool entries that the words name. The judged class is class 1, her method 1. -/
namespace start1
open Jvm.ClassFile
def u (s : String) : CpInfo := .utf8 (stringToUtf16 s)
/-- a pool by its gaps: so many unusable entries, then the entry; so many at the end -/
def gap : Nat → List CpInfo → List CpInfo
  | 0, r => r
  | n + 1, r => .unusable :: gap n r
def poolList (es : List (Nat × CpInfo)) (last : Nat) : List CpInfo := es.foldr (fun e r => gap e.1 (e.2 :: r)) (gap last [])
def pool (es : List (Nat × CpInfo)) (last : Nat) : Array CpInfo := ⟨poolList es last⟩
def fileOf (pool : Array CpInfo) (this : Nat) (attrs : Array Attribute := #[]) (ms : Array MethodInfo := #[]) (fl : Nat := 33) (sup : Nat := 0) (ifs : Array Nat := #[]) (fds : Array FieldInfo := #[]) : ClassFile where
  minorVersion := 0
  majorVersion := 65
  constantPool := pool
  accessFlags := fl
  thisClass := this
  superClass := sup
  interfaces := ifs
  fields := fds
  methods := ms
  attributes := attrs
def plain (name : String) (sup : Option ClassId) : Class where
  name := name
  kind := .ordinary
  loader := none
  accessFlags := 33
  super := sup
  interfaces := #[]
  cf := none
  fields := #[]
  methods := #[]
  instanceTypes := #[]
  staticTypes := #[]
  resolved := #[]
  callSites := []
  init := .initialized
  statics := none
  mirror := none

def pool0 : Array CpInfo := pool [(5, u "<init>"), (0, u "()V"), (1, .class_ 10), (1, u "java/lang/Object")] 113

def k0m0 : Method := { name := "<init>", desc := "()V", sig := { parameters := [], returnType := none }, accessFlags := 1, code := none }
/-- java/lang/Object -/
def k0 : Class := { plain "java/lang/Object" none with
  accessFlags := 33
  interfaces := #[]
  cf := some (fileOf pool0 8 #[] #[{ accessFlags := 1, nameIndex := 5, descriptorIndex := 6, attributes := #[] }] 33 0 #[] #[])
  fields := #[]
  methods := #[k0m0]
  instanceTypes := #[]
  staticTypes := #[]
  resolved := Array.replicate 124 none
  statics := none }

def pool1 : Array CpInfo := pool [(2, .class_ 4), (1, u "java/lang/Object"), (0, u "<init>"), (0, u "()V"), (0, .methodref 8 9), (0, .class_ 10), (0, .nameAndType 11 12), (0, u "java/lang/Math"), (0, u "max"), (0, u "(II)I"), (0, .methodref 14 15), (0, .class_ 16), (0, .nameAndType 17 18), (0, u "com/example/incentd/incentd/programs/BasisPoints"), (0, u "share"), (0, u "(JI)J"), (0, .long 10000), (1, .long 4294967296), (1, .long 18446744069414584320), (1, .long 18446744073709546616), (1, .long 5000), (1, .class_ 30), (0, u "com/example/incentd/incentd/programs/BasisPointsSharePinLaw"), (2, u "law"), (0, u "(JIII)Z")] 3

def k1m0 : Method := { name := "<init>", desc := "()V", sig := { parameters := [], returnType := none }, accessFlags := 1, code := none }
def k1c1 : Code := { maxStack := 6, maxLocals := 22, code := code, exceptionTable := #[], attributes := #[] }
def k1m1 : Method := { name := "law", desc := "(JIII)Z", sig := { parameters := [.long, .int, .int, .int], returnType := some .boolean }, accessFlags := 9, code := some k1c1 }
/-- com/example/incentd/incentd/programs/BasisPointsSharePinLaw -/
def k1 : Class := { plain "com/example/incentd/incentd/programs/BasisPointsSharePinLaw" (some 0) with
  accessFlags := 49
  interfaces := #[]
  cf := some (fileOf pool1 29 #[] #[{ accessFlags := 1, nameIndex := 5, descriptorIndex := 6, attributes := #[] }, { accessFlags := 9, nameIndex := 33, descriptorIndex := 34, attributes := #[] }] 49 2 #[] #[])
  fields := #[]
  methods := #[k1m0, k1m1]
  instanceTypes := #[]
  staticTypes := #[]
  resolved := Array.replicate 38 none
  statics := none }

def pool2 : Array CpInfo := pool [(1, .class_ 2), (0, u "java/lang/Math"), (1, .class_ 6), (1, u "java/lang/Object"), (0, u "<init>"), (0, u "()V"), (89, .class_ 100), (1, u "java/lang/Math$RandomNumberGeneratorHolder"), (17, .methodref 1 119), (0, .nameAndType 120 121), (0, u "multiplyExact"), (0, u "(JJ)J"), (0, .methodref 1 123), (0, .nameAndType 124 125), (0, u "abs"), (0, u "(J)J"), (2, .long 9223372036854775808), (43, u "negativeZeroFloatBits"), (0, u "J"), (2, u "negativeZeroDoubleBits"), (21, u "max"), (46, u "$assertionsDisabled"), (0, u "Z"), (88, u "(II)I"), (2, u "twoToTheDoubleScaleDown"), (0, u "D"), (4, u "twoToTheDoubleScaleUp"), (9, u "E"), (3, u "PI"), (2, u "TAU"), (2, u "DEGREES_TO_RADIANS"), (0, u "RADIANS_TO_DEGREES"), (27, u "addExact"), (1, u "(JI)J")] 64

def k2m0 : Method := { name := "<init>", desc := "()V", sig := { parameters := [], returnType := none }, accessFlags := 2, code := none }
def k2c1 : Code := { maxStack := 6, maxLocals := 6, code := jdk_29_method_25_code, exceptionTable := #[], attributes := #[] }
def k2m1 : Method := { name := "addExact", desc := "(JJ)J", sig := { parameters := [.long, .long], returnType := some .long }, accessFlags := 9, code := some k2c1 }
def k2c2 : Code := { maxStack := 4, maxLocals := 3, code := jdk_29_method_29_code, exceptionTable := #[], attributes := #[] }
def k2m2 : Method := { name := "multiplyExact", desc := "(JI)J", sig := { parameters := [.long, .int], returnType := some .long }, accessFlags := 9, code := some k2c2 }
def k2c3 : Code := { maxStack := 4, maxLocals := 10, code := jdk_29_method_30_code, exceptionTable := #[], attributes := #[] }
def k2m3 : Method := { name := "multiplyExact", desc := "(JJ)J", sig := { parameters := [.long, .long], returnType := some .long }, accessFlags := 9, code := some k2c3 }
def k2c4 : Code := { maxStack := 4, maxLocals := 2, code := jdk_29_method_61_code, exceptionTable := #[], attributes := #[] }
def k2m4 : Method := { name := "abs", desc := "(J)J", sig := { parameters := [.long], returnType := some .long }, accessFlags := 9, code := some k2c4 }
def k2c5 : Code := { maxStack := 2, maxLocals := 2, code := jdk_29_method_65_code, exceptionTable := #[], attributes := #[] }
def k2m5 : Method := { name := "max", desc := "(II)I", sig := { parameters := [.int, .int], returnType := some .int }, accessFlags := 9, code := some k2c5 }
/-- java/lang/Math -/
def k2 : Class := { plain "java/lang/Math" (some 0) with
  accessFlags := 49
  interfaces := #[]
  cf := some (fileOf pool2 1 #[.nestMembers #[98]] #[{ accessFlags := 2, nameIndex := 7, descriptorIndex := 8, attributes := #[] }, { accessFlags := 9, nameIndex := 393, descriptorIndex := 121, attributes := #[] }, { accessFlags := 9, nameIndex := 120, descriptorIndex := 395, attributes := #[] }, { accessFlags := 9, nameIndex := 120, descriptorIndex := 121, attributes := #[] }, { accessFlags := 9, nameIndex := 124, descriptorIndex := 125, attributes := #[] }, { accessFlags := 9, nameIndex := 198, descriptorIndex := 335, attributes := #[] }] 49 4 #[] #[{ accessFlags := 25, nameIndex := 354, descriptorIndex := 339, attributes := #[] }, { accessFlags := 25, nameIndex := 358, descriptorIndex := 339, attributes := #[] }, { accessFlags := 25, nameIndex := 361, descriptorIndex := 339, attributes := #[] }, { accessFlags := 26, nameIndex := 364, descriptorIndex := 339, attributes := #[] }, { accessFlags := 26, nameIndex := 365, descriptorIndex := 339, attributes := #[] }, { accessFlags := 26, nameIndex := 172, descriptorIndex := 173, attributes := #[] }, { accessFlags := 26, nameIndex := 176, descriptorIndex := 173, attributes := #[] }, { accessFlags := 8, nameIndex := 344, descriptorIndex := 339, attributes := #[] }, { accessFlags := 8, nameIndex := 338, descriptorIndex := 339, attributes := #[] }, { accessFlags := 4120, nameIndex := 245, descriptorIndex := 246, attributes := #[] }])
  fields := #[{ name := "E", type := .double, accessFlags := 25, slot := 0, constantValue := 0 }, { name := "PI", type := .double, accessFlags := 25, slot := 1, constantValue := 0 }, { name := "TAU", type := .double, accessFlags := 25, slot := 2, constantValue := 0 }, { name := "DEGREES_TO_RADIANS", type := .double, accessFlags := 26, slot := 3, constantValue := 0 }, { name := "RADIANS_TO_DEGREES", type := .double, accessFlags := 26, slot := 4, constantValue := 0 }, { name := "negativeZeroFloatBits", type := .long, accessFlags := 26, slot := 5, constantValue := 0 }, { name := "negativeZeroDoubleBits", type := .long, accessFlags := 26, slot := 6, constantValue := 0 }, { name := "twoToTheDoubleScaleUp", type := .double, accessFlags := 8, slot := 7, constantValue := 0 }, { name := "twoToTheDoubleScaleDown", type := .double, accessFlags := 8, slot := 8, constantValue := 0 }, { name := "$assertionsDisabled", type := .boolean, accessFlags := 4120, slot := 9, constantValue := 0 }]
  methods := #[k2m0, k2m1, k2m2, k2m3, k2m4, k2m5]
  instanceTypes := #[]
  staticTypes := #[.double, .double, .double, .double, .double, .long, .long, .double, .double, .boolean]
  resolved := Array.replicate 460 none
  statics := none }

def pool3 : Array CpInfo := pool [(2, .class_ 4), (1, u "java/lang/Object"), (0, u "<init>"), (0, u "()V"), (0, .class_ 8), (0, u "com/example/incentd/incentd/programs/BasisPoints"), (0, .long 10000), (1, .methodref 12 13), (0, .class_ 14), (0, .nameAndType 15 16), (0, u "java/lang/Math"), (0, u "multiplyExact"), (0, u "(JI)J"), (0, .methodref 12 18), (0, .nameAndType 19 20), (0, u "abs"), (0, u "(J)J"), (0, .long 5000), (1, .methodref 12 24), (0, .nameAndType 25 26), (0, u "addExact"), (0, u "(JJ)J"), (0, u "WHOLE"), (0, u "I"), (4, u "share")] 3

def k3m0 : Method := { name := "<init>", desc := "()V", sig := { parameters := [], returnType := none }, accessFlags := 2, code := none }
def k3c1 : Code := { maxStack := 6, maxLocals := 9, code := prog_8_method_2_code, exceptionTable := #[], attributes := #[] }
def k3m1 : Method := { name := "share", desc := "(JI)J", sig := { parameters := [.long, .int], returnType := some .long }, accessFlags := 9, code := some k3c1 }
/-- com/example/incentd/incentd/programs/BasisPoints -/
def k3 : Class := { plain "com/example/incentd/incentd/programs/BasisPoints" (some 0) with
  accessFlags := 33
  interfaces := #[]
  cf := some (fileOf pool3 7 #[] #[{ accessFlags := 2, nameIndex := 5, descriptorIndex := 6, attributes := #[] }, { accessFlags := 9, nameIndex := 33, descriptorIndex := 16, attributes := #[] }] 33 2 #[] #[{ accessFlags := 25, nameIndex := 27, descriptorIndex := 28, attributes := #[] }])
  fields := #[{ name := "WHOLE", type := .int, accessFlags := 25, slot := 0, constantValue := 0 }]
  methods := #[k3m0, k3m1]
  instanceTypes := #[]
  staticTypes := #[.int]
  resolved := Array.replicate 37 none
  statics := none }

def pool4 : Array CpInfo := pool [(1, u "java/lang/Cloneable"), (0, .class_ 1), (0, u "java/lang/Object"), (0, .class_ 3)] 3

/-- java/lang/Cloneable -/
def k4 : Class := { plain "java/lang/Cloneable" (some 0) with
  accessFlags := 1537
  interfaces := #[]
  cf := some (fileOf pool4 2 #[] #[] 1537 4 #[] #[])
  fields := #[]
  methods := #[]
  instanceTypes := #[]
  staticTypes := #[]
  resolved := Array.replicate 8 none
  statics := none }

def pool5 : Array CpInfo := pool [(1, u "java/io/Serializable"), (0, .class_ 1), (0, u "java/lang/Object"), (0, .class_ 3)] 3

/-- java/io/Serializable -/
def k5 : Class := { plain "java/io/Serializable" (some 0) with
  accessFlags := 1537
  interfaces := #[]
  cf := some (fileOf pool5 2 #[] #[] 1537 4 #[] #[])
  fields := #[]
  methods := #[]
  instanceTypes := #[]
  staticTypes := #[]
  resolved := Array.replicate 8 none
  statics := none }

/-- the primitive byte -/
def k6 : Class := { plain "byte" none with kind := .primitive 'B', accessFlags := 0x411 }
/-- [B -/
def k7 : Class := { plain "[B" (some 0) with kind := .array 6 .byte, interfaces := #[4, 5], accessFlags := 1041 }

/-- the primitive int -/
def k8 : Class := { plain "int" none with kind := .primitive 'I', accessFlags := 0x411 }
/-- [I -/
def k9 : Class := { plain "[I" (some 0) with kind := .array 8 .int, interfaces := #[4, 5], accessFlags := 1041 }

def heap : Heap := #[]
def classes : Array Class := #[k0, k1, k2, k3, k4, k5, k6, k7, k8, k9]
def interned : List (Array UInt16 × Addr) := []
def slotsUsed : Nat := 0
def theMethod : MethodId := ⟨1, 1⟩
def args0 : Array Value := #[.long 5, .int 6, .int 7, .int 8]
def aboutOver (below : List Frame) : State where
  vm := { classes := classes, interned := interned.toArray }
  heap := heap
  slotsUsed := slotsUsed
  threads := #[{ frames := .invoking theMethod args0 :: below }]
def below0 : List Frame := [.native { method := ⟨0, 0⟩, args := #[] }]
def about1 : State := aboutOver below0
def p0 : Program := .bare "" "" ""
def e0 : Env := launch0.env 0 0 0
theorem w_frames : about1.frames = Frame.invoking theMethod args0 :: below0 := rfl
set_option maxRecDepth 65536 in
theorem w_args : argsFit about1.vm theMethod args0 = true := by decide +kernel
set_option maxRecDepth 65536 in
theorem w_heap : heapFits about1 = true := by decide +kernel
set_option maxRecDepth 65536 in
theorem w_runnable : about1.curStatus? = some .runnable := by decide +kernel
set_option maxRecDepth 65536 in
theorem w_alone : about1.alone = true := by decide +kernel
set_option maxRecDepth 65536 in
theorem w_named : about1.methodNamed? x = some theMethod := by decide +kernel
set_option maxRecDepth 65536 in
theorem w_hears : about1.hears theMethod below0 = true := by decide +kernel
set_option maxRecDepth 65536 in
theorem w_ripe : about1.ripe theMethod args0 below0 = true := by decide +kernel
theorem w_running : about1.status = .running := rfl
set_option maxRecDepth 65536 in
theorem w_room : about1.hasRoom e0.platform room_1 = true :=
  launch0.hasRoom_least _ room_1 (by decide +kernel) (by decide +kernel) (by decide +kernel) (by decide +kernel) (by decide +kernel) (by decide +kernel)
theorem allAtoms_all (ts : List Jvm.Cond) (a : Array Jvm.Value) (st : Jvm.State) : (allAtoms ts).before a st = ts.all (fun c => c.before a st) := by
  induction ts with
  | nil => rfl
  | cons c t ih =>
    show (Jvm.Cond.and c (allAtoms t)).before a st = _
    rw [Jvm.Cond.before_and, ih, List.all_cons]
def words1 : List Jvm.Cond := Jvm.Cond.code x code maxLocals ret :: tables_1
/-- a 'code' word, met by the world's own term for the bytes: nothing is compared byte by byte -/
theorem code_word {y : MethodName} {bytes : ByteArray} {mx : Nat} {rt : Option FieldType} {a : Array Value} {s : State} {m : MethodId} {meth : Method} {c : Code} (h1 : s.methodNamed? y = some m) (h2 : s.vm.method? m = some meth) (h3 : meth.code = some c) (h4 : c.code = bytes)
    (h5 : (c.maxLocals == mx && c.exceptionTable.isEmpty && decide (c.maxStack ≤ mostOperands) && decide (meth.sig.returnType = rt) && !meth.locks && decide (parseMethodDescriptor y.desc = some meth.sig)) = true) : (Jvm.Cond.code y bytes mx rt).before a s = true := by
  simp only [Bool.and_eq_true, beq_iff_eq, Bool.not_eq_true', decide_eq_true_eq] at h5
  obtain ⟨⟨⟨⟨⟨g1, g2⟩, g3⟩, g4⟩, g5⟩, g6⟩ := h5
  simp [Cond.before, Cond.holds, Cond.value, h1, h2, h3, h4, g1, g2, g3, g4, g5, g6]
def isCode : Jvm.Cond → Bool
  | .code _ _ _ _ => true
  | _ => false
theorem all_split {L : List Jvm.Cond} {P : Jvm.Cond → Bool} (h1 : L.all (fun c => isCode c || P c) = true) (h2 : ∀ c ∈ L.filter isCode, P c = true) : L.all P = true := by
  refine List.all_eq_true.mpr fun c hc => ?_
  have h := List.all_eq_true.mp h1 c hc
  rcases Bool.eq_false_or_eq_true (isCode c) with hi | hi
  · exact h2 c (List.mem_filter.mpr ⟨hc, hi⟩)
  · simpa [hi] using h
set_option maxRecDepth 65536 in
theorem w_c0 : (Jvm.Cond.code x code maxLocals ret).before args0 about1 = true := code_word (m := ⟨1, 1⟩) (meth := k1m1) (c := k1c1) (by decide +kernel) rfl rfl rfl (by decide +kernel)
set_option maxRecDepth 65536 in
theorem w_c1 : (Jvm.Cond.code ({ cls := "java/lang/Math", name := "max", desc := "(II)I" } : Jvm.MethodName) jdk_29_method_65_code (2 : Nat) (Option.some Jvm.ClassFile.FieldType.int)).before args0 about1 = true := code_word (m := ⟨2, 5⟩) (meth := k2m5) (c := k2c5) (by decide +kernel) rfl rfl rfl (by decide +kernel)
set_option maxRecDepth 65536 in
theorem w_c2 : (Jvm.Cond.code ({ cls := "com/example/incentd/incentd/programs/BasisPoints", name := "share", desc := "(JI)J" } : Jvm.MethodName) prog_8_method_2_code (9 : Nat) (Option.some Jvm.ClassFile.FieldType.long)).before args0 about1 = true := code_word (m := ⟨3, 1⟩) (meth := k3m1) (c := k3c1) (by decide +kernel) rfl rfl rfl (by decide +kernel)
set_option maxRecDepth 65536 in
theorem w_c3 : (Jvm.Cond.code ({ cls := "java/lang/Math", name := "multiplyExact", desc := "(JI)J" } : Jvm.MethodName) jdk_29_method_29_code (3 : Nat) (Option.some Jvm.ClassFile.FieldType.long)).before args0 about1 = true := code_word (m := ⟨2, 2⟩) (meth := k2m2) (c := k2c2) (by decide +kernel) rfl rfl rfl (by decide +kernel)
set_option maxRecDepth 65536 in
theorem w_c4 : (Jvm.Cond.code ({ cls := "java/lang/Math", name := "multiplyExact", desc := "(JJ)J" } : Jvm.MethodName) jdk_29_method_30_code (10 : Nat) (Option.some Jvm.ClassFile.FieldType.long)).before args0 about1 = true := code_word (m := ⟨2, 3⟩) (meth := k2m3) (c := k2c3) (by decide +kernel) rfl rfl rfl (by decide +kernel)
set_option maxRecDepth 65536 in
theorem w_c5 : (Jvm.Cond.code ({ cls := "java/lang/Math", name := "abs", desc := "(J)J" } : Jvm.MethodName) jdk_29_method_61_code (2 : Nat) (Option.some Jvm.ClassFile.FieldType.long)).before args0 about1 = true := code_word (m := ⟨2, 4⟩) (meth := k2m4) (c := k2c4) (by decide +kernel) rfl rfl rfl (by decide +kernel)
set_option maxRecDepth 65536 in
theorem w_c6 : (Jvm.Cond.code ({ cls := "java/lang/Math", name := "addExact", desc := "(JJ)J" } : Jvm.MethodName) jdk_29_method_25_code (6 : Nat) (Option.some Jvm.ClassFile.FieldType.long)).before args0 about1 = true := code_word (m := ⟨2, 1⟩) (meth := k2m1) (c := k2c1) (by decide +kernel) rfl rfl rfl (by decide +kernel)
def codes1 : List Jvm.Cond := [Jvm.Cond.code x code maxLocals ret, Jvm.Cond.code ({ cls := "java/lang/Math", name := "max", desc := "(II)I" } : Jvm.MethodName) jdk_29_method_65_code (2 : Nat) (Option.some Jvm.ClassFile.FieldType.int), Jvm.Cond.code ({ cls := "com/example/incentd/incentd/programs/BasisPoints", name := "share", desc := "(JI)J" } : Jvm.MethodName) prog_8_method_2_code (9 : Nat) (Option.some Jvm.ClassFile.FieldType.long), Jvm.Cond.code ({ cls := "java/lang/Math", name := "multiplyExact", desc := "(JI)J" } : Jvm.MethodName) jdk_29_method_29_code (3 : Nat) (Option.some Jvm.ClassFile.FieldType.long), Jvm.Cond.code ({ cls := "java/lang/Math", name := "multiplyExact", desc := "(JJ)J" } : Jvm.MethodName) jdk_29_method_30_code (10 : Nat) (Option.some Jvm.ClassFile.FieldType.long), Jvm.Cond.code ({ cls := "java/lang/Math", name := "abs", desc := "(J)J" } : Jvm.MethodName) jdk_29_method_61_code (2 : Nat) (Option.some Jvm.ClassFile.FieldType.long), Jvm.Cond.code ({ cls := "java/lang/Math", name := "addExact", desc := "(JJ)J" } : Jvm.MethodName) jdk_29_method_25_code (6 : Nat) (Option.some Jvm.ClassFile.FieldType.long)]
set_option maxRecDepth 65536 in
theorem codes_eq : words1.filter isCode = codes1 := rfl
theorem w_codes : ∀ c ∈ words1.filter isCode, c.before args0 about1 = true := by
  rw [codes_eq]
  intro c hc
  simp only [codes1, List.mem_cons, List.not_mem_nil, or_false] at hc
  rcases hc with rfl | rfl | rfl | rfl | rfl | rfl | rfl
  · exact w_c0
  · exact w_c1
  · exact w_c2
  · exact w_c3
  · exact w_c4
  · exact w_c5
  · exact w_c6
set_option maxRecDepth 65536 in
theorem w_t1 : (words1.take 24).all (fun c => isCode c || c.before args0 about1) = true := by decide +kernel
set_option maxRecDepth 65536 in
theorem w_t2 : (words1.drop 24).all (fun c => isCode c || c.before args0 about1) = true := by decide +kernel
theorem w_tables : (allAtoms (Jvm.Cond.code x code maxLocals ret :: tables_1)).before args0 about1 = true := by
  rw [allAtoms_all]
  show words1.all (fun c => c.before args0 about1) = true
  refine all_split ?_ w_codes
  rw [← List.take_append_drop 24 words1, List.all_append, w_t1, w_t2]
  rfl
set_option maxRecDepth 65536 in
theorem w_case : (Jvm.Cond.and given_1 narrow_1).before args0 about1 = true := by decide +kernel
theorem w_applies : (headSpec (Jvm.Cond.code x code maxLocals ret :: tables_1) room_1).applies x e0.platform about1 = true :=
  (Spec.applies_iff w_frames).mpr ⟨w_running, w_runnable, w_alone, w_named, w_hears, w_ripe, w_room, w_tables⟩
theorem atStart : AtStart classFile x code maxLocals ret World_1 tables_1 room_1 Calls_1 rest_1 Pre_1 launch0 p0 e0 about1 theMethod args0 below0 :=
  ⟨lists_1, trivial, launch0.admits_env _ _ _, launch0.least_env, fairChoices_fair.cas, fairChoices_fair.clock, w_frames, w_args, w_heap, w_applies, trivial, trivial, w_case⟩
end start1
theorem witness_1 : WitnessClaimed_1 := ⟨start1.p0, start1.e0, start1.about1, start1.theMethod, start1.args0, start1.below0, start1.atStart⟩
end Jvm.Pilot.@@N@@
