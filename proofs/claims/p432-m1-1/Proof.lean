import JvmDerived
import JvmDerived.Pilot.@@N@@Statement
import JvmDerived.Pilot.@@N@@Code
set_option linter.unusedVariables false
set_option linter.unusedSimpArgs false
@@BLOCK:NumsL.lean.txt@@
namespace Jvm.Pilot.@@N@@
open Jvm Jvm.ClassFile Sem Op Lib Jvm.Free Jvm.Stand Jvm.LawKit Jvm.RoadKit Bundle Jvm.Pilot.@@N@@.Jvm.D
/-! ## OWN EVALUATOR: a run of plain bytecode (ints, longs, references that are only carried; static calls by contract) as one Prop that unfolds by computation.
An entry of a table: pc, the instruction, the next pc, the target of a branch, the constant that it pushes. -/
abbrev own_Ent := Nat × Instr × Nat × Nat × Value
def own_look : List own_Ent → Nat → Option (Instr × Nat × Nat × Value)
  | [], _ => none
  | e :: t, pc => bif Nat.beq e.1 pc then some e.2 else own_look t pc
theorem own_look_mem : ∀ {tab : List own_Ent} {pc : Nat} {r : Instr × Nat × Nat × Value}, own_look tab pc = some r → (pc, r) ∈ tab
  | [], _, _, h => by simp [own_look] at h
  | e :: t, pc, r, h => by
    simp only [own_look] at h
    cases hb : Nat.beq e.1 pc with
    | true =>
      rw [hb] at h
      have h1 : e.1 = pc := Nat.eq_of_beq_eq_true hb
      have h2 : e.2 = r := Option.some.inj h
      subst h1 h2
      exact List.mem_cons_self
    | false => rw [hb] at h; exact List.mem_cons_of_mem _ (own_look_mem h)
/-- what a conditional branch asks -/
def own_icmp : ClassFile.Cond → Int32 → Int32 → Prop
  | .eq, a, b => a = b
  | .ne, a, b => ¬ a = b
  | .lt, a, b => a < b
  | .ge, a, b => b ≤ a
  | .gt, a, b => b < a
  | .le, a, b => a ≤ b
theorem own_icmp_iff {cd : ClassFile.Cond} {a b : Int32} : if_icmp.holds cd a b = true ↔ own_icmp cd a b := by
  cases cd <;> simp [if_icmp.holds, own_icmp]
theorem own_if_iff {cd : ClassFile.Cond} {a : Int32} : ifCond.holds cd a = true ↔ own_icmp cd a 0 := by
  cases cd <;> simp [ifCond.holds, own_icmp]
def own_ldI (L : Array Slot) (st : List Value) (k : Nat) : Option (Array Slot × List Value) :=
  match L[k]? with
  | some (.val (.int v)) => some (L, .int v :: st)
  | _ => none
def own_ldJ (L : Array Slot) (st : List Value) (k : Nat) : Option (Array Slot × List Value) :=
  match L[k]? with
  | some (.val (.long v)) => some (L, .long v :: st)
  | _ => none
def own_ldA (L : Array Slot) (st : List Value) (k : Nat) : Option (Array Slot × List Value) :=
  match L[k]? with
  | some (.val (.ref a)) => some (L, .ref a :: st)
  | _ => none
def own_put (L : Array Slot) (k : Nat) (v : Value) (r : List Value) : Option (Array Slot × List Value) :=
  match storeLocals L k v with
  | some L' => some (L', r)
  | none => none
def own_stI (L : Array Slot) (st : List Value) (k : Nat) : Option (Array Slot × List Value) :=
  match st with
  | .int v :: r => own_put L k (.int v) r
  | _ => none
def own_stJ (L : Array Slot) (st : List Value) (k : Nat) : Option (Array Slot × List Value) :=
  match st with
  | .long v :: r => own_put L k (.long v) r
  | _ => none
def own_stA (L : Array Slot) (st : List Value) (k : Nat) : Option (Array Slot × List Value) :=
  match st with
  | .ref v :: r => own_put L k (.ref v) r
  | _ => none
def own_bI (L : Array Slot) (st : List Value) (f : Int32 → Int32 → Int32) : Option (Array Slot × List Value) :=
  match st with
  | .int y :: .int x :: r => some (L, .int (f x y) :: r)
  | _ => none
def own_bJ (L : Array Slot) (st : List Value) (f : Int64 → Int64 → Int64) : Option (Array Slot × List Value) :=
  match st with
  | .long y :: .long x :: r => some (L, .long (f x y) :: r)
  | _ => none
def own_sJ (L : Array Slot) (st : List Value) (f : Int64 → Int32 → Int64) : Option (Array Slot × List Value) :=
  match st with
  | .int y :: .long x :: r => some (L, .long (f x y) :: r)
  | _ => none
def own_uI (L : Array Slot) (st : List Value) (f : Int32 → Int32) : Option (Array Slot × List Value) :=
  match st with
  | .int x :: r => some (L, .int (f x) :: r)
  | _ => none
/-- i2c, as the machine reckons it -/
def own_i2c (x : Int32) : Int32 := x.toUInt32.toUInt16.toUInt32.toInt32
/-- a straight step -/
def own_stp (L : Array Slot) (st : List Value) (cv : Value) : Instr → Option (Array Slot × List Value)
  | .iconst _ => some (L, cv :: st)
  | .bipush _ => some (L, cv :: st)
  | .sipush _ => some (L, cv :: st)
  | .lconst _ => some (L, cv :: st)
  | .ldc _ => some (L, cv :: st)
  | .ldc2_w _ => some (L, cv :: st)
  | .iload k => own_ldI L st k
  | .iload_n k => own_ldI L st k.val
  | .lload k => own_ldJ L st k
  | .lload_n k => own_ldJ L st k.val
  | .aload k => own_ldA L st k
  | .aload_n k => own_ldA L st k.val
  | .istore k => own_stI L st k
  | .istore_n k => own_stI L st k.val
  | .lstore k => own_stJ L st k
  | .lstore_n k => own_stJ L st k.val
  | .astore k => own_stA L st k
  | .astore_n k => own_stA L st k.val
  | .iadd => own_bI L st (fun x y => x + y)
  | .isub => own_bI L st (fun x y => x - y)
  | .imul => own_bI L st (fun x y => x * y)
  | .iand => own_bI L st (fun x y => x &&& y)
  | .ior => own_bI L st (fun x y => x ||| y)
  | .ixor => own_bI L st (fun x y => x ^^^ y)
  | .ishl => own_bI L st (fun x y => x <<< (y &&& 31))
  | .ishr => own_bI L st (fun x y => x >>> (y &&& 31))
  | .iushr => own_bI L st (fun x y => XT.ushr x y)
  | .ladd => own_bJ L st (fun x y => x + y)
  | .lsub => own_bJ L st (fun x y => x - y)
  | .lmul => own_bJ L st (fun x y => x * y)
  | .land => own_bJ L st (fun x y => x &&& y)
  | .lor => own_bJ L st (fun x y => x ||| y)
  | .lxor => own_bJ L st (fun x y => x ^^^ y)
  | .lshl => own_sJ L st (fun x y => x <<< (y.toInt64 &&& 63))
  | .lshr => own_sJ L st (fun x y => x >>> (y.toInt64 &&& 63))
  | .lushr => own_sJ L st (fun x y => XT.ushrL x y)
  | .i2b => own_uI L st (fun x => x.toInt8.toInt32)
  | .i2c => own_uI L st own_i2c
  | .i2s => own_uI L st (fun x => x.toInt16.toInt32)
  | .i2l => match st with
    | .int x :: r => some (L, .long x.toInt64 :: r)
    | _ => none
  | .l2i => match st with
    | .long x :: r => some (L, .int x.toInt32 :: r)
    | _ => none
  | .lneg => match st with
    | .long x :: r => some (L, .long (-x) :: r)
    | _ => none
  | .lcmp => match st with
    | .long y :: .long x :: r => some (L, .int (XT.cmpL x y) :: r)
    | _ => none
  | .iinc k z => match L[k]? with
    | some (.val (.int v)) => own_put L k (.int (v + Int32.ofInt z)) st
    | _ => none
  | .dup => match st with
    | .ref a :: r => some (L, .ref a :: .ref a :: r)
    | _ => none
  | _ => none
/-- how long an instruction is -/
def own_len : Instr → Nat
  | .bipush _ => 2
  | .sipush _ => 3
  | .ldc _ => 2
  | .ldc2_w _ => 3
  | .iload _ => 2
  | .lload _ => 2
  | .aload _ => 2
  | .istore _ => 2
  | .lstore _ => 2
  | .astore _ => 2
  | .iinc _ _ => 3
  | .invokestatic _ => 3
  | .invokevirtual _ => 3
  | .getfield _ => 3
  | _ => 1
/-- the constant that an instruction pushes is the entry's -/
def own_cv (own : String) (ws : List Jvm.Cond) (cv : Value) : Instr → Bool
  | .iconst i => decide (cv = .int (Int32.ofInt i))
  | .bipush i => decide (cv = .int (Int8.ofInt i).toInt32)
  | .sipush i => decide (cv = .int (Int16.ofInt i).toInt32)
  | .lconst k => decide (cv = .long (Int64.ofNat k))
  | .ldc idx => match cv with
    | .int v => ws.contains (Jvm.Cond.constant own idx v)
    | _ => false
  | .ldc2_w idx => match cv with
    | .long v => ws.contains (Jvm.Cond.constantLong own idx v)
    | _ => false
  | _ => true
/-- an entry is true of the code -/
def own_ok (code : ByteArray) (own : String) (ws : List Jvm.Cond) (q : own_Ent) : Bool :=
  match q with
  | (pc, .if_icmp cd o, nx, tg, _) => decide (decode code pc = .ok (.if_icmp cd o, 3)) && decide (0 ≤ (pc : Int) + o) && decide (((pc : Int) + o).toNat = tg) && decide (nx = pc + 3)
  | (pc, .ifCond cd o, nx, tg, _) => decide (decode code pc = .ok (.ifCond cd o, 3)) && decide (0 ≤ (pc : Int) + o) && decide (((pc : Int) + o).toNat = tg) && decide (nx = pc + 3)
  | (pc, .goto o, _, tg, _) => decide (decode code pc = .ok (.goto o, 3)) && decide (0 ≤ (pc : Int) + o) && decide (((pc : Int) + o).toNat = tg)
  | (pc, i, nx, _, cv) => decide (decode code pc = .ok (i, own_len i)) && decide (nx = pc + own_len i) && own_cv own ws cv i
abbrev own_Call := Nat × Nat × (Heap → List Value → Value → Prop)
abbrev own_Fld := Nat × Addr × Value
abbrev own_Arr := Addr × Int32 × FieldType × List Value × Value
/-- what a run may lean on: static calls, virtual calls, fields read, an array read, the heap, max_locals, the weight of the operand stack under a call -/
abbrev own_Env := List own_Call × List own_Call × List own_Fld × List own_Arr × Heap × Nat × Nat
def own_lookC : List own_Call → Nat → Option (Nat × (Heap → List Value → Value → Prop))
  | [], _ => none
  | e :: t, pc => bif Nat.beq e.1 pc then some e.2 else own_lookC t pc
theorem own_lookC_mem : ∀ {C : List own_Call} {i : Nat} {r : Nat × (Heap → List Value → Value → Prop)}, own_lookC C i = some r → (i, r) ∈ C
  | [], _, _, h => by simp [own_lookC] at h
  | e :: t, i, r, h => by
    simp only [own_lookC] at h
    cases hb : Nat.beq e.1 i with
    | true =>
      rw [hb] at h
      have h1 : e.1 = i := Nat.eq_of_beq_eq_true hb
      have h2 : e.2 = r := Option.some.inj h
      subst h1 h2
      exact List.mem_cons_self
    | false => rw [hb] at h; exact List.mem_cons_of_mem _ (own_lookC_mem h)
def own_lookF : List own_Fld → Nat → Option (Addr × Value)
  | [], _ => none
  | e :: t, pc => bif Nat.beq e.1 pc then some e.2 else own_lookF t pc
theorem own_lookF_mem : ∀ {C : List own_Fld} {i : Nat} {r : Addr × Value}, own_lookF C i = some r → (i, r) ∈ C
  | [], _, _, h => by simp [own_lookF] at h
  | e :: t, i, r, h => by
    simp only [own_lookF] at h
    cases hb : Nat.beq e.1 i with
    | true =>
      rw [hb] at h
      have h1 : e.1 = i := Nat.eq_of_beq_eq_true hb
      have h2 : e.2 = r := Option.some.inj h
      subst h1 h2
      exact List.mem_cons_self
    | false => rw [hb] at h; exact List.mem_cons_of_mem _ (own_lookF_mem h)
def own_cat (st : List Value) : Nat := (st.map fun v => v.category).sum
/-- one step: k: what is asked behind it; q: what is asked where it stops here -/
def own_nxt (E : own_Env) (L : Array Slot) (st : List Value) (nx tg : Nat) (cv : Value) (k : Nat → Array Slot → List Value → Prop) (q : Prop) (i : Instr) : Prop :=
  match i with
  | .if_icmp cd _ => match st with
    | .int y :: .int x :: r => (own_icmp cd x y → k tg L r) ∧ (¬ own_icmp cd x y → k nx L r)
    | _ => q
  | .ifCond cd _ => match st with
    | .int x :: r => (own_icmp cd x 0 → k tg L r) ∧ (¬ own_icmp cd x 0 → k nx L r)
    | _ => q
  | .goto _ => k tg L st
  | .irem => match st with
    | .int y :: .int x :: r => y ≠ 0 ∧ k nx L (.int (x % y) :: r)
    | _ => q
  | .idiv => match st with
    | .int y :: .int x :: r => y ≠ 0 ∧ k nx L (.int (x / y) :: r)
    | _ => q
  | .lrem => match st with
    | .long y :: .long x :: r => y ≠ 0 ∧ k nx L (.long (x - (x / y) * y) :: r)
    | _ => q
  | .ldiv => match st with
    | .long y :: .long x :: r => y ≠ 0 ∧ k nx L (.long (x / y) :: r)
    | _ => q
  | .invokestatic idx => match own_lookC E.1 idx with
    | some (n, P) => ∃ v, P E.2.2.2.2.1 (st.take n).reverse v ∧ (st.take n).length = n ∧ own_cat (st.drop n) ≤ E.2.2.2.2.2.2 ∧ L.size = E.2.2.2.2.2.1 ∧ k nx L (v :: st.drop n)
    | none => q
  | .invokevirtual idx => match own_lookC E.2.1 idx with
    | some (n, P) => match st.drop n with
      | .ref a :: r => ∃ v, P E.2.2.2.2.1 (.ref a :: (st.take n).reverse) v ∧ (st.take n).length = n ∧ own_cat r ≤ E.2.2.2.2.2.2 ∧ L.size = E.2.2.2.2.2.1 ∧ k nx L (v :: r)
      | _ => q
    | none => q
  | .getfield idx => match st with
    | .ref a :: r => match own_lookF E.2.2.1 idx with
      | some (b, v) => a = b ∧ k nx L (v :: r)
      | none => q
    | _ => q
  | .arraylength => match st with
    | .ref a :: r => match E.2.2.2.1 with
      | (b, n, _, _, _) :: _ => a = b ∧ k nx L (.int n :: r)
      | [] => q
    | _ => q
  | .laload => match st with
    | .int j :: .ref a :: r => match E.2.2.2.1 with
      | (b, n, ty, vs, d) :: _ => a = b ∧ ty = .long ∧ (¬ j < 0) ∧ j < n ∧ ∃ z, vs.getD j.toNatClampNeg d = .long z ∧ k nx L (.long z :: r)
      | [] => q
    | _ => q
  | .baload => match st with
    | .int j :: .ref a :: r => match E.2.2.2.1 with
      | (b, n, ty, vs, d) :: _ => a = b ∧ ty = .byte ∧ (¬ j < 0) ∧ j < n ∧ ∃ z, vs.getD j.toNatClampNeg d = .int z ∧ k nx L (.int z :: r)
      | [] => q
    | _ => q
  | i => match own_stp L st cv i with
    | some (L', st') => k nx L' st'
    | none => q
def own_in : List Nat → Nat → Bool
  | [], _ => false
  | a :: t, pc => bif Nat.beq a pc then true else own_in t pc
/-- the run, till a pc of 'stop' or where the table ends; Q: what is asked there -/
def own_wp (stop : List Nat) (tab : List own_Ent) (E : own_Env) (Q : Nat → Array Slot → List Value → Prop) : Nat → Nat → Array Slot → List Value → Prop
  | 0, _, _, _ => False
  | n + 1, pc, L, st => bif own_in stop pc then Q pc L st else match own_look tab pc with
    | none => Q pc L st
    | some (i, nx, tg, cv) => own_nxt E L st nx tg cv (own_wp stop tab E Q n) (Q pc L st) i
theorem own_nxt_mono {E : own_Env} {L : Array Slot} {st : List Value} {nx tg : Nat} {cv : Value} {k k' : Nat → Array Slot → List Value → Prop} {q q' : Prop} {i : Instr} (hk : ∀ pc L st, k pc L st → k' pc L st) (hq : q → q') (h : own_nxt E L st nx tg cv k q i) : own_nxt E L st nx tg cv k' q' i := by
  unfold own_nxt at h ⊢
  split at h
  · split at h
    · exact ⟨fun z => hk _ _ _ (h.1 z), fun z => hk _ _ _ (h.2 z)⟩
    · exact hq h
  · split at h
    · exact ⟨fun z => hk _ _ _ (h.1 z), fun z => hk _ _ _ (h.2 z)⟩
    · exact hq h
  · exact (hk _ _ _ h)
  · split at h
    · exact ⟨h.1, hk _ _ _ h.2⟩
    · exact hq h
  · split at h
    · exact ⟨h.1, hk _ _ _ h.2⟩
    · exact hq h
  · split at h
    · exact ⟨h.1, hk _ _ _ h.2⟩
    · exact hq h
  · split at h
    · exact ⟨h.1, hk _ _ _ h.2⟩
    · exact hq h
  · try dsimp only
    split at h
    · obtain ⟨v, h1, h2, h3, h4, h5⟩ := h
      exact ⟨v, h1, h2, h3, h4, hk _ _ _ h5⟩
    · exact hq h
  · try dsimp only
    split at h
    · split at h
      · obtain ⟨v, h1, h2, h3, h4, h5⟩ := h
        exact ⟨v, h1, h2, h3, h4, hk _ _ _ h5⟩
      · exact hq h
    · exact hq h
  · split at h
    · try dsimp only
      split at h
      · exact ⟨h.1, hk _ _ _ h.2⟩
      · exact hq h
    · exact hq h
  · split at h
    · try dsimp only
      split at h
      · exact ⟨h.1, hk _ _ _ h.2⟩
      · exact hq h
    · exact hq h
  · split at h
    · try dsimp only
      split at h
      · obtain ⟨h1, h2, h3, h4, z, h5, h6⟩ := h
        exact ⟨h1, h2, h3, h4, z, h5, hk _ _ _ h6⟩
      · exact hq h
    · exact hq h
  · split at h
    · try dsimp only
      split at h
      · obtain ⟨h1, h2, h3, h4, z, h5, h6⟩ := h
        exact ⟨h1, h2, h3, h4, z, h5, hk _ _ _ h6⟩
      · exact hq h
    · exact hq h
  · try dsimp only
    split at h
    · exact (hk _ _ _ h)
    · exact hq h
theorem own_nxt_or {E : own_Env} {L : Array Slot} {st : List Value} {nx tg : Nat} {cv : Value} {k k' : Nat → Array Slot → List Value → Prop} {q q' : Prop} {i : Instr} (hk : ∀ pc L st, k pc L st → k' pc L st) (h : own_nxt E L st nx tg cv k q i) : q ∨ own_nxt E L st nx tg cv k' q' i := by
  unfold own_nxt at h ⊢
  split at h
  · split at h
    · exact Or.inr ⟨fun z => hk _ _ _ (h.1 z), fun z => hk _ _ _ (h.2 z)⟩
    · exact Or.inl h
  · split at h
    · exact Or.inr ⟨fun z => hk _ _ _ (h.1 z), fun z => hk _ _ _ (h.2 z)⟩
    · exact Or.inl h
  · exact Or.inr (hk _ _ _ h)
  · split at h
    · exact Or.inr ⟨h.1, hk _ _ _ h.2⟩
    · exact Or.inl h
  · split at h
    · exact Or.inr ⟨h.1, hk _ _ _ h.2⟩
    · exact Or.inl h
  · split at h
    · exact Or.inr ⟨h.1, hk _ _ _ h.2⟩
    · exact Or.inl h
  · split at h
    · exact Or.inr ⟨h.1, hk _ _ _ h.2⟩
    · exact Or.inl h
  · try dsimp only
    split at h
    · obtain ⟨v, h1, h2, h3, h4, h5⟩ := h
      exact Or.inr ⟨v, h1, h2, h3, h4, hk _ _ _ h5⟩
    · exact Or.inl h
  · try dsimp only
    split at h
    · split at h
      · obtain ⟨v, h1, h2, h3, h4, h5⟩ := h
        exact Or.inr ⟨v, h1, h2, h3, h4, hk _ _ _ h5⟩
      · exact Or.inl h
    · exact Or.inl h
  · split at h
    · try dsimp only
      split at h
      · exact Or.inr ⟨h.1, hk _ _ _ h.2⟩
      · exact Or.inl h
    · exact Or.inl h
  · split at h
    · try dsimp only
      split at h
      · exact Or.inr ⟨h.1, hk _ _ _ h.2⟩
      · exact Or.inl h
    · exact Or.inl h
  · split at h
    · try dsimp only
      split at h
      · obtain ⟨h1, h2, h3, h4, z, h5, h6⟩ := h
        exact Or.inr ⟨h1, h2, h3, h4, z, h5, hk _ _ _ h6⟩
      · exact Or.inl h
    · exact Or.inl h
  · split at h
    · try dsimp only
      split at h
      · obtain ⟨h1, h2, h3, h4, z, h5, h6⟩ := h
        exact Or.inr ⟨h1, h2, h3, h4, z, h5, hk _ _ _ h6⟩
      · exact Or.inl h
    · exact Or.inl h
  · try dsimp only
    split at h
    · exact Or.inr (hk _ _ _ h)
    · exact Or.inl h
theorem own_wp_mono {stop : List Nat} {tab : List own_Ent} {E : own_Env} {Q : Nat → Array Slot → List Value → Prop} : ∀ (n : Nat) {pc : Nat} {L : Array Slot} {st : List Value}, own_wp stop tab E Q n pc L st → own_wp stop tab E Q (n + 1) pc L st
  | 0, _, _, _, h => h.elim
  | n + 1, pc, L, st, h => by
    unfold own_wp at h ⊢
    cases hs : own_in stop pc with
    | true => simpa only [hs, cond_true] using h
    | false =>
      simp only [hs, cond_false] at h ⊢
      cases hl : own_look tab pc with
      | none => simpa only [hl] using h
      | some r => simp only [hl] at h ⊢; exact own_nxt_mono (fun _ _ _ z => own_wp_mono n z) (fun z => z) h
theorem own_wp_more {stop : List Nat} {tab : List own_Ent} {E : own_Env} {Q : Nat → Array Slot → List Value → Prop} {n : Nat} {pc : Nat} {L : Array Slot} {st : List Value} (h : own_wp stop tab E Q n pc L st) : ∀ k, own_wp stop tab E Q (k + n) pc L st
  | 0 => by rw [Nat.zero_add]; exact h
  | k + 1 => by rw [Nat.add_right_comm]; exact own_wp_mono _ (own_wp_more h k)
/-- two runs, one behind the other -/
theorem own_join {stop : List Nat} {tab : List own_Ent} {E : own_Env} {Q : Nat → Array Slot → List Value → Prop} {n2 : Nat} : ∀ {n1 : Nat} {pc : Nat} {L : Array Slot} {st : List Value}, own_wp stop tab E (fun pc L st => True ∧ own_wp [] tab E Q n2 pc L st) n1 pc L st → own_wp [] tab E Q (n1 + n2) pc L st
  | 0, _, _, _, h => h.elim
  | n + 1, pc, L, st, h => by
    have e : n + 1 + n2 = n + n2 + 1 := by omega
    unfold own_wp at h
    cases hs : own_in stop pc with
    | true => simp only [hs, cond_true] at h; exact own_wp_more h.2 _
    | false =>
      simp only [hs, cond_false] at h
      cases hl : own_look tab pc with
      | none => simp only [hl] at h; exact own_wp_more h.2 _
      | some r =>
        simp only [hl] at h
        rw [e]
        unfold own_wp
        simp only [own_in, cond_false, hl]
        rcases own_nxt_or (q' := Q pc L st) (fun _ _ _ z => own_join (n1 := n) z) h with z | z
        · have z2 := own_wp_more z.2 (n + 1)
          rw [e] at z2
          unfold own_wp at z2
          simpa only [own_in, cond_false, hl] using z2
        · exact z
theorem own_inb {cl : Cell} {n j : Int32} (S : cl.slots.size = n.toNatClampNeg) (h0 : ¬ j < 0) (hn : j < n) : ¬ (j < 0 ∨ cl.slots.size ≤ j.toNatClampNeg) := by
  rw [S]
  simp only [Int32.lt_iff_toInt_lt, Int32.toNatClampNeg, Int32.reduceToInt] at h0 hn ⊢
  omega
section own_Sound
variable {p : Program} {l : Launch} {e : Env} {R : Room} {s : State} {m : MethodId} {args : Array Value} {below : List Frame} {meth : Method} {c : Code} {locs : List Loc} {cells slots : Nat} {Z : State} {a0 : Array Value}
theorem own_stp_sound {T : State} (X : Stand p l e R s m args below meth c T locs cells slots) (hx : p.tables.exec = Jvm.exec) {code : ByteArray} (hby : c.code = code) (hZ : Z.Warmed39 s.vm) {own : String} (hown : s.vm.findClass own = some m.cls) {ws : List Jvm.Cond} (hw : ∀ d ∈ ws, d.before a0 Z = true)
    {pc nx tg : Nat} {cv : Value} {L L' : Array Slot} {st st' : List Value} {i : Instr} {t : State} (he : own_ok code own ws (pc, i, nx, tg, cv) = true) (h : own_stp L st cv i = some (L', st')) (k : Steps p.tables e below (T.setTop (mkF m nx L' st')) t) : Steps p.tables e below (T.setTop (mkF m pc L st)) t := by
  cases i
  all_goals try (simp [own_stp] at h; done)
  all_goals
    simp only [own_ok, Bool.and_eq_true, decide_eq_true_eq] at he
    simp only [own_len, own_cv, decide_eq_true_eq, and_true] at he
  case iconst z =>
    obtain ⟨⟨hd, rfl⟩, rfl⟩ := he
    simp only [own_stp, Option.some.injEq, Prod.mk.injEq] at h
    obtain ⟨rfl, rfl⟩ := h
    exact XS.iconst X.here hx rfl (hb hby hd) k
  case bipush z =>
    obtain ⟨⟨hd, rfl⟩, rfl⟩ := he
    simp only [own_stp, Option.some.injEq, Prod.mk.injEq] at h
    obtain ⟨rfl, rfl⟩ := h
    exact XS.bipush X.here hx rfl (hb hby hd) k
  case sipush z =>
    obtain ⟨⟨hd, rfl⟩, rfl⟩ := he
    simp only [own_stp, Option.some.injEq, Prod.mk.injEq] at h
    obtain ⟨rfl, rfl⟩ := h
    exact XS.sipush X.here hx rfl (hb hby hd) k
  case lconst z =>
    obtain ⟨⟨hd, rfl⟩, rfl⟩ := he
    simp only [own_stp, Option.some.injEq, Prod.mk.injEq] at h
    obtain ⟨rfl, rfl⟩ := h
    exact XT.lconst X.here hx rfl (hb hby hd) k
  case ldc idx =>
    obtain ⟨⟨hd, rfl⟩, hc⟩ := he
    simp only [own_stp, Option.some.injEq, Prod.mk.injEq] at h
    obtain ⟨rfl, rfl⟩ := h
    cases cv <;> first | (simp at hc; done) | skip
    exact X.ldcInt hx hown (mvT hZ (hw _ (List.contains_iff_mem.mp hc))) (g := mkF m pc L st) rfl (hb hby hd) _ k
  case ldc2_w idx =>
    obtain ⟨⟨hd, rfl⟩, hc⟩ := he
    simp only [own_stp, Option.some.injEq, Prod.mk.injEq] at h
    obtain ⟨rfl, rfl⟩ := h
    cases cv <;> first | (simp at hc; done) | skip
    exact X.ldc2Long hx hown (mvT hZ (hw _ (List.contains_iff_mem.mp hc))) (g := mkF m pc L st) rfl (hb hby hd) _ k
  case iload z =>
    obtain ⟨hd, rfl⟩ := he
    simp only [own_stp, own_ldI] at h
    split at h
    · rename_i v hl
      simp only [Option.some.injEq, Prod.mk.injEq] at h
      obtain ⟨rfl, rfl⟩ := h
      exact XS.iload X.here hx rfl (hb hby hd) hl k
    · cases h
  case iload_n z =>
    obtain ⟨hd, rfl⟩ := he
    simp only [own_stp, own_ldI] at h
    split at h
    · rename_i v hl
      simp only [Option.some.injEq, Prod.mk.injEq] at h
      obtain ⟨rfl, rfl⟩ := h
      exact XS.iloadN X.here hx rfl (hb hby hd) hl k
    · cases h
  case lload z =>
    obtain ⟨hd, rfl⟩ := he
    simp only [own_stp, own_ldJ] at h
    split at h
    · rename_i v hl
      simp only [Option.some.injEq, Prod.mk.injEq] at h
      obtain ⟨rfl, rfl⟩ := h
      exact XT.lload X.here hx rfl (hb hby hd) hl k
    · cases h
  case lload_n z =>
    obtain ⟨hd, rfl⟩ := he
    simp only [own_stp, own_ldJ] at h
    split at h
    · rename_i v hl
      simp only [Option.some.injEq, Prod.mk.injEq] at h
      obtain ⟨rfl, rfl⟩ := h
      exact XT.lloadN X.here hx rfl (hb hby hd) hl k
    · cases h
  case aload z =>
    obtain ⟨hd, rfl⟩ := he
    simp only [own_stp, own_ldA] at h
    split at h
    · rename_i v hl
      simp only [Option.some.injEq, Prod.mk.injEq] at h
      obtain ⟨rfl, rfl⟩ := h
      exact XS.aload X.here hx rfl (hb hby hd) hl rfl k
    · cases h
  case aload_n z =>
    obtain ⟨hd, rfl⟩ := he
    simp only [own_stp, own_ldA] at h
    split at h
    · rename_i v hl
      simp only [Option.some.injEq, Prod.mk.injEq] at h
      obtain ⟨rfl, rfl⟩ := h
      exact XS.aloadN X.here hx rfl (hb hby hd) hl rfl k
    · cases h
  case istore z =>
    obtain ⟨hd, rfl⟩ := he
    simp only [own_stp, own_stI] at h
    split at h
    · rename_i v r
      simp only [own_put] at h
      split at h
      · rename_i l' hl
        simp only [Option.some.injEq, Prod.mk.injEq] at h
        obtain ⟨rfl, rfl⟩ := h
        exact XS.istore X.here hx rfl (hb hby hd) rfl hl k
      · cases h
    · cases h
  case istore_n z =>
    obtain ⟨hd, rfl⟩ := he
    simp only [own_stp, own_stI] at h
    split at h
    · rename_i v r
      simp only [own_put] at h
      split at h
      · rename_i l' hl
        simp only [Option.some.injEq, Prod.mk.injEq] at h
        obtain ⟨rfl, rfl⟩ := h
        exact XS.istoreN X.here hx rfl (hb hby hd) rfl hl k
      · cases h
    · cases h
  case lstore z =>
    obtain ⟨hd, rfl⟩ := he
    simp only [own_stp, own_stJ] at h
    split at h
    · rename_i v r
      simp only [own_put] at h
      split at h
      · rename_i l' hl
        simp only [Option.some.injEq, Prod.mk.injEq] at h
        obtain ⟨rfl, rfl⟩ := h
        exact XT.lstore X.here hx rfl (hb hby hd) rfl hl k
      · cases h
    · cases h
  case lstore_n z =>
    obtain ⟨hd, rfl⟩ := he
    simp only [own_stp, own_stJ] at h
    split at h
    · rename_i v r
      simp only [own_put] at h
      split at h
      · rename_i l' hl
        simp only [Option.some.injEq, Prod.mk.injEq] at h
        obtain ⟨rfl, rfl⟩ := h
        exact XT.lstoreN X.here hx rfl (hb hby hd) rfl hl k
      · cases h
    · cases h
  case astore z =>
    obtain ⟨hd, rfl⟩ := he
    simp only [own_stp, own_stA] at h
    split at h
    · rename_i v r
      simp only [own_put] at h
      split at h
      · rename_i l' hl
        simp only [Option.some.injEq, Prod.mk.injEq] at h
        obtain ⟨rfl, rfl⟩ := h
        exact XS.astore X.here hx rfl (hb hby hd) rfl rfl hl k
      · cases h
    · cases h
  case astore_n z =>
    obtain ⟨hd, rfl⟩ := he
    simp only [own_stp, own_stA] at h
    split at h
    · rename_i v r
      simp only [own_put] at h
      split at h
      · rename_i l' hl
        simp only [Option.some.injEq, Prod.mk.injEq] at h
        obtain ⟨rfl, rfl⟩ := h
        exact XS.astoreN X.here hx rfl (hb hby hd) rfl rfl hl k
      · cases h
    · cases h
  case iadd =>
    obtain ⟨hd, rfl⟩ := he
    simp only [own_stp, own_bI] at h
    split at h
    · simp only [Option.some.injEq, Prod.mk.injEq] at h
      obtain ⟨rfl, rfl⟩ := h
      exact XS.iadd X.here hx rfl (hb hby hd) rfl k
    · cases h
  case isub =>
    obtain ⟨hd, rfl⟩ := he
    simp only [own_stp, own_bI] at h
    split at h
    · simp only [Option.some.injEq, Prod.mk.injEq] at h
      obtain ⟨rfl, rfl⟩ := h
      exact XS.isub X.here hx rfl (hb hby hd) rfl k
    · cases h
  case imul =>
    obtain ⟨hd, rfl⟩ := he
    simp only [own_stp, own_bI] at h
    split at h
    · simp only [Option.some.injEq, Prod.mk.injEq] at h
      obtain ⟨rfl, rfl⟩ := h
      exact XS.imul X.here hx rfl (hb hby hd) rfl k
    · cases h
  case iand =>
    obtain ⟨hd, rfl⟩ := he
    simp only [own_stp, own_bI] at h
    split at h
    · simp only [Option.some.injEq, Prod.mk.injEq] at h
      obtain ⟨rfl, rfl⟩ := h
      exact XS.iand X.here hx rfl (hb hby hd) rfl k
    · cases h
  case ior =>
    obtain ⟨hd, rfl⟩ := he
    simp only [own_stp, own_bI] at h
    split at h
    · simp only [Option.some.injEq, Prod.mk.injEq] at h
      obtain ⟨rfl, rfl⟩ := h
      exact XT.ior X.here hx rfl (hb hby hd) rfl k
    · cases h
  case ixor =>
    obtain ⟨hd, rfl⟩ := he
    simp only [own_stp, own_bI] at h
    split at h
    · simp only [Option.some.injEq, Prod.mk.injEq] at h
      obtain ⟨rfl, rfl⟩ := h
      exact XT.ixor X.here hx rfl (hb hby hd) rfl k
    · cases h
  case ishl =>
    obtain ⟨hd, rfl⟩ := he
    simp only [own_stp, own_bI] at h
    split at h
    · simp only [Option.some.injEq, Prod.mk.injEq] at h
      obtain ⟨rfl, rfl⟩ := h
      exact XT.ishl X.here hx rfl (hb hby hd) rfl k
    · cases h
  case ishr =>
    obtain ⟨hd, rfl⟩ := he
    simp only [own_stp, own_bI] at h
    split at h
    · simp only [Option.some.injEq, Prod.mk.injEq] at h
      obtain ⟨rfl, rfl⟩ := h
      exact XT.ishr X.here hx rfl (hb hby hd) rfl k
    · cases h
  case iushr =>
    obtain ⟨hd, rfl⟩ := he
    simp only [own_stp, own_bI] at h
    split at h
    · simp only [Option.some.injEq, Prod.mk.injEq] at h
      obtain ⟨rfl, rfl⟩ := h
      exact XT.iushr X.here hx rfl (hb hby hd) rfl k
    · cases h
  case ladd =>
    obtain ⟨hd, rfl⟩ := he
    simp only [own_stp, own_bJ] at h
    split at h
    · simp only [Option.some.injEq, Prod.mk.injEq] at h
      obtain ⟨rfl, rfl⟩ := h
      exact XT.ladd X.here hx rfl (hb hby hd) rfl k
    · cases h
  case lsub =>
    obtain ⟨hd, rfl⟩ := he
    simp only [own_stp, own_bJ] at h
    split at h
    · simp only [Option.some.injEq, Prod.mk.injEq] at h
      obtain ⟨rfl, rfl⟩ := h
      exact XT.lsub X.here hx rfl (hb hby hd) rfl k
    · cases h
  case lmul =>
    obtain ⟨hd, rfl⟩ := he
    simp only [own_stp, own_bJ] at h
    split at h
    · simp only [Option.some.injEq, Prod.mk.injEq] at h
      obtain ⟨rfl, rfl⟩ := h
      exact XT.lmul X.here hx rfl (hb hby hd) rfl k
    · cases h
  case land =>
    obtain ⟨hd, rfl⟩ := he
    simp only [own_stp, own_bJ] at h
    split at h
    · simp only [Option.some.injEq, Prod.mk.injEq] at h
      obtain ⟨rfl, rfl⟩ := h
      exact XT.land X.here hx rfl (hb hby hd) rfl k
    · cases h
  case lor =>
    obtain ⟨hd, rfl⟩ := he
    simp only [own_stp, own_bJ] at h
    split at h
    · simp only [Option.some.injEq, Prod.mk.injEq] at h
      obtain ⟨rfl, rfl⟩ := h
      exact XT.lor X.here hx rfl (hb hby hd) rfl k
    · cases h
  case lxor =>
    obtain ⟨hd, rfl⟩ := he
    simp only [own_stp, own_bJ] at h
    split at h
    · simp only [Option.some.injEq, Prod.mk.injEq] at h
      obtain ⟨rfl, rfl⟩ := h
      exact XT.lxor X.here hx rfl (hb hby hd) rfl k
    · cases h
  case lshl =>
    obtain ⟨hd, rfl⟩ := he
    simp only [own_stp, own_sJ] at h
    split at h
    · simp only [Option.some.injEq, Prod.mk.injEq] at h
      obtain ⟨rfl, rfl⟩ := h
      exact XT.lshl X.here hx rfl (hb hby hd) rfl k
    · cases h
  case lshr =>
    obtain ⟨hd, rfl⟩ := he
    simp only [own_stp, own_sJ] at h
    split at h
    · simp only [Option.some.injEq, Prod.mk.injEq] at h
      obtain ⟨rfl, rfl⟩ := h
      exact XT.lshr X.here hx rfl (hb hby hd) rfl k
    · cases h
  case lushr =>
    obtain ⟨hd, rfl⟩ := he
    simp only [own_stp, own_sJ] at h
    split at h
    · simp only [Option.some.injEq, Prod.mk.injEq] at h
      obtain ⟨rfl, rfl⟩ := h
      exact XT.lushr X.here hx rfl (hb hby hd) rfl k
    · cases h
  case i2b =>
    obtain ⟨hd, rfl⟩ := he
    simp only [own_stp, own_uI] at h
    split at h
    · simp only [Option.some.injEq, Prod.mk.injEq] at h
      obtain ⟨rfl, rfl⟩ := h
      exact XT.i2b X.here hx rfl (hb hby hd) rfl k
    · cases h
  case i2c =>
    obtain ⟨hd, rfl⟩ := he
    simp only [own_stp, own_uI] at h
    split at h
    · simp only [Option.some.injEq, Prod.mk.injEq] at h
      obtain ⟨rfl, rfl⟩ := h
      exact XT.i2c X.here hx rfl (hb hby hd) rfl k
    · cases h
  case i2s =>
    obtain ⟨hd, rfl⟩ := he
    simp only [own_stp, own_uI] at h
    split at h
    · simp only [Option.some.injEq, Prod.mk.injEq] at h
      obtain ⟨rfl, rfl⟩ := h
      exact XT.i2s X.here hx rfl (hb hby hd) rfl k
    · cases h
  case i2l =>
    obtain ⟨hd, rfl⟩ := he
    simp only [own_stp, own_uI] at h
    split at h
    · simp only [Option.some.injEq, Prod.mk.injEq] at h
      obtain ⟨rfl, rfl⟩ := h
      exact XT.i2l X.here hx rfl (hb hby hd) rfl k
    · cases h
  case l2i =>
    obtain ⟨hd, rfl⟩ := he
    simp only [own_stp, own_uI] at h
    split at h
    · simp only [Option.some.injEq, Prod.mk.injEq] at h
      obtain ⟨rfl, rfl⟩ := h
      exact XT.l2i X.here hx rfl (hb hby hd) rfl k
    · cases h
  case lneg =>
    obtain ⟨hd, rfl⟩ := he
    simp only [own_stp, own_uI] at h
    split at h
    · simp only [Option.some.injEq, Prod.mk.injEq] at h
      obtain ⟨rfl, rfl⟩ := h
      exact XT.lneg X.here hx rfl (hb hby hd) rfl k
    · cases h
  case lcmp =>
    obtain ⟨hd, rfl⟩ := he
    simp only [own_stp, own_uI] at h
    split at h
    · simp only [Option.some.injEq, Prod.mk.injEq] at h
      obtain ⟨rfl, rfl⟩ := h
      exact XT.lcmp X.here hx rfl (hb hby hd) rfl k
    · cases h
  case iinc z q =>
    obtain ⟨hd, rfl⟩ := he
    simp only [own_stp] at h
    split at h
    · rename_i v hl
      simp only [own_put] at h
      split at h
      · rename_i l' hl'
        simp only [Option.some.injEq, Prod.mk.injEq] at h
        obtain ⟨rfl, rfl⟩ := h
        exact XS.iinc X.here hx rfl (hb hby hd) hl hl' k
      · cases h
    · cases h
  case dup =>
    obtain ⟨hd, rfl⟩ := he
    simp only [own_stp] at h
    split at h
    · simp only [Option.some.injEq, Prod.mk.injEq] at h
      obtain ⟨rfl, rfl⟩ := h
      exact XS.dup X.here hx rfl (hb hby hd) rfl rfl k
    · cases h
/-- a reading method's contract: where P says so of the heap, the arguments and v it returns v, keeps the heap, makes nothing -/
def own_Pure (l : Launch) (Z : State) (y : MethodName) (bytes : ByteArray) (maxL : Nat) (ret : Option FieldType) (rm : Room) (P : Heap → List Value → Value → Prop) : Prop :=
  ∀ (ws : List Jvm.Cond) (h0 : Heap) (as : List Value) (w : Value), P h0 as w → MetFree l y (head1 (Jvm.Cond.code y bytes maxL ret :: ws) rm) (fun a U => a = as.toArray ∧ Z.Warmed39 U.vm ∧ U.heap = h0) (fun _ _ _ _ _ => True)
    (fun _ U o U' => ∃ v L, o = .returned v ∧ (v = some w ∧ L = [] ∧ U'.heap = h0) ∧ FrameEnd U o U' L rm.cells rm.slots)
/-- a static call of the table 'own' at entry q.1 -/
def own_CallOk (l : Launch) (Z : State) (a0 : Array Value) (own : String) (R : Room) (W : Nat) (q : own_Call) : Prop :=
  ∃ (y : MethodName) (bytes : ByteArray) (maxL : Nat) (ret : Option FieldType) (rm : Room), own_Pure l Z y bytes maxL ret rm q.2.2 ∧ (Jvm.Cond.methodLink own q.1 y).before a0 Z = true ∧ (Jvm.Cond.static y).before a0 Z = true ∧ (Jvm.Cond.initialized y.cls).before a0 Z = true ∧ (Jvm.Cond.code y bytes maxL ret).before a0 Z = true ∧
    (y.cls ≠ "java/lang/invoke/MethodHandle" ∧ y.cls ≠ "java/lang/invoke/VarHandle") ∧ (∃ ps r, parseMethodDescriptor y.desc = some ⟨ps, r⟩ ∧ q.2.1 = ps.length) ∧ rm.cells = 0 ∧ rm.slots = 0 ∧ rm.frames + 1 ≤ R.frames ∧ W + (maxL + 11) + rm.locals ≤ R.locals
/-- a virtual call on an object of the class y.cls itself -/
def own_VirtOk (l : Launch) (Z : State) (a0 : Array Value) (own : String) (R : Room) (W : Nat) (q : own_Call) : Prop :=
  ∃ (y : MethodName) (bytes : ByteArray) (maxL : Nat) (ret : Option FieldType) (rm : Room), own_Pure l Z y bytes maxL ret rm q.2.2 ∧ (∀ h a as w, q.2.2 h (.ref a :: as) w → Exa Z h a y.cls) ∧ (Jvm.Cond.methodLink own q.1 y).before a0 Z = true ∧ (Jvm.Cond.declares y).before a0 Z = true ∧ (Jvm.Cond.selects y.cls y y).before a0 Z = true ∧ (Jvm.Cond.instanceMethod y).before a0 Z = true ∧ (Jvm.Cond.initialized y.cls).before a0 Z = true ∧ (Jvm.Cond.code y bytes maxL ret).before a0 Z = true ∧
    (y.cls ≠ "java/lang/invoke/MethodHandle" ∧ y.cls ≠ "java/lang/invoke/VarHandle") ∧ (∃ ps r, parseMethodDescriptor y.desc = some ⟨ps, r⟩ ∧ q.2.1 = ps.length) ∧ rm.cells = 0 ∧ rm.slots = 0 ∧ rm.frames + 1 ≤ R.frames ∧ W + (maxL + 11) + rm.locals ≤ R.locals
def own_FldOk (Z : State) (a0 : Array Value) (own : String) (h : Heap) (q : own_Fld) : Prop :=
  ∃ R0 O n d, (Jvm.Cond.fieldLink own q.1 R0 n d).before a0 Z = true ∧ Via Z R0 O n d ∧ Fld Z h q.2.1 O n d q.2.2
def own_ArrOk (Z : State) (h : Heap) (q : own_Arr) : Prop := ∃ k, Arv Z h q.1 k q.2.2.1 q.2.1 q.2.2.2.1 q.2.2.2.2
def own_EnvOk (l : Launch) (Z : State) (a0 : Array Value) (own : String) (R : Room) (E : own_Env) : Prop :=
  (∀ q ∈ E.1, own_CallOk l Z a0 own R E.2.2.2.2.2.2 q) ∧ (∀ q ∈ E.2.1, own_VirtOk l Z a0 own R E.2.2.2.2.2.2 q) ∧ (∀ q ∈ E.2.2.1, own_FldOk Z a0 own E.2.2.2.2.1 q) ∧ (∀ q ∈ E.2.2.2.1, own_ArrOk Z E.2.2.2.2.1 q)
theorem own_wp_sound (hx : p.tables.exec = Jvm.exec) {code : ByteArray} (hby : c.code = code) (hZ : Z.Warmed39 s.vm) {own : String} (hown : s.vm.findClass own = some m.cls) {ws : List Jvm.Cond} (hw : ∀ d ∈ ws, d.before a0 Z = true)
    {tab : List own_Ent} (hT : tab.all (own_ok code own ws) = true) {E : own_Env} (hml : c.maxLocals = E.2.2.2.2.2.1) (hE : own_EnvOk l Z a0 own R E) (hcl : cells ≤ R.cells) (hsl : slots ≤ R.slots) {stop : List Nat} {Q : Nat → Array Slot → List Value → Prop} :
    ∀ (n pc : Nat) (L : Array Slot) (st : List Value) {T : State}, Stand p l e R s m args below meth c T locs cells slots → T.heap = E.2.2.2.2.1 → own_wp stop tab E Q n pc L st →
      ∃ T' pc' L' st', Stand p l e R s m args below meth c T' locs cells slots ∧ T'.heap = E.2.2.2.2.1 ∧ Q pc' L' st' ∧ ∀ t, Steps p.tables e below (T'.setTop (mkF m pc' L' st')) t → Steps p.tables e below (T.setTop (mkF m pc L st)) t := by
  obtain ⟨hC, hV, hF, hA⟩ := hE
  intro n
  induction n with
  | zero => intro pc L st T X eT h; exact h.elim
  | succ n ih =>
    intro pc L st T X eT h
    have stay : Q pc L st → ∃ T' pc' L' st', Stand p l e R s m args below meth c T' locs cells slots ∧ T'.heap = E.2.2.2.2.1 ∧ Q pc' L' st' ∧ ∀ t, Steps p.tables e below (T'.setTop (mkF m pc' L' st')) t → Steps p.tables e below (T.setTop (mkF m pc L st)) t := fun h => ⟨T, pc, L, st, X, eT, h, fun _ k => k⟩
    have go : ∀ {pc1 : Nat} {L1 : Array Slot} {st1 : List Value} {T1 : State}, Stand p l e R s m args below meth c T1 locs cells slots → T1.heap = E.2.2.2.2.1 → own_wp stop tab E Q n pc1 L1 st1 → (∀ t, Steps p.tables e below (T1.setTop (mkF m pc1 L1 st1)) t → Steps p.tables e below (T.setTop (mkF m pc L st)) t) →
        ∃ T' pc' L' st', Stand p l e R s m args below meth c T' locs cells slots ∧ T'.heap = E.2.2.2.2.1 ∧ Q pc' L' st' ∧ ∀ t, Steps p.tables e below (T'.setTop (mkF m pc' L' st')) t → Steps p.tables e below (T.setTop (mkF m pc L st)) t := by
      intro pc1 L1 st1 T1 X1 e1 h1 k1
      obtain ⟨T', pc', L', st', X', e', q', k'⟩ := ih pc1 L1 st1 X1 e1 h1
      exact ⟨T', pc', L', st', X', e', q', fun t k => k1 t (k' t k)⟩
    unfold own_wp at h
    cases hs : own_in stop pc with
    | true => rw [hs] at h; exact stay h
    | false =>
    rw [hs] at h
    simp only [cond_false] at h
    cases hl : own_look tab pc with
    | none => rw [hl] at h; exact stay h
    | some r =>
      obtain ⟨i, nx, tg, cv⟩ := r
      rw [hl] at h
      have he : own_ok code own ws (pc, i, nx, tg, cv) = true := List.all_eq_true.mp hT _ (own_look_mem hl)
      dsimp only at h
      unfold own_nxt at h
      split at h
      · rename_i cd o
        simp only [own_ok, Bool.and_eq_true, decide_eq_true_eq] at he
        obtain ⟨⟨⟨hd, ho⟩, ht⟩, rfl⟩ := he
        split at h
        · rename_i y x r
          by_cases hc : own_icmp cd x y
          · exact go X eT (h.1 hc) (fun t k => XS.icmpYes X.here hx rfl (pc0 := pc) rfl (hb hby hd) rfl (own_icmp_iff.mpr hc) ho ht k)
          · exact go X eT (h.2 hc) (fun t k => XS.icmpNo X.here hx rfl (hb hby hd) rfl (by simpa using mt own_icmp_iff.mp hc) k)
        · exact stay h
      · rename_i cd o
        simp only [own_ok, Bool.and_eq_true, decide_eq_true_eq] at he
        obtain ⟨⟨⟨hd, ho⟩, ht⟩, rfl⟩ := he
        split at h
        · rename_i x r
          by_cases hc : own_icmp cd x 0
          · exact go X eT (h.1 hc) (fun t k => XS.ifYes X.here hx rfl (pc0 := pc) rfl (hb hby hd) rfl (own_if_iff.mpr hc) ho ht k)
          · exact go X eT (h.2 hc) (fun t k => XS.ifNo X.here hx rfl (hb hby hd) rfl (by simpa using mt own_if_iff.mp hc) k)
        · exact stay h
      · rename_i o
        simp only [own_ok, Bool.and_eq_true, decide_eq_true_eq] at he
        obtain ⟨⟨hd, ho⟩, ht⟩ := he
        exact go X eT h (fun t k => XS.goto X.here hx rfl (pc0 := pc) rfl (hb hby hd) ho ht k)
      · simp only [own_ok, Bool.and_eq_true, decide_eq_true_eq] at he
        simp only [own_len, own_cv, decide_eq_true_eq, and_true] at he
        obtain ⟨hd, rfl⟩ := he
        split at h
        · exact go X eT h.2 (fun t k => iremM X hx (g := mkF m pc L _) rfl (hb hby hd) rfl h.1 k)
        · exact stay h
      · simp only [own_ok, Bool.and_eq_true, decide_eq_true_eq] at he
        simp only [own_len, own_cv, decide_eq_true_eq, and_true] at he
        obtain ⟨hd, rfl⟩ := he
        split at h
        · exact go X eT h.2 (fun t k => XS.idiv X.here hx rfl (hb hby hd) rfl h.1 k)
        · exact stay h
      · simp only [own_ok, Bool.and_eq_true, decide_eq_true_eq] at he
        simp only [own_len, own_cv, decide_eq_true_eq, and_true] at he
        obtain ⟨hd, rfl⟩ := he
        split at h
        · exact go X eT h.2 (fun t k => XT.lrem X.here hx rfl (hb hby hd) rfl h.1 k)
        · exact stay h
      · simp only [own_ok, Bool.and_eq_true, decide_eq_true_eq] at he
        simp only [own_len, own_cv, decide_eq_true_eq, and_true] at he
        obtain ⟨hd, rfl⟩ := he
        split at h
        · exact go X eT h.2 (fun t k => XT.ldiv X.here hx rfl (hb hby hd) rfl h.1 k)
        · exact stay h
      · rename_i idx
        simp only [own_ok, Bool.and_eq_true, decide_eq_true_eq] at he
        simp only [own_len, own_cv, decide_eq_true_eq, and_true] at he
        obtain ⟨hd, rfl⟩ := he
        split at h
        · rename_i n' P hC'
          obtain ⟨w, hP, hlen, hcat, hsz, h⟩ := h
          obtain ⟨y, bytes, maxL, ret, rm, hM, w1, w2, w3, w4, hy, ⟨ps, rr, hsig, hpl⟩, hrc, hrs, hf, hlo⟩ := hC _ (own_lookC_mem hC')
          dsimp only at hM hpl
          obtain ⟨v, vm₁, ⟨T2, L2, k2, n2⟩, -, X2, ⟨Lc, hQ, l2, y2, z2⟩, st2⟩ := Jvm.LawKit.callS X hx (y := y) hown (mvT hZ w1) (mvT hZ w2) (mvT hZ w3) (mvT hZ w4) hy
            (backOf (W := E.2.2.2.2.2.2) (Q := fun v h L => v = some w ∧ L = [] ∧ h = E.2.2.2.2.1) (hM [] E.2.2.2.2.1 (st.take n').reverse w hP) hZ w4 w3 hf hlo) (g := mkF m pc L st) rfl (by rw [hml]; exact hsz) (argsL := (st.take n').reverse) (rest := st.drop n')
            (lenOf hsig (by rw [List.length_reverse, hlen]; exact hpl)) (by simp) (by show 2 * 0 + own_cat _ ≤ _; omega) (hb hby hd) (fun _ _ => ⟨rfl, eT, by rw [hrc]; exact hcl, by rw [hrs]; exact hsl⟩)
          dsimp only [Pt.U, Pt.locs, Pt.cells, Pt.slots] at X2 l2 y2 z2 st2 hQ
          subst l2 y2 z2
          obtain ⟨rfl, rfl, hh⟩ := hQ
          rw [hrc, hrs] at X2
          simp only [List.append_nil, Nat.add_zero] at X2
          exact go X2 hh h (fun t k => st2 t k)
        · exact stay h
      · rename_i idx
        simp only [own_ok, Bool.and_eq_true, decide_eq_true_eq] at he
        simp only [own_len, own_cv, decide_eq_true_eq, and_true] at he
        obtain ⟨hd, rfl⟩ := he
        split at h
        · rename_i n' P hC'
          split at h
          · rename_i a r hdrop
            obtain ⟨w, hP, hlen, hcat, hsz, h⟩ := h
            obtain ⟨y, bytes, maxL, ret, rm, hM, hEx, w1, w2, w5, w6, w3, w4, hy, ⟨ps, rr, hsig, hpl⟩, hrc, hrs, hf, hlo⟩ := hV _ (own_lookC_mem hC')
            dsimp only at hM hpl hEx
            obtain ⟨cq, kq, qa, qb, qc⟩ := isOf hZ eT (hEx _ _ _ _ hP)
            obtain ⟨v, vm₁, ⟨T2, L2, k2, n2⟩, -, X2, ⟨Lc, hQ, l2, y2, z2⟩, st2⟩ := X.virtualBack hx (y := y) (z := y) hown (mvT hZ w1) (mvT hZ w2) (notFace_of_selects (args := #[]) (mvT hZ w5)) (mvT hZ w5) (mvT hZ w6) hy
              (backOf (W := E.2.2.2.2.2.2) (Q := fun v h L => v = some w ∧ L = [] ∧ h = E.2.2.2.2.1) (hM [] E.2.2.2.2.1 (.ref a :: (st.take n').reverse) w hP) hZ w4 w3 hf hlo) qa qc (g := mkF m pc L st) rfl (by rw [hml]; exact hsz) (Steps.refl _) (argsL := (st.take n').reverse) (rest := r)
              (lenOf hsig (by rw [List.length_reverse, hlen]; exact hpl)) (by show st = _; rw [List.reverse_reverse, ← hdrop, List.take_append_drop]) (by show 2 * 0 + own_cat _ ≤ _; omega) (hb hby hd) (fun _ _ => ⟨rfl, eT, by rw [hrc]; exact hcl, by rw [hrs]; exact hsl⟩)
            dsimp only [Pt.U, Pt.locs, Pt.cells, Pt.slots] at X2 l2 y2 z2 st2 hQ
            subst l2 y2 z2
            obtain ⟨rfl, rfl, hh⟩ := hQ
            rw [hrc, hrs] at X2
            simp only [List.append_nil, Nat.add_zero] at X2
            exact go X2 hh h (fun t k => st2.trans k)
          · exact stay h
        · exact stay h
      · rename_i idx
        simp only [own_ok, Bool.and_eq_true, decide_eq_true_eq] at he
        simp only [own_len, own_cv, decide_eq_true_eq, and_true] at he
        obtain ⟨hd, rfl⟩ := he
        split at h
        · rename_i a r
          split at h
          · rename_i b v hF'
            obtain ⟨rfl, h⟩ := h
            obtain ⟨R0, O, nn, dd, w1, via, F1⟩ := hF _ (own_lookF_mem hF')
            obtain ⟨T2, X2, e2, st2⟩ := getF X hx hZ hown (host := "") (Or.inl w1) via eT F1 (g := mkF m pc L (.ref a :: r)) rfl rfl (hb hby hd)
            exact go X2 e2 h (fun t k => st2 t k)
          · exact stay h
        · exact stay h
      · simp only [own_ok, Bool.and_eq_true, decide_eq_true_eq] at he
        simp only [own_len, own_cv, decide_eq_true_eq, and_true] at he
        obtain ⟨hd, rfl⟩ := he
        split at h
        · rename_i a r
          split at h
          · rename_i b nn ty vs dd rest hA'
            obtain ⟨rfl, h⟩ := h
            obtain ⟨kk, cl, Ar, -, Sz, Mz, Hz, -⟩ := hA _ (by rw [hA']; exact List.mem_cons_self)
            dsimp only at Ar Sz Mz Hz
            refine go X eT h (fun t k => ?_)
            have k2 := X.arraylength hx (by rw [eT]; exact Ar.1) (State.isArrayOf_alike hZ.alike Ar.2.1) (g := mkF m pc L (.ref a :: r)) rfl rfl (hb hby hd) t
            rw [len_of Sz Mz] at k2
            exact k2 k
          · exact stay h
        · exact stay h
      · simp only [own_ok, Bool.and_eq_true, decide_eq_true_eq] at he
        simp only [own_len, own_cv, decide_eq_true_eq, and_true] at he
        obtain ⟨hd, rfl⟩ := he
        split at h
        · rename_i j a r
          split at h
          · rename_i b nn ty vs dd rest hA'
            obtain ⟨rfl, rfl, hj0, hjn, z, hz, h⟩ := h
            obtain ⟨kk, cl, Ar, -, Sz, Mz, Hz, -⟩ := hA _ (by rw [hA']; exact List.mem_cons_self)
            dsimp only at Ar Sz Mz Hz
            have hin : ¬ (j < 0 ∨ cl.slots.size ≤ j.toNatClampNeg) := own_inb Sz hj0 hjn
            exact go X eT h (fun t k => X.laload hx (j := j) (v := .long z) (by rw [eT]; exact Ar.1) (State.isArrayOf_alike hZ.alike Ar.2.1) Ar.2.2 hin (by rw [Hz _ (Nat.lt_of_not_le fun q => hin (Or.inr q)), hz]) (g := mkF m pc L (.int j :: .ref a :: r)) rfl rfl (hb hby hd) t k)
          · exact stay h
        · exact stay h
      · simp only [own_ok, Bool.and_eq_true, decide_eq_true_eq] at he
        simp only [own_len, own_cv, decide_eq_true_eq, and_true] at he
        obtain ⟨hd, rfl⟩ := he
        split at h
        · rename_i j a r
          split at h
          · rename_i b nn ty vs dd rest hA'
            obtain ⟨rfl, rfl, hj0, hjn, z, hz, h⟩ := h
            obtain ⟨kk, cl, Ar, -, Sz, Mz, Hz, -⟩ := hA _ (by rw [hA']; exact List.mem_cons_self)
            dsimp only at Ar Sz Mz Hz
            have hin : ¬ (j < 0 ∨ cl.slots.size ≤ j.toNatClampNeg) := own_inb Sz hj0 hjn
            exact go X eT h (fun t k => X.baloadBytes hx (j := j) (v := .int z) (by rw [eT]; exact Ar.1) (State.isArrayOf_alike hZ.alike Ar.2.1) Ar.2.2 hin (by rw [Hz _ (Nat.lt_of_not_le fun q => hin (Or.inr q)), hz]) (g := mkF m pc L (.int j :: .ref a :: r)) rfl rfl (hb hby hd) t k)
          · exact stay h
        · exact stay h
      · split at h
        · rename_i L' st' hs
          exact go X eT h (fun t k => own_stp_sound X hx hby hZ hown hw he hs k)
        · exact stay h
/-- what a return hands back -/
def own_top : FieldType → List Value → Option Value
  | .long, .long z :: _ => some (.long z)
  | .int, .int z :: _ => some (.int z)
  | .boolean, .int z :: _ => some (.int (z &&& 1))
  | .byte, .int z :: _ => some (.int (nar .byte z))
  | .char, .int z :: _ => some (.int (nar .char z))
  | .short, .int z :: _ => some (.int (nar .short z))
  | _, _ => none
def own_reti : FieldType → Instr
  | .long => .lreturn
  | _ => .ireturn
theorem own_ret {T : State} (X : Stand p l e R s m args below meth c T locs cells slots) (hx : p.tables.exec = Jvm.exec) {pc : Nat} {L : Array Slot} {st : List Value} {t : FieldType} {v : Value} (hret : meth.sig.returnType = some t) (hd : decode c.code pc = .ok (own_reti t, 1)) (ht : own_top t st = some v) {fs : List Frame}
    (hl : ∀ (f : JFrame) (acts : List Action), f.method = m → f.locked = none → f.entered = [] → (doReturn e (T.setTop f) acts (some v)).1 = T.setFrames fs) : Steps p.tables e below (T.setTop (mkF m pc L st)) (T.setFrames fs) := by
  unfold own_top at ht
  split at ht
  · cases ht; exact retOut X hx hret rfl (Or.inr (Or.inl ⟨rfl, rfl, _, rfl⟩)) hd hl
  · cases ht; exact retOut X hx hret rfl (Or.inl ⟨rfl, Or.inl rfl, _, rfl⟩) hd hl
  · cases ht; exact retN X hx (t := .boolean) hret (by simp) hd hl
  · cases ht; exact retN X hx (t := .byte) hret (by simp) hd hl
  · cases ht; exact retN X hx (t := .char) hret (by simp) hd hl
  · cases ht; exact retN X hx (t := .short) hret (by simp) hd hl
  · cases ht
/-- the end of a reading walk: at one of the returns, with this value -/
def own_retQ (rets : List Nat) (rt : FieldType) (v : Value) (pc : Nat) (_L : Array Slot) (st : List Value) : Prop := rets.contains pc = true ∧ own_top rt st = some v
theorem own_pure {y : MethodName} {bytes : ByteArray} {maxL N : Nat} {rt : FieldType} {rm : Room} {tab : List own_Ent} {ws : List Jvm.Cond} {P : Heap → List Value → Value → Prop} (rets : List Nat) (hp : plainFor y = true) (hw : ∀ d ∈ ws, d.before a0 Z = true)
    (hT : tab.all (own_ok bytes y.cls ws) = true) (hR : rets.all (fun q => decide (decode bytes q = .ok (own_reti rt, 1))) = true) (W : Nat) (C V : List own_Call) (hC : ∀ q ∈ C, own_CallOk l Z a0 y.cls rm W q) (hV : ∀ q ∈ V, own_VirtOk l Z a0 y.cls rm W q)
    (H : ∀ h as v, P h as v → ∃ L0 F A, argsToLocals as.toArray maxL = L0 ∧ (∀ q ∈ F, own_FldOk Z a0 y.cls h q) ∧ (∀ q ∈ A, own_ArrOk Z h q) ∧ own_wp [] tab (C, V, F, A, h, maxL, W) (own_retQ rets rt v) N 0 L0 []) : own_Pure l Z y bytes maxL (some rt) rm P := by
  intro ws' h0 as v hP
  refine MetFree.of_bodySF hp hisR ?_
  intro p e s m args below meth c s₁ Bd hml hQ hK
  obtain ⟨rfl, hZ, hh⟩ := hQ
  have hx := Bd.exec
  have hby := Bd.bytes
  have hown : s.vm.findClass y.cls = some m.cls := findClass_of_methodNamed Bd.named
  have X0 : Stand p l e rm s m as.toArray below meth c s₁ [] 0 0 := Stand.of_body Bd
  have e0 : s₁.heap = h0 := by rw [← hh, Bd.state]; rfl
  obtain ⟨L0, F, A, hL0, hF, hA, hwp⟩ := H h0 as v hP
  subst hL0
  obtain ⟨T, pc, L, st, X, eT, ⟨hpc, htop⟩, k⟩ := own_wp_sound hx hby hZ hown hw hT (E := (C, V, F, A, h0, maxL, W)) hml ⟨hC, hV, hF, hA⟩ (Nat.zero_le _) (Nat.zero_le _) N 0 _ [] X0 e0 hwp
  have hd : decode bytes pc = .ok (own_reti rt, 1) := by simpa using List.all_eq_true.mp hR pc (List.contains_iff_mem.mp hpc)
  obtain ⟨fs, hr, hrun, hended, hW, hsame⟩ := X.leave (v := some v) (fun h => by rw [Bd.returns] at h; cases h)
  refine ⟨_, _, k _ ?_, hrun, hended, _, _, rfl, ⟨rfl, rfl, ?_⟩, ⟨_, rfl⟩, hW, hsame.mono (Nat.zero_le _) (Nat.zero_le _)⟩
  · exact own_ret X hx Bd.returns (hb hby hd) htop hr
  · exact eT
/-- a piece of a walk, its end told -/
theorem own_seg {T : State} (X : Stand p l e R s m args below meth c T locs cells slots) (hx : p.tables.exec = Jvm.exec) {code : ByteArray} (hby : c.code = code) (hZ : Z.Warmed39 s.vm) {own : String} (hown : s.vm.findClass own = some m.cls) {ws : List Jvm.Cond} (hw : ∀ d ∈ ws, d.before a0 Z = true)
    {tab : List own_Ent} (hT : tab.all (own_ok code own ws) = true) {E : own_Env} (hml : c.maxLocals = E.2.2.2.2.2.1) (hE : own_EnvOk l Z a0 own R E) (hcl : cells ≤ R.cells) (hsl : slots ≤ R.slots) (eT : T.heap = E.2.2.2.2.1) {stop : List Nat} {n pc0 pc1 : Nat} {L0 L1 : Array Slot} {st0 st1 : List Value}
    (h : own_wp stop tab E (fun pc L st => pc = pc1 ∧ L = L1 ∧ st = st1) n pc0 L0 st0) :
    ∃ T', Stand p l e R s m args below meth c T' locs cells slots ∧ T'.heap = E.2.2.2.2.1 ∧ ∀ t, Steps p.tables e below (T'.setTop (mkF m pc1 L1 st1)) t → Steps p.tables e below (T.setTop (mkF m pc0 L0 st0)) t := by
  obtain ⟨T', _, _, _, X', e', ⟨rfl, rfl, rfl⟩, k⟩ := own_wp_sound hx hby hZ hown hw hT hml hE hcl hsl n pc0 L0 st0 X eT h
  exact ⟨T', X', e', k⟩
end own_Sound
def own_tb0 : List own_Ent := [(0, .lload_n 0, 1, 0, .null), (1, .ldc2_w 9, 4, 0, (.long 9223372036854775807)), (4, .land, 5, 0, .null), (5, .lstore 7, 7, 0, .null), (7, .lload_n 2, 8, 0, .null), (8, .ldc2_w 9, 11, 0, (.long 9223372036854775807)), (11, .land, 12, 0, .null), (12, .lstore 9, 14, 0, .null), (14, .lload 4, 16, 0, .null), (16, .ldc2_w 9, 19, 0, (.long 9223372036854775807)), (19, .land, 20, 0, .null), (20, .lstore 11, 22, 0, .null), (22, .iload 6, 24, 0, .null), (24, .iconst 3, 25, 0, (.int 3)), (25, .iand, 26, 0, .null), (26, .istore 13, 28, 0, .null), (28, .iload 13, 30, 0, .null), (30, .ifCond .ne 14, 33, 44, .null), (33, .iconst 0, 34, 0, (.int 0)), (36, .astore 14, 38, 0, .null), (38, .lconst 1, 39, 0, (.long 1)), (39, .lstore 15, 41, 0, .null), (41, .goto 105, 0, 146, .null), (44, .iload 13, 46, 0, .null), (46, .iconst 1, 47, 0, (.int 1)), (47, .if_icmp .ne 24, 50, 71, .null), (50, .iconst 1, 51, 0, (.int 1)), (53, .dup, 54, 0, .null), (54, .iconst 0, 55, 0, (.int 0)), (55, .lload 7, 57, 0, .null), (58, .astore 14, 60, 0, .null), (60, .lconst 1, 61, 0, (.long 1)), (61, .lload 7, 63, 0, .null), (63, .invokestatic 11, 66, 0, .null), (66, .lstore 15, 68, 0, .null), (68, .goto 78, 0, 146, .null), (71, .iload 13, 73, 0, .null), (73, .iconst 2, 74, 0, (.int 2)), (74, .if_icmp .ne 34, 77, 108, .null), (77, .iconst 2, 78, 0, (.int 2)), (80, .dup, 81, 0, .null), (81, .iconst 0, 82, 0, (.int 0)), (82, .lload 7, 84, 0, .null), (85, .dup, 86, 0, .null), (86, .iconst 1, 87, 0, (.int 1)), (87, .lload 9, 89, 0, .null), (90, .astore 14, 92, 0, .null), (92, .lconst 1, 93, 0, (.long 1)), (93, .lload 7, 95, 0, .null), (95, .invokestatic 11, 98, 0, .null), (98, .lload 9, 100, 0, .null), (100, .invokestatic 11, 103, 0, .null), (103, .lstore 15, 105, 0, .null), (105, .goto 41, 0, 146, .null), (108, .iconst 3, 109, 0, (.int 3)), (111, .dup, 112, 0, .null), (112, .iconst 0, 113, 0, (.int 0)), (113, .lload 7, 115, 0, .null), (116, .dup, 117, 0, .null), (117, .iconst 1, 118, 0, (.int 1)), (118, .lload 9, 120, 0, .null), (121, .dup, 122, 0, .null), (122, .iconst 2, 123, 0, (.int 2)), (123, .lload 11, 125, 0, .null), (126, .astore 14, 128, 0, .null), (128, .lconst 1, 129, 0, (.long 1)), (129, .lload 7, 131, 0, .null), (131, .invokestatic 11, 134, 0, .null), (134, .lload 9, 136, 0, .null), (136, .invokestatic 11, 139, 0, .null), (139, .lload 11, 141, 0, .null), (141, .invokestatic 11, 144, 0, .null), (144, .lstore 15, 146, 0, .null), (146, .aload 14, 148, 0, .null), (148, .invokestatic 17, 151, 0, .null), (151, .lload 15, 153, 0, .null), (153, .lcmp, 154, 0, .null), (154, .ifCond .ne 7, 157, 161, .null), (157, .iconst 1, 158, 0, (.int 1)), (158, .goto 4, 0, 162, .null), (161, .iconst 0, 162, 0, (.int 0))]
theorem own_tb0_ok : own_tb0.all (own_ok code "com/example/gainsay/gainsay/smt/SortProductPinLaw" tables_1) = true := by decide +kernel
def own_tb1 : List own_Ent := [(0, .lload_n 0, 1, 0, .null), (1, .lconst 0, 2, 0, (.long 0)), (2, .lcmp, 3, 0, .null), (3, .ifCond .eq 9, 6, 12, .null), (6, .lload_n 2, 7, 0, .null), (7, .lconst 0, 8, 0, (.long 0)), (8, .lcmp, 9, 0, .null), (9, .ifCond .ne 5, 12, 14, .null), (12, .lconst 0, 13, 0, (.long 0)), (14, .lload_n 0, 15, 0, .null), (15, .lload_n 2, 16, 0, .null), (16, .lmul, 17, 0, .null), (17, .lstore 4, 19, 0, .null), (19, .lload 4, 21, 0, .null), (21, .lconst 0, 22, 0, (.long 0)), (22, .lcmp, 23, 0, .null), (23, .ifCond .lt 12, 26, 35, .null), (26, .lload 4, 28, 0, .null), (28, .lload_n 2, 29, 0, .null), (29, .ldiv, 30, 0, .null), (30, .lload_n 0, 31, 0, .null), (31, .lcmp, 32, 0, .null), (32, .ifCond .eq 7, 35, 39, .null), (35, .ldc2_w 9, 38, 0, (.long 9223372036854775807)), (39, .lload 4, 41, 0, .null)]
theorem own_tb1_ok : own_tb1.all (own_ok method_2_code "com/example/gainsay/gainsay/smt/SortProductPinLaw" tables_1) = true := by decide +kernel
def own_tb2 : List own_Ent := [(0, .lconst 1, 1, 0, (.long 1)), (1, .lstore_n 1, 2, 0, .null), (2, .aload_n 0, 3, 0, .null), (3, .astore_n 3, 4, 0, .null), (4, .aload_n 3, 5, 0, .null), (5, .arraylength, 6, 0, .null), (6, .istore 4, 8, 0, .null), (8, .iconst 0, 9, 0, (.int 0)), (9, .istore 5, 11, 0, .null), (11, .iload 5, 13, 0, .null), (13, .iload 4, 15, 0, .null), (15, .if_icmp .ge 46, 18, 61, .null), (18, .aload_n 3, 19, 0, .null), (19, .iload 5, 21, 0, .null), (21, .laload, 22, 0, .null), (22, .lstore 6, 24, 0, .null), (24, .lload 6, 26, 0, .null), (26, .lconst 0, 27, 0, (.long 0)), (27, .lcmp, 28, 0, .null), (28, .ifCond .ne 5, 31, 33, .null), (31, .lconst 0, 32, 0, (.long 0)), (33, .lload_n 1, 34, 0, .null), (34, .ldc2_w 247, 37, 0, (.long 9223372036854775807)), (37, .lload 6, 39, 0, .null), (39, .ldiv, 40, 0, .null), (40, .lcmp, 41, 0, .null), (41, .ifCond .le 9, 44, 50, .null), (44, .ldc2_w 247, 47, 0, (.long 9223372036854775807)), (47, .goto 7, 0, 54, .null), (50, .lload_n 1, 51, 0, .null), (51, .lload 6, 53, 0, .null), (53, .lmul, 54, 0, .null), (54, .lstore_n 1, 55, 0, .null), (55, .iinc 5 1, 58, 0, .null), (58, .goto (-47), 0, 11, .null), (61, .lload_n 1, 62, 0, .null)]
theorem own_tb2_ok : own_tb2.all (own_ok prog_173_method_24_code "com/example/gainsay/gainsay/smt/Sort" tables_1) = true := by decide +kernel
theorem own_cmpL0 (a b : Int64) : XT.cmpL a b = 0 ↔ a = b := by
  unfold XT.cmpL
  by_cases h1 : b < a
  · rw [if_pos h1]
    exact ⟨fun z => absurd z (by decide), fun z => absurd (z ▸ h1) (Int64.lt_irrefl)⟩
  · rw [if_neg h1]
    by_cases h2 : a = b
    · rw [if_pos h2]; exact ⟨fun _ => h2, fun _ => rfl⟩
    · rw [if_neg h2]; exact ⟨fun z => absurd z (by decide), fun z => absurd z h2⟩
theorem own_cmpL_cases (a b : Int64) : (b < a ∧ XT.cmpL a b = 1) ∨ (a = b ∧ XT.cmpL a b = 0) ∨ (a < b ∧ XT.cmpL a b = -1) := by
  unfold XT.cmpL
  by_cases h1 : b < a
  · rw [if_pos h1]; exact Or.inl ⟨h1, rfl⟩
  · rw [if_neg h1]
    by_cases h2 : a = b
    · rw [if_pos h2]; exact Or.inr (Or.inl ⟨h2, rfl⟩)
    · rw [if_neg h2]
      refine Or.inr (Or.inr ⟨?_, rfl⟩)
      have h3 : a.toInt ≠ b.toInt := fun z => h2 (Int64.toInt_inj.mp z)
      rw [Int64.lt_iff_toInt_lt] at h1 ⊢
      omega
theorem own_cmpLlt (a b : Int64) : XT.cmpL a b < 0 ↔ a.toInt < b.toInt := by
  rcases own_cmpL_cases a b with ⟨h, e⟩ | ⟨h, e⟩ | ⟨h, e⟩ <;> rw [e]
  · rw [Int64.lt_iff_toInt_lt] at h; exact ⟨fun z => absurd z (by decide), fun z => by omega⟩
  · subst h; exact ⟨fun z => absurd z (by decide), fun z => by omega⟩
  · rw [Int64.lt_iff_toInt_lt] at h; exact ⟨fun _ => h, fun _ => by decide⟩
theorem own_cmpLgt (a b : Int64) : 0 < XT.cmpL a b ↔ b.toInt < a.toInt := by
  rcases own_cmpL_cases a b with ⟨h, e⟩ | ⟨h, e⟩ | ⟨h, e⟩ <;> rw [e]
  · rw [Int64.lt_iff_toInt_lt] at h; exact ⟨fun _ => h, fun _ => by decide⟩
  · subst h; exact ⟨fun z => absurd z (by decide), fun z => by omega⟩
  · rw [Int64.lt_iff_toInt_lt] at h; exact ⟨fun z => absurd z (by decide), fun z => by omega⟩
theorem own_cmpLle (a b : Int64) : XT.cmpL a b ≤ 0 ↔ a.toInt ≤ b.toInt := by
  rcases own_cmpL_cases a b with ⟨h, e⟩ | ⟨h, e⟩ | ⟨h, e⟩ <;> rw [e]
  · rw [Int64.lt_iff_toInt_lt] at h; exact ⟨fun z => absurd z (by decide), fun z => by omega⟩
  · subst h; exact ⟨fun _ => Int.le_refl _, fun _ => by decide⟩
  · rw [Int64.lt_iff_toInt_lt] at h; exact ⟨fun _ => by omega, fun _ => by decide⟩
theorem own_cmpLge (a b : Int64) : 0 ≤ XT.cmpL a b ↔ b.toInt ≤ a.toInt := by
  rcases own_cmpL_cases a b with ⟨h, e⟩ | ⟨h, e⟩ | ⟨h, e⟩ <;> rw [e]
  · rw [Int64.lt_iff_toInt_lt] at h; exact ⟨fun _ => by omega, fun _ => by decide⟩
  · subst h; exact ⟨fun _ => Int.le_refl _, fun _ => by decide⟩
  · rw [Int64.lt_iff_toInt_lt] at h; exact ⟨fun z => absurd z (by decide), fun z => by omega⟩
theorem own_mxv : (9223372036854775807 : Int64).toInt = 9223372036854775807 := by decide
def own_op (x y : Int64) : Int64 := if x.toInt * y.toInt ≤ 9223372036854775807 then x * y else 9223372036854775807
theorem own_op_nonneg {x y : Int64} (hx : 0 ≤ x.toInt) (hy : 0 ≤ y.toInt) : 0 ≤ (own_op x y).toInt := by
  have hm := Int.mul_nonneg hx hy
  unfold own_op
  split
  · rw [Jvm.Kit.i64_mul (by omega) (by omega)]; omega
  · rw [own_mxv]; decide
theorem own_op_zero (y : Int64) : own_op 0 y = 0 := by
  have o0 : (0 : Int64).toInt = 0 := by decide
  have e : own_op 0 y = 0 * y := if_pos (by rw [o0, Int.zero_mul]; decide)
  rw [e]; exact Int64.zero_mul
theorem own_op_zero' (x : Int64) : own_op x 0 = 0 := by
  have o0 : (0 : Int64).toInt = 0 := by decide
  have e : own_op x 0 = x * 0 := if_pos (by rw [o0, Int.mul_zero]; decide)
  rw [e]; exact Int64.mul_zero
theorem own_back {x y : Int64} (h1 : -2 ^ 63 ≤ x.toInt * y.toInt) (h2 : x.toInt * y.toInt < 2 ^ 63) (hy : y ≠ 0) : x * y / y = x := by
  have em : (x * y).toInt = x.toInt * y.toInt := Jvm.Kit.i64_mul h1 h2
  have y0 : y.toInt ≠ 0 := fun z => hy (Int64.toInt_inj.mp (by rw [z]; rfl))
  have lx := Int64.toInt_lt x
  apply Int64.toInt_inj.mp
  rw [Jvm.Kit.i64_div (by
    rintro ⟨q1, q2⟩
    rw [em, q2] at q1
    omega), em]
  exact Int.mul_tdiv_cancel _ y0
def own_P1 (_h : Heap) (as : List Value) (v : Value) : Prop := ∃ x y : Int64, as = [.long x, .long y] ∧ 0 ≤ x.toInt ∧ 0 ≤ y.toInt ∧ v = .long (own_op x y)
theorem own_m1 (l : Launch) (Z : State) (a0 : Array Value) (hw : ∀ d ∈ tables_1, d.before a0 Z = true) : own_Pure l Z ⟨"com/example/gainsay/gainsay/smt/SortProductPinLaw", "sat", "(JJ)J"⟩ method_2_code 6 (some .long) ({ frames := 0, cells := 0, slots := 0, locals := 0 } : Room) own_P1 := by
  refine own_pure (N := 40) (tab := own_tb1) [13, 38, 41] (plainFor_of_name (by decide +kernel)) hw own_tb1_ok (by decide +kernel) 0 [] [] (fun q hq => by cases hq) (fun q hq => by cases hq) ?_
  rintro h as v ⟨x, y, rfl, hx, hy, rfl⟩
  have lx := Int64.toInt_lt x
  have ly := Int64.toInt_lt y
  have o0 : (0 : Int64).toInt = 0 := by decide
  have hm := Int.mul_nonneg hx hy
  refine ⟨#[.val (.long x), .second, .val (.long y), .second, .unset, .unset], [], [], by simp [argsToLocals, Value.category], (fun q hq => by cases hq), (fun q hq => by cases hq), ?_⟩
  refine And.intro (fun h1 => ?_) (fun h1 => And.intro (fun h2 => ?_) (fun h2 => ?_))
  · have z : x = 0 := (own_cmpL0 _ _).mp h1
    subst z
    exact And.intro rfl (by rw [own_op_zero]; rfl)
  · have x0 : ¬ x = 0 := fun z => h1 ((own_cmpL0 _ _).mpr z)
    have y0 : y ≠ 0 := fun z => h2 ((own_cmpL0 _ _).mpr z)
    have yp : 0 < y.toInt := by
      have : y.toInt ≠ 0 := fun z => y0 (Int64.toInt_inj.mp (by rw [z, o0]))
      omega
    by_cases hov : x.toInt * y.toInt ≤ 9223372036854775807
    · have em : (x * y).toInt = x.toInt * y.toInt := Jvm.Kit.i64_mul (by omega) (by omega)
      have eo : own_op x y = x * y := if_pos hov
      rw [eo]
      refine And.intro (fun q => ?_) (fun _ => ?_)
      · have z : (x * y).toInt < (0 : Int64).toInt := (own_cmpLlt _ _).mp q
        omega
      · refine And.intro y0 (And.intro (fun _ => ?_) (fun q => ?_))
        · exact And.intro rfl rfl
        · exact absurd ((own_cmpL0 _ _).mpr (own_back (by omega) (by omega) y0)) q
    · have eo : own_op x y = 9223372036854775807 := if_neg hov
      rw [eo]
      refine And.intro (fun _ => ?_) (fun q => ?_)
      · exact And.intro rfl rfl
      · refine And.intro y0 (And.intro (fun q2 => ?_) (fun _ => ?_))
        · have z : x * y / y = x := (own_cmpL0 _ _).mp q2
          have pn : 0 ≤ (x * y).toInt := by
            have : ¬ (x * y).toInt < (0 : Int64).toInt := fun z => q ((own_cmpLlt _ _).mpr z)
            omega
          have e1 : (x * y / y).toInt = (x * y).toInt / y.toInt := by
            rw [Jvm.Kit.i64_div (by omega), Int.tdiv_eq_ediv_of_nonneg pn]
          rw [z] at e1
          have e2 : x.toInt * y.toInt ≤ (x * y).toInt := (Int.le_ediv_iff_mul_le yp).mp (by omega)
          have e3 := Int64.toInt_lt (x * y)
          omega
        · exact And.intro rfl rfl
  · have z : y = 0 := (own_cmpL0 _ _).mp (Classical.byContradiction h2)
    subst z
    exact And.intro rfl (by rw [own_op_zero']; rfl)
def own_fold (r : Int64) (xs : List Int64) : Int64 := xs.foldl own_op r
def own_P2 (Z : State) (h : Heap) (as : List Value) (v : Value) : Prop := ∃ a k xs, as = [.ref a] ∧ xs.length < 100 ∧ Arv Z h a k .long (Int32.ofNat xs.length) (xs.map Value.long) (.long 0) ∧ (∀ y ∈ xs, 0 ≤ y.toInt) ∧ v = .long (own_fold 1 xs)
theorem own_fold0 : ∀ ys : List Int64, own_fold 0 ys = 0
  | [] => rfl
  | y :: ys => by show own_fold (own_op 0 y) ys = 0; rw [own_op_zero]; exact own_fold0 ys
theorem own_loop (h : Heap) (a : Addr) (n : Nat) (vs : List Value) (hn : n < 100) (v : Int64) : ∀ (ys : List Int64) (i : Nat) (r : Int64) (s6 s7 : Slot), i + ys.length = n → (∀ j (hj : j < ys.length), vs.getD (i + j) (.long 0) = .long ys[j]) → (∀ y ∈ ys, 0 ≤ y.toInt) → 0 ≤ r.toInt → v = own_fold r ys → ((s6 = .unset ∧ s7 = .unset) ∨ ∃ t, s6 = .val (.long t) ∧ s7 = .second) →
    own_wp [] own_tb2 ([], [], [], [(a, Int32.ofNat n, .long, vs, .long 0)], h, 8, 0) (own_retQ [32, 62] .long (.long v)) (40 * (ys.length + 1)) 11 #[.val (.ref a), .val (.long r), .second, .val (.ref a), .val (.int (Int32.ofNat n)), .val (.int (Int32.ofNat i)), s6, s7] [] := by
  intro ys
  induction ys with
  | nil =>
    intro i r s6 s7 hi _ _ _ hv hs
    have e : i = n := by simpa using hi
    subst e
    have le : Int32.ofNat i ≤ Int32.ofNat i := Int32.le_refl _
    show own_wp [] own_tb2 _ _ 40 11 _ _
    rw [hv]
    rcases hs with ⟨rfl, rfl⟩ | ⟨t, rfl, rfl⟩
    · exact And.intro (fun _ => And.intro rfl rfl) (fun q => absurd le q)
    · exact And.intro (fun _ => And.intro rfl rfl) (fun q => absurd le q)
  | cons y ys ih =>
    intro i r s6 s7 hi hg hp hr hv hs
    have hlen : i + 1 + ys.length = n := by simp at hi; omega
    have hy : 0 ≤ y.toInt := hp y (by simp)
    have ly := Int64.toInt_lt y
    have lr := Int64.toInt_lt r
    have ei : (Int32.ofNat i).toInt = i := Int32.toInt_ofNat_small (by omega)
    have en : (Int32.ofNat n).toInt = n := Int32.toInt_ofNat_small (by omega)
    have e1 : Int32.ofNat i + 1 = Int32.ofNat (i + 1) := i32_ofNat_add_one i
    have nge : ¬ Int32.ofNat n ≤ Int32.ofNat i := by rw [Int32.le_iff_toInt_le, ei, en]; omega
    have ilt : Int32.ofNat i < Int32.ofNat n := by rw [Int32.lt_iff_toInt_lt, ei, en]; omega
    have i0 : ¬ Int32.ofNat i < 0 := by rw [Int32.lt_iff_toInt_lt, ei]; show ¬ (i : Int) < 0; omega
    have ec : (Int32.ofNat i).toNatClampNeg = i := by show (Int32.ofNat i).toInt.toNat = i; rw [ei]; omega
    have g0 : vs.getD (Int32.ofNat i).toNatClampNeg (.long 0) = .long y := by rw [ec]; exact hg 0 (by simp)
    have nxt : ∀ s6 s7, ((s6 = .unset ∧ s7 = .unset) ∨ ∃ t, s6 = .val (.long t) ∧ s7 = .second) → own_wp [] own_tb2 ([], [], [], [(a, Int32.ofNat n, .long, vs, .long 0)], h, 8, 0) (own_retQ [32, 62] .long (.long v)) (40 * (ys.length + 1)) 11 #[.val (.ref a), .val (.long (own_op r y)), .second, .val (.ref a), .val (.int (Int32.ofNat n)), .val (.int (Int32.ofNat (i + 1))), s6, s7] [] := fun s6 s7 hs =>
      ih (i + 1) (own_op r y) s6 s7 hlen (fun j hj => by have := hg (j + 1) (by simp; omega); rw [show i + 1 + j = i + (j + 1) by omega, this]; rfl) (fun z hz => hp z (by simp [hz])) (own_op_nonneg hr hy) (by rw [hv]; rfl) hs
    have nx := nxt (.val (.long y)) .second (Or.inr ⟨y, rfl, rfl⟩)
    have fin : own_wp [11] own_tb2 ([], [], [], [(a, Int32.ofNat n, .long, vs, .long 0)], h, 8, 0) (fun pc L st => True ∧ own_wp [] own_tb2 ([], [], [], [(a, Int32.ofNat n, .long, vs, .long 0)], h, 8, 0) (own_retQ [32, 62] .long (.long v)) (40 * (ys.length + 1)) pc L st) 30 24 #[.val (.ref a), .val (.long r), .second, .val (.ref a), .val (.int (Int32.ofNat n)), .val (.int (Int32.ofNat i)), .val (.long y), .second] [] := by
      refine And.intro (fun q0 => ?_) (fun q0 => ?_)
      · have y0 : y ≠ 0 := fun z => q0 ((own_cmpL0 _ _).mpr z)
        have o0 : (0 : Int64).toInt = 0 := by decide
        have yp : 0 < y.toInt := by
          have : y.toInt ≠ 0 := fun z => y0 (Int64.toInt_inj.mp (by rw [z, o0]))
          omega
        have es : (9223372036854775807 / y).toInt = 9223372036854775807 / y.toInt := by
          rw [Jvm.Kit.i64_div (by rw [own_mxv]; omega), own_mxv, Int.tdiv_eq_ediv_of_nonneg (by decide)]
        have key := Int.le_ediv_iff_mul_le (a := r.toInt) (b := 9223372036854775807) yp
        refine And.intro y0 (And.intro (fun q => ?_) (fun q => ?_))
        · have z : r.toInt ≤ (9223372036854775807 / y).toInt := (own_cmpLle _ _).mp q
          refine And.intro trivial ?_
          have eo : own_op r y = r * y := if_pos (key.mp (by omega))
          rw [eo, ← e1] at nx
          exact nx
        · have z : ¬ r.toInt ≤ (9223372036854775807 / y).toInt := fun z => q ((own_cmpLle _ _).mpr z)
          refine And.intro trivial ?_
          have eo : own_op r y = 9223372036854775807 := if_neg (fun z2 => z (by rw [es]; exact key.mpr z2))
          rw [eo, ← e1] at nx
          exact nx
      · have z : y = 0 := (own_cmpL0 _ _).mp (Classical.byContradiction q0)
        have ev : v = 0 := by
          rw [hv, z]
          show own_fold (own_op r 0) ys = 0
          rw [own_op_zero', own_fold0]
        rw [ev]
        refine And.intro trivial ?_
        obtain ⟨N, hN⟩ : ∃ N, 40 * (ys.length + 1) = N + 1 := ⟨40 * (ys.length + 1) - 1, by omega⟩
        rw [hN]
        exact And.intro rfl rfl
    have e40 : 40 * ((y :: ys).length + 1) = 10 + (30 + 40 * (ys.length + 1)) := by simp; omega
    rw [e40]
    refine own_join (stop := [24]) ?_
    rcases hs with ⟨rfl, rfl⟩ | ⟨t, rfl, rfl⟩
    · refine And.intro (fun q => absurd q nge) (fun _ => ?_)
      refine And.intro rfl (And.intro rfl (And.intro i0 (And.intro ilt (Exists.intro y (And.intro g0 ?_)))))
      exact And.intro trivial (own_join fin)
    · refine And.intro (fun q => absurd q nge) (fun _ => ?_)
      refine And.intro rfl (And.intro rfl (And.intro i0 (And.intro ilt (Exists.intro y (And.intro g0 ?_)))))
      exact And.intro trivial (own_join fin)
theorem own_m2 (l : Launch) (Z : State) (a0 : Array Value) (hw : ∀ d ∈ tables_1, d.before a0 Z = true) : own_Pure l Z ⟨"com/example/gainsay/gainsay/smt/Sort", "product", "([J)J"⟩ prog_173_method_24_code 8 (some .long) ({ frames := 0, cells := 0, slots := 0, locals := 0 } : Room) (own_P2 Z) := by
  refine own_pure (N := 5000) (tab := own_tb2) [32, 62] (plainFor_of_name (by decide +kernel)) hw own_tb2_ok (by decide +kernel) 0 [] [] (fun q hq => by cases hq) (fun q hq => by cases hq) ?_
  rintro h as v ⟨a, k, xs, rfl, hlen, hA, hp, rfl⟩
  refine ⟨#[.val (.ref a), .unset, .unset, .unset, .unset, .unset, .unset, .unset], [], [(a, Int32.ofNat xs.length, .long, xs.map Value.long, .long 0)], by simp [argsToLocals, Value.category], (fun q hq => by cases hq), ?_, ?_⟩
  · intro q hq
    obtain rfl : q = (a, Int32.ofNat xs.length, .long, xs.map Value.long, .long 0) := by simpa using hq
    exact ⟨k, hA⟩
  · obtain ⟨N, hN⟩ : ∃ N, 4970 = N + 40 * (xs.length + 1) := ⟨4970 - 40 * (xs.length + 1), by omega⟩
    have lp := own_wp_more (own_loop h a xs.length (xs.map Value.long) hlen (own_fold 1 xs) xs 0 1 .unset .unset (by omega) (fun j hj => by simp [hj]) hp (by decide) rfl (Or.inl ⟨rfl, rfl⟩)) N
    rw [← hN] at lp
    refine own_join (stop := [11]) (n1 := 30) (n2 := 4970) ?_
    refine And.intro rfl (And.intro trivial ?_)
    exact lp
abbrev own_C (Z : State) : List own_Call := [(11, 2, own_P1), (17, 1, own_P2 Z)]
abbrev own_E (Z : State) (h : Heap) : own_Env := (own_C Z, [], [], [], h, 17, 0)
theorem own_b0 (Z : State) (a0' b0 c0 : Int64) (n : Int32) (h : Heap) : own_wp [7] own_tb0 (own_E Z h) (fun pc L st => pc = 7 ∧ L = #[.val (.long a0'), .second, .val (.long b0), .second, .val (.long c0), .second, .val (.int n), .val (.long (a0' &&& 9223372036854775807)), .second, .unset, .unset, .unset, .unset, .unset, .unset, .unset, .unset] ∧ st = []) 20 0 #[.val (.long a0'), .second, .val (.long b0), .second, .val (.long c0), .second, .val (.int n), .unset, .unset, .unset, .unset, .unset, .unset, .unset, .unset, .unset, .unset] [] := And.intro rfl (And.intro rfl rfl)
theorem own_b7 (Z : State) (a0' b0 c0 : Int64) (n : Int32) (a : Int64) (h : Heap) : own_wp [14] own_tb0 (own_E Z h) (fun pc L st => pc = 14 ∧ L = #[.val (.long a0'), .second, .val (.long b0), .second, .val (.long c0), .second, .val (.int n), .val (.long a), .second, .val (.long (b0 &&& 9223372036854775807)), .second, .unset, .unset, .unset, .unset, .unset, .unset] ∧ st = []) 20 7 #[.val (.long a0'), .second, .val (.long b0), .second, .val (.long c0), .second, .val (.int n), .val (.long a), .second, .unset, .unset, .unset, .unset, .unset, .unset, .unset, .unset] [] := And.intro rfl (And.intro rfl rfl)
theorem own_b14 (Z : State) (a0' b0 c0 : Int64) (n : Int32) (a b : Int64) (h : Heap) : own_wp [22] own_tb0 (own_E Z h) (fun pc L st => pc = 22 ∧ L = #[.val (.long a0'), .second, .val (.long b0), .second, .val (.long c0), .second, .val (.int n), .val (.long a), .second, .val (.long b), .second, .val (.long (c0 &&& 9223372036854775807)), .second, .unset, .unset, .unset, .unset] ∧ st = []) 20 14 #[.val (.long a0'), .second, .val (.long b0), .second, .val (.long c0), .second, .val (.int n), .val (.long a), .second, .val (.long b), .second, .unset, .unset, .unset, .unset, .unset, .unset] [] := And.intro rfl (And.intro rfl rfl)
theorem own_b22 (Z : State) (a0' b0 c0 : Int64) (n : Int32) (a b c : Int64) (h : Heap) : own_wp [28] own_tb0 (own_E Z h) (fun pc L st => pc = 28 ∧ L = #[.val (.long a0'), .second, .val (.long b0), .second, .val (.long c0), .second, .val (.int n), .val (.long a), .second, .val (.long b), .second, .val (.long c), .second, .val (.int (n &&& 3)), .unset, .unset, .unset] ∧ st = []) 20 22 #[.val (.long a0'), .second, .val (.long b0), .second, .val (.long c0), .second, .val (.int n), .val (.long a), .second, .val (.long b), .second, .val (.long c), .second, .unset, .unset, .unset, .unset] [] := And.intro rfl (And.intro rfl rfl)
abbrev own_Q : Nat → Array Slot → List Value → Prop := own_retQ [162] .boolean (.int 1)
theorem own_t146 (Z : State) (a0' b0 c0 : Int64) (n : Int32) (a b c : Int64) (k : Int32) (r : Addr) (ex : Int64) (h : Heap) (hA : own_P2 Z h [.ref r] (.long ex)) : own_wp [] own_tb0 (own_E Z h) own_Q 40 146 #[.val (.long a0'), .second, .val (.long b0), .second, .val (.long c0), .second, .val (.int n), .val (.long a), .second, .val (.long b), .second, .val (.long c), .second, .val (.int k), .val (.ref r), .val (.long ex), .second] [] := by
  refine Exists.intro (.long ex) (And.intro hA (And.intro rfl (And.intro (Nat.le_of_ble_eq_true rfl) (And.intro rfl ?_))))
  refine And.intro (fun q => absurd ((own_cmpL0 _ _).mpr rfl) q) (fun _ => ?_)
  exact And.intro rfl rfl
section own_Roads
variable {p : Program} {l : Launch} {e : Env} {s : State} {m : MethodId} {args : Array Value} {below : List Frame} {meth : Method} {c' : Code} {Z : State} {aa : Array Value}
set_option maxRecDepth 65536 in
set_option maxHeartbeats 2000000 in
theorem own_road0 {T : State} (hx : p.tables.exec = Jvm.exec) (hby : c'.code = code) (hZ : Z.Warmed39 s.vm) (hown : s.vm.findClass "com/example/gainsay/gainsay/smt/SortProductPinLaw" = some m.cls) (hw : ∀ d ∈ tables_1, d.before aa Z = true) (hml : c'.maxLocals = 17) (hC : ∀ q ∈ own_C Z, own_CallOk l Z aa "com/example/gainsay/gainsay/smt/SortProductPinLaw" room_1 0 q) (a0' b0 c0 : Int64) (n : Int32) (a b c : Int64) (ha : 0 ≤ a.toInt) (hb' : 0 ≤ b.toInt) (hc : 0 ≤ c.toInt) (h0 : Heap) (n0 : Nat) (Z0 : n0 ≤ h0.size) (X0 : Stand p l e room_1 s m args below meth c' T [] 0 0) (e0 : T.heap = h0) :
    ∃ T' locs r k, Stand p l e room_1 s m args below meth c' T' locs 1 0 ∧ Fr n0 locs ∧ Arv Z T'.heap r k .long (0 : Int32) [] (.long 0) ∧ ∀ t, Steps p.tables e below (T'.setTop (mkF m 146 #[.val (.long a0'), .second, .val (.long b0), .second, .val (.long c0), .second, .val (.int n), .val (.long a), .second, .val (.long b), .second, .val (.long c), .second, .val (.int 0), .val (.ref r), .val (.long 1), .second] [])) t → Steps p.tables e below (T.setTop (mkF m 28 #[.val (.long a0'), .second, .val (.long b0), .second, .val (.long c0), .second, .val (.int n), .val (.long a), .second, .val (.long b), .second, .val (.long c), .second, .val (.int 0), .unset, .unset, .unset] [])) t := by
  have N0 := Fr.nil n0
  have p1 : 0 ≤ (1 : Int64).toInt := by decide
  have p2 := own_op_nonneg p1 ha
  have p3 := own_op_nonneg p2 hb'
  obtain ⟨T1, X1, e1, st1⟩ := own_seg X0 hx hby hZ hown hw own_tb0_ok (E := own_E Z h0) hml ⟨hC, (fun q hq => by cases hq), (fun q hq => by cases hq), (fun q hq => by cases hq)⟩ (by decide) (by decide) e0 (stop := [146]) (n := 40) (pc0 := 28) (pc1 := 34) (L0 := #[.val (.long a0'), .second, .val (.long b0), .second, .val (.long c0), .second, .val (.int n), .val (.long a), .second, .val (.long b), .second, .val (.long c), .second, .val (.int 0), .unset, .unset, .unset]) (L1 := #[.val (.long a0'), .second, .val (.long b0), .second, .val (.long c0), .second, .val (.int n), .val (.long a), .second, .val (.long b), .second, .val (.long c), .second, .val (.int 0), .unset, .unset, .unset]) (st0 := []) (st1 := [.int 0]) (by
      refine And.intro (fun q => absurd rfl q) (fun _ => ?_)
      exact And.intro rfl (And.intro rfl rfl))
  obtain ⟨T2, h2, k2, X2, e2, E2, A2, st2⟩ := newP X1 hx hZ (hw _ (List.mem_of_getElem? (i := 1) rfl)) e1 (g := (mkF m 34 #[.val (.long a0'), .second, .val (.long b0), .second, .val (.long c0), .second, .val (.int n), .val (.long a), .second, .val (.long b), .second, .val (.long c), .second, .val (.int 0), .unset, .unset, .unset] [.int (0 : Int32)])) rfl (hb hby at_34) rfl (by decide) (cap := 0) (by decide) (by decide) (by decide) (by decide)
  obtain ⟨r, gr⟩ : ∃ z, z = h0.size := ⟨_, rfl⟩
  rw [← gr] at A2 st2
  have V2 : Arv Z h2 r k2 .long (0 : Int32) [] (.long (0 : Int64)) := (Arv.new A2 (by decide)).pad (pad_rep [] (.long (0 : Int64)) 0)
  have rn : n0 ≤ r := Nat.le_trans Z0 (Nat.le_of_eq gr.symm)
  obtain ⟨T3, X3, e3, st3⟩ := own_seg X2 hx hby hZ hown hw own_tb0_ok (E := own_E Z h2) hml ⟨hC, (fun q hq => by cases hq), (fun q hq => by cases hq), (fun q hq => by cases hq)⟩ (by decide) (by decide) e2 (stop := [146]) (n := 40) (pc0 := 36) (pc1 := 146) (L0 := #[.val (.long a0'), .second, .val (.long b0), .second, .val (.long c0), .second, .val (.int n), .val (.long a), .second, .val (.long b), .second, .val (.long c), .second, .val (.int 0), .unset, .unset, .unset]) (L1 := #[.val (.long a0'), .second, .val (.long b0), .second, .val (.long c0), .second, .val (.int n), .val (.long a), .second, .val (.long b), .second, .val (.long c), .second, .val (.int 0), .val (.ref r), .val (.long 1), .second]) (st0 := [.ref r]) (st1 := []) (by
      exact And.intro rfl (And.intro rfl rfl))
  refine ⟨T3, _, r, k2, X3, N0, by rw [e3]; exact V2, fun t z => ?_⟩
  refine st1 _ ?_
  refine st2 _ ?_
  refine st3 _ ?_
  exact z
set_option maxRecDepth 65536 in
set_option maxHeartbeats 2000000 in
theorem own_road1 {T : State} (hx : p.tables.exec = Jvm.exec) (hby : c'.code = code) (hZ : Z.Warmed39 s.vm) (hown : s.vm.findClass "com/example/gainsay/gainsay/smt/SortProductPinLaw" = some m.cls) (hw : ∀ d ∈ tables_1, d.before aa Z = true) (hml : c'.maxLocals = 17) (hC : ∀ q ∈ own_C Z, own_CallOk l Z aa "com/example/gainsay/gainsay/smt/SortProductPinLaw" room_1 0 q) (a0' b0 c0 : Int64) (n : Int32) (a b c : Int64) (ha : 0 ≤ a.toInt) (hb' : 0 ≤ b.toInt) (hc : 0 ≤ c.toInt) (h0 : Heap) (n0 : Nat) (Z0 : n0 ≤ h0.size) (X0 : Stand p l e room_1 s m args below meth c' T [] 0 0) (e0 : T.heap = h0) :
    ∃ T' locs r k, Stand p l e room_1 s m args below meth c' T' locs 1 1 ∧ Fr n0 locs ∧ Arv Z T'.heap r k .long (1 : Int32) [.long a] (.long 0) ∧ ∀ t, Steps p.tables e below (T'.setTop (mkF m 146 #[.val (.long a0'), .second, .val (.long b0), .second, .val (.long c0), .second, .val (.int n), .val (.long a), .second, .val (.long b), .second, .val (.long c), .second, .val (.int 1), .val (.ref r), .val (.long (own_op 1 a)), .second] [])) t → Steps p.tables e below (T.setTop (mkF m 28 #[.val (.long a0'), .second, .val (.long b0), .second, .val (.long c0), .second, .val (.int n), .val (.long a), .second, .val (.long b), .second, .val (.long c), .second, .val (.int 1), .unset, .unset, .unset] [])) t := by
  have N0 := Fr.nil n0
  have p1 : 0 ≤ (1 : Int64).toInt := by decide
  have p2 := own_op_nonneg p1 ha
  have p3 := own_op_nonneg p2 hb'
  obtain ⟨T1, X1, e1, st1⟩ := own_seg X0 hx hby hZ hown hw own_tb0_ok (E := own_E Z h0) hml ⟨hC, (fun q hq => by cases hq), (fun q hq => by cases hq), (fun q hq => by cases hq)⟩ (by decide) (by decide) e0 (stop := [146]) (n := 40) (pc0 := 28) (pc1 := 51) (L0 := #[.val (.long a0'), .second, .val (.long b0), .second, .val (.long c0), .second, .val (.int n), .val (.long a), .second, .val (.long b), .second, .val (.long c), .second, .val (.int 1), .unset, .unset, .unset]) (L1 := #[.val (.long a0'), .second, .val (.long b0), .second, .val (.long c0), .second, .val (.int n), .val (.long a), .second, .val (.long b), .second, .val (.long c), .second, .val (.int 1), .unset, .unset, .unset]) (st0 := []) (st1 := [.int 1]) (by
      refine And.intro (fun _ => ?_) (fun q => absurd (show ¬ (1 : Int32) = 0 by decide) q)
      refine And.intro (fun q => absurd rfl q) (fun _ => ?_)
      exact And.intro rfl (And.intro rfl rfl))
  obtain ⟨T2, h2, k2, X2, e2, E2, A2, st2⟩ := newP X1 hx hZ (hw _ (List.mem_of_getElem? (i := 1) rfl)) e1 (g := (mkF m 51 #[.val (.long a0'), .second, .val (.long b0), .second, .val (.long c0), .second, .val (.int n), .val (.long a), .second, .val (.long b), .second, .val (.long c), .second, .val (.int 1), .unset, .unset, .unset] [.int (1 : Int32)])) rfl (hb hby at_51) rfl (by decide) (cap := 1) (by decide) (by decide) (by decide) (by decide)
  obtain ⟨r, gr⟩ : ∃ z, z = h0.size := ⟨_, rfl⟩
  rw [← gr] at A2 st2
  have V2 : Arv Z h2 r k2 .long (1 : Int32) [(.long (0 : Int64))] (.long (0 : Int64)) := (Arv.new A2 (by decide)).pad (pad_rep [] (.long (0 : Int64)) 1)
  have rn : n0 ≤ r := Nat.le_trans Z0 (Nat.le_of_eq gr.symm)
  obtain ⟨T3, X3, e3, st3⟩ := own_seg X2 hx hby hZ hown hw own_tb0_ok (E := own_E Z h2) hml ⟨hC, (fun q hq => by cases hq), (fun q hq => by cases hq), (fun q hq => by cases hq)⟩ (by decide) (by decide) e2 (stop := [146]) (n := 40) (pc0 := 53) (pc1 := 57) (L0 := #[.val (.long a0'), .second, .val (.long b0), .second, .val (.long c0), .second, .val (.int n), .val (.long a), .second, .val (.long b), .second, .val (.long c), .second, .val (.int 1), .unset, .unset, .unset]) (L1 := #[.val (.long a0'), .second, .val (.long b0), .second, .val (.long c0), .second, .val (.int n), .val (.long a), .second, .val (.long b), .second, .val (.long c), .second, .val (.int 1), .unset, .unset, .unset]) (st0 := [.ref r]) (st1 := [.long a, .int 0, .ref r, .ref r]) (And.intro rfl (And.intro rfl rfl))
  obtain ⟨cl4, Ar4, q4, S4, Nn4, H4, G4⟩ := V2
  have hin4 : ¬ ((0 : Int32) < 0 ∨ cl4.slots.size ≤ (0 : Int32).toNatClampNeg) := inb_of S4 ⟨by decide, by decide⟩
  obtain ⟨T4, h4, X4, e4, W4, st4⟩ := stJ X3 hx hZ e3 Ar4 (j := (0 : Int32)) hin4 (g := (mkF m 57 #[.val (.long a0'), .second, .val (.long b0), .second, .val (.long c0), .second, .val (.int n), .val (.long a), .second, .val (.long b), .second, .val (.long c), .second, .val (.int 1), .unset, .unset, .unset] [.long a, .int (0 : Int32), .ref r, .ref r])) rfl rfl (hb hby at_57)
  have V4 := Arv.set Ar4 q4 S4 Nn4 H4 G4 rfl W4 0 rfl (Nat.le_of_ble_eq_true rfl)
  have N4 := Fr.snoc X4 N0 rn
  obtain ⟨T5, X5, e5, st5⟩ := own_seg X4 hx hby hZ hown hw own_tb0_ok (E := own_E Z h4) hml ⟨hC, (fun q hq => by cases hq), (fun q hq => by cases hq), (fun q hq => by cases hq)⟩ (by decide) (by decide) e4 (stop := [146]) (n := 40) (pc0 := 58) (pc1 := 146) (L0 := #[.val (.long a0'), .second, .val (.long b0), .second, .val (.long c0), .second, .val (.int n), .val (.long a), .second, .val (.long b), .second, .val (.long c), .second, .val (.int 1), .unset, .unset, .unset]) (L1 := #[.val (.long a0'), .second, .val (.long b0), .second, .val (.long c0), .second, .val (.int n), .val (.long a), .second, .val (.long b), .second, .val (.long c), .second, .val (.int 1), .val (.ref r), .val (.long (own_op 1 a)), .second]) (st0 := [.ref r]) (st1 := []) (by
      refine Exists.intro (.long (own_op 1 a)) (And.intro ⟨_, _, rfl, p1, ha, rfl⟩ (And.intro rfl (And.intro (Nat.le_of_ble_eq_true rfl) (And.intro rfl ?_))))
      exact And.intro rfl (And.intro rfl rfl))
  refine ⟨T5, _, r, k2, X5, N4, by rw [e5]; exact V4, fun t z => ?_⟩
  refine st1 _ ?_
  refine st2 _ ?_
  refine st3 _ ?_
  refine st4 _ ?_
  refine st5 _ ?_
  exact z
set_option maxRecDepth 65536 in
set_option maxHeartbeats 2000000 in
theorem own_road2 {T : State} (hx : p.tables.exec = Jvm.exec) (hby : c'.code = code) (hZ : Z.Warmed39 s.vm) (hown : s.vm.findClass "com/example/gainsay/gainsay/smt/SortProductPinLaw" = some m.cls) (hw : ∀ d ∈ tables_1, d.before aa Z = true) (hml : c'.maxLocals = 17) (hC : ∀ q ∈ own_C Z, own_CallOk l Z aa "com/example/gainsay/gainsay/smt/SortProductPinLaw" room_1 0 q) (a0' b0 c0 : Int64) (n : Int32) (a b c : Int64) (ha : 0 ≤ a.toInt) (hb' : 0 ≤ b.toInt) (hc : 0 ≤ c.toInt) (h0 : Heap) (n0 : Nat) (Z0 : n0 ≤ h0.size) (X0 : Stand p l e room_1 s m args below meth c' T [] 0 0) (e0 : T.heap = h0) :
    ∃ T' locs r k, Stand p l e room_1 s m args below meth c' T' locs 1 2 ∧ Fr n0 locs ∧ Arv Z T'.heap r k .long (2 : Int32) [.long a, .long b] (.long 0) ∧ ∀ t, Steps p.tables e below (T'.setTop (mkF m 146 #[.val (.long a0'), .second, .val (.long b0), .second, .val (.long c0), .second, .val (.int n), .val (.long a), .second, .val (.long b), .second, .val (.long c), .second, .val (.int 2), .val (.ref r), .val (.long (own_op (own_op 1 a) b)), .second] [])) t → Steps p.tables e below (T.setTop (mkF m 28 #[.val (.long a0'), .second, .val (.long b0), .second, .val (.long c0), .second, .val (.int n), .val (.long a), .second, .val (.long b), .second, .val (.long c), .second, .val (.int 2), .unset, .unset, .unset] [])) t := by
  have N0 := Fr.nil n0
  have p1 : 0 ≤ (1 : Int64).toInt := by decide
  have p2 := own_op_nonneg p1 ha
  have p3 := own_op_nonneg p2 hb'
  obtain ⟨T1, X1, e1, st1⟩ := own_seg X0 hx hby hZ hown hw own_tb0_ok (E := own_E Z h0) hml ⟨hC, (fun q hq => by cases hq), (fun q hq => by cases hq), (fun q hq => by cases hq)⟩ (by decide) (by decide) e0 (stop := [146]) (n := 40) (pc0 := 28) (pc1 := 78) (L0 := #[.val (.long a0'), .second, .val (.long b0), .second, .val (.long c0), .second, .val (.int n), .val (.long a), .second, .val (.long b), .second, .val (.long c), .second, .val (.int 2), .unset, .unset, .unset]) (L1 := #[.val (.long a0'), .second, .val (.long b0), .second, .val (.long c0), .second, .val (.int n), .val (.long a), .second, .val (.long b), .second, .val (.long c), .second, .val (.int 2), .unset, .unset, .unset]) (st0 := []) (st1 := [.int 2]) (by
      refine And.intro (fun _ => ?_) (fun q => absurd (show ¬ (2 : Int32) = 0 by decide) q)
      refine And.intro (fun _ => ?_) (fun q => absurd (show ¬ (2 : Int32) = 1 by decide) q)
      refine And.intro (fun q => absurd rfl q) (fun _ => ?_)
      exact And.intro rfl (And.intro rfl rfl))
  obtain ⟨T2, h2, k2, X2, e2, E2, A2, st2⟩ := newP X1 hx hZ (hw _ (List.mem_of_getElem? (i := 1) rfl)) e1 (g := (mkF m 78 #[.val (.long a0'), .second, .val (.long b0), .second, .val (.long c0), .second, .val (.int n), .val (.long a), .second, .val (.long b), .second, .val (.long c), .second, .val (.int 2), .unset, .unset, .unset] [.int (2 : Int32)])) rfl (hb hby at_78) rfl (by decide) (cap := 2) (by decide) (by decide) (by decide) (by decide)
  obtain ⟨r, gr⟩ : ∃ z, z = h0.size := ⟨_, rfl⟩
  rw [← gr] at A2 st2
  have V2 : Arv Z h2 r k2 .long (2 : Int32) [(.long (0 : Int64)), (.long (0 : Int64))] (.long (0 : Int64)) := (Arv.new A2 (by decide)).pad (pad_rep [] (.long (0 : Int64)) 2)
  have rn : n0 ≤ r := Nat.le_trans Z0 (Nat.le_of_eq gr.symm)
  obtain ⟨T3, X3, e3, st3⟩ := own_seg X2 hx hby hZ hown hw own_tb0_ok (E := own_E Z h2) hml ⟨hC, (fun q hq => by cases hq), (fun q hq => by cases hq), (fun q hq => by cases hq)⟩ (by decide) (by decide) e2 (stop := [146]) (n := 40) (pc0 := 80) (pc1 := 84) (L0 := #[.val (.long a0'), .second, .val (.long b0), .second, .val (.long c0), .second, .val (.int n), .val (.long a), .second, .val (.long b), .second, .val (.long c), .second, .val (.int 2), .unset, .unset, .unset]) (L1 := #[.val (.long a0'), .second, .val (.long b0), .second, .val (.long c0), .second, .val (.int n), .val (.long a), .second, .val (.long b), .second, .val (.long c), .second, .val (.int 2), .unset, .unset, .unset]) (st0 := [.ref r]) (st1 := [.long a, .int 0, .ref r, .ref r]) (And.intro rfl (And.intro rfl rfl))
  obtain ⟨cl4, Ar4, q4, S4, Nn4, H4, G4⟩ := V2
  have hin4 : ¬ ((0 : Int32) < 0 ∨ cl4.slots.size ≤ (0 : Int32).toNatClampNeg) := inb_of S4 ⟨by decide, by decide⟩
  obtain ⟨T4, h4, X4, e4, W4, st4⟩ := stJ X3 hx hZ e3 Ar4 (j := (0 : Int32)) hin4 (g := (mkF m 84 #[.val (.long a0'), .second, .val (.long b0), .second, .val (.long c0), .second, .val (.int n), .val (.long a), .second, .val (.long b), .second, .val (.long c), .second, .val (.int 2), .unset, .unset, .unset] [.long a, .int (0 : Int32), .ref r, .ref r])) rfl rfl (hb hby at_84)
  have V4 := Arv.set Ar4 q4 S4 Nn4 H4 G4 rfl W4 0 rfl (Nat.le_of_ble_eq_true rfl)
  have N4 := Fr.snoc X4 N0 rn
  obtain ⟨T5, X5, e5, st5⟩ := own_seg X4 hx hby hZ hown hw own_tb0_ok (E := own_E Z h4) hml ⟨hC, (fun q hq => by cases hq), (fun q hq => by cases hq), (fun q hq => by cases hq)⟩ (by decide) (by decide) e4 (stop := [146]) (n := 40) (pc0 := 85) (pc1 := 89) (L0 := #[.val (.long a0'), .second, .val (.long b0), .second, .val (.long c0), .second, .val (.int n), .val (.long a), .second, .val (.long b), .second, .val (.long c), .second, .val (.int 2), .unset, .unset, .unset]) (L1 := #[.val (.long a0'), .second, .val (.long b0), .second, .val (.long c0), .second, .val (.int n), .val (.long a), .second, .val (.long b), .second, .val (.long c), .second, .val (.int 2), .unset, .unset, .unset]) (st0 := [.ref r]) (st1 := [.long b, .int 1, .ref r, .ref r]) (And.intro rfl (And.intro rfl rfl))
  obtain ⟨cl6, Ar6, q6, S6, Nn6, H6, G6⟩ := V4
  have hin6 : ¬ ((1 : Int32) < 0 ∨ cl6.slots.size ≤ (1 : Int32).toNatClampNeg) := inb_of S6 ⟨by decide, by decide⟩
  obtain ⟨T6, h6, X6, e6, W6, st6⟩ := stJ X5 hx hZ e5 Ar6 (j := (1 : Int32)) hin6 (g := (mkF m 89 #[.val (.long a0'), .second, .val (.long b0), .second, .val (.long c0), .second, .val (.int n), .val (.long a), .second, .val (.long b), .second, .val (.long c), .second, .val (.int 2), .unset, .unset, .unset] [.long b, .int (1 : Int32), .ref r, .ref r])) rfl rfl (hb hby at_89)
  have V6 := Arv.set Ar6 q6 S6 Nn6 H6 G6 rfl W6 1 rfl (Nat.le_of_ble_eq_true rfl)
  have N6 := Fr.snoc X6 N4 rn
  obtain ⟨T7, X7, e7, st7⟩ := own_seg X6 hx hby hZ hown hw own_tb0_ok (E := own_E Z h6) hml ⟨hC, (fun q hq => by cases hq), (fun q hq => by cases hq), (fun q hq => by cases hq)⟩ (by decide) (by decide) e6 (stop := [146]) (n := 40) (pc0 := 90) (pc1 := 146) (L0 := #[.val (.long a0'), .second, .val (.long b0), .second, .val (.long c0), .second, .val (.int n), .val (.long a), .second, .val (.long b), .second, .val (.long c), .second, .val (.int 2), .unset, .unset, .unset]) (L1 := #[.val (.long a0'), .second, .val (.long b0), .second, .val (.long c0), .second, .val (.int n), .val (.long a), .second, .val (.long b), .second, .val (.long c), .second, .val (.int 2), .val (.ref r), .val (.long (own_op (own_op 1 a) b)), .second]) (st0 := [.ref r]) (st1 := []) (by
      refine Exists.intro (.long (own_op 1 a)) (And.intro ⟨_, _, rfl, p1, ha, rfl⟩ (And.intro rfl (And.intro (Nat.le_of_ble_eq_true rfl) (And.intro rfl ?_))))
      refine Exists.intro (.long (own_op (own_op 1 a) b)) (And.intro ⟨_, _, rfl, p2, hb', rfl⟩ (And.intro rfl (And.intro (Nat.le_of_ble_eq_true rfl) (And.intro rfl ?_))))
      exact And.intro rfl (And.intro rfl rfl))
  refine ⟨T7, _, r, k2, X7, N6, by rw [e7]; exact V6, fun t z => ?_⟩
  refine st1 _ ?_
  refine st2 _ ?_
  refine st3 _ ?_
  refine st4 _ ?_
  refine st5 _ ?_
  refine st6 _ ?_
  refine st7 _ ?_
  exact z
set_option maxRecDepth 65536 in
set_option maxHeartbeats 2000000 in
theorem own_road3 {T : State} (hx : p.tables.exec = Jvm.exec) (hby : c'.code = code) (hZ : Z.Warmed39 s.vm) (hown : s.vm.findClass "com/example/gainsay/gainsay/smt/SortProductPinLaw" = some m.cls) (hw : ∀ d ∈ tables_1, d.before aa Z = true) (hml : c'.maxLocals = 17) (hC : ∀ q ∈ own_C Z, own_CallOk l Z aa "com/example/gainsay/gainsay/smt/SortProductPinLaw" room_1 0 q) (a0' b0 c0 : Int64) (n : Int32) (a b c : Int64) (ha : 0 ≤ a.toInt) (hb' : 0 ≤ b.toInt) (hc : 0 ≤ c.toInt) (h0 : Heap) (n0 : Nat) (Z0 : n0 ≤ h0.size) (X0 : Stand p l e room_1 s m args below meth c' T [] 0 0) (e0 : T.heap = h0) :
    ∃ T' locs r k, Stand p l e room_1 s m args below meth c' T' locs 1 3 ∧ Fr n0 locs ∧ Arv Z T'.heap r k .long (3 : Int32) [.long a, .long b, .long c] (.long 0) ∧ ∀ t, Steps p.tables e below (T'.setTop (mkF m 146 #[.val (.long a0'), .second, .val (.long b0), .second, .val (.long c0), .second, .val (.int n), .val (.long a), .second, .val (.long b), .second, .val (.long c), .second, .val (.int 3), .val (.ref r), .val (.long (own_op (own_op (own_op 1 a) b) c)), .second] [])) t → Steps p.tables e below (T.setTop (mkF m 28 #[.val (.long a0'), .second, .val (.long b0), .second, .val (.long c0), .second, .val (.int n), .val (.long a), .second, .val (.long b), .second, .val (.long c), .second, .val (.int 3), .unset, .unset, .unset] [])) t := by
  have N0 := Fr.nil n0
  have p1 : 0 ≤ (1 : Int64).toInt := by decide
  have p2 := own_op_nonneg p1 ha
  have p3 := own_op_nonneg p2 hb'
  obtain ⟨T1, X1, e1, st1⟩ := own_seg X0 hx hby hZ hown hw own_tb0_ok (E := own_E Z h0) hml ⟨hC, (fun q hq => by cases hq), (fun q hq => by cases hq), (fun q hq => by cases hq)⟩ (by decide) (by decide) e0 (stop := [146]) (n := 40) (pc0 := 28) (pc1 := 109) (L0 := #[.val (.long a0'), .second, .val (.long b0), .second, .val (.long c0), .second, .val (.int n), .val (.long a), .second, .val (.long b), .second, .val (.long c), .second, .val (.int 3), .unset, .unset, .unset]) (L1 := #[.val (.long a0'), .second, .val (.long b0), .second, .val (.long c0), .second, .val (.int n), .val (.long a), .second, .val (.long b), .second, .val (.long c), .second, .val (.int 3), .unset, .unset, .unset]) (st0 := []) (st1 := [.int 3]) (by
      refine And.intro (fun _ => ?_) (fun q => absurd (show ¬ (3 : Int32) = 0 by decide) q)
      refine And.intro (fun _ => ?_) (fun q => absurd (show ¬ (3 : Int32) = 1 by decide) q)
      refine And.intro (fun _ => ?_) (fun q => absurd (show ¬ (3 : Int32) = 2 by decide) q)
      exact And.intro rfl (And.intro rfl rfl))
  obtain ⟨T2, h2, k2, X2, e2, E2, A2, st2⟩ := newP X1 hx hZ (hw _ (List.mem_of_getElem? (i := 1) rfl)) e1 (g := (mkF m 109 #[.val (.long a0'), .second, .val (.long b0), .second, .val (.long c0), .second, .val (.int n), .val (.long a), .second, .val (.long b), .second, .val (.long c), .second, .val (.int 3), .unset, .unset, .unset] [.int (3 : Int32)])) rfl (hb hby at_109) rfl (by decide) (cap := 3) (by decide) (by decide) (by decide) (by decide)
  obtain ⟨r, gr⟩ : ∃ z, z = h0.size := ⟨_, rfl⟩
  rw [← gr] at A2 st2
  have V2 : Arv Z h2 r k2 .long (3 : Int32) [(.long (0 : Int64)), (.long (0 : Int64)), (.long (0 : Int64))] (.long (0 : Int64)) := (Arv.new A2 (by decide)).pad (pad_rep [] (.long (0 : Int64)) 3)
  have rn : n0 ≤ r := Nat.le_trans Z0 (Nat.le_of_eq gr.symm)
  obtain ⟨T3, X3, e3, st3⟩ := own_seg X2 hx hby hZ hown hw own_tb0_ok (E := own_E Z h2) hml ⟨hC, (fun q hq => by cases hq), (fun q hq => by cases hq), (fun q hq => by cases hq)⟩ (by decide) (by decide) e2 (stop := [146]) (n := 40) (pc0 := 111) (pc1 := 115) (L0 := #[.val (.long a0'), .second, .val (.long b0), .second, .val (.long c0), .second, .val (.int n), .val (.long a), .second, .val (.long b), .second, .val (.long c), .second, .val (.int 3), .unset, .unset, .unset]) (L1 := #[.val (.long a0'), .second, .val (.long b0), .second, .val (.long c0), .second, .val (.int n), .val (.long a), .second, .val (.long b), .second, .val (.long c), .second, .val (.int 3), .unset, .unset, .unset]) (st0 := [.ref r]) (st1 := [.long a, .int 0, .ref r, .ref r]) (And.intro rfl (And.intro rfl rfl))
  obtain ⟨cl4, Ar4, q4, S4, Nn4, H4, G4⟩ := V2
  have hin4 : ¬ ((0 : Int32) < 0 ∨ cl4.slots.size ≤ (0 : Int32).toNatClampNeg) := inb_of S4 ⟨by decide, by decide⟩
  obtain ⟨T4, h4, X4, e4, W4, st4⟩ := stJ X3 hx hZ e3 Ar4 (j := (0 : Int32)) hin4 (g := (mkF m 115 #[.val (.long a0'), .second, .val (.long b0), .second, .val (.long c0), .second, .val (.int n), .val (.long a), .second, .val (.long b), .second, .val (.long c), .second, .val (.int 3), .unset, .unset, .unset] [.long a, .int (0 : Int32), .ref r, .ref r])) rfl rfl (hb hby at_115)
  have V4 := Arv.set Ar4 q4 S4 Nn4 H4 G4 rfl W4 0 rfl (Nat.le_of_ble_eq_true rfl)
  have N4 := Fr.snoc X4 N0 rn
  obtain ⟨T5, X5, e5, st5⟩ := own_seg X4 hx hby hZ hown hw own_tb0_ok (E := own_E Z h4) hml ⟨hC, (fun q hq => by cases hq), (fun q hq => by cases hq), (fun q hq => by cases hq)⟩ (by decide) (by decide) e4 (stop := [146]) (n := 40) (pc0 := 116) (pc1 := 120) (L0 := #[.val (.long a0'), .second, .val (.long b0), .second, .val (.long c0), .second, .val (.int n), .val (.long a), .second, .val (.long b), .second, .val (.long c), .second, .val (.int 3), .unset, .unset, .unset]) (L1 := #[.val (.long a0'), .second, .val (.long b0), .second, .val (.long c0), .second, .val (.int n), .val (.long a), .second, .val (.long b), .second, .val (.long c), .second, .val (.int 3), .unset, .unset, .unset]) (st0 := [.ref r]) (st1 := [.long b, .int 1, .ref r, .ref r]) (And.intro rfl (And.intro rfl rfl))
  obtain ⟨cl6, Ar6, q6, S6, Nn6, H6, G6⟩ := V4
  have hin6 : ¬ ((1 : Int32) < 0 ∨ cl6.slots.size ≤ (1 : Int32).toNatClampNeg) := inb_of S6 ⟨by decide, by decide⟩
  obtain ⟨T6, h6, X6, e6, W6, st6⟩ := stJ X5 hx hZ e5 Ar6 (j := (1 : Int32)) hin6 (g := (mkF m 120 #[.val (.long a0'), .second, .val (.long b0), .second, .val (.long c0), .second, .val (.int n), .val (.long a), .second, .val (.long b), .second, .val (.long c), .second, .val (.int 3), .unset, .unset, .unset] [.long b, .int (1 : Int32), .ref r, .ref r])) rfl rfl (hb hby at_120)
  have V6 := Arv.set Ar6 q6 S6 Nn6 H6 G6 rfl W6 1 rfl (Nat.le_of_ble_eq_true rfl)
  have N6 := Fr.snoc X6 N4 rn
  obtain ⟨T7, X7, e7, st7⟩ := own_seg X6 hx hby hZ hown hw own_tb0_ok (E := own_E Z h6) hml ⟨hC, (fun q hq => by cases hq), (fun q hq => by cases hq), (fun q hq => by cases hq)⟩ (by decide) (by decide) e6 (stop := [146]) (n := 40) (pc0 := 121) (pc1 := 125) (L0 := #[.val (.long a0'), .second, .val (.long b0), .second, .val (.long c0), .second, .val (.int n), .val (.long a), .second, .val (.long b), .second, .val (.long c), .second, .val (.int 3), .unset, .unset, .unset]) (L1 := #[.val (.long a0'), .second, .val (.long b0), .second, .val (.long c0), .second, .val (.int n), .val (.long a), .second, .val (.long b), .second, .val (.long c), .second, .val (.int 3), .unset, .unset, .unset]) (st0 := [.ref r]) (st1 := [.long c, .int 2, .ref r, .ref r]) (And.intro rfl (And.intro rfl rfl))
  obtain ⟨cl8, Ar8, q8, S8, Nn8, H8, G8⟩ := V6
  have hin8 : ¬ ((2 : Int32) < 0 ∨ cl8.slots.size ≤ (2 : Int32).toNatClampNeg) := inb_of S8 ⟨by decide, by decide⟩
  obtain ⟨T8, h8, X8, e8, W8, st8⟩ := stJ X7 hx hZ e7 Ar8 (j := (2 : Int32)) hin8 (g := (mkF m 125 #[.val (.long a0'), .second, .val (.long b0), .second, .val (.long c0), .second, .val (.int n), .val (.long a), .second, .val (.long b), .second, .val (.long c), .second, .val (.int 3), .unset, .unset, .unset] [.long c, .int (2 : Int32), .ref r, .ref r])) rfl rfl (hb hby at_125)
  have V8 := Arv.set Ar8 q8 S8 Nn8 H8 G8 rfl W8 2 rfl (Nat.le_of_ble_eq_true rfl)
  have N8 := Fr.snoc X8 N6 rn
  obtain ⟨T9, X9, e9, st9⟩ := own_seg X8 hx hby hZ hown hw own_tb0_ok (E := own_E Z h8) hml ⟨hC, (fun q hq => by cases hq), (fun q hq => by cases hq), (fun q hq => by cases hq)⟩ (by decide) (by decide) e8 (stop := [146]) (n := 40) (pc0 := 126) (pc1 := 146) (L0 := #[.val (.long a0'), .second, .val (.long b0), .second, .val (.long c0), .second, .val (.int n), .val (.long a), .second, .val (.long b), .second, .val (.long c), .second, .val (.int 3), .unset, .unset, .unset]) (L1 := #[.val (.long a0'), .second, .val (.long b0), .second, .val (.long c0), .second, .val (.int n), .val (.long a), .second, .val (.long b), .second, .val (.long c), .second, .val (.int 3), .val (.ref r), .val (.long (own_op (own_op (own_op 1 a) b) c)), .second]) (st0 := [.ref r]) (st1 := []) (by
      refine Exists.intro (.long (own_op 1 a)) (And.intro ⟨_, _, rfl, p1, ha, rfl⟩ (And.intro rfl (And.intro (Nat.le_of_ble_eq_true rfl) (And.intro rfl ?_))))
      refine Exists.intro (.long (own_op (own_op 1 a) b)) (And.intro ⟨_, _, rfl, p2, hb', rfl⟩ (And.intro rfl (And.intro (Nat.le_of_ble_eq_true rfl) (And.intro rfl ?_))))
      refine Exists.intro (.long (own_op (own_op (own_op 1 a) b) c)) (And.intro ⟨_, _, rfl, p3, hc, rfl⟩ (And.intro rfl (And.intro (Nat.le_of_ble_eq_true rfl) (And.intro rfl ?_))))
      exact And.intro rfl (And.intro rfl rfl))
  refine ⟨T9, _, r, k2, X9, N8, by rw [e9]; exact V8, fun t z => ?_⟩
  refine st1 _ ?_
  refine st2 _ ?_
  refine st3 _ ?_
  refine st4 _ ?_
  refine st5 _ ?_
  refine st6 _ ?_
  refine st7 _ ?_
  refine st8 _ ?_
  refine st9 _ ?_
  exact z
end own_Roads
theorem own_k4 (n : Int32) : (n &&& 3) = 0 ∨ (n &&& 3) = 1 ∨ (n &&& 3) = 2 ∨ (n &&& 3) = 3 := by
  have e1 : (n &&& 3).toInt = n.toInt % 2 ^ 2 := Jvm.Kit.i32_mask n 3 (k := 2) (by decide) (by decide)
  have i : ∀ (c d : Int32) (k : Int), d.toInt = k → c.toInt = k → c = d := fun c d k h1 h2 => Int32.toInt_inj.mp (by rw [h1, h2])
  have r : (n &&& 3).toInt = 0 ∨ (n &&& 3).toInt = 1 ∨ (n &&& 3).toInt = 2 ∨ (n &&& 3).toInt = 3 := by omega
  rcases r with r | r | r | r
  · exact Or.inl (i _ 0 0 rfl r)
  · exact Or.inr (Or.inl (i _ 1 1 rfl r))
  · exact Or.inr (Or.inr (Or.inl (i _ 2 2 rfl r)))
  · exact Or.inr (Or.inr (Or.inr (i _ 3 3 rfl r)))
theorem own_msk (a : Int64) : 0 ≤ (a &&& 9223372036854775807).toInt := by rw [Jvm.Kit.i64_mask a 9223372036854775807 (k := 63) (by decide) (by decide)]; exact Int.emod_nonneg _ (by decide)
theorem own_efL (m : MethodId) (a0' b0 c0 : Int64) (n : Int32) : entryFrame m #[(.long a0'), (.long b0), (.long c0), (.int n)] maxLocals = mkF m 0 #[.val (.long a0'), .second, .val (.long b0), .second, .val (.long c0), .second, .val (.int n), .unset, .unset, .unset, .unset, .unset, .unset, .unset, .unset, .unset, .unset] [] := by first | (simp [entryFrame, mkF, argsToLocals, Value.category, maxLocals]; done) | rfl
set_option maxRecDepth 65536 in
set_option maxHeartbeats 4000000 in
theorem own_law (l : Launch) (Z : State) (aa : Array Value) (hw : ∀ d ∈ tables_1, d.before aa Z = true) (ws : List Jvm.Cond) (a0' b0 c0 : Int64) (n : Int32) (h0 : Heap) (n0 : Nat) (Z0 : n0 ≤ h0.size) :
    MetFree l x (head1 (Jvm.Cond.code x code maxLocals ret :: ws) room_1) (fun a' U => a' = #[(.long a0'), (.long b0), (.long c0), (.int n)] ∧ Z.Warmed39 U.vm ∧ U.heap = h0) (fun _ _ _ _ _ => True) (fun _ U o U' => ∃ v L, o = .returned v ∧ (v = some (.int 1) ∧ Fr n0 L) ∧ FrameEnd U o U' L room_1.cells room_1.slots) := by
  refine MetFree.of_bodySF (plainFor_of_name (by decide +kernel)) hisR ?_
  intro p e s m args below meth c' s₁ Bd hml0 hP hK
  obtain ⟨rfl, hZ, hh⟩ := hP
  have hx := Bd.exec
  have hby := Bd.bytes
  have hml : c'.maxLocals = 17 := hml0
  have hown : s.vm.findClass "com/example/gainsay/gainsay/smt/SortProductPinLaw" = some m.cls := findClass_of_methodNamed Bd.named
  have X0 : Stand p l e room_1 s m #[(.long a0'), (.long b0), (.long c0), (.int n)] below meth c' s₁ [] 0 0 := Stand.of_body Bd
  have e0 : s₁.heap = h0 := by rw [← hh, Bd.state]; rfl
  have hC : ∀ q ∈ own_C Z, own_CallOk l Z aa "com/example/gainsay/gainsay/smt/SortProductPinLaw" room_1 0 q := fun q hq => by
    simp only [own_C, List.mem_cons, List.not_mem_nil, or_false] at hq
    rcases hq with rfl | rfl
    · exact ⟨_, _, _, _, _, own_m1 l Z aa hw, hw _ (List.mem_of_getElem? (i := 2) rfl), hw _ (List.mem_of_getElem? (i := 3) rfl), hw _ (List.mem_of_getElem? (i := 4) rfl), hw _ (List.mem_of_getElem? (i := 5) rfl), by decide, ⟨_, _, (by decide +kernel : parseMethodDescriptor "(JJ)J" = some ⟨[.long, .long], some .long⟩), rfl⟩, rfl, rfl, by decide, by decide⟩
    · exact ⟨_, _, _, _, _, own_m2 l Z aa hw, hw _ (List.mem_of_getElem? (i := 6) rfl), hw _ (List.mem_of_getElem? (i := 7) rfl), hw _ (List.mem_of_getElem? (i := 8) rfl), hw _ (List.mem_of_getElem? (i := 9) rfl), by decide, ⟨_, _, (by decide +kernel : parseMethodDescriptor "([J)J" = some ⟨[.array .long], some .long⟩), rfl⟩, rfl, rfl, by decide, by decide⟩
  have pre0 : ∀ t, Steps p.tables e below (s₁.setTop (mkF m 0 #[.val (.long a0'), .second, .val (.long b0), .second, .val (.long c0), .second, .val (.int n), .unset, .unset, .unset, .unset, .unset, .unset, .unset, .unset, .unset, .unset] [])) t → Steps p.tables e below (s₁.setTop (entryFrame m #[(.long a0'), (.long b0), (.long c0), (.int n)] maxLocals)) t := fun t k => castTop (own_efL m a0' b0 c0 n) k
  obtain ⟨T1, X1, e1, st1⟩ := own_seg X0 hx hby hZ hown hw own_tb0_ok (E := own_E Z h0) hml ⟨hC, (fun q hq => by cases hq), (fun q hq => by cases hq), (fun q hq => by cases hq)⟩ (by decide) (by decide) e0 (own_b0 Z a0' b0 c0 n h0)
  obtain ⟨T2, X2, e2, st2⟩ := own_seg X1 hx hby hZ hown hw own_tb0_ok (E := own_E Z h0) hml ⟨hC, (fun q hq => by cases hq), (fun q hq => by cases hq), (fun q hq => by cases hq)⟩ (by decide) (by decide) e1 (own_b7 Z a0' b0 c0 n (a0' &&& 9223372036854775807) h0)
  obtain ⟨T3, X3, e3, st3⟩ := own_seg X2 hx hby hZ hown hw own_tb0_ok (E := own_E Z h0) hml ⟨hC, (fun q hq => by cases hq), (fun q hq => by cases hq), (fun q hq => by cases hq)⟩ (by decide) (by decide) e2 (own_b14 Z a0' b0 c0 n (a0' &&& 9223372036854775807) (b0 &&& 9223372036854775807) h0)
  obtain ⟨T4, X4, e4, st4⟩ := own_seg X3 hx hby hZ hown hw own_tb0_ok (E := own_E Z h0) hml ⟨hC, (fun q hq => by cases hq), (fun q hq => by cases hq), (fun q hq => by cases hq)⟩ (by decide) (by decide) e3 (own_b22 Z a0' b0 c0 n (a0' &&& 9223372036854775807) (b0 &&& 9223372036854775807) (c0 &&& 9223372036854775807) h0)
  have ha := own_msk a0'
  have hb' := own_msk b0
  have hc := own_msk c0
  have hk := own_k4 n
  generalize (n &&& 3) = k at *
  generalize (a0' &&& 9223372036854775807) = a at *
  generalize (b0 &&& 9223372036854775807) = b at *
  generalize (c0 &&& 9223372036854775807) = c at *
  have fin : ∀ (T : State) (locs : List Loc) (r : Addr) (sl : Nat) (ex : Int64), Stand p l e room_1 s m #[(.long a0'), (.long b0), (.long c0), (.int n)] below meth c' T locs 1 sl → sl ≤ 4 → Fr n0 locs → own_P2 Z T.heap [.ref r] (.long ex) → (∀ t, Steps p.tables e below (T.setTop (mkF m 146 #[.val (.long a0'), .second, .val (.long b0), .second, .val (.long c0), .second, .val (.int n), .val (.long a), .second, .val (.long b), .second, .val (.long c), .second, .val (.int k), .val (.ref r), .val (.long ex), .second] [])) t → Steps p.tables e below (T4.setTop (mkF m 28 #[.val (.long a0'), .second, .val (.long b0), .second, .val (.long c0), .second, .val (.int n), .val (.long a), .second, .val (.long b), .second, .val (.long c), .second, .val (.int k), .unset, .unset, .unset] [])) t) →
      ∃ s₂ o, Steps p.tables e below (s₁.setTop (entryFrame m #[(.long a0'), (.long b0), (.long c0), (.int n)] maxLocals)) s₂ ∧ s₂.status = .running ∧ Ended s₂ below o ∧ ∃ v L, o = .returned v ∧ (v = some (.int 1) ∧ Fr n0 L) ∧ FrameEnd s o s₂ L room_1.cells room_1.slots := by
    intro T locs r sl ex X hsl N hA st
    obtain ⟨T6, pc6, L6, st6', X6, e6, ⟨hpc, htop⟩, st6⟩ := own_wp_sound hx hby hZ hown hw own_tb0_ok (E := own_E Z T.heap) hml ⟨hC, (fun q hq => by cases hq), (fun q hq => by cases hq), (fun q hq => by cases hq)⟩ (by decide) (Nat.le_trans hsl (by decide)) (stop := []) (Q := own_Q) 40 146 _ [] X rfl (own_t146 Z a0' b0 c0 n a b c k r ex T.heap hA)
    have hd6 : decode code pc6 = .ok (.ireturn, 1) := by
      have : pc6 = 162 := by simpa using hpc
      subst this; exact at_162
    obtain ⟨fs, hr, hrun, hended, hW, hsame⟩ := X6.leave (v := some (.int (1 : Int32))) (fun h => by rw [Bd.returns] at h; cases h)
    refine ⟨_, _, pre0 _ ?_, hrun, hended, _, _, rfl, ⟨rfl, N⟩, ⟨_, rfl⟩, hW, hsame.mono (by decide) (Nat.le_trans hsl (by decide))⟩
    refine st1 _ ?_
    refine st2 _ ?_
    refine st3 _ ?_
    refine st4 _ ?_
    refine st _ ?_
    refine st6 _ ?_
    exact own_ret X6 hx Bd.returns (hb hby hd6) htop hr
  rcases hk with rfl | rfl | rfl | rfl
  · obtain ⟨T, locs, r, kk, X, N, hA, st⟩ := own_road0 hx hby hZ hown hw hml hC a0' b0 c0 n a b c ha hb' hc h0 n0 Z0 X4 e4
    exact fin T locs r 0 1 X (by decide) N ⟨r, kk, [], rfl, by simp, hA, (by simp), rfl⟩ st
  · obtain ⟨T, locs, r, kk, X, N, hA, st⟩ := own_road1 hx hby hZ hown hw hml hC a0' b0 c0 n a b c ha hb' hc h0 n0 Z0 X4 e4
    exact fin T locs r 1 (own_op 1 a) X (by decide) N ⟨r, kk, [a], rfl, by simp, hA, (by intro y hy; simp only [List.mem_cons, List.not_mem_nil, or_false] at hy; rcases hy with rfl <;> assumption), rfl⟩ st
  · obtain ⟨T, locs, r, kk, X, N, hA, st⟩ := own_road2 hx hby hZ hown hw hml hC a0' b0 c0 n a b c ha hb' hc h0 n0 Z0 X4 e4
    exact fin T locs r 2 (own_op (own_op 1 a) b) X (by decide) N ⟨r, kk, [a, b], rfl, by simp, hA, (by intro y hy; simp only [List.mem_cons, List.not_mem_nil, or_false] at hy; rcases hy with rfl | rfl <;> assumption), rfl⟩ st
  · obtain ⟨T, locs, r, kk, X, N, hA, st⟩ := own_road3 hx hby hZ hown hw hml hC a0' b0 c0 n a b c ha hb' hc h0 n0 Z0 X4 e4
    exact fin T locs r 3 (own_op (own_op (own_op 1 a) b) c) X (by decide) N ⟨r, kk, [a, b, c], rfl, by simp, hA, (by intro y hy; simp only [List.mem_cons, List.not_mem_nil, or_false] at hy; rcases hy with rfl | rfl | rfl <;> assumption), rfl⟩ st
set_option maxRecDepth 65536 in
theorem comes_1 {Post : Tables → Env → Array Value → State → Outcome → State → Prop} (hpost : ∀ tb e args s v u, (limb_1_1.after args s (.returned v) u = true ∧ limb_1_2.after args s (.returned v) u = true ∧ True) → FrameEnd s (.returned v) u (Jvm.fieldLocs frame_1_writes args s ++ Jvm.arrayLocs frame_1_arrays args s ++ Jvm.staticLocs frame_1_statics s) 16 128 → Post tb e args s (.returned v) u) :
    ArmFor flags0 classFile x code maxLocals ret World_1 tables_1 room_1 Calls_1 rest_1 Pre_1 Post := by
  intro l hfl _ _ p e ha hc hk s m args below hf hA hF happ hP
  obtain ⟨hcalls, hrest, hpre⟩ := hP
  obtain ⟨-, -, -, hnamed, -, -, -, hat⟩ := (Spec.applies_iff hf).mp happ
  obtain ⟨hg, hn⟩ := and_e (Cond.before_iff.mp (show (Jvm.Cond.and given_1 narrow_1).before args s = true from hpre))
  obtain ⟨hcount, k0⟩ := and_e hg
  obtain ⟨g0, k1⟩ := and_e k0
  obtain ⟨g1, k2⟩ := and_e k1
  obtain ⟨g2, k3⟩ := and_e k2
  obtain ⟨w0, w1, w2, w3, rfl⟩ : ∃ w0 w1 w2 w3 : Value, args = #[w0, w1, w2, w3] := by
    have hs : args.size = 4 := by simpa [Cond.value, given_1] using hcount
    obtain ⟨L⟩ := args
    match L, hs with
    | [w0, w1, w2, w3], _ => exact ⟨w0, w1, w2, w3, rfl⟩
  have hw := fun d (hd : d ∈ tables_1) => atoms_spec (ws := Jvm.Cond.code x code maxLocals ret :: tables_1) hat d (List.mem_cons_of_mem _ hd)
  obtain ⟨i0, ei0⟩ := isL_v g0
  obtain rfl : w0 = (.long i0) := Option.some.inj ei0
  obtain ⟨i1, ei1⟩ := isL_v g1
  obtain rfl : w1 = (.long i1) := Option.some.inj ei1
  obtain ⟨i2, ei2⟩ := isL_v g2
  obtain rfl : w2 = (.long i2) := Option.some.inj ei2
  obtain ⟨i3, ei3⟩ := is_v k3
  obtain rfl : w3 = (.int i3) := Option.some.inj ei3
  obtain ⟨n, o, h1, h2, h3, _, L, rfl, ⟨rfl, N⟩, hq⟩ := own_law l s _ hw tables_1 i0 i1 i2 i3 s.heap s.heap.size (Nat.le_refl _) p e ha hc hk s m _ below hf ((Spec.applies_iff_loose hf).mp happ).1 ⟨rfl, State.Warmed39.refl s, rfl⟩ trivial
  refine ⟨n, _, h1, h2, h3, hpost _ _ _ _ _ _ ⟨Cond.after_iff.mpr rfl, Cond.after_iff.mpr (eq_i res_at (Term.int_eval (1)) rfl), trivial⟩ ⟨hq.1, hq.2.1, (hq.2.2.sift fun y hy => Or.inr (N y hy)).mono (by decide) (by decide)⟩⟩
theorem main_1_1 : Claimed_1_1 := comes_1 fun _ _ _ _ _ _ h hF => ⟨h.1, hF⟩
theorem main_1_2 : Claimed_1_2 := comes_1 fun _ _ _ _ _ _ h hF => ⟨h.2.1, hF⟩
end Jvm.Pilot.@@N@@
namespace Jvm.Pilot.@@N@@
open Jvm Jvm.ClassFile Sem Op Lib Jvm.Free Jvm.Stand Jvm.Pilot.@@N@@.Jvm.D
/-! MADE BY PROGRAM (witnessworld.py) out of the Statement's table words and the real class files: 11 classes; the members and pool entries that the words name. The judged class is class 1, her method 2. -/
namespace start1
open Jvm.ClassFile
def u (s : String) : CpInfo := .utf8 (stringToUtf16 s)
/-- a pool by its gaps: so many unusable entries, then the entry; so many at the end -/
def gap : Nat → List CpInfo → List CpInfo
  | 0, r => r
  | n + 1, r => .unusable :: gap n r
def poolList (es : List (Nat × CpInfo)) (last : Nat) : List CpInfo := es.foldr (fun e r => gap e.1 (e.2 :: r)) (gap last [])
def pool (es : List (Nat × CpInfo)) (last : Nat) : Array CpInfo := ⟨poolList es last⟩
def fileOf (pool : Array CpInfo) (this : Nat) (attrs : Array Attribute := #[]) (ms : Array MethodInfo := #[]) (fl : Nat := 33) (sup : Nat := 0) (ifs : Array Nat := #[]) (fds : Array FieldInfo := #[]) : ClassFile where
  minorVersion := 0
  majorVersion := 65
  constantPool := pool
  accessFlags := fl
  thisClass := this
  superClass := sup
  interfaces := ifs
  fields := fds
  methods := ms
  attributes := attrs
def plain (name : String) (sup : Option ClassId) : Class where
  name := name
  kind := .ordinary
  loader := none
  accessFlags := 33
  super := sup
  interfaces := #[]
  cf := none
  fields := #[]
  methods := #[]
  instanceTypes := #[]
  staticTypes := #[]
  resolved := #[]
  callSites := []
  init := .initialized
  statics := none
  mirror := none

def pool0 : Array CpInfo := pool [(5, u "<init>"), (0, u "()V"), (1, .class_ 10), (1, u "java/lang/Object")] 113

def k0m0 : Method := { name := "<init>", desc := "()V", sig := { parameters := [], returnType := none }, accessFlags := 1, code := none }
/-- java/lang/Object -/
def k0 : Class := { plain "java/lang/Object" none with
  accessFlags := 33
  interfaces := #[]
  cf := some (fileOf pool0 8 #[] #[{ accessFlags := 1, nameIndex := 5, descriptorIndex := 6, attributes := #[] }] 33 0 #[] #[])
  fields := #[]
  methods := #[k0m0]
  instanceTypes := #[]
  staticTypes := #[]
  resolved := Array.replicate 124 none
  statics := none }

def pool1 : Array CpInfo := pool [(2, .class_ 4), (1, u "java/lang/Object"), (0, u "<init>"), (0, u "()V"), (2, .long 9223372036854775807), (1, .methodref 12 13), (0, .class_ 14), (0, .nameAndType 15 16), (0, u "com/example/gainsay/gainsay/smt/SortProductPinLaw"), (0, u "sat"), (0, u "(JJ)J"), (0, .methodref 18 19), (0, .class_ 20), (0, .nameAndType 21 22), (0, u "com/example/gainsay/gainsay/smt/Sort"), (0, u "product"), (0, u "([J)J"), (3, u "law"), (0, u "(JJJI)Z")] 4

def k1m0 : Method := { name := "<init>", desc := "()V", sig := { parameters := [], returnType := none }, accessFlags := 2, code := none }
def k1c1 : Code := { maxStack := 4, maxLocals := 6, code := method_2_code, exceptionTable := #[], attributes := #[] }
def k1m1 : Method := { name := "sat", desc := "(JJ)J", sig := { parameters := [.long, .long], returnType := some .long }, accessFlags := 10, code := some k1c1 }
def k1c2 : Code := { maxStack := 5, maxLocals := 17, code := code, exceptionTable := #[], attributes := #[] }
def k1m2 : Method := { name := "law", desc := "(JJJI)Z", sig := { parameters := [.long, .long, .long, .int], returnType := some .boolean }, accessFlags := 9, code := some k1c2 }
/-- com/example/gainsay/gainsay/smt/SortProductPinLaw -/
def k1 : Class := { plain "com/example/gainsay/gainsay/smt/SortProductPinLaw" (some 0) with
  accessFlags := 49
  interfaces := #[]
  cf := some (fileOf pool1 12 #[] #[{ accessFlags := 2, nameIndex := 5, descriptorIndex := 6, attributes := #[] }, { accessFlags := 10, nameIndex := 15, descriptorIndex := 16, attributes := #[] }, { accessFlags := 9, nameIndex := 26, descriptorIndex := 27, attributes := #[] }] 49 2 #[] #[])
  fields := #[]
  methods := #[k1m0, k1m1, k1m2]
  instanceTypes := #[]
  staticTypes := #[]
  resolved := Array.replicate 32 none
  statics := none }

def pool2 : Array CpInfo := pool [(8, .class_ 10), (1, u "com/example/gainsay/gainsay/smt/Sort"), (3, .class_ 16), (1, u "java/lang/Object"), (3, u "constructors"), (0, u "Ljava/util/List;"), (2, u "byZero"), (2, u "written"), (0, u "Ljava/lang/String;"), (2, u "integers"), (0, u "Lcom/example/gainsay/gainsay/smt/Token;"), (2, u "datatype"), (0, u "Lcom/example/gainsay/gainsay/smt/Datatype;"), (6, u "arguments"), (2, u "typeParameter"), (0, u "Z"), (11, u "elementPrefix"), (66, u "BOOL"), (0, u "Lcom/example/gainsay/gainsay/smt/Sort;"), (73, u "infinite"), (0, u "Ljava/lang/Boolean;"), (44, .long 9223372036854775807), (12, u "([J)J"), (16, u "product")] 182

def k2c0 : Code := { maxStack := 6, maxLocals := 8, code := prog_173_method_24_code, exceptionTable := #[], attributes := #[] }
def k2m0 : Method := { name := "product", desc := "([J)J", sig := { parameters := [(.array .long)], returnType := some .long }, accessFlags := 136, code := some k2c0 }
/-- com/example/gainsay/gainsay/smt/Sort -/
def k2 : Class := { plain "com/example/gainsay/gainsay/smt/Sort" (some 0) with
  accessFlags := 48
  interfaces := #[]
  cf := some (fileOf pool2 8 #[] #[{ accessFlags := 136, nameIndex := 277, descriptorIndex := 260, attributes := #[] }] 48 14 #[] #[{ accessFlags := 24, nameIndex := 126, descriptorIndex := 127, attributes := #[] }, { accessFlags := 18, nameIndex := 27, descriptorIndex := 28, attributes := #[] }, { accessFlags := 18, nameIndex := 31, descriptorIndex := 32, attributes := #[] }, { accessFlags := 18, nameIndex := 35, descriptorIndex := 36, attributes := #[] }, { accessFlags := 18, nameIndex := 43, descriptorIndex := 21, attributes := #[] }, { accessFlags := 18, nameIndex := 46, descriptorIndex := 47, attributes := #[] }, { accessFlags := 2, nameIndex := 59, descriptorIndex := 28, attributes := #[] }, { accessFlags := 2, nameIndex := 20, descriptorIndex := 21, attributes := #[] }, { accessFlags := 2, nameIndex := 24, descriptorIndex := 21, attributes := #[] }, { accessFlags := 2, nameIndex := 201, descriptorIndex := 202, attributes := #[] }])
  fields := #[{ name := "BOOL", type := (.object "com/example/gainsay/gainsay/smt/Sort"), accessFlags := 24, slot := 0, constantValue := 0 }, { name := "written", type := (.object "java/lang/String"), accessFlags := 18, slot := 0, constantValue := 0 }, { name := "integers", type := (.object "com/example/gainsay/gainsay/smt/Token"), accessFlags := 18, slot := 1, constantValue := 0 }, { name := "datatype", type := (.object "com/example/gainsay/gainsay/smt/Datatype"), accessFlags := 18, slot := 2, constantValue := 0 }, { name := "arguments", type := (.object "java/util/List"), accessFlags := 18, slot := 3, constantValue := 0 }, { name := "typeParameter", type := .boolean, accessFlags := 18, slot := 4, constantValue := 0 }, { name := "elementPrefix", type := (.object "java/lang/String"), accessFlags := 2, slot := 5, constantValue := 0 }, { name := "constructors", type := (.object "java/util/List"), accessFlags := 2, slot := 6, constantValue := 0 }, { name := "byZero", type := (.object "java/util/List"), accessFlags := 2, slot := 7, constantValue := 0 }, { name := "infinite", type := (.object "java/lang/Boolean"), accessFlags := 2, slot := 8, constantValue := 0 }]
  methods := #[k2m0]
  instanceTypes := #[(.object "java/lang/String"), (.object "com/example/gainsay/gainsay/smt/Token"), (.object "com/example/gainsay/gainsay/smt/Datatype"), (.object "java/util/List"), .boolean, (.object "java/lang/String"), (.object "java/util/List"), (.object "java/util/List"), (.object "java/lang/Boolean")]
  staticTypes := #[(.object "com/example/gainsay/gainsay/smt/Sort")]
  resolved := Array.replicate 460 none
  statics := none }

def pool3 : Array CpInfo := pool [(1, u "java/lang/Cloneable"), (0, .class_ 1), (0, u "java/lang/Object"), (0, .class_ 3)] 3

/-- java/lang/Cloneable -/
def k3 : Class := { plain "java/lang/Cloneable" (some 0) with
  accessFlags := 1537
  interfaces := #[]
  cf := some (fileOf pool3 2 #[] #[] 1537 4 #[] #[])
  fields := #[]
  methods := #[]
  instanceTypes := #[]
  staticTypes := #[]
  resolved := Array.replicate 8 none
  statics := none }

def pool4 : Array CpInfo := pool [(1, u "java/io/Serializable"), (0, .class_ 1), (0, u "java/lang/Object"), (0, .class_ 3)] 3

/-- java/io/Serializable -/
def k4 : Class := { plain "java/io/Serializable" (some 0) with
  accessFlags := 1537
  interfaces := #[]
  cf := some (fileOf pool4 2 #[] #[] 1537 4 #[] #[])
  fields := #[]
  methods := #[]
  instanceTypes := #[]
  staticTypes := #[]
  resolved := Array.replicate 8 none
  statics := none }

/-- the primitive byte -/
def k5 : Class := { plain "byte" none with kind := .primitive 'B', accessFlags := 0x411 }
/-- [B -/
def k6 : Class := { plain "[B" (some 0) with kind := .array 5 .byte, interfaces := #[3, 4], accessFlags := 1041 }

/-- the primitive int -/
def k7 : Class := { plain "int" none with kind := .primitive 'I', accessFlags := 0x411 }
/-- [I -/
def k8 : Class := { plain "[I" (some 0) with kind := .array 7 .int, interfaces := #[3, 4], accessFlags := 1041 }

/-- the primitive long -/
def k9 : Class := { plain "long" none with kind := .primitive 'J', accessFlags := 0x411 }
/-- [J -/
def k10 : Class := { plain "[J" (some 0) with kind := .array 9 .long, interfaces := #[3, 4], accessFlags := 1041 }

def heap : Heap := #[]
def classes : Array Class := #[k0, k1, k2, k3, k4, k5, k6, k7, k8, k9, k10]
def interned : List (Array UInt16 × Addr) := []
def slotsUsed : Nat := 0
def theMethod : MethodId := ⟨1, 2⟩
def args0 : Array Value := #[.long 5, .long 6, .long 7, .int 3]
def aboutOver (below : List Frame) : State where
  vm := { classes := classes, interned := interned.toArray }
  heap := heap
  slotsUsed := slotsUsed
  threads := #[{ frames := .invoking theMethod args0 :: below }]
def below0 : List Frame := [.native { method := ⟨0, 0⟩, args := #[] }]
def about1 : State := aboutOver below0
def p0 : Program := .bare "" "" ""
def e0 : Env := launch0.env 0 0 0
theorem w_frames : about1.frames = Frame.invoking theMethod args0 :: below0 := rfl
set_option maxRecDepth 65536 in
theorem w_args : argsFit about1.vm theMethod args0 = true := by decide +kernel
set_option maxRecDepth 65536 in
theorem w_heap : heapFits about1 = true := by decide +kernel
set_option maxRecDepth 65536 in
theorem w_runnable : about1.curStatus? = some .runnable := by decide +kernel
set_option maxRecDepth 65536 in
theorem w_alone : about1.alone = true := by decide +kernel
set_option maxRecDepth 65536 in
theorem w_named : about1.methodNamed? x = some theMethod := by decide +kernel
set_option maxRecDepth 65536 in
theorem w_hears : about1.hears theMethod below0 = true := by decide +kernel
set_option maxRecDepth 65536 in
theorem w_ripe : about1.ripe theMethod args0 below0 = true := by decide +kernel
theorem w_running : about1.status = .running := rfl
set_option maxRecDepth 65536 in
theorem w_room : about1.hasRoom e0.platform room_1 = true :=
  launch0.hasRoom_least _ room_1 (by decide +kernel) (by decide +kernel) (by decide +kernel) (by decide +kernel) (by decide +kernel) (by decide +kernel)
theorem allAtoms_all (ts : List Jvm.Cond) (a : Array Jvm.Value) (st : Jvm.State) : (allAtoms ts).before a st = ts.all (fun c => c.before a st) := by
  induction ts with
  | nil => rfl
  | cons c t ih =>
    show (Jvm.Cond.and c (allAtoms t)).before a st = _
    rw [Jvm.Cond.before_and, ih, List.all_cons]
def words1 : List Jvm.Cond := Jvm.Cond.code x code maxLocals ret :: tables_1
/-- a 'code' word, met by the world's own term for the bytes: nothing is compared byte by byte -/
theorem code_word {y : MethodName} {bytes : ByteArray} {mx : Nat} {rt : Option FieldType} {a : Array Value} {s : State} {m : MethodId} {meth : Method} {c : Code} (h1 : s.methodNamed? y = some m) (h2 : s.vm.method? m = some meth) (h3 : meth.code = some c) (h4 : c.code = bytes)
    (h5 : (c.maxLocals == mx && c.exceptionTable.isEmpty && decide (c.maxStack ≤ mostOperands) && decide (meth.sig.returnType = rt) && !meth.locks && decide (parseMethodDescriptor y.desc = some meth.sig)) = true) : (Jvm.Cond.code y bytes mx rt).before a s = true := by
  simp only [Bool.and_eq_true, beq_iff_eq, Bool.not_eq_true', decide_eq_true_eq] at h5
  obtain ⟨⟨⟨⟨⟨g1, g2⟩, g3⟩, g4⟩, g5⟩, g6⟩ := h5
  simp [Cond.before, Cond.holds, Cond.value, h1, h2, h3, h4, g1, g2, g3, g4, g5, g6]
def isCode : Jvm.Cond → Bool
  | .code _ _ _ _ => true
  | _ => false
theorem all_split {L : List Jvm.Cond} {P : Jvm.Cond → Bool} (h1 : L.all (fun c => isCode c || P c) = true) (h2 : ∀ c ∈ L.filter isCode, P c = true) : L.all P = true := by
  refine List.all_eq_true.mpr fun c hc => ?_
  have h := List.all_eq_true.mp h1 c hc
  rcases Bool.eq_false_or_eq_true (isCode c) with hi | hi
  · exact h2 c (List.mem_filter.mpr ⟨hc, hi⟩)
  · simpa [hi] using h
set_option maxRecDepth 65536 in
theorem w_c0 : (Jvm.Cond.code x code maxLocals ret).before args0 about1 = true := code_word (m := ⟨1, 2⟩) (meth := k1m2) (c := k1c2) (by decide +kernel) rfl rfl rfl (by decide +kernel)
set_option maxRecDepth 65536 in
theorem w_c1 : (Jvm.Cond.code ({ cls := "com/example/gainsay/gainsay/smt/SortProductPinLaw", name := "sat", desc := "(JJ)J" } : Jvm.MethodName) method_2_code (6 : Nat) (Option.some Jvm.ClassFile.FieldType.long)).before args0 about1 = true := code_word (m := ⟨1, 1⟩) (meth := k1m1) (c := k1c1) (by decide +kernel) rfl rfl rfl (by decide +kernel)
set_option maxRecDepth 65536 in
theorem w_c2 : (Jvm.Cond.code ({ cls := "com/example/gainsay/gainsay/smt/Sort", name := "product", desc := "([J)J" } : Jvm.MethodName) prog_173_method_24_code (8 : Nat) (Option.some Jvm.ClassFile.FieldType.long)).before args0 about1 = true := code_word (m := ⟨2, 0⟩) (meth := k2m0) (c := k2c0) (by decide +kernel) rfl rfl rfl (by decide +kernel)
def codes1 : List Jvm.Cond := [Jvm.Cond.code x code maxLocals ret, Jvm.Cond.code ({ cls := "com/example/gainsay/gainsay/smt/SortProductPinLaw", name := "sat", desc := "(JJ)J" } : Jvm.MethodName) method_2_code (6 : Nat) (Option.some Jvm.ClassFile.FieldType.long), Jvm.Cond.code ({ cls := "com/example/gainsay/gainsay/smt/Sort", name := "product", desc := "([J)J" } : Jvm.MethodName) prog_173_method_24_code (8 : Nat) (Option.some Jvm.ClassFile.FieldType.long)]
set_option maxRecDepth 65536 in
theorem codes_eq : words1.filter isCode = codes1 := rfl
theorem w_codes : ∀ c ∈ words1.filter isCode, c.before args0 about1 = true := by
  rw [codes_eq]
  intro c hc
  simp only [codes1, List.mem_cons, List.not_mem_nil, or_false] at hc
  rcases hc with rfl | rfl | rfl
  · exact w_c0
  · exact w_c1
  · exact w_c2
set_option maxRecDepth 65536 in
theorem w_t1 : words1.all (fun c => isCode c || c.before args0 about1) = true := by decide +kernel
theorem w_tables : (allAtoms (Jvm.Cond.code x code maxLocals ret :: tables_1)).before args0 about1 = true := by
  rw [allAtoms_all]
  show words1.all (fun c => c.before args0 about1) = true
  refine all_split ?_ w_codes
  rw [w_t1]
set_option maxRecDepth 65536 in
theorem w_case : (Jvm.Cond.and given_1 narrow_1).before args0 about1 = true := by decide +kernel
theorem w_applies : (headSpec (Jvm.Cond.code x code maxLocals ret :: tables_1) room_1).applies x e0.platform about1 = true :=
  (Spec.applies_iff w_frames).mpr ⟨w_running, w_runnable, w_alone, w_named, w_hears, w_ripe, w_room, w_tables⟩
theorem atStart : AtStart classFile x code maxLocals ret World_1 tables_1 room_1 Calls_1 rest_1 Pre_1 launch0 p0 e0 about1 theMethod args0 below0 :=
  ⟨lists_1, trivial, launch0.admits_env _ _ _, launch0.least_env, fairChoices_fair.cas, fairChoices_fair.clock, w_frames, w_args, w_heap, w_applies, trivial, trivial, w_case⟩
end start1
theorem witness_1 : WitnessClaimed_1 := ⟨start1.p0, start1.e0, start1.about1, start1.theMethod, start1.args0, start1.below0, start1.atStart⟩
end Jvm.Pilot.@@N@@
