import JvmDerived
import JvmDerived.Pilot.@@N@@Statement
import JvmDerived.Pilot.@@N@@Code
set_option linter.unusedVariables false
set_option linter.unusedSimpArgs false
@@BLOCK:NumsL.lean.txt@@
namespace Jvm.Pilot.@@N@@
open Jvm Jvm.ClassFile Sem Op Lib Jvm.Free Jvm.Stand Jvm.LawKit Jvm.RoadKit Bundle Jvm.Pilot.@@N@@.Jvm.D
/-! ## mm: a small machine over relative addresses, whose runs are walks of the model (lawnew's family of laws throughout) -/
/-- cells below are read only -/
def mmM : Nat := 7
/-- the statics that the run reads: owner, name, descriptor, value -/
def mmSt : List (String × String × String × Value) := [("java/util/ArrayList", "DEFAULTCAPACITY_EMPTY_ELEMENTDATA", "[Ljava/lang/Object;", .ref 0)]
/-- n0: where the machine's cells lie -/
def mmUp (n0 : Nat → Nat) : Value → Value
  | .ref a => .ref (n0 a)
  | v => v
def mmUpS (n0 : Nat → Nat) : Slot → Slot
  | .val v => .val (mmUp n0 v)
  | x => x
abbrev mmUL (n0 : Nat → Nat) (L : List Slot) : Array Slot := (L.map (mmUpS n0)).toArray
abbrev mmUV (n0 : Nat → Nat) (S : List Value) : List Value := S.map (mmUp n0)
theorem mmUp_cat (n0 : Nat → Nat) (v : Value) : (mmUp n0 v).category = v.category := by cases v <;> rfl
theorem mmUp_isRef (n0 : Nat → Nat) (v : Value) : (mmUp n0 v).isRef = v.isRef := by cases v <;> rfl
/-- an object: its class's number and its fields' values; or an array: its kind and its values -/
abbrev MObj := (Nat × List Value) ⊕ (FieldType × List Value)
abbrev MHeap := List MObj
abbrev MFld := String × String × String × FieldType
abbrev MCls := String × Nat × List MFld
def mmNth {α : Type} : List α → Nat → Option α
  | [], _ => none
  | a :: _, 0 => some a
  | _ :: r, n + 1 => mmNth r n
theorem mmNth_eq {α : Type} : ∀ (l : List α) (n : Nat), mmNth l n = l[n]?
  | [], _ => by simp [mmNth]
  | a :: _, 0 => by simp [mmNth]
  | _ :: r, n + 1 => by simp [mmNth, mmNth_eq r n]
def mmSetAt (l : List Slot) (i : Nat) (x : Slot) : Option (List Slot) := if i < l.length then some (l.set i x) else none
def mmSelf (l : List Slot) (i : Nat) (v : Value) : Option (List Slot) :=
  match mmSetAt l i (.val v) with
  | none => none
  | some l1 =>
    if v.category = 2 then
      match mmNth l1 (i + 1) with
      | none => none
      | some (.val old) => if old.category = 2 then (match mmSetAt l1 (i + 2) .unset with | none => none | some l2 => mmSetAt l2 (i + 1) .second) else mmSetAt l1 (i + 1) .second
      | some _ => mmSetAt l1 (i + 1) .second
    else some l1
def mmStore (l : List Slot) (i : Nat) (v : Value) : Option (List Slot) :=
  match mmNth l i with
  | none => none
  | some .second => (match mmSetAt l (i - 1) .unset with | none => none | some l1 => mmSelf l1 i v)
  | some (.val old) => if old.category = 2 then (match mmSetAt l (i + 1) .unset with | none => none | some l1 => mmSelf l1 i v) else mmSelf l i v
  | some .unset => mmSelf l i v
theorem mmSetAt_ok {n0 : Nat → Nat} {l l' : List Slot} {i : Nat} {x : Slot} (h : mmSetAt l i x = some l') : setAt (mmUL n0 l) i (mmUpS n0 x) = some (mmUL n0 l') := by
  unfold mmSetAt at h
  split at h
  · cases h; rename_i h
    simp [setAt, h, mmUL, List.map_set]
  · cases h
theorem mmNth_up {n0 : Nat → Nat} {l : List Slot} {i : Nat} {x : Slot} (h : mmNth l i = some x) : (mmUL n0 l)[i]? = some (mmUpS n0 x) := by
  rw [mmNth_eq] at h
  simp [mmUL, h]
theorem mmSelf_ok {n0 : Nat → Nat} {l l' : List Slot} {i : Nat} {v : Value} (h : mmSelf l i v = some l') : storeSelf (mmUL n0 l) i (mmUp n0 v) = some (mmUL n0 l') := by
  unfold mmSelf at h
  split at h
  · cases h
  rename_i l1 h1
  have e1 : setAt (mmUL n0 l) i (.val (mmUp n0 v)) = some (mmUL n0 l1) := mmSetAt_ok (x := .val v) h1
  unfold storeSelf
  simp only [e1, Option.bind_eq_bind, Option.bind_some, mmUp_cat]
  split at h
  · rename_i hc
    rw [if_pos hc]
    split at h
    · cases h
    · rename_i old hn
      have e2 : (mmUL n0 l1)[i + 1]? = some (.val (mmUp n0 old)) := mmNth_up (x := .val old) hn
      rw [e2]; simp only [Option.bind_some, mmUp_cat]
      split at h
      · rename_i ho
        rw [if_pos ho]
        split at h
        · cases h
        · rename_i l2 h2
          have e3 : setAt (mmUL n0 l1) (i + 2) .unset = some (mmUL n0 l2) := mmSetAt_ok (x := .unset) h2
          rw [e3]; exact mmSetAt_ok (x := .second) h
      · rename_i ho
        rw [if_neg ho]; exact mmSetAt_ok (x := .second) h
    · rename_i y hy hn
      have e2 := mmNth_up (n0 := n0) hn
      rw [e2]; simp only [Option.bind_some]
      cases y with
      | val w => exact absurd rfl (hy w)
      | unset => exact mmSetAt_ok (x := .second) h
      | second => exact mmSetAt_ok (x := .second) h
  · rename_i hc
    rw [if_neg hc]; cases h; rfl
theorem mmStore_ok {n0 : Nat → Nat} {l l' : List Slot} {i : Nat} {v : Value} (h : mmStore l i v = some l') : storeLocals (mmUL n0 l) i (mmUp n0 v) = some (mmUL n0 l') := by
  unfold mmStore at h
  unfold storeLocals
  split at h
  · cases h
  · rename_i hn
    rw [mmNth_up (n0 := n0) hn]
    split at h
    · cases h
    · rename_i l1 h1
      have e1 : setAt (mmUL n0 l) (i - 1) .unset = some (mmUL n0 l1) := mmSetAt_ok (x := .unset) h1
      simp only [Option.bind_eq_bind, Option.bind_some, mmUpS, e1]
      exact mmSelf_ok h
  · rename_i old hn
    rw [mmNth_up (n0 := n0) hn]
    simp only [Option.bind_eq_bind, Option.bind_some, mmUpS, mmUp_cat]
    split at h
    · rename_i ho
      rw [if_pos ho]
      split at h
      · cases h
      · rename_i l1 h1
        have e1 : setAt (mmUL n0 l) (i + 1) .unset = some (mmUL n0 l1) := mmSetAt_ok (x := .unset) h1
        simp only [e1, Option.bind_some]
        exact mmSelf_ok h
    · rename_i ho
      rw [if_neg ho]; exact mmSelf_ok h
  · rename_i hn
    rw [mmNth_up (n0 := n0) hn]
    simp only [Option.bind_eq_bind, Option.bind_some, mmUpS]
    exact mmSelf_ok h
theorem mmStore_len {l l' : List Slot} {i : Nat} {v : Value} (h : mmStore l i v = some l') : l'.length = l.length := by
  have hs : ∀ {l l' : List Slot} {i : Nat} {x : Slot}, mmSetAt l i x = some l' → l'.length = l.length := fun {l l' i x} h => by
    unfold mmSetAt at h; split at h <;> cases h; simp
  have hf : ∀ {l l' : List Slot} {i : Nat} {v : Value}, mmSelf l i v = some l' → l'.length = l.length := fun {l l' i v} h => by
    unfold mmSelf at h
    split at h
    · cases h
    rename_i l1 h1
    split at h
    · split at h
      · cases h
      · split at h
        · split at h
          · cases h
          · rename_i l2 h2; exact (hs h).trans ((hs h2).trans (hs h1))
        · exact (hs h).trans (hs h1)
      · exact (hs h).trans (hs h1)
    · cases h; exact hs h1
  unfold mmStore at h
  split at h
  · cases h
  · split at h
    · cases h
    · rename_i l1 h1; exact (hf h).trans (hs h1)
  · split at h
    · split at h
      · cases h
      · rename_i l1 h1; exact (hf h).trans (hs h1)
    · exact hf h
  · exact hf h
/-! ### the instructions that touch neither the heap nor the tables -/
abbrev MPt := Nat × List Slot × List Value
def mmLen : Instr → Nat
  | .iload _ | .aload _ | .lload _ | .istore _ | .astore _ | .lstore _ | .bipush _ | .ldc _ | .newarray _ => 2
  | .sipush _ | .iinc _ _ | .ifCond _ _ | .if_icmp _ _ | .if_acmp _ _ | .goto _ | .getfield _ | .putfield _ | .invokestatic _ | .invokespecial _ | .invokevirtual _ | .new _ | .ldc2_w _ | .ldc_w _ | .getstatic _ | .ifnull _ | .ifnonnull _ | .anewarray _ => 3
  | .invokeinterface _ _ => 5
  | _ => 1
def mmLdI (d k pc : Nat) (L : List Slot) (S : List Value) : Option MPt := match mmNth L k with | some (.val (.int x)) => some (pc + d, L, .int x :: S) | _ => none
def mmLdJ (d k pc : Nat) (L : List Slot) (S : List Value) : Option MPt := match mmNth L k with | some (.val (.long x)) => some (pc + d, L, .long x :: S) | _ => none
def mmLdA (d k pc : Nat) (L : List Slot) (S : List Value) : Option MPt := match mmNth L k with | some (.val (.ref x)) => some (pc + d, L, .ref x :: S) | some (.val .null) => some (pc + d, L, .null :: S) | _ => none
def mmStI (d k pc : Nat) (L : List Slot) (S : List Value) : Option MPt := match S with | .int x :: r => (match mmStore L k (.int x) with | some L' => some (pc + d, L', r) | none => none) | _ => none
def mmStJ (d k pc : Nat) (L : List Slot) (S : List Value) : Option MPt := match S with | .long x :: r => (match mmStore L k (.long x) with | some L' => some (pc + d, L', r) | none => none) | _ => none
def mmStA (d k pc : Nat) (L : List Slot) (S : List Value) : Option MPt := match S with | .ref x :: r => (match mmStore L k (.ref x) with | some L' => some (pc + d, L', r) | none => none) | .null :: r => (match mmStore L k .null with | some L' => some (pc + d, L', r) | none => none) | _ => none
def mmII (f : Int32 → Int32 → Int32) (pc : Nat) (L : List Slot) (S : List Value) : Option MPt := match S with | .int y :: .int x :: r => some (pc + 1, L, .int (f x y) :: r) | _ => none
def mmIIz (f : Int32 → Int32 → Int32) (pc : Nat) (L : List Slot) (S : List Value) : Option MPt := match S with | .int y :: .int x :: r => if y = 0 then none else some (pc + 1, L, .int (f x y) :: r) | _ => none
def mmJJ (f : Int64 → Int64 → Int64) (pc : Nat) (L : List Slot) (S : List Value) : Option MPt := match S with | .long y :: .long x :: r => some (pc + 1, L, .long (f x y) :: r) | _ => none
def mmJJz (f : Int64 → Int64 → Int64) (pc : Nat) (L : List Slot) (S : List Value) : Option MPt := match S with | .long y :: .long x :: r => if y = 0 then none else some (pc + 1, L, .long (f x y) :: r) | _ => none
def mmJI (f : Int64 → Int32 → Int64) (pc : Nat) (L : List Slot) (S : List Value) : Option MPt := match S with | .int y :: .long x :: r => some (pc + 1, L, .long (f x y) :: r) | _ => none
def mmI (f : Int32 → Value) (pc : Nat) (L : List Slot) (S : List Value) : Option MPt := match S with | .int x :: r => some (pc + 1, L, f x :: r) | _ => none
def mmJ (f : Int64 → Value) (pc : Nat) (L : List Slot) (S : List Value) : Option MPt := match S with | .long x :: r => some (pc + 1, L, f x :: r) | _ => none
def mmTo (pc : Nat) (o : Int) : Nat := ((pc : Int) + o).toNat
def mmOk (pc : Nat) (o : Int) : Bool := decide (0 ≤ (pc : Int) + o)
def mmPure (i : Instr) (pc : Nat) (L : List Slot) (S : List Value) : Option MPt :=
  match i with
  | .iload_n k => mmLdI 1 k.val pc L S
  | .iload k => mmLdI 2 k pc L S
  | .lload_n k => mmLdJ 1 k.val pc L S
  | .lload k => mmLdJ 2 k pc L S
  | .aload_n k => mmLdA 1 k.val pc L S
  | .aload k => mmLdA 2 k pc L S
  | .istore_n k => mmStI 1 k.val pc L S
  | .istore k => mmStI 2 k pc L S
  | .lstore_n k => mmStJ 1 k.val pc L S
  | .lstore k => mmStJ 2 k pc L S
  | .astore_n k => mmStA 1 k.val pc L S
  | .astore k => mmStA 2 k pc L S
  | .iconst n => some (pc + 1, L, .int (Int32.ofInt n) :: S)
  | .bipush n => some (pc + 2, L, .int (Int8.ofInt n).toInt32 :: S)
  | .sipush n => some (pc + 3, L, .int (Int16.ofInt n).toInt32 :: S)
  | .lconst k => some (pc + 1, L, .long (Int64.ofNat k) :: S)
  | .iadd => mmII (fun x y => x + y) pc L S
  | .isub => mmII (fun x y => x - y) pc L S
  | .imul => mmII (fun x y => x * y) pc L S
  | .idiv => mmIIz (fun x y => x / y) pc L S
  | .irem => mmIIz (fun x y => x % y) pc L S
  | .iand => mmII (fun x y => x &&& y) pc L S
  | .ior => mmII (fun x y => x ||| y) pc L S
  | .ixor => mmII (fun x y => x ^^^ y) pc L S
  | .ishl => mmII (fun x y => x <<< (y &&& 31)) pc L S
  | .ishr => mmII (fun x y => x >>> (y &&& 31)) pc L S
  | .iushr => mmII XT.ushr pc L S
  | .ineg => mmI (fun x => .int (-x)) pc L S
  | .ladd => mmJJ (fun x y => x + y) pc L S
  | .lsub => mmJJ (fun x y => x - y) pc L S
  | .lmul => mmJJ (fun x y => x * y) pc L S
  | .ldiv => mmJJz (fun x y => x / y) pc L S
  | .lrem => mmJJz (fun x y => x % y) pc L S
  | .land => mmJJ (fun x y => x &&& y) pc L S
  | .lor => mmJJ (fun x y => x ||| y) pc L S
  | .lxor => mmJJ (fun x y => x ^^^ y) pc L S
  | .lshl => mmJI (fun x y => x <<< (y.toInt64 &&& 63)) pc L S
  | .lshr => mmJI (fun x y => x >>> (y.toInt64 &&& 63)) pc L S
  | .lushr => mmJI XT.ushrL pc L S
  | .i2l => mmI (fun x => .long x.toInt64) pc L S
  | .l2i => mmJ (fun x => .int x.toInt32) pc L S
  | .i2b => mmI (fun x => .int x.toInt8.toInt32) pc L S
  | .i2c => mmI (fun x => .int x.toUInt32.toUInt16.toUInt32.toInt32) pc L S
  | .i2s => mmI (fun x => .int x.toInt16.toInt32) pc L S
  | .lcmp => (match S with | .long y :: .long x :: r => some (pc + 1, L, .int (XT.cmpL x y) :: r) | _ => none)
  | .iinc k n => (match mmNth L k with | some (.val (.int x)) => (match mmStore L k (.int (x + Int32.ofInt n)) with | some L' => some (pc + 3, L', S) | none => none) | _ => none)
  | .goto o => if mmOk pc o = true then some (mmTo pc o, L, S) else none
  | .ifCond cd o => (match S with | .int x :: r => if mmOk pc o = true then some (if ifCond.holds cd x = true then mmTo pc o else pc + 3, L, r) else none | _ => none)
  | .if_icmp cd o => (match S with | .int y :: .int x :: r => if mmOk pc o = true then some (if if_icmp.holds cd x y = true then mmTo pc o else pc + 3, L, r) else none | _ => none)
  | .if_acmp cd o => (match S with | .ref y :: .ref x :: r => if mmOk pc o = true ∧ (x = y ∨ mmM ≤ x ∨ mmM ≤ y) then some (if XT.acmp cd (.ref x) (.ref y) = true then mmTo pc o else pc + 3, L, r) else none | _ => none)
  | .dup => (match S with | x :: r => if x.category = 1 then some (pc + 1, L, x :: x :: r) else none | _ => none)
  | .dup_x1 => (match S with | x :: y :: r => if x.category = 1 ∧ y.category = 1 then some (pc + 1, L, x :: y :: x :: r) else none | _ => none)
  | .dup2 => (match S with | .long x :: r => some (pc + 1, L, .long x :: .long x :: r) | x :: y :: r => if x.category = 1 ∧ y.category = 1 then some (pc + 1, L, x :: y :: x :: y :: r) else none | _ => none)
  | .pop => (match S with | x :: r => if x.category = 1 then some (pc + 1, L, r) else none | _ => none)
  | .pop2 => (match S with | .long _ :: r => some (pc + 1, L, r) | _ => none)
  | _ => none
def mmInj (n0 : Nat → Nat) : Prop := ∀ a b, mmM ≤ a → a ≠ b → n0 a ≠ n0 b

section MMInv
variable {pc pc' : Nat} {L L' : List Slot} {S S' : List Value}
theorem mmLdI_inv {d k : Nat} (h : mmLdI d k pc L S = some (pc', L', S')) : ∃ x, mmNth L k = some (.val (.int x)) ∧ pc' = pc + d ∧ L' = L ∧ S' = .int x :: S := by
  unfold mmLdI at h
  split at h
  · rename_i x hx; cases h; exact ⟨x, hx, rfl, rfl, rfl⟩
  · cases h
theorem mmLdJ_inv {d k : Nat} (h : mmLdJ d k pc L S = some (pc', L', S')) : ∃ x, mmNth L k = some (.val (.long x)) ∧ pc' = pc + d ∧ L' = L ∧ S' = .long x :: S := by
  unfold mmLdJ at h
  split at h
  · rename_i x hx; cases h; exact ⟨x, hx, rfl, rfl, rfl⟩
  · cases h
theorem mmLdA_inv {d k : Nat} (h : mmLdA d k pc L S = some (pc', L', S')) : ∃ v : Value, v.isRef = true ∧ mmNth L k = some (.val v) ∧ pc' = pc + d ∧ L' = L ∧ S' = v :: S := by
  unfold mmLdA at h
  split at h
  · rename_i x hx; cases h; exact ⟨_, rfl, hx, rfl, rfl, rfl⟩
  · rename_i hx; cases h; exact ⟨_, rfl, hx, rfl, rfl, rfl⟩
  · cases h
theorem mmStI_inv {d k : Nat} (h : mmStI d k pc L S = some (pc', L', S')) : ∃ x, S = .int x :: S' ∧ mmStore L k (.int x) = some L' ∧ pc' = pc + d := by
  unfold mmStI at h
  split at h
  · split at h
    · rename_i hs; cases h; exact ⟨_, rfl, hs, rfl⟩
    · cases h
  · cases h
theorem mmStJ_inv {d k : Nat} (h : mmStJ d k pc L S = some (pc', L', S')) : ∃ x, S = .long x :: S' ∧ mmStore L k (.long x) = some L' ∧ pc' = pc + d := by
  unfold mmStJ at h
  split at h
  · split at h
    · rename_i hs; cases h; exact ⟨_, rfl, hs, rfl⟩
    · cases h
  · cases h
theorem mmStA_inv {d k : Nat} (h : mmStA d k pc L S = some (pc', L', S')) : ∃ v : Value, v.isRef = true ∧ S = v :: S' ∧ mmStore L k v = some L' ∧ pc' = pc + d := by
  unfold mmStA at h
  split at h
  · split at h
    · rename_i x r L1 hs; cases h; exact ⟨_, rfl, rfl, hs, rfl⟩
    · cases h
  · split at h
    · rename_i r L1 hs; cases h; exact ⟨_, rfl, rfl, hs, rfl⟩
    · cases h
  · cases h
theorem mmII_inv {f : Int32 → Int32 → Int32} (h : mmII f pc L S = some (pc', L', S')) : ∃ x y r, S = .int y :: .int x :: r ∧ pc' = pc + 1 ∧ L' = L ∧ S' = .int (f x y) :: r := by
  unfold mmII at h
  split at h
  · cases h; exact ⟨_, _, _, rfl, rfl, rfl, rfl⟩
  · cases h
theorem mmIIz_inv {f : Int32 → Int32 → Int32} (h : mmIIz f pc L S = some (pc', L', S')) : ∃ x y r, S = .int y :: .int x :: r ∧ y ≠ 0 ∧ pc' = pc + 1 ∧ L' = L ∧ S' = .int (f x y) :: r := by
  unfold mmIIz at h
  split at h
  · split at h
    · cases h
    · rename_i hy; cases h; exact ⟨_, _, _, rfl, hy, rfl, rfl, rfl⟩
  · cases h
theorem mmJJ_inv {f : Int64 → Int64 → Int64} (h : mmJJ f pc L S = some (pc', L', S')) : ∃ x y r, S = .long y :: .long x :: r ∧ pc' = pc + 1 ∧ L' = L ∧ S' = .long (f x y) :: r := by
  unfold mmJJ at h
  split at h
  · cases h; exact ⟨_, _, _, rfl, rfl, rfl, rfl⟩
  · cases h
theorem mmJJz_inv {f : Int64 → Int64 → Int64} (h : mmJJz f pc L S = some (pc', L', S')) : ∃ x y r, S = .long y :: .long x :: r ∧ y ≠ 0 ∧ pc' = pc + 1 ∧ L' = L ∧ S' = .long (f x y) :: r := by
  unfold mmJJz at h
  split at h
  · split at h
    · cases h
    · rename_i hy; cases h; exact ⟨_, _, _, rfl, hy, rfl, rfl, rfl⟩
  · cases h
theorem mmJI_inv {f : Int64 → Int32 → Int64} (h : mmJI f pc L S = some (pc', L', S')) : ∃ x y r, S = .int y :: .long x :: r ∧ pc' = pc + 1 ∧ L' = L ∧ S' = .long (f x y) :: r := by
  unfold mmJI at h
  split at h
  · cases h; exact ⟨_, _, _, rfl, rfl, rfl, rfl⟩
  · cases h
theorem mmI_inv {f : Int32 → Value} (h : mmI f pc L S = some (pc', L', S')) : ∃ x r, S = .int x :: r ∧ pc' = pc + 1 ∧ L' = L ∧ S' = f x :: r := by
  unfold mmI at h
  split at h
  · cases h; exact ⟨_, _, rfl, rfl, rfl, rfl⟩
  · cases h
theorem mmJ_inv {f : Int64 → Value} (h : mmJ f pc L S = some (pc', L', S')) : ∃ x r, S = .long x :: r ∧ pc' = pc + 1 ∧ L' = L ∧ S' = f x :: r := by
  unfold mmJ at h
  split at h
  · cases h; exact ⟨_, _, rfl, rfl, rfl, rfl⟩
  · cases h
theorem mmLdI_len {d k : Nat} (h : mmLdI d k pc L S = some (pc', L', S')) : L'.length = L.length := by obtain ⟨_, _, _, rfl, _⟩ := mmLdI_inv h; rfl
theorem mmLdJ_len {d k : Nat} (h : mmLdJ d k pc L S = some (pc', L', S')) : L'.length = L.length := by obtain ⟨_, _, _, rfl, _⟩ := mmLdJ_inv h; rfl
theorem mmLdA_len {d k : Nat} (h : mmLdA d k pc L S = some (pc', L', S')) : L'.length = L.length := by obtain ⟨_, _, _, _, rfl, _⟩ := mmLdA_inv h; rfl
theorem mmStI_len {d k : Nat} (h : mmStI d k pc L S = some (pc', L', S')) : L'.length = L.length := by obtain ⟨_, _, hs, _⟩ := mmStI_inv h; exact mmStore_len hs
theorem mmStJ_len {d k : Nat} (h : mmStJ d k pc L S = some (pc', L', S')) : L'.length = L.length := by obtain ⟨_, _, hs, _⟩ := mmStJ_inv h; exact mmStore_len hs
theorem mmStA_len {d k : Nat} (h : mmStA d k pc L S = some (pc', L', S')) : L'.length = L.length := by obtain ⟨_, _, _, hs, _⟩ := mmStA_inv h; exact mmStore_len hs
theorem mmII_len {f : Int32 → Int32 → Int32} (h : mmII f pc L S = some (pc', L', S')) : L'.length = L.length := by obtain ⟨_, _, _, _, _, rfl, _⟩ := mmII_inv h; rfl
theorem mmIIz_len {f : Int32 → Int32 → Int32} (h : mmIIz f pc L S = some (pc', L', S')) : L'.length = L.length := by obtain ⟨_, _, _, _, _, _, rfl, _⟩ := mmIIz_inv h; rfl
theorem mmJJ_len {f : Int64 → Int64 → Int64} (h : mmJJ f pc L S = some (pc', L', S')) : L'.length = L.length := by obtain ⟨_, _, _, _, _, rfl, _⟩ := mmJJ_inv h; rfl
theorem mmJJz_len {f : Int64 → Int64 → Int64} (h : mmJJz f pc L S = some (pc', L', S')) : L'.length = L.length := by obtain ⟨_, _, _, _, _, _, rfl, _⟩ := mmJJz_inv h; rfl
theorem mmJI_len {f : Int64 → Int32 → Int64} (h : mmJI f pc L S = some (pc', L', S')) : L'.length = L.length := by obtain ⟨_, _, _, _, _, rfl, _⟩ := mmJI_inv h; rfl
theorem mmI_len {f : Int32 → Value} (h : mmI f pc L S = some (pc', L', S')) : L'.length = L.length := by obtain ⟨_, _, _, _, rfl, _⟩ := mmI_inv h; rfl
theorem mmJ_len {f : Int64 → Value} (h : mmJ f pc L S = some (pc', L', S')) : L'.length = L.length := by obtain ⟨_, _, _, _, rfl, _⟩ := mmJ_inv h; rfl
end MMInv

theorem mmLrem (x y : Int64) : x - (x / y) * y = x % y := by
  apply Int64.toInt_inj.mp
  have h1 := Int64.le_toInt (x % y)
  have h2 := Int64.toInt_lt (x % y)
  rw [Int64.toInt_sub, Int64.toInt_mul, Int64.toInt_div, Int.bmod_mul_bmod, Int.sub_bmod_bmod, Int.mul_comm (x.toInt.tdiv y.toInt), ← Int.tmod_def, ← Int64.toInt_mod]
  exact Int.bmod_eq_of_le_mul_two (by omega) (by omega)
theorem mmAcmp {n0 : Nat → Nat} (hi : mmInj n0) {x y : Nat} (h : x = y ∨ mmM ≤ x ∨ mmM ≤ y) (cd : ClassFile.ACond) : XT.acmp cd (.ref (n0 x)) (.ref (n0 y)) = XT.acmp cd (.ref x) (.ref y) := by
  have e : n0 x = n0 y ↔ x = y := by
    refine ⟨fun q => ?_, fun q => by rw [q]⟩
    rcases h with h | h | h
    · exact h
    · exact Classical.byContradiction fun z => hi x y h z q
    · exact Classical.byContradiction fun z => hi y x h (fun w => z w.symm) q.symm
  cases cd <;> simp [XT.acmp, e]
section MMPure
variable {tb : Tables} [Ours tb] {e : Env} {below : List Frame} {T target : State} {m : MethodId} {c : Code} {pc pc' : Nat} {n0 : Nat → Nat} {L L' : List Slot} {S S' : List Value}
theorem mmPop2L {g : JFrame} (h : At T m c below) (hx : tb.exec = Jvm.exec) (hg : g.method = m) {x : Int64} {rest : List Value} (hd : decode c.code g.pc = .ok (.pop2, 1)) (hs : g.stack = .long x :: rest)
    (hr : Steps tb e below (T.setTop { g with pc := g.pc + 1, stack := rest }) target) : Steps tb e below (T.setTop g) target := by
  subst hg
  jvm_step h [h.top, hx, hd, hs, Value.category]
  exact hr
theorem mmOk_le {o : Int} (h : mmOk pc o = true) : 0 ≤ (pc : Int) + o := of_decide_eq_true h
set_option maxHeartbeats 4000000 in
theorem mmPure_ok {i : Instr} (hi : mmInj n0) (h : At T m c below) (hx : tb.exec = Jvm.exec) (hp : mmPure i pc L S = some (pc', L', S')) (hd : decode c.code pc = .ok (i, mmLen i))
    (hr : Steps tb e below (T.setTop (mkF m pc' (mmUL n0 L') (mmUV n0 S'))) target) : Steps tb e below (T.setTop (mkF m pc (mmUL n0 L) (mmUV n0 S))) target := by
  unfold mmPure at hp
  split at hp
  · obtain ⟨x, hn, rfl, rfl, rfl⟩ := mmLdI_inv hp; exact XS.iloadN h hx rfl hd (mmNth_up hn) hr
  · obtain ⟨x, hn, rfl, rfl, rfl⟩ := mmLdI_inv hp; exact XS.iload h hx rfl hd (mmNth_up hn) hr
  · obtain ⟨x, hn, rfl, rfl, rfl⟩ := mmLdJ_inv hp; exact XT.lloadN h hx rfl hd (mmNth_up hn) hr
  · obtain ⟨x, hn, rfl, rfl, rfl⟩ := mmLdJ_inv hp; exact XT.lload h hx rfl hd (mmNth_up hn) hr
  · obtain ⟨v, hv, hn, rfl, rfl, rfl⟩ := mmLdA_inv hp; exact XS.aloadN h hx rfl hd (mmNth_up hn) ((mmUp_isRef n0 v).trans hv) hr
  · obtain ⟨v, hv, hn, rfl, rfl, rfl⟩ := mmLdA_inv hp; exact XS.aload h hx rfl hd (mmNth_up hn) ((mmUp_isRef n0 v).trans hv) hr
  · obtain ⟨x, rfl, hs, rfl⟩ := mmStI_inv hp; exact XS.istoreN h hx rfl hd rfl (mmStore_ok (v := .int x) hs) hr
  · obtain ⟨x, rfl, hs, rfl⟩ := mmStI_inv hp; exact XS.istore h hx rfl hd rfl (mmStore_ok (v := .int x) hs) hr
  · obtain ⟨x, rfl, hs, rfl⟩ := mmStJ_inv hp; exact XT.lstoreN h hx rfl hd rfl (mmStore_ok (v := .long x) hs) hr
  · obtain ⟨x, rfl, hs, rfl⟩ := mmStJ_inv hp; exact XT.lstore h hx rfl hd rfl (mmStore_ok (v := .long x) hs) hr
  · obtain ⟨v, hv, rfl, hs, rfl⟩ := mmStA_inv hp; exact XS.astoreN h hx rfl hd rfl ((mmUp_isRef n0 v).trans hv) (mmStore_ok hs) hr
  · obtain ⟨v, hv, rfl, hs, rfl⟩ := mmStA_inv hp; exact XS.astore h hx rfl hd rfl ((mmUp_isRef n0 v).trans hv) (mmStore_ok hs) hr
  · cases hp; exact XS.iconst h hx rfl hd hr
  · cases hp; exact XS.bipush h hx rfl hd hr
  · cases hp; exact XS.sipush h hx rfl hd hr
  · cases hp; exact XT.lconst h hx rfl hd hr
  · obtain ⟨x, y, r, rfl, rfl, rfl, rfl⟩ := mmII_inv hp; exact XS.iadd h hx rfl hd rfl hr
  · obtain ⟨x, y, r, rfl, rfl, rfl, rfl⟩ := mmII_inv hp; exact XS.isub h hx rfl hd rfl hr
  · obtain ⟨x, y, r, rfl, rfl, rfl, rfl⟩ := mmII_inv hp; exact XS.imul h hx rfl hd rfl hr
  · obtain ⟨x, y, r, rfl, hy, rfl, rfl, rfl⟩ := mmIIz_inv hp; exact XS.idiv h hx rfl hd rfl hy hr
  · obtain ⟨x, y, r, rfl, hy, rfl, rfl, rfl⟩ := mmIIz_inv hp; exact XS.irem h hx rfl hd rfl hy (by rw [irem_eq_mod]; exact hr)
  · obtain ⟨x, y, r, rfl, rfl, rfl, rfl⟩ := mmII_inv hp; exact XS.iand h hx rfl hd rfl hr
  · obtain ⟨x, y, r, rfl, rfl, rfl, rfl⟩ := mmII_inv hp; exact XT.ior h hx rfl hd rfl hr
  · obtain ⟨x, y, r, rfl, rfl, rfl, rfl⟩ := mmII_inv hp; exact XT.ixor h hx rfl hd rfl hr
  · obtain ⟨x, y, r, rfl, rfl, rfl, rfl⟩ := mmII_inv hp; exact XT.ishl h hx rfl hd rfl hr
  · obtain ⟨x, y, r, rfl, rfl, rfl, rfl⟩ := mmII_inv hp; exact XT.ishr h hx rfl hd rfl hr
  · obtain ⟨x, y, r, rfl, rfl, rfl, rfl⟩ := mmII_inv hp; exact XT.iushr h hx rfl hd rfl hr
  · obtain ⟨x, r, rfl, rfl, rfl, rfl⟩ := mmI_inv hp; exact XS.ineg h hx rfl hd rfl hr
  · obtain ⟨x, y, r, rfl, rfl, rfl, rfl⟩ := mmJJ_inv hp; exact XT.ladd h hx rfl hd rfl hr
  · obtain ⟨x, y, r, rfl, rfl, rfl, rfl⟩ := mmJJ_inv hp; exact XT.lsub h hx rfl hd rfl hr
  · obtain ⟨x, y, r, rfl, rfl, rfl, rfl⟩ := mmJJ_inv hp; exact XT.lmul h hx rfl hd rfl hr
  · obtain ⟨x, y, r, rfl, hy, rfl, rfl, rfl⟩ := mmJJz_inv hp; exact XT.ldiv h hx rfl hd rfl hy hr
  · obtain ⟨x, y, r, rfl, hy, rfl, rfl, rfl⟩ := mmJJz_inv hp; exact XT.lrem h hx rfl hd rfl hy (by rw [mmLrem]; exact hr)
  · obtain ⟨x, y, r, rfl, rfl, rfl, rfl⟩ := mmJJ_inv hp; exact XT.land h hx rfl hd rfl hr
  · obtain ⟨x, y, r, rfl, rfl, rfl, rfl⟩ := mmJJ_inv hp; exact XT.lor h hx rfl hd rfl hr
  · obtain ⟨x, y, r, rfl, rfl, rfl, rfl⟩ := mmJJ_inv hp; exact XT.lxor h hx rfl hd rfl hr
  · obtain ⟨x, y, r, rfl, rfl, rfl, rfl⟩ := mmJI_inv hp; exact XT.lshl h hx rfl hd rfl hr
  · obtain ⟨x, y, r, rfl, rfl, rfl, rfl⟩ := mmJI_inv hp; exact XT.lshr h hx rfl hd rfl hr
  · obtain ⟨x, y, r, rfl, rfl, rfl, rfl⟩ := mmJI_inv hp; exact XT.lushr h hx rfl hd rfl hr
  · obtain ⟨x, r, rfl, rfl, rfl, rfl⟩ := mmI_inv hp; exact XT.i2l h hx rfl hd rfl hr
  · obtain ⟨x, r, rfl, rfl, rfl, rfl⟩ := mmJ_inv hp; exact XT.l2i h hx rfl hd rfl hr
  · obtain ⟨x, r, rfl, rfl, rfl, rfl⟩ := mmI_inv hp; exact XT.i2b h hx rfl hd rfl hr
  · obtain ⟨x, r, rfl, rfl, rfl, rfl⟩ := mmI_inv hp; exact XT.i2c h hx rfl hd rfl hr
  · obtain ⟨x, r, rfl, rfl, rfl, rfl⟩ := mmI_inv hp; exact XT.i2s h hx rfl hd rfl hr
  · split at hp
    · cases hp; exact XT.lcmp h hx rfl hd rfl hr
    · cases hp
  · split at hp
    · rename_i x hn
      split at hp
      · rename_i L1 hs; cases hp; exact XS.iinc h hx rfl hd (mmNth_up hn) (mmStore_ok (v := .int _) hs) hr
      · cases hp
    · cases hp
  · split at hp
    · rename_i ho; cases hp; exact XS.goto h hx rfl rfl hd (mmOk_le ho) rfl hr
    · cases hp
  · split at hp
    · split at hp
      · rename_i x r ho; cases hp
        split at hr
        · rename_i hc; exact XS.ifYes h hx rfl rfl hd rfl hc (mmOk_le ho) rfl hr
        · rename_i hc; exact XS.ifNo h hx rfl hd rfl (Bool.eq_false_iff.mpr hc) hr
      · cases hp
    · cases hp
  · split at hp
    · split at hp
      · rename_i y x r ho; cases hp
        split at hr
        · rename_i hc; exact XS.icmpYes h hx rfl rfl hd rfl hc (mmOk_le ho) rfl hr
        · rename_i hc; exact XS.icmpNo h hx rfl hd rfl (Bool.eq_false_iff.mpr hc) hr
      · cases hp
    · cases hp
  · split at hp
    · split at hp
      · rename_i y x r ho; cases hp
        split at hr
        · rename_i hc; exact XT.acmpYes h hx rfl rfl hd (x := .ref (n0 x)) (y := .ref (n0 y)) rfl rfl rfl ((mmAcmp hi ho.2 _).trans hc) (mmOk_le ho.1) rfl hr
        · rename_i hc; exact XT.acmpNo h hx rfl hd (x := .ref (n0 x)) (y := .ref (n0 y)) rfl rfl rfl ((mmAcmp hi ho.2 _).trans (Bool.eq_false_iff.mpr hc)) hr
      · cases hp
    · cases hp
  · split at hp
    · split at hp
      · rename_i x r hc; cases hp; exact XS.dup h hx rfl hd rfl ((mmUp_cat n0 x).trans hc) hr
      · cases hp
    · cases hp
  · split at hp
    · split at hp
      · rename_i x y r hc; cases hp; exact XT.dupX1 h hx rfl hd rfl ((mmUp_cat n0 x).trans hc.1) ((mmUp_cat n0 y).trans hc.2) hr
      · cases hp
    · cases hp
  · split at hp
    · cases hp; exact XT.dup2L h hx rfl hd rfl hr
    · split at hp
      · rename_i x y r _ hc; cases hp; exact XT.dup2 h hx rfl hd rfl ((mmUp_cat n0 x).trans hc.1) ((mmUp_cat n0 y).trans hc.2) hr
      · cases hp
    · cases hp
  · split at hp
    · split at hp
      · rename_i x r hc; cases hp; exact XT.pop h hx rfl hd rfl ((mmUp_cat n0 x).trans hc) hr
      · cases hp
    · cases hp
  · split at hp
    · cases hp; exact mmPop2L h hx rfl hd rfl hr
    · cases hp
  · cases hp
end MMPure
theorem mmPure_len {i : Instr} {pc pc' : Nat} {L L' : List Slot} {S S' : List Value} (hp : mmPure i pc L S = some (pc', L', S')) : L'.length = L.length := by
  unfold mmPure at hp
  split at hp
  all_goals first
    | exact mmLdI_len hp | exact mmLdJ_len hp | exact mmLdA_len hp | exact mmStI_len hp | exact mmStJ_len hp | exact mmStA_len hp
    | exact mmII_len hp | exact mmIIz_len hp | exact mmJJ_len hp | exact mmJJz_len hp | exact mmJI_len hp | exact mmI_len hp | exact mmJ_len hp
    | (cases hp; rfl)
    | skip
  · split at hp <;> cases hp; rfl
  · split at hp
    · split at hp
      · rename_i L1 hs; cases hp; exact mmStore_len hs
      · cases hp
    · cases hp
  all_goals (repeat' split at hp) <;> first | (cases hp; done) | (cases hp; rfl)

/-! ### the heap: what the small machine's heap says of the model's -/
def mmObjOk (CT : List MCls) (Z : State) (n0 : Nat → Nat) (h : Heap) (a : Addr) : MObj → Prop
  | .inl (k, vs) => ∃ (C : String) (n : Nat) (fs : List MFld), CT[k]? = some (C, n, fs) ∧ Exa Z h a C ∧ vs.length = fs.length ∧ ∀ (j : Nat) (O f d : String) (ty : FieldType) (v : Value), fs[j]? = some (O, f, d, ty) → vs[j]? = some v → Fld Z h a O f d (mmUp n0 v)
  | .inr (ty, vs) => ∃ c : Cell, Arr Z h a c ty ∧ c.slots = (mmUV n0 vs).toArray ∧ ∀ C, ty = .object C → vs = [] ∨ (Ovr Z c.cls C ∧ Z.vm.findClass ("[" ++ (FieldType.object C).toString) = some c.cls ∧ c.vm = .none)
def mmAll {α : Type} (P : α → Prop) : List α → Prop
  | [] => True
  | a :: r => P a ∧ mmAll P r
theorem mmAll_mem {α : Type} {P : α → Prop} : ∀ {l : List α}, mmAll P l → ∀ x ∈ l, P x
  | [], _, _, h => nomatch h
  | _ :: _, H, x, h => (List.mem_cons.mp h).elim (fun e => e ▸ H.1) (mmAll_mem H.2 x)
theorem mmAll_nth {α : Type} {P : α → Prop} {l : List α} (H : mmAll P l) {k : Nat} {x : α} (h : l[k]? = some x) : P x := mmAll_mem H x (List.mem_of_getElem? h)
def mmLook {α : Type} : List (Nat × α) → Nat → Option α
  | [], _ => none
  | (k, v) :: r, i => if i = k then some v else mmLook r i
theorem mmLook_mem {α : Type} : ∀ {l : List (Nat × α)} {i : Nat} {v : α}, mmLook l i = some v → (i, v) ∈ l
  | [], _, _, h => nomatch h
  | (k, w) :: r, i, v, h => by
    unfold mmLook at h
    split at h
    · rename_i e; cases h; subst e; exact List.mem_cons_self ..
    · exact List.mem_cons_of_mem _ (mmLook_mem h)
def mmRel (CT : List MCls) (Z : State) (n0 : Nat → Nat) (h : Heap) (H : MHeap) : Prop := (∀ a, H.length ≤ a → n0 a = h.size + (a - H.length)) ∧ (∀ (i : Nat) (o : MObj), H[i]? = some o → mmObjOk CT Z n0 h (n0 i) o) ∧ mmInj n0 ∧ mmAll (fun q : String × String × String × Value => Sta Z h q.1 q.2.1 q.2.2.1 (mmUp n0 q.2.2.2)) mmSt ∧ ∃ z : Int32, z ≠ 0 ∧ Sta Z h "java/lang/String" "COMPACT_STRINGS" "Z" (.int z)
/-- of a class: its words, its fields' words, and that no two fields bear one name -/
def mmClsOk (Z : State) (a0 : Array Value) (q : MCls) : Prop :=
  (Cond.instantiable q.1 q.2.1).before a0 Z = true ∧ (Cond.initialized q.1).before a0 Z = true ∧ mmAll (fun f : MFld => Laid Z a0 q.1 f.1 f.2.1 f.2.2.1 ∧ parseFieldDescriptor f.2.2.1 = some f.2.2.2) q.2.2 ∧ (q.2.2.map (·.2.1)).Nodup
theorem mmUp_default (n0 : Nat → Nat) (ty : FieldType) : mmUp n0 (defaultValue ty) = defaultValue ty := by cases ty <;> rfl
theorem mmAll_imp {α : Type} {P Q : α → Prop} (h : ∀ x, P x → Q x) : ∀ {l : List α}, mmAll P l → mmAll Q l
  | [], _ => trivial
  | _ :: _, H => ⟨h _ H.1, mmAll_imp h H.2⟩
section MMHeap
variable {CT : List MCls} {Z : State} {a0 : Array Value} {n0 : Nat → Nat} {h h' : Heap} {H H' : MHeap} {a b : Addr} {o : MObj} {sl : Nat} {v w : Value}
theorem mmObj_ext (E : Ext h h') (F : mmObjOk CT Z n0 h a o) : mmObjOk CT Z n0 h' a o := by
  cases o with
  | inl q =>
    obtain ⟨k, vs⟩ := q
    obtain ⟨C, n, fs, h1, h2, h3, h4⟩ := F
    exact ⟨C, n, fs, h1, h2.ext E, h3, fun j O f d ty v q1 q2 => (h4 j O f d ty v q1 q2).ext E⟩
  | inr q =>
    obtain ⟨ty, vs⟩ := q
    obtain ⟨c, h1, h2, h3⟩ := F
    exact ⟨c, h1.ext E, h2, h3⟩
theorem mmObj_other (W : Wr h h' b sl w) (hne : a ≠ b) (F : mmObjOk CT Z n0 h a o) : mmObjOk CT Z n0 h' a o := by
  cases o with
  | inl q =>
    obtain ⟨k, vs⟩ := q
    obtain ⟨C, n, fs, h1, h2, h3, h4⟩ := F
    exact ⟨C, n, fs, h1, h2.wr W, h3, fun j O f d ty v q1 q2 => (h4 j O f d ty v q1 q2).other W (Or.inl hne)⟩
  | inr q =>
    obtain ⟨ty, vs⟩ := q
    obtain ⟨c, h1, h2, h3⟩ := F
    exact ⟨c, h1.other W hne, h2, h3⟩
theorem mmRel_set (R : mmRel CT Z n0 h H) {i : Nat} (hi : mmM ≤ i) {o' : MObj} (W : Wr h h' (n0 i) sl w) (G : i < H.length → mmObjOk CT Z n0 h' (n0 i) o') : mmRel CT Z n0 h' (H.set i o') := by
  refine ⟨fun a ha => by rw [W.size, List.length_set]; rw [List.length_set] at ha; exact R.1 a ha, fun j q hj => ?_, R.2.2.1, mmAll_imp (fun _ F => Sta.wr W F) R.2.2.2.1, R.2.2.2.2.imp fun _ F => ⟨F.1, Sta.wr W F.2⟩⟩
  rw [List.getElem?_set] at hj
  split at hj
  · rename_i e; subst e
    split at hj
    · rename_i hl; cases hj; exact G hl
    · cases hj
  · rename_i e
    exact mmObj_other W (fun z => R.2.2.1 i j hi e z.symm) (R.2.1 j q hj)
theorem mmRel_arr (R : mmRel CT Z n0 h H) {i jn : Nat} (hi : mmM ≤ i) {ty : FieldType} {vs : List Value} {c : Cell} (A : Arr Z h (n0 i) c ty) (hc : c.slots = (mmUV n0 vs).toArray) (hO : ∀ C, ty = .object C → vs = [] ∨ (Ovr Z c.cls C ∧ Z.vm.findClass ("[" ++ (FieldType.object C).toString) = some c.cls ∧ c.vm = .none)) (W : Wr h h' (n0 i) jn (mmUp n0 v)) : mmRel CT Z n0 h' (H.set i (.inr (ty, vs.set jn v))) := by
  refine mmRel_set R hi W fun _ => ⟨c.setSlot jn (mmUp n0 v), A.same W, ?_, fun C e => (hO C e).imp (fun z => by rw [z]; rfl) id⟩
  simp [Cell.setSlot, hc, List.map_set]
theorem mmRel_fld {k n j : Nat} {C O f d : String} {ty : FieldType} {fs : List MFld} {vs : List Value} {i : Nat} (hi : mmM ≤ i) (hCT : mmClsOk Z a0 (C, n, fs)) (hk : CT[k]? = some (C, n, fs)) (hj : fs[j]? = some (O, f, d, ty))
    (R : mmRel CT Z n0 h H) (hH : H[i]? = some (.inl (k, vs))) (W : Wr h h' (n0 i) (RoadKit.slotOf Z O f d) (mmUp n0 v)) : mmRel CT Z n0 h' (H.set i (.inl (k, vs.set j v))) := by
  refine mmRel_set R hi W fun _ => ?_
  obtain ⟨C', n', fs', h1, h2, h3, h4⟩ := R.2.1 i _ hH
  cases hk.symm.trans h1
  refine ⟨C, n, fs, hk, h2.wr W, by rw [List.length_set]; exact h3, fun j' O' f' d' ty' v' q1 q2 => ?_⟩
  by_cases e : j' = j
  · subst e
    cases hj.symm.trans q1
    have hl : j' < vs.length := by rw [h3]; exact (List.getElem?_eq_some_iff.mp hj).1
    rw [List.getElem?_set_self hl] at q2
    cases q2
    have hv := List.getElem?_eq_getElem hl
    exact (h4 j' O f d ty _ hj hv).same W
  · rw [List.getElem?_set_ne (Ne.symm e)] at q2
    have L1 := mmAll_nth hCT.2.2.1 hj
    have L2 := mmAll_nth hCT.2.2.1 q1
    have hne : f' ≠ f := fun z => by
      have n1 : (fs.map (·.2.1))[j']? = some f' := by simp [q1]
      have n2 : (fs.map (·.2.1))[j]? = some f := by simp [hj]
      have hnd := hCT.2.2.2
      obtain ⟨l1, g1⟩ := List.getElem?_eq_some_iff.mp n1
      obtain ⟨l2, g2⟩ := List.getElem?_eq_some_iff.mp n2
      exact e ((List.getElem_inj hnd).mp (g1.trans (z.trans g2.symm)))
    exact (h4 j' O' f' d' ty' v' q1 q2).other W (Or.inr (slot_ne L2.1 L1.1 hne L2.2 L1.2))
theorem mmRel_push (R : mmRel CT Z n0 h H) (E : Ext h h') (hs : h'.size = h.size + 1) (G : mmObjOk CT Z n0 h' h.size o) : mmRel CT Z n0 h' (H ++ [o]) := by
  refine ⟨fun a ha => by rw [List.length_append] at ha ⊢; simp only [List.length_cons, List.length_nil] at ha ⊢; rw [R.1 a (by omega), hs]; omega, fun i q hi => ?_, R.2.2.1, mmAll_imp (fun _ F => Sta.ext E F) R.2.2.2.1, R.2.2.2.2.imp fun _ F => ⟨F.1, Sta.ext E F.2⟩⟩
  by_cases e : i < H.length
  · rw [List.getElem?_append_left e] at hi
    exact mmObj_ext E (R.2.1 i q hi)
  · rw [List.getElem?_append_right (Nat.le_of_not_lt e)] at hi
    have : i = H.length := by
      have := (List.getElem?_eq_some_iff.mp hi).1
      simp at this; omega
    subst this
    simp at hi
    subst hi
    rw [R.1 _ (Nat.le_refl _), Nat.sub_self, Nat.add_zero]; exact G
end MMHeap
/-! ### the instructions that touch the heap or the tables -/
abbrev MSt := Nat × List Slot × List Value × MHeap × Nat
abbrev MKall := List Value → MHeap → Option (Option Value × MHeap × Nat)
/-- a call: how many values it takes; the receiver's class (asked where it is named); what may lie under; what it does -/
abbrev MCall := Nat × Option Nat × Nat × MKall
/-- constants; fields read; fields written; classes made; arrays made; Object's constructor; calls: static, virtual, special -/
abbrev MTab := List (Nat × Value) × List (Nat × Nat × Nat) × List (Nat × Nat × Nat × FieldType) × List (Nat × Nat × Nat × List Value) × (List ArrayType × List (Nat × String) × List (String × String) × List (Nat × String)) × List (Nat × Nat) × List (Nat × MCall) × List (Nat × MCall) × List (Nat × MCall)
def mmCat : List Value → Nat
  | [] => 0
  | v :: r => v.category + mmCat r
theorem mmCat_up (n0 : Nat → Nat) : ∀ r : List Value, ((mmUV n0 r).map fun v => v.category).sum = mmCat r
  | [] => rfl
  | v :: r => by
    have := mmCat_up n0 r
    simp only [mmUV, List.map_cons, List.sum_cons, mmUp_cat, mmCat] at this ⊢
    rw [this]
def mmPop : Nat → List Value → List Value → Option (List Value × List Value)
  | 0, S, acc => some (acc, S)
  | _ + 1, [], _ => none
  | n + 1, v :: S, acc => mmPop n S (v :: acc)
theorem mmPop_spec : ∀ {n : Nat} {S acc as r : List Value}, mmPop n S acc = some (as, r) → ∃ q : List Value, as = q.reverse ++ acc ∧ S = q ++ r ∧ q.length = n
  | 0, S, acc, as, r, h => by cases h; exact ⟨[], rfl, rfl, rfl⟩
  | n + 1, [], _, _, _, h => nomatch h
  | n + 1, v :: S, acc, as, r, h => by
    obtain ⟨q, h1, h2, h3⟩ := mmPop_spec (n := n) (S := S) (acc := v :: acc) h
    exact ⟨v :: q, by rw [h1]; simp, by rw [h2]; rfl, by simp [h3]⟩
def mmRecv (rc : Option Nat) (as : List Value) (H : MHeap) : Bool :=
  match rc with
  | none => true
  | some k => (match as with | .ref a :: _ => (match mmNth H a with | some (.inl (k', _)) => k' == k | _ => false) | _ => false)
def mmCall (kl : List (Nat × MCall)) (idx pc : Nat) (L : List Slot) (S : List Value) (H : MHeap) (sl : Nat) : Option MSt :=
  match mmLook kl idx with
  | some (na, rc, W, K) =>
    (match mmPop na S [] with
    | some (as, r) => if mmRecv rc as H = true ∧ mmCat r ≤ W then (match K as H with | some (v, H', ds) => some (pc + 3, L, v.toList ++ r, H', sl + ds) | none => none) else none
    | none => none)
  | none => none
def mmSame : FieldType → FieldType → Bool
  | .int, .int => true
  | .long, .long => true
  | .byte, .byte => true
  | .char, .char => true
  | .boolean, .boolean => true
  | _, _ => false
theorem mmSame_eq {t u : FieldType} (h : mmSame t u = true) : t = u := by
  unfold mmSame at h; split at h <;> first | rfl | cases h
def mmALd (t : FieldType) (pc : Nat) (L : List Slot) (S : List Value) (H : MHeap) (sl : Nat) : Option MSt :=
  match S with
  | .int j :: .ref a :: r =>
    (match mmNth H a with
    | some (.inr (ty, vs)) => if mmSame ty t = true ∧ ¬ j < 0 then (match mmNth vs j.toNatClampNeg with | some v => some (pc + 1, L, v :: r, H, sl) | none => none) else none
    | _ => none)
  | _ => none
def mmASt (t : FieldType) (w : Value) (j : Int32) (a : Nat) (r : List Value) (pc : Nat) (L : List Slot) (H : MHeap) (sl : Nat) : Option MSt :=
  match mmNth H a with
  | some (.inr (ty, vs)) => if mmSame ty t = true ∧ ¬ j < 0 ∧ j.toNatClampNeg < vs.length ∧ mmM ≤ a then some (pc + 1, L, r, H.set a (.inr (ty, vs.set j.toNatClampNeg w)), sl) else none
  | _ => none
def mmAALd (pc : Nat) (L : List Slot) (S : List Value) (H : MHeap) (sl : Nat) : Option MSt :=
  match S with
  | .int j :: .ref a :: r =>
    (match mmNth H a with
    | some (.inr (.object _, vs)) => if ¬ j < 0 then (match mmNth vs j.toNatClampNeg with | some v => some (pc + 1, L, v :: r, H, sl) | none => none) else none
    | _ => none)
  | _ => none
def mmCan (ks : List (String × String)) (D C : String) : Bool := ks.any fun q => q.1 == D && q.2 == C
def mmCanO (ks : List (Nat × String)) (k : Nat) (C : String) : Bool := ks.any fun q => q.1 == k && q.2 == C
def mmAASt (ks : List (String × String)) (ko : List (Nat × String)) (y : Nat) (j : Int32) (a : Nat) (r : List Value) (pc : Nat) (L : List Slot) (H : MHeap) (sl : Nat) : Option MSt :=
  match mmNth H a, mmNth H y with
  | some (.inr (.object C, vs)), some (.inr (.object D, ws)) => if ¬ j < 0 ∧ j.toNatClampNeg < vs.length ∧ mmM ≤ a ∧ ¬ ws = [] ∧ mmCan ks D C = true then some (pc + 1, L, r, H.set a (.inr (.object C, vs.set j.toNatClampNeg (.ref y))), sl) else none
  | some (.inr (.object C, vs)), some (.inl (k, _)) => if ¬ j < 0 ∧ j.toNatClampNeg < vs.length ∧ mmM ≤ a ∧ mmCanO ko k C = true then some (pc + 1, L, r, H.set a (.inr (.object C, vs.set j.toNatClampNeg (.ref y))), sl) else none
  | _, _ => none
def mmGetF (kg : List (Nat × Nat × Nat)) (idx pc : Nat) (L : List Slot) (S : List Value) (H : MHeap) (sl : Nat) : Option MSt :=
  match S with
  | .ref a :: r =>
    (match mmLook kg idx with
    | some (k, j) =>
      (match mmNth H a with
      | some (.inl (k', vs)) => if k' = k then (match mmNth vs j with | some v => some (pc + 3, L, v :: r, H, sl) | none => none) else none
      | _ => none)
    | none => none)
  | _ => none
def mmFits : FieldType → Value → Bool
  | .int, .int _ => true
  | .long, .long _ => true
  | .boolean, .int v => v == 0 || v == 1
  | .object _, .ref _ => true
  | .object _, .null => true
  | .array _, .ref _ => true
  | .array _, .null => true
  | _, _ => false
theorem mmFits_ok {n0 : Nat → Nat} {ty : FieldType} {v : Value} (h : mmFits ty v = true) : narrow ty (mmUp n0 v) = mmUp n0 v ∧ fits ty (mmUp n0 v) = true := by
  unfold mmFits at h
  split at h <;> first | exact ⟨rfl, rfl⟩ | (cases h; done) | skip
  rename_i x
  simp only [Bool.or_eq_true, beq_iff_eq] at h
  rcases h with rfl | rfl <;> exact ⟨rfl, rfl⟩
def mmPutF (kp : List (Nat × Nat × Nat × FieldType)) (idx pc : Nat) (L : List Slot) (S : List Value) (H : MHeap) (sl : Nat) : Option MSt :=
  match S with
  | v :: .ref a :: r =>
    (match mmLook kp idx with
    | some (k, j, ty) =>
      (match mmNth H a with
      | some (.inl (k', vs)) => if k' = k ∧ mmFits ty v = true ∧ mmM ≤ a then some (pc + 3, L, r, H.set a (.inl (k', vs.set j v)), sl) else none
      | _ => none)
    | none => none)
  | _ => none
def mmHasTy (ka : List ArrayType) (t : ArrayType) : Bool := ka.any fun u => decide (u = t)
def mmStep (K : MTab) (i : Instr) (pc : Nat) (L : List Slot) (S : List Value) (H : MHeap) (sl : Nat) : Option MSt :=
  match i with
  | .ldc idx => if idx < 100000 then (match mmLook K.1 idx with | some (.int x) => some (pc + 2, L, .int x :: S, H, sl) | _ => none) else none
  | .ldc2_w idx => if idx < 100000 then (match mmLook K.1 idx with | some (.long x) => some (pc + 3, L, .long x :: S, H, sl) | _ => none) else none
  | .getfield idx => mmGetF K.2.1 idx pc L S H sl
  | .putfield idx => mmPutF K.2.2.1 idx pc L S H sl
  | .new idx => (match mmLook K.2.2.2.1 idx with | some (k, n, ds) => some (pc + 3, L, .ref H.length :: S, H ++ [.inl (k, ds)], sl + n) | none => none)
  | .newarray t => (match S with
    | .int n :: r => if mmHasTy K.2.2.2.2.1.1 t = true ∧ ¬ n < 0 ∧ n.toNatClampNeg ≤ 67108864 then some (pc + 2, L, .ref H.length :: r, H ++ [.inr (newarray.typeOf t, List.replicate n.toNatClampNeg (defaultValue (newarray.typeOf t)))], sl + n.toNatClampNeg) else none
    | _ => none)
  | .arraylength => (match S with
    | .ref a :: r => (match mmNth H a with | some (.inr (_, vs)) => some (pc + 1, L, .int vs.length.toInt32 :: r, H, sl) | _ => none)
    | _ => none)
  | .iaload => mmALd .int pc L S H sl
  | .laload => mmALd .long pc L S H sl
  | .caload => mmALd .char pc L S H sl
  | .baload => mmALd .byte pc L S H sl
  | .iastore => (match S with | .int x :: .int j :: .ref a :: r => mmASt .int (.int x) j a r pc L H sl | _ => none)
  | .lastore => (match S with | .long x :: .int j :: .ref a :: r => mmASt .long (.long x) j a r pc L H sl | _ => none)
  | .castore => (match S with | .int x :: .int j :: .ref a :: r => mmASt .char (.int (nar .char x)) j a r pc L H sl | _ => none)
  | .bastore => (match S with | .int x :: .int j :: .ref a :: r => mmASt .byte (.int (nar .byte x)) j a r pc L H sl | _ => none)
  | .invokestatic idx => mmCall K.2.2.2.2.2.2.1 idx pc L S H sl
  | .invokevirtual idx => if idx < 100000 then mmCall K.2.2.2.2.2.2.2.1 idx pc L S H sl else none
  | .invokespecial idx => (match mmLook K.2.2.2.2.2.1 idx with
    | some W => (match S with | .ref _ :: r => if mmCat r ≤ W then some (pc + 3, L, r, H, sl) else none | _ => none)
    | none => mmCall K.2.2.2.2.2.2.2.2 idx pc L S H sl)
  | .getstatic idx => (match mmLook K.1 (idx + 100000) with | some v => some (pc + 3, L, v :: S, H, sl) | none => none)
  | .anewarray idx => (match S with
    | .int n :: r => (match mmLook K.2.2.2.2.1.2.1 idx with | some C => if ¬ n < 0 ∧ n.toNatClampNeg ≤ 67108864 then some (pc + 3, L, .ref H.length :: r, H ++ [.inr (.object C, List.replicate n.toNatClampNeg .null)], sl + n.toNatClampNeg) else none | none => none)
    | _ => none)
  | .aaload => mmAALd pc L S H sl
  | .aastore => (match S with | .ref y :: .int j :: .ref a :: r => mmAASt K.2.2.2.2.1.2.2.1 K.2.2.2.2.1.2.2.2 y j a r pc L H sl | _ => none)
  | .invokeinterface idx _ => (match mmCall K.2.2.2.2.2.2.2.1 (idx + 100000) pc L S H sl with | some (pc', L', S', H', sl') => some (pc' + 2, L', S', H', sl') | none => none)
  | i => (match mmPure i pc L S with | some (pc', L', S') => some (pc', L', S', H, sl) | none => none)
def mmRet (ret : Option FieldType) (i : Instr) (S : List Value) : Option (Option Value) :=
  match i with
  | .ireturn => (match S with
    | .int z :: _ => (match ret with | some .int => some (some (.int z)) | some .boolean => some (some (.int (nar .boolean z))) | some .byte => some (some (.int (nar .byte z))) | some .char => some (some (.int (nar .char z))) | _ => none)
    | _ => none)
  | .lreturn => (match S with | [.long w] => (match ret with | some .long => some (some (.long w)) | _ => none) | _ => none)
  | .areturn => (match S with | [.ref a] => (match ret with | some (.array _) => some (some (.ref a)) | some (.object _) => some (some (.ref a)) | _ => none) | _ => none)
  | .return_ => (match S with | [] => (match ret with | none => some none | _ => none) | _ => none)
  | _ => none
def mmRun (K : MTab) (I : Nat → Option Instr) (ret : Option FieldType) : Nat → Nat → List Slot → List Value → MHeap → Nat → Option (Option Value × MHeap × Nat)
  | 0, _, _, _, _, _ => none
  | f + 1, pc, L, S, H, sl =>
    match I pc with
    | none => none
    | some i =>
      match mmRet ret i S with
      | some v => some (v, H, sl)
      | none =>
        match mmStep K i pc L S H sl with
        | some (pc', L', S', H', sl') => mmRun K I ret f pc' L' S' H' sl'
        | none => none
def mmEntry (as : List Value) (n : Nat) : List Slot := Jvm.Sym.laidSlots as ++ List.replicate (n - (Jvm.Sym.laidSlots as).length) .unset
def mmBody (K : MTab) (I : Nat → Option Instr) (ret : Option FieldType) (maxL fuel : Nat) : MKall := fun as H => if (mmEntry as maxL).length = maxL then mmRun K I ret fuel 0 (mmEntry as maxL) [] H 0 else none
/-- the table of instructions against the bytes -/
def mmChk (bytes : ByteArray) (I : Nat → Option Instr) : Nat → Bool
  | 0 => true
  | n + 1 => (match I n with | none => true | some i => (match decode bytes n with | .ok (i', k) => decide (i' = i) && k == mmLen i | .error _ => false)) && mmChk bytes I n
theorem mmChk_ok {bytes : ByteArray} {I : Nat → Option Instr} : ∀ {n : Nat}, mmChk bytes I n = true → ∀ pc i, pc < n → I pc = some i → decode bytes pc = .ok (i, mmLen i)
  | 0, _, _, _, h, _ => absurd h (Nat.not_lt_zero _)
  | n + 1, h, pc, i, hp, hi => by
    unfold mmChk at h
    rw [Bool.and_eq_true] at h
    rcases Nat.lt_succ_iff_lt_or_eq.mp hp with q | rfl
    · exact mmChk_ok h.2 pc i q hi
    · have h1 := h.1
      rw [hi] at h1
      dsimp only at h1
      split at h1
      · rename_i i' k hd
        simp only [Bool.and_eq_true, decide_eq_true_eq, beq_iff_eq] at h1
        rw [hd, h1.1, h1.2]
      · cases h1

/-! ### soundness of one step -/
def mmKMono (K : MKall) : Prop := ∀ as H v H' ds, K as H = some (v, H', ds) → H.length ≤ H'.length
def mmCallOk (CT : List MCls) (l : Launch) (Z : State) (own : String) (R : Room) (ins : Instr) (ln : Nat) (q : MCall) : Prop :=
  mmKMono q.2.2.2 ∧
  ∀ {p : Program} {e : Env} {s : State} {m : MethodId} {args : Array Value} {below : List Frame} {meth : Method} {c : Code} {T : State} {locs : List Loc} {cells slots pc N0 : Nat} {n0 : Nat → Nat} {H H' : MHeap} {Ls : Array Slot} {as r : List Value} {v : Option Value} {ds : Nat},
  Stand p l e R s m args below meth c T locs cells slots → p.tables.exec = Jvm.exec → Z.Warmed39 s.vm → s.vm.findClass own = some m.cls → mmRel CT Z n0 T.heap H → (∀ a, mmM ≤ a → N0 ≤ n0 a) → Ls.size = c.maxLocals → decode c.code pc = .ok (ins, ln) → as.length = q.1 → mmRecv q.2.1 as H = true → mmCat r ≤ q.2.2.1 →
  q.2.2.2 as H = some (v, H', ds) → cells + (H'.length - H.length) ≤ R.cells → slots + ds ≤ R.slots →
  ∃ (T' : State) (L' : List Loc), Stand p l e R s m args below meth c T' (locs ++ L') (cells + (H'.length - H.length)) (slots + ds) ∧ mmRel CT Z n0 T'.heap H' ∧ Fr N0 L' ∧
    ∀ target, Steps p.tables e below (T'.setTop (mkF m (pc + ln) Ls (mmUV n0 (v.toList ++ r)))) target → Steps p.tables e below (T.setTop (mkF m pc Ls (mmUV n0 (as.reverse ++ r)))) target
/-- what the tables' words must say for a method of class 'own' called 'name' in room R -/
def mmTabOk (CT : List MCls) (l : Launch) (Z : State) (a0 : Array Value) (own name : String) (R : Room) (K : MTab) : Prop :=
  mmAll (fun q : Nat × Value => (q.1 < 100000 → (∀ x, q.2 = .int x → (Cond.constant own q.1 x).before a0 Z = true) ∧ (∀ x, q.2 = .long x → (Cond.constantLong own q.1 x).before a0 Z = true)) ∧ (∀ i, q.1 = i + 100000 → ∃ O f d : String, (O, f, d, q.2) ∈ mmSt ∧ (Cond.fieldLink own i O f d).before a0 Z = true)) K.1 ∧
  mmAll (fun q : Nat × Nat × Nat => ∃ (C : String) (n : Nat) (fs : List MFld) (O f d : String) (ty : FieldType), CT[q.2.1]? = some (C, n, fs) ∧ fs[q.2.2]? = some (O, f, d, ty) ∧ ∃ R0, (Cond.fieldLink own q.1 R0 f d).before a0 Z = true ∧ Via Z R0 O f d) K.2.1 ∧
  mmAll (fun q : Nat × Nat × Nat × FieldType => ∃ (C : String) (n : Nat) (fs : List MFld) (O f d : String), CT[q.2.1]? = some (C, n, fs) ∧ fs[q.2.2.1]? = some (O, f, d, q.2.2.2) ∧ (∃ R0, (Cond.fieldLink own q.1 R0 f d).before a0 Z = true ∧ Via Z R0 O f d) ∧ ((Cond.lays C O f d).before a0 Z = true ∨ ((Cond.laysFinal C O f d).before a0 Z = true ∧ own = O ∧ name = "<init>"))) K.2.2.1 ∧
  mmAll (fun q : Nat × Nat × Nat × List Value => ∃ (C : String) (fs : List MFld), CT[q.2.1]? = some (C, q.2.2.1, fs) ∧ q.2.2.2 = fs.map (fun f => defaultValue f.2.2.2) ∧ (Cond.classLink own q.1 C).before a0 Z = true) K.2.2.2.1 ∧
  (mmAll (fun t : ArrayType => (Cond.arrayClass (newarray.typeOf t)).before a0 Z = true) K.2.2.2.2.1.1 ∧ mmAll (fun q : Nat × String => (Cond.classLink own q.1 q.2).before a0 Z = true ∧ (Cond.arrayOver (.object q.2)).before a0 Z = true) K.2.2.2.2.1.2.1 ∧ mmAll (fun q : String × String => (Cond.castable ("[" ++ (FieldType.object q.1).toString) q.2).before a0 Z = true) K.2.2.2.2.1.2.2.1 ∧ mmAll (fun q : Nat × String => ∃ (C0 : String) (n : Nat) (fs : List MFld), CT[q.1]? = some (C0, n, fs) ∧ (Cond.castable C0 q.2).before a0 Z = true) K.2.2.2.2.1.2.2.2) ∧
  mmAll (fun q : Nat × Nat => (Cond.methodLink own q.1 Lib.objectInit).before a0 Z = true ∧ (Cond.instanceMethod Lib.objectInit).before a0 Z = true ∧ (Cond.code Lib.objectInit ⟨#[0xb1]⟩ 1 none).before a0 Z = true ∧ 1 ≤ R.frames ∧ q.2 + 12 ≤ R.locals) K.2.2.2.2.2.1 ∧
  mmAll (fun q : Nat × MCall => mmCallOk CT l Z own R (.invokestatic q.1) 3 q.2) K.2.2.2.2.2.2.1 ∧
  mmAll (fun q : Nat × MCall => (q.1 < 100000 → mmCallOk CT l Z own R (.invokevirtual q.1) 3 q.2) ∧ (∀ i, q.1 = i + 100000 → ∀ c, mmCallOk CT l Z own R (.invokeinterface i c) 5 q.2)) K.2.2.2.2.2.2.2.1 ∧
  mmAll (fun q : Nat × MCall => mmCallOk CT l Z own R (.invokespecial q.1) 3 q.2) K.2.2.2.2.2.2.2.2
section MMAux
variable {p : Program} {l : Launch} {e : Env} {R : Room} {s : State} {m : MethodId} {args : Array Value} {below : List Frame} {meth : Method} {c : Code} {T : State} {locs : List Loc} {cells slots : Nat} {Z : State} {a0 : Array Value} {h : Heap}
theorem newRn (X : Stand p l e R s m args below meth c T locs cells slots) (hx : p.tables.exec = Jvm.exec) (hZ : Z.Warmed39 s.vm) {own C : String} {index : Nat} (hown : s.vm.findClass own = some m.cls) (w1 : (Cond.classLink own index C).before a0 Z = true) (w2 : (Cond.arrayOver (.object C)).before a0 Z = true)
    (eT : T.heap = h) {g : JFrame} (hg : g.method = m) (hd : decode c.code g.pc = .ok (.anewarray index, 3)) {n : Int32} {rest : List Value} (hs : g.stack = .int n :: rest) (hn : ¬ n < 0) {cap : Nat} (hcap : n.toNatClampNeg ≤ cap) (hb : cap * 8 ≤ 536870912) (hc : cells + 1 ≤ R.cells) (hl : slots + cap ≤ R.slots) :
    ∃ T' h' cA, Stand p l e R s m args below meth c T' locs (cells + 1) (slots + cap) ∧ T'.heap = h' ∧ Ext h h' ∧ Arr Z h' h.size (newA cA (.object C) n) (.object C) ∧ Ovr Z cA C ∧ Z.vm.findClass ("[" ++ (FieldType.object C).toString) = some cA ∧
      ∀ target, Steps p.tables e below (T'.setTop { g with pc := g.pc + 3, stack := .ref h.size :: rest }) target → Steps p.tables e below (T.setTop g) target := by
  obtain ⟨vm1, cA, kA, comp, -, h1, h2, h3, h4, X', st⟩ := X.anewarrayRefK hx hown (mvT hZ w1) (Cond.arrayOver_alike hZ.alike w2) hg hd hs hn (by omega) hc (by omega)
  rw [hZ.alike.findClass] at h1 h4
  obtain ⟨kZ, z1, -⟩ := Vm.findClass_spec h1
  obtain ⟨k', z2, z3⟩ := hZ.alike.2.2 _ _ z1
  cases h2.symm.trans z2
  have hk : kZ.kind = .array comp (.object C) := by rw [← h3, z3]
  subst eT
  refine ⟨_, _, cA, X'.more (Nat.le_refl _) (by omega), rfl, ext_of fun a q => ?_, ⟨?_, ⟨by simp [newA], kZ, z1, comp, hk⟩, by simp [newA]⟩, ⟨kZ, comp, z1, hk, h4⟩, h1, st⟩
  · exact (Array.getElem?_push_lt q).trans (Array.getElem?_eq_getElem q).symm
  · show (T.heap.push _)[T.heap.size]? = _
    simp [newA, defaultValue]
theorem insArr {a : Addr} {cl : Cell} {ty : FieldType} {D C : String} (A : Arr Z h a cl ty) (hF : Z.vm.findClass D = some cl.cls) (hv : cl.vm = .none) (w : (Cond.castable D C).before a0 Z = true) : Ins Z h a C true := Ins.of_exa (exa_arr A hF hv) w
end MMAux
def mmAlloc : Instr → Bool
  | .new _ | .newarray _ | .anewarray _ => true
  | _ => false
section MMSound
variable {CT : List MCls} {p : Program} {l : Launch} {e : Env} {R : Room} {s : State} {m : MethodId} {args : Array Value} {below : List Frame} {meth : Method} {c : Code} {Z : State} {a0 : Array Value} {own name : String} {N0 hl0 : Nat} {n0 : Nat → Nat}
/-- where the walk stands, as the small machine sees it -/
def mmInv (CT : List MCls) (Z : State) (p : Program) (l : Launch) (e : Env) (R : Room) (s : State) (m : MethodId) (args : Array Value) (below : List Frame) (meth : Method) (c : Code) (n0 : Nat → Nat) (N0 hl0 : Nat) (T : State) (H : MHeap) (sl : Nat) : Prop :=
  ∃ (locs : List Loc) (cells : Nat), Stand p l e R s m args below meth c T locs cells sl ∧ cells + hl0 = H.length ∧ Fr N0 locs ∧ mmRel CT Z n0 T.heap H
theorem mmCallOk_step {T : State} {pc sl : Nat} {L : List Slot} {S : List Value} {H : MHeap} {pc' sl' idx : Nat} {L' : List Slot} {S' : List Value} {H' : MHeap} {ins : Instr} {ln : Nat} {kl : List (Nat × MCall)}
    (hN : ∀ a, mmM ≤ a → N0 ≤ n0 a) (hx : p.tables.exec = Jvm.exec) (hZ : Z.Warmed39 s.vm) (hown : s.vm.findClass own = some m.cls) (hkl : ∀ q : MCall, (idx, q) ∈ kl → mmCallOk CT l Z own R ins ln q) (hL : L.length = c.maxLocals)
    (I : mmInv CT Z p l e R s m args below meth c n0 N0 hl0 T H sl) (hc : H'.length ≤ hl0 + R.cells) (hs : sl' ≤ R.slots) (hd : decode c.code pc = .ok (ins, ln)) (hst : mmCall kl idx pc L S H sl = some (pc', L', S', H', sl')) :
    L'.length = L.length ∧ ∃ T', mmInv CT Z p l e R s m args below meth c n0 N0 hl0 T' H' sl' ∧ ∀ target, Steps p.tables e below (T'.setTop (mkF m (pc + ln) (mmUL n0 L') (mmUV n0 S'))) target → Steps p.tables e below (T.setTop (mkF m pc (mmUL n0 L) (mmUV n0 S))) target := by
  obtain ⟨locs, cells, X, hcl, N, rel⟩ := I
  unfold mmCall at hst
  split at hst
  · rename_i na rc W K hk
    split at hst
    · rename_i as r hp
      split at hst
      · rename_i hrc
        split at hst
        · rename_i v H1 ds hK
          cases hst
          obtain ⟨hmono, law⟩ := hkl _ (mmLook_mem hk)
          have hm := hmono _ _ _ _ _ hK
          obtain ⟨q, e1, e2, e3⟩ := mmPop_spec hp
          rw [List.append_nil] at e1
          subst e1 e2
          obtain ⟨T', L', X', rel', N', st⟩ := law (Ls := mmUL n0 L) (as := q.reverse) (r := r) X hx hZ hown rel hN (by simpa [mmUL] using hL) hd (by simpa using e3) hrc.1 hrc.2 hK (by omega) hs
          rw [List.reverse_reverse] at st
          exact ⟨rfl, T', ⟨_, _, X', by omega, Fr.app N N', rel'⟩, st⟩
        · cases hst
      · cases hst
    · cases hst
  · cases hst
theorem mmCall_pc {kl : List (Nat × MCall)} {idx pc sl pc' sl' : Nat} {L L' : List Slot} {S S' : List Value} {H H' : MHeap} (h : mmCall kl idx pc L S H sl = some (pc', L', S', H', sl')) : pc' = pc + 3 := by
  unfold mmCall at h
  repeat' split at h
  all_goals first | (cases h; done) | (cases h; rfl)
theorem mmALd_step {T : State} {pc sl : Nat} {L : List Slot} {S : List Value} {H : MHeap} {pc' sl' : Nat} {L' : List Slot} {S' : List Value} {H' : MHeap} {t : FieldType}
    (hst : mmALd t pc L S H sl = some (pc', L', S', H', sl')) (rel : mmRel CT Z n0 T.heap H) :
    ∃ (j : Int32) (a : Nat) (r : List Value) (cl : Cell) (v : Value), S = .int j :: .ref a :: r ∧ pc' = pc + 1 ∧ L' = L ∧ S' = v :: r ∧ H' = H ∧ sl' = sl ∧ Arr Z T.heap (n0 a) cl t ∧ ¬ (j < 0 ∨ cl.slots.size ≤ j.toNatClampNeg) ∧ cl.slots[j.toNatClampNeg]? = some (mmUp n0 v) := by
  unfold mmALd at hst
  split at hst
  · rename_i j a r
    split at hst
    · rename_i ty vs hn
      split at hst
      · rename_i hq
        split at hst
        · rename_i v hv
          cases hst
          obtain ⟨rfl⟩ := mmSame_eq hq.1
          rw [mmNth_eq] at hn hv
          obtain ⟨cl, A, hc, -⟩ := rel.2.1 a _ hn
          have hlt := (List.getElem?_eq_some_iff.mp hv).1
          refine ⟨j, a, r, cl, v, rfl, rfl, rfl, rfl, rfl, rfl, A, ?_, ?_⟩
          · rintro (q | q)
            · exact hq.2 q
            · rw [hc] at q; simp at q; omega
          · rw [hc]; simp [hv]
        · cases hst
      · cases hst
    · cases hst
  · cases hst
theorem mmASt_step {T : State} {pc sl : Nat} {L : List Slot} {r : List Value} {H : MHeap} {pc' sl' a : Nat} {j : Int32} {w : Value} {L' : List Slot} {S' : List Value} {H' : MHeap} {t : FieldType}
    (hst : mmASt t w j a r pc L H sl = some (pc', L', S', H', sl')) (rel : mmRel CT Z n0 T.heap H) :
    ∃ (vs : List Value) (cl : Cell), pc' = pc + 1 ∧ L' = L ∧ S' = r ∧ H' = H.set a (.inr (t, vs.set j.toNatClampNeg w)) ∧ sl' = sl ∧ mmM ≤ a ∧ (∀ C, t = .object C → vs = [] ∨ (Ovr Z cl.cls C ∧ Z.vm.findClass ("[" ++ (FieldType.object C).toString) = some cl.cls ∧ cl.vm = .none)) ∧ Arr Z T.heap (n0 a) cl t ∧ cl.slots = (mmUV n0 vs).toArray ∧ ¬ (j < 0 ∨ cl.slots.size ≤ j.toNatClampNeg) := by
  unfold mmASt at hst
  split at hst
  · rename_i ty vs hn
    split at hst
    · rename_i hq
      cases hst
      obtain ⟨rfl⟩ := mmSame_eq hq.1
      rw [mmNth_eq] at hn
      obtain ⟨cl, A, hc, hO⟩ := rel.2.1 a _ hn
      refine ⟨vs, cl, rfl, rfl, rfl, rfl, rfl, hq.2.2.2, hO, A, hc, ?_⟩
      rintro (q | q)
      · exact hq.2.1 q
      · rw [hc] at q; have := hq.2.2.1; simp at q; omega
    · cases hst
  · cases hst
set_option maxHeartbeats 4000000 in
theorem mmStep_ok {K : MTab} {T : State} {pc sl : Nat} {L : List Slot} {S : List Value} {H : MHeap} {pc' sl' : Nat} {L' : List Slot} {S' : List Value} {H' : MHeap} {i : Instr} (hx : p.tables.exec = Jvm.exec) (hZ : Z.Warmed39 s.vm) (hown : s.vm.findClass own = some m.cls) (hnm : meth.name = name)
    (hCT : mmAll (mmClsOk Z a0) CT) (hK : mmTabOk CT l Z a0 own name R K) (hN : ∀ a, mmM ≤ a → N0 ≤ n0 a) (hs0 : mmAlloc i = true → ∀ a, hl0 ≤ a → n0 a = s.heap.size + (a - hl0)) (hL : L.length = c.maxLocals)
    (I : mmInv CT Z p l e R s m args below meth c n0 N0 hl0 T H sl) (hc : H'.length ≤ hl0 + R.cells) (hs : sl' ≤ R.slots) (hd : decode c.code pc = .ok (i, mmLen i)) (hst : mmStep K i pc L S H sl = some (pc', L', S', H', sl')) :
    L'.length = L.length ∧ ∃ T', mmInv CT Z p l e R s m args below meth c n0 N0 hl0 T' H' sl' ∧ ∀ target, Steps p.tables e below (T'.setTop (mkF m pc' (mmUL n0 L') (mmUV n0 S'))) target → Steps p.tables e below (T.setTop (mkF m pc (mmUL n0 L) (mmUV n0 S))) target := by
  obtain ⟨k1, k2, k3, k4, ⟨k5, k5b, k5c, k5d⟩, k6, k7, k8, k9⟩ := hK
  have I0 := I
  obtain ⟨locs, cells, X, hcl, N, rel⟩ := I
  unfold mmStep at hst
  split at hst
  · -- ldc
    split at hst
    · rename_i hi5
      split at hst
      · rename_i x hk
        cases hst
        exact ⟨rfl, T, I0, fun target hr => X.ldcI hx hown (mvT hZ (((mmAll_mem k1 _ (mmLook_mem hk)).1 hi5).1 x rfl)) rfl hd hr⟩
      · cases hst
    · cases hst
  · -- ldc2_w
    split at hst
    · rename_i hi5
      split at hst
      · rename_i x hk
        cases hst
        exact ⟨rfl, T, I0, fun target hr => X.ldc2J hx hown (mvT hZ (((mmAll_mem k1 _ (mmLook_mem hk)).1 hi5).2 x rfl)) rfl hd hr⟩
      · cases hst
    · cases hst
  · -- getfield
    unfold mmGetF at hst
    split at hst
    · rename_i a r
      split at hst
      · rename_i k j hk
        split at hst
        · rename_i k' vs hn
          split at hst
          · rename_i hkk
            split at hst
            · rename_i v hv
              cases hst; subst hkk
              obtain ⟨C, n, fs, O, f, d, ty, q1, q2, R0, q3, hv0⟩ := mmAll_mem k2 _ (mmLook_mem hk)
              rw [mmNth_eq] at hn hv
              obtain ⟨C', n', fs', r1, r2, r3, r4⟩ := rel.2.1 a _ hn
              cases q1.symm.trans r1
              obtain ⟨T', X', e', st⟩ := getF X hx hZ hown (host := "") (Or.inl q3) hv0 rfl (r4 j O f d ty v q2 hv) (g := mkF m pc (mmUL n0 L) (mmUV n0 (.ref a :: r))) rfl rfl hd
              exact ⟨rfl, T', ⟨locs, cells, X', hcl, N, by rw [e']; exact rel⟩, st⟩
            · cases hst
          · cases hst
        · cases hst
      · cases hst
    · cases hst
  · -- putfield
    unfold mmPutF at hst
    split at hst
    · rename_i v a r
      split at hst
      · rename_i k j ty hk
        split at hst
        · rename_i k' vs hn
          split at hst
          · rename_i hkk
            cases hst
            obtain ⟨hkk, hft, hma⟩ := hkk
            subst hkk
            obtain ⟨C, n, fs, O, f, d, q1, q2, ⟨R0, q3, hv0⟩, q4⟩ := mmAll_mem k3 _ (mmLook_mem hk)
            rw [mmNth_eq] at hn
            obtain ⟨C', n', fs', r1, r2, r3, r4⟩ := rel.2.1 a _ hn
            cases q1.symm.trans r1
            have hcls := mmAll_nth hCT q1
            have hl : j < vs.length := by rw [r3]; exact (List.getElem?_eq_some_iff.mp q2).1
            obtain ⟨T', h', X', e', W, st⟩ := putF X hx hZ hown (host := "") (Or.inl q3) hv0 rfl (r4 j O f d ty _ q2 (List.getElem?_eq_getElem hl)) r2 (q4.imp id fun z => ⟨z.1, z.2.1, hnm.trans z.2.2⟩) hcls.1 (ty := ty) (mmAll_nth hcls.2.2.1 q2).2 (v := mmUp n0 v) (mmFits_ok hft).1 (mmFits_ok hft).2 (g := mkF m pc (mmUL n0 L) (mmUV n0 (v :: .ref a :: S'))) rfl rfl hd
            refine ⟨rfl, T', ⟨_, cells, X', by rw [List.length_set]; exact hcl, Fr.snoc X' N (hN a hma), ?_⟩, st⟩
            rw [e']
            exact mmRel_fld hma hcls q1 q2 rel hn W
          · cases hst
        · cases hst
      · cases hst
    · cases hst
  · -- new
    split at hst
    · rename_i k n ds hk
      cases hst
      obtain ⟨C, fs, q1, q2, q3⟩ := mmAll_mem k4 _ (mmLook_mem hk)
      have hcls := mmAll_nth hCT q1
      rw [List.length_append] at hc
      have hc' : H.length + 1 ≤ hl0 + R.cells := hc
      obtain ⟨T', h', X', e', E, A, D, -, st⟩ := newO X hx hZ hown q3 hcls.1 hcls.2.1 rfl (g := mkF m pc (mmUL n0 L) (mmUV n0 S)) rfl hd (by omega) hs
      have z1 := X'.heapSize
      have z2 : T.heap.size < h'.size := A.lt
      have z4 := rel.1 _ (Nat.le_refl _)
      have z5 := hs0 rfl H.length (by omega)
      have z3 : h'.size = T.heap.size + 1 := by rw [e'] at z1; omega
      refine ⟨rfl, T', ⟨_, _, X', by simp; omega, N, ?_⟩, fun target hr => st target ?_⟩
      · rw [e']
        refine mmRel_push rel E z3 ⟨C, _, fs, q1, A, by simp only [] at q2; rw [q2]; simp, fun j O f d ty v g1 g2 => ?_⟩
        simp only [] at q2
        rw [q2, List.getElem?_map, g1] at g2
        cases g2
        rw [mmUp_default]
        exact D (mmAll_nth hcls.2.2.1 g1).1 (mmAll_nth hcls.2.2.1 g1).2
      · have z6 : T.heap.size = n0 H.length := by omega
        rw [z6]; exact hr
    · cases hst
  · -- newarray
    rename_i t
    split at hst
    · rename_i n r
      split at hst
      · rename_i hq
        cases hst
        rw [List.length_append] at hc
        have hc' : H.length + 1 ≤ hl0 + R.cells := hc
        have hty : (Cond.arrayClass (newarray.typeOf t)).before a0 Z = true := by
          have q := hq.1
          unfold mmHasTy at q
          rw [List.any_eq_true] at q
          obtain ⟨u, hu, e⟩ := q
          have e := of_decide_eq_true e
          subst e
          exact mmAll_mem k5 _ hu
        obtain ⟨T', h', cA, X', e', E, A, st⟩ := newP X hx hZ hty rfl (g := mkF m pc (mmUL n0 L) (mmUV n0 (.int n :: r))) rfl hd rfl hq.2.1 (cap := n.toNatClampNeg) (Nat.le_refl _) (by have := hq.2.2; omega) (by omega) hs
        have z1 := X'.heapSize
        have z2 : T.heap.size < h'.size := A.lt
        have z4 := rel.1 _ (Nat.le_refl _)
        have z5 := hs0 rfl H.length (by omega)
        have z3 : h'.size = T.heap.size + 1 := by rw [e'] at z1; omega
        refine ⟨rfl, T', ⟨_, _, X', by simp; omega, N, ?_⟩, fun target hr => st target ?_⟩
        · rw [e']
          refine mmRel_push rel E z3 ⟨_, A, ?_, fun C e => by cases t <;> cases e⟩
          simp [newA, mmUp_default]
        · have z6 : T.heap.size = n0 H.length := by omega
          rw [z6]; exact hr
      · cases hst
    · cases hst
  · -- arraylength
    split at hst
    · rename_i a r
      split at hst
      · rename_i ty vs hn
        cases hst
        rw [mmNth_eq] at hn
        obtain ⟨cl, A, hcs, -⟩ := rel.2.1 a _ hn
        refine ⟨rfl, T, I0, fun target hr => X.arraylength hx A.1 (State.isArrayOf_alike hZ.alike A.2.1) (g := mkF m pc (mmUL n0 L) (mmUV n0 (.ref a :: r))) rfl rfl hd target ?_⟩
        have e1 : cl.slots.size = vs.length := by rw [hcs]; simp
        rw [e1]; exact hr
      · cases hst
    · cases hst
  · obtain ⟨j, a, r, cl, v, rfl, rfl, rfl, rfl, rfl, rfl, A, hin, hat⟩ := mmALd_step (T := T) hst rel
    exact ⟨rfl, T, I0, fun target hr => X.iaload hx A.1 (State.isArrayOf_alike hZ.alike A.2.1) A.2.2 hin hat (g := mkF m pc (mmUL n0 L') (mmUV n0 (.int j :: .ref a :: r))) rfl rfl hd target hr⟩
  · obtain ⟨j, a, r, cl, v, rfl, rfl, rfl, rfl, rfl, rfl, A, hin, hat⟩ := mmALd_step (T := T) hst rel
    exact ⟨rfl, T, I0, fun target hr => X.laload hx A.1 (State.isArrayOf_alike hZ.alike A.2.1) A.2.2 hin hat (g := mkF m pc (mmUL n0 L') (mmUV n0 (.int j :: .ref a :: r))) rfl rfl hd target hr⟩
  · obtain ⟨j, a, r, cl, v, rfl, rfl, rfl, rfl, rfl, rfl, A, hin, hat⟩ := mmALd_step (T := T) hst rel
    exact ⟨rfl, T, I0, fun target hr => X.caload hx A.1 (State.isArrayOf_alike hZ.alike A.2.1) A.2.2 hin hat (g := mkF m pc (mmUL n0 L') (mmUV n0 (.int j :: .ref a :: r))) rfl rfl hd target hr⟩
  · obtain ⟨j, a, r, cl, v, rfl, rfl, rfl, rfl, rfl, rfl, A, hin, hat⟩ := mmALd_step (T := T) hst rel
    exact ⟨rfl, T, I0, fun target hr => X.baloadBytes hx A.1 (State.isArrayOf_alike hZ.alike A.2.1) A.2.2 hin hat (g := mkF m pc (mmUL n0 L') (mmUV n0 (.int j :: .ref a :: r))) rfl rfl hd target hr⟩
  · split at hst
    · rename_i x j a r
      obtain ⟨vs, cl, rfl, rfl, rfl, rfl, rfl, hma, hO, A, hcs, hin⟩ := mmASt_step (T := T) hst rel
      obtain ⟨T', h', X', e', W, st⟩ := stI X hx hZ rfl A hin (g := mkF m pc (mmUL n0 L') (mmUV n0 (.int x :: .int j :: .ref a :: S'))) rfl rfl hd
      exact ⟨rfl, T', ⟨_, cells, X', by rw [List.length_set]; exact hcl, Fr.snoc X' N (hN a hma), by rw [e']; exact mmRel_arr (v := .int x) rel hma A hcs hO W⟩, st⟩
    · cases hst
  · split at hst
    · rename_i x j a r
      obtain ⟨vs, cl, rfl, rfl, rfl, rfl, rfl, hma, hO, A, hcs, hin⟩ := mmASt_step (T := T) hst rel
      obtain ⟨T', h', X', e', W, st⟩ := stJ X hx hZ rfl A hin (g := mkF m pc (mmUL n0 L') (mmUV n0 (.long x :: .int j :: .ref a :: S'))) rfl rfl hd
      exact ⟨rfl, T', ⟨_, cells, X', by rw [List.length_set]; exact hcl, Fr.snoc X' N (hN a hma), by rw [e']; exact mmRel_arr (v := .long x) rel hma A hcs hO W⟩, st⟩
    · cases hst
  · split at hst
    · rename_i x j a r
      obtain ⟨vs, cl, rfl, rfl, rfl, rfl, rfl, hma, hO, A, hcs, hin⟩ := mmASt_step (T := T) hst rel
      obtain ⟨T', h', X', e', W, st⟩ := stC X hx hZ rfl A hin (g := mkF m pc (mmUL n0 L') (mmUV n0 (.int x :: .int j :: .ref a :: S'))) rfl rfl hd
      exact ⟨rfl, T', ⟨_, cells, X', by rw [List.length_set]; exact hcl, Fr.snoc X' N (hN a hma), by rw [e']; exact mmRel_arr (v := .int (nar .char x)) rel hma A hcs hO W⟩, st⟩
    · cases hst
  · split at hst
    · rename_i x j a r
      obtain ⟨vs, cl, rfl, rfl, rfl, rfl, rfl, hma, hO, A, hcs, hin⟩ := mmASt_step (T := T) hst rel
      obtain ⟨T', h', X', e', W, st⟩ := stB X hx hZ rfl A hin (g := mkF m pc (mmUL n0 L') (mmUV n0 (.int x :: .int j :: .ref a :: S'))) rfl rfl hd
      exact ⟨rfl, T', ⟨_, cells, X', by rw [List.length_set]; exact hcl, Fr.snoc X' N (hN a hma), by rw [e']; exact mmRel_arr (v := .int (nar .byte x)) rel hma A hcs hO W⟩, st⟩
    · cases hst
  · obtain ⟨a1, T', a2, a3⟩ := mmCallOk_step hN hx hZ hown (fun q hq => mmAll_mem k7 _ hq) hL I0 hc hs hd hst
    exact ⟨a1, T', a2, by rw [mmCall_pc hst]; exact a3⟩
  · split at hst
    · rename_i hi5
      obtain ⟨a1, T', a2, a3⟩ := mmCallOk_step hN hx hZ hown (fun q hq => (mmAll_mem k8 _ hq).1 hi5) hL I0 hc hs hd hst
      exact ⟨a1, T', a2, by rw [mmCall_pc hst]; exact a3⟩
    · cases hst
  · split at hst
    · rename_i idx W hk
      split at hst
      · rename_i a r
        split at hst
        · rename_i hW
          cases hst
          obtain ⟨q1, q2, q3, q4, q5⟩ := mmAll_mem k6 _ (mmLook_mem hk)
          obtain ⟨T', X', e', st⟩ := initO X hx hZ hown q1 q2 q3 rfl (g := mkF m pc (mmUL n0 L) (mmUV n0 (.ref a :: S'))) rfl (by simpa [mmUL] using hL) rfl hd q4 (W := W) (by rw [mmCat_up]; show 2 * 0 + _ ≤ _; omega) q5
          exact ⟨rfl, T', ⟨locs, cells, X', hcl, N, by rw [e']; exact rel⟩, st⟩
        · cases hst
      · cases hst
    · obtain ⟨a1, T', a2, a3⟩ := mmCallOk_step hN hx hZ hown (fun q hq => mmAll_mem k9 _ hq) hL I0 hc hs hd hst
      exact ⟨a1, T', a2, by rw [mmCall_pc hst]; exact a3⟩
  · -- getstatic
    split at hst
    · rename_i v hk
      cases hst
      obtain ⟨O, f, d, q1, q2⟩ := (mmAll_mem k1 _ (mmLook_mem hk)).2 _ rfl
      obtain ⟨T', X', e', st⟩ := getS (host := "") X hx hZ hown q2 Via.refl rfl (mmAll_mem rel.2.2.2.1 _ q1) (g := mkF m pc (mmUL n0 L) (mmUV n0 S)) rfl hd
      exact ⟨rfl, T', ⟨locs, cells, X', hcl, N, by rw [e']; exact rel⟩, st⟩
    · cases hst
  · -- anewarray
    split at hst
    · rename_i n r
      split at hst
      · rename_i C hk
        split at hst
        · rename_i hq
          cases hst
          rw [List.length_append] at hc
          have hc' : H.length + 1 ≤ hl0 + R.cells := hc
          obtain ⟨w1, w2⟩ := mmAll_mem k5b _ (mmLook_mem hk)
          obtain ⟨T', h', cA, X', e', E, A, O, hF, st⟩ := newRn X hx hZ hown w1 w2 rfl (g := mkF m pc (mmUL n0 L) (mmUV n0 (.int n :: r))) rfl hd rfl hq.1 (cap := n.toNatClampNeg) (Nat.le_refl _) (by have := hq.2; omega) (by omega) hs
          have z1 := X'.heapSize
          have z2 : T.heap.size < h'.size := A.lt
          have z4 := rel.1 _ (Nat.le_refl _)
          have z5 := hs0 rfl H.length (by omega)
          have z3 : h'.size = T.heap.size + 1 := by rw [e'] at z1; omega
          refine ⟨rfl, T', ⟨_, _, X', by simp; omega, N, ?_⟩, fun target hr => st target ?_⟩
          · rw [e']
            refine mmRel_push rel E z3 ⟨_, A, ?_, fun C' e => by cases e; exact Or.inr ⟨O, hF, rfl⟩⟩
            simp [newA, mmUp, defaultValue]
          · have z6 : T.heap.size = n0 H.length := by omega
            rw [z6]; exact hr
        · cases hst
      · cases hst
    · cases hst
  · -- aaload
    unfold mmAALd at hst
    split at hst
    · rename_i j a r
      split at hst
      · rename_i C vs hn
        split at hst
        · rename_i hj
          split at hst
          · rename_i v hv
            cases hst
            rw [mmNth_eq] at hn hv
            obtain ⟨cl, A, hcs, -⟩ := rel.2.1 a _ hn
            have hlt := (List.getElem?_eq_some_iff.mp hv).1
            have hin : ¬ (j < 0 ∨ cl.slots.size ≤ j.toNatClampNeg) := by
              rintro (q | q)
              · exact hj q
              · rw [hcs] at q; simp at q; omega
            have hat : cl.slots[j.toNatClampNeg]? = some (mmUp n0 v) := by rw [hcs]; simp [hv]
            exact ⟨rfl, T, I0, fun target hr => X.aaload hx A.1 (State.isArrayOf_alike hZ.alike A.2.1) rfl A.2.2 hin hat (g := mkF m pc (mmUL n0 L) (mmUV n0 (.int j :: .ref a :: r))) rfl rfl hd target hr⟩
          · cases hst
        · cases hst
      · cases hst
    · cases hst
  · -- aastore
    split at hst
    · rename_i y j a r
      unfold mmAASt at hst
      split at hst
      · rename_i C vs D ws hn hy
        split at hst
        · rename_i hq
          cases hst
          obtain ⟨hq1, hq2, hma, hq3, hq4⟩ := hq
          rw [mmNth_eq] at hn hy
          obtain ⟨cl, A, hcs, hO⟩ := rel.2.1 a _ hn
          obtain ⟨cl2, A2, hcs2, hO2⟩ := rel.2.1 y _ hy
          have hO' := hO
          obtain ⟨O, -⟩ := (hO C rfl).resolve_left (fun z => by rw [z] at hq2; exact absurd hq2 (Nat.not_lt_zero _))
          obtain ⟨-, hF, hvn⟩ := (hO2 D rfl).resolve_left hq3
          have hin : ¬ (j < 0 ∨ cl.slots.size ≤ j.toNatClampNeg) := by
            rintro (q | q)
            · exact hq1 q
            · rw [hcs] at q; simp at q; omega
          have hcan : (Cond.castable ("[" ++ (FieldType.object D).toString) C).before a0 Z = true := by
            unfold mmCan at hq4
            rw [List.any_eq_true] at hq4
            obtain ⟨⟨u1, u2⟩, hu, e⟩ := hq4
            simp only [Bool.and_eq_true, beq_iff_eq] at e
            have := mmAll_mem k5c _ hu
            rw [e.1, e.2] at this; exact this
          have F : Sto Z T.heap (n0 a) (.ref (n0 y)) := Sto.of A O (insArr A2 hF hvn hcan)
          obtain ⟨T', h', X', e', W, st⟩ := stR X hx hZ rfl A hin rfl F (g := mkF m pc (mmUL n0 L) (mmUV n0 (.ref y :: .int j :: .ref a :: S'))) rfl rfl hd
          exact ⟨rfl, T', ⟨_, cells, X', by rw [List.length_set]; exact hcl, Fr.snoc X' N (hN a hma), by rw [e']; exact mmRel_arr (v := .ref y) rel hma A hcs hO' W⟩, st⟩
        · cases hst
      · rename_i C vs k ws hn hy
        split at hst
        · rename_i hq
          cases hst
          obtain ⟨hq1, hq2, hma, hq4⟩ := hq
          rw [mmNth_eq] at hn hy
          obtain ⟨cl, A, hcs, hO⟩ := rel.2.1 a _ hn
          obtain ⟨C0, n0', fs0, r1, r2, -⟩ := rel.2.1 y _ hy
          have hO' := hO
          obtain ⟨O, -⟩ := (hO C rfl).resolve_left (fun z => by rw [z] at hq2; exact absurd hq2 (Nat.not_lt_zero _))
          have hin : ¬ (j < 0 ∨ cl.slots.size ≤ j.toNatClampNeg) := by
            rintro (q | q)
            · exact hq1 q
            · rw [hcs] at q; simp at q; omega
          have hcan : (Cond.castable C0 C).before a0 Z = true := by
            unfold mmCanO at hq4
            rw [List.any_eq_true] at hq4
            obtain ⟨⟨u1, u2⟩, hu, e⟩ := hq4
            simp only [Bool.and_eq_true, beq_iff_eq] at e
            obtain ⟨C1, n1, fs1, g1, g2⟩ := mmAll_mem k5d _ hu
            rw [e.1] at g1
            cases g1.symm.trans r1
            rw [e.2] at g2; exact g2
          have F : Sto Z T.heap (n0 a) (.ref (n0 y)) := Sto.of A O (Ins.of_exa r2 hcan)
          obtain ⟨T', h', X', e', W, st⟩ := stR X hx hZ rfl A hin rfl F (g := mkF m pc (mmUL n0 L) (mmUV n0 (.ref y :: .int j :: .ref a :: S'))) rfl rfl hd
          exact ⟨rfl, T', ⟨_, cells, X', by rw [List.length_set]; exact hcl, Fr.snoc X' N (hN a hma), by rw [e']; exact mmRel_arr (v := .ref y) rel hma A hcs hO' W⟩, st⟩
        · cases hst
      · cases hst
    · cases hst
  · -- invokeinterface
    split at hst
    · rename_i pc1 L1 S1 H1 sl1 hst1
      cases hst
      obtain ⟨a1, T', a2, a3⟩ := mmCallOk_step (ln := 5) hN hx hZ hown (fun q hq => (mmAll_mem k8 _ hq).2 _ rfl _) hL I0 hc hs hd hst1
      exact ⟨a1, T', a2, by rw [mmCall_pc hst1]; exact a3⟩
    · cases hst
  · split at hst
    · rename_i hp
      cases hst
      exact ⟨mmPure_len hp, T, I0, fun target hr => mmPure_ok rel.2.2.1 X.here hx hp hd hr⟩
    · cases hst
end MMSound

/-! ### soundness of a run, of a body, of a call -/
def mmMonos (K : MTab) : Prop := mmAll (fun q : Nat × MCall => mmKMono q.2.2.2.2) K.2.2.2.2.2.2.1 ∧ mmAll (fun q : Nat × MCall => mmKMono q.2.2.2.2) K.2.2.2.2.2.2.2.1 ∧ mmAll (fun q : Nat × MCall => mmKMono q.2.2.2.2) K.2.2.2.2.2.2.2.2
theorem mmCall_mono {kl : List (Nat × MCall)} (hk : mmAll (fun q : Nat × MCall => mmKMono q.2.2.2.2) kl) {idx pc sl pc' sl' : Nat} {L L' : List Slot} {S S' : List Value} {H H' : MHeap} (h : mmCall kl idx pc L S H sl = some (pc', L', S', H', sl')) : H.length ≤ H'.length ∧ sl ≤ sl' := by
  unfold mmCall at h
  split at h
  · rename_i na rc W K hq
    split at h
    · split at h
      · split at h
        · rename_i v H1 ds hK
          cases h
          exact ⟨mmAll_mem hk _ (mmLook_mem hq) _ _ _ _ _ hK, Nat.le_add_right _ _⟩
        · cases h
      · cases h
    · cases h
  · cases h
theorem mmALd_mono {t : FieldType} {pc sl pc' sl' : Nat} {L L' : List Slot} {S S' : List Value} {H H' : MHeap} (h : mmALd t pc L S H sl = some (pc', L', S', H', sl')) : H.length ≤ H'.length ∧ sl ≤ sl' := by
  unfold mmALd at h
  repeat' split at h
  all_goals first | (cases h; done) | (cases h; exact ⟨Nat.le_refl _, Nat.le_refl _⟩)
theorem mmASt_mono {t : FieldType} {w : Value} {j : Int32} {a : Nat} {r : List Value} {pc sl pc' sl' : Nat} {L L' : List Slot} {S' : List Value} {H H' : MHeap} (h : mmASt t w j a r pc L H sl = some (pc', L', S', H', sl')) : H.length ≤ H'.length ∧ sl ≤ sl' := by
  unfold mmASt at h
  repeat' split at h
  all_goals first | (cases h; done) | (cases h; exact ⟨by simp, Nat.le_refl _⟩)
theorem mmGetF_mono {kg : List (Nat × Nat × Nat)} {idx pc sl pc' sl' : Nat} {L L' : List Slot} {S S' : List Value} {H H' : MHeap} (h : mmGetF kg idx pc L S H sl = some (pc', L', S', H', sl')) : H.length ≤ H'.length ∧ sl ≤ sl' := by
  unfold mmGetF at h
  repeat' split at h
  all_goals first | (cases h; done) | (cases h; exact ⟨Nat.le_refl _, Nat.le_refl _⟩)
theorem mmPutF_mono {kg : List (Nat × Nat × Nat × FieldType)} {idx pc sl pc' sl' : Nat} {L L' : List Slot} {S S' : List Value} {H H' : MHeap} (h : mmPutF kg idx pc L S H sl = some (pc', L', S', H', sl')) : H.length ≤ H'.length ∧ sl ≤ sl' := by
  unfold mmPutF at h
  repeat' split at h
  all_goals first | (cases h; done) | (cases h; exact ⟨by simp, Nat.le_refl _⟩)
theorem mmStep_mono {K : MTab} (hK : mmMonos K) {i : Instr} {pc sl pc' sl' : Nat} {L L' : List Slot} {S S' : List Value} {H H' : MHeap} (h : mmStep K i pc L S H sl = some (pc', L', S', H', sl')) : H.length ≤ H'.length ∧ sl ≤ sl' := by
  unfold mmStep at h
  split at h
  · repeat' split at h
    all_goals first | (cases h; done) | (cases h; exact ⟨Nat.le_refl _, Nat.le_refl _⟩)
  · repeat' split at h
    all_goals first | (cases h; done) | (cases h; exact ⟨Nat.le_refl _, Nat.le_refl _⟩)
  · exact mmGetF_mono h
  · exact mmPutF_mono h
  · split at h <;> first | (cases h; done) | (cases h; exact ⟨by simp, Nat.le_add_right _ _⟩)
  · split at h
    · split at h <;> first | (cases h; done) | (cases h; exact ⟨by simp, Nat.le_add_right _ _⟩)
    · cases h
  · split at h
    · split at h <;> first | (cases h; done) | (cases h; exact ⟨Nat.le_refl _, Nat.le_refl _⟩)
    · cases h
  · exact mmALd_mono h
  · exact mmALd_mono h
  · exact mmALd_mono h
  · exact mmALd_mono h
  · split at h <;> first | exact mmASt_mono h | cases h
  · split at h <;> first | exact mmASt_mono h | cases h
  · split at h <;> first | exact mmASt_mono h | cases h
  · split at h <;> first | exact mmASt_mono h | cases h
  · exact mmCall_mono hK.1 h
  · split at h
    · exact mmCall_mono hK.2.1 h
    · cases h
  · split at h
    · split at h
      · split at h <;> first | (cases h; done) | (cases h; exact ⟨Nat.le_refl _, Nat.le_refl _⟩)
      · cases h
    · exact mmCall_mono hK.2.2 h
  · split at h <;> first | (cases h; done) | (cases h; exact ⟨Nat.le_refl _, Nat.le_refl _⟩)
  · split at h
    · split at h
      · split at h <;> first | (cases h; done) | (cases h; exact ⟨by simp, Nat.le_add_right _ _⟩)
      · cases h
    · cases h
  · unfold mmAALd at h
    repeat' split at h
    all_goals first | (cases h; done) | (cases h; exact ⟨Nat.le_refl _, Nat.le_refl _⟩)
  · split at h
    · unfold mmAASt at h
      repeat' split at h
      all_goals first | (cases h; done) | (cases h; exact ⟨by simp, Nat.le_refl _⟩)
    · cases h
  · split at h
    · rename_i hq
      cases h
      exact mmCall_mono hK.2.1 hq
    · cases h
  · split at h <;> first | (cases h; done) | (cases h; exact ⟨Nat.le_refl _, Nat.le_refl _⟩)
theorem mmRun_mono {K : MTab} (hK : mmMonos K) {I : Nat → Option Instr} {ret : Option FieldType} : ∀ {f pc sl : Nat} {L : List Slot} {S : List Value} {H : MHeap} {v : Option Value} {H' : MHeap} {sl' : Nat}, mmRun K I ret f pc L S H sl = some (v, H', sl') → H.length ≤ H'.length ∧ sl ≤ sl'
  | 0, _, _, _, _, _, _, _, _, h => nomatch h
  | f + 1, pc, sl, L, S, H, v, H', sl', h => by
    unfold mmRun at h
    split at h
    · cases h
    · split at h
      · cases h; exact ⟨Nat.le_refl _, Nat.le_refl _⟩
      · split at h
        · rename_i hst
          have q1 := mmStep_mono hK hst
          have q2 := mmRun_mono hK h
          exact ⟨Nat.le_trans q1.1 q2.1, Nat.le_trans q1.2 q2.2⟩
        · cases h
theorem mmBody_mono {K : MTab} (hK : mmMonos K) {I : Nat → Option Instr} {ret : Option FieldType} {maxL fuel : Nat} : mmKMono (mmBody K I ret maxL fuel) := fun as H v H' ds h => by
  unfold mmBody at h
  split at h
  · exact (mmRun_mono hK h).1
  · cases h
theorem mmTabOk_mono {CT : List MCls} {l : Launch} {Z : State} {a0 : Array Value} {own name : String} {R : Room} {K : MTab} (h : mmTabOk CT l Z a0 own name R K) : mmMonos K :=
  ⟨mmAll_imp (fun _ q => q.1) h.2.2.2.2.2.2.1, mmAll_imp (fun z q => if e : z.1 < 100000 then (q.1 e).1 else (q.2 (z.1 - 100000) (by omega) 0).1) h.2.2.2.2.2.2.2.1, mmAll_imp (fun _ q => q.1) h.2.2.2.2.2.2.2.2⟩
section MMRunOk
variable {CT : List MCls} {p : Program} {l : Launch} {e : Env} {R : Room} {s : State} {m : MethodId} {args : Array Value} {below : List Frame} {meth : Method} {c : Code} {Z : State} {a0 : Array Value} {own name : String} {N0 hl0 : Nat} {n0 : Nat → Nat}
theorem mmRet_ok {T : State} {locs : List Loc} {cells slots : Nat} (X : Stand p l e R s m args below meth c T locs cells slots) (hx : p.tables.exec = Jvm.exec) {ret : Option FieldType} (hret : meth.sig.returnType = ret) {i : Instr} {pc : Nat} {Ls : Array Slot} {S : List Value} {v : Option Value}
    (h : mmRet ret i S = some v) (hd : decode c.code pc = .ok (i, mmLen i)) {fs : List Frame} (hl : ∀ (f : JFrame) (acts : List Action), f.method = m → f.locked = none → f.entered = [] → (doReturn e (T.setTop f) acts (v.map (mmUp n0))).1 = T.setFrames fs) :
    Steps p.tables e below (T.setTop (mkF m pc Ls (mmUV n0 S))) (T.setFrames fs) := by
  unfold mmRet at h
  split at h
  · split at h
    · rename_i z r
      split at h
      · cases h; exact retOut X hx hret (w := .int z) rfl (Or.inl ⟨rfl, Or.inl rfl, z, rfl⟩) hd hl
      · cases h; exact retN X hx (t := .boolean) hret (by simp) hd hl
      · cases h; exact retN X hx (t := .byte) hret (by simp) hd hl
      · cases h; exact retN X hx (t := .char) hret (by simp) hd hl
      · cases h
    · cases h
  · split at h
    · rename_i w
      split at h
      · cases h; exact retOut X hx hret (w := .long w) rfl (Or.inr (Or.inl ⟨rfl, rfl, w, rfl⟩)) hd hl
      · cases h
    · cases h
  · split at h
    · rename_i a
      split at h
      · cases h; exact retOut X hx hret (w := .ref (n0 a)) rfl (Or.inr (Or.inr (Or.inr (Or.inr ⟨rfl, rfl, rfl⟩)))) hd hl
      · cases h; exact retOut X hx hret (w := .ref (n0 a)) rfl (Or.inr (Or.inr (Or.inr (Or.inr ⟨rfl, rfl, rfl⟩)))) hd hl
      · cases h
    · cases h
  · split at h
    · split at h
      · cases h; exact X.returnOut hx hret hd hl
      · cases h
    · cases h
  · cases h
theorem mmRet_none {ret : Option FieldType} {i : Instr} {S : List Value} {v : Option Value} (h : mmRet ret i S = some v) : ret = none → v = none := by
  unfold mmRet at h
  repeat' split at h
  all_goals first | (cases h; done) | (cases h; intro z; first | rfl | cases z)
theorem mmRun_ok {K : MTab} {I : Nat → Option Instr} {ret : Option FieldType} (hx : p.tables.exec = Jvm.exec) (hZ : Z.Warmed39 s.vm) (hown : s.vm.findClass own = some m.cls) (hnm : meth.name = name) (hret : meth.sig.returnType = ret) (hlk : meth.locks = false)
    (hCT : mmAll (mmClsOk Z a0) CT) (hK : mmTabOk CT l Z a0 own name R K) (hN : ∀ a, mmM ≤ a → N0 ≤ n0 a) (hs0 : (∀ pc i, I pc = some i → mmAlloc i = false) ∨ ∀ a, hl0 ≤ a → n0 a = s.heap.size + (a - hl0)) (hI : ∀ pc i, I pc = some i → decode c.code pc = .ok (i, mmLen i)) :
    ∀ {f pc sl : Nat} {L : List Slot} {S : List Value} {H : MHeap} {v : Option Value} {H' : MHeap} {sl' : Nat} {T : State}, mmRun K I ret f pc L S H sl = some (v, H', sl') → L.length = c.maxLocals → mmInv CT Z p l e R s m args below meth c n0 N0 hl0 T H sl → H'.length ≤ hl0 + R.cells → sl' ≤ R.slots →
    ∃ (T' : State) (locs : List Loc) (cells : Nat) (fs : List Frame), cells + hl0 = H'.length ∧ Fr N0 locs ∧ mmRel CT Z n0 T'.heap H' ∧ Steps p.tables e below (T.setTop (mkF m pc (mmUL n0 L) (mmUV n0 S))) (T'.setFrames fs) ∧ (T'.setFrames fs).status = .running ∧ Ended (T'.setFrames fs) below (.returned (v.map (mmUp n0))) ∧
      s.WarmedH (T'.setFrames fs).vm ∧ s.sameButNew ({ T'.setFrames fs with vm := s.vm } : State) locs cells sl'
  | 0, _, _, _, _, _, _, _, _, _, h, _, _, _, _ => nomatch h
  | f + 1, pc, sl, L, S, H, v, H', sl', T, h, hL, Iv, hc, hs => by
    unfold mmRun at h
    split at h
    · cases h
    · rename_i i hi
      have hd := hI _ _ hi
      split at h
      · rename_i v' hv
        cases h
        obtain ⟨locs, cells, X, hcl, N, rel⟩ := Iv
        obtain ⟨fs, hr, hrun, hended, hW, hsame⟩ := X.leave (v := v.map (mmUp n0)) (fun z => by rw [mmRet_none hv (hret.symm.trans z)]; rfl) hlk
        exact ⟨T, locs, cells, fs, hcl, N, rel, mmRet_ok X hx hret hv hd hr, hrun, hended, hW, hsame⟩
      · split at h
        · rename_i hst
          have mn := mmRun_mono (mmTabOk_mono hK) h
          obtain ⟨q1, T1, Iv1, st⟩ := mmStep_ok hx hZ hown hnm hCT hK hN (fun z => hs0.resolve_left fun q => by rw [q _ _ hi] at z; cases z) hL Iv (Nat.le_trans mn.1 hc) (Nat.le_trans mn.2 hs) hd hst
          obtain ⟨T', locs, cells, fs, r1, r2, r3, r4, r5⟩ := mmRun_ok hx hZ hown hnm hret hlk hCT hK hN hs0 hI h (q1.trans hL) Iv1 hc hs
          exact ⟨T', locs, cells, fs, r1, r2, r3, st _ r4, r5⟩
        · cases h
end MMRunOk
theorem mmLaid_up (n0 : Nat → Nat) : ∀ as : List Value, Jvm.Sym.laidSlots (mmUV n0 as) = (Jvm.Sym.laidSlots as).map (mmUpS n0)
  | [] => rfl
  | v :: r => by
    have e1 : mmUV n0 (v :: r) = mmUp n0 v :: mmUV n0 r := rfl
    have e2 : ∀ (w : Value) (q : List Value), Jvm.Sym.laidSlots (w :: q) = if w.category = 2 then .val w :: .second :: Jvm.Sym.laidSlots q else .val w :: Jvm.Sym.laidSlots q := fun _ _ => rfl
    rw [e1, e2, e2, mmUp_cat, mmLaid_up n0 r]
    split <;> rfl
theorem mmEntry_up (n0 : Nat → Nat) (n : Nat) (m : MethodId) (as : List Value) : entryFrame m (mmUV n0 as).toArray n = mkF m 0 (mmUL n0 (mmEntry as n)) [] := by
  have e1 : argsToLocals (mmUV n0 as).toArray n = mmUL n0 (mmEntry as n) := Array.toList_inj.mp (by
    rw [Jvm.Sym.argsToLocals_toList]
    simp [mmEntry, mmLaid_up, mmUpS])
  unfold entryFrame
  rw [e1]
set_option maxHeartbeats 4000000 in
theorem mmMet {CT : List MCls} {l : Launch} {Z : State} {a0 : Array Value} {y : MethodName} {bytes : ByteArray} {maxL : Nat} {ret : Option FieldType} {rm : Room} {K : MTab} {I : Nat → Option Instr} (hpl : plainFor y = true) (hI : ∀ pc i, I pc = some i → decode bytes pc = .ok (i, mmLen i))
    (hCT : mmAll (mmClsOk Z a0) CT) (hK : mmTabOk CT l Z a0 y.cls y.name rm K) (ws : List Jvm.Cond) {fuel ds N0 : Nat} {n0 : Nat → Nat} (hN : ∀ a, mmM ≤ a → N0 ≤ n0 a) {as : List Value} {H H' : MHeap} {v : Option Value} {h0 : Heap}
    (hrun : mmBody K I ret maxL fuel as H = some (v, H', ds)) (rel : mmRel CT Z n0 h0 H) (hc : H'.length ≤ H.length + rm.cells) (hs : ds ≤ rm.slots) :
    MetFree l y (head1 (Jvm.Cond.code y bytes maxL ret :: ws) rm) (fun a U => a = (mmUV n0 as).toArray ∧ Z.Warmed39 U.vm ∧ U.heap = h0) (fun _ _ _ _ _ => True)
      (fun _ U o U' => ∃ w L, o = .returned w ∧ (w = v.map (mmUp n0) ∧ Fr N0 L ∧ mmRel CT Z n0 U'.heap H') ∧ FrameEnd U o U' L rm.cells rm.slots) := by
  refine MetFree.of_bodySF hpl hisR ?_
  intro p e s m args below meth c s₁ Bd hml0 hP hK0
  obtain ⟨rfl, hZ, hh⟩ := hP
  have hby := Bd.bytes
  have hown : s.vm.findClass y.cls = some m.cls := findClass_of_methodNamed Bd.named
  have hnm := (name_of_methodNamed Bd.named Bd.method).1
  have X0 : Stand p l e rm s m (mmUV n0 as).toArray below meth c s₁ [] 0 0 := Stand.of_body Bd
  have e0 : s₁.heap = h0 := by rw [← hh, Bd.state]; rfl
  unfold mmBody at hrun
  split at hrun
  · rename_i hlen
    obtain ⟨T', locs, cells, fs, r1, r2, r3, r4, r5, r6, r7, r8⟩ := mmRun_ok (own := y.cls) (name := y.name) (n0 := n0) (N0 := N0) (hl0 := H.length) Bd.exec hZ hown hnm Bd.returns Bd.notSynchronized hCT hK hN (Or.inr (by rw [hh]; exact rel.1)) (fun pc i h => by rw [hby]; exact hI pc i h) hrun (hlen.trans hml0.symm) ⟨[], 0, X0, Nat.zero_add _, Fr.nil N0, by rw [e0]; exact rel⟩ hc hs
    refine ⟨_, _, ?_, r5, r6, _, locs, rfl, ⟨rfl, r2, r3⟩, ⟨_, rfl⟩, r7, r8.mono (by omega) hs⟩
    exact castTop (mmEntry_up n0 maxL m as) r4
  · cases hrun
/-- what is known of a callee: it makes no cell vanish, and its runs are walks -/
def mmGood (CT : List MCls) (l : Launch) (Z : State) (y : MethodName) (bytes : ByteArray) (maxL : Nat) (ret : Option FieldType) (fr lo : Nat) (K : MKall) : Prop :=
  mmKMono K ∧ ∀ {n0 : Nat → Nat} {N0 : Nat} {h0 : Heap} {H H' : MHeap} {as : List Value} {v : Option Value} {ds : Nat}, (∀ a, mmM ≤ a → N0 ≤ n0 a) → K as H = some (v, H', ds) → mmRel CT Z n0 h0 H →
    MetFree l y (head1 [Jvm.Cond.code y bytes maxL ret] { frames := fr, cells := H'.length - H.length, slots := ds, locals := lo }) (fun a U => a = (mmUV n0 as).toArray ∧ Z.Warmed39 U.vm ∧ U.heap = h0) (fun _ _ _ _ _ => True)
      (fun _ U o U' => ∃ w L, o = .returned w ∧ (w = v.map (mmUp n0) ∧ Fr N0 L ∧ mmRel CT Z n0 U'.heap H') ∧ FrameEnd U o U' L (H'.length - H.length) ds)
theorem mmGood_of {CT : List MCls} {l : Launch} {Z : State} {a0 : Array Value} {y : MethodName} {bytes : ByteArray} {maxL : Nat} {ret : Option FieldType} {fr lo : Nat} {K : MTab} {I : Nat → Option Instr} (fuel : Nat) (hpl : plainFor y = true) (hI : ∀ pc i, I pc = some i → decode bytes pc = .ok (i, mmLen i))
    (hCT : mmAll (mmClsOk Z a0) CT) (hK : ∀ ce sl : Nat, mmTabOk CT l Z a0 y.cls y.name { frames := fr, cells := ce, slots := sl, locals := lo } K) : mmGood CT l Z y bytes maxL ret fr lo (mmBody K I ret maxL fuel) :=
  ⟨mmBody_mono (mmTabOk_mono (hK 0 0)), fun {n0 N0 h0 H H' as v ds} hN h rel => by
    have mn := mmBody_mono (mmTabOk_mono (hK 0 0)) _ _ _ _ _ h
    exact mmMet hpl hI hCT (hK (H'.length - H.length) ds) [] hN h rel (by show H'.length ≤ H.length + (H'.length - H.length); omega) (Nat.le_refl _)⟩
theorem mmGood_sub {CT : List MCls} {l : Launch} {Z : State} {y : MethodName} {bytes : ByteArray} {maxL : Nat} {ret : Option FieldType} {fr lo : Nat} {K K' : MKall} (h : ∀ as H r, K' as H = some r → K as H = some r) (G : mmGood CT l Z y bytes maxL ret fr lo K) : mmGood CT l Z y bytes maxL ret fr lo K' :=
  ⟨fun as H v H' ds q => G.1 as H v H' ds (h _ _ _ q), fun hN q rel => G.2 hN (h _ _ _ q) rel⟩
section MMCalls
variable {CT : List MCls} {l : Launch} {Z : State} {a0 : Array Value} {own : String} {R : Room} {y : MethodName} {bytes : ByteArray} {maxL : Nat} {ret : Option FieldType} {fr lo na W idx : Nat} {K : MKall}
theorem mmCallS (w1 : (Cond.methodLink own idx y).before a0 Z = true) (w2 : (Cond.static y).before a0 Z = true) (w3 : (Cond.initialized y.cls).before a0 Z = true) (w4 : (Cond.code y bytes maxL ret).before a0 Z = true)
    (hy : y.cls ≠ "java/lang/invoke/MethodHandle" ∧ y.cls ≠ "java/lang/invoke/VarHandle") (G : mmGood CT l Z y bytes maxL ret fr lo K) (hf : fr + 1 ≤ R.frames) (hl : W + (maxL + 11) + lo ≤ R.locals) {ps : List FieldType} {rt : Option FieldType} (hn : parseMethodDescriptor y.desc = some ⟨ps, rt⟩) (hna : na = ps.length) :
    mmCallOk CT l Z own R (.invokestatic idx) 3 (na, none, W, K) := by
  refine ⟨G.1, ?_⟩
  intro p e s m args below meth c T locs cells slots pc N0 n0 H H' Ls as r v ds X hx hZ hown rel hN hLs hd has hrc hcat hK hce hsl
  obtain ⟨_, _, ⟨T1, L1, k1, j1⟩, -, X1, ⟨Lc, ⟨q1, q2, q3⟩, l1, y1, z1⟩, st⟩ := Jvm.LawKit.callS X hx (y := y) hown (mvT hZ w1) (mvT hZ w2) (mvT hZ w3) (mvT hZ w4) hy
    (backOf (W := W) (Q := fun w hp L => w = v.map (mmUp n0) ∧ Fr N0 L ∧ mmRel CT Z n0 hp H') (G.2 (h0 := T.heap) hN hK rel) hZ w4 w3 hf hl)
    (g := mkF m pc Ls (mmUV n0 (as.reverse ++ r))) rfl hLs (argsL := mmUV n0 as) (rest := mmUV n0 r) (lenOf hn (by simp; exact has.trans hna)) (by simp [mmUV]) (by rw [mmCat_up]; show 2 * 0 + mmCat r ≤ W; rw [Nat.mul_zero, Nat.zero_add]; exact hcat) hd (fun _ _ => ⟨rfl, rfl, hce, hsl⟩)
  dsimp only [Pt.U, Pt.locs, Pt.cells, Pt.slots] at X1 l1 y1 z1 st q3
  subst l1 y1 z1
  refine ⟨T1, Lc, X1, q3, q2, fun target hr => st target ?_⟩
  subst q1
  have e1 : mmUV n0 (v.toList ++ r) = (v.map (mmUp n0)).toList ++ mmUV n0 r := by cases v <;> simp [mmUV]
  rw [e1] at hr
  exact hr
theorem mmCallV {k n : Nat} {fs : List MFld} {C : String} (hk : CT[k]? = some (C, n, fs)) (w1 : (Cond.methodLink own idx y).before a0 Z = true) (w2 : (Cond.declares y).before a0 Z = true) (w5 : (Cond.selects C y y).before a0 Z = true) (w6 : (Cond.instanceMethod y).before a0 Z = true) (w3 : (Cond.initialized y.cls).before a0 Z = true) (w4 : (Cond.code y bytes maxL ret).before a0 Z = true)
    (hy : y.cls ≠ "java/lang/invoke/MethodHandle" ∧ y.cls ≠ "java/lang/invoke/VarHandle") (G : mmGood CT l Z y bytes maxL ret fr lo K) (hf : fr + 1 ≤ R.frames) (hl : W + (maxL + 11) + lo ≤ R.locals) {ps : List FieldType} {rt : Option FieldType} (hn : parseMethodDescriptor y.desc = some ⟨ps, rt⟩) (hna : na = ps.length + 1) :
    mmCallOk CT l Z own R (.invokevirtual idx) 3 (na, some k, W, K) := by
  refine ⟨G.1, ?_⟩
  intro p e s m args below meth c T locs cells slots pc N0 n0 H H' Ls as r v ds X hx hZ hown rel hN hLs hd has hrc hcat hK hce hsl
  obtain ⟨a, as', vs, rfl, hH⟩ : ∃ (a : Nat) (as' vs : List Value), as = .ref a :: as' ∧ H[a]? = some (.inl (k, vs)) := by
    unfold mmRecv at hrc
    dsimp only at hrc
    split at hrc
    · rename_i a as'
      split at hrc
      · rename_i k' vs hq
        rw [mmNth_eq] at hq
        simp only [beq_iff_eq] at hrc
        subst hrc
        exact ⟨a, as', vs, rfl, hq⟩
      · cases hrc
    · cases hrc
  obtain ⟨C', n', fs', r1, E, -, -⟩ := rel.2.1 a _ hH
  cases hk.symm.trans r1
  obtain ⟨cq, kq, qa, qb, qc⟩ := isOf hZ rfl E
  obtain ⟨_, _, ⟨T1, L1, k1, j1⟩, -, X1, ⟨Lc, ⟨q1, q2, q3⟩, l1, y1, z1⟩, st⟩ := X.virtualBack hx (y := y) (z := y) hown (mvT hZ w1) (mvT hZ w2) (notFace_of_selects (args := #[]) (mvT hZ w5)) (mvT hZ w5) (mvT hZ w6) hy
    (backOf (W := W) (Q := fun w hp L => w = v.map (mmUp n0) ∧ Fr N0 L ∧ mmRel CT Z n0 hp H') (G.2 (h0 := T.heap) hN hK rel) hZ w4 w3 hf hl) qa qc
    (g := mkF m pc Ls (mmUV n0 ((.ref a :: as').reverse ++ r))) rfl hLs (Steps.refl _) (argsL := mmUV n0 as') (rest := mmUV n0 r) (lenOf hn (by simp at has ⊢; omega)) (by simp [mmUV, mmUp]) (by rw [mmCat_up]; show 2 * 0 + mmCat r ≤ W; rw [Nat.mul_zero, Nat.zero_add]; exact hcat) hd (fun _ _ => ⟨rfl, rfl, hce, hsl⟩)
  dsimp only [Pt.U, Pt.locs, Pt.cells, Pt.slots] at X1 l1 y1 z1 st q3
  subst l1 y1 z1
  refine ⟨T1, Lc, X1, q3, q2, fun target hr => st.trans ?_⟩
  subst q1
  have e1 : mmUV n0 (v.toList ++ r) = (v.map (mmUp n0)).toList ++ mmUV n0 r := by cases v <;> simp [mmUV]
  rw [e1] at hr
  exact hr
theorem mmCallF {xi : MethodName} {cnt : Nat} {k n : Nat} {fs : List MFld} {C : String} (hk : CT[k]? = some (C, n, fs)) (w1 : (Cond.methodLink own idx xi).before a0 Z = true) (w2 : (Cond.declares xi).before a0 Z = true) (wf : (Cond.interfaceMethod xi.cls xi.cls xi.name xi.desc).before a0 Z = true) (w5 : (Cond.selects C xi y).before a0 Z = true) (wp : (Cond.publicMethod y).before a0 Z = true) (wu : (Cond.unhidden C xi.name xi.desc).before a0 Z = true) (wk : (Cond.castable C xi.cls).before a0 Z = true) (w6 : (Cond.instanceMethod y).before a0 Z = true) (w3 : (Cond.initialized y.cls).before a0 Z = true) (w4 : (Cond.code y bytes maxL ret).before a0 Z = true)
    (hy : xi.cls ≠ "java/lang/invoke/MethodHandle" ∧ xi.cls ≠ "java/lang/invoke/VarHandle") (G : mmGood CT l Z y bytes maxL ret fr lo K) (hf : fr + 1 ≤ R.frames) (hl : W + (maxL + 11) + lo ≤ R.locals) {ps : List FieldType} {rt : Option FieldType} (hn : parseMethodDescriptor xi.desc = some ⟨ps, rt⟩) (hna : na = ps.length + 1) :
    mmCallOk CT l Z own R (.invokeinterface idx cnt) 5 (na, some k, W, K) := by
  refine ⟨G.1, ?_⟩
  intro p e s m args below meth c T locs cells slots pc N0 n0 H H' Ls as r v ds X hx hZ hown rel hN hLs hd has hrc hcat hK hce hsl
  obtain ⟨a, as', vs, rfl, hH⟩ : ∃ (a : Nat) (as' vs : List Value), as = .ref a :: as' ∧ H[a]? = some (.inl (k, vs)) := by
    unfold mmRecv at hrc
    dsimp only at hrc
    split at hrc
    · rename_i a as'
      split at hrc
      · rename_i k' vs hq
        rw [mmNth_eq] at hq
        simp only [beq_iff_eq] at hrc
        subst hrc
        exact ⟨a, as', vs, rfl, hq⟩
      · cases hrc
    · cases hrc
  obtain ⟨C', n', fs', r1, E, -, -⟩ := rel.2.1 a _ hH
  cases hk.symm.trans r1
  obtain ⟨cq, kq, qa, qb, qc⟩ := isOf hZ rfl E
  obtain ⟨_, _, ⟨T1, L1, k1, j1⟩, -, X1, ⟨Lc, ⟨q1, q2, q3⟩, l1, y1, z1⟩, st⟩ := X.interfaceBack hx (xi := xi) (y := y) hown (mvT hZ w1) (mvT hZ w2) (mvT hZ wf (hd := by simp [Cond.onTables, Cond.keepsFace, Cond.keeps, Cond.steady, Cond.faceAtom, hy.1, hy.2])) (mvT hZ w5) (mvT hZ w6) (mvT hZ wp) (mvT hZ wu) (mvT hZ wk) hy
    (backOf (W := W) (Q := fun w hp L => w = v.map (mmUp n0) ∧ Fr N0 L ∧ mmRel CT Z n0 hp H') (G.2 (h0 := T.heap) hN hK rel) hZ w4 w3 hf hl) qa qb qc
    (g := mkF m pc Ls (mmUV n0 ((.ref a :: as').reverse ++ r))) rfl hLs (Steps.refl _) (argsL := mmUV n0 as') (rest := mmUV n0 r) (lenOf hn (by simp at has ⊢; omega)) (by simp [mmUV, mmUp]) (by rw [mmCat_up]; show 2 * 0 + mmCat r ≤ W; rw [Nat.mul_zero, Nat.zero_add]; exact hcat) hd (fun _ _ => ⟨rfl, rfl, hce, hsl⟩)
  dsimp only [Pt.U, Pt.locs, Pt.cells, Pt.slots] at X1 l1 y1 z1 st q3
  subst l1 y1 z1
  refine ⟨T1, Lc, X1, q3, q2, fun target hr => st.trans ?_⟩
  subst q1
  have e1 : mmUV n0 (v.toList ++ r) = (v.map (mmUp n0)).toList ++ mmUV n0 r := by cases v <;> simp [mmUV]
  rw [e1] at hr
  exact hr
theorem mmCallP {k n : Nat} {fs : List MFld} (hk : CT[k]? = some (y.cls, n, fs)) (hcls : mmClsOk Z a0 (y.cls, n, fs)) (w1 : (Cond.methodLink own idx y).before a0 Z = true) (w6 : (Cond.instanceMethod y).before a0 Z = true) (w7 : (Cond.privateMethod y).before a0 Z = true) (w3 : (Cond.initialized y.cls).before a0 Z = true) (w4 : (Cond.code y bytes maxL ret).before a0 Z = true)
    (hy : y.cls ≠ "java/lang/invoke/MethodHandle" ∧ y.cls ≠ "java/lang/invoke/VarHandle") (G : mmGood CT l Z y bytes maxL ret fr lo K) (hf : fr + 1 ≤ R.frames) (hl : W + (maxL + 11) + lo ≤ R.locals) {ps : List FieldType} {rt : Option FieldType} (hn : parseMethodDescriptor y.desc = some ⟨ps, rt⟩) (hna : na = ps.length + 1) :
    mmCallOk CT l Z own R (.invokevirtual idx) 3 (na, some k, W, K) := by
  refine ⟨G.1, ?_⟩
  intro p e s m args below meth c T locs cells slots pc N0 n0 H H' Ls as r v ds X hx hZ hown rel hN hLs hd has hrc hcat hK hce hsl
  obtain ⟨a, as', vs, rfl, hH⟩ : ∃ (a : Nat) (as' vs : List Value), as = .ref a :: as' ∧ H[a]? = some (.inl (k, vs)) := by
    unfold mmRecv at hrc
    dsimp only at hrc
    split at hrc
    · rename_i a as'
      split at hrc
      · rename_i k' vs hq
        rw [mmNth_eq] at hq
        simp only [beq_iff_eq] at hrc
        subst hrc
        exact ⟨a, as', vs, rfl, hq⟩
      · cases hrc
    · cases hrc
  obtain ⟨C', n', fs', r1, E, -, -⟩ := rel.2.1 a _ hH
  cases hk.symm.trans r1
  obtain ⟨cq, qa, qb⟩ := E.cell
  have hpriv : s.PrivateAt y := Cond.privateMethod_at (mvP hZ w7 (args := #[]))
  have hsel : (Cond.selects y.cls y y).before args s = true := by
    obtain ⟨c2, k2, i1, i2, -, i4, -⟩ := Cond.instantiable_spec (mvT (args := args) hZ hcls.1)
    exact selects_self_of_private i1 i2 (by simp only [Bool.or_eq_false_iff] at i4; exact i4.1) hpriv (mvT hZ w6) hy
  obtain ⟨_, _, ⟨T1, L1, k1, j1⟩, -, X1, ⟨Lc, ⟨q1, q2, q3⟩, l1, y1, z1⟩, st⟩ := X.privateBack hx (y := y) hown (mvT hZ w1) (mvT hZ w6) hsel hpriv (mvT hZ w4) hy
    (backOf (W := W) (Q := fun w hp L => w = v.map (mmUp n0) ∧ Fr N0 L ∧ mmRel CT Z n0 hp H') (G.2 (h0 := T.heap) hN hK rel) hZ w4 w3 hf hl)
    (g := mkF m pc Ls (mmUV n0 ((.ref a :: as').reverse ++ r))) rfl hLs (Steps.refl _) (a := n0 a) qa qb (argsL := mmUV n0 as') (rest := mmUV n0 r) (lenOf hn (by simp at has ⊢; omega)) (by simp [mmUV, mmUp]) (by rw [mmCat_up]; show 2 * 0 + mmCat r ≤ W; rw [Nat.mul_zero, Nat.zero_add]; exact hcat) hd (fun _ _ => ⟨rfl, rfl, hce, hsl⟩)
  dsimp only [Pt.U, Pt.locs, Pt.cells, Pt.slots] at X1 l1 y1 z1 st q3
  subst l1 y1 z1
  refine ⟨T1, Lc, X1, q3, q2, fun target hr => st.trans ?_⟩
  subst q1
  have e1 : mmUV n0 (v.toList ++ r) = (v.map (mmUp n0)).toList ++ mmUV n0 r := by cases v <;> simp [mmUV]
  rw [e1] at hr
  exact hr
theorem mmCallI (hy1 : y.name = "<init>") (w1 : (Cond.methodLink own idx y).before a0 Z = true) (w6 : (Cond.instanceMethod y).before a0 Z = true) (w3 : (Cond.initialized y.cls).before a0 Z = true) (w4 : (Cond.code y bytes maxL none).before a0 Z = true)
    (hy : y.cls ≠ "java/lang/invoke/MethodHandle" ∧ y.cls ≠ "java/lang/invoke/VarHandle") {k : Nat} (G : mmGood CT l Z y bytes maxL none fr lo K) (hf : fr + 1 ≤ R.frames) (hl : W + (maxL + 11) + lo ≤ R.locals) {ps : List FieldType} {rt : Option FieldType} (hn : parseMethodDescriptor y.desc = some ⟨ps, rt⟩) (hna : na = ps.length + 1) :
    mmCallOk CT l Z own R (.invokespecial idx) 3 (na, some k, W, K) := by
  refine ⟨G.1, ?_⟩
  intro p e s m args below meth c T locs cells slots pc N0 n0 H H' Ls as r v ds X hx hZ hown rel hN hLs hd has hrc hcat hK hce hsl
  obtain ⟨a, as', rfl⟩ : ∃ (a : Nat) (as' : List Value), as = .ref a :: as' := by
    unfold mmRecv at hrc
    dsimp only at hrc
    split at hrc
    · exact ⟨_, _, rfl⟩
    · cases hrc
  obtain ⟨_, _, ⟨T1, L1, k1, j1⟩, -, X1, ⟨Lc, ⟨q1, q2, q3⟩, l1, y1, z1⟩, st⟩ := X.specialBack hx (y := y) hy1 hown (mvT hZ w1) (mvT hZ w6) (mvT hZ w4) hy
    (backOf (W := W) (Q := fun w hp L => w = v.map (mmUp n0) ∧ Fr N0 L ∧ mmRel CT Z n0 hp H') (G.2 (h0 := T.heap) hN hK rel) hZ w4 w3 hf hl)
    (g := mkF m pc Ls (mmUV n0 ((.ref a :: as').reverse ++ r))) rfl hLs (Steps.refl _) (a := n0 a) (argsL := mmUV n0 as') (rest := mmUV n0 r) (lenOf hn (by simp at has ⊢; omega)) (by simp [mmUV, mmUp]) (by rw [mmCat_up]; show 2 * 0 + mmCat r ≤ W; rw [Nat.mul_zero, Nat.zero_add]; exact hcat) hd (fun _ _ => ⟨rfl, rfl, hce, hsl⟩)
  dsimp only [Pt.U, Pt.locs, Pt.cells, Pt.slots] at X1 l1 y1 z1 st q3
  subst l1 y1 z1
  refine ⟨T1, Lc, X1, q3, q2, fun target hr => st.trans ?_⟩
  subst q1
  have e1 : mmUV n0 (v.toList ++ r) = (v.map (mmUp n0)).toList ++ mmUV n0 r := by cases v <;> simp [mmUV]
  rw [e1] at hr
  exact hr
end MMCalls

/-! ### the table of a body's instructions -/
def mmCut (N : Nat) (t : Nat → Option Instr) (pc : Nat) : Option Instr := bif Nat.blt pc N then t pc else none
theorem mmCut_ok {bytes : ByteArray} {N : Nat} {t : Nat → Option Instr} (h : mmChk bytes (mmCut N t) N = true) : ∀ pc i, mmCut N t pc = some i → decode bytes pc = .ok (i, mmLen i) := fun pc i hi => by
  by_cases q : pc < N
  · exact mmChk_ok h pc i q hi
  · have e : Nat.blt pc N = false := by rw [Bool.eq_false_iff]; intro z; exact q (Nat.blt_eq.mp z)
    unfold mmCut at hi
    rw [e] at hi
    cases hi

/-! ### walking the small machine -/
def mmStep1 (K : MTab) (I : Nat → Option Instr) (ret : Option FieldType) (pc : Nat) (L : List Slot) (S : List Value) (H : MHeap) (sl : Nat) : Option MSt :=
  match I pc with
  | none => none
  | some i => (match mmRet ret i S with | some _ => none | none => mmStep K i pc L S H sl)
def mmStepN (K : MTab) (I : Nat → Option Instr) (ret : Option FieldType) : Nat → Nat → List Slot → List Value → MHeap → Nat → Option MSt
  | 0, pc, L, S, H, sl => some (pc, L, S, H, sl)
  | k + 1, pc, L, S, H, sl => (match mmStep1 K I ret pc L S H sl with | some (pc', L', S', H', sl') => mmStepN K I ret k pc' L' S' H' sl' | none => none)
theorem mmRun_eq {K : MTab} {I : Nat → Option Instr} {ret : Option FieldType} (n pc : Nat) (L : List Slot) (S : List Value) (H : MHeap) (sl : Nat) : mmRun K I ret (n + 1) pc L S H sl = (match I pc with
    | none => none
    | some i => (match mmRet ret i S with
      | some v => some (v, H, sl)
      | none => (match mmStep K i pc L S H sl with
        | some (pc', L', S', H', sl') => mmRun K I ret n pc' L' S' H' sl'
        | none => none))) := rfl
theorem mmRun_step1 {K : MTab} {I : Nat → Option Instr} {ret : Option FieldType} {n pc sl pc' sl' : Nat} {L L' : List Slot} {S S' : List Value} {H H' : MHeap} (h : mmStep1 K I ret pc L S H sl = some (pc', L', S', H', sl')) : mmRun K I ret (n + 1) pc L S H sl = mmRun K I ret n pc' L' S' H' sl' := by
  rw [mmRun_eq]
  unfold mmStep1 at h
  cases hi : I pc with
  | none => rw [hi] at h; cases h
  | some i =>
    rw [hi] at h
    dsimp only at h ⊢
    cases hr : mmRet ret i S with
    | some v => rw [hr] at h; cases h
    | none =>
      rw [hr] at h
      dsimp only at h ⊢
      rw [h]
theorem mmRun_steps {K : MTab} {I : Nat → Option Instr} {ret : Option FieldType} {n : Nat} : ∀ {k pc sl pc' sl' : Nat} {L L' : List Slot} {S S' : List Value} {H H' : MHeap}, mmStepN K I ret k pc L S H sl = some (pc', L', S', H', sl') → mmRun K I ret (n + k) pc L S H sl = mmRun K I ret n pc' L' S' H' sl'
  | 0, _, _, _, _, _, _, _, _, _, _, h => by cases h; rfl
  | k + 1, pc, sl, pc', sl', L, L', S, S', H, H', h => by
    unfold mmStepN at h
    split at h
    · rename_i h1
      rw [← Nat.add_assoc, mmRun_step1 h1]
      exact mmRun_steps h
    · cases h
/-- it ends, and so -/
def mmW (K : MTab) (I : Nat → Option Instr) (ret : Option FieldType) (n pc : Nat) (L : List Slot) (S : List Value) (H : MHeap) (sl : Nat) (Q : Option Value → MHeap → Nat → Prop) : Prop := ∃ v H' ds, mmRun K I ret n pc L S H sl = some (v, H', ds) ∧ Q v H' ds
theorem mmW_steps {K : MTab} {I : Nat → Option Instr} {ret : Option FieldType} {Q : Option Value → MHeap → Nat → Prop} {n k pc sl pc' sl' : Nat} {L L' : List Slot} {S S' : List Value} {H H' : MHeap} (h : mmStepN K I ret k pc L S H sl = some (pc', L', S', H', sl')) (w : mmW K I ret n pc' L' S' H' sl' Q) : mmW K I ret (n + k) pc L S H sl Q := by
  obtain ⟨v, H1, ds, h1, h2⟩ := w
  exact ⟨v, H1, ds, (mmRun_steps h).trans h1, h2⟩
theorem mmW_ret {K : MTab} {I : Nat → Option Instr} {ret : Option FieldType} {Q : Option Value → MHeap → Nat → Prop} {n pc sl : Nat} {L : List Slot} {S : List Value} {H : MHeap} {i : Instr} {v : Option Value} (h1 : I pc = some i) (h2 : mmRet ret i S = some v) (q : Q v H sl) : mmW K I ret (n + 1) pc L S H sl Q :=
  ⟨v, H, sl, by rw [mmRun_eq, h1]; dsimp only; rw [h2], q⟩
theorem mmRun_more {K : MTab} {I : Nat → Option Instr} {ret : Option FieldType} : ∀ {n pc sl : Nat} {L : List Slot} {S : List Value} {H : MHeap} {r : Option Value × MHeap × Nat}, mmRun K I ret n pc L S H sl = some r → mmRun K I ret (n + 1) pc L S H sl = some r
  | 0, _, _, _, _, _, _, h => nomatch h
  | n + 1, pc, sl, L, S, H, r, h => by
    rw [mmRun_eq] at h
    rw [mmRun_eq]
    cases hi : I pc with
    | none => rw [hi] at h; cases h
    | some i =>
      rw [hi] at h
      dsimp only at h ⊢
      cases hv : mmRet ret i S with
      | some v => rw [hv] at h; exact h
      | none =>
        rw [hv] at h
        dsimp only at h ⊢
        cases hs : mmStep K i pc L S H sl with
        | none => rw [hs] at h; cases h
        | some q =>
          obtain ⟨pc', L', S', H', sl'⟩ := q
          rw [hs] at h
          exact mmRun_more h
theorem mmW_more {K : MTab} {I : Nat → Option Instr} {ret : Option FieldType} {Q : Option Value → MHeap → Nat → Prop} {n pc sl : Nat} {L : List Slot} {S : List Value} {H : MHeap} (w : mmW K I ret n pc L S H sl Q) : ∀ d, mmW K I ret (n + d) pc L S H sl Q
  | 0 => w
  | d + 1 => by
    obtain ⟨v, H1, ds, h1, h2⟩ := mmW_more w d
    exact ⟨v, H1, ds, mmRun_more h1, h2⟩
theorem mmW_le {K : MTab} {I : Nat → Option Instr} {ret : Option FieldType} {Q : Option Value → MHeap → Nat → Prop} {n n' pc sl : Nat} {L : List Slot} {S : List Value} {H : MHeap} (hn : n ≤ n') (w : mmW K I ret n pc L S H sl Q) : mmW K I ret n' pc L S H sl Q := by
  obtain ⟨d, rfl⟩ := Nat.exists_eq_add_of_le hn
  exact mmW_more w d
theorem mmW_t {K : MTab} {I : Nat → Option Instr} {ret : Option FieldType} {Q : Option Value → MHeap → Nat → Prop} {n t f sl : Nat} {L : List Slot} {S : List Value} {H : MHeap} {c : Bool} (hc : c = true) (w : mmW K I ret n t L S H sl Q) : mmW K I ret n (if c = true then t else f) L S H sl Q := by rw [if_pos hc]; exact w
theorem mmW_f {K : MTab} {I : Nat → Option Instr} {ret : Option FieldType} {Q : Option Value → MHeap → Nat → Prop} {n t f sl : Nat} {L : List Slot} {S : List Value} {H : MHeap} {c : Bool} (hc : c = false) (w : mmW K I ret n f L S H sl Q) : mmW K I ret n (if c = true then t else f) L S H sl Q := by rw [hc, if_neg (by decide)]; exact w
/-- what the law's run must show -/
def mmLawQ (C D : Nat) (v : Option Value) (H : MHeap) (ds : Nat) : Prop := v = some (.int 1) ∧ H.length ≤ C ∧ ds ≤ D
theorem mmLaw_of {K : MTab} {I : Nat → Option Instr} {maxL fuel C D : Nat} {as : List Value} (hl : (mmEntry as maxL).length = maxL) (w : mmW K I (some .boolean) fuel 0 (mmEntry as maxL) [] [] 0 (mmLawQ C D)) : ∃ H' ds, mmBody K I (some .boolean) maxL fuel as [] = some (some (.int 1), H', ds) ∧ H'.length ≤ C ∧ ds ≤ D := by
  obtain ⟨v, H', ds, h1, rfl, h3, h4⟩ := w
  exact ⟨H', ds, by unfold mmBody; rw [if_pos hl]; exact h1, h3, h4⟩
theorem mmW_step1 {K : MTab} {I : Nat → Option Instr} {ret : Option FieldType} {Q : Option Value → MHeap → Nat → Prop} {n pc sl pc' sl' : Nat} {L L' : List Slot} {S S' : List Value} {H H' : MHeap} (h : mmStep1 K I ret pc L S H sl = some (pc', L', S', H', sl')) (w : mmW K I ret n pc' L' S' H' sl' Q) : mmW K I ret (n + 1) pc L S H sl Q := by
  obtain ⟨v, H1, ds, h1, h2⟩ := w
  exact ⟨v, H1, ds, (mmRun_step1 h).trans h1, h2⟩
theorem mmCall_at {kl : List (Nat × MCall)} {idx pc sl na W ds : Nat} {rc : Option Nat} {F : MKall} {L : List Slot} {S as r : List Value} {H H' : MHeap} {v : Option Value} (h1 : mmLook kl idx = some (na, rc, W, F)) (h2 : mmPop na S [] = some (as, r)) (h3 : mmRecv rc as H = true) (h4 : mmCat r ≤ W) (h5 : F as H = some (v, H', ds)) :
    mmCall kl idx pc L S H sl = some (pc + 3, L, v.toList ++ r, H', sl + ds) := by
  unfold mmCall
  rw [h1]; dsimp only
  rw [h2]; dsimp only
  rw [if_pos ⟨h3, h4⟩, h5]
theorem mmW_callS {K : MTab} {I : Nat → Option Instr} {ret : Option FieldType} {Q : Option Value → MHeap → Nat → Prop} {n idx pc sl na W ds : Nat} {rc : Option Nat} {F : MKall} {L : List Slot} {S as r : List Value} {H H' : MHeap} {v : Option Value} (h0 : I pc = some (.invokestatic idx)) (h1 : mmLook K.2.2.2.2.2.2.1 idx = some (na, rc, W, F)) (h2 : mmPop na S [] = some (as, r)) (h3 : mmRecv rc as H = true) (h4 : mmCat r ≤ W) (h5 : F as H = some (v, H', ds))
    (w : mmW K I ret n (pc + 3) L (v.toList ++ r) H' (sl + ds) Q) : mmW K I ret (n + 1) pc L S H sl Q := by
  refine mmW_step1 ?_ w
  unfold mmStep1
  rw [h0]
  exact mmCall_at h1 h2 h3 h4 h5
theorem mmW_callV {K : MTab} {I : Nat → Option Instr} {ret : Option FieldType} {Q : Option Value → MHeap → Nat → Prop} {n idx pc sl na W ds : Nat} {rc : Option Nat} {F : MKall} {L : List Slot} {S as r : List Value} {H H' : MHeap} {v : Option Value} (h0 : I pc = some (.invokevirtual idx)) (h1 : mmLook K.2.2.2.2.2.2.2.1 idx = some (na, rc, W, F)) (h2 : mmPop na S [] = some (as, r)) (h3 : mmRecv rc as H = true) (h4 : mmCat r ≤ W) (h5 : F as H = some (v, H', ds))
    (w : mmW K I ret n (pc + 3) L (v.toList ++ r) H' (sl + ds) Q) (hi : idx < 100000 := by decide) : mmW K I ret (n + 1) pc L S H sl Q := by
  refine mmW_step1 ?_ w
  unfold mmStep1
  rw [h0]
  show (if idx < 100000 then mmCall K.2.2.2.2.2.2.2.1 idx pc L S H sl else none) = _
  rw [if_pos hi]
  exact mmCall_at h1 h2 h3 h4 h5
theorem mmW_callI {K : MTab} {I : Nat → Option Instr} {ret : Option FieldType} {Q : Option Value → MHeap → Nat → Prop} {n idx pc sl na W ds : Nat} {rc : Option Nat} {F : MKall} {L : List Slot} {S as r : List Value} {H H' : MHeap} {v : Option Value} (h0 : I pc = some (.invokespecial idx)) (h1' : mmLook K.2.2.2.2.2.1 idx = none) (h1 : mmLook K.2.2.2.2.2.2.2.2 idx = some (na, rc, W, F)) (h2 : mmPop na S [] = some (as, r)) (h3 : mmRecv rc as H = true) (h4 : mmCat r ≤ W) (h5 : F as H = some (v, H', ds))
    (w : mmW K I ret n (pc + 3) L (v.toList ++ r) H' (sl + ds) Q) : mmW K I ret (n + 1) pc L S H sl Q := by
  refine mmW_step1 ?_ w
  unfold mmStep1
  rw [h0]
  show (match mmLook K.2.2.2.2.2.1 idx with | some W => (match S with | .ref _ :: r => if mmCat r ≤ W then some (pc + 3, L, r, H, sl) else none | _ => none) | none => mmCall K.2.2.2.2.2.2.2.2 idx pc L S H sl) = _
  rw [h1']
  exact mmCall_at h1 h2 h3 h4 h5
theorem mmB_of {K : MTab} {I : Nat → Option Instr} {ret : Option FieldType} {maxL fuel d0 : Nat} {as : List Value} {H H0 : MHeap} {v0 : Option Value} (hl : (mmEntry as maxL).length = maxL) (w : mmW K I ret fuel 0 (mmEntry as maxL) [] H 0 (fun v H' ds => v = v0 ∧ H' = H0 ∧ ds = d0)) : mmBody K I ret maxL fuel as H = some (v0, H0, d0) := by
  obtain ⟨v, H', ds, h1, rfl, rfl, rfl⟩ := w
  unfold mmBody
  rw [if_pos hl]; exact h1
def mmOkB (r : Option (Option Value × MHeap × Nat)) (C D : Nat) : Bool :=
  match r with
  | some (some (.int v), H, ds) => decide (v = 1) && Nat.ble H.length C && Nat.ble ds D
  | _ => false
theorem mmW_of_okB {K : MTab} {I : Nat → Option Instr} {ret : Option FieldType} {n pc sl C D : Nat} {L : List Slot} {S : List Value} {H : MHeap} (h : mmOkB (mmRun K I ret n pc L S H sl) C D = true) : mmW K I ret n pc L S H sl (mmLawQ C D) := by
  unfold mmOkB at h
  split at h
  · rename_i v H' ds hr
    simp only [Bool.and_eq_true, decide_eq_true_eq] at h
    obtain ⟨⟨h1, h2⟩, h3⟩ := h
    subst h1
    exact ⟨_, H', ds, hr, rfl, Nat.le_of_ble_eq_true h2, Nat.le_of_ble_eq_true h3⟩
  · cases h
theorem mmW_newA {K : MTab} {I : Nat → Option Instr} {ret : Option FieldType} {Q : Option Value → MHeap → Nat → Prop} {n pc sl : Nat} {L : List Slot} {r : List Value} {H : MHeap} {t : ArrayType} {z : Int32} (h0 : I pc = some (.newarray t)) (h1 : mmHasTy K.2.2.2.2.1.1 t = true) (h2 : ¬ z < 0) (h3 : z.toNatClampNeg ≤ 67108864)
    (w : mmW K I ret n (pc + 2) L (.ref H.length :: r) (H ++ [.inr (newarray.typeOf t, List.replicate z.toNatClampNeg (defaultValue (newarray.typeOf t)))]) (sl + z.toNatClampNeg) Q) : mmW K I ret (n + 1) pc L (.int z :: r) H sl Q := by
  refine mmW_step1 ?_ w
  unfold mmStep1
  rw [h0]
  exact if_pos ⟨h1, h2, h3⟩
theorem mmW_iaload {K : MTab} {I : Nat → Option Instr} {ret : Option FieldType} {Q : Option Value → MHeap → Nat → Prop} {n pc sl a : Nat} {L : List Slot} {r vs : List Value} {H : MHeap} {j : Int32} {v : Value} (h0 : I pc = some .iaload) (h1 : mmNth H a = some (.inr (.int, vs))) (h2 : ¬ j < 0) (h3 : mmNth vs j.toNatClampNeg = some v) (w : mmW K I ret n (pc + 1) L (v :: r) H sl Q) : mmW K I ret (n + 1) pc L (.int j :: .ref a :: r) H sl Q := by
  refine mmW_step1 ?_ w
  unfold mmStep1
  rw [h0]
  show mmALd .int pc L (.int j :: .ref a :: r) H sl = _
  unfold mmALd; dsimp only
  rw [h1]; dsimp only
  rw [if_pos ⟨rfl, h2⟩, h3]
theorem mmW_laload {K : MTab} {I : Nat → Option Instr} {ret : Option FieldType} {Q : Option Value → MHeap → Nat → Prop} {n pc sl a : Nat} {L : List Slot} {r vs : List Value} {H : MHeap} {j : Int32} {v : Value} (h0 : I pc = some .laload) (h1 : mmNth H a = some (.inr (.long, vs))) (h2 : ¬ j < 0) (h3 : mmNth vs j.toNatClampNeg = some v) (w : mmW K I ret n (pc + 1) L (v :: r) H sl Q) : mmW K I ret (n + 1) pc L (.int j :: .ref a :: r) H sl Q := by
  refine mmW_step1 ?_ w
  unfold mmStep1
  rw [h0]
  show mmALd .long pc L (.int j :: .ref a :: r) H sl = _
  unfold mmALd; dsimp only
  rw [h1]; dsimp only
  rw [if_pos ⟨rfl, h2⟩, h3]
theorem mmW_caload {K : MTab} {I : Nat → Option Instr} {ret : Option FieldType} {Q : Option Value → MHeap → Nat → Prop} {n pc sl a : Nat} {L : List Slot} {r vs : List Value} {H : MHeap} {j : Int32} {v : Value} (h0 : I pc = some .caload) (h1 : mmNth H a = some (.inr (.char, vs))) (h2 : ¬ j < 0) (h3 : mmNth vs j.toNatClampNeg = some v) (w : mmW K I ret n (pc + 1) L (v :: r) H sl Q) : mmW K I ret (n + 1) pc L (.int j :: .ref a :: r) H sl Q := by
  refine mmW_step1 ?_ w
  unfold mmStep1
  rw [h0]
  show mmALd .char pc L (.int j :: .ref a :: r) H sl = _
  unfold mmALd; dsimp only
  rw [h1]; dsimp only
  rw [if_pos ⟨rfl, h2⟩, h3]
theorem mmW_baload {K : MTab} {I : Nat → Option Instr} {ret : Option FieldType} {Q : Option Value → MHeap → Nat → Prop} {n pc sl a : Nat} {L : List Slot} {r vs : List Value} {H : MHeap} {j : Int32} {v : Value} (h0 : I pc = some .baload) (h1 : mmNth H a = some (.inr (.byte, vs))) (h2 : ¬ j < 0) (h3 : mmNth vs j.toNatClampNeg = some v) (w : mmW K I ret n (pc + 1) L (v :: r) H sl Q) : mmW K I ret (n + 1) pc L (.int j :: .ref a :: r) H sl Q := by
  refine mmW_step1 ?_ w
  unfold mmStep1
  rw [h0]
  show mmALd .byte pc L (.int j :: .ref a :: r) H sl = _
  unfold mmALd; dsimp only
  rw [h1]; dsimp only
  rw [if_pos ⟨rfl, h2⟩, h3]
theorem mmW_iastore {K : MTab} {I : Nat → Option Instr} {ret : Option FieldType} {Q : Option Value → MHeap → Nat → Prop} {n pc sl a : Nat} {L : List Slot} {r vs : List Value} {H : MHeap} {j : Int32} {x : Int32} (h0 : I pc = some .iastore) (h1 : mmNth H a = some (.inr (.int, vs))) (h2 : ¬ j < 0) (h3 : j.toNatClampNeg < vs.length) (w : mmW K I ret n (pc + 1) L r (H.set a (.inr (.int, vs.set j.toNatClampNeg (.int x)))) sl Q) (hm : mmM ≤ a := by decide) : mmW K I ret (n + 1) pc L (.int x :: .int j :: .ref a :: r) H sl Q := by
  refine mmW_step1 ?_ w
  unfold mmStep1
  rw [h0]
  show mmASt .int (.int x) j a r pc L H sl = _
  unfold mmASt
  rw [h1]; dsimp only
  rw [if_pos ⟨rfl, h2, h3, hm⟩]
theorem mmW_lastore {K : MTab} {I : Nat → Option Instr} {ret : Option FieldType} {Q : Option Value → MHeap → Nat → Prop} {n pc sl a : Nat} {L : List Slot} {r vs : List Value} {H : MHeap} {j : Int32} {x : Int64} (h0 : I pc = some .lastore) (h1 : mmNth H a = some (.inr (.long, vs))) (h2 : ¬ j < 0) (h3 : j.toNatClampNeg < vs.length) (w : mmW K I ret n (pc + 1) L r (H.set a (.inr (.long, vs.set j.toNatClampNeg (.long x)))) sl Q) (hm : mmM ≤ a := by decide) : mmW K I ret (n + 1) pc L (.long x :: .int j :: .ref a :: r) H sl Q := by
  refine mmW_step1 ?_ w
  unfold mmStep1
  rw [h0]
  show mmASt .long (.long x) j a r pc L H sl = _
  unfold mmASt
  rw [h1]; dsimp only
  rw [if_pos ⟨rfl, h2, h3, hm⟩]
theorem mmW_castore {K : MTab} {I : Nat → Option Instr} {ret : Option FieldType} {Q : Option Value → MHeap → Nat → Prop} {n pc sl a : Nat} {L : List Slot} {r vs : List Value} {H : MHeap} {j : Int32} {x : Int32} (h0 : I pc = some .castore) (h1 : mmNth H a = some (.inr (.char, vs))) (h2 : ¬ j < 0) (h3 : j.toNatClampNeg < vs.length) (w : mmW K I ret n (pc + 1) L r (H.set a (.inr (.char, vs.set j.toNatClampNeg (.int (nar .char x))))) sl Q) (hm : mmM ≤ a := by decide) : mmW K I ret (n + 1) pc L (.int x :: .int j :: .ref a :: r) H sl Q := by
  refine mmW_step1 ?_ w
  unfold mmStep1
  rw [h0]
  show mmASt .char (.int (nar .char x)) j a r pc L H sl = _
  unfold mmASt
  rw [h1]; dsimp only
  rw [if_pos ⟨rfl, h2, h3, hm⟩]
theorem mmW_bastore {K : MTab} {I : Nat → Option Instr} {ret : Option FieldType} {Q : Option Value → MHeap → Nat → Prop} {n pc sl a : Nat} {L : List Slot} {r vs : List Value} {H : MHeap} {j : Int32} {x : Int32} (h0 : I pc = some .bastore) (h1 : mmNth H a = some (.inr (.byte, vs))) (h2 : ¬ j < 0) (h3 : j.toNatClampNeg < vs.length) (w : mmW K I ret n (pc + 1) L r (H.set a (.inr (.byte, vs.set j.toNatClampNeg (.int (nar .byte x))))) sl Q) (hm : mmM ≤ a := by decide) : mmW K I ret (n + 1) pc L (.int x :: .int j :: .ref a :: r) H sl Q := by
  refine mmW_step1 ?_ w
  unfold mmStep1
  rw [h0]
  show mmASt .byte (.int (nar .byte x)) j a r pc L H sl = _
  unfold mmASt
  rw [h1]; dsimp only
  rw [if_pos ⟨rfl, h2, h3, hm⟩]
theorem mmW_lrem {K : MTab} {I : Nat → Option Instr} {ret : Option FieldType} {Q : Option Value → MHeap → Nat → Prop} {n pc sl : Nat} {L : List Slot} {r : List Value} {H : MHeap} {x y : Int64} (h0 : I pc = some .lrem) (h1 : ¬ y = 0) (w : mmW K I ret n (pc + 1) L (.long (x % y) :: r) H sl Q) : mmW K I ret (n + 1) pc L (.long y :: .long x :: r) H sl Q := by
  refine mmW_step1 ?_ w
  unfold mmStep1
  rw [h0]
  show (match mmJJz (fun x y => x % y) pc L (.long y :: .long x :: r) with | some (pc', L', S') => some (pc', L', S', H, sl) | none => none) = _
  unfold mmJJz; dsimp only
  rw [if_neg h1]
theorem mmW_irem {K : MTab} {I : Nat → Option Instr} {ret : Option FieldType} {Q : Option Value → MHeap → Nat → Prop} {n pc sl : Nat} {L : List Slot} {r : List Value} {H : MHeap} {x y : Int32} (h0 : I pc = some .irem) (h1 : ¬ y = 0) (w : mmW K I ret n (pc + 1) L (.int (x % y) :: r) H sl Q) : mmW K I ret (n + 1) pc L (.int y :: .int x :: r) H sl Q := by
  refine mmW_step1 ?_ w
  unfold mmStep1
  rw [h0]
  show (match mmIIz (fun x y => x % y) pc L (.int y :: .int x :: r) with | some (pc', L', S') => some (pc', L', S', H, sl) | none => none) = _
  unfold mmIIz; dsimp only
  rw [if_neg h1]
theorem mmW_idiv {K : MTab} {I : Nat → Option Instr} {ret : Option FieldType} {Q : Option Value → MHeap → Nat → Prop} {n pc sl : Nat} {L : List Slot} {r : List Value} {H : MHeap} {x y : Int32} (h0 : I pc = some .idiv) (h1 : ¬ y = 0) (w : mmW K I ret n (pc + 1) L (.int (x / y) :: r) H sl Q) : mmW K I ret (n + 1) pc L (.int y :: .int x :: r) H sl Q := by
  refine mmW_step1 ?_ w
  unfold mmStep1
  rw [h0]
  show (match mmIIz (fun x y => x / y) pc L (.int y :: .int x :: r) with | some (pc', L', S') => some (pc', L', S', H, sl) | none => none) = _
  unfold mmIIz; dsimp only
  rw [if_neg h1]
theorem mmW_callF {K : MTab} {I : Nat → Option Instr} {ret : Option FieldType} {Q : Option Value → MHeap → Nat → Prop} {n idx cnt pc sl na W ds : Nat} {rc : Option Nat} {F : MKall} {L : List Slot} {S as r : List Value} {H H' : MHeap} {v : Option Value} (h0 : I pc = some (.invokeinterface idx cnt)) (h1 : mmLook K.2.2.2.2.2.2.2.1 (idx + 100000) = some (na, rc, W, F)) (h2 : mmPop na S [] = some (as, r)) (h3 : mmRecv rc as H = true) (h4 : mmCat r ≤ W) (h5 : F as H = some (v, H', ds))
    (w : mmW K I ret n (pc + 5) L (v.toList ++ r) H' (sl + ds) Q) : mmW K I ret (n + 1) pc L S H sl Q := by
  refine mmW_step1 ?_ w
  unfold mmStep1
  rw [h0]
  show (match mmCall K.2.2.2.2.2.2.2.1 (idx + 100000) pc L S H sl with | some (pc', L', S', H', sl') => (some (pc' + 2, L', S', H', sl') : Option MSt) | none => none) = _
  rw [mmCall_at h1 h2 h3 h4 h5]
theorem mmStepN_mono {K : MTab} (hK : mmMonos K) {I : Nat → Option Instr} {ret : Option FieldType} : ∀ {k pc sl pc' sl' : Nat} {L L' : List Slot} {S S' : List Value} {H H' : MHeap}, mmStepN K I ret k pc L S H sl = some (pc', L', S', H', sl') → H.length ≤ H'.length ∧ sl ≤ sl'
  | 0, _, _, _, _, _, _, _, _, _, _, h => by cases h; exact ⟨Nat.le_refl _, Nat.le_refl _⟩
  | k + 1, pc, sl, pc', sl', L, L', S, S', H, H', h => by
    unfold mmStepN at h
    split at h
    · rename_i pc1 L1 S1 H1 sl1 h1
      unfold mmStep1 at h1
      split at h1
      · cases h1
      · split at h1
        · cases h1
        · have q1 := mmStep_mono hK h1
          have q2 := mmStepN_mono hK h
          exact ⟨Nat.le_trans q1.1 q2.1, Nat.le_trans q1.2 q2.2⟩
    · cases h
theorem mmStepN_ok {CT : List MCls} {p : Program} {l : Launch} {e : Env} {R : Room} {s : State} {m : MethodId} {args : Array Value} {below : List Frame} {meth : Method} {c : Code} {Z : State} {a0 : Array Value} {own name : String} {N0 hl0 : Nat} {n0 : Nat → Nat} {K : MTab} {I : Nat → Option Instr} {ret : Option FieldType} (hx : p.tables.exec = Jvm.exec) (hZ : Z.Warmed39 s.vm) (hown : s.vm.findClass own = some m.cls) (hnm : meth.name = name)
    (hCT : mmAll (mmClsOk Z a0) CT) (hK : mmTabOk CT l Z a0 own name R K) (hN : ∀ a, mmM ≤ a → N0 ≤ n0 a) (hs0 : (∀ pc i, I pc = some i → mmAlloc i = false) ∨ ∀ a, hl0 ≤ a → n0 a = s.heap.size + (a - hl0)) (hI : ∀ pc i, I pc = some i → decode c.code pc = .ok (i, mmLen i)) :
    ∀ {k pc sl pc' sl' : Nat} {L L' : List Slot} {S S' : List Value} {H H' : MHeap} {T : State}, mmStepN K I ret k pc L S H sl = some (pc', L', S', H', sl') → L.length = c.maxLocals → mmInv CT Z p l e R s m args below meth c n0 N0 hl0 T H sl → H'.length ≤ hl0 + R.cells → sl' ≤ R.slots →
    (H.length ≤ H'.length ∧ sl ≤ sl') ∧ ∃ T', mmInv CT Z p l e R s m args below meth c n0 N0 hl0 T' H' sl' ∧ L'.length = L.length ∧ ∀ target, Steps p.tables e below (T'.setTop (mkF m pc' (mmUL n0 L') (mmUV n0 S'))) target → Steps p.tables e below (T.setTop (mkF m pc (mmUL n0 L) (mmUV n0 S))) target
  | 0, _, _, _, _, _, _, _, _, _, _, T, h, _, Iv, _, _ => by cases h; exact ⟨⟨Nat.le_refl _, Nat.le_refl _⟩, T, Iv, rfl, fun _ q => q⟩
  | k + 1, pc, sl, pc', sl', L, L', S, S', H, H', T, h, hL, Iv, hc, hs => by
    unfold mmStepN at h
    split at h
    · rename_i pc1 L1 S1 H1 sl1 h1
      unfold mmStep1 at h1
      split at h1
      · cases h1
      · rename_i i hi
        split at h1
        · cases h1
        · have mono : H1.length ≤ H'.length ∧ sl1 ≤ sl' := mmStepN_mono (mmTabOk_mono hK) h
          obtain ⟨q1, T1, Iv1, st⟩ := mmStep_ok hx hZ hown hnm hCT hK hN (fun z => hs0.resolve_left fun q => by rw [q _ _ hi] at z; cases z) hL Iv (Nat.le_trans mono.1 hc) (Nat.le_trans mono.2 hs) (hI _ _ hi) h1
          obtain ⟨m2, T2, Iv2, q2, st2⟩ := mmStepN_ok hx hZ hown hnm hCT hK hN hs0 hI h (q1.trans hL) Iv1 hc hs
          have m1 := mmStep_mono (mmTabOk_mono hK) h1
          exact ⟨⟨Nat.le_trans m1.1 m2.1, Nat.le_trans m1.2 m2.2⟩, T2, Iv2, q2.trans q1, fun t z => st t (st2 t z)⟩
    · cases h

/-! ## this claim's tables (printed by program) -/
def CT : List MCls := [("com/example/charterlens/charterlens/cli/Table", 3, [("com/example/charterlens/charterlens/cli/Table", "rows", "Ljava/util/List;", (.object "java/util/List")), ("com/example/charterlens/charterlens/cli/Table", "widths", "[I", (.array .int)), ("com/example/charterlens/charterlens/cli/Table", "alignedRight", "[Z", (.array .boolean))]), ("java/lang/String", 4, [("java/lang/String", "value", "[B", (.array .byte)), ("java/lang/String", "coder", "B", .byte)]), ("java/util/ArrayList", 3, [("java/util/AbstractList", "modCount", "I", .int), ("java/util/ArrayList", "elementData", "[Ljava/lang/Object;", (.array (.object "java/lang/Object"))), ("java/util/ArrayList", "size", "I", .int)])]
theorem CT_ok (l : Launch) (Z : State) (a0 : Array Value) (hw : ∀ d ∈ tables_1, d.before a0 Z = true) : mmAll (mmClsOk Z a0) CT :=
  ⟨⟨(hw _ (List.mem_of_getElem? (i := 2) rfl)), (hw _ (List.mem_of_getElem? (i := 3) rfl)), ⟨⟨Or.inr (hw _ (List.mem_of_getElem? (i := 50) rfl)), by decide +kernel⟩, ⟨Or.inr (hw _ (List.mem_of_getElem? (i := 52) rfl)), by decide +kernel⟩, ⟨Or.inr (hw _ (List.mem_of_getElem? (i := 55) rfl)), by decide +kernel⟩, trivial⟩, by decide +kernel⟩, ⟨(hw _ (List.mem_of_getElem? (i := 12) rfl)), (hw _ (List.mem_of_getElem? (i := 11) rfl)), ⟨⟨Or.inr (hw _ (List.mem_of_getElem? (i := 14) rfl)), by decide +kernel⟩, ⟨Or.inr (hw _ (List.mem_of_getElem? (i := 15) rfl)), by decide +kernel⟩, trivial⟩, by decide +kernel⟩, ⟨(hw _ (List.mem_of_getElem? (i := 26) rfl)), (hw _ (List.mem_of_getElem? (i := 27) rfl)), ⟨⟨Or.inl (hw _ (List.mem_of_getElem? (i := 45) rfl)), by decide +kernel⟩, ⟨Or.inl (hw _ (List.mem_of_getElem? (i := 48) rfl)), by decide +kernel⟩, ⟨Or.inl (hw _ (List.mem_of_getElem? (i := 73) rfl)), by decide +kernel⟩, trivial⟩, by decide +kernel⟩, trivial⟩
theorem own_mod3 (x : Int32) : (x &&& (2147483647 : Int32)) % (3 : Int32) = 0 ∨ (x &&& (2147483647 : Int32)) % (3 : Int32) = 1 ∨ (x &&& (2147483647 : Int32)) % (3 : Int32) = 2 := by
  have h1 := Kit.i32_mask x 2147483647 (k := 31) (by decide) (by decide)
  have h2 : ((x &&& 2147483647) % 3 : Int32).toInt = (x &&& 2147483647).toInt % 3 := Kit.i32_rem_nonneg (by rw [h1]; omega)
  have h3 : ((x &&& 2147483647) % 3 : Int32).toInt = 0 ∨ ((x &&& 2147483647) % 3 : Int32).toInt = 1 ∨ ((x &&& 2147483647) % 3 : Int32).toInt = 2 := by omega
  rcases h3 with h | h | h
  · exact Or.inl (Int32.toInt_inj.mp h)
  · exact Or.inr (Or.inl (Int32.toInt_inj.mp h))
  · exact Or.inr (Or.inr (Int32.toInt_inj.mp h))
theorem mmW_getF {K : MTab} {I : Nat → Option Instr} {ret : Option FieldType} {Q : Option Value → MHeap → Nat → Prop} {n pc sl idx a k j : Nat} {L : List Slot} {r vs : List Value} {H : MHeap} {v : Value} (h0 : I pc = some (.getfield idx)) (h1 : mmLook K.2.1 idx = some (k, j)) (h2 : mmNth H a = some (.inl (k, vs))) (h3 : mmNth vs j = some v) (w : mmW K I ret n (pc + 3) L (v :: r) H sl Q) : mmW K I ret (n + 1) pc L (.ref a :: r) H sl Q := by
  refine mmW_step1 ?_ w
  unfold mmStep1
  rw [h0]
  show mmGetF K.2.1 idx pc L (.ref a :: r) H sl = _
  unfold mmGetF; dsimp only
  rw [h1]; dsimp only
  rw [h2]; dsimp only
  rw [if_pos rfl, h3]
theorem mmW_alen {K : MTab} {I : Nat → Option Instr} {ret : Option FieldType} {Q : Option Value → MHeap → Nat → Prop} {n pc sl a : Nat} {L : List Slot} {r vs : List Value} {H : MHeap} {ty : FieldType} {z : Int32} (h0 : I pc = some .arraylength) (h2 : mmNth H a = some (.inr (ty, vs))) (h3 : vs.length.toInt32 = z) (w : mmW K I ret n (pc + 1) L (.int z :: r) H sl Q) : mmW K I ret (n + 1) pc L (.ref a :: r) H sl Q := by
  refine mmW_step1 ?_ w
  unfold mmStep1
  rw [h0]
  show (match mmNth H a with | some (.inr (_, vs)) => (some (pc + 1, L, .int vs.length.toInt32 :: r, H, sl) : Option MSt) | _ => none) = _
  rw [h2]; dsimp only
  rw [h3]
theorem mmRecv_of {H : MHeap} {a k : Nat} {vs as : List Value} (h : mmNth H a = some (.inl (k, vs))) : mmRecv (some k) (.ref a :: as) H = true := by
  unfold mmRecv; dsimp only
  rw [h]; simp
theorem own_shr0 (x : Int32) : x >>> (0 : Int32) = x := by
  apply Int32.toBitVec_inj.mp
  rw [Int32.toBitVec_shiftRight]
  simp
theorem own_mx {x : Int32} (h : ¬ x < 0) : (if (0 : Int32) < x then x else (0 : Int32)) = x := by
  by_cases c : (0 : Int32) < x
  · rw [if_pos c]
  · rw [if_neg c]
    apply Int32.toInt_inj.mp
    rw [Int32.lt_iff_toInt_lt] at h c
    have z : (0 : Int32).toInt = 0 := rfl
    omega
theorem own_nm : "[" ++ (FieldType.object "java/lang/String").toString = "[Ljava/lang/String;" := by decide +kernel
def own_atl (a b : Int32) : Int32 := if a < b then b else a

/-- body 5: AbstractCollection.init -/
def I_5 : Nat → Option Instr := mmCut 5 fun pc => (bif Nat.ble pc 0 then (bif Nat.beq pc 0 then some (.aload_n 0) else none) else (bif Nat.ble pc 1 then (bif Nat.beq pc 1 then some (.invokespecial 1) else none) else (bif Nat.beq pc 4 then some (.return_) else none)))
def K_5 : MTab := ([], [], [], [], ([], [], [], []), [(1, 0)], [], [], [])
abbrev B_5 : MKall := mmBody K_5 I_5 none 1 1000
theorem chk_5 : mmChk jdk_22_method_1_code I_5 5 = true := by decide +kernel
theorem hI_5 : ∀ pc i, I_5 pc = some i → decode jdk_22_method_1_code pc = .ok (i, mmLen i) := mmCut_ok chk_5
theorem pd_5 : parseMethodDescriptor "()V" = some ⟨[], none⟩ := by decide +kernel
theorem T_5 (l : Launch) (Z : State) (a0 : Array Value) (hw : ∀ d ∈ tables_1, d.before a0 Z = true) (ce sl : Nat) : mmTabOk CT l Z a0 "java/util/AbstractCollection" "<init>" ({ frames := 1, cells := ce, slots := sl, locals := 12 } : Room) K_5 :=
  ⟨trivial,
   trivial,
   trivial,
   trivial,
   ⟨trivial, trivial, trivial, trivial⟩,
   ⟨⟨(hw _ (List.mem_of_getElem? (i := 43) rfl)), (hw _ (List.mem_of_getElem? (i := 23) rfl)), (hw _ (List.mem_of_getElem? (i := 24) rfl)), Nat.le_of_ble_eq_true rfl, Nat.le_of_ble_eq_true rfl⟩, trivial⟩,
   trivial,
   trivial,
   trivial⟩
theorem pl_5 : plainFor (⟨"java/util/AbstractCollection", "<init>", "()V"⟩ : MethodName) = true := by first | exact plainFor_of_name (by first | (simp [plainName, overriddenIn]; done) | decide +kernel) | decide +kernel
theorem G_5 (l : Launch) (Z : State) (a0 : Array Value) (hw : ∀ d ∈ tables_1, d.before a0 Z = true) : mmGood CT l Z (⟨"java/util/AbstractCollection", "<init>", "()V"⟩ : MethodName) jdk_22_method_1_code 1 none 1 12 B_5 := mmGood_of 1000 pl_5 hI_5 (CT_ok l Z a0 hw) (T_5 l Z a0 hw)
/-- body 4: AbstractList.init -/
def I_4 : Nat → Option Instr := mmCut 10 fun pc => (bif Nat.ble pc 4 then (bif Nat.ble pc 0 then (bif Nat.beq pc 0 then some (.aload_n 0) else none) else (bif Nat.ble pc 1 then (bif Nat.beq pc 1 then some (.invokespecial 1) else none) else (bif Nat.beq pc 4 then some (.aload_n 0) else none))) else (bif Nat.ble pc 5 then (bif Nat.beq pc 5 then some (.iconst 0) else none) else (bif Nat.ble pc 6 then (bif Nat.beq pc 6 then some (.putfield 7) else none) else (bif Nat.beq pc 9 then some (.return_) else none))))
def K_4 : MTab := ([], [], [(7, (2, 0, .int))], [], ([], [], [], []), [], [], [], [(1, (1, some 2, 0, B_5))])
abbrev B_4 : MKall := mmBody K_4 I_4 none 1 1000
theorem chk_4 : mmChk jdk_39_method_1_code I_4 10 = true := by decide +kernel
theorem hI_4 : ∀ pc i, I_4 pc = some i → decode jdk_39_method_1_code pc = .ok (i, mmLen i) := mmCut_ok chk_4
theorem pd_4 : parseMethodDescriptor "()V" = some ⟨[], none⟩ := by decide +kernel
theorem T_4 (l : Launch) (Z : State) (a0 : Array Value) (hw : ∀ d ∈ tables_1, d.before a0 Z = true) (ce sl : Nat) : mmTabOk CT l Z a0 "java/util/AbstractList" "<init>" ({ frames := 2, cells := ce, slots := sl, locals := 24 } : Room) K_4 :=
  ⟨trivial,
   trivial,
   ⟨⟨_, _, _, _, _, _, rfl, rfl, ⟨_, (hw _ (List.mem_of_getElem? (i := 44) rfl)), Via.refl⟩, Or.inl (hw _ (List.mem_of_getElem? (i := 45) rfl))⟩, trivial⟩,
   trivial,
   ⟨trivial, trivial, trivial, trivial⟩,
   trivial,
   trivial,
   trivial,
   ⟨mmCallI rfl (hw _ (List.mem_of_getElem? (i := 37) rfl)) (hw _ (List.mem_of_getElem? (i := 38) rfl)) (hw _ (List.mem_of_getElem? (i := 41) rfl)) (hw _ (List.mem_of_getElem? (i := 42) rfl)) (by decide) (G_5 l Z a0 hw) (Nat.le_of_ble_eq_true rfl) (Nat.le_of_ble_eq_true rfl) pd_5 rfl, trivial⟩⟩
theorem pl_4 : plainFor (⟨"java/util/AbstractList", "<init>", "()V"⟩ : MethodName) = true := by first | exact plainFor_of_name (by first | (simp [plainName, overriddenIn]; done) | decide +kernel) | decide +kernel
theorem G_4 (l : Launch) (Z : State) (a0 : Array Value) (hw : ∀ d ∈ tables_1, d.before a0 Z = true) : mmGood CT l Z (⟨"java/util/AbstractList", "<init>", "()V"⟩ : MethodName) jdk_39_method_1_code 1 none 2 24 B_4 := mmGood_of 1000 pl_4 hI_4 (CT_ok l Z a0 hw) (T_4 l Z a0 hw)
/-- body 3: ArrayList.init -/
def I_3 : Nat → Option Instr := mmCut 12 fun pc => (bif Nat.ble pc 4 then (bif Nat.ble pc 0 then (bif Nat.beq pc 0 then some (.aload_n 0) else none) else (bif Nat.ble pc 1 then (bif Nat.beq pc 1 then some (.invokespecial 1) else none) else (bif Nat.beq pc 4 then some (.aload_n 0) else none))) else (bif Nat.ble pc 5 then (bif Nat.beq pc 5 then some (.getstatic 39) else none) else (bif Nat.ble pc 8 then (bif Nat.beq pc 8 then some (.putfield 9) else none) else (bif Nat.beq pc 11 then some (.return_) else none))))
def K_3 : MTab := ([(100039, .ref 0)], [], [(9, (2, 1, (.array (.object "java/lang/Object"))))], [], ([], [], [], []), [], [], [], [(1, (1, some 2, 0, B_4))])
abbrev B_3 : MKall := mmBody K_3 I_3 none 1 1000
theorem chk_3 : mmChk jdk_38_method_2_code I_3 12 = true := by decide +kernel
theorem hI_3 : ∀ pc i, I_3 pc = some i → decode jdk_38_method_2_code pc = .ok (i, mmLen i) := mmCut_ok chk_3
theorem pd_3 : parseMethodDescriptor "()V" = some ⟨[], none⟩ := by decide +kernel
theorem T_3 (l : Launch) (Z : State) (a0 : Array Value) (hw : ∀ d ∈ tables_1, d.before a0 Z = true) (ce sl : Nat) : mmTabOk CT l Z a0 "java/util/ArrayList" "<init>" ({ frames := 3, cells := ce, slots := sl, locals := 36 } : Room) K_3 :=
  ⟨⟨⟨fun h => absurd h (by decide), fun i h => by have h' : 39 + 100000 = i + 100000 := h; obtain rfl : 39 = i := (by omega); exact ⟨_, _, _, (by unfold mmSt; exact List.mem_cons_self ..), (hw _ (List.mem_of_getElem? (i := 46) rfl))⟩⟩, trivial⟩,
   trivial,
   ⟨⟨_, _, _, _, _, _, rfl, rfl, ⟨_, (hw _ (List.mem_of_getElem? (i := 47) rfl)), Via.refl⟩, Or.inl (hw _ (List.mem_of_getElem? (i := 48) rfl))⟩, trivial⟩,
   trivial,
   ⟨trivial, trivial, trivial, trivial⟩,
   trivial,
   trivial,
   trivial,
   ⟨mmCallI rfl (hw _ (List.mem_of_getElem? (i := 31) rfl)) (hw _ (List.mem_of_getElem? (i := 32) rfl)) (hw _ (List.mem_of_getElem? (i := 35) rfl)) (hw _ (List.mem_of_getElem? (i := 36) rfl)) (by decide) (G_4 l Z a0 hw) (Nat.le_of_ble_eq_true rfl) (Nat.le_of_ble_eq_true rfl) pd_4 rfl, trivial⟩⟩
theorem pl_3 : plainFor (⟨"java/util/ArrayList", "<init>", "()V"⟩ : MethodName) = true := by first | exact plainFor_of_name (by first | (simp [plainName, overriddenIn]; done) | decide +kernel) | decide +kernel
theorem G_3 (l : Launch) (Z : State) (a0 : Array Value) (hw : ∀ d ∈ tables_1, d.before a0 Z = true) : mmGood CT l Z (⟨"java/util/ArrayList", "<init>", "()V"⟩ : MethodName) jdk_38_method_2_code 1 none 3 36 B_3 := mmGood_of 1000 pl_3 hI_3 (CT_ok l Z a0 hw) (T_3 l Z a0 hw)
/-- body 11: Math.max -/
def I_11 : Nat → Option Instr := mmCut 11 fun pc => (bif Nat.ble pc 2 then (bif Nat.ble pc 0 then (bif Nat.beq pc 0 then some (.iload_n 0) else none) else (bif Nat.ble pc 1 then (bif Nat.beq pc 1 then some (.iload_n 1) else none) else (bif Nat.beq pc 2 then some (.if_icmp .lt 7) else none))) else (bif Nat.ble pc 6 then (bif Nat.ble pc 5 then (bif Nat.beq pc 5 then some (.iload_n 0) else none) else (bif Nat.beq pc 6 then some (.goto 4) else none)) else (bif Nat.ble pc 9 then (bif Nat.beq pc 9 then some (.iload_n 1) else none) else (bif Nat.beq pc 10 then some (.ireturn) else none))))
def K_11 : MTab := ([], [], [], [], ([], [], [], []), [], [], [], [])
abbrev B_11 : MKall := mmBody K_11 I_11 (some .int) 2 1000
theorem chk_11 : mmChk jdk_29_method_65_code I_11 11 = true := by decide +kernel
theorem hI_11 : ∀ pc i, I_11 pc = some i → decode jdk_29_method_65_code pc = .ok (i, mmLen i) := mmCut_ok chk_11
theorem pd_11 : parseMethodDescriptor "(II)I" = some ⟨[.int, .int], some .int⟩ := by decide +kernel
theorem T_11 (l : Launch) (Z : State) (a0 : Array Value) (hw : ∀ d ∈ tables_1, d.before a0 Z = true) (ce sl : Nat) : mmTabOk CT l Z a0 "java/lang/Math" "max" ({ frames := 0, cells := ce, slots := sl, locals := 0 } : Room) K_11 :=
  ⟨trivial,
   trivial,
   trivial,
   trivial,
   ⟨trivial, trivial, trivial, trivial⟩,
   trivial,
   trivial,
   trivial,
   trivial⟩
theorem pl_11 : plainFor (⟨"java/lang/Math", "max", "(II)I"⟩ : MethodName) = true := by first | exact plainFor_of_name (by first | (simp [plainName, overriddenIn]; done) | decide +kernel) | decide +kernel
theorem G_11b (l : Launch) (Z : State) (a0 : Array Value) (hw : ∀ d ∈ tables_1, d.before a0 Z = true) : mmGood CT l Z (⟨"java/lang/Math", "max", "(II)I"⟩ : MethodName) jdk_29_method_65_code 2 (some .int) 0 0 B_11 := mmGood_of 1000 pl_11 hI_11 (CT_ok l Z a0 hw) (T_11 l Z a0 hw)
def F_11 : MKall := fun as H => match as with
  | [.int a, .int b] => some (some (.int (if a < b then b else a)), H, 0)
  | _ => none
theorem F_11_ok : ∀ as H r, F_11 as H = some r → B_11 as H = some r := fun as H r h => by
  unfold F_11 at h
  split at h
  · rename_i a b
    cases h
    show mmRun K_11 I_11 (some .int) 1000 0 [.val (.int a), .val (.int b)] [] H 0 = _
    rw [mmRun_steps (k := 3) (n := 997) (pc' := (if if_icmp.holds .lt a b = true then 9 else 5)) (L' := [.val (.int a), .val (.int b)]) (S' := []) (H' := H) (sl' := 0) rfl]
    by_cases hc : a < b
    · rw [if_pos (XT.ii_lt_t hc), if_pos hc]; rfl
    · have e : if_icmp.holds .lt a b = false := XT.ii_lt_f hc
      rw [e, if_neg hc]; rfl
  · cases h
theorem F_11_t {a b : Int32} {H : MHeap} (h : a < b) : F_11 [.int a, .int b] H = some (some (.int b), H, 0) := by
  show some (some (Value.int (if a < b then b else a)), H, 0) = _
  rw [if_pos h]
theorem F_11_f {a b : Int32} {H : MHeap} (h : ¬ a < b) : F_11 [.int a, .int b] H = some (some (.int a), H, 0) := by
  show some (some (Value.int (if a < b then b else a)), H, 0) = _
  rw [if_neg h]

theorem G_11 (l : Launch) (Z : State) (a0 : Array Value) (hw : ∀ d ∈ tables_1, d.before a0 Z = true) : mmGood CT l Z (⟨"java/lang/Math", "max", "(II)I"⟩ : MethodName) jdk_29_method_65_code 2 (some .int) 0 0 F_11 := mmGood_sub F_11_ok (G_11b l Z a0 hw)
/-- body 10: ArrayList.grow -/
def I_10 : Nat → Option Instr := mmCut 60 fun pc => (bif Nat.ble pc 25 then (bif Nat.ble pc 11 then (bif Nat.ble pc 5 then (bif Nat.ble pc 1 then (bif Nat.ble pc 0 then (bif Nat.beq pc 0 then some (.aload_n 0) else none) else (bif Nat.beq pc 1 then some (.getfield 9) else none)) else (bif Nat.ble pc 4 then (bif Nat.beq pc 4 then some (.arraylength) else none) else (bif Nat.beq pc 5 then some (.istore_n 2) else none))) else (bif Nat.ble pc 7 then (bif Nat.ble pc 6 then (bif Nat.beq pc 6 then some (.iload_n 2) else none) else (bif Nat.beq pc 7 then some (.ifCond .gt 13) else none)) else (bif Nat.ble pc 10 then (bif Nat.beq pc 10 then some (.aload_n 0) else none) else (bif Nat.beq pc 11 then some (.getfield 9) else none)))) else (bif Nat.ble pc 21 then (bif Nat.ble pc 17 then (bif Nat.ble pc 14 then (bif Nat.beq pc 14 then some (.getstatic 39) else none) else (bif Nat.beq pc 17 then some (.if_acmp .eq 28) else none)) else (bif Nat.ble pc 20 then (bif Nat.beq pc 20 then some (.iload_n 2) else none) else (bif Nat.beq pc 21 then some (.iload_n 1) else none))) else (bif Nat.ble pc 23 then (bif Nat.ble pc 22 then (bif Nat.beq pc 22 then some (.iload_n 2) else none) else (bif Nat.beq pc 23 then some (.isub) else none)) else (bif Nat.ble pc 24 then (bif Nat.beq pc 24 then some (.iload_n 2) else none) else (bif Nat.beq pc 25 then some (.iconst 1) else none))))) else (bif Nat.ble pc 41 then (bif Nat.ble pc 32 then (bif Nat.ble pc 30 then (bif Nat.ble pc 26 then (bif Nat.beq pc 26 then some (.ishr) else none) else (bif Nat.beq pc 30 then some (.istore_n 3) else none)) else (bif Nat.ble pc 31 then (bif Nat.beq pc 31 then some (.aload_n 0) else none) else (bif Nat.beq pc 32 then some (.aload_n 0) else none))) else (bif Nat.ble pc 36 then (bif Nat.ble pc 33 then (bif Nat.beq pc 33 then some (.getfield 9) else none) else (bif Nat.beq pc 36 then some (.iload_n 3) else none)) else (bif Nat.ble pc 40 then (bif Nat.beq pc 40 then some (.dup_x1) else none) else (bif Nat.beq pc 41 then some (.putfield 9) else none)))) else (bif Nat.ble pc 48 then (bif Nat.ble pc 45 then (bif Nat.ble pc 44 then (bif Nat.beq pc 44 then some (.areturn) else none) else (bif Nat.beq pc 45 then some (.aload_n 0) else none)) else (bif Nat.ble pc 46 then (bif Nat.beq pc 46 then some (.bipush 10) else none) else (bif Nat.beq pc 48 then some (.iload_n 1) else none))) else (bif Nat.ble pc 52 then (bif Nat.ble pc 49 then (bif Nat.beq pc 49 then some (.invokestatic 79) else none) else (bif Nat.beq pc 52 then some (.anewarray 7) else none)) else (bif Nat.ble pc 55 then (bif Nat.beq pc 55 then some (.dup_x1) else none) else (bif Nat.ble pc 56 then (bif Nat.beq pc 56 then some (.putfield 9) else none) else (bif Nat.beq pc 59 then some (.areturn) else none)))))))
def K_10 : MTab := ([(100039, .ref 0)], [(9, (2, 1))], [(9, (2, 1, (.array (.object "java/lang/Object"))))], [], ([], [(7, "java/lang/Object")], [], []), [], [(79, (2, none, 1, F_11))], [], [])
abbrev B_10 : MKall := mmBody K_10 I_10 (some (.array (.object "java/lang/Object"))) 4 1000
theorem chk_10 : mmChk jdk_38_method_6_code I_10 60 = true := by decide +kernel
theorem hI_10 : ∀ pc i, I_10 pc = some i → decode jdk_38_method_6_code pc = .ok (i, mmLen i) := mmCut_ok chk_10
theorem pd_10 : parseMethodDescriptor "(I)[Ljava/lang/Object;" = some ⟨[.int], some (.array (.object "java/lang/Object"))⟩ := by decide +kernel
theorem T_10 (l : Launch) (Z : State) (a0 : Array Value) (hw : ∀ d ∈ tables_1, d.before a0 Z = true) (ce sl : Nat) : mmTabOk CT l Z a0 "java/util/ArrayList" "grow" ({ frames := 1, cells := ce, slots := sl, locals := 14 } : Room) K_10 :=
  ⟨⟨⟨fun h => absurd h (by decide), fun i h => by have h' : 39 + 100000 = i + 100000 := h; obtain rfl : 39 = i := (by omega); exact ⟨_, _, _, (by unfold mmSt; exact List.mem_cons_self ..), (hw _ (List.mem_of_getElem? (i := 46) rfl))⟩⟩, trivial⟩,
   ⟨⟨_, _, _, _, _, _, _, rfl, rfl, _, (hw _ (List.mem_of_getElem? (i := 47) rfl)), Via.refl⟩, trivial⟩,
   ⟨⟨_, _, _, _, _, _, rfl, rfl, ⟨_, (hw _ (List.mem_of_getElem? (i := 47) rfl)), Via.refl⟩, Or.inl (hw _ (List.mem_of_getElem? (i := 48) rfl))⟩, trivial⟩,
   trivial,
   ⟨trivial, ⟨⟨(hw _ (List.mem_of_getElem? (i := 93) rfl)), (hw _ (List.mem_of_getElem? (i := 94) rfl))⟩, trivial⟩, trivial, trivial⟩,
   trivial,
   ⟨mmCallS (hw _ (List.mem_of_getElem? (i := 89) rfl)) (hw _ (List.mem_of_getElem? (i := 90) rfl)) (hw _ (List.mem_of_getElem? (i := 91) rfl)) (hw _ (List.mem_of_getElem? (i := 92) rfl)) (by decide) (G_11 l Z a0 hw) (Nat.le_of_ble_eq_true rfl) (Nat.le_of_ble_eq_true rfl) pd_11 rfl, trivial⟩,
   trivial,
   trivial⟩
theorem pl_10 : plainFor (⟨"java/util/ArrayList", "grow", "(I)[Ljava/lang/Object;"⟩ : MethodName) = true := by first | exact plainFor_of_name (by first | (simp [plainName, overriddenIn]; done) | decide +kernel) | decide +kernel
theorem G_10 (l : Launch) (Z : State) (a0 : Array Value) (hw : ∀ d ∈ tables_1, d.before a0 Z = true) : mmGood CT l Z (⟨"java/util/ArrayList", "grow", "(I)[Ljava/lang/Object;"⟩ : MethodName) jdk_38_method_6_code 4 (some (.array (.object "java/lang/Object"))) 1 14 B_10 := mmGood_of 1000 pl_10 hI_10 (CT_ok l Z a0 hw) (T_10 l Z a0 hw)
/-- body 9: ArrayList.grow -/
def I_9 : Nat → Option Instr := mmCut 11 fun pc => (bif Nat.ble pc 2 then (bif Nat.ble pc 0 then (bif Nat.beq pc 0 then some (.aload_n 0) else none) else (bif Nat.ble pc 1 then (bif Nat.beq pc 1 then some (.aload_n 0) else none) else (bif Nat.beq pc 2 then some (.getfield 48) else none))) else (bif Nat.ble pc 6 then (bif Nat.ble pc 5 then (bif Nat.beq pc 5 then some (.iconst 1) else none) else (bif Nat.beq pc 6 then some (.iadd) else none)) else (bif Nat.ble pc 7 then (bif Nat.beq pc 7 then some (.invokevirtual 69) else none) else (bif Nat.beq pc 10 then some (.areturn) else none))))
def K_9 : MTab := ([], [(48, (2, 2))], [], [], ([], [], [], []), [], [], [(69, (2, some 2, 0, B_10))], [])
abbrev B_9 : MKall := mmBody K_9 I_9 (some (.array (.object "java/lang/Object"))) 1 1000
theorem chk_9 : mmChk jdk_38_method_7_code I_9 11 = true := by decide +kernel
theorem hI_9 : ∀ pc i, I_9 pc = some i → decode jdk_38_method_7_code pc = .ok (i, mmLen i) := mmCut_ok chk_9
theorem pd_9 : parseMethodDescriptor "()[Ljava/lang/Object;" = some ⟨[], some (.array (.object "java/lang/Object"))⟩ := by decide +kernel
theorem T_9 (l : Launch) (Z : State) (a0 : Array Value) (hw : ∀ d ∈ tables_1, d.before a0 Z = true) (ce sl : Nat) : mmTabOk CT l Z a0 "java/util/ArrayList" "grow" ({ frames := 2, cells := ce, slots := sl, locals := 29 } : Room) K_9 :=
  ⟨trivial,
   ⟨⟨_, _, _, _, _, _, _, rfl, rfl, _, (hw _ (List.mem_of_getElem? (i := 72) rfl)), Via.refl⟩, trivial⟩,
   trivial,
   trivial,
   ⟨trivial, trivial, trivial, trivial⟩,
   trivial,
   trivial,
   ⟨⟨fun _ => mmCallP rfl (mmAll_nth (CT_ok l Z a0 hw) (k := 2) rfl) (hw _ (List.mem_of_getElem? (i := 84) rfl)) (hw _ (List.mem_of_getElem? (i := 85) rfl)) (hw _ (List.mem_of_getElem? (i := 86) rfl)) (hw _ (List.mem_of_getElem? (i := 27) rfl)) (hw _ (List.mem_of_getElem? (i := 88) rfl)) (by decide) (G_10 l Z a0 hw) (Nat.le_of_ble_eq_true rfl) (Nat.le_of_ble_eq_true rfl) pd_10 rfl, fun i h => absurd h (by show ¬ 69 = i + 100000; omega)⟩, trivial⟩,
   trivial⟩
theorem pl_9 : plainFor (⟨"java/util/ArrayList", "grow", "()[Ljava/lang/Object;"⟩ : MethodName) = true := by first | exact plainFor_of_name (by first | (simp [plainName, overriddenIn]; done) | decide +kernel) | decide +kernel
theorem G_9 (l : Launch) (Z : State) (a0 : Array Value) (hw : ∀ d ∈ tables_1, d.before a0 Z = true) : mmGood CT l Z (⟨"java/util/ArrayList", "grow", "()[Ljava/lang/Object;"⟩ : MethodName) jdk_38_method_7_code 1 (some (.array (.object "java/lang/Object"))) 2 29 B_9 := mmGood_of 1000 pl_9 hI_9 (CT_ok l Z a0 hw) (T_9 l Z a0 hw)
/-- body 8: ArrayList.add -/
def I_8 : Nat → Option Instr := mmCut 23 fun pc => (bif Nat.ble pc 11 then (bif Nat.ble pc 3 then (bif Nat.ble pc 1 then (bif Nat.ble pc 0 then (bif Nat.beq pc 0 then some (.iload_n 3) else none) else (bif Nat.beq pc 1 then some (.aload_n 2) else none)) else (bif Nat.ble pc 2 then (bif Nat.beq pc 2 then some (.arraylength) else none) else (bif Nat.beq pc 3 then some (.if_icmp .ne 8) else none))) else (bif Nat.ble pc 7 then (bif Nat.ble pc 6 then (bif Nat.beq pc 6 then some (.aload_n 0) else none) else (bif Nat.beq pc 7 then some (.invokevirtual 129) else none)) else (bif Nat.ble pc 10 then (bif Nat.beq pc 10 then some (.astore_n 2) else none) else (bif Nat.beq pc 11 then some (.aload_n 2) else none)))) else (bif Nat.ble pc 15 then (bif Nat.ble pc 13 then (bif Nat.ble pc 12 then (bif Nat.beq pc 12 then some (.iload_n 3) else none) else (bif Nat.beq pc 13 then some (.aload_n 1) else none)) else (bif Nat.ble pc 14 then (bif Nat.beq pc 14 then some (.aastore) else none) else (bif Nat.beq pc 15 then some (.aload_n 0) else none))) else (bif Nat.ble pc 17 then (bif Nat.ble pc 16 then (bif Nat.beq pc 16 then some (.iload_n 3) else none) else (bif Nat.beq pc 17 then some (.iconst 1) else none)) else (bif Nat.ble pc 18 then (bif Nat.beq pc 18 then some (.iadd) else none) else (bif Nat.ble pc 19 then (bif Nat.beq pc 19 then some (.putfield 48) else none) else (bif Nat.beq pc 22 then some (.return_) else none))))))
def K_8 : MTab := ([], [], [(48, (2, 2, .int))], [], ([], [], [("java/lang/String", "java/lang/Object")], [(1, "java/lang/String"), (2, "java/util/AbstractList"), (2, "java/util/AbstractCollection"), (2, "java/util/List")]), [], [], [(129, (1, some 2, 0, B_9))], [])
abbrev B_8 : MKall := mmBody K_8 I_8 none 4 1000
theorem chk_8 : mmChk jdk_38_method_24_code I_8 23 = true := by decide +kernel
theorem hI_8 : ∀ pc i, I_8 pc = some i → decode jdk_38_method_24_code pc = .ok (i, mmLen i) := mmCut_ok chk_8
theorem pd_8 : parseMethodDescriptor "(Ljava/lang/Object;[Ljava/lang/Object;I)V" = some ⟨[(.object "java/lang/Object"), (.array (.object "java/lang/Object")), .int], none⟩ := by decide +kernel
theorem T_8 (l : Launch) (Z : State) (a0 : Array Value) (hw : ∀ d ∈ tables_1, d.before a0 Z = true) (ce sl : Nat) : mmTabOk CT l Z a0 "java/util/ArrayList" "add" ({ frames := 3, cells := ce, slots := sl, locals := 41 } : Room) K_8 :=
  ⟨trivial,
   trivial,
   ⟨⟨_, _, _, _, _, _, rfl, rfl, ⟨_, (hw _ (List.mem_of_getElem? (i := 72) rfl)), Via.refl⟩, Or.inl (hw _ (List.mem_of_getElem? (i := 73) rfl))⟩, trivial⟩,
   trivial,
   ⟨trivial, trivial, ⟨(show (Cond.castable ("[" ++ (FieldType.object "java/lang/String").toString) "java/lang/Object").before a0 Z = true by rw [own_nm]; exact (hw _ (List.mem_of_getElem? (i := 95) rfl))), trivial⟩, ⟨⟨_, _, _, rfl, (hw _ (List.mem_of_getElem? (i := 18) rfl))⟩, ⟨_, _, _, rfl, (hw _ (List.mem_of_getElem? (i := 34) rfl))⟩, ⟨_, _, _, rfl, (hw _ (List.mem_of_getElem? (i := 40) rfl))⟩, ⟨_, _, _, rfl, (hw _ (List.mem_of_getElem? (i := 68) rfl))⟩, trivial⟩⟩,
   trivial,
   trivial,
   ⟨⟨fun _ => mmCallP rfl (mmAll_nth (CT_ok l Z a0 hw) (k := 2) rfl) (hw _ (List.mem_of_getElem? (i := 79) rfl)) (hw _ (List.mem_of_getElem? (i := 80) rfl)) (hw _ (List.mem_of_getElem? (i := 81) rfl)) (hw _ (List.mem_of_getElem? (i := 27) rfl)) (hw _ (List.mem_of_getElem? (i := 83) rfl)) (by decide) (G_9 l Z a0 hw) (Nat.le_of_ble_eq_true rfl) (Nat.le_of_ble_eq_true rfl) pd_9 rfl, fun i h => absurd h (by show ¬ 129 = i + 100000; omega)⟩, trivial⟩,
   trivial⟩
theorem pl_8 : plainFor (⟨"java/util/ArrayList", "add", "(Ljava/lang/Object;[Ljava/lang/Object;I)V"⟩ : MethodName) = true := by first | exact plainFor_of_name (by first | (simp [plainName, overriddenIn]; done) | decide +kernel) | decide +kernel
theorem G_8 (l : Launch) (Z : State) (a0 : Array Value) (hw : ∀ d ∈ tables_1, d.before a0 Z = true) : mmGood CT l Z (⟨"java/util/ArrayList", "add", "(Ljava/lang/Object;[Ljava/lang/Object;I)V"⟩ : MethodName) jdk_38_method_24_code 4 none 3 41 B_8 := mmGood_of 1000 pl_8 hI_8 (CT_ok l Z a0 hw) (T_8 l Z a0 hw)
/-- body 7: ArrayList.add -/
def I_7 : Nat → Option Instr := mmCut 25 fun pc => (bif Nat.ble pc 10 then (bif Nat.ble pc 2 then (bif Nat.ble pc 0 then (bif Nat.beq pc 0 then some (.aload_n 0) else none) else (bif Nat.ble pc 1 then (bif Nat.beq pc 1 then some (.dup) else none) else (bif Nat.beq pc 2 then some (.getfield 63) else none))) else (bif Nat.ble pc 6 then (bif Nat.ble pc 5 then (bif Nat.beq pc 5 then some (.iconst 1) else none) else (bif Nat.beq pc 6 then some (.iadd) else none)) else (bif Nat.ble pc 7 then (bif Nat.beq pc 7 then some (.putfield 63) else none) else (bif Nat.beq pc 10 then some (.aload_n 0) else none)))) else (bif Nat.ble pc 16 then (bif Nat.ble pc 12 then (bif Nat.ble pc 11 then (bif Nat.beq pc 11 then some (.aload_n 1) else none) else (bif Nat.beq pc 12 then some (.aload_n 0) else none)) else (bif Nat.ble pc 13 then (bif Nat.beq pc 13 then some (.getfield 9) else none) else (bif Nat.beq pc 16 then some (.aload_n 0) else none))) else (bif Nat.ble pc 20 then (bif Nat.ble pc 17 then (bif Nat.beq pc 17 then some (.getfield 48) else none) else (bif Nat.beq pc 20 then some (.invokevirtual 131) else none)) else (bif Nat.ble pc 23 then (bif Nat.beq pc 23 then some (.iconst 1) else none) else (bif Nat.beq pc 24 then some (.ireturn) else none)))))
def K_7 : MTab := ([], [(9, (2, 1)), (48, (2, 2)), (63, (2, 0))], [(63, (2, 0, .int))], [], ([], [], [], []), [], [], [(131, (4, some 2, 0, B_8))], [])
abbrev B_7 : MKall := mmBody K_7 I_7 (some .boolean) 2 1000
theorem chk_7 : mmChk jdk_38_method_25_code I_7 25 = true := by decide +kernel
theorem hI_7 : ∀ pc i, I_7 pc = some i → decode jdk_38_method_25_code pc = .ok (i, mmLen i) := mmCut_ok chk_7
theorem pd_7 : parseMethodDescriptor "(Ljava/lang/Object;)Z" = some ⟨[(.object "java/lang/Object")], some .boolean⟩ := by decide +kernel
theorem T_7 (l : Launch) (Z : State) (a0 : Array Value) (hw : ∀ d ∈ tables_1, d.before a0 Z = true) (ce sl : Nat) : mmTabOk CT l Z a0 "java/util/ArrayList" "add" ({ frames := 4, cells := ce, slots := sl, locals := 56 } : Room) K_7 :=
  ⟨trivial,
   ⟨⟨_, _, _, _, _, _, _, rfl, rfl, _, (hw _ (List.mem_of_getElem? (i := 47) rfl)), Via.refl⟩, ⟨_, _, _, _, _, _, _, rfl, rfl, _, (hw _ (List.mem_of_getElem? (i := 72) rfl)), Via.refl⟩, ⟨_, _, _, _, _, _, _, rfl, rfl, _, (hw _ (List.mem_of_getElem? (i := 70) rfl)), (Via.of (hw _ (List.mem_of_getElem? (i := 71) rfl)))⟩, trivial⟩,
   ⟨⟨_, _, _, _, _, _, rfl, rfl, ⟨_, (hw _ (List.mem_of_getElem? (i := 70) rfl)), (Via.of (hw _ (List.mem_of_getElem? (i := 71) rfl)))⟩, Or.inl (hw _ (List.mem_of_getElem? (i := 45) rfl))⟩, trivial⟩,
   trivial,
   ⟨trivial, trivial, trivial, trivial⟩,
   trivial,
   trivial,
   ⟨⟨fun _ => mmCallP rfl (mmAll_nth (CT_ok l Z a0 hw) (k := 2) rfl) (hw _ (List.mem_of_getElem? (i := 74) rfl)) (hw _ (List.mem_of_getElem? (i := 75) rfl)) (hw _ (List.mem_of_getElem? (i := 76) rfl)) (hw _ (List.mem_of_getElem? (i := 27) rfl)) (hw _ (List.mem_of_getElem? (i := 78) rfl)) (by decide) (G_8 l Z a0 hw) (Nat.le_of_ble_eq_true rfl) (Nat.le_of_ble_eq_true rfl) pd_8 rfl, fun i h => absurd h (by show ¬ 131 = i + 100000; omega)⟩, trivial⟩,
   trivial⟩
theorem pl_7 : plainFor (⟨"java/util/ArrayList", "add", "(Ljava/lang/Object;)Z"⟩ : MethodName) = true := by first | exact plainFor_of_name (by first | (simp [plainName, overriddenIn]; done) | decide +kernel) | decide +kernel
theorem G_7 (l : Launch) (Z : State) (a0 : Array Value) (hw : ∀ d ∈ tables_1, d.before a0 Z = true) : mmGood CT l Z (⟨"java/util/ArrayList", "add", "(Ljava/lang/Object;)Z"⟩ : MethodName) jdk_38_method_25_code 2 (some .boolean) 4 56 B_7 := mmGood_of 1000 pl_7 hI_7 (CT_ok l Z a0 hw) (T_7 l Z a0 hw)
theorem pd_13 : parseMethodDescriptor "()B" = some ⟨[], some .byte⟩ := by decide +kernel
/-- body 13: String.coder, by hand: COMPACT_STRINGS isn't 0 -/
def F_13 : MKall := fun as H => match as with
  | [.ref a] => (match mmNth H a with | some (.inl (1, [_, .int c])) => some (some (.int (nar .byte c)), H, 0) | _ => none)
  | _ => none
theorem F_13_inv {as : List Value} {H H' : MHeap} {v : Option Value} {ds : Nat} (h : F_13 as H = some (v, H', ds)) : ∃ (a : Nat) (b : Value) (c : Int32), as = [.ref a] ∧ H[a]? = some (.inl (1, [b, .int c])) ∧ v = some (.int (nar .byte c)) ∧ H' = H ∧ ds = 0 := by
  unfold F_13 at h
  split at h
  · rename_i a
    split at h
    · rename_i b c hq
      cases h
      rw [mmNth_eq] at hq
      exact ⟨a, b, c, rfl, hq, rfl, rfl, rfl⟩
    · cases h
  · cases h
theorem cod_d0 : decode jdk_42_method_152_code 0 = .ok (.getstatic 38, 3) := by decide +kernel
theorem cod_d3 : decode jdk_42_method_152_code 3 = .ok (.ifCond .eq 10, 3) := by decide +kernel
theorem cod_d6 : decode jdk_42_method_152_code 6 = .ok (.aload_n 0, 1) := by decide +kernel
theorem cod_d7 : decode jdk_42_method_152_code 7 = .ok (.getfield 15, 3) := by decide +kernel
theorem cod_d10 : decode jdk_42_method_152_code 10 = .ok (.goto 4, 3) := by decide +kernel
theorem cod_d14 : decode jdk_42_method_152_code 14 = .ok (.ireturn, 1) := by decide +kernel
theorem cod_pl : plainFor (⟨"java/lang/String", "coder", "()B"⟩ : MethodName) = true := by first | exact plainFor_of_name (by first | (simp [plainName, overriddenIn]; done) | decide +kernel) | decide +kernel
theorem G_13 (l : Launch) (Z : State) (a0 : Array Value) (hw : ∀ d ∈ tables_1, d.before a0 Z = true) : mmGood CT l Z (⟨"java/lang/String", "coder", "()B"⟩ : MethodName) jdk_42_method_152_code 1 (some .byte) 0 0 F_13 := by
  refine ⟨fun as H v H' ds h => by obtain ⟨a, b, c, -, -, -, rfl, -⟩ := F_13_inv h; exact Nat.le_refl _, ?_⟩
  intro n0 N0 h0 H H' as v ds hN hK rel
  obtain ⟨a, b, cc, rfl, hH, rfl, rfl, rfl⟩ := F_13_inv hK
  refine MetFree.of_bodySF cod_pl hisR ?_
  intro p e s m args below meth c s₁ Bd hml0 hP hK0
  obtain ⟨rfl, hZ, hh⟩ := hP
  have hx := Bd.exec
  have hby := Bd.bytes
  have hown : s.vm.findClass "java/lang/String" = some m.cls := findClass_of_methodNamed Bd.named
  have X0 := Stand.of_body Bd
  have e0 : s₁.heap = h0 := by rw [← hh, Bd.state]; rfl
  obtain ⟨z, hz, F⟩ := rel.2.2.2.2
  obtain ⟨C', n', fs', r1, r2, r3, r4⟩ := rel.2.1 a _ hH
  cases r1
  obtain ⟨T1, X1, e1, st1⟩ := getS (host := "") X0 hx hZ hown (hw _ (List.mem_of_getElem? (i := 107) rfl)) Via.refl e0 F (g := mkF m 0 #[.val (.ref (n0 a))] []) rfl (by rw [hby]; exact cod_d0)
  obtain ⟨T2, X2, e2, st2⟩ := getF X1 hx hZ hown (host := "") (Or.inl (hw _ (List.mem_of_getElem? (i := 108) rfl))) Via.refl e1 (r4 1 _ _ _ _ _ rfl rfl) (g := mkF m 7 #[.val (.ref (n0 a))] [.ref (n0 a)]) rfl rfl (by rw [hby]; exact cod_d7)
  obtain ⟨fs, hr, hrun, hended, hW, hsame⟩ := X2.leave (v := some (.int (nar .byte cc))) (fun q => by rw [Bd.returns] at q; cases q) Bd.notSynchronized
  refine ⟨_, _, ?_, hrun, hended, _, [], rfl, ⟨rfl, Fr.nil _, ?_⟩, ⟨_, rfl⟩, hW, hsame.mono (Nat.zero_le _) (Nat.zero_le _)⟩
  · refine castTop (show entryFrame m #[.ref (n0 a)] 1 = mkF m 0 #[.val (.ref (n0 a))] [] by first | (simp [entryFrame, mkF, argsToLocals, Value.category]; done) | rfl) ?_
    refine st1 _ ?_
    refine XS.ifNo X1.here hx rfl (by rw [hby]; exact cod_d3) rfl (XT.i0_eq_f hz) ?_
    refine XS.aloadN X1.here hx rfl (by rw [hby]; exact cod_d6) rfl rfl ?_
    refine st2 _ ?_
    refine XS.goto X2.here hx rfl rfl (by rw [hby]; exact cod_d10) (show (0 : Int) ≤ ((10 : Nat) : Int) + 4 by decide) rfl ?_
    exact retN X2 hx (t := .byte) Bd.returns (by simp) (by rw [hby]; exact cod_d14) hr
  · show mmRel CT Z n0 T2.heap H'
    rw [e2]; exact rel

/-- body 12: String.length -/
def I_12 : Nat → Option Instr := mmCut 11 fun pc => (bif Nat.ble pc 4 then (bif Nat.ble pc 0 then (bif Nat.beq pc 0 then some (.aload_n 0) else none) else (bif Nat.ble pc 1 then (bif Nat.beq pc 1 then some (.getfield 9) else none) else (bif Nat.beq pc 4 then some (.arraylength) else none))) else (bif Nat.ble pc 6 then (bif Nat.ble pc 5 then (bif Nat.beq pc 5 then some (.aload_n 0) else none) else (bif Nat.beq pc 6 then some (.invokevirtual 335) else none)) else (bif Nat.ble pc 9 then (bif Nat.beq pc 9 then some (.ishr) else none) else (bif Nat.beq pc 10 then some (.ireturn) else none))))
def K_12 : MTab := ([], [(9, (1, 0))], [], [], ([], [], [], []), [], [], [(335, (1, some 1, 1, F_13))], [])
abbrev B_12 : MKall := mmBody K_12 I_12 (some .int) 1 1000
theorem chk_12 : mmChk jdk_42_method_54_code I_12 11 = true := by decide +kernel
theorem hI_12 : ∀ pc i, I_12 pc = some i → decode jdk_42_method_54_code pc = .ok (i, mmLen i) := mmCut_ok chk_12
theorem pd_12 : parseMethodDescriptor "()I" = some ⟨[], some .int⟩ := by decide +kernel
theorem T_12 (l : Launch) (Z : State) (a0 : Array Value) (hw : ∀ d ∈ tables_1, d.before a0 Z = true) (ce sl : Nat) : mmTabOk CT l Z a0 "java/lang/String" "length" ({ frames := 1, cells := ce, slots := sl, locals := 13 } : Room) K_12 :=
  ⟨trivial,
   ⟨⟨_, _, _, _, _, _, _, rfl, rfl, _, (hw _ (List.mem_of_getElem? (i := 101) rfl)), Via.refl⟩, trivial⟩,
   trivial,
   trivial,
   ⟨trivial, trivial, trivial, trivial⟩,
   trivial,
   trivial,
   ⟨⟨fun _ => mmCallV rfl (hw _ (List.mem_of_getElem? (i := 102) rfl)) (hw _ (List.mem_of_getElem? (i := 103) rfl)) (hw _ (List.mem_of_getElem? (i := 105) rfl)) (hw _ (List.mem_of_getElem? (i := 104) rfl)) (hw _ (List.mem_of_getElem? (i := 11) rfl)) (hw _ (List.mem_of_getElem? (i := 106) rfl)) (by decide) (G_13 l Z a0 hw) (Nat.le_of_ble_eq_true rfl) (Nat.le_of_ble_eq_true rfl) pd_13 rfl, fun i h => absurd h (by show ¬ 335 = i + 100000; omega)⟩, trivial⟩,
   trivial⟩
theorem pl_12 : plainFor (⟨"java/lang/String", "length", "()I"⟩ : MethodName) = true := by first | exact plainFor_of_name (by first | (simp [plainName, overriddenIn]; done) | decide +kernel) | decide +kernel
theorem G_12 (l : Launch) (Z : State) (a0 : Array Value) (hw : ∀ d ∈ tables_1, d.before a0 Z = true) : mmGood CT l Z (⟨"java/lang/String", "length", "()I"⟩ : MethodName) jdk_42_method_54_code 1 (some .int) 1 13 B_12 := mmGood_of 1000 pl_12 hI_12 (CT_ok l Z a0 hw) (T_12 l Z a0 hw)
/-- body 14: Table.widen -/
def I_14 : Nat → Option Instr := mmCut 17 fun pc => (bif Nat.ble pc 6 then (bif Nat.ble pc 1 then (bif Nat.ble pc 0 then (bif Nat.beq pc 0 then some (.aload_n 0) else none) else (bif Nat.beq pc 1 then some (.getfield 16) else none)) else (bif Nat.ble pc 4 then (bif Nat.beq pc 4 then some (.iload_n 1) else none) else (bif Nat.ble pc 5 then (bif Nat.beq pc 5 then some (.aload_n 0) else none) else (bif Nat.beq pc 6 then some (.getfield 16) else none)))) else (bif Nat.ble pc 11 then (bif Nat.ble pc 9 then (bif Nat.beq pc 9 then some (.iload_n 1) else none) else (bif Nat.ble pc 10 then (bif Nat.beq pc 10 then some (.iaload) else none) else (bif Nat.beq pc 11 then some (.iload_n 2) else none))) else (bif Nat.ble pc 12 then (bif Nat.beq pc 12 then some (.invokestatic 43) else none) else (bif Nat.ble pc 15 then (bif Nat.beq pc 15 then some (.iastore) else none) else (bif Nat.beq pc 16 then some (.return_) else none)))))
def K_14 : MTab := ([], [(16, (0, 1))], [], [], ([], [], [], []), [], [(43, (2, none, 2, F_11))], [], [])
abbrev B_14 : MKall := mmBody K_14 I_14 none 3 1000
theorem chk_14 : mmChk prog_64_method_4_code I_14 17 = true := by decide +kernel
theorem hI_14 : ∀ pc i, I_14 pc = some i → decode prog_64_method_4_code pc = .ok (i, mmLen i) := mmCut_ok chk_14
theorem pd_14 : parseMethodDescriptor "(II)V" = some ⟨[.int, .int], none⟩ := by decide +kernel
theorem T_14 (l : Launch) (Z : State) (a0 : Array Value) (hw : ∀ d ∈ tables_1, d.before a0 Z = true) (ce sl : Nat) : mmTabOk CT l Z a0 "com/example/charterlens/charterlens/cli/Table" "widen" ({ frames := 1, cells := ce, slots := sl, locals := 15 } : Room) K_14 :=
  ⟨trivial,
   ⟨⟨_, _, _, _, _, _, _, rfl, rfl, _, (hw _ (List.mem_of_getElem? (i := 51) rfl)), Via.refl⟩, trivial⟩,
   trivial,
   trivial,
   ⟨trivial, trivial, trivial, trivial⟩,
   trivial,
   ⟨mmCallS (hw _ (List.mem_of_getElem? (i := 114) rfl)) (hw _ (List.mem_of_getElem? (i := 90) rfl)) (hw _ (List.mem_of_getElem? (i := 91) rfl)) (hw _ (List.mem_of_getElem? (i := 92) rfl)) (by decide) (G_11 l Z a0 hw) (Nat.le_of_ble_eq_true rfl) (Nat.le_of_ble_eq_true rfl) pd_11 rfl, trivial⟩,
   trivial,
   trivial⟩
theorem pl_14 : plainFor (⟨"com/example/charterlens/charterlens/cli/Table", "widen", "(II)V"⟩ : MethodName) = true := by first | exact plainFor_of_name (by first | (simp [plainName, overriddenIn]; done) | decide +kernel) | decide +kernel
theorem G_14 (l : Launch) (Z : State) (a0 : Array Value) (hw : ∀ d ∈ tables_1, d.before a0 Z = true) : mmGood CT l Z (⟨"com/example/charterlens/charterlens/cli/Table", "widen", "(II)V"⟩ : MethodName) prog_64_method_4_code 3 none 1 15 B_14 := mmGood_of 1000 pl_14 hI_14 (CT_ok l Z a0 hw) (T_14 l Z a0 hw)
/-- body 6: Table.add -/
def I_6 : Nat → Option Instr := mmCut 37 fun pc => (bif Nat.ble pc 15 then (bif Nat.ble pc 10 then (bif Nat.ble pc 1 then (bif Nat.ble pc 0 then (bif Nat.beq pc 0 then some (.aload_n 0) else none) else (bif Nat.beq pc 1 then some (.getfield 10) else none)) else (bif Nat.ble pc 4 then (bif Nat.beq pc 4 then some (.aload_n 1) else none) else (bif Nat.ble pc 5 then (bif Nat.beq pc 5 then some (.invokeinterface 28 2) else none) else (bif Nat.beq pc 10 then some (.pop) else none)))) else (bif Nat.ble pc 12 then (bif Nat.ble pc 11 then (bif Nat.beq pc 11 then some (.iconst 0) else none) else (bif Nat.beq pc 12 then some (.istore_n 2) else none)) else (bif Nat.ble pc 13 then (bif Nat.beq pc 13 then some (.iload_n 2) else none) else (bif Nat.ble pc 14 then (bif Nat.beq pc 14 then some (.aload_n 1) else none) else (bif Nat.beq pc 15 then some (.arraylength) else none))))) else (bif Nat.ble pc 22 then (bif Nat.ble pc 19 then (bif Nat.ble pc 16 then (bif Nat.beq pc 16 then some (.if_icmp .ge 20) else none) else (bif Nat.beq pc 19 then some (.aload_n 0) else none)) else (bif Nat.ble pc 20 then (bif Nat.beq pc 20 then some (.iload_n 2) else none) else (bif Nat.ble pc 21 then (bif Nat.beq pc 21 then some (.aload_n 1) else none) else (bif Nat.beq pc 22 then some (.iload_n 2) else none)))) else (bif Nat.ble pc 27 then (bif Nat.ble pc 23 then (bif Nat.beq pc 23 then some (.aaload) else none) else (bif Nat.ble pc 24 then (bif Nat.beq pc 24 then some (.invokevirtual 33) else none) else (bif Nat.beq pc 27 then some (.invokevirtual 39) else none))) else (bif Nat.ble pc 30 then (bif Nat.beq pc 30 then some (.iinc 2 1) else none) else (bif Nat.ble pc 33 then (bif Nat.beq pc 33 then some (.goto (-20)) else none) else (bif Nat.beq pc 36 then some (.return_) else none))))))
def K_6 : MTab := ([], [(10, (0, 0))], [], [], ([], [], [], []), [], [], [(33, (1, some 1, 2, B_12)), (39, (3, some 0, 0, B_14)), (100028, (2, some 2, 0, B_7))], [])
abbrev B_6 : MKall := mmBody K_6 I_6 none 3 1000
theorem chk_6 : mmChk prog_64_method_3_code I_6 37 = true := by decide +kernel
theorem hI_6 : ∀ pc i, I_6 pc = some i → decode prog_64_method_3_code pc = .ok (i, mmLen i) := mmCut_ok chk_6
theorem pd_6 : parseMethodDescriptor "([Ljava/lang/String;)V" = some ⟨[(.array (.object "java/lang/String"))], none⟩ := by decide +kernel
theorem T_6 (l : Launch) (Z : State) (a0 : Array Value) (hw : ∀ d ∈ tables_1, d.before a0 Z = true) (ce sl : Nat) : mmTabOk CT l Z a0 "com/example/charterlens/charterlens/cli/Table" "add" ({ frames := 5, cells := ce, slots := sl, locals := 69 } : Room) K_6 :=
  ⟨trivial,
   ⟨⟨_, _, _, _, _, _, _, rfl, rfl, _, (hw _ (List.mem_of_getElem? (i := 49) rfl)), Via.refl⟩, trivial⟩,
   trivial,
   trivial,
   ⟨trivial, trivial, trivial, trivial⟩,
   trivial,
   trivial,
   ⟨⟨fun _ => mmCallV rfl (hw _ (List.mem_of_getElem? (i := 96) rfl)) (hw _ (List.mem_of_getElem? (i := 97) rfl)) (hw _ (List.mem_of_getElem? (i := 99) rfl)) (hw _ (List.mem_of_getElem? (i := 98) rfl)) (hw _ (List.mem_of_getElem? (i := 11) rfl)) (hw _ (List.mem_of_getElem? (i := 100) rfl)) (by decide) (G_12 l Z a0 hw) (Nat.le_of_ble_eq_true rfl) (Nat.le_of_ble_eq_true rfl) pd_12 rfl, fun i h => absurd h (by show ¬ 33 = i + 100000; omega)⟩, ⟨fun _ => mmCallV rfl (hw _ (List.mem_of_getElem? (i := 109) rfl)) (hw _ (List.mem_of_getElem? (i := 110) rfl)) (hw _ (List.mem_of_getElem? (i := 112) rfl)) (hw _ (List.mem_of_getElem? (i := 111) rfl)) (hw _ (List.mem_of_getElem? (i := 3) rfl)) (hw _ (List.mem_of_getElem? (i := 113) rfl)) (by decide) (G_14 l Z a0 hw) (Nat.le_of_ble_eq_true rfl) (Nat.le_of_ble_eq_true rfl) pd_14 rfl, fun i h => absurd h (by show ¬ 39 = i + 100000; omega)⟩, ⟨fun h => absurd h (by decide), fun i h c => by have h' : 28 + 100000 = i + 100000 := h; obtain rfl : 28 = i := (by omega); exact mmCallF (xi := (⟨"java/util/List", "add", "(Ljava/lang/Object;)Z"⟩ : MethodName)) rfl (hw _ (List.mem_of_getElem? (i := 61) rfl)) (hw _ (List.mem_of_getElem? (i := 62) rfl)) (hw _ (List.mem_of_getElem? (i := 63) rfl)) (hw _ (List.mem_of_getElem? (i := 64) rfl)) (hw _ (List.mem_of_getElem? (i := 66) rfl)) (hw _ (List.mem_of_getElem? (i := 67) rfl)) (hw _ (List.mem_of_getElem? (i := 68) rfl)) (hw _ (List.mem_of_getElem? (i := 65) rfl)) (hw _ (List.mem_of_getElem? (i := 27) rfl)) (hw _ (List.mem_of_getElem? (i := 69) rfl)) (by decide) (G_7 l Z a0 hw) (Nat.le_of_ble_eq_true rfl) (Nat.le_of_ble_eq_true rfl) pd_7 rfl⟩, trivial⟩,
   trivial⟩
theorem pl_6 : plainFor (⟨"com/example/charterlens/charterlens/cli/Table", "add", "([Ljava/lang/String;)V"⟩ : MethodName) = true := by first | exact plainFor_of_name (by first | (simp [plainName, overriddenIn]; done) | decide +kernel) | decide +kernel
theorem G_6 (l : Launch) (Z : State) (a0 : Array Value) (hw : ∀ d ∈ tables_1, d.before a0 Z = true) : mmGood CT l Z (⟨"com/example/charterlens/charterlens/cli/Table", "add", "([Ljava/lang/String;)V"⟩ : MethodName) prog_64_method_3_code 3 none 5 69 B_6 := mmGood_of 1000 pl_6 hI_6 (CT_ok l Z a0 hw) (T_6 l Z a0 hw)
/-- body 2: Table.init -/
def I_2 : Nat → Option Instr := mmCut 37 fun pc => (bif Nat.ble pc 17 then (bif Nat.ble pc 8 then (bif Nat.ble pc 1 then (bif Nat.ble pc 0 then (bif Nat.beq pc 0 then some (.aload_n 0) else none) else (bif Nat.beq pc 1 then some (.invokespecial 1) else none)) else (bif Nat.ble pc 4 then (bif Nat.beq pc 4 then some (.aload_n 0) else none) else (bif Nat.ble pc 5 then (bif Nat.beq pc 5 then some (.new 7) else none) else (bif Nat.beq pc 8 then some (.dup) else none)))) else (bif Nat.ble pc 12 then (bif Nat.ble pc 9 then (bif Nat.beq pc 9 then some (.invokespecial 9) else none) else (bif Nat.beq pc 12 then some (.putfield 10) else none)) else (bif Nat.ble pc 15 then (bif Nat.beq pc 15 then some (.aload_n 0) else none) else (bif Nat.ble pc 16 then (bif Nat.beq pc 16 then some (.aload_n 1) else none) else (bif Nat.beq pc 17 then some (.arraylength) else none))))) else (bif Nat.ble pc 25 then (bif Nat.ble pc 20 then (bif Nat.ble pc 18 then (bif Nat.beq pc 18 then some (.newarray .int) else none) else (bif Nat.beq pc 20 then some (.putfield 16) else none)) else (bif Nat.ble pc 23 then (bif Nat.beq pc 23 then some (.aload_n 0) else none) else (bif Nat.ble pc 24 then (bif Nat.beq pc 24 then some (.aload_n 1) else none) else (bif Nat.beq pc 25 then some (.arraylength) else none)))) else (bif Nat.ble pc 31 then (bif Nat.ble pc 26 then (bif Nat.beq pc 26 then some (.newarray .boolean) else none) else (bif Nat.ble pc 28 then (bif Nat.beq pc 28 then some (.putfield 20) else none) else (bif Nat.beq pc 31 then some (.aload_n 0) else none))) else (bif Nat.ble pc 32 then (bif Nat.beq pc 32 then some (.aload_n 1) else none) else (bif Nat.ble pc 33 then (bif Nat.beq pc 33 then some (.invokevirtual 24) else none) else (bif Nat.beq pc 36 then some (.return_) else none))))))
def K_2 : MTab := ([], [], [(10, (0, 0, (.object "java/util/List"))), (16, (0, 1, (.array .int))), (20, (0, 2, (.array .boolean)))], [(7, (2, 3, [.int 0, .null, .int 0]))], ([.int, .boolean], [], [], []), [(1, 0)], [], [(24, (2, some 0, 0, B_6))], [(9, (1, some 2, 2, B_3))])
abbrev B_2 : MKall := mmBody K_2 I_2 none 2 1000
theorem chk_2 : mmChk prog_64_method_1_code I_2 37 = true := by decide +kernel
theorem hI_2 : ∀ pc i, I_2 pc = some i → decode prog_64_method_1_code pc = .ok (i, mmLen i) := mmCut_ok chk_2
theorem pd_2 : parseMethodDescriptor "([Ljava/lang/String;)V" = some ⟨[(.array (.object "java/lang/String"))], none⟩ := by decide +kernel
theorem T_2 (l : Launch) (Z : State) (a0 : Array Value) (hw : ∀ d ∈ tables_1, d.before a0 Z = true) (ce sl : Nat) : mmTabOk CT l Z a0 "com/example/charterlens/charterlens/cli/Table" "<init>" ({ frames := 6, cells := ce, slots := sl, locals := 83 } : Room) K_2 :=
  ⟨trivial,
   trivial,
   ⟨⟨_, _, _, _, _, _, rfl, rfl, ⟨_, (hw _ (List.mem_of_getElem? (i := 49) rfl)), Via.refl⟩, Or.inr ⟨(hw _ (List.mem_of_getElem? (i := 50) rfl)), rfl, rfl⟩⟩, ⟨_, _, _, _, _, _, rfl, rfl, ⟨_, (hw _ (List.mem_of_getElem? (i := 51) rfl)), Via.refl⟩, Or.inr ⟨(hw _ (List.mem_of_getElem? (i := 52) rfl)), rfl, rfl⟩⟩, ⟨_, _, _, _, _, _, rfl, rfl, ⟨_, (hw _ (List.mem_of_getElem? (i := 54) rfl)), Via.refl⟩, Or.inr ⟨(hw _ (List.mem_of_getElem? (i := 55) rfl)), rfl, rfl⟩⟩, trivial⟩,
   ⟨⟨_, _, rfl, rfl, (hw _ (List.mem_of_getElem? (i := 25) rfl))⟩, trivial⟩,
   ⟨⟨(hw _ (List.mem_of_getElem? (i := 0) rfl)), (hw _ (List.mem_of_getElem? (i := 53) rfl)), trivial⟩, trivial, trivial, trivial⟩,
   ⟨⟨(hw _ (List.mem_of_getElem? (i := 22) rfl)), (hw _ (List.mem_of_getElem? (i := 23) rfl)), (hw _ (List.mem_of_getElem? (i := 24) rfl)), Nat.le_of_ble_eq_true rfl, Nat.le_of_ble_eq_true rfl⟩, trivial⟩,
   trivial,
   ⟨⟨fun _ => mmCallV rfl (hw _ (List.mem_of_getElem? (i := 56) rfl)) (hw _ (List.mem_of_getElem? (i := 57) rfl)) (hw _ (List.mem_of_getElem? (i := 59) rfl)) (hw _ (List.mem_of_getElem? (i := 58) rfl)) (hw _ (List.mem_of_getElem? (i := 3) rfl)) (hw _ (List.mem_of_getElem? (i := 60) rfl)) (by decide) (G_6 l Z a0 hw) (Nat.le_of_ble_eq_true rfl) (Nat.le_of_ble_eq_true rfl) pd_6 rfl, fun i h => absurd h (by show ¬ 24 = i + 100000; omega)⟩, trivial⟩,
   ⟨mmCallI rfl (hw _ (List.mem_of_getElem? (i := 28) rfl)) (hw _ (List.mem_of_getElem? (i := 29) rfl)) (hw _ (List.mem_of_getElem? (i := 27) rfl)) (hw _ (List.mem_of_getElem? (i := 30) rfl)) (by decide) (G_3 l Z a0 hw) (Nat.le_of_ble_eq_true rfl) (Nat.le_of_ble_eq_true rfl) pd_3 rfl, trivial⟩⟩
theorem pl_2 : plainFor (⟨"com/example/charterlens/charterlens/cli/Table", "<init>", "([Ljava/lang/String;)V"⟩ : MethodName) = true := by first | exact plainFor_of_name (by first | (simp [plainName, overriddenIn]; done) | decide +kernel) | decide +kernel
theorem G_2 (l : Launch) (Z : State) (a0 : Array Value) (hw : ∀ d ∈ tables_1, d.before a0 Z = true) : mmGood CT l Z (⟨"com/example/charterlens/charterlens/cli/Table", "<init>", "([Ljava/lang/String;)V"⟩ : MethodName) prog_64_method_1_code 2 none 6 83 B_2 := mmGood_of 1000 pl_2 hI_2 (CT_ok l Z a0 hw) (T_2 l Z a0 hw)
/-- body 15: TableWidenPinLaw.atLeast -/
def I_15 : Nat → Option Instr := mmCut 9 fun pc => (bif Nat.ble pc 2 then (bif Nat.ble pc 0 then (bif Nat.beq pc 0 then some (.iload_n 1) else none) else (bif Nat.ble pc 1 then (bif Nat.beq pc 1 then some (.iload_n 0) else none) else (bif Nat.beq pc 2 then some (.if_icmp .le 5) else none))) else (bif Nat.ble pc 6 then (bif Nat.ble pc 5 then (bif Nat.beq pc 5 then some (.iload_n 1) else none) else (bif Nat.beq pc 6 then some (.ireturn) else none)) else (bif Nat.ble pc 7 then (bif Nat.beq pc 7 then some (.iload_n 0) else none) else (bif Nat.beq pc 8 then some (.ireturn) else none))))
def K_15 : MTab := ([], [], [], [], ([], [], [], []), [], [], [], [])
abbrev B_15 : MKall := mmBody K_15 I_15 (some .int) 2 1000
theorem chk_15 : mmChk method_3_code I_15 9 = true := by decide +kernel
theorem hI_15 : ∀ pc i, I_15 pc = some i → decode method_3_code pc = .ok (i, mmLen i) := mmCut_ok chk_15
theorem pd_15 : parseMethodDescriptor "(II)I" = some ⟨[.int, .int], some .int⟩ := by decide +kernel
theorem T_15 (l : Launch) (Z : State) (a0 : Array Value) (hw : ∀ d ∈ tables_1, d.before a0 Z = true) (ce sl : Nat) : mmTabOk CT l Z a0 "com/example/charterlens/charterlens/cli/TableWidenPinLaw" "atLeast" ({ frames := 0, cells := ce, slots := sl, locals := 0 } : Room) K_15 :=
  ⟨trivial,
   trivial,
   trivial,
   trivial,
   ⟨trivial, trivial, trivial, trivial⟩,
   trivial,
   trivial,
   trivial,
   trivial⟩
theorem pl_15 : plainFor (⟨"com/example/charterlens/charterlens/cli/TableWidenPinLaw", "atLeast", "(II)I"⟩ : MethodName) = true := by first | exact plainFor_of_name (by first | (simp [plainName, overriddenIn]; done) | decide +kernel) | decide +kernel
theorem G_15b (l : Launch) (Z : State) (a0 : Array Value) (hw : ∀ d ∈ tables_1, d.before a0 Z = true) : mmGood CT l Z (⟨"com/example/charterlens/charterlens/cli/TableWidenPinLaw", "atLeast", "(II)I"⟩ : MethodName) method_3_code 2 (some .int) 0 0 B_15 := mmGood_of 1000 pl_15 hI_15 (CT_ok l Z a0 hw) (T_15 l Z a0 hw)
def F_15 : MKall := fun as H => match as with
  | [.int a, .int b] => some (some (.int (own_atl a b)), H, 0)
  | _ => none
theorem F_15_ok : ∀ as H r, F_15 as H = some r → B_15 as H = some r := fun as H r h => by
  unfold F_15 at h
  split at h
  · rename_i a b
    cases h
    refine mmB_of rfl ?_
    show mmW K_15 I_15 (some .int) 1000 0 [.val (.int a), .val (.int b)] [] H 0 _
    refine mmW_steps (k := 3) (n := 997) (pc' := (if if_icmp.holds .le b a = true then 7 else 5)) (L' := [.val (.int a), .val (.int b)]) (S' := []) (H' := H) (sl' := 0) rfl ?_
    by_cases hc1 : a < b
    · refine mmW_f (XT.ii_le_f (hc1)) ?_
      refine mmW_steps (k := 1) (n := 996) (pc' := 6) (L' := [.val (.int a), .val (.int b)]) (S' := [.int b]) (H' := H) (sl' := 0) rfl ?_
      exact mmW_ret (n := 995) (i := .ireturn) rfl rfl ⟨by unfold own_atl; rw [if_pos hc1]; try rfl, rfl, rfl⟩
    · refine mmW_t (XT.ii_le_t (hc1)) ?_
      refine mmW_steps (k := 1) (n := 996) (pc' := 8) (L' := [.val (.int a), .val (.int b)]) (S' := [.int a]) (H' := H) (sl' := 0) rfl ?_
      exact mmW_ret (n := 995) (i := .ireturn) rfl rfl ⟨by unfold own_atl; rw [if_neg hc1]; try rfl, rfl, rfl⟩
  · cases h

theorem G_15 (l : Launch) (Z : State) (a0 : Array Value) (hw : ∀ d ∈ tables_1, d.before a0 Z = true) : mmGood CT l Z (⟨"com/example/charterlens/charterlens/cli/TableWidenPinLaw", "atLeast", "(II)I"⟩ : MethodName) method_3_code 2 (some .int) 0 0 F_15 := mmGood_sub F_15_ok (G_15b l Z a0 hw)
/-- body 16: Table.width -/
def I_16 : Nat → Option Instr := mmCut 7 fun pc => (bif Nat.ble pc 1 then (bif Nat.ble pc 0 then (bif Nat.beq pc 0 then some (.aload_n 0) else none) else (bif Nat.beq pc 1 then some (.getfield 16) else none)) else (bif Nat.ble pc 4 then (bif Nat.beq pc 4 then some (.iload_n 1) else none) else (bif Nat.ble pc 5 then (bif Nat.beq pc 5 then some (.iaload) else none) else (bif Nat.beq pc 6 then some (.ireturn) else none))))
def K_16 : MTab := ([], [(16, (0, 1))], [], [], ([], [], [], []), [], [], [], [])
abbrev B_16 : MKall := mmBody K_16 I_16 (some .int) 2 1000
theorem chk_16 : mmChk prog_64_method_5_code I_16 7 = true := by decide +kernel
theorem hI_16 : ∀ pc i, I_16 pc = some i → decode prog_64_method_5_code pc = .ok (i, mmLen i) := mmCut_ok chk_16
theorem pd_16 : parseMethodDescriptor "(I)I" = some ⟨[.int], some .int⟩ := by decide +kernel
theorem T_16 (l : Launch) (Z : State) (a0 : Array Value) (hw : ∀ d ∈ tables_1, d.before a0 Z = true) (ce sl : Nat) : mmTabOk CT l Z a0 "com/example/charterlens/charterlens/cli/Table" "width" ({ frames := 0, cells := ce, slots := sl, locals := 0 } : Room) K_16 :=
  ⟨trivial,
   ⟨⟨_, _, _, _, _, _, _, rfl, rfl, _, (hw _ (List.mem_of_getElem? (i := 51) rfl)), Via.refl⟩, trivial⟩,
   trivial,
   trivial,
   ⟨trivial, trivial, trivial, trivial⟩,
   trivial,
   trivial,
   trivial,
   trivial⟩
theorem pl_16 : plainFor (⟨"com/example/charterlens/charterlens/cli/Table", "width", "(I)I"⟩ : MethodName) = true := by first | exact plainFor_of_name (by first | (simp [plainName, overriddenIn]; done) | decide +kernel) | decide +kernel
theorem G_16 (l : Launch) (Z : State) (a0 : Array Value) (hw : ∀ d ∈ tables_1, d.before a0 Z = true) : mmGood CT l Z (⟨"com/example/charterlens/charterlens/cli/Table", "width", "(I)I"⟩ : MethodName) prog_64_method_5_code 2 (some .int) 0 0 B_16 := mmGood_of 1000 pl_16 hI_16 (CT_ok l Z a0 hw) (T_16 l Z a0 hw)
/-- body 0: TableWidenPinLaw.law -/
def I_0 : Nat → Option Instr := mmCut 243 fun pc => (bif Nat.ble pc 106 then (bif Nat.ble pc 47 then (bif Nat.ble pc 20 then (bif Nat.ble pc 10 then (bif Nat.ble pc 5 then (bif Nat.ble pc 1 then (bif Nat.ble pc 0 then (bif Nat.beq pc 0 then some (.iconst 3) else none) else (bif Nat.beq pc 1 then some (.newarray .int) else none)) else (bif Nat.ble pc 3 then (bif Nat.beq pc 3 then some (.astore 5) else none) else (bif Nat.beq pc 5 then some (.aload 5) else none))) else (bif Nat.ble pc 8 then (bif Nat.ble pc 7 then (bif Nat.beq pc 7 then some (.iconst 0) else none) else (bif Nat.beq pc 8 then some (.iload_n 0) else none)) else (bif Nat.ble pc 9 then (bif Nat.beq pc 9 then some (.iconst 3) else none) else (bif Nat.beq pc 10 then some (.iand) else none)))) else (bif Nat.ble pc 15 then (bif Nat.ble pc 12 then (bif Nat.ble pc 11 then (bif Nat.beq pc 11 then some (.iastore) else none) else (bif Nat.beq pc 12 then some (.aload 5) else none)) else (bif Nat.ble pc 14 then (bif Nat.beq pc 14 then some (.iconst 1) else none) else (bif Nat.beq pc 15 then some (.iload_n 0) else none))) else (bif Nat.ble pc 17 then (bif Nat.ble pc 16 then (bif Nat.beq pc 16 then some (.iconst 2) else none) else (bif Nat.beq pc 17 then some (.iushr) else none)) else (bif Nat.ble pc 18 then (bif Nat.beq pc 18 then some (.iconst 3) else none) else (bif Nat.ble pc 19 then (bif Nat.beq pc 19 then some (.iand) else none) else (bif Nat.beq pc 20 then some (.iastore) else none)))))) else (bif Nat.ble pc 30 then (bif Nat.ble pc 25 then (bif Nat.ble pc 23 then (bif Nat.ble pc 21 then (bif Nat.beq pc 21 then some (.aload 5) else none) else (bif Nat.beq pc 23 then some (.iconst 2) else none)) else (bif Nat.ble pc 24 then (bif Nat.beq pc 24 then some (.iload_n 0) else none) else (bif Nat.beq pc 25 then some (.iconst 4) else none))) else (bif Nat.ble pc 27 then (bif Nat.ble pc 26 then (bif Nat.beq pc 26 then some (.iushr) else none) else (bif Nat.beq pc 27 then some (.iconst 3) else none)) else (bif Nat.ble pc 28 then (bif Nat.beq pc 28 then some (.iand) else none) else (bif Nat.ble pc 29 then (bif Nat.beq pc 29 then some (.iastore) else none) else (bif Nat.beq pc 30 then some (.new 15) else none))))) else (bif Nat.ble pc 38 then (bif Nat.ble pc 34 then (bif Nat.ble pc 33 then (bif Nat.beq pc 33 then some (.dup) else none) else (bif Nat.beq pc 34 then some (.iconst 3) else none)) else (bif Nat.ble pc 35 then (bif Nat.beq pc 35 then some (.anewarray 17) else none) else (bif Nat.beq pc 38 then some (.dup) else none))) else (bif Nat.ble pc 40 then (bif Nat.ble pc 39 then (bif Nat.beq pc 39 then some (.iconst 0) else none) else (bif Nat.beq pc 40 then some (.aload 5) else none)) else (bif Nat.ble pc 42 then (bif Nat.beq pc 42 then some (.iconst 0) else none) else (bif Nat.ble pc 43 then (bif Nat.beq pc 43 then some (.iaload) else none) else (bif Nat.beq pc 47 then some (.aastore) else none))))))) else (bif Nat.ble pc 77 then (bif Nat.ble pc 60 then (bif Nat.ble pc 52 then (bif Nat.ble pc 49 then (bif Nat.ble pc 48 then (bif Nat.beq pc 48 then some (.dup) else none) else (bif Nat.beq pc 49 then some (.iconst 1) else none)) else (bif Nat.ble pc 50 then (bif Nat.beq pc 50 then some (.aload 5) else none) else (bif Nat.beq pc 52 then some (.iconst 1) else none))) else (bif Nat.ble pc 57 then (bif Nat.ble pc 53 then (bif Nat.beq pc 53 then some (.iaload) else none) else (bif Nat.beq pc 57 then some (.aastore) else none)) else (bif Nat.ble pc 58 then (bif Nat.beq pc 58 then some (.dup) else none) else (bif Nat.ble pc 59 then (bif Nat.beq pc 59 then some (.iconst 2) else none) else (bif Nat.beq pc 60 then some (.aload 5) else none))))) else (bif Nat.ble pc 68 then (bif Nat.ble pc 63 then (bif Nat.ble pc 62 then (bif Nat.beq pc 62 then some (.iconst 2) else none) else (bif Nat.beq pc 63 then some (.iaload) else none)) else (bif Nat.ble pc 67 then (bif Nat.beq pc 67 then some (.aastore) else none) else (bif Nat.beq pc 68 then some (.invokespecial 25) else none))) else (bif Nat.ble pc 73 then (bif Nat.ble pc 71 then (bif Nat.beq pc 71 then some (.astore 6) else none) else (bif Nat.beq pc 73 then some (.iload_n 1) else none)) else (bif Nat.ble pc 74 then (bif Nat.beq pc 74 then some (.ldc 28) else none) else (bif Nat.ble pc 76 then (bif Nat.beq pc 76 then some (.iand) else none) else (bif Nat.beq pc 77 then some (.iconst 3) else none)))))) else (bif Nat.ble pc 89 then (bif Nat.ble pc 82 then (bif Nat.ble pc 79 then (bif Nat.ble pc 78 then (bif Nat.beq pc 78 then some (.irem) else none) else (bif Nat.beq pc 79 then some (.istore 7) else none)) else (bif Nat.ble pc 81 then (bif Nat.beq pc 81 then some (.iload_n 3) else none) else (bif Nat.beq pc 82 then some (.ldc 28) else none))) else (bif Nat.ble pc 85 then (bif Nat.ble pc 84 then (bif Nat.beq pc 84 then some (.iand) else none) else (bif Nat.beq pc 85 then some (.iconst 3) else none)) else (bif Nat.ble pc 86 then (bif Nat.beq pc 86 then some (.irem) else none) else (bif Nat.ble pc 87 then (bif Nat.beq pc 87 then some (.istore 8) else none) else (bif Nat.beq pc 89 then some (.aload 6) else none))))) else (bif Nat.ble pc 97 then (bif Nat.ble pc 93 then (bif Nat.ble pc 91 then (bif Nat.beq pc 91 then some (.iload 7) else none) else (bif Nat.beq pc 93 then some (.iload_n 2) else none)) else (bif Nat.ble pc 94 then (bif Nat.beq pc 94 then some (.invokevirtual 29) else none) else (bif Nat.beq pc 97 then some (.aload 5) else none))) else (bif Nat.ble pc 101 then (bif Nat.ble pc 99 then (bif Nat.beq pc 99 then some (.iload 7) else none) else (bif Nat.beq pc 101 then some (.aload 5) else none)) else (bif Nat.ble pc 103 then (bif Nat.beq pc 103 then some (.iload 7) else none) else (bif Nat.ble pc 105 then (bif Nat.beq pc 105 then some (.iaload) else none) else (bif Nat.beq pc 106 then some (.iload_n 2) else none)))))))) else (bif Nat.ble pc 174 then (bif Nat.ble pc 139 then (bif Nat.ble pc 121 then (bif Nat.ble pc 113 then (bif Nat.ble pc 110 then (bif Nat.ble pc 107 then (bif Nat.beq pc 107 then some (.invokestatic 33) else none) else (bif Nat.beq pc 110 then some (.iastore) else none)) else (bif Nat.ble pc 111 then (bif Nat.beq pc 111 then some (.aload 6) else none) else (bif Nat.beq pc 113 then some (.iconst 0) else none))) else (bif Nat.ble pc 117 then (bif Nat.ble pc 114 then (bif Nat.beq pc 114 then some (.invokevirtual 37) else none) else (bif Nat.beq pc 117 then some (.aload 5) else none)) else (bif Nat.ble pc 119 then (bif Nat.beq pc 119 then some (.iconst 0) else none) else (bif Nat.ble pc 120 then (bif Nat.beq pc 120 then some (.iaload) else none) else (bif Nat.beq pc 121 then some (.if_icmp .ne 33) else none))))) else (bif Nat.ble pc 130 then (bif Nat.ble pc 126 then (bif Nat.ble pc 124 then (bif Nat.beq pc 124 then some (.aload 6) else none) else (bif Nat.beq pc 126 then some (.iconst 1) else none)) else (bif Nat.ble pc 127 then (bif Nat.beq pc 127 then some (.invokevirtual 37) else none) else (bif Nat.beq pc 130 then some (.aload 5) else none))) else (bif Nat.ble pc 133 then (bif Nat.ble pc 132 then (bif Nat.beq pc 132 then some (.iconst 1) else none) else (bif Nat.beq pc 133 then some (.iaload) else none)) else (bif Nat.ble pc 134 then (bif Nat.beq pc 134 then some (.if_icmp .ne 20) else none) else (bif Nat.ble pc 137 then (bif Nat.beq pc 137 then some (.aload 6) else none) else (bif Nat.beq pc 139 then some (.iconst 2) else none)))))) else (bif Nat.ble pc 155 then (bif Nat.ble pc 146 then (bif Nat.ble pc 143 then (bif Nat.ble pc 140 then (bif Nat.beq pc 140 then some (.invokevirtual 37) else none) else (bif Nat.beq pc 143 then some (.aload 5) else none)) else (bif Nat.ble pc 145 then (bif Nat.beq pc 145 then some (.iconst 2) else none) else (bif Nat.beq pc 146 then some (.iaload) else none))) else (bif Nat.ble pc 150 then (bif Nat.ble pc 147 then (bif Nat.beq pc 147 then some (.if_icmp .ne 7) else none) else (bif Nat.beq pc 150 then some (.iconst 1) else none)) else (bif Nat.ble pc 151 then (bif Nat.beq pc 151 then some (.goto 4) else none) else (bif Nat.ble pc 154 then (bif Nat.beq pc 154 then some (.iconst 0) else none) else (bif Nat.beq pc 155 then some (.istore 9) else none))))) else (bif Nat.ble pc 163 then (bif Nat.ble pc 159 then (bif Nat.ble pc 157 then (bif Nat.beq pc 157 then some (.aload 6) else none) else (bif Nat.beq pc 159 then some (.iload 8) else none)) else (bif Nat.ble pc 161 then (bif Nat.beq pc 161 then some (.iload 4) else none) else (bif Nat.beq pc 163 then some (.invokevirtual 29) else none))) else (bif Nat.ble pc 168 then (bif Nat.ble pc 166 then (bif Nat.beq pc 166 then some (.aload 5) else none) else (bif Nat.beq pc 168 then some (.iload 8) else none)) else (bif Nat.ble pc 170 then (bif Nat.beq pc 170 then some (.aload 5) else none) else (bif Nat.ble pc 172 then (bif Nat.beq pc 172 then some (.iload 8) else none) else (bif Nat.beq pc 174 then some (.iaload) else none))))))) else (bif Nat.ble pc 207 then (bif Nat.ble pc 190 then (bif Nat.ble pc 181 then (bif Nat.ble pc 177 then (bif Nat.ble pc 175 then (bif Nat.beq pc 175 then some (.iload 4) else none) else (bif Nat.beq pc 177 then some (.invokestatic 33) else none)) else (bif Nat.ble pc 180 then (bif Nat.beq pc 180 then some (.iastore) else none) else (bif Nat.beq pc 181 then some (.aload 6) else none))) else (bif Nat.ble pc 184 then (bif Nat.ble pc 183 then (bif Nat.beq pc 183 then some (.iconst 0) else none) else (bif Nat.beq pc 184 then some (.invokevirtual 37) else none)) else (bif Nat.ble pc 187 then (bif Nat.beq pc 187 then some (.aload 5) else none) else (bif Nat.ble pc 189 then (bif Nat.beq pc 189 then some (.iconst 0) else none) else (bif Nat.beq pc 190 then some (.iaload) else none))))) else (bif Nat.ble pc 197 then (bif Nat.ble pc 194 then (bif Nat.ble pc 191 then (bif Nat.beq pc 191 then some (.if_icmp .ne 33) else none) else (bif Nat.beq pc 194 then some (.aload 6) else none)) else (bif Nat.ble pc 196 then (bif Nat.beq pc 196 then some (.iconst 1) else none) else (bif Nat.beq pc 197 then some (.invokevirtual 37) else none))) else (bif Nat.ble pc 202 then (bif Nat.ble pc 200 then (bif Nat.beq pc 200 then some (.aload 5) else none) else (bif Nat.beq pc 202 then some (.iconst 1) else none)) else (bif Nat.ble pc 203 then (bif Nat.beq pc 203 then some (.iaload) else none) else (bif Nat.ble pc 204 then (bif Nat.beq pc 204 then some (.if_icmp .ne 20) else none) else (bif Nat.beq pc 207 then some (.aload 6) else none)))))) else (bif Nat.ble pc 224 then (bif Nat.ble pc 215 then (bif Nat.ble pc 210 then (bif Nat.ble pc 209 then (bif Nat.beq pc 209 then some (.iconst 2) else none) else (bif Nat.beq pc 210 then some (.invokevirtual 37) else none)) else (bif Nat.ble pc 213 then (bif Nat.beq pc 213 then some (.aload 5) else none) else (bif Nat.beq pc 215 then some (.iconst 2) else none))) else (bif Nat.ble pc 217 then (bif Nat.ble pc 216 then (bif Nat.beq pc 216 then some (.iaload) else none) else (bif Nat.beq pc 217 then some (.if_icmp .ne 7) else none)) else (bif Nat.ble pc 220 then (bif Nat.beq pc 220 then some (.iconst 1) else none) else (bif Nat.ble pc 221 then (bif Nat.beq pc 221 then some (.goto 4) else none) else (bif Nat.beq pc 224 then some (.iconst 0) else none))))) else (bif Nat.ble pc 232 then (bif Nat.ble pc 227 then (bif Nat.ble pc 225 then (bif Nat.beq pc 225 then some (.istore 10) else none) else (bif Nat.beq pc 227 then some (.iload 9) else none)) else (bif Nat.ble pc 229 then (bif Nat.beq pc 229 then some (.ifCond .eq 12) else none) else (bif Nat.beq pc 232 then some (.iload 10) else none))) else (bif Nat.ble pc 237 then (bif Nat.ble pc 234 then (bif Nat.beq pc 234 then some (.ifCond .eq 7) else none) else (bif Nat.beq pc 237 then some (.iconst 1) else none)) else (bif Nat.ble pc 238 then (bif Nat.beq pc 238 then some (.goto 4) else none) else (bif Nat.ble pc 241 then (bif Nat.beq pc 241 then some (.iconst 0) else none) else (bif Nat.beq pc 242 then some (.ireturn) else none)))))))))
def K_0 : MTab := ([(28, .int (2147483647))], [], [], [(15, (0, 3, [.null, .null, .null]))], ([.int], [(17, "java/lang/String")], [("java/lang/String", "java/lang/Object")], [(1, "java/lang/String"), (2, "java/util/AbstractList"), (2, "java/util/AbstractCollection"), (2, "java/util/List")]), [], [(33, (2, none, 2, F_15))], [(29, (3, some 0, 0, B_14)), (37, (2, some 0, 0, B_16))], [(25, (2, some 0, 1, B_2))])
abbrev B_0 : MKall := mmBody K_0 I_0 (some .boolean) 11 1000
theorem chk_0 : mmChk code I_0 243 = true := by decide +kernel
theorem hI_0 : ∀ pc i, I_0 pc = some i → decode code pc = .ok (i, mmLen i) := mmCut_ok chk_0
theorem T_0 (l : Launch) (Z : State) (a0 : Array Value) (hw : ∀ d ∈ tables_1, d.before a0 Z = true) : mmTabOk CT l Z a0 "com/example/charterlens/charterlens/cli/TableWidenPinLaw" "law" room_1 K_0 :=
  ⟨⟨⟨fun _ => ⟨fun x h => by cases h; exact (hw _ (List.mem_of_getElem? (i := 115) rfl)), fun x h => by cases h⟩, fun i h => absurd h (by show ¬ 28 = i + 100000; omega)⟩, trivial⟩,
   trivial,
   trivial,
   ⟨⟨_, _, rfl, rfl, (hw _ (List.mem_of_getElem? (i := 1) rfl))⟩, trivial⟩,
   ⟨⟨(hw _ (List.mem_of_getElem? (i := 0) rfl)), trivial⟩, ⟨⟨(hw _ (List.mem_of_getElem? (i := 4) rfl)), (hw _ (List.mem_of_getElem? (i := 5) rfl))⟩, trivial⟩, ⟨(show (Cond.castable ("[" ++ (FieldType.object "java/lang/String").toString) "java/lang/Object").before a0 Z = true by rw [own_nm]; exact (hw _ (List.mem_of_getElem? (i := 95) rfl))), trivial⟩, ⟨⟨_, _, _, rfl, (hw _ (List.mem_of_getElem? (i := 18) rfl))⟩, ⟨_, _, _, rfl, (hw _ (List.mem_of_getElem? (i := 34) rfl))⟩, ⟨_, _, _, rfl, (hw _ (List.mem_of_getElem? (i := 40) rfl))⟩, ⟨_, _, _, rfl, (hw _ (List.mem_of_getElem? (i := 68) rfl))⟩, trivial⟩⟩,
   trivial,
   ⟨mmCallS (hw _ (List.mem_of_getElem? (i := 117) rfl)) (hw _ (List.mem_of_getElem? (i := 118) rfl)) (hw _ (List.mem_of_getElem? (i := 8) rfl)) (hw _ (List.mem_of_getElem? (i := 119) rfl)) (by decide) (G_15 l Z a0 hw) (Nat.le_of_ble_eq_true rfl) (Nat.le_of_ble_eq_true rfl) pd_15 rfl, trivial⟩,
   ⟨⟨fun _ => mmCallV rfl (hw _ (List.mem_of_getElem? (i := 116) rfl)) (hw _ (List.mem_of_getElem? (i := 110) rfl)) (hw _ (List.mem_of_getElem? (i := 112) rfl)) (hw _ (List.mem_of_getElem? (i := 111) rfl)) (hw _ (List.mem_of_getElem? (i := 3) rfl)) (hw _ (List.mem_of_getElem? (i := 113) rfl)) (by decide) (G_14 l Z a0 hw) (Nat.le_of_ble_eq_true rfl) (Nat.le_of_ble_eq_true rfl) pd_14 rfl, fun i h => absurd h (by show ¬ 29 = i + 100000; omega)⟩, ⟨fun _ => mmCallV rfl (hw _ (List.mem_of_getElem? (i := 120) rfl)) (hw _ (List.mem_of_getElem? (i := 121) rfl)) (hw _ (List.mem_of_getElem? (i := 123) rfl)) (hw _ (List.mem_of_getElem? (i := 122) rfl)) (hw _ (List.mem_of_getElem? (i := 3) rfl)) (hw _ (List.mem_of_getElem? (i := 124) rfl)) (by decide) (G_16 l Z a0 hw) (Nat.le_of_ble_eq_true rfl) (Nat.le_of_ble_eq_true rfl) pd_16 rfl, fun i h => absurd h (by show ¬ 37 = i + 100000; omega)⟩, trivial⟩,
   ⟨mmCallI rfl (hw _ (List.mem_of_getElem? (i := 19) rfl)) (hw _ (List.mem_of_getElem? (i := 20) rfl)) (hw _ (List.mem_of_getElem? (i := 3) rfl)) (hw _ (List.mem_of_getElem? (i := 21) rfl)) (by decide) (G_2 l Z a0 hw) (Nat.le_of_ble_eq_true rfl) (Nat.le_of_ble_eq_true rfl) pd_2 rfl, trivial⟩⟩
theorem pl_0 : plainFor x = true := by first | exact plainFor_of_name (by first | (simp [plainName, overriddenIn]; done) | decide +kernel) | decide +kernel
/-- the law's instructions behind its last String constant: none makes a cell -/
def I_0s : Nat → Option Instr := fun pc => bif Nat.ble 68 pc then I_0 pc else none
theorem own_cod {H : MHeap} {s b : Nat} (hs : mmNth H s = some (.inl (1, [.ref b, .int 0]))) : F_13 [.ref s] H = some (some (.int 0), H, 0) := by
  unfold F_13; dsimp only
  rw [hs]; rfl
set_option maxRecDepth 65536 in
set_option maxHeartbeats 40000000 in
theorem own_len {H : MHeap} {s b : Nat} {bs : List Value} {n : Int32} (hs : mmNth H s = some (.inl (1, [.ref b, .int 0]))) (hb : mmNth H b = some (.inr (.byte, bs))) (hn : bs.length.toInt32 = n) : B_12 [.ref s] H = some (some (.int n), H, 0) := by
  refine mmB_of rfl ?_
  show mmW K_12 I_12 (some .int) 1000 0 [.val (.ref s)] [] H 0 _
  refine mmW_steps (k := 1) (n := 999) (pc' := 1) (L' := [.val (.ref s)]) (S' := [.ref s]) (H' := H) (sl' := 0) rfl ?_
  refine mmW_getF (n := 998) rfl rfl (hs) (rfl) ?_
  show mmW K_12 I_12 (some .int) (998) 4 [.val (.ref s)] [.ref b] H 0 _
  refine mmW_alen (n := 997) rfl hb hn ?_
  show mmW K_12 I_12 (some .int) (997) 5 [.val (.ref s)] [.int n] H 0 _
  refine mmW_steps (k := 1) (n := 996) (pc' := 6) (L' := [.val (.ref s)]) (S' := [.ref s, .int n]) (H' := H) (sl' := 0) rfl ?_
  refine mmW_callV (n := 995) rfl rfl rfl (mmRecv_of hs) (Nat.le_of_ble_eq_true rfl) (own_cod hs) ?_
  show mmW K_12 I_12 (some .int) (995) 9 [.val (.ref s)] [.int (0 : Int32), .int n] H 0 _
  refine mmW_steps (k := 1) (n := 994) (pc' := 10) (L' := [.val (.ref s)]) (S' := [.int (n >>> (0 : Int32))]) (H' := H) (sl' := 0) rfl ?_
  rw [own_shr0]
  exact mmW_ret (n := 993) (i := .ireturn) rfl rfl ⟨rfl, rfl, rfl⟩
set_option maxRecDepth 65536 in
set_option maxHeartbeats 40000000 in
theorem own_rest (x0 x1 x2 x3 x4 e0 e1 e2 : Int32) (b0 b1 b2 : List Value) (h0 : b0.length.toInt32 = e0) (h1 : b1.length.toInt32 = e1) (h2 : b2.length.toInt32 = e2) (g0 : ¬ e0 < 0) (g1 : ¬ e1 < 0) (g2 : ¬ e2 < 0) (sl : Nat) : mmW K_0 I_0s (some .boolean) 900 68 [.val (.int x0), .val (.int x1), .val (.int x2), .val (.int x3), .val (.int x4), .val (.ref 7), .unset, .unset, .unset, .unset, .unset] [.ref 9, .ref 8, .ref 8] [.inr ((.object "java/lang/Object"), []), .inl (1, [.ref 4, .int (0 : Int32)]), .inl (1, [.ref 5, .int (0 : Int32)]), .inl (1, [.ref 6, .int (0 : Int32)]), .inr (.byte, b0), .inr (.byte, b1), .inr (.byte, b2), .inr (.int, [.int e0, .int e1, .int e2]), .inl (0, [.null, .null, .null]), .inr ((.object "java/lang/String"), [.ref 1, .ref 2, .ref 3])] sl (fun v H' ds => v = some (.int 1) ∧ H'.length = 14 ∧ ds ≤ sl + 100) := by
  have hB1 : B_2 [.ref 8, .ref 9] [.inr ((.object "java/lang/Object"), []), .inl (1, [.ref 4, .int (0 : Int32)]), .inl (1, [.ref 5, .int (0 : Int32)]), .inl (1, [.ref 6, .int (0 : Int32)]), .inr (.byte, b0), .inr (.byte, b1), .inr (.byte, b2), .inr (.int, [.int e0, .int e1, .int e2]), .inl (0, [.null, .null, .null]), .inr ((.object "java/lang/String"), [.ref 1, .ref 2, .ref 3])] = some (none, [.inr ((.object "java/lang/Object"), []), .inl (1, [.ref 4, .int (0 : Int32)]), .inl (1, [.ref 5, .int (0 : Int32)]), .inl (1, [.ref 6, .int (0 : Int32)]), .inr (.byte, b0), .inr (.byte, b1), .inr (.byte, b2), .inr (.int, [.int e0, .int e1, .int e2]), .inl (0, [.ref 10, .ref 11, .ref 12]), .inr ((.object "java/lang/String"), [.ref 1, .ref 2, .ref 3]), .inl (2, [.int (1 : Int32), .ref 13, .int (1 : Int32)]), .inr (.int, [.int (if (0 : Int32) < e0 then e0 else (0 : Int32)), .int (if (0 : Int32) < e1 then e1 else (0 : Int32)), .int (if (0 : Int32) < e2 then e2 else (0 : Int32))]), .inr (.boolean, [.int (0 : Int32), .int (0 : Int32), .int (0 : Int32)]), .inr ((.object "java/lang/Object"), [.ref 9, .null, .null, .null, .null, .null, .null, .null, .null, .null])], 19) := by
    refine mmB_of rfl ?_
    show mmW K_2 I_2 none 1000 0 [.val (.ref 8), .val (.ref 9)] [] [.inr ((.object "java/lang/Object"), []), .inl (1, [.ref 4, .int (0 : Int32)]), .inl (1, [.ref 5, .int (0 : Int32)]), .inl (1, [.ref 6, .int (0 : Int32)]), .inr (.byte, b0), .inr (.byte, b1), .inr (.byte, b2), .inr (.int, [.int e0, .int e1, .int e2]), .inl (0, [.null, .null, .null]), .inr ((.object "java/lang/String"), [.ref 1, .ref 2, .ref 3])] 0 _
    refine mmW_steps (k := 10) (n := 990) (pc' := 18) (L' := [.val (.ref 8), .val (.ref 9)]) (S' := [.int (3 : Int32), .ref 8]) (H' := [.inr ((.object "java/lang/Object"), []), .inl (1, [.ref 4, .int (0 : Int32)]), .inl (1, [.ref 5, .int (0 : Int32)]), .inl (1, [.ref 6, .int (0 : Int32)]), .inr (.byte, b0), .inr (.byte, b1), .inr (.byte, b2), .inr (.int, [.int e0, .int e1, .int e2]), .inl (0, [.ref 10, .null, .null]), .inr ((.object "java/lang/String"), [.ref 1, .ref 2, .ref 3]), .inl (2, [.int (0 : Int32), .ref 0, .int (0 : Int32)])]) (sl' := 3) rfl ?_
    refine mmW_steps (k := 5) (n := 985) (pc' := 26) (L' := [.val (.ref 8), .val (.ref 9)]) (S' := [.int (3 : Int32), .ref 8]) (H' := [.inr ((.object "java/lang/Object"), []), .inl (1, [.ref 4, .int (0 : Int32)]), .inl (1, [.ref 5, .int (0 : Int32)]), .inl (1, [.ref 6, .int (0 : Int32)]), .inr (.byte, b0), .inr (.byte, b1), .inr (.byte, b2), .inr (.int, [.int e0, .int e1, .int e2]), .inl (0, [.ref 10, .ref 11, .null]), .inr ((.object "java/lang/String"), [.ref 1, .ref 2, .ref 3]), .inl (2, [.int (0 : Int32), .ref 0, .int (0 : Int32)]), .inr (.int, [.int (0 : Int32), .int (0 : Int32), .int (0 : Int32)])]) (sl' := 6) rfl ?_
    refine mmW_steps (k := 4) (n := 981) (pc' := 33) (L' := [.val (.ref 8), .val (.ref 9)]) (S' := [.ref 9, .ref 8]) (H' := [.inr ((.object "java/lang/Object"), []), .inl (1, [.ref 4, .int (0 : Int32)]), .inl (1, [.ref 5, .int (0 : Int32)]), .inl (1, [.ref 6, .int (0 : Int32)]), .inr (.byte, b0), .inr (.byte, b1), .inr (.byte, b2), .inr (.int, [.int e0, .int e1, .int e2]), .inl (0, [.ref 10, .ref 11, .ref 12]), .inr ((.object "java/lang/String"), [.ref 1, .ref 2, .ref 3]), .inl (2, [.int (0 : Int32), .ref 0, .int (0 : Int32)]), .inr (.int, [.int (0 : Int32), .int (0 : Int32), .int (0 : Int32)]), .inr (.boolean, [.int (0 : Int32), .int (0 : Int32), .int (0 : Int32)])]) (sl' := 9) rfl ?_
    have hB1 : B_6 [.ref 8, .ref 9] [.inr ((.object "java/lang/Object"), []), .inl (1, [.ref 4, .int (0 : Int32)]), .inl (1, [.ref 5, .int (0 : Int32)]), .inl (1, [.ref 6, .int (0 : Int32)]), .inr (.byte, b0), .inr (.byte, b1), .inr (.byte, b2), .inr (.int, [.int e0, .int e1, .int e2]), .inl (0, [.ref 10, .ref 11, .ref 12]), .inr ((.object "java/lang/String"), [.ref 1, .ref 2, .ref 3]), .inl (2, [.int (0 : Int32), .ref 0, .int (0 : Int32)]), .inr (.int, [.int (0 : Int32), .int (0 : Int32), .int (0 : Int32)]), .inr (.boolean, [.int (0 : Int32), .int (0 : Int32), .int (0 : Int32)])] = some (none, [.inr ((.object "java/lang/Object"), []), .inl (1, [.ref 4, .int (0 : Int32)]), .inl (1, [.ref 5, .int (0 : Int32)]), .inl (1, [.ref 6, .int (0 : Int32)]), .inr (.byte, b0), .inr (.byte, b1), .inr (.byte, b2), .inr (.int, [.int e0, .int e1, .int e2]), .inl (0, [.ref 10, .ref 11, .ref 12]), .inr ((.object "java/lang/String"), [.ref 1, .ref 2, .ref 3]), .inl (2, [.int (1 : Int32), .ref 13, .int (1 : Int32)]), .inr (.int, [.int (if (0 : Int32) < e0 then e0 else (0 : Int32)), .int (if (0 : Int32) < e1 then e1 else (0 : Int32)), .int (if (0 : Int32) < e2 then e2 else (0 : Int32))]), .inr (.boolean, [.int (0 : Int32), .int (0 : Int32), .int (0 : Int32)]), .inr ((.object "java/lang/Object"), [.ref 9, .null, .null, .null, .null, .null, .null, .null, .null, .null])], 10) := by
      refine mmB_of rfl ?_
      show mmW K_6 I_6 none 1000 0 [.val (.ref 8), .val (.ref 9), .unset] [] [.inr ((.object "java/lang/Object"), []), .inl (1, [.ref 4, .int (0 : Int32)]), .inl (1, [.ref 5, .int (0 : Int32)]), .inl (1, [.ref 6, .int (0 : Int32)]), .inr (.byte, b0), .inr (.byte, b1), .inr (.byte, b2), .inr (.int, [.int e0, .int e1, .int e2]), .inl (0, [.ref 10, .ref 11, .ref 12]), .inr ((.object "java/lang/String"), [.ref 1, .ref 2, .ref 3]), .inl (2, [.int (0 : Int32), .ref 0, .int (0 : Int32)]), .inr (.int, [.int (0 : Int32), .int (0 : Int32), .int (0 : Int32)]), .inr (.boolean, [.int (0 : Int32), .int (0 : Int32), .int (0 : Int32)])] 0 _
      refine mmW_steps (k := 3) (n := 997) (pc' := 5) (L' := [.val (.ref 8), .val (.ref 9), .unset]) (S' := [.ref 9, .ref 10]) (H' := [.inr ((.object "java/lang/Object"), []), .inl (1, [.ref 4, .int (0 : Int32)]), .inl (1, [.ref 5, .int (0 : Int32)]), .inl (1, [.ref 6, .int (0 : Int32)]), .inr (.byte, b0), .inr (.byte, b1), .inr (.byte, b2), .inr (.int, [.int e0, .int e1, .int e2]), .inl (0, [.ref 10, .ref 11, .ref 12]), .inr ((.object "java/lang/String"), [.ref 1, .ref 2, .ref 3]), .inl (2, [.int (0 : Int32), .ref 0, .int (0 : Int32)]), .inr (.int, [.int (0 : Int32), .int (0 : Int32), .int (0 : Int32)]), .inr (.boolean, [.int (0 : Int32), .int (0 : Int32), .int (0 : Int32)])]) (sl' := 0) rfl ?_
      have hB1 : B_7 [.ref 10, .ref 9] [.inr ((.object "java/lang/Object"), []), .inl (1, [.ref 4, .int (0 : Int32)]), .inl (1, [.ref 5, .int (0 : Int32)]), .inl (1, [.ref 6, .int (0 : Int32)]), .inr (.byte, b0), .inr (.byte, b1), .inr (.byte, b2), .inr (.int, [.int e0, .int e1, .int e2]), .inl (0, [.ref 10, .ref 11, .ref 12]), .inr ((.object "java/lang/String"), [.ref 1, .ref 2, .ref 3]), .inl (2, [.int (0 : Int32), .ref 0, .int (0 : Int32)]), .inr (.int, [.int (0 : Int32), .int (0 : Int32), .int (0 : Int32)]), .inr (.boolean, [.int (0 : Int32), .int (0 : Int32), .int (0 : Int32)])] = some (some (.int (1 : Int32)), [.inr ((.object "java/lang/Object"), []), .inl (1, [.ref 4, .int (0 : Int32)]), .inl (1, [.ref 5, .int (0 : Int32)]), .inl (1, [.ref 6, .int (0 : Int32)]), .inr (.byte, b0), .inr (.byte, b1), .inr (.byte, b2), .inr (.int, [.int e0, .int e1, .int e2]), .inl (0, [.ref 10, .ref 11, .ref 12]), .inr ((.object "java/lang/String"), [.ref 1, .ref 2, .ref 3]), .inl (2, [.int (1 : Int32), .ref 13, .int (1 : Int32)]), .inr (.int, [.int (0 : Int32), .int (0 : Int32), .int (0 : Int32)]), .inr (.boolean, [.int (0 : Int32), .int (0 : Int32), .int (0 : Int32)]), .inr ((.object "java/lang/Object"), [.ref 9, .null, .null, .null, .null, .null, .null, .null, .null, .null])], 10) := by
        refine mmB_of rfl ?_
        show mmW K_7 I_7 (some .boolean) 1000 0 [.val (.ref 10), .val (.ref 9)] [] [.inr ((.object "java/lang/Object"), []), .inl (1, [.ref 4, .int (0 : Int32)]), .inl (1, [.ref 5, .int (0 : Int32)]), .inl (1, [.ref 6, .int (0 : Int32)]), .inr (.byte, b0), .inr (.byte, b1), .inr (.byte, b2), .inr (.int, [.int e0, .int e1, .int e2]), .inl (0, [.ref 10, .ref 11, .ref 12]), .inr ((.object "java/lang/String"), [.ref 1, .ref 2, .ref 3]), .inl (2, [.int (0 : Int32), .ref 0, .int (0 : Int32)]), .inr (.int, [.int (0 : Int32), .int (0 : Int32), .int (0 : Int32)]), .inr (.boolean, [.int (0 : Int32), .int (0 : Int32), .int (0 : Int32)])] 0 _
        refine mmW_steps (k := 12) (n := 988) (pc' := 20) (L' := [.val (.ref 10), .val (.ref 9)]) (S' := [.int (0 : Int32), .ref 0, .ref 9, .ref 10]) (H' := [.inr ((.object "java/lang/Object"), []), .inl (1, [.ref 4, .int (0 : Int32)]), .inl (1, [.ref 5, .int (0 : Int32)]), .inl (1, [.ref 6, .int (0 : Int32)]), .inr (.byte, b0), .inr (.byte, b1), .inr (.byte, b2), .inr (.int, [.int e0, .int e1, .int e2]), .inl (0, [.ref 10, .ref 11, .ref 12]), .inr ((.object "java/lang/String"), [.ref 1, .ref 2, .ref 3]), .inl (2, [.int (1 : Int32), .ref 0, .int (0 : Int32)]), .inr (.int, [.int (0 : Int32), .int (0 : Int32), .int (0 : Int32)]), .inr (.boolean, [.int (0 : Int32), .int (0 : Int32), .int (0 : Int32)])]) (sl' := 0) rfl ?_
        have hB1 : B_8 [.ref 10, .ref 9, .ref 0, .int (0 : Int32)] [.inr ((.object "java/lang/Object"), []), .inl (1, [.ref 4, .int (0 : Int32)]), .inl (1, [.ref 5, .int (0 : Int32)]), .inl (1, [.ref 6, .int (0 : Int32)]), .inr (.byte, b0), .inr (.byte, b1), .inr (.byte, b2), .inr (.int, [.int e0, .int e1, .int e2]), .inl (0, [.ref 10, .ref 11, .ref 12]), .inr ((.object "java/lang/String"), [.ref 1, .ref 2, .ref 3]), .inl (2, [.int (1 : Int32), .ref 0, .int (0 : Int32)]), .inr (.int, [.int (0 : Int32), .int (0 : Int32), .int (0 : Int32)]), .inr (.boolean, [.int (0 : Int32), .int (0 : Int32), .int (0 : Int32)])] = some (none, [.inr ((.object "java/lang/Object"), []), .inl (1, [.ref 4, .int (0 : Int32)]), .inl (1, [.ref 5, .int (0 : Int32)]), .inl (1, [.ref 6, .int (0 : Int32)]), .inr (.byte, b0), .inr (.byte, b1), .inr (.byte, b2), .inr (.int, [.int e0, .int e1, .int e2]), .inl (0, [.ref 10, .ref 11, .ref 12]), .inr ((.object "java/lang/String"), [.ref 1, .ref 2, .ref 3]), .inl (2, [.int (1 : Int32), .ref 13, .int (1 : Int32)]), .inr (.int, [.int (0 : Int32), .int (0 : Int32), .int (0 : Int32)]), .inr (.boolean, [.int (0 : Int32), .int (0 : Int32), .int (0 : Int32)]), .inr ((.object "java/lang/Object"), [.ref 9, .null, .null, .null, .null, .null, .null, .null, .null, .null])], 10) := by
          refine mmB_of rfl ?_
          show mmW K_8 I_8 none 1000 0 [.val (.ref 10), .val (.ref 9), .val (.ref 0), .val (.int (0 : Int32))] [] [.inr ((.object "java/lang/Object"), []), .inl (1, [.ref 4, .int (0 : Int32)]), .inl (1, [.ref 5, .int (0 : Int32)]), .inl (1, [.ref 6, .int (0 : Int32)]), .inr (.byte, b0), .inr (.byte, b1), .inr (.byte, b2), .inr (.int, [.int e0, .int e1, .int e2]), .inl (0, [.ref 10, .ref 11, .ref 12]), .inr ((.object "java/lang/String"), [.ref 1, .ref 2, .ref 3]), .inl (2, [.int (1 : Int32), .ref 0, .int (0 : Int32)]), .inr (.int, [.int (0 : Int32), .int (0 : Int32), .int (0 : Int32)]), .inr (.boolean, [.int (0 : Int32), .int (0 : Int32), .int (0 : Int32)])] 0 _
          refine mmW_steps (k := 3) (n := 997) (pc' := 3) (L' := [.val (.ref 10), .val (.ref 9), .val (.ref 0), .val (.int (0 : Int32))]) (S' := [.int (0 : Int32), .int (0 : Int32)]) (H' := [.inr ((.object "java/lang/Object"), []), .inl (1, [.ref 4, .int (0 : Int32)]), .inl (1, [.ref 5, .int (0 : Int32)]), .inl (1, [.ref 6, .int (0 : Int32)]), .inr (.byte, b0), .inr (.byte, b1), .inr (.byte, b2), .inr (.int, [.int e0, .int e1, .int e2]), .inl (0, [.ref 10, .ref 11, .ref 12]), .inr ((.object "java/lang/String"), [.ref 1, .ref 2, .ref 3]), .inl (2, [.int (1 : Int32), .ref 0, .int (0 : Int32)]), .inr (.int, [.int (0 : Int32), .int (0 : Int32), .int (0 : Int32)]), .inr (.boolean, [.int (0 : Int32), .int (0 : Int32), .int (0 : Int32)])]) (sl' := 0) rfl ?_
          refine mmW_steps (k := 2) (n := 995) (pc' := 7) (L' := [.val (.ref 10), .val (.ref 9), .val (.ref 0), .val (.int (0 : Int32))]) (S' := [.ref 10]) (H' := [.inr ((.object "java/lang/Object"), []), .inl (1, [.ref 4, .int (0 : Int32)]), .inl (1, [.ref 5, .int (0 : Int32)]), .inl (1, [.ref 6, .int (0 : Int32)]), .inr (.byte, b0), .inr (.byte, b1), .inr (.byte, b2), .inr (.int, [.int e0, .int e1, .int e2]), .inl (0, [.ref 10, .ref 11, .ref 12]), .inr ((.object "java/lang/String"), [.ref 1, .ref 2, .ref 3]), .inl (2, [.int (1 : Int32), .ref 0, .int (0 : Int32)]), .inr (.int, [.int (0 : Int32), .int (0 : Int32), .int (0 : Int32)]), .inr (.boolean, [.int (0 : Int32), .int (0 : Int32), .int (0 : Int32)])]) (sl' := 0) rfl ?_
          have hB1 : B_9 [.ref 10] [.inr ((.object "java/lang/Object"), []), .inl (1, [.ref 4, .int (0 : Int32)]), .inl (1, [.ref 5, .int (0 : Int32)]), .inl (1, [.ref 6, .int (0 : Int32)]), .inr (.byte, b0), .inr (.byte, b1), .inr (.byte, b2), .inr (.int, [.int e0, .int e1, .int e2]), .inl (0, [.ref 10, .ref 11, .ref 12]), .inr ((.object "java/lang/String"), [.ref 1, .ref 2, .ref 3]), .inl (2, [.int (1 : Int32), .ref 0, .int (0 : Int32)]), .inr (.int, [.int (0 : Int32), .int (0 : Int32), .int (0 : Int32)]), .inr (.boolean, [.int (0 : Int32), .int (0 : Int32), .int (0 : Int32)])] = some (some (.ref 13), [.inr ((.object "java/lang/Object"), []), .inl (1, [.ref 4, .int (0 : Int32)]), .inl (1, [.ref 5, .int (0 : Int32)]), .inl (1, [.ref 6, .int (0 : Int32)]), .inr (.byte, b0), .inr (.byte, b1), .inr (.byte, b2), .inr (.int, [.int e0, .int e1, .int e2]), .inl (0, [.ref 10, .ref 11, .ref 12]), .inr ((.object "java/lang/String"), [.ref 1, .ref 2, .ref 3]), .inl (2, [.int (1 : Int32), .ref 13, .int (0 : Int32)]), .inr (.int, [.int (0 : Int32), .int (0 : Int32), .int (0 : Int32)]), .inr (.boolean, [.int (0 : Int32), .int (0 : Int32), .int (0 : Int32)]), .inr ((.object "java/lang/Object"), [.null, .null, .null, .null, .null, .null, .null, .null, .null, .null])], 10) := by
            refine mmB_of rfl ?_
            show mmW K_9 I_9 (some (.array (.object "java/lang/Object"))) 1000 0 [.val (.ref 10)] [] [.inr ((.object "java/lang/Object"), []), .inl (1, [.ref 4, .int (0 : Int32)]), .inl (1, [.ref 5, .int (0 : Int32)]), .inl (1, [.ref 6, .int (0 : Int32)]), .inr (.byte, b0), .inr (.byte, b1), .inr (.byte, b2), .inr (.int, [.int e0, .int e1, .int e2]), .inl (0, [.ref 10, .ref 11, .ref 12]), .inr ((.object "java/lang/String"), [.ref 1, .ref 2, .ref 3]), .inl (2, [.int (1 : Int32), .ref 0, .int (0 : Int32)]), .inr (.int, [.int (0 : Int32), .int (0 : Int32), .int (0 : Int32)]), .inr (.boolean, [.int (0 : Int32), .int (0 : Int32), .int (0 : Int32)])] 0 _
            refine mmW_steps (k := 5) (n := 995) (pc' := 7) (L' := [.val (.ref 10)]) (S' := [.int (1 : Int32), .ref 10]) (H' := [.inr ((.object "java/lang/Object"), []), .inl (1, [.ref 4, .int (0 : Int32)]), .inl (1, [.ref 5, .int (0 : Int32)]), .inl (1, [.ref 6, .int (0 : Int32)]), .inr (.byte, b0), .inr (.byte, b1), .inr (.byte, b2), .inr (.int, [.int e0, .int e1, .int e2]), .inl (0, [.ref 10, .ref 11, .ref 12]), .inr ((.object "java/lang/String"), [.ref 1, .ref 2, .ref 3]), .inl (2, [.int (1 : Int32), .ref 0, .int (0 : Int32)]), .inr (.int, [.int (0 : Int32), .int (0 : Int32), .int (0 : Int32)]), .inr (.boolean, [.int (0 : Int32), .int (0 : Int32), .int (0 : Int32)])]) (sl' := 0) rfl ?_
            have hB1 : B_10 [.ref 10, .int (1 : Int32)] [.inr ((.object "java/lang/Object"), []), .inl (1, [.ref 4, .int (0 : Int32)]), .inl (1, [.ref 5, .int (0 : Int32)]), .inl (1, [.ref 6, .int (0 : Int32)]), .inr (.byte, b0), .inr (.byte, b1), .inr (.byte, b2), .inr (.int, [.int e0, .int e1, .int e2]), .inl (0, [.ref 10, .ref 11, .ref 12]), .inr ((.object "java/lang/String"), [.ref 1, .ref 2, .ref 3]), .inl (2, [.int (1 : Int32), .ref 0, .int (0 : Int32)]), .inr (.int, [.int (0 : Int32), .int (0 : Int32), .int (0 : Int32)]), .inr (.boolean, [.int (0 : Int32), .int (0 : Int32), .int (0 : Int32)])] = some (some (.ref 13), [.inr ((.object "java/lang/Object"), []), .inl (1, [.ref 4, .int (0 : Int32)]), .inl (1, [.ref 5, .int (0 : Int32)]), .inl (1, [.ref 6, .int (0 : Int32)]), .inr (.byte, b0), .inr (.byte, b1), .inr (.byte, b2), .inr (.int, [.int e0, .int e1, .int e2]), .inl (0, [.ref 10, .ref 11, .ref 12]), .inr ((.object "java/lang/String"), [.ref 1, .ref 2, .ref 3]), .inl (2, [.int (1 : Int32), .ref 13, .int (0 : Int32)]), .inr (.int, [.int (0 : Int32), .int (0 : Int32), .int (0 : Int32)]), .inr (.boolean, [.int (0 : Int32), .int (0 : Int32), .int (0 : Int32)]), .inr ((.object "java/lang/Object"), [.null, .null, .null, .null, .null, .null, .null, .null, .null, .null])], 10) := by
              refine mmB_of rfl ?_
              show mmW K_10 I_10 (some (.array (.object "java/lang/Object"))) 1000 0 [.val (.ref 10), .val (.int (1 : Int32)), .unset, .unset] [] [.inr ((.object "java/lang/Object"), []), .inl (1, [.ref 4, .int (0 : Int32)]), .inl (1, [.ref 5, .int (0 : Int32)]), .inl (1, [.ref 6, .int (0 : Int32)]), .inr (.byte, b0), .inr (.byte, b1), .inr (.byte, b2), .inr (.int, [.int e0, .int e1, .int e2]), .inl (0, [.ref 10, .ref 11, .ref 12]), .inr ((.object "java/lang/String"), [.ref 1, .ref 2, .ref 3]), .inl (2, [.int (1 : Int32), .ref 0, .int (0 : Int32)]), .inr (.int, [.int (0 : Int32), .int (0 : Int32), .int (0 : Int32)]), .inr (.boolean, [.int (0 : Int32), .int (0 : Int32), .int (0 : Int32)])] 0 _
              refine mmW_steps (k := 3) (n := 997) (pc' := 5) (L' := [.val (.ref 10), .val (.int (1 : Int32)), .unset, .unset]) (S' := [.int (0 : Int32)]) (H' := [.inr ((.object "java/lang/Object"), []), .inl (1, [.ref 4, .int (0 : Int32)]), .inl (1, [.ref 5, .int (0 : Int32)]), .inl (1, [.ref 6, .int (0 : Int32)]), .inr (.byte, b0), .inr (.byte, b1), .inr (.byte, b2), .inr (.int, [.int e0, .int e1, .int e2]), .inl (0, [.ref 10, .ref 11, .ref 12]), .inr ((.object "java/lang/String"), [.ref 1, .ref 2, .ref 3]), .inl (2, [.int (1 : Int32), .ref 0, .int (0 : Int32)]), .inr (.int, [.int (0 : Int32), .int (0 : Int32), .int (0 : Int32)]), .inr (.boolean, [.int (0 : Int32), .int (0 : Int32), .int (0 : Int32)])]) (sl' := 0) rfl ?_
              refine mmW_steps (k := 14) (n := 983) (pc' := 59) (L' := [.val (.ref 10), .val (.int (1 : Int32)), .val (.int (0 : Int32)), .unset]) (S' := [.ref 13]) (H' := [.inr ((.object "java/lang/Object"), []), .inl (1, [.ref 4, .int (0 : Int32)]), .inl (1, [.ref 5, .int (0 : Int32)]), .inl (1, [.ref 6, .int (0 : Int32)]), .inr (.byte, b0), .inr (.byte, b1), .inr (.byte, b2), .inr (.int, [.int e0, .int e1, .int e2]), .inl (0, [.ref 10, .ref 11, .ref 12]), .inr ((.object "java/lang/String"), [.ref 1, .ref 2, .ref 3]), .inl (2, [.int (1 : Int32), .ref 13, .int (0 : Int32)]), .inr (.int, [.int (0 : Int32), .int (0 : Int32), .int (0 : Int32)]), .inr (.boolean, [.int (0 : Int32), .int (0 : Int32), .int (0 : Int32)]), .inr ((.object "java/lang/Object"), [.null, .null, .null, .null, .null, .null, .null, .null, .null, .null])]) (sl' := 10) rfl ?_
              exact mmW_ret (n := 982) (i := .areturn) rfl rfl ⟨rfl, rfl, rfl⟩
            refine mmW_callV (n := 994) rfl rfl rfl (rfl) (Nat.le_of_ble_eq_true rfl) (hB1) ?_
            show mmW K_9 I_9 (some (.array (.object "java/lang/Object"))) (994) 10 [.val (.ref 10)] [.ref 13] [.inr ((.object "java/lang/Object"), []), .inl (1, [.ref 4, .int (0 : Int32)]), .inl (1, [.ref 5, .int (0 : Int32)]), .inl (1, [.ref 6, .int (0 : Int32)]), .inr (.byte, b0), .inr (.byte, b1), .inr (.byte, b2), .inr (.int, [.int e0, .int e1, .int e2]), .inl (0, [.ref 10, .ref 11, .ref 12]), .inr ((.object "java/lang/String"), [.ref 1, .ref 2, .ref 3]), .inl (2, [.int (1 : Int32), .ref 13, .int (0 : Int32)]), .inr (.int, [.int (0 : Int32), .int (0 : Int32), .int (0 : Int32)]), .inr (.boolean, [.int (0 : Int32), .int (0 : Int32), .int (0 : Int32)]), .inr ((.object "java/lang/Object"), [.null, .null, .null, .null, .null, .null, .null, .null, .null, .null])] 10 _
            exact mmW_ret (n := 993) (i := .areturn) rfl rfl ⟨rfl, rfl, rfl⟩
          refine mmW_callV (n := 994) rfl rfl rfl (rfl) (Nat.le_of_ble_eq_true rfl) (hB1) ?_
          show mmW K_8 I_8 none (994) 10 [.val (.ref 10), .val (.ref 9), .val (.ref 0), .val (.int (0 : Int32))] [.ref 13] [.inr ((.object "java/lang/Object"), []), .inl (1, [.ref 4, .int (0 : Int32)]), .inl (1, [.ref 5, .int (0 : Int32)]), .inl (1, [.ref 6, .int (0 : Int32)]), .inr (.byte, b0), .inr (.byte, b1), .inr (.byte, b2), .inr (.int, [.int e0, .int e1, .int e2]), .inl (0, [.ref 10, .ref 11, .ref 12]), .inr ((.object "java/lang/String"), [.ref 1, .ref 2, .ref 3]), .inl (2, [.int (1 : Int32), .ref 13, .int (0 : Int32)]), .inr (.int, [.int (0 : Int32), .int (0 : Int32), .int (0 : Int32)]), .inr (.boolean, [.int (0 : Int32), .int (0 : Int32), .int (0 : Int32)]), .inr ((.object "java/lang/Object"), [.null, .null, .null, .null, .null, .null, .null, .null, .null, .null])] 10 _
          refine mmW_steps (k := 10) (n := 984) (pc' := 22) (L' := [.val (.ref 10), .val (.ref 9), .val (.ref 13), .val (.int (0 : Int32))]) (S' := []) (H' := [.inr ((.object "java/lang/Object"), []), .inl (1, [.ref 4, .int (0 : Int32)]), .inl (1, [.ref 5, .int (0 : Int32)]), .inl (1, [.ref 6, .int (0 : Int32)]), .inr (.byte, b0), .inr (.byte, b1), .inr (.byte, b2), .inr (.int, [.int e0, .int e1, .int e2]), .inl (0, [.ref 10, .ref 11, .ref 12]), .inr ((.object "java/lang/String"), [.ref 1, .ref 2, .ref 3]), .inl (2, [.int (1 : Int32), .ref 13, .int (1 : Int32)]), .inr (.int, [.int (0 : Int32), .int (0 : Int32), .int (0 : Int32)]), .inr (.boolean, [.int (0 : Int32), .int (0 : Int32), .int (0 : Int32)]), .inr ((.object "java/lang/Object"), [.ref 9, .null, .null, .null, .null, .null, .null, .null, .null, .null])]) (sl' := 10) rfl ?_
          exact mmW_ret (n := 983) (i := .return_) rfl rfl ⟨rfl, rfl, rfl⟩
        refine mmW_callV (n := 987) rfl rfl rfl (rfl) (Nat.le_of_ble_eq_true rfl) (hB1) ?_
        show mmW K_7 I_7 (some .boolean) (987) 23 [.val (.ref 10), .val (.ref 9)] [] [.inr ((.object "java/lang/Object"), []), .inl (1, [.ref 4, .int (0 : Int32)]), .inl (1, [.ref 5, .int (0 : Int32)]), .inl (1, [.ref 6, .int (0 : Int32)]), .inr (.byte, b0), .inr (.byte, b1), .inr (.byte, b2), .inr (.int, [.int e0, .int e1, .int e2]), .inl (0, [.ref 10, .ref 11, .ref 12]), .inr ((.object "java/lang/String"), [.ref 1, .ref 2, .ref 3]), .inl (2, [.int (1 : Int32), .ref 13, .int (1 : Int32)]), .inr (.int, [.int (0 : Int32), .int (0 : Int32), .int (0 : Int32)]), .inr (.boolean, [.int (0 : Int32), .int (0 : Int32), .int (0 : Int32)]), .inr ((.object "java/lang/Object"), [.ref 9, .null, .null, .null, .null, .null, .null, .null, .null, .null])] 10 _
        refine mmW_steps (k := 1) (n := 986) (pc' := 24) (L' := [.val (.ref 10), .val (.ref 9)]) (S' := [.int (1 : Int32)]) (H' := [.inr ((.object "java/lang/Object"), []), .inl (1, [.ref 4, .int (0 : Int32)]), .inl (1, [.ref 5, .int (0 : Int32)]), .inl (1, [.ref 6, .int (0 : Int32)]), .inr (.byte, b0), .inr (.byte, b1), .inr (.byte, b2), .inr (.int, [.int e0, .int e1, .int e2]), .inl (0, [.ref 10, .ref 11, .ref 12]), .inr ((.object "java/lang/String"), [.ref 1, .ref 2, .ref 3]), .inl (2, [.int (1 : Int32), .ref 13, .int (1 : Int32)]), .inr (.int, [.int (0 : Int32), .int (0 : Int32), .int (0 : Int32)]), .inr (.boolean, [.int (0 : Int32), .int (0 : Int32), .int (0 : Int32)]), .inr ((.object "java/lang/Object"), [.ref 9, .null, .null, .null, .null, .null, .null, .null, .null, .null])]) (sl' := 10) rfl ?_
        exact mmW_ret (n := 985) (i := .ireturn) rfl rfl ⟨rfl, rfl, rfl⟩
      refine mmW_callF (n := 996) rfl rfl rfl (rfl) (Nat.le_of_ble_eq_true rfl) (hB1) ?_
      show mmW K_6 I_6 none (996) 10 [.val (.ref 8), .val (.ref 9), .unset] [.int (1 : Int32)] [.inr ((.object "java/lang/Object"), []), .inl (1, [.ref 4, .int (0 : Int32)]), .inl (1, [.ref 5, .int (0 : Int32)]), .inl (1, [.ref 6, .int (0 : Int32)]), .inr (.byte, b0), .inr (.byte, b1), .inr (.byte, b2), .inr (.int, [.int e0, .int e1, .int e2]), .inl (0, [.ref 10, .ref 11, .ref 12]), .inr ((.object "java/lang/String"), [.ref 1, .ref 2, .ref 3]), .inl (2, [.int (1 : Int32), .ref 13, .int (1 : Int32)]), .inr (.int, [.int (0 : Int32), .int (0 : Int32), .int (0 : Int32)]), .inr (.boolean, [.int (0 : Int32), .int (0 : Int32), .int (0 : Int32)]), .inr ((.object "java/lang/Object"), [.ref 9, .null, .null, .null, .null, .null, .null, .null, .null, .null])] 10 _
      refine mmW_steps (k := 6) (n := 990) (pc' := 16) (L' := [.val (.ref 8), .val (.ref 9), .val (.int (0 : Int32))]) (S' := [.int (3 : Int32), .int (0 : Int32)]) (H' := [.inr ((.object "java/lang/Object"), []), .inl (1, [.ref 4, .int (0 : Int32)]), .inl (1, [.ref 5, .int (0 : Int32)]), .inl (1, [.ref 6, .int (0 : Int32)]), .inr (.byte, b0), .inr (.byte, b1), .inr (.byte, b2), .inr (.int, [.int e0, .int e1, .int e2]), .inl (0, [.ref 10, .ref 11, .ref 12]), .inr ((.object "java/lang/String"), [.ref 1, .ref 2, .ref 3]), .inl (2, [.int (1 : Int32), .ref 13, .int (1 : Int32)]), .inr (.int, [.int (0 : Int32), .int (0 : Int32), .int (0 : Int32)]), .inr (.boolean, [.int (0 : Int32), .int (0 : Int32), .int (0 : Int32)]), .inr ((.object "java/lang/Object"), [.ref 9, .null, .null, .null, .null, .null, .null, .null, .null, .null])]) (sl' := 10) rfl ?_
      refine mmW_steps (k := 6) (n := 984) (pc' := 24) (L' := [.val (.ref 8), .val (.ref 9), .val (.int (0 : Int32))]) (S' := [.ref 1, .int (0 : Int32), .ref 8]) (H' := [.inr ((.object "java/lang/Object"), []), .inl (1, [.ref 4, .int (0 : Int32)]), .inl (1, [.ref 5, .int (0 : Int32)]), .inl (1, [.ref 6, .int (0 : Int32)]), .inr (.byte, b0), .inr (.byte, b1), .inr (.byte, b2), .inr (.int, [.int e0, .int e1, .int e2]), .inl (0, [.ref 10, .ref 11, .ref 12]), .inr ((.object "java/lang/String"), [.ref 1, .ref 2, .ref 3]), .inl (2, [.int (1 : Int32), .ref 13, .int (1 : Int32)]), .inr (.int, [.int (0 : Int32), .int (0 : Int32), .int (0 : Int32)]), .inr (.boolean, [.int (0 : Int32), .int (0 : Int32), .int (0 : Int32)]), .inr ((.object "java/lang/Object"), [.ref 9, .null, .null, .null, .null, .null, .null, .null, .null, .null])]) (sl' := 10) rfl ?_
      refine mmW_callV (n := 983) rfl rfl rfl (rfl) (Nat.le_of_ble_eq_true rfl) (own_len (b := 4) rfl rfl h0) ?_
      show mmW K_6 I_6 none (983) 27 [.val (.ref 8), .val (.ref 9), .val (.int (0 : Int32))] [.int e0, .int (0 : Int32), .ref 8] [.inr ((.object "java/lang/Object"), []), .inl (1, [.ref 4, .int (0 : Int32)]), .inl (1, [.ref 5, .int (0 : Int32)]), .inl (1, [.ref 6, .int (0 : Int32)]), .inr (.byte, b0), .inr (.byte, b1), .inr (.byte, b2), .inr (.int, [.int e0, .int e1, .int e2]), .inl (0, [.ref 10, .ref 11, .ref 12]), .inr ((.object "java/lang/String"), [.ref 1, .ref 2, .ref 3]), .inl (2, [.int (1 : Int32), .ref 13, .int (1 : Int32)]), .inr (.int, [.int (0 : Int32), .int (0 : Int32), .int (0 : Int32)]), .inr (.boolean, [.int (0 : Int32), .int (0 : Int32), .int (0 : Int32)]), .inr ((.object "java/lang/Object"), [.ref 9, .null, .null, .null, .null, .null, .null, .null, .null, .null])] 10 _
      refine mmW_steps (k := 6) (n := 977) (pc' := 16) (L' := [.val (.ref 8), .val (.ref 9), .val (.int (1 : Int32))]) (S' := [.int (3 : Int32), .int (1 : Int32)]) (H' := [.inr ((.object "java/lang/Object"), []), .inl (1, [.ref 4, .int (0 : Int32)]), .inl (1, [.ref 5, .int (0 : Int32)]), .inl (1, [.ref 6, .int (0 : Int32)]), .inr (.byte, b0), .inr (.byte, b1), .inr (.byte, b2), .inr (.int, [.int e0, .int e1, .int e2]), .inl (0, [.ref 10, .ref 11, .ref 12]), .inr ((.object "java/lang/String"), [.ref 1, .ref 2, .ref 3]), .inl (2, [.int (1 : Int32), .ref 13, .int (1 : Int32)]), .inr (.int, [.int (if (0 : Int32) < e0 then e0 else (0 : Int32)), .int (0 : Int32), .int (0 : Int32)]), .inr (.boolean, [.int (0 : Int32), .int (0 : Int32), .int (0 : Int32)]), .inr ((.object "java/lang/Object"), [.ref 9, .null, .null, .null, .null, .null, .null, .null, .null, .null])]) (sl' := 10) rfl ?_
      refine mmW_steps (k := 6) (n := 971) (pc' := 24) (L' := [.val (.ref 8), .val (.ref 9), .val (.int (1 : Int32))]) (S' := [.ref 2, .int (1 : Int32), .ref 8]) (H' := [.inr ((.object "java/lang/Object"), []), .inl (1, [.ref 4, .int (0 : Int32)]), .inl (1, [.ref 5, .int (0 : Int32)]), .inl (1, [.ref 6, .int (0 : Int32)]), .inr (.byte, b0), .inr (.byte, b1), .inr (.byte, b2), .inr (.int, [.int e0, .int e1, .int e2]), .inl (0, [.ref 10, .ref 11, .ref 12]), .inr ((.object "java/lang/String"), [.ref 1, .ref 2, .ref 3]), .inl (2, [.int (1 : Int32), .ref 13, .int (1 : Int32)]), .inr (.int, [.int (if (0 : Int32) < e0 then e0 else (0 : Int32)), .int (0 : Int32), .int (0 : Int32)]), .inr (.boolean, [.int (0 : Int32), .int (0 : Int32), .int (0 : Int32)]), .inr ((.object "java/lang/Object"), [.ref 9, .null, .null, .null, .null, .null, .null, .null, .null, .null])]) (sl' := 10) rfl ?_
      refine mmW_callV (n := 970) rfl rfl rfl (rfl) (Nat.le_of_ble_eq_true rfl) (own_len (b := 5) rfl rfl h1) ?_
      show mmW K_6 I_6 none (970) 27 [.val (.ref 8), .val (.ref 9), .val (.int (1 : Int32))] [.int e1, .int (1 : Int32), .ref 8] [.inr ((.object "java/lang/Object"), []), .inl (1, [.ref 4, .int (0 : Int32)]), .inl (1, [.ref 5, .int (0 : Int32)]), .inl (1, [.ref 6, .int (0 : Int32)]), .inr (.byte, b0), .inr (.byte, b1), .inr (.byte, b2), .inr (.int, [.int e0, .int e1, .int e2]), .inl (0, [.ref 10, .ref 11, .ref 12]), .inr ((.object "java/lang/String"), [.ref 1, .ref 2, .ref 3]), .inl (2, [.int (1 : Int32), .ref 13, .int (1 : Int32)]), .inr (.int, [.int (if (0 : Int32) < e0 then e0 else (0 : Int32)), .int (0 : Int32), .int (0 : Int32)]), .inr (.boolean, [.int (0 : Int32), .int (0 : Int32), .int (0 : Int32)]), .inr ((.object "java/lang/Object"), [.ref 9, .null, .null, .null, .null, .null, .null, .null, .null, .null])] 10 _
      refine mmW_steps (k := 6) (n := 964) (pc' := 16) (L' := [.val (.ref 8), .val (.ref 9), .val (.int (2 : Int32))]) (S' := [.int (3 : Int32), .int (2 : Int32)]) (H' := [.inr ((.object "java/lang/Object"), []), .inl (1, [.ref 4, .int (0 : Int32)]), .inl (1, [.ref 5, .int (0 : Int32)]), .inl (1, [.ref 6, .int (0 : Int32)]), .inr (.byte, b0), .inr (.byte, b1), .inr (.byte, b2), .inr (.int, [.int e0, .int e1, .int e2]), .inl (0, [.ref 10, .ref 11, .ref 12]), .inr ((.object "java/lang/String"), [.ref 1, .ref 2, .ref 3]), .inl (2, [.int (1 : Int32), .ref 13, .int (1 : Int32)]), .inr (.int, [.int (if (0 : Int32) < e0 then e0 else (0 : Int32)), .int (if (0 : Int32) < e1 then e1 else (0 : Int32)), .int (0 : Int32)]), .inr (.boolean, [.int (0 : Int32), .int (0 : Int32), .int (0 : Int32)]), .inr ((.object "java/lang/Object"), [.ref 9, .null, .null, .null, .null, .null, .null, .null, .null, .null])]) (sl' := 10) rfl ?_
      refine mmW_steps (k := 6) (n := 958) (pc' := 24) (L' := [.val (.ref 8), .val (.ref 9), .val (.int (2 : Int32))]) (S' := [.ref 3, .int (2 : Int32), .ref 8]) (H' := [.inr ((.object "java/lang/Object"), []), .inl (1, [.ref 4, .int (0 : Int32)]), .inl (1, [.ref 5, .int (0 : Int32)]), .inl (1, [.ref 6, .int (0 : Int32)]), .inr (.byte, b0), .inr (.byte, b1), .inr (.byte, b2), .inr (.int, [.int e0, .int e1, .int e2]), .inl (0, [.ref 10, .ref 11, .ref 12]), .inr ((.object "java/lang/String"), [.ref 1, .ref 2, .ref 3]), .inl (2, [.int (1 : Int32), .ref 13, .int (1 : Int32)]), .inr (.int, [.int (if (0 : Int32) < e0 then e0 else (0 : Int32)), .int (if (0 : Int32) < e1 then e1 else (0 : Int32)), .int (0 : Int32)]), .inr (.boolean, [.int (0 : Int32), .int (0 : Int32), .int (0 : Int32)]), .inr ((.object "java/lang/Object"), [.ref 9, .null, .null, .null, .null, .null, .null, .null, .null, .null])]) (sl' := 10) rfl ?_
      refine mmW_callV (n := 957) rfl rfl rfl (rfl) (Nat.le_of_ble_eq_true rfl) (own_len (b := 6) rfl rfl h2) ?_
      show mmW K_6 I_6 none (957) 27 [.val (.ref 8), .val (.ref 9), .val (.int (2 : Int32))] [.int e2, .int (2 : Int32), .ref 8] [.inr ((.object "java/lang/Object"), []), .inl (1, [.ref 4, .int (0 : Int32)]), .inl (1, [.ref 5, .int (0 : Int32)]), .inl (1, [.ref 6, .int (0 : Int32)]), .inr (.byte, b0), .inr (.byte, b1), .inr (.byte, b2), .inr (.int, [.int e0, .int e1, .int e2]), .inl (0, [.ref 10, .ref 11, .ref 12]), .inr ((.object "java/lang/String"), [.ref 1, .ref 2, .ref 3]), .inl (2, [.int (1 : Int32), .ref 13, .int (1 : Int32)]), .inr (.int, [.int (if (0 : Int32) < e0 then e0 else (0 : Int32)), .int (if (0 : Int32) < e1 then e1 else (0 : Int32)), .int (0 : Int32)]), .inr (.boolean, [.int (0 : Int32), .int (0 : Int32), .int (0 : Int32)]), .inr ((.object "java/lang/Object"), [.ref 9, .null, .null, .null, .null, .null, .null, .null, .null, .null])] 10 _
      refine mmW_steps (k := 6) (n := 951) (pc' := 16) (L' := [.val (.ref 8), .val (.ref 9), .val (.int (3 : Int32))]) (S' := [.int (3 : Int32), .int (3 : Int32)]) (H' := [.inr ((.object "java/lang/Object"), []), .inl (1, [.ref 4, .int (0 : Int32)]), .inl (1, [.ref 5, .int (0 : Int32)]), .inl (1, [.ref 6, .int (0 : Int32)]), .inr (.byte, b0), .inr (.byte, b1), .inr (.byte, b2), .inr (.int, [.int e0, .int e1, .int e2]), .inl (0, [.ref 10, .ref 11, .ref 12]), .inr ((.object "java/lang/String"), [.ref 1, .ref 2, .ref 3]), .inl (2, [.int (1 : Int32), .ref 13, .int (1 : Int32)]), .inr (.int, [.int (if (0 : Int32) < e0 then e0 else (0 : Int32)), .int (if (0 : Int32) < e1 then e1 else (0 : Int32)), .int (if (0 : Int32) < e2 then e2 else (0 : Int32))]), .inr (.boolean, [.int (0 : Int32), .int (0 : Int32), .int (0 : Int32)]), .inr ((.object "java/lang/Object"), [.ref 9, .null, .null, .null, .null, .null, .null, .null, .null, .null])]) (sl' := 10) rfl ?_
      refine mmW_steps (k := 1) (n := 950) (pc' := 36) (L' := [.val (.ref 8), .val (.ref 9), .val (.int (3 : Int32))]) (S' := []) (H' := [.inr ((.object "java/lang/Object"), []), .inl (1, [.ref 4, .int (0 : Int32)]), .inl (1, [.ref 5, .int (0 : Int32)]), .inl (1, [.ref 6, .int (0 : Int32)]), .inr (.byte, b0), .inr (.byte, b1), .inr (.byte, b2), .inr (.int, [.int e0, .int e1, .int e2]), .inl (0, [.ref 10, .ref 11, .ref 12]), .inr ((.object "java/lang/String"), [.ref 1, .ref 2, .ref 3]), .inl (2, [.int (1 : Int32), .ref 13, .int (1 : Int32)]), .inr (.int, [.int (if (0 : Int32) < e0 then e0 else (0 : Int32)), .int (if (0 : Int32) < e1 then e1 else (0 : Int32)), .int (if (0 : Int32) < e2 then e2 else (0 : Int32))]), .inr (.boolean, [.int (0 : Int32), .int (0 : Int32), .int (0 : Int32)]), .inr ((.object "java/lang/Object"), [.ref 9, .null, .null, .null, .null, .null, .null, .null, .null, .null])]) (sl' := 10) rfl ?_
      exact mmW_ret (n := 949) (i := .return_) rfl rfl ⟨rfl, rfl, rfl⟩
    refine mmW_callV (n := 980) rfl rfl rfl (rfl) (Nat.le_of_ble_eq_true rfl) (hB1) ?_
    show mmW K_2 I_2 none (980) 36 [.val (.ref 8), .val (.ref 9)] [] [.inr ((.object "java/lang/Object"), []), .inl (1, [.ref 4, .int (0 : Int32)]), .inl (1, [.ref 5, .int (0 : Int32)]), .inl (1, [.ref 6, .int (0 : Int32)]), .inr (.byte, b0), .inr (.byte, b1), .inr (.byte, b2), .inr (.int, [.int e0, .int e1, .int e2]), .inl (0, [.ref 10, .ref 11, .ref 12]), .inr ((.object "java/lang/String"), [.ref 1, .ref 2, .ref 3]), .inl (2, [.int (1 : Int32), .ref 13, .int (1 : Int32)]), .inr (.int, [.int (if (0 : Int32) < e0 then e0 else (0 : Int32)), .int (if (0 : Int32) < e1 then e1 else (0 : Int32)), .int (if (0 : Int32) < e2 then e2 else (0 : Int32))]), .inr (.boolean, [.int (0 : Int32), .int (0 : Int32), .int (0 : Int32)]), .inr ((.object "java/lang/Object"), [.ref 9, .null, .null, .null, .null, .null, .null, .null, .null, .null])] 19 _
    exact mmW_ret (n := 979) (i := .return_) rfl rfl ⟨rfl, rfl, rfl⟩
  refine mmW_callI (n := 899) rfl rfl rfl rfl (rfl) (Nat.le_of_ble_eq_true rfl) (hB1) ?_
  show mmW K_0 I_0s (some .boolean) (899) 71 [.val (.int x0), .val (.int x1), .val (.int x2), .val (.int x3), .val (.int x4), .val (.ref 7), .unset, .unset, .unset, .unset, .unset] [.ref 8] [.inr ((.object "java/lang/Object"), []), .inl (1, [.ref 4, .int (0 : Int32)]), .inl (1, [.ref 5, .int (0 : Int32)]), .inl (1, [.ref 6, .int (0 : Int32)]), .inr (.byte, b0), .inr (.byte, b1), .inr (.byte, b2), .inr (.int, [.int e0, .int e1, .int e2]), .inl (0, [.ref 10, .ref 11, .ref 12]), .inr ((.object "java/lang/String"), [.ref 1, .ref 2, .ref 3]), .inl (2, [.int (1 : Int32), .ref 13, .int (1 : Int32)]), .inr (.int, [.int (if (0 : Int32) < e0 then e0 else (0 : Int32)), .int (if (0 : Int32) < e1 then e1 else (0 : Int32)), .int (if (0 : Int32) < e2 then e2 else (0 : Int32))]), .inr (.boolean, [.int (0 : Int32), .int (0 : Int32), .int (0 : Int32)]), .inr ((.object "java/lang/Object"), [.ref 9, .null, .null, .null, .null, .null, .null, .null, .null, .null])] (sl + 19) _
  rw [own_mx g0]
  rw [own_mx g1]
  rw [own_mx g2]
  refine mmW_steps (k := 6) (n := 893) (pc' := 79) (L' := [.val (.int x0), .val (.int x1), .val (.int x2), .val (.int x3), .val (.int x4), .val (.ref 7), .val (.ref 8), .unset, .unset, .unset, .unset]) (S' := [.int ((x1 &&& (2147483647 : Int32)) % (3 : Int32))]) (H' := [.inr ((.object "java/lang/Object"), []), .inl (1, [.ref 4, .int (0 : Int32)]), .inl (1, [.ref 5, .int (0 : Int32)]), .inl (1, [.ref 6, .int (0 : Int32)]), .inr (.byte, b0), .inr (.byte, b1), .inr (.byte, b2), .inr (.int, [.int e0, .int e1, .int e2]), .inl (0, [.ref 10, .ref 11, .ref 12]), .inr ((.object "java/lang/String"), [.ref 1, .ref 2, .ref 3]), .inl (2, [.int (1 : Int32), .ref 13, .int (1 : Int32)]), .inr (.int, [.int e0, .int e1, .int e2]), .inr (.boolean, [.int (0 : Int32), .int (0 : Int32), .int (0 : Int32)]), .inr ((.object "java/lang/Object"), [.ref 9, .null, .null, .null, .null, .null, .null, .null, .null, .null])]) (sl' := (sl + 19)) rfl ?_
  rcases own_mod3 x1 with hq | hq | hq
  · rw [hq]
    refine mmW_steps (k := 6) (n := 887) (pc' := 87) (L' := [.val (.int x0), .val (.int x1), .val (.int x2), .val (.int x3), .val (.int x4), .val (.ref 7), .val (.ref 8), .val (.int (0 : Int32)), .unset, .unset, .unset]) (S' := [.int ((x3 &&& (2147483647 : Int32)) % (3 : Int32))]) (H' := [.inr ((.object "java/lang/Object"), []), .inl (1, [.ref 4, .int (0 : Int32)]), .inl (1, [.ref 5, .int (0 : Int32)]), .inl (1, [.ref 6, .int (0 : Int32)]), .inr (.byte, b0), .inr (.byte, b1), .inr (.byte, b2), .inr (.int, [.int e0, .int e1, .int e2]), .inl (0, [.ref 10, .ref 11, .ref 12]), .inr ((.object "java/lang/String"), [.ref 1, .ref 2, .ref 3]), .inl (2, [.int (1 : Int32), .ref 13, .int (1 : Int32)]), .inr (.int, [.int e0, .int e1, .int e2]), .inr (.boolean, [.int (0 : Int32), .int (0 : Int32), .int (0 : Int32)]), .inr ((.object "java/lang/Object"), [.ref 9, .null, .null, .null, .null, .null, .null, .null, .null, .null])]) (sl' := (sl + 19)) rfl ?_
    rcases own_mod3 x3 with hq | hq | hq
    · rw [hq]
      refine mmW_steps (k := 20) (n := 867) (pc' := (if if_icmp.holds .ne (if e0 < x2 then x2 else e0) (if e0 < x2 then x2 else e0) = true then 154 else 124)) (L' := [.val (.int x0), .val (.int x1), .val (.int x2), .val (.int x3), .val (.int x4), .val (.ref 7), .val (.ref 8), .val (.int (0 : Int32)), .val (.int (0 : Int32)), .unset, .unset]) (S' := []) (H' := [.inr ((.object "java/lang/Object"), []), .inl (1, [.ref 4, .int (0 : Int32)]), .inl (1, [.ref 5, .int (0 : Int32)]), .inl (1, [.ref 6, .int (0 : Int32)]), .inr (.byte, b0), .inr (.byte, b1), .inr (.byte, b2), .inr (.int, [.int (if e0 < x2 then x2 else e0), .int e1, .int e2]), .inl (0, [.ref 10, .ref 11, .ref 12]), .inr ((.object "java/lang/String"), [.ref 1, .ref 2, .ref 3]), .inl (2, [.int (1 : Int32), .ref 13, .int (1 : Int32)]), .inr (.int, [.int (if e0 < x2 then x2 else e0), .int e1, .int e2]), .inr (.boolean, [.int (0 : Int32), .int (0 : Int32), .int (0 : Int32)]), .inr ((.object "java/lang/Object"), [.ref 9, .null, .null, .null, .null, .null, .null, .null, .null, .null])]) (sl' := ((((sl + 19) + 0) + 0) + 0)) rfl ?_
      refine mmW_f (XT.ii_ne_f (rfl)) ?_
      refine mmW_steps (k := 7) (n := 860) (pc' := (if if_icmp.holds .ne e1 e1 = true then 154 else 137)) (L' := [.val (.int x0), .val (.int x1), .val (.int x2), .val (.int x3), .val (.int x4), .val (.ref 7), .val (.ref 8), .val (.int (0 : Int32)), .val (.int (0 : Int32)), .unset, .unset]) (S' := []) (H' := [.inr ((.object "java/lang/Object"), []), .inl (1, [.ref 4, .int (0 : Int32)]), .inl (1, [.ref 5, .int (0 : Int32)]), .inl (1, [.ref 6, .int (0 : Int32)]), .inr (.byte, b0), .inr (.byte, b1), .inr (.byte, b2), .inr (.int, [.int (if e0 < x2 then x2 else e0), .int e1, .int e2]), .inl (0, [.ref 10, .ref 11, .ref 12]), .inr ((.object "java/lang/String"), [.ref 1, .ref 2, .ref 3]), .inl (2, [.int (1 : Int32), .ref 13, .int (1 : Int32)]), .inr (.int, [.int (if e0 < x2 then x2 else e0), .int e1, .int e2]), .inr (.boolean, [.int (0 : Int32), .int (0 : Int32), .int (0 : Int32)]), .inr ((.object "java/lang/Object"), [.ref 9, .null, .null, .null, .null, .null, .null, .null, .null, .null])]) (sl' := (((((sl + 19) + 0) + 0) + 0) + 0)) rfl ?_
      refine mmW_f (XT.ii_ne_f (rfl)) ?_
      refine mmW_steps (k := 7) (n := 853) (pc' := (if if_icmp.holds .ne e2 e2 = true then 154 else 150)) (L' := [.val (.int x0), .val (.int x1), .val (.int x2), .val (.int x3), .val (.int x4), .val (.ref 7), .val (.ref 8), .val (.int (0 : Int32)), .val (.int (0 : Int32)), .unset, .unset]) (S' := []) (H' := [.inr ((.object "java/lang/Object"), []), .inl (1, [.ref 4, .int (0 : Int32)]), .inl (1, [.ref 5, .int (0 : Int32)]), .inl (1, [.ref 6, .int (0 : Int32)]), .inr (.byte, b0), .inr (.byte, b1), .inr (.byte, b2), .inr (.int, [.int (if e0 < x2 then x2 else e0), .int e1, .int e2]), .inl (0, [.ref 10, .ref 11, .ref 12]), .inr ((.object "java/lang/String"), [.ref 1, .ref 2, .ref 3]), .inl (2, [.int (1 : Int32), .ref 13, .int (1 : Int32)]), .inr (.int, [.int (if e0 < x2 then x2 else e0), .int e1, .int e2]), .inr (.boolean, [.int (0 : Int32), .int (0 : Int32), .int (0 : Int32)]), .inr ((.object "java/lang/Object"), [.ref 9, .null, .null, .null, .null, .null, .null, .null, .null, .null])]) (sl' := ((((((sl + 19) + 0) + 0) + 0) + 0) + 0)) rfl ?_
      refine mmW_f (XT.ii_ne_f (rfl)) ?_
      refine mmW_steps (k := 22) (n := 831) (pc' := (if if_icmp.holds .ne (if (if e0 < x2 then x2 else e0) < x4 then x4 else (if e0 < x2 then x2 else e0)) (if (if e0 < x2 then x2 else e0) < x4 then x4 else (if e0 < x2 then x2 else e0)) = true then 224 else 194)) (L' := [.val (.int x0), .val (.int x1), .val (.int x2), .val (.int x3), .val (.int x4), .val (.ref 7), .val (.ref 8), .val (.int (0 : Int32)), .val (.int (0 : Int32)), .val (.int (1 : Int32)), .unset]) (S' := []) (H' := [.inr ((.object "java/lang/Object"), []), .inl (1, [.ref 4, .int (0 : Int32)]), .inl (1, [.ref 5, .int (0 : Int32)]), .inl (1, [.ref 6, .int (0 : Int32)]), .inr (.byte, b0), .inr (.byte, b1), .inr (.byte, b2), .inr (.int, [.int (if (if e0 < x2 then x2 else e0) < x4 then x4 else (if e0 < x2 then x2 else e0)), .int e1, .int e2]), .inl (0, [.ref 10, .ref 11, .ref 12]), .inr ((.object "java/lang/String"), [.ref 1, .ref 2, .ref 3]), .inl (2, [.int (1 : Int32), .ref 13, .int (1 : Int32)]), .inr (.int, [.int (if (if e0 < x2 then x2 else e0) < x4 then x4 else (if e0 < x2 then x2 else e0)), .int e1, .int e2]), .inr (.boolean, [.int (0 : Int32), .int (0 : Int32), .int (0 : Int32)]), .inr ((.object "java/lang/Object"), [.ref 9, .null, .null, .null, .null, .null, .null, .null, .null, .null])]) (sl' := (((((((((sl + 19) + 0) + 0) + 0) + 0) + 0) + 0) + 0) + 0)) rfl ?_
      refine mmW_f (XT.ii_ne_f (rfl)) ?_
      refine mmW_steps (k := 7) (n := 824) (pc' := (if if_icmp.holds .ne e1 e1 = true then 224 else 207)) (L' := [.val (.int x0), .val (.int x1), .val (.int x2), .val (.int x3), .val (.int x4), .val (.ref 7), .val (.ref 8), .val (.int (0 : Int32)), .val (.int (0 : Int32)), .val (.int (1 : Int32)), .unset]) (S' := []) (H' := [.inr ((.object "java/lang/Object"), []), .inl (1, [.ref 4, .int (0 : Int32)]), .inl (1, [.ref 5, .int (0 : Int32)]), .inl (1, [.ref 6, .int (0 : Int32)]), .inr (.byte, b0), .inr (.byte, b1), .inr (.byte, b2), .inr (.int, [.int (if (if e0 < x2 then x2 else e0) < x4 then x4 else (if e0 < x2 then x2 else e0)), .int e1, .int e2]), .inl (0, [.ref 10, .ref 11, .ref 12]), .inr ((.object "java/lang/String"), [.ref 1, .ref 2, .ref 3]), .inl (2, [.int (1 : Int32), .ref 13, .int (1 : Int32)]), .inr (.int, [.int (if (if e0 < x2 then x2 else e0) < x4 then x4 else (if e0 < x2 then x2 else e0)), .int e1, .int e2]), .inr (.boolean, [.int (0 : Int32), .int (0 : Int32), .int (0 : Int32)]), .inr ((.object "java/lang/Object"), [.ref 9, .null, .null, .null, .null, .null, .null, .null, .null, .null])]) (sl' := ((((((((((sl + 19) + 0) + 0) + 0) + 0) + 0) + 0) + 0) + 0) + 0)) rfl ?_
      refine mmW_f (XT.ii_ne_f (rfl)) ?_
      refine mmW_steps (k := 7) (n := 817) (pc' := (if if_icmp.holds .ne e2 e2 = true then 224 else 220)) (L' := [.val (.int x0), .val (.int x1), .val (.int x2), .val (.int x3), .val (.int x4), .val (.ref 7), .val (.ref 8), .val (.int (0 : Int32)), .val (.int (0 : Int32)), .val (.int (1 : Int32)), .unset]) (S' := []) (H' := [.inr ((.object "java/lang/Object"), []), .inl (1, [.ref 4, .int (0 : Int32)]), .inl (1, [.ref 5, .int (0 : Int32)]), .inl (1, [.ref 6, .int (0 : Int32)]), .inr (.byte, b0), .inr (.byte, b1), .inr (.byte, b2), .inr (.int, [.int (if (if e0 < x2 then x2 else e0) < x4 then x4 else (if e0 < x2 then x2 else e0)), .int e1, .int e2]), .inl (0, [.ref 10, .ref 11, .ref 12]), .inr ((.object "java/lang/String"), [.ref 1, .ref 2, .ref 3]), .inl (2, [.int (1 : Int32), .ref 13, .int (1 : Int32)]), .inr (.int, [.int (if (if e0 < x2 then x2 else e0) < x4 then x4 else (if e0 < x2 then x2 else e0)), .int e1, .int e2]), .inr (.boolean, [.int (0 : Int32), .int (0 : Int32), .int (0 : Int32)]), .inr ((.object "java/lang/Object"), [.ref 9, .null, .null, .null, .null, .null, .null, .null, .null, .null])]) (sl' := (((((((((((sl + 19) + 0) + 0) + 0) + 0) + 0) + 0) + 0) + 0) + 0) + 0)) rfl ?_
      refine mmW_f (XT.ii_ne_f (rfl)) ?_
      refine mmW_steps (k := 9) (n := 808) (pc' := 242) (L' := [.val (.int x0), .val (.int x1), .val (.int x2), .val (.int x3), .val (.int x4), .val (.ref 7), .val (.ref 8), .val (.int (0 : Int32)), .val (.int (0 : Int32)), .val (.int (1 : Int32)), .val (.int (1 : Int32))]) (S' := [.int (1 : Int32)]) (H' := [.inr ((.object "java/lang/Object"), []), .inl (1, [.ref 4, .int (0 : Int32)]), .inl (1, [.ref 5, .int (0 : Int32)]), .inl (1, [.ref 6, .int (0 : Int32)]), .inr (.byte, b0), .inr (.byte, b1), .inr (.byte, b2), .inr (.int, [.int (if (if e0 < x2 then x2 else e0) < x4 then x4 else (if e0 < x2 then x2 else e0)), .int e1, .int e2]), .inl (0, [.ref 10, .ref 11, .ref 12]), .inr ((.object "java/lang/String"), [.ref 1, .ref 2, .ref 3]), .inl (2, [.int (1 : Int32), .ref 13, .int (1 : Int32)]), .inr (.int, [.int (if (if e0 < x2 then x2 else e0) < x4 then x4 else (if e0 < x2 then x2 else e0)), .int e1, .int e2]), .inr (.boolean, [.int (0 : Int32), .int (0 : Int32), .int (0 : Int32)]), .inr ((.object "java/lang/Object"), [.ref 9, .null, .null, .null, .null, .null, .null, .null, .null, .null])]) (sl' := (((((((((((sl + 19) + 0) + 0) + 0) + 0) + 0) + 0) + 0) + 0) + 0) + 0)) rfl ?_
      exact mmW_ret (n := 807) (i := .ireturn) rfl rfl ⟨rfl, rfl, by omega⟩
    · rw [hq]
      refine mmW_steps (k := 20) (n := 867) (pc' := (if if_icmp.holds .ne (if e0 < x2 then x2 else e0) (if e0 < x2 then x2 else e0) = true then 154 else 124)) (L' := [.val (.int x0), .val (.int x1), .val (.int x2), .val (.int x3), .val (.int x4), .val (.ref 7), .val (.ref 8), .val (.int (0 : Int32)), .val (.int (1 : Int32)), .unset, .unset]) (S' := []) (H' := [.inr ((.object "java/lang/Object"), []), .inl (1, [.ref 4, .int (0 : Int32)]), .inl (1, [.ref 5, .int (0 : Int32)]), .inl (1, [.ref 6, .int (0 : Int32)]), .inr (.byte, b0), .inr (.byte, b1), .inr (.byte, b2), .inr (.int, [.int (if e0 < x2 then x2 else e0), .int e1, .int e2]), .inl (0, [.ref 10, .ref 11, .ref 12]), .inr ((.object "java/lang/String"), [.ref 1, .ref 2, .ref 3]), .inl (2, [.int (1 : Int32), .ref 13, .int (1 : Int32)]), .inr (.int, [.int (if e0 < x2 then x2 else e0), .int e1, .int e2]), .inr (.boolean, [.int (0 : Int32), .int (0 : Int32), .int (0 : Int32)]), .inr ((.object "java/lang/Object"), [.ref 9, .null, .null, .null, .null, .null, .null, .null, .null, .null])]) (sl' := ((((sl + 19) + 0) + 0) + 0)) rfl ?_
      refine mmW_f (XT.ii_ne_f (rfl)) ?_
      refine mmW_steps (k := 7) (n := 860) (pc' := (if if_icmp.holds .ne e1 e1 = true then 154 else 137)) (L' := [.val (.int x0), .val (.int x1), .val (.int x2), .val (.int x3), .val (.int x4), .val (.ref 7), .val (.ref 8), .val (.int (0 : Int32)), .val (.int (1 : Int32)), .unset, .unset]) (S' := []) (H' := [.inr ((.object "java/lang/Object"), []), .inl (1, [.ref 4, .int (0 : Int32)]), .inl (1, [.ref 5, .int (0 : Int32)]), .inl (1, [.ref 6, .int (0 : Int32)]), .inr (.byte, b0), .inr (.byte, b1), .inr (.byte, b2), .inr (.int, [.int (if e0 < x2 then x2 else e0), .int e1, .int e2]), .inl (0, [.ref 10, .ref 11, .ref 12]), .inr ((.object "java/lang/String"), [.ref 1, .ref 2, .ref 3]), .inl (2, [.int (1 : Int32), .ref 13, .int (1 : Int32)]), .inr (.int, [.int (if e0 < x2 then x2 else e0), .int e1, .int e2]), .inr (.boolean, [.int (0 : Int32), .int (0 : Int32), .int (0 : Int32)]), .inr ((.object "java/lang/Object"), [.ref 9, .null, .null, .null, .null, .null, .null, .null, .null, .null])]) (sl' := (((((sl + 19) + 0) + 0) + 0) + 0)) rfl ?_
      refine mmW_f (XT.ii_ne_f (rfl)) ?_
      refine mmW_steps (k := 7) (n := 853) (pc' := (if if_icmp.holds .ne e2 e2 = true then 154 else 150)) (L' := [.val (.int x0), .val (.int x1), .val (.int x2), .val (.int x3), .val (.int x4), .val (.ref 7), .val (.ref 8), .val (.int (0 : Int32)), .val (.int (1 : Int32)), .unset, .unset]) (S' := []) (H' := [.inr ((.object "java/lang/Object"), []), .inl (1, [.ref 4, .int (0 : Int32)]), .inl (1, [.ref 5, .int (0 : Int32)]), .inl (1, [.ref 6, .int (0 : Int32)]), .inr (.byte, b0), .inr (.byte, b1), .inr (.byte, b2), .inr (.int, [.int (if e0 < x2 then x2 else e0), .int e1, .int e2]), .inl (0, [.ref 10, .ref 11, .ref 12]), .inr ((.object "java/lang/String"), [.ref 1, .ref 2, .ref 3]), .inl (2, [.int (1 : Int32), .ref 13, .int (1 : Int32)]), .inr (.int, [.int (if e0 < x2 then x2 else e0), .int e1, .int e2]), .inr (.boolean, [.int (0 : Int32), .int (0 : Int32), .int (0 : Int32)]), .inr ((.object "java/lang/Object"), [.ref 9, .null, .null, .null, .null, .null, .null, .null, .null, .null])]) (sl' := ((((((sl + 19) + 0) + 0) + 0) + 0) + 0)) rfl ?_
      refine mmW_f (XT.ii_ne_f (rfl)) ?_
      refine mmW_steps (k := 22) (n := 831) (pc' := (if if_icmp.holds .ne (if e0 < x2 then x2 else e0) (if e0 < x2 then x2 else e0) = true then 224 else 194)) (L' := [.val (.int x0), .val (.int x1), .val (.int x2), .val (.int x3), .val (.int x4), .val (.ref 7), .val (.ref 8), .val (.int (0 : Int32)), .val (.int (1 : Int32)), .val (.int (1 : Int32)), .unset]) (S' := []) (H' := [.inr ((.object "java/lang/Object"), []), .inl (1, [.ref 4, .int (0 : Int32)]), .inl (1, [.ref 5, .int (0 : Int32)]), .inl (1, [.ref 6, .int (0 : Int32)]), .inr (.byte, b0), .inr (.byte, b1), .inr (.byte, b2), .inr (.int, [.int (if e0 < x2 then x2 else e0), .int (if e1 < x4 then x4 else e1), .int e2]), .inl (0, [.ref 10, .ref 11, .ref 12]), .inr ((.object "java/lang/String"), [.ref 1, .ref 2, .ref 3]), .inl (2, [.int (1 : Int32), .ref 13, .int (1 : Int32)]), .inr (.int, [.int (if e0 < x2 then x2 else e0), .int (if e1 < x4 then x4 else e1), .int e2]), .inr (.boolean, [.int (0 : Int32), .int (0 : Int32), .int (0 : Int32)]), .inr ((.object "java/lang/Object"), [.ref 9, .null, .null, .null, .null, .null, .null, .null, .null, .null])]) (sl' := (((((((((sl + 19) + 0) + 0) + 0) + 0) + 0) + 0) + 0) + 0)) rfl ?_
      refine mmW_f (XT.ii_ne_f (rfl)) ?_
      refine mmW_steps (k := 7) (n := 824) (pc' := (if if_icmp.holds .ne (if e1 < x4 then x4 else e1) (if e1 < x4 then x4 else e1) = true then 224 else 207)) (L' := [.val (.int x0), .val (.int x1), .val (.int x2), .val (.int x3), .val (.int x4), .val (.ref 7), .val (.ref 8), .val (.int (0 : Int32)), .val (.int (1 : Int32)), .val (.int (1 : Int32)), .unset]) (S' := []) (H' := [.inr ((.object "java/lang/Object"), []), .inl (1, [.ref 4, .int (0 : Int32)]), .inl (1, [.ref 5, .int (0 : Int32)]), .inl (1, [.ref 6, .int (0 : Int32)]), .inr (.byte, b0), .inr (.byte, b1), .inr (.byte, b2), .inr (.int, [.int (if e0 < x2 then x2 else e0), .int (if e1 < x4 then x4 else e1), .int e2]), .inl (0, [.ref 10, .ref 11, .ref 12]), .inr ((.object "java/lang/String"), [.ref 1, .ref 2, .ref 3]), .inl (2, [.int (1 : Int32), .ref 13, .int (1 : Int32)]), .inr (.int, [.int (if e0 < x2 then x2 else e0), .int (if e1 < x4 then x4 else e1), .int e2]), .inr (.boolean, [.int (0 : Int32), .int (0 : Int32), .int (0 : Int32)]), .inr ((.object "java/lang/Object"), [.ref 9, .null, .null, .null, .null, .null, .null, .null, .null, .null])]) (sl' := ((((((((((sl + 19) + 0) + 0) + 0) + 0) + 0) + 0) + 0) + 0) + 0)) rfl ?_
      refine mmW_f (XT.ii_ne_f (rfl)) ?_
      refine mmW_steps (k := 7) (n := 817) (pc' := (if if_icmp.holds .ne e2 e2 = true then 224 else 220)) (L' := [.val (.int x0), .val (.int x1), .val (.int x2), .val (.int x3), .val (.int x4), .val (.ref 7), .val (.ref 8), .val (.int (0 : Int32)), .val (.int (1 : Int32)), .val (.int (1 : Int32)), .unset]) (S' := []) (H' := [.inr ((.object "java/lang/Object"), []), .inl (1, [.ref 4, .int (0 : Int32)]), .inl (1, [.ref 5, .int (0 : Int32)]), .inl (1, [.ref 6, .int (0 : Int32)]), .inr (.byte, b0), .inr (.byte, b1), .inr (.byte, b2), .inr (.int, [.int (if e0 < x2 then x2 else e0), .int (if e1 < x4 then x4 else e1), .int e2]), .inl (0, [.ref 10, .ref 11, .ref 12]), .inr ((.object "java/lang/String"), [.ref 1, .ref 2, .ref 3]), .inl (2, [.int (1 : Int32), .ref 13, .int (1 : Int32)]), .inr (.int, [.int (if e0 < x2 then x2 else e0), .int (if e1 < x4 then x4 else e1), .int e2]), .inr (.boolean, [.int (0 : Int32), .int (0 : Int32), .int (0 : Int32)]), .inr ((.object "java/lang/Object"), [.ref 9, .null, .null, .null, .null, .null, .null, .null, .null, .null])]) (sl' := (((((((((((sl + 19) + 0) + 0) + 0) + 0) + 0) + 0) + 0) + 0) + 0) + 0)) rfl ?_
      refine mmW_f (XT.ii_ne_f (rfl)) ?_
      refine mmW_steps (k := 9) (n := 808) (pc' := 242) (L' := [.val (.int x0), .val (.int x1), .val (.int x2), .val (.int x3), .val (.int x4), .val (.ref 7), .val (.ref 8), .val (.int (0 : Int32)), .val (.int (1 : Int32)), .val (.int (1 : Int32)), .val (.int (1 : Int32))]) (S' := [.int (1 : Int32)]) (H' := [.inr ((.object "java/lang/Object"), []), .inl (1, [.ref 4, .int (0 : Int32)]), .inl (1, [.ref 5, .int (0 : Int32)]), .inl (1, [.ref 6, .int (0 : Int32)]), .inr (.byte, b0), .inr (.byte, b1), .inr (.byte, b2), .inr (.int, [.int (if e0 < x2 then x2 else e0), .int (if e1 < x4 then x4 else e1), .int e2]), .inl (0, [.ref 10, .ref 11, .ref 12]), .inr ((.object "java/lang/String"), [.ref 1, .ref 2, .ref 3]), .inl (2, [.int (1 : Int32), .ref 13, .int (1 : Int32)]), .inr (.int, [.int (if e0 < x2 then x2 else e0), .int (if e1 < x4 then x4 else e1), .int e2]), .inr (.boolean, [.int (0 : Int32), .int (0 : Int32), .int (0 : Int32)]), .inr ((.object "java/lang/Object"), [.ref 9, .null, .null, .null, .null, .null, .null, .null, .null, .null])]) (sl' := (((((((((((sl + 19) + 0) + 0) + 0) + 0) + 0) + 0) + 0) + 0) + 0) + 0)) rfl ?_
      exact mmW_ret (n := 807) (i := .ireturn) rfl rfl ⟨rfl, rfl, by omega⟩
    · rw [hq]
      refine mmW_steps (k := 20) (n := 867) (pc' := (if if_icmp.holds .ne (if e0 < x2 then x2 else e0) (if e0 < x2 then x2 else e0) = true then 154 else 124)) (L' := [.val (.int x0), .val (.int x1), .val (.int x2), .val (.int x3), .val (.int x4), .val (.ref 7), .val (.ref 8), .val (.int (0 : Int32)), .val (.int (2 : Int32)), .unset, .unset]) (S' := []) (H' := [.inr ((.object "java/lang/Object"), []), .inl (1, [.ref 4, .int (0 : Int32)]), .inl (1, [.ref 5, .int (0 : Int32)]), .inl (1, [.ref 6, .int (0 : Int32)]), .inr (.byte, b0), .inr (.byte, b1), .inr (.byte, b2), .inr (.int, [.int (if e0 < x2 then x2 else e0), .int e1, .int e2]), .inl (0, [.ref 10, .ref 11, .ref 12]), .inr ((.object "java/lang/String"), [.ref 1, .ref 2, .ref 3]), .inl (2, [.int (1 : Int32), .ref 13, .int (1 : Int32)]), .inr (.int, [.int (if e0 < x2 then x2 else e0), .int e1, .int e2]), .inr (.boolean, [.int (0 : Int32), .int (0 : Int32), .int (0 : Int32)]), .inr ((.object "java/lang/Object"), [.ref 9, .null, .null, .null, .null, .null, .null, .null, .null, .null])]) (sl' := ((((sl + 19) + 0) + 0) + 0)) rfl ?_
      refine mmW_f (XT.ii_ne_f (rfl)) ?_
      refine mmW_steps (k := 7) (n := 860) (pc' := (if if_icmp.holds .ne e1 e1 = true then 154 else 137)) (L' := [.val (.int x0), .val (.int x1), .val (.int x2), .val (.int x3), .val (.int x4), .val (.ref 7), .val (.ref 8), .val (.int (0 : Int32)), .val (.int (2 : Int32)), .unset, .unset]) (S' := []) (H' := [.inr ((.object "java/lang/Object"), []), .inl (1, [.ref 4, .int (0 : Int32)]), .inl (1, [.ref 5, .int (0 : Int32)]), .inl (1, [.ref 6, .int (0 : Int32)]), .inr (.byte, b0), .inr (.byte, b1), .inr (.byte, b2), .inr (.int, [.int (if e0 < x2 then x2 else e0), .int e1, .int e2]), .inl (0, [.ref 10, .ref 11, .ref 12]), .inr ((.object "java/lang/String"), [.ref 1, .ref 2, .ref 3]), .inl (2, [.int (1 : Int32), .ref 13, .int (1 : Int32)]), .inr (.int, [.int (if e0 < x2 then x2 else e0), .int e1, .int e2]), .inr (.boolean, [.int (0 : Int32), .int (0 : Int32), .int (0 : Int32)]), .inr ((.object "java/lang/Object"), [.ref 9, .null, .null, .null, .null, .null, .null, .null, .null, .null])]) (sl' := (((((sl + 19) + 0) + 0) + 0) + 0)) rfl ?_
      refine mmW_f (XT.ii_ne_f (rfl)) ?_
      refine mmW_steps (k := 7) (n := 853) (pc' := (if if_icmp.holds .ne e2 e2 = true then 154 else 150)) (L' := [.val (.int x0), .val (.int x1), .val (.int x2), .val (.int x3), .val (.int x4), .val (.ref 7), .val (.ref 8), .val (.int (0 : Int32)), .val (.int (2 : Int32)), .unset, .unset]) (S' := []) (H' := [.inr ((.object "java/lang/Object"), []), .inl (1, [.ref 4, .int (0 : Int32)]), .inl (1, [.ref 5, .int (0 : Int32)]), .inl (1, [.ref 6, .int (0 : Int32)]), .inr (.byte, b0), .inr (.byte, b1), .inr (.byte, b2), .inr (.int, [.int (if e0 < x2 then x2 else e0), .int e1, .int e2]), .inl (0, [.ref 10, .ref 11, .ref 12]), .inr ((.object "java/lang/String"), [.ref 1, .ref 2, .ref 3]), .inl (2, [.int (1 : Int32), .ref 13, .int (1 : Int32)]), .inr (.int, [.int (if e0 < x2 then x2 else e0), .int e1, .int e2]), .inr (.boolean, [.int (0 : Int32), .int (0 : Int32), .int (0 : Int32)]), .inr ((.object "java/lang/Object"), [.ref 9, .null, .null, .null, .null, .null, .null, .null, .null, .null])]) (sl' := ((((((sl + 19) + 0) + 0) + 0) + 0) + 0)) rfl ?_
      refine mmW_f (XT.ii_ne_f (rfl)) ?_
      refine mmW_steps (k := 22) (n := 831) (pc' := (if if_icmp.holds .ne (if e0 < x2 then x2 else e0) (if e0 < x2 then x2 else e0) = true then 224 else 194)) (L' := [.val (.int x0), .val (.int x1), .val (.int x2), .val (.int x3), .val (.int x4), .val (.ref 7), .val (.ref 8), .val (.int (0 : Int32)), .val (.int (2 : Int32)), .val (.int (1 : Int32)), .unset]) (S' := []) (H' := [.inr ((.object "java/lang/Object"), []), .inl (1, [.ref 4, .int (0 : Int32)]), .inl (1, [.ref 5, .int (0 : Int32)]), .inl (1, [.ref 6, .int (0 : Int32)]), .inr (.byte, b0), .inr (.byte, b1), .inr (.byte, b2), .inr (.int, [.int (if e0 < x2 then x2 else e0), .int e1, .int (if e2 < x4 then x4 else e2)]), .inl (0, [.ref 10, .ref 11, .ref 12]), .inr ((.object "java/lang/String"), [.ref 1, .ref 2, .ref 3]), .inl (2, [.int (1 : Int32), .ref 13, .int (1 : Int32)]), .inr (.int, [.int (if e0 < x2 then x2 else e0), .int e1, .int (if e2 < x4 then x4 else e2)]), .inr (.boolean, [.int (0 : Int32), .int (0 : Int32), .int (0 : Int32)]), .inr ((.object "java/lang/Object"), [.ref 9, .null, .null, .null, .null, .null, .null, .null, .null, .null])]) (sl' := (((((((((sl + 19) + 0) + 0) + 0) + 0) + 0) + 0) + 0) + 0)) rfl ?_
      refine mmW_f (XT.ii_ne_f (rfl)) ?_
      refine mmW_steps (k := 7) (n := 824) (pc' := (if if_icmp.holds .ne e1 e1 = true then 224 else 207)) (L' := [.val (.int x0), .val (.int x1), .val (.int x2), .val (.int x3), .val (.int x4), .val (.ref 7), .val (.ref 8), .val (.int (0 : Int32)), .val (.int (2 : Int32)), .val (.int (1 : Int32)), .unset]) (S' := []) (H' := [.inr ((.object "java/lang/Object"), []), .inl (1, [.ref 4, .int (0 : Int32)]), .inl (1, [.ref 5, .int (0 : Int32)]), .inl (1, [.ref 6, .int (0 : Int32)]), .inr (.byte, b0), .inr (.byte, b1), .inr (.byte, b2), .inr (.int, [.int (if e0 < x2 then x2 else e0), .int e1, .int (if e2 < x4 then x4 else e2)]), .inl (0, [.ref 10, .ref 11, .ref 12]), .inr ((.object "java/lang/String"), [.ref 1, .ref 2, .ref 3]), .inl (2, [.int (1 : Int32), .ref 13, .int (1 : Int32)]), .inr (.int, [.int (if e0 < x2 then x2 else e0), .int e1, .int (if e2 < x4 then x4 else e2)]), .inr (.boolean, [.int (0 : Int32), .int (0 : Int32), .int (0 : Int32)]), .inr ((.object "java/lang/Object"), [.ref 9, .null, .null, .null, .null, .null, .null, .null, .null, .null])]) (sl' := ((((((((((sl + 19) + 0) + 0) + 0) + 0) + 0) + 0) + 0) + 0) + 0)) rfl ?_
      refine mmW_f (XT.ii_ne_f (rfl)) ?_
      refine mmW_steps (k := 7) (n := 817) (pc' := (if if_icmp.holds .ne (if e2 < x4 then x4 else e2) (if e2 < x4 then x4 else e2) = true then 224 else 220)) (L' := [.val (.int x0), .val (.int x1), .val (.int x2), .val (.int x3), .val (.int x4), .val (.ref 7), .val (.ref 8), .val (.int (0 : Int32)), .val (.int (2 : Int32)), .val (.int (1 : Int32)), .unset]) (S' := []) (H' := [.inr ((.object "java/lang/Object"), []), .inl (1, [.ref 4, .int (0 : Int32)]), .inl (1, [.ref 5, .int (0 : Int32)]), .inl (1, [.ref 6, .int (0 : Int32)]), .inr (.byte, b0), .inr (.byte, b1), .inr (.byte, b2), .inr (.int, [.int (if e0 < x2 then x2 else e0), .int e1, .int (if e2 < x4 then x4 else e2)]), .inl (0, [.ref 10, .ref 11, .ref 12]), .inr ((.object "java/lang/String"), [.ref 1, .ref 2, .ref 3]), .inl (2, [.int (1 : Int32), .ref 13, .int (1 : Int32)]), .inr (.int, [.int (if e0 < x2 then x2 else e0), .int e1, .int (if e2 < x4 then x4 else e2)]), .inr (.boolean, [.int (0 : Int32), .int (0 : Int32), .int (0 : Int32)]), .inr ((.object "java/lang/Object"), [.ref 9, .null, .null, .null, .null, .null, .null, .null, .null, .null])]) (sl' := (((((((((((sl + 19) + 0) + 0) + 0) + 0) + 0) + 0) + 0) + 0) + 0) + 0)) rfl ?_
      refine mmW_f (XT.ii_ne_f (rfl)) ?_
      refine mmW_steps (k := 9) (n := 808) (pc' := 242) (L' := [.val (.int x0), .val (.int x1), .val (.int x2), .val (.int x3), .val (.int x4), .val (.ref 7), .val (.ref 8), .val (.int (0 : Int32)), .val (.int (2 : Int32)), .val (.int (1 : Int32)), .val (.int (1 : Int32))]) (S' := [.int (1 : Int32)]) (H' := [.inr ((.object "java/lang/Object"), []), .inl (1, [.ref 4, .int (0 : Int32)]), .inl (1, [.ref 5, .int (0 : Int32)]), .inl (1, [.ref 6, .int (0 : Int32)]), .inr (.byte, b0), .inr (.byte, b1), .inr (.byte, b2), .inr (.int, [.int (if e0 < x2 then x2 else e0), .int e1, .int (if e2 < x4 then x4 else e2)]), .inl (0, [.ref 10, .ref 11, .ref 12]), .inr ((.object "java/lang/String"), [.ref 1, .ref 2, .ref 3]), .inl (2, [.int (1 : Int32), .ref 13, .int (1 : Int32)]), .inr (.int, [.int (if e0 < x2 then x2 else e0), .int e1, .int (if e2 < x4 then x4 else e2)]), .inr (.boolean, [.int (0 : Int32), .int (0 : Int32), .int (0 : Int32)]), .inr ((.object "java/lang/Object"), [.ref 9, .null, .null, .null, .null, .null, .null, .null, .null, .null])]) (sl' := (((((((((((sl + 19) + 0) + 0) + 0) + 0) + 0) + 0) + 0) + 0) + 0) + 0)) rfl ?_
      exact mmW_ret (n := 807) (i := .ireturn) rfl rfl ⟨rfl, rfl, by omega⟩
  · rw [hq]
    refine mmW_steps (k := 6) (n := 887) (pc' := 87) (L' := [.val (.int x0), .val (.int x1), .val (.int x2), .val (.int x3), .val (.int x4), .val (.ref 7), .val (.ref 8), .val (.int (1 : Int32)), .unset, .unset, .unset]) (S' := [.int ((x3 &&& (2147483647 : Int32)) % (3 : Int32))]) (H' := [.inr ((.object "java/lang/Object"), []), .inl (1, [.ref 4, .int (0 : Int32)]), .inl (1, [.ref 5, .int (0 : Int32)]), .inl (1, [.ref 6, .int (0 : Int32)]), .inr (.byte, b0), .inr (.byte, b1), .inr (.byte, b2), .inr (.int, [.int e0, .int e1, .int e2]), .inl (0, [.ref 10, .ref 11, .ref 12]), .inr ((.object "java/lang/String"), [.ref 1, .ref 2, .ref 3]), .inl (2, [.int (1 : Int32), .ref 13, .int (1 : Int32)]), .inr (.int, [.int e0, .int e1, .int e2]), .inr (.boolean, [.int (0 : Int32), .int (0 : Int32), .int (0 : Int32)]), .inr ((.object "java/lang/Object"), [.ref 9, .null, .null, .null, .null, .null, .null, .null, .null, .null])]) (sl' := (sl + 19)) rfl ?_
    rcases own_mod3 x3 with hq | hq | hq
    · rw [hq]
      refine mmW_steps (k := 20) (n := 867) (pc' := (if if_icmp.holds .ne e0 e0 = true then 154 else 124)) (L' := [.val (.int x0), .val (.int x1), .val (.int x2), .val (.int x3), .val (.int x4), .val (.ref 7), .val (.ref 8), .val (.int (1 : Int32)), .val (.int (0 : Int32)), .unset, .unset]) (S' := []) (H' := [.inr ((.object "java/lang/Object"), []), .inl (1, [.ref 4, .int (0 : Int32)]), .inl (1, [.ref 5, .int (0 : Int32)]), .inl (1, [.ref 6, .int (0 : Int32)]), .inr (.byte, b0), .inr (.byte, b1), .inr (.byte, b2), .inr (.int, [.int e0, .int (if e1 < x2 then x2 else e1), .int e2]), .inl (0, [.ref 10, .ref 11, .ref 12]), .inr ((.object "java/lang/String"), [.ref 1, .ref 2, .ref 3]), .inl (2, [.int (1 : Int32), .ref 13, .int (1 : Int32)]), .inr (.int, [.int e0, .int (if e1 < x2 then x2 else e1), .int e2]), .inr (.boolean, [.int (0 : Int32), .int (0 : Int32), .int (0 : Int32)]), .inr ((.object "java/lang/Object"), [.ref 9, .null, .null, .null, .null, .null, .null, .null, .null, .null])]) (sl' := ((((sl + 19) + 0) + 0) + 0)) rfl ?_
      refine mmW_f (XT.ii_ne_f (rfl)) ?_
      refine mmW_steps (k := 7) (n := 860) (pc' := (if if_icmp.holds .ne (if e1 < x2 then x2 else e1) (if e1 < x2 then x2 else e1) = true then 154 else 137)) (L' := [.val (.int x0), .val (.int x1), .val (.int x2), .val (.int x3), .val (.int x4), .val (.ref 7), .val (.ref 8), .val (.int (1 : Int32)), .val (.int (0 : Int32)), .unset, .unset]) (S' := []) (H' := [.inr ((.object "java/lang/Object"), []), .inl (1, [.ref 4, .int (0 : Int32)]), .inl (1, [.ref 5, .int (0 : Int32)]), .inl (1, [.ref 6, .int (0 : Int32)]), .inr (.byte, b0), .inr (.byte, b1), .inr (.byte, b2), .inr (.int, [.int e0, .int (if e1 < x2 then x2 else e1), .int e2]), .inl (0, [.ref 10, .ref 11, .ref 12]), .inr ((.object "java/lang/String"), [.ref 1, .ref 2, .ref 3]), .inl (2, [.int (1 : Int32), .ref 13, .int (1 : Int32)]), .inr (.int, [.int e0, .int (if e1 < x2 then x2 else e1), .int e2]), .inr (.boolean, [.int (0 : Int32), .int (0 : Int32), .int (0 : Int32)]), .inr ((.object "java/lang/Object"), [.ref 9, .null, .null, .null, .null, .null, .null, .null, .null, .null])]) (sl' := (((((sl + 19) + 0) + 0) + 0) + 0)) rfl ?_
      refine mmW_f (XT.ii_ne_f (rfl)) ?_
      refine mmW_steps (k := 7) (n := 853) (pc' := (if if_icmp.holds .ne e2 e2 = true then 154 else 150)) (L' := [.val (.int x0), .val (.int x1), .val (.int x2), .val (.int x3), .val (.int x4), .val (.ref 7), .val (.ref 8), .val (.int (1 : Int32)), .val (.int (0 : Int32)), .unset, .unset]) (S' := []) (H' := [.inr ((.object "java/lang/Object"), []), .inl (1, [.ref 4, .int (0 : Int32)]), .inl (1, [.ref 5, .int (0 : Int32)]), .inl (1, [.ref 6, .int (0 : Int32)]), .inr (.byte, b0), .inr (.byte, b1), .inr (.byte, b2), .inr (.int, [.int e0, .int (if e1 < x2 then x2 else e1), .int e2]), .inl (0, [.ref 10, .ref 11, .ref 12]), .inr ((.object "java/lang/String"), [.ref 1, .ref 2, .ref 3]), .inl (2, [.int (1 : Int32), .ref 13, .int (1 : Int32)]), .inr (.int, [.int e0, .int (if e1 < x2 then x2 else e1), .int e2]), .inr (.boolean, [.int (0 : Int32), .int (0 : Int32), .int (0 : Int32)]), .inr ((.object "java/lang/Object"), [.ref 9, .null, .null, .null, .null, .null, .null, .null, .null, .null])]) (sl' := ((((((sl + 19) + 0) + 0) + 0) + 0) + 0)) rfl ?_
      refine mmW_f (XT.ii_ne_f (rfl)) ?_
      refine mmW_steps (k := 22) (n := 831) (pc' := (if if_icmp.holds .ne (if e0 < x4 then x4 else e0) (if e0 < x4 then x4 else e0) = true then 224 else 194)) (L' := [.val (.int x0), .val (.int x1), .val (.int x2), .val (.int x3), .val (.int x4), .val (.ref 7), .val (.ref 8), .val (.int (1 : Int32)), .val (.int (0 : Int32)), .val (.int (1 : Int32)), .unset]) (S' := []) (H' := [.inr ((.object "java/lang/Object"), []), .inl (1, [.ref 4, .int (0 : Int32)]), .inl (1, [.ref 5, .int (0 : Int32)]), .inl (1, [.ref 6, .int (0 : Int32)]), .inr (.byte, b0), .inr (.byte, b1), .inr (.byte, b2), .inr (.int, [.int (if e0 < x4 then x4 else e0), .int (if e1 < x2 then x2 else e1), .int e2]), .inl (0, [.ref 10, .ref 11, .ref 12]), .inr ((.object "java/lang/String"), [.ref 1, .ref 2, .ref 3]), .inl (2, [.int (1 : Int32), .ref 13, .int (1 : Int32)]), .inr (.int, [.int (if e0 < x4 then x4 else e0), .int (if e1 < x2 then x2 else e1), .int e2]), .inr (.boolean, [.int (0 : Int32), .int (0 : Int32), .int (0 : Int32)]), .inr ((.object "java/lang/Object"), [.ref 9, .null, .null, .null, .null, .null, .null, .null, .null, .null])]) (sl' := (((((((((sl + 19) + 0) + 0) + 0) + 0) + 0) + 0) + 0) + 0)) rfl ?_
      refine mmW_f (XT.ii_ne_f (rfl)) ?_
      refine mmW_steps (k := 7) (n := 824) (pc' := (if if_icmp.holds .ne (if e1 < x2 then x2 else e1) (if e1 < x2 then x2 else e1) = true then 224 else 207)) (L' := [.val (.int x0), .val (.int x1), .val (.int x2), .val (.int x3), .val (.int x4), .val (.ref 7), .val (.ref 8), .val (.int (1 : Int32)), .val (.int (0 : Int32)), .val (.int (1 : Int32)), .unset]) (S' := []) (H' := [.inr ((.object "java/lang/Object"), []), .inl (1, [.ref 4, .int (0 : Int32)]), .inl (1, [.ref 5, .int (0 : Int32)]), .inl (1, [.ref 6, .int (0 : Int32)]), .inr (.byte, b0), .inr (.byte, b1), .inr (.byte, b2), .inr (.int, [.int (if e0 < x4 then x4 else e0), .int (if e1 < x2 then x2 else e1), .int e2]), .inl (0, [.ref 10, .ref 11, .ref 12]), .inr ((.object "java/lang/String"), [.ref 1, .ref 2, .ref 3]), .inl (2, [.int (1 : Int32), .ref 13, .int (1 : Int32)]), .inr (.int, [.int (if e0 < x4 then x4 else e0), .int (if e1 < x2 then x2 else e1), .int e2]), .inr (.boolean, [.int (0 : Int32), .int (0 : Int32), .int (0 : Int32)]), .inr ((.object "java/lang/Object"), [.ref 9, .null, .null, .null, .null, .null, .null, .null, .null, .null])]) (sl' := ((((((((((sl + 19) + 0) + 0) + 0) + 0) + 0) + 0) + 0) + 0) + 0)) rfl ?_
      refine mmW_f (XT.ii_ne_f (rfl)) ?_
      refine mmW_steps (k := 7) (n := 817) (pc' := (if if_icmp.holds .ne e2 e2 = true then 224 else 220)) (L' := [.val (.int x0), .val (.int x1), .val (.int x2), .val (.int x3), .val (.int x4), .val (.ref 7), .val (.ref 8), .val (.int (1 : Int32)), .val (.int (0 : Int32)), .val (.int (1 : Int32)), .unset]) (S' := []) (H' := [.inr ((.object "java/lang/Object"), []), .inl (1, [.ref 4, .int (0 : Int32)]), .inl (1, [.ref 5, .int (0 : Int32)]), .inl (1, [.ref 6, .int (0 : Int32)]), .inr (.byte, b0), .inr (.byte, b1), .inr (.byte, b2), .inr (.int, [.int (if e0 < x4 then x4 else e0), .int (if e1 < x2 then x2 else e1), .int e2]), .inl (0, [.ref 10, .ref 11, .ref 12]), .inr ((.object "java/lang/String"), [.ref 1, .ref 2, .ref 3]), .inl (2, [.int (1 : Int32), .ref 13, .int (1 : Int32)]), .inr (.int, [.int (if e0 < x4 then x4 else e0), .int (if e1 < x2 then x2 else e1), .int e2]), .inr (.boolean, [.int (0 : Int32), .int (0 : Int32), .int (0 : Int32)]), .inr ((.object "java/lang/Object"), [.ref 9, .null, .null, .null, .null, .null, .null, .null, .null, .null])]) (sl' := (((((((((((sl + 19) + 0) + 0) + 0) + 0) + 0) + 0) + 0) + 0) + 0) + 0)) rfl ?_
      refine mmW_f (XT.ii_ne_f (rfl)) ?_
      refine mmW_steps (k := 9) (n := 808) (pc' := 242) (L' := [.val (.int x0), .val (.int x1), .val (.int x2), .val (.int x3), .val (.int x4), .val (.ref 7), .val (.ref 8), .val (.int (1 : Int32)), .val (.int (0 : Int32)), .val (.int (1 : Int32)), .val (.int (1 : Int32))]) (S' := [.int (1 : Int32)]) (H' := [.inr ((.object "java/lang/Object"), []), .inl (1, [.ref 4, .int (0 : Int32)]), .inl (1, [.ref 5, .int (0 : Int32)]), .inl (1, [.ref 6, .int (0 : Int32)]), .inr (.byte, b0), .inr (.byte, b1), .inr (.byte, b2), .inr (.int, [.int (if e0 < x4 then x4 else e0), .int (if e1 < x2 then x2 else e1), .int e2]), .inl (0, [.ref 10, .ref 11, .ref 12]), .inr ((.object "java/lang/String"), [.ref 1, .ref 2, .ref 3]), .inl (2, [.int (1 : Int32), .ref 13, .int (1 : Int32)]), .inr (.int, [.int (if e0 < x4 then x4 else e0), .int (if e1 < x2 then x2 else e1), .int e2]), .inr (.boolean, [.int (0 : Int32), .int (0 : Int32), .int (0 : Int32)]), .inr ((.object "java/lang/Object"), [.ref 9, .null, .null, .null, .null, .null, .null, .null, .null, .null])]) (sl' := (((((((((((sl + 19) + 0) + 0) + 0) + 0) + 0) + 0) + 0) + 0) + 0) + 0)) rfl ?_
      exact mmW_ret (n := 807) (i := .ireturn) rfl rfl ⟨rfl, rfl, by omega⟩
    · rw [hq]
      refine mmW_steps (k := 20) (n := 867) (pc' := (if if_icmp.holds .ne e0 e0 = true then 154 else 124)) (L' := [.val (.int x0), .val (.int x1), .val (.int x2), .val (.int x3), .val (.int x4), .val (.ref 7), .val (.ref 8), .val (.int (1 : Int32)), .val (.int (1 : Int32)), .unset, .unset]) (S' := []) (H' := [.inr ((.object "java/lang/Object"), []), .inl (1, [.ref 4, .int (0 : Int32)]), .inl (1, [.ref 5, .int (0 : Int32)]), .inl (1, [.ref 6, .int (0 : Int32)]), .inr (.byte, b0), .inr (.byte, b1), .inr (.byte, b2), .inr (.int, [.int e0, .int (if e1 < x2 then x2 else e1), .int e2]), .inl (0, [.ref 10, .ref 11, .ref 12]), .inr ((.object "java/lang/String"), [.ref 1, .ref 2, .ref 3]), .inl (2, [.int (1 : Int32), .ref 13, .int (1 : Int32)]), .inr (.int, [.int e0, .int (if e1 < x2 then x2 else e1), .int e2]), .inr (.boolean, [.int (0 : Int32), .int (0 : Int32), .int (0 : Int32)]), .inr ((.object "java/lang/Object"), [.ref 9, .null, .null, .null, .null, .null, .null, .null, .null, .null])]) (sl' := ((((sl + 19) + 0) + 0) + 0)) rfl ?_
      refine mmW_f (XT.ii_ne_f (rfl)) ?_
      refine mmW_steps (k := 7) (n := 860) (pc' := (if if_icmp.holds .ne (if e1 < x2 then x2 else e1) (if e1 < x2 then x2 else e1) = true then 154 else 137)) (L' := [.val (.int x0), .val (.int x1), .val (.int x2), .val (.int x3), .val (.int x4), .val (.ref 7), .val (.ref 8), .val (.int (1 : Int32)), .val (.int (1 : Int32)), .unset, .unset]) (S' := []) (H' := [.inr ((.object "java/lang/Object"), []), .inl (1, [.ref 4, .int (0 : Int32)]), .inl (1, [.ref 5, .int (0 : Int32)]), .inl (1, [.ref 6, .int (0 : Int32)]), .inr (.byte, b0), .inr (.byte, b1), .inr (.byte, b2), .inr (.int, [.int e0, .int (if e1 < x2 then x2 else e1), .int e2]), .inl (0, [.ref 10, .ref 11, .ref 12]), .inr ((.object "java/lang/String"), [.ref 1, .ref 2, .ref 3]), .inl (2, [.int (1 : Int32), .ref 13, .int (1 : Int32)]), .inr (.int, [.int e0, .int (if e1 < x2 then x2 else e1), .int e2]), .inr (.boolean, [.int (0 : Int32), .int (0 : Int32), .int (0 : Int32)]), .inr ((.object "java/lang/Object"), [.ref 9, .null, .null, .null, .null, .null, .null, .null, .null, .null])]) (sl' := (((((sl + 19) + 0) + 0) + 0) + 0)) rfl ?_
      refine mmW_f (XT.ii_ne_f (rfl)) ?_
      refine mmW_steps (k := 7) (n := 853) (pc' := (if if_icmp.holds .ne e2 e2 = true then 154 else 150)) (L' := [.val (.int x0), .val (.int x1), .val (.int x2), .val (.int x3), .val (.int x4), .val (.ref 7), .val (.ref 8), .val (.int (1 : Int32)), .val (.int (1 : Int32)), .unset, .unset]) (S' := []) (H' := [.inr ((.object "java/lang/Object"), []), .inl (1, [.ref 4, .int (0 : Int32)]), .inl (1, [.ref 5, .int (0 : Int32)]), .inl (1, [.ref 6, .int (0 : Int32)]), .inr (.byte, b0), .inr (.byte, b1), .inr (.byte, b2), .inr (.int, [.int e0, .int (if e1 < x2 then x2 else e1), .int e2]), .inl (0, [.ref 10, .ref 11, .ref 12]), .inr ((.object "java/lang/String"), [.ref 1, .ref 2, .ref 3]), .inl (2, [.int (1 : Int32), .ref 13, .int (1 : Int32)]), .inr (.int, [.int e0, .int (if e1 < x2 then x2 else e1), .int e2]), .inr (.boolean, [.int (0 : Int32), .int (0 : Int32), .int (0 : Int32)]), .inr ((.object "java/lang/Object"), [.ref 9, .null, .null, .null, .null, .null, .null, .null, .null, .null])]) (sl' := ((((((sl + 19) + 0) + 0) + 0) + 0) + 0)) rfl ?_
      refine mmW_f (XT.ii_ne_f (rfl)) ?_
      refine mmW_steps (k := 22) (n := 831) (pc' := (if if_icmp.holds .ne e0 e0 = true then 224 else 194)) (L' := [.val (.int x0), .val (.int x1), .val (.int x2), .val (.int x3), .val (.int x4), .val (.ref 7), .val (.ref 8), .val (.int (1 : Int32)), .val (.int (1 : Int32)), .val (.int (1 : Int32)), .unset]) (S' := []) (H' := [.inr ((.object "java/lang/Object"), []), .inl (1, [.ref 4, .int (0 : Int32)]), .inl (1, [.ref 5, .int (0 : Int32)]), .inl (1, [.ref 6, .int (0 : Int32)]), .inr (.byte, b0), .inr (.byte, b1), .inr (.byte, b2), .inr (.int, [.int e0, .int (if (if e1 < x2 then x2 else e1) < x4 then x4 else (if e1 < x2 then x2 else e1)), .int e2]), .inl (0, [.ref 10, .ref 11, .ref 12]), .inr ((.object "java/lang/String"), [.ref 1, .ref 2, .ref 3]), .inl (2, [.int (1 : Int32), .ref 13, .int (1 : Int32)]), .inr (.int, [.int e0, .int (if (if e1 < x2 then x2 else e1) < x4 then x4 else (if e1 < x2 then x2 else e1)), .int e2]), .inr (.boolean, [.int (0 : Int32), .int (0 : Int32), .int (0 : Int32)]), .inr ((.object "java/lang/Object"), [.ref 9, .null, .null, .null, .null, .null, .null, .null, .null, .null])]) (sl' := (((((((((sl + 19) + 0) + 0) + 0) + 0) + 0) + 0) + 0) + 0)) rfl ?_
      refine mmW_f (XT.ii_ne_f (rfl)) ?_
      refine mmW_steps (k := 7) (n := 824) (pc' := (if if_icmp.holds .ne (if (if e1 < x2 then x2 else e1) < x4 then x4 else (if e1 < x2 then x2 else e1)) (if (if e1 < x2 then x2 else e1) < x4 then x4 else (if e1 < x2 then x2 else e1)) = true then 224 else 207)) (L' := [.val (.int x0), .val (.int x1), .val (.int x2), .val (.int x3), .val (.int x4), .val (.ref 7), .val (.ref 8), .val (.int (1 : Int32)), .val (.int (1 : Int32)), .val (.int (1 : Int32)), .unset]) (S' := []) (H' := [.inr ((.object "java/lang/Object"), []), .inl (1, [.ref 4, .int (0 : Int32)]), .inl (1, [.ref 5, .int (0 : Int32)]), .inl (1, [.ref 6, .int (0 : Int32)]), .inr (.byte, b0), .inr (.byte, b1), .inr (.byte, b2), .inr (.int, [.int e0, .int (if (if e1 < x2 then x2 else e1) < x4 then x4 else (if e1 < x2 then x2 else e1)), .int e2]), .inl (0, [.ref 10, .ref 11, .ref 12]), .inr ((.object "java/lang/String"), [.ref 1, .ref 2, .ref 3]), .inl (2, [.int (1 : Int32), .ref 13, .int (1 : Int32)]), .inr (.int, [.int e0, .int (if (if e1 < x2 then x2 else e1) < x4 then x4 else (if e1 < x2 then x2 else e1)), .int e2]), .inr (.boolean, [.int (0 : Int32), .int (0 : Int32), .int (0 : Int32)]), .inr ((.object "java/lang/Object"), [.ref 9, .null, .null, .null, .null, .null, .null, .null, .null, .null])]) (sl' := ((((((((((sl + 19) + 0) + 0) + 0) + 0) + 0) + 0) + 0) + 0) + 0)) rfl ?_
      refine mmW_f (XT.ii_ne_f (rfl)) ?_
      refine mmW_steps (k := 7) (n := 817) (pc' := (if if_icmp.holds .ne e2 e2 = true then 224 else 220)) (L' := [.val (.int x0), .val (.int x1), .val (.int x2), .val (.int x3), .val (.int x4), .val (.ref 7), .val (.ref 8), .val (.int (1 : Int32)), .val (.int (1 : Int32)), .val (.int (1 : Int32)), .unset]) (S' := []) (H' := [.inr ((.object "java/lang/Object"), []), .inl (1, [.ref 4, .int (0 : Int32)]), .inl (1, [.ref 5, .int (0 : Int32)]), .inl (1, [.ref 6, .int (0 : Int32)]), .inr (.byte, b0), .inr (.byte, b1), .inr (.byte, b2), .inr (.int, [.int e0, .int (if (if e1 < x2 then x2 else e1) < x4 then x4 else (if e1 < x2 then x2 else e1)), .int e2]), .inl (0, [.ref 10, .ref 11, .ref 12]), .inr ((.object "java/lang/String"), [.ref 1, .ref 2, .ref 3]), .inl (2, [.int (1 : Int32), .ref 13, .int (1 : Int32)]), .inr (.int, [.int e0, .int (if (if e1 < x2 then x2 else e1) < x4 then x4 else (if e1 < x2 then x2 else e1)), .int e2]), .inr (.boolean, [.int (0 : Int32), .int (0 : Int32), .int (0 : Int32)]), .inr ((.object "java/lang/Object"), [.ref 9, .null, .null, .null, .null, .null, .null, .null, .null, .null])]) (sl' := (((((((((((sl + 19) + 0) + 0) + 0) + 0) + 0) + 0) + 0) + 0) + 0) + 0)) rfl ?_
      refine mmW_f (XT.ii_ne_f (rfl)) ?_
      refine mmW_steps (k := 9) (n := 808) (pc' := 242) (L' := [.val (.int x0), .val (.int x1), .val (.int x2), .val (.int x3), .val (.int x4), .val (.ref 7), .val (.ref 8), .val (.int (1 : Int32)), .val (.int (1 : Int32)), .val (.int (1 : Int32)), .val (.int (1 : Int32))]) (S' := [.int (1 : Int32)]) (H' := [.inr ((.object "java/lang/Object"), []), .inl (1, [.ref 4, .int (0 : Int32)]), .inl (1, [.ref 5, .int (0 : Int32)]), .inl (1, [.ref 6, .int (0 : Int32)]), .inr (.byte, b0), .inr (.byte, b1), .inr (.byte, b2), .inr (.int, [.int e0, .int (if (if e1 < x2 then x2 else e1) < x4 then x4 else (if e1 < x2 then x2 else e1)), .int e2]), .inl (0, [.ref 10, .ref 11, .ref 12]), .inr ((.object "java/lang/String"), [.ref 1, .ref 2, .ref 3]), .inl (2, [.int (1 : Int32), .ref 13, .int (1 : Int32)]), .inr (.int, [.int e0, .int (if (if e1 < x2 then x2 else e1) < x4 then x4 else (if e1 < x2 then x2 else e1)), .int e2]), .inr (.boolean, [.int (0 : Int32), .int (0 : Int32), .int (0 : Int32)]), .inr ((.object "java/lang/Object"), [.ref 9, .null, .null, .null, .null, .null, .null, .null, .null, .null])]) (sl' := (((((((((((sl + 19) + 0) + 0) + 0) + 0) + 0) + 0) + 0) + 0) + 0) + 0)) rfl ?_
      exact mmW_ret (n := 807) (i := .ireturn) rfl rfl ⟨rfl, rfl, by omega⟩
    · rw [hq]
      refine mmW_steps (k := 20) (n := 867) (pc' := (if if_icmp.holds .ne e0 e0 = true then 154 else 124)) (L' := [.val (.int x0), .val (.int x1), .val (.int x2), .val (.int x3), .val (.int x4), .val (.ref 7), .val (.ref 8), .val (.int (1 : Int32)), .val (.int (2 : Int32)), .unset, .unset]) (S' := []) (H' := [.inr ((.object "java/lang/Object"), []), .inl (1, [.ref 4, .int (0 : Int32)]), .inl (1, [.ref 5, .int (0 : Int32)]), .inl (1, [.ref 6, .int (0 : Int32)]), .inr (.byte, b0), .inr (.byte, b1), .inr (.byte, b2), .inr (.int, [.int e0, .int (if e1 < x2 then x2 else e1), .int e2]), .inl (0, [.ref 10, .ref 11, .ref 12]), .inr ((.object "java/lang/String"), [.ref 1, .ref 2, .ref 3]), .inl (2, [.int (1 : Int32), .ref 13, .int (1 : Int32)]), .inr (.int, [.int e0, .int (if e1 < x2 then x2 else e1), .int e2]), .inr (.boolean, [.int (0 : Int32), .int (0 : Int32), .int (0 : Int32)]), .inr ((.object "java/lang/Object"), [.ref 9, .null, .null, .null, .null, .null, .null, .null, .null, .null])]) (sl' := ((((sl + 19) + 0) + 0) + 0)) rfl ?_
      refine mmW_f (XT.ii_ne_f (rfl)) ?_
      refine mmW_steps (k := 7) (n := 860) (pc' := (if if_icmp.holds .ne (if e1 < x2 then x2 else e1) (if e1 < x2 then x2 else e1) = true then 154 else 137)) (L' := [.val (.int x0), .val (.int x1), .val (.int x2), .val (.int x3), .val (.int x4), .val (.ref 7), .val (.ref 8), .val (.int (1 : Int32)), .val (.int (2 : Int32)), .unset, .unset]) (S' := []) (H' := [.inr ((.object "java/lang/Object"), []), .inl (1, [.ref 4, .int (0 : Int32)]), .inl (1, [.ref 5, .int (0 : Int32)]), .inl (1, [.ref 6, .int (0 : Int32)]), .inr (.byte, b0), .inr (.byte, b1), .inr (.byte, b2), .inr (.int, [.int e0, .int (if e1 < x2 then x2 else e1), .int e2]), .inl (0, [.ref 10, .ref 11, .ref 12]), .inr ((.object "java/lang/String"), [.ref 1, .ref 2, .ref 3]), .inl (2, [.int (1 : Int32), .ref 13, .int (1 : Int32)]), .inr (.int, [.int e0, .int (if e1 < x2 then x2 else e1), .int e2]), .inr (.boolean, [.int (0 : Int32), .int (0 : Int32), .int (0 : Int32)]), .inr ((.object "java/lang/Object"), [.ref 9, .null, .null, .null, .null, .null, .null, .null, .null, .null])]) (sl' := (((((sl + 19) + 0) + 0) + 0) + 0)) rfl ?_
      refine mmW_f (XT.ii_ne_f (rfl)) ?_
      refine mmW_steps (k := 7) (n := 853) (pc' := (if if_icmp.holds .ne e2 e2 = true then 154 else 150)) (L' := [.val (.int x0), .val (.int x1), .val (.int x2), .val (.int x3), .val (.int x4), .val (.ref 7), .val (.ref 8), .val (.int (1 : Int32)), .val (.int (2 : Int32)), .unset, .unset]) (S' := []) (H' := [.inr ((.object "java/lang/Object"), []), .inl (1, [.ref 4, .int (0 : Int32)]), .inl (1, [.ref 5, .int (0 : Int32)]), .inl (1, [.ref 6, .int (0 : Int32)]), .inr (.byte, b0), .inr (.byte, b1), .inr (.byte, b2), .inr (.int, [.int e0, .int (if e1 < x2 then x2 else e1), .int e2]), .inl (0, [.ref 10, .ref 11, .ref 12]), .inr ((.object "java/lang/String"), [.ref 1, .ref 2, .ref 3]), .inl (2, [.int (1 : Int32), .ref 13, .int (1 : Int32)]), .inr (.int, [.int e0, .int (if e1 < x2 then x2 else e1), .int e2]), .inr (.boolean, [.int (0 : Int32), .int (0 : Int32), .int (0 : Int32)]), .inr ((.object "java/lang/Object"), [.ref 9, .null, .null, .null, .null, .null, .null, .null, .null, .null])]) (sl' := ((((((sl + 19) + 0) + 0) + 0) + 0) + 0)) rfl ?_
      refine mmW_f (XT.ii_ne_f (rfl)) ?_
      refine mmW_steps (k := 22) (n := 831) (pc' := (if if_icmp.holds .ne e0 e0 = true then 224 else 194)) (L' := [.val (.int x0), .val (.int x1), .val (.int x2), .val (.int x3), .val (.int x4), .val (.ref 7), .val (.ref 8), .val (.int (1 : Int32)), .val (.int (2 : Int32)), .val (.int (1 : Int32)), .unset]) (S' := []) (H' := [.inr ((.object "java/lang/Object"), []), .inl (1, [.ref 4, .int (0 : Int32)]), .inl (1, [.ref 5, .int (0 : Int32)]), .inl (1, [.ref 6, .int (0 : Int32)]), .inr (.byte, b0), .inr (.byte, b1), .inr (.byte, b2), .inr (.int, [.int e0, .int (if e1 < x2 then x2 else e1), .int (if e2 < x4 then x4 else e2)]), .inl (0, [.ref 10, .ref 11, .ref 12]), .inr ((.object "java/lang/String"), [.ref 1, .ref 2, .ref 3]), .inl (2, [.int (1 : Int32), .ref 13, .int (1 : Int32)]), .inr (.int, [.int e0, .int (if e1 < x2 then x2 else e1), .int (if e2 < x4 then x4 else e2)]), .inr (.boolean, [.int (0 : Int32), .int (0 : Int32), .int (0 : Int32)]), .inr ((.object "java/lang/Object"), [.ref 9, .null, .null, .null, .null, .null, .null, .null, .null, .null])]) (sl' := (((((((((sl + 19) + 0) + 0) + 0) + 0) + 0) + 0) + 0) + 0)) rfl ?_
      refine mmW_f (XT.ii_ne_f (rfl)) ?_
      refine mmW_steps (k := 7) (n := 824) (pc' := (if if_icmp.holds .ne (if e1 < x2 then x2 else e1) (if e1 < x2 then x2 else e1) = true then 224 else 207)) (L' := [.val (.int x0), .val (.int x1), .val (.int x2), .val (.int x3), .val (.int x4), .val (.ref 7), .val (.ref 8), .val (.int (1 : Int32)), .val (.int (2 : Int32)), .val (.int (1 : Int32)), .unset]) (S' := []) (H' := [.inr ((.object "java/lang/Object"), []), .inl (1, [.ref 4, .int (0 : Int32)]), .inl (1, [.ref 5, .int (0 : Int32)]), .inl (1, [.ref 6, .int (0 : Int32)]), .inr (.byte, b0), .inr (.byte, b1), .inr (.byte, b2), .inr (.int, [.int e0, .int (if e1 < x2 then x2 else e1), .int (if e2 < x4 then x4 else e2)]), .inl (0, [.ref 10, .ref 11, .ref 12]), .inr ((.object "java/lang/String"), [.ref 1, .ref 2, .ref 3]), .inl (2, [.int (1 : Int32), .ref 13, .int (1 : Int32)]), .inr (.int, [.int e0, .int (if e1 < x2 then x2 else e1), .int (if e2 < x4 then x4 else e2)]), .inr (.boolean, [.int (0 : Int32), .int (0 : Int32), .int (0 : Int32)]), .inr ((.object "java/lang/Object"), [.ref 9, .null, .null, .null, .null, .null, .null, .null, .null, .null])]) (sl' := ((((((((((sl + 19) + 0) + 0) + 0) + 0) + 0) + 0) + 0) + 0) + 0)) rfl ?_
      refine mmW_f (XT.ii_ne_f (rfl)) ?_
      refine mmW_steps (k := 7) (n := 817) (pc' := (if if_icmp.holds .ne (if e2 < x4 then x4 else e2) (if e2 < x4 then x4 else e2) = true then 224 else 220)) (L' := [.val (.int x0), .val (.int x1), .val (.int x2), .val (.int x3), .val (.int x4), .val (.ref 7), .val (.ref 8), .val (.int (1 : Int32)), .val (.int (2 : Int32)), .val (.int (1 : Int32)), .unset]) (S' := []) (H' := [.inr ((.object "java/lang/Object"), []), .inl (1, [.ref 4, .int (0 : Int32)]), .inl (1, [.ref 5, .int (0 : Int32)]), .inl (1, [.ref 6, .int (0 : Int32)]), .inr (.byte, b0), .inr (.byte, b1), .inr (.byte, b2), .inr (.int, [.int e0, .int (if e1 < x2 then x2 else e1), .int (if e2 < x4 then x4 else e2)]), .inl (0, [.ref 10, .ref 11, .ref 12]), .inr ((.object "java/lang/String"), [.ref 1, .ref 2, .ref 3]), .inl (2, [.int (1 : Int32), .ref 13, .int (1 : Int32)]), .inr (.int, [.int e0, .int (if e1 < x2 then x2 else e1), .int (if e2 < x4 then x4 else e2)]), .inr (.boolean, [.int (0 : Int32), .int (0 : Int32), .int (0 : Int32)]), .inr ((.object "java/lang/Object"), [.ref 9, .null, .null, .null, .null, .null, .null, .null, .null, .null])]) (sl' := (((((((((((sl + 19) + 0) + 0) + 0) + 0) + 0) + 0) + 0) + 0) + 0) + 0)) rfl ?_
      refine mmW_f (XT.ii_ne_f (rfl)) ?_
      refine mmW_steps (k := 9) (n := 808) (pc' := 242) (L' := [.val (.int x0), .val (.int x1), .val (.int x2), .val (.int x3), .val (.int x4), .val (.ref 7), .val (.ref 8), .val (.int (1 : Int32)), .val (.int (2 : Int32)), .val (.int (1 : Int32)), .val (.int (1 : Int32))]) (S' := [.int (1 : Int32)]) (H' := [.inr ((.object "java/lang/Object"), []), .inl (1, [.ref 4, .int (0 : Int32)]), .inl (1, [.ref 5, .int (0 : Int32)]), .inl (1, [.ref 6, .int (0 : Int32)]), .inr (.byte, b0), .inr (.byte, b1), .inr (.byte, b2), .inr (.int, [.int e0, .int (if e1 < x2 then x2 else e1), .int (if e2 < x4 then x4 else e2)]), .inl (0, [.ref 10, .ref 11, .ref 12]), .inr ((.object "java/lang/String"), [.ref 1, .ref 2, .ref 3]), .inl (2, [.int (1 : Int32), .ref 13, .int (1 : Int32)]), .inr (.int, [.int e0, .int (if e1 < x2 then x2 else e1), .int (if e2 < x4 then x4 else e2)]), .inr (.boolean, [.int (0 : Int32), .int (0 : Int32), .int (0 : Int32)]), .inr ((.object "java/lang/Object"), [.ref 9, .null, .null, .null, .null, .null, .null, .null, .null, .null])]) (sl' := (((((((((((sl + 19) + 0) + 0) + 0) + 0) + 0) + 0) + 0) + 0) + 0) + 0)) rfl ?_
      exact mmW_ret (n := 807) (i := .ireturn) rfl rfl ⟨rfl, rfl, by omega⟩
  · rw [hq]
    refine mmW_steps (k := 6) (n := 887) (pc' := 87) (L' := [.val (.int x0), .val (.int x1), .val (.int x2), .val (.int x3), .val (.int x4), .val (.ref 7), .val (.ref 8), .val (.int (2 : Int32)), .unset, .unset, .unset]) (S' := [.int ((x3 &&& (2147483647 : Int32)) % (3 : Int32))]) (H' := [.inr ((.object "java/lang/Object"), []), .inl (1, [.ref 4, .int (0 : Int32)]), .inl (1, [.ref 5, .int (0 : Int32)]), .inl (1, [.ref 6, .int (0 : Int32)]), .inr (.byte, b0), .inr (.byte, b1), .inr (.byte, b2), .inr (.int, [.int e0, .int e1, .int e2]), .inl (0, [.ref 10, .ref 11, .ref 12]), .inr ((.object "java/lang/String"), [.ref 1, .ref 2, .ref 3]), .inl (2, [.int (1 : Int32), .ref 13, .int (1 : Int32)]), .inr (.int, [.int e0, .int e1, .int e2]), .inr (.boolean, [.int (0 : Int32), .int (0 : Int32), .int (0 : Int32)]), .inr ((.object "java/lang/Object"), [.ref 9, .null, .null, .null, .null, .null, .null, .null, .null, .null])]) (sl' := (sl + 19)) rfl ?_
    rcases own_mod3 x3 with hq | hq | hq
    · rw [hq]
      refine mmW_steps (k := 20) (n := 867) (pc' := (if if_icmp.holds .ne e0 e0 = true then 154 else 124)) (L' := [.val (.int x0), .val (.int x1), .val (.int x2), .val (.int x3), .val (.int x4), .val (.ref 7), .val (.ref 8), .val (.int (2 : Int32)), .val (.int (0 : Int32)), .unset, .unset]) (S' := []) (H' := [.inr ((.object "java/lang/Object"), []), .inl (1, [.ref 4, .int (0 : Int32)]), .inl (1, [.ref 5, .int (0 : Int32)]), .inl (1, [.ref 6, .int (0 : Int32)]), .inr (.byte, b0), .inr (.byte, b1), .inr (.byte, b2), .inr (.int, [.int e0, .int e1, .int (if e2 < x2 then x2 else e2)]), .inl (0, [.ref 10, .ref 11, .ref 12]), .inr ((.object "java/lang/String"), [.ref 1, .ref 2, .ref 3]), .inl (2, [.int (1 : Int32), .ref 13, .int (1 : Int32)]), .inr (.int, [.int e0, .int e1, .int (if e2 < x2 then x2 else e2)]), .inr (.boolean, [.int (0 : Int32), .int (0 : Int32), .int (0 : Int32)]), .inr ((.object "java/lang/Object"), [.ref 9, .null, .null, .null, .null, .null, .null, .null, .null, .null])]) (sl' := ((((sl + 19) + 0) + 0) + 0)) rfl ?_
      refine mmW_f (XT.ii_ne_f (rfl)) ?_
      refine mmW_steps (k := 7) (n := 860) (pc' := (if if_icmp.holds .ne e1 e1 = true then 154 else 137)) (L' := [.val (.int x0), .val (.int x1), .val (.int x2), .val (.int x3), .val (.int x4), .val (.ref 7), .val (.ref 8), .val (.int (2 : Int32)), .val (.int (0 : Int32)), .unset, .unset]) (S' := []) (H' := [.inr ((.object "java/lang/Object"), []), .inl (1, [.ref 4, .int (0 : Int32)]), .inl (1, [.ref 5, .int (0 : Int32)]), .inl (1, [.ref 6, .int (0 : Int32)]), .inr (.byte, b0), .inr (.byte, b1), .inr (.byte, b2), .inr (.int, [.int e0, .int e1, .int (if e2 < x2 then x2 else e2)]), .inl (0, [.ref 10, .ref 11, .ref 12]), .inr ((.object "java/lang/String"), [.ref 1, .ref 2, .ref 3]), .inl (2, [.int (1 : Int32), .ref 13, .int (1 : Int32)]), .inr (.int, [.int e0, .int e1, .int (if e2 < x2 then x2 else e2)]), .inr (.boolean, [.int (0 : Int32), .int (0 : Int32), .int (0 : Int32)]), .inr ((.object "java/lang/Object"), [.ref 9, .null, .null, .null, .null, .null, .null, .null, .null, .null])]) (sl' := (((((sl + 19) + 0) + 0) + 0) + 0)) rfl ?_
      refine mmW_f (XT.ii_ne_f (rfl)) ?_
      refine mmW_steps (k := 7) (n := 853) (pc' := (if if_icmp.holds .ne (if e2 < x2 then x2 else e2) (if e2 < x2 then x2 else e2) = true then 154 else 150)) (L' := [.val (.int x0), .val (.int x1), .val (.int x2), .val (.int x3), .val (.int x4), .val (.ref 7), .val (.ref 8), .val (.int (2 : Int32)), .val (.int (0 : Int32)), .unset, .unset]) (S' := []) (H' := [.inr ((.object "java/lang/Object"), []), .inl (1, [.ref 4, .int (0 : Int32)]), .inl (1, [.ref 5, .int (0 : Int32)]), .inl (1, [.ref 6, .int (0 : Int32)]), .inr (.byte, b0), .inr (.byte, b1), .inr (.byte, b2), .inr (.int, [.int e0, .int e1, .int (if e2 < x2 then x2 else e2)]), .inl (0, [.ref 10, .ref 11, .ref 12]), .inr ((.object "java/lang/String"), [.ref 1, .ref 2, .ref 3]), .inl (2, [.int (1 : Int32), .ref 13, .int (1 : Int32)]), .inr (.int, [.int e0, .int e1, .int (if e2 < x2 then x2 else e2)]), .inr (.boolean, [.int (0 : Int32), .int (0 : Int32), .int (0 : Int32)]), .inr ((.object "java/lang/Object"), [.ref 9, .null, .null, .null, .null, .null, .null, .null, .null, .null])]) (sl' := ((((((sl + 19) + 0) + 0) + 0) + 0) + 0)) rfl ?_
      refine mmW_f (XT.ii_ne_f (rfl)) ?_
      refine mmW_steps (k := 22) (n := 831) (pc' := (if if_icmp.holds .ne (if e0 < x4 then x4 else e0) (if e0 < x4 then x4 else e0) = true then 224 else 194)) (L' := [.val (.int x0), .val (.int x1), .val (.int x2), .val (.int x3), .val (.int x4), .val (.ref 7), .val (.ref 8), .val (.int (2 : Int32)), .val (.int (0 : Int32)), .val (.int (1 : Int32)), .unset]) (S' := []) (H' := [.inr ((.object "java/lang/Object"), []), .inl (1, [.ref 4, .int (0 : Int32)]), .inl (1, [.ref 5, .int (0 : Int32)]), .inl (1, [.ref 6, .int (0 : Int32)]), .inr (.byte, b0), .inr (.byte, b1), .inr (.byte, b2), .inr (.int, [.int (if e0 < x4 then x4 else e0), .int e1, .int (if e2 < x2 then x2 else e2)]), .inl (0, [.ref 10, .ref 11, .ref 12]), .inr ((.object "java/lang/String"), [.ref 1, .ref 2, .ref 3]), .inl (2, [.int (1 : Int32), .ref 13, .int (1 : Int32)]), .inr (.int, [.int (if e0 < x4 then x4 else e0), .int e1, .int (if e2 < x2 then x2 else e2)]), .inr (.boolean, [.int (0 : Int32), .int (0 : Int32), .int (0 : Int32)]), .inr ((.object "java/lang/Object"), [.ref 9, .null, .null, .null, .null, .null, .null, .null, .null, .null])]) (sl' := (((((((((sl + 19) + 0) + 0) + 0) + 0) + 0) + 0) + 0) + 0)) rfl ?_
      refine mmW_f (XT.ii_ne_f (rfl)) ?_
      refine mmW_steps (k := 7) (n := 824) (pc' := (if if_icmp.holds .ne e1 e1 = true then 224 else 207)) (L' := [.val (.int x0), .val (.int x1), .val (.int x2), .val (.int x3), .val (.int x4), .val (.ref 7), .val (.ref 8), .val (.int (2 : Int32)), .val (.int (0 : Int32)), .val (.int (1 : Int32)), .unset]) (S' := []) (H' := [.inr ((.object "java/lang/Object"), []), .inl (1, [.ref 4, .int (0 : Int32)]), .inl (1, [.ref 5, .int (0 : Int32)]), .inl (1, [.ref 6, .int (0 : Int32)]), .inr (.byte, b0), .inr (.byte, b1), .inr (.byte, b2), .inr (.int, [.int (if e0 < x4 then x4 else e0), .int e1, .int (if e2 < x2 then x2 else e2)]), .inl (0, [.ref 10, .ref 11, .ref 12]), .inr ((.object "java/lang/String"), [.ref 1, .ref 2, .ref 3]), .inl (2, [.int (1 : Int32), .ref 13, .int (1 : Int32)]), .inr (.int, [.int (if e0 < x4 then x4 else e0), .int e1, .int (if e2 < x2 then x2 else e2)]), .inr (.boolean, [.int (0 : Int32), .int (0 : Int32), .int (0 : Int32)]), .inr ((.object "java/lang/Object"), [.ref 9, .null, .null, .null, .null, .null, .null, .null, .null, .null])]) (sl' := ((((((((((sl + 19) + 0) + 0) + 0) + 0) + 0) + 0) + 0) + 0) + 0)) rfl ?_
      refine mmW_f (XT.ii_ne_f (rfl)) ?_
      refine mmW_steps (k := 7) (n := 817) (pc' := (if if_icmp.holds .ne (if e2 < x2 then x2 else e2) (if e2 < x2 then x2 else e2) = true then 224 else 220)) (L' := [.val (.int x0), .val (.int x1), .val (.int x2), .val (.int x3), .val (.int x4), .val (.ref 7), .val (.ref 8), .val (.int (2 : Int32)), .val (.int (0 : Int32)), .val (.int (1 : Int32)), .unset]) (S' := []) (H' := [.inr ((.object "java/lang/Object"), []), .inl (1, [.ref 4, .int (0 : Int32)]), .inl (1, [.ref 5, .int (0 : Int32)]), .inl (1, [.ref 6, .int (0 : Int32)]), .inr (.byte, b0), .inr (.byte, b1), .inr (.byte, b2), .inr (.int, [.int (if e0 < x4 then x4 else e0), .int e1, .int (if e2 < x2 then x2 else e2)]), .inl (0, [.ref 10, .ref 11, .ref 12]), .inr ((.object "java/lang/String"), [.ref 1, .ref 2, .ref 3]), .inl (2, [.int (1 : Int32), .ref 13, .int (1 : Int32)]), .inr (.int, [.int (if e0 < x4 then x4 else e0), .int e1, .int (if e2 < x2 then x2 else e2)]), .inr (.boolean, [.int (0 : Int32), .int (0 : Int32), .int (0 : Int32)]), .inr ((.object "java/lang/Object"), [.ref 9, .null, .null, .null, .null, .null, .null, .null, .null, .null])]) (sl' := (((((((((((sl + 19) + 0) + 0) + 0) + 0) + 0) + 0) + 0) + 0) + 0) + 0)) rfl ?_
      refine mmW_f (XT.ii_ne_f (rfl)) ?_
      refine mmW_steps (k := 9) (n := 808) (pc' := 242) (L' := [.val (.int x0), .val (.int x1), .val (.int x2), .val (.int x3), .val (.int x4), .val (.ref 7), .val (.ref 8), .val (.int (2 : Int32)), .val (.int (0 : Int32)), .val (.int (1 : Int32)), .val (.int (1 : Int32))]) (S' := [.int (1 : Int32)]) (H' := [.inr ((.object "java/lang/Object"), []), .inl (1, [.ref 4, .int (0 : Int32)]), .inl (1, [.ref 5, .int (0 : Int32)]), .inl (1, [.ref 6, .int (0 : Int32)]), .inr (.byte, b0), .inr (.byte, b1), .inr (.byte, b2), .inr (.int, [.int (if e0 < x4 then x4 else e0), .int e1, .int (if e2 < x2 then x2 else e2)]), .inl (0, [.ref 10, .ref 11, .ref 12]), .inr ((.object "java/lang/String"), [.ref 1, .ref 2, .ref 3]), .inl (2, [.int (1 : Int32), .ref 13, .int (1 : Int32)]), .inr (.int, [.int (if e0 < x4 then x4 else e0), .int e1, .int (if e2 < x2 then x2 else e2)]), .inr (.boolean, [.int (0 : Int32), .int (0 : Int32), .int (0 : Int32)]), .inr ((.object "java/lang/Object"), [.ref 9, .null, .null, .null, .null, .null, .null, .null, .null, .null])]) (sl' := (((((((((((sl + 19) + 0) + 0) + 0) + 0) + 0) + 0) + 0) + 0) + 0) + 0)) rfl ?_
      exact mmW_ret (n := 807) (i := .ireturn) rfl rfl ⟨rfl, rfl, by omega⟩
    · rw [hq]
      refine mmW_steps (k := 20) (n := 867) (pc' := (if if_icmp.holds .ne e0 e0 = true then 154 else 124)) (L' := [.val (.int x0), .val (.int x1), .val (.int x2), .val (.int x3), .val (.int x4), .val (.ref 7), .val (.ref 8), .val (.int (2 : Int32)), .val (.int (1 : Int32)), .unset, .unset]) (S' := []) (H' := [.inr ((.object "java/lang/Object"), []), .inl (1, [.ref 4, .int (0 : Int32)]), .inl (1, [.ref 5, .int (0 : Int32)]), .inl (1, [.ref 6, .int (0 : Int32)]), .inr (.byte, b0), .inr (.byte, b1), .inr (.byte, b2), .inr (.int, [.int e0, .int e1, .int (if e2 < x2 then x2 else e2)]), .inl (0, [.ref 10, .ref 11, .ref 12]), .inr ((.object "java/lang/String"), [.ref 1, .ref 2, .ref 3]), .inl (2, [.int (1 : Int32), .ref 13, .int (1 : Int32)]), .inr (.int, [.int e0, .int e1, .int (if e2 < x2 then x2 else e2)]), .inr (.boolean, [.int (0 : Int32), .int (0 : Int32), .int (0 : Int32)]), .inr ((.object "java/lang/Object"), [.ref 9, .null, .null, .null, .null, .null, .null, .null, .null, .null])]) (sl' := ((((sl + 19) + 0) + 0) + 0)) rfl ?_
      refine mmW_f (XT.ii_ne_f (rfl)) ?_
      refine mmW_steps (k := 7) (n := 860) (pc' := (if if_icmp.holds .ne e1 e1 = true then 154 else 137)) (L' := [.val (.int x0), .val (.int x1), .val (.int x2), .val (.int x3), .val (.int x4), .val (.ref 7), .val (.ref 8), .val (.int (2 : Int32)), .val (.int (1 : Int32)), .unset, .unset]) (S' := []) (H' := [.inr ((.object "java/lang/Object"), []), .inl (1, [.ref 4, .int (0 : Int32)]), .inl (1, [.ref 5, .int (0 : Int32)]), .inl (1, [.ref 6, .int (0 : Int32)]), .inr (.byte, b0), .inr (.byte, b1), .inr (.byte, b2), .inr (.int, [.int e0, .int e1, .int (if e2 < x2 then x2 else e2)]), .inl (0, [.ref 10, .ref 11, .ref 12]), .inr ((.object "java/lang/String"), [.ref 1, .ref 2, .ref 3]), .inl (2, [.int (1 : Int32), .ref 13, .int (1 : Int32)]), .inr (.int, [.int e0, .int e1, .int (if e2 < x2 then x2 else e2)]), .inr (.boolean, [.int (0 : Int32), .int (0 : Int32), .int (0 : Int32)]), .inr ((.object "java/lang/Object"), [.ref 9, .null, .null, .null, .null, .null, .null, .null, .null, .null])]) (sl' := (((((sl + 19) + 0) + 0) + 0) + 0)) rfl ?_
      refine mmW_f (XT.ii_ne_f (rfl)) ?_
      refine mmW_steps (k := 7) (n := 853) (pc' := (if if_icmp.holds .ne (if e2 < x2 then x2 else e2) (if e2 < x2 then x2 else e2) = true then 154 else 150)) (L' := [.val (.int x0), .val (.int x1), .val (.int x2), .val (.int x3), .val (.int x4), .val (.ref 7), .val (.ref 8), .val (.int (2 : Int32)), .val (.int (1 : Int32)), .unset, .unset]) (S' := []) (H' := [.inr ((.object "java/lang/Object"), []), .inl (1, [.ref 4, .int (0 : Int32)]), .inl (1, [.ref 5, .int (0 : Int32)]), .inl (1, [.ref 6, .int (0 : Int32)]), .inr (.byte, b0), .inr (.byte, b1), .inr (.byte, b2), .inr (.int, [.int e0, .int e1, .int (if e2 < x2 then x2 else e2)]), .inl (0, [.ref 10, .ref 11, .ref 12]), .inr ((.object "java/lang/String"), [.ref 1, .ref 2, .ref 3]), .inl (2, [.int (1 : Int32), .ref 13, .int (1 : Int32)]), .inr (.int, [.int e0, .int e1, .int (if e2 < x2 then x2 else e2)]), .inr (.boolean, [.int (0 : Int32), .int (0 : Int32), .int (0 : Int32)]), .inr ((.object "java/lang/Object"), [.ref 9, .null, .null, .null, .null, .null, .null, .null, .null, .null])]) (sl' := ((((((sl + 19) + 0) + 0) + 0) + 0) + 0)) rfl ?_
      refine mmW_f (XT.ii_ne_f (rfl)) ?_
      refine mmW_steps (k := 22) (n := 831) (pc' := (if if_icmp.holds .ne e0 e0 = true then 224 else 194)) (L' := [.val (.int x0), .val (.int x1), .val (.int x2), .val (.int x3), .val (.int x4), .val (.ref 7), .val (.ref 8), .val (.int (2 : Int32)), .val (.int (1 : Int32)), .val (.int (1 : Int32)), .unset]) (S' := []) (H' := [.inr ((.object "java/lang/Object"), []), .inl (1, [.ref 4, .int (0 : Int32)]), .inl (1, [.ref 5, .int (0 : Int32)]), .inl (1, [.ref 6, .int (0 : Int32)]), .inr (.byte, b0), .inr (.byte, b1), .inr (.byte, b2), .inr (.int, [.int e0, .int (if e1 < x4 then x4 else e1), .int (if e2 < x2 then x2 else e2)]), .inl (0, [.ref 10, .ref 11, .ref 12]), .inr ((.object "java/lang/String"), [.ref 1, .ref 2, .ref 3]), .inl (2, [.int (1 : Int32), .ref 13, .int (1 : Int32)]), .inr (.int, [.int e0, .int (if e1 < x4 then x4 else e1), .int (if e2 < x2 then x2 else e2)]), .inr (.boolean, [.int (0 : Int32), .int (0 : Int32), .int (0 : Int32)]), .inr ((.object "java/lang/Object"), [.ref 9, .null, .null, .null, .null, .null, .null, .null, .null, .null])]) (sl' := (((((((((sl + 19) + 0) + 0) + 0) + 0) + 0) + 0) + 0) + 0)) rfl ?_
      refine mmW_f (XT.ii_ne_f (rfl)) ?_
      refine mmW_steps (k := 7) (n := 824) (pc' := (if if_icmp.holds .ne (if e1 < x4 then x4 else e1) (if e1 < x4 then x4 else e1) = true then 224 else 207)) (L' := [.val (.int x0), .val (.int x1), .val (.int x2), .val (.int x3), .val (.int x4), .val (.ref 7), .val (.ref 8), .val (.int (2 : Int32)), .val (.int (1 : Int32)), .val (.int (1 : Int32)), .unset]) (S' := []) (H' := [.inr ((.object "java/lang/Object"), []), .inl (1, [.ref 4, .int (0 : Int32)]), .inl (1, [.ref 5, .int (0 : Int32)]), .inl (1, [.ref 6, .int (0 : Int32)]), .inr (.byte, b0), .inr (.byte, b1), .inr (.byte, b2), .inr (.int, [.int e0, .int (if e1 < x4 then x4 else e1), .int (if e2 < x2 then x2 else e2)]), .inl (0, [.ref 10, .ref 11, .ref 12]), .inr ((.object "java/lang/String"), [.ref 1, .ref 2, .ref 3]), .inl (2, [.int (1 : Int32), .ref 13, .int (1 : Int32)]), .inr (.int, [.int e0, .int (if e1 < x4 then x4 else e1), .int (if e2 < x2 then x2 else e2)]), .inr (.boolean, [.int (0 : Int32), .int (0 : Int32), .int (0 : Int32)]), .inr ((.object "java/lang/Object"), [.ref 9, .null, .null, .null, .null, .null, .null, .null, .null, .null])]) (sl' := ((((((((((sl + 19) + 0) + 0) + 0) + 0) + 0) + 0) + 0) + 0) + 0)) rfl ?_
      refine mmW_f (XT.ii_ne_f (rfl)) ?_
      refine mmW_steps (k := 7) (n := 817) (pc' := (if if_icmp.holds .ne (if e2 < x2 then x2 else e2) (if e2 < x2 then x2 else e2) = true then 224 else 220)) (L' := [.val (.int x0), .val (.int x1), .val (.int x2), .val (.int x3), .val (.int x4), .val (.ref 7), .val (.ref 8), .val (.int (2 : Int32)), .val (.int (1 : Int32)), .val (.int (1 : Int32)), .unset]) (S' := []) (H' := [.inr ((.object "java/lang/Object"), []), .inl (1, [.ref 4, .int (0 : Int32)]), .inl (1, [.ref 5, .int (0 : Int32)]), .inl (1, [.ref 6, .int (0 : Int32)]), .inr (.byte, b0), .inr (.byte, b1), .inr (.byte, b2), .inr (.int, [.int e0, .int (if e1 < x4 then x4 else e1), .int (if e2 < x2 then x2 else e2)]), .inl (0, [.ref 10, .ref 11, .ref 12]), .inr ((.object "java/lang/String"), [.ref 1, .ref 2, .ref 3]), .inl (2, [.int (1 : Int32), .ref 13, .int (1 : Int32)]), .inr (.int, [.int e0, .int (if e1 < x4 then x4 else e1), .int (if e2 < x2 then x2 else e2)]), .inr (.boolean, [.int (0 : Int32), .int (0 : Int32), .int (0 : Int32)]), .inr ((.object "java/lang/Object"), [.ref 9, .null, .null, .null, .null, .null, .null, .null, .null, .null])]) (sl' := (((((((((((sl + 19) + 0) + 0) + 0) + 0) + 0) + 0) + 0) + 0) + 0) + 0)) rfl ?_
      refine mmW_f (XT.ii_ne_f (rfl)) ?_
      refine mmW_steps (k := 9) (n := 808) (pc' := 242) (L' := [.val (.int x0), .val (.int x1), .val (.int x2), .val (.int x3), .val (.int x4), .val (.ref 7), .val (.ref 8), .val (.int (2 : Int32)), .val (.int (1 : Int32)), .val (.int (1 : Int32)), .val (.int (1 : Int32))]) (S' := [.int (1 : Int32)]) (H' := [.inr ((.object "java/lang/Object"), []), .inl (1, [.ref 4, .int (0 : Int32)]), .inl (1, [.ref 5, .int (0 : Int32)]), .inl (1, [.ref 6, .int (0 : Int32)]), .inr (.byte, b0), .inr (.byte, b1), .inr (.byte, b2), .inr (.int, [.int e0, .int (if e1 < x4 then x4 else e1), .int (if e2 < x2 then x2 else e2)]), .inl (0, [.ref 10, .ref 11, .ref 12]), .inr ((.object "java/lang/String"), [.ref 1, .ref 2, .ref 3]), .inl (2, [.int (1 : Int32), .ref 13, .int (1 : Int32)]), .inr (.int, [.int e0, .int (if e1 < x4 then x4 else e1), .int (if e2 < x2 then x2 else e2)]), .inr (.boolean, [.int (0 : Int32), .int (0 : Int32), .int (0 : Int32)]), .inr ((.object "java/lang/Object"), [.ref 9, .null, .null, .null, .null, .null, .null, .null, .null, .null])]) (sl' := (((((((((((sl + 19) + 0) + 0) + 0) + 0) + 0) + 0) + 0) + 0) + 0) + 0)) rfl ?_
      exact mmW_ret (n := 807) (i := .ireturn) rfl rfl ⟨rfl, rfl, by omega⟩
    · rw [hq]
      refine mmW_steps (k := 20) (n := 867) (pc' := (if if_icmp.holds .ne e0 e0 = true then 154 else 124)) (L' := [.val (.int x0), .val (.int x1), .val (.int x2), .val (.int x3), .val (.int x4), .val (.ref 7), .val (.ref 8), .val (.int (2 : Int32)), .val (.int (2 : Int32)), .unset, .unset]) (S' := []) (H' := [.inr ((.object "java/lang/Object"), []), .inl (1, [.ref 4, .int (0 : Int32)]), .inl (1, [.ref 5, .int (0 : Int32)]), .inl (1, [.ref 6, .int (0 : Int32)]), .inr (.byte, b0), .inr (.byte, b1), .inr (.byte, b2), .inr (.int, [.int e0, .int e1, .int (if e2 < x2 then x2 else e2)]), .inl (0, [.ref 10, .ref 11, .ref 12]), .inr ((.object "java/lang/String"), [.ref 1, .ref 2, .ref 3]), .inl (2, [.int (1 : Int32), .ref 13, .int (1 : Int32)]), .inr (.int, [.int e0, .int e1, .int (if e2 < x2 then x2 else e2)]), .inr (.boolean, [.int (0 : Int32), .int (0 : Int32), .int (0 : Int32)]), .inr ((.object "java/lang/Object"), [.ref 9, .null, .null, .null, .null, .null, .null, .null, .null, .null])]) (sl' := ((((sl + 19) + 0) + 0) + 0)) rfl ?_
      refine mmW_f (XT.ii_ne_f (rfl)) ?_
      refine mmW_steps (k := 7) (n := 860) (pc' := (if if_icmp.holds .ne e1 e1 = true then 154 else 137)) (L' := [.val (.int x0), .val (.int x1), .val (.int x2), .val (.int x3), .val (.int x4), .val (.ref 7), .val (.ref 8), .val (.int (2 : Int32)), .val (.int (2 : Int32)), .unset, .unset]) (S' := []) (H' := [.inr ((.object "java/lang/Object"), []), .inl (1, [.ref 4, .int (0 : Int32)]), .inl (1, [.ref 5, .int (0 : Int32)]), .inl (1, [.ref 6, .int (0 : Int32)]), .inr (.byte, b0), .inr (.byte, b1), .inr (.byte, b2), .inr (.int, [.int e0, .int e1, .int (if e2 < x2 then x2 else e2)]), .inl (0, [.ref 10, .ref 11, .ref 12]), .inr ((.object "java/lang/String"), [.ref 1, .ref 2, .ref 3]), .inl (2, [.int (1 : Int32), .ref 13, .int (1 : Int32)]), .inr (.int, [.int e0, .int e1, .int (if e2 < x2 then x2 else e2)]), .inr (.boolean, [.int (0 : Int32), .int (0 : Int32), .int (0 : Int32)]), .inr ((.object "java/lang/Object"), [.ref 9, .null, .null, .null, .null, .null, .null, .null, .null, .null])]) (sl' := (((((sl + 19) + 0) + 0) + 0) + 0)) rfl ?_
      refine mmW_f (XT.ii_ne_f (rfl)) ?_
      refine mmW_steps (k := 7) (n := 853) (pc' := (if if_icmp.holds .ne (if e2 < x2 then x2 else e2) (if e2 < x2 then x2 else e2) = true then 154 else 150)) (L' := [.val (.int x0), .val (.int x1), .val (.int x2), .val (.int x3), .val (.int x4), .val (.ref 7), .val (.ref 8), .val (.int (2 : Int32)), .val (.int (2 : Int32)), .unset, .unset]) (S' := []) (H' := [.inr ((.object "java/lang/Object"), []), .inl (1, [.ref 4, .int (0 : Int32)]), .inl (1, [.ref 5, .int (0 : Int32)]), .inl (1, [.ref 6, .int (0 : Int32)]), .inr (.byte, b0), .inr (.byte, b1), .inr (.byte, b2), .inr (.int, [.int e0, .int e1, .int (if e2 < x2 then x2 else e2)]), .inl (0, [.ref 10, .ref 11, .ref 12]), .inr ((.object "java/lang/String"), [.ref 1, .ref 2, .ref 3]), .inl (2, [.int (1 : Int32), .ref 13, .int (1 : Int32)]), .inr (.int, [.int e0, .int e1, .int (if e2 < x2 then x2 else e2)]), .inr (.boolean, [.int (0 : Int32), .int (0 : Int32), .int (0 : Int32)]), .inr ((.object "java/lang/Object"), [.ref 9, .null, .null, .null, .null, .null, .null, .null, .null, .null])]) (sl' := ((((((sl + 19) + 0) + 0) + 0) + 0) + 0)) rfl ?_
      refine mmW_f (XT.ii_ne_f (rfl)) ?_
      refine mmW_steps (k := 22) (n := 831) (pc' := (if if_icmp.holds .ne e0 e0 = true then 224 else 194)) (L' := [.val (.int x0), .val (.int x1), .val (.int x2), .val (.int x3), .val (.int x4), .val (.ref 7), .val (.ref 8), .val (.int (2 : Int32)), .val (.int (2 : Int32)), .val (.int (1 : Int32)), .unset]) (S' := []) (H' := [.inr ((.object "java/lang/Object"), []), .inl (1, [.ref 4, .int (0 : Int32)]), .inl (1, [.ref 5, .int (0 : Int32)]), .inl (1, [.ref 6, .int (0 : Int32)]), .inr (.byte, b0), .inr (.byte, b1), .inr (.byte, b2), .inr (.int, [.int e0, .int e1, .int (if (if e2 < x2 then x2 else e2) < x4 then x4 else (if e2 < x2 then x2 else e2))]), .inl (0, [.ref 10, .ref 11, .ref 12]), .inr ((.object "java/lang/String"), [.ref 1, .ref 2, .ref 3]), .inl (2, [.int (1 : Int32), .ref 13, .int (1 : Int32)]), .inr (.int, [.int e0, .int e1, .int (if (if e2 < x2 then x2 else e2) < x4 then x4 else (if e2 < x2 then x2 else e2))]), .inr (.boolean, [.int (0 : Int32), .int (0 : Int32), .int (0 : Int32)]), .inr ((.object "java/lang/Object"), [.ref 9, .null, .null, .null, .null, .null, .null, .null, .null, .null])]) (sl' := (((((((((sl + 19) + 0) + 0) + 0) + 0) + 0) + 0) + 0) + 0)) rfl ?_
      refine mmW_f (XT.ii_ne_f (rfl)) ?_
      refine mmW_steps (k := 7) (n := 824) (pc' := (if if_icmp.holds .ne e1 e1 = true then 224 else 207)) (L' := [.val (.int x0), .val (.int x1), .val (.int x2), .val (.int x3), .val (.int x4), .val (.ref 7), .val (.ref 8), .val (.int (2 : Int32)), .val (.int (2 : Int32)), .val (.int (1 : Int32)), .unset]) (S' := []) (H' := [.inr ((.object "java/lang/Object"), []), .inl (1, [.ref 4, .int (0 : Int32)]), .inl (1, [.ref 5, .int (0 : Int32)]), .inl (1, [.ref 6, .int (0 : Int32)]), .inr (.byte, b0), .inr (.byte, b1), .inr (.byte, b2), .inr (.int, [.int e0, .int e1, .int (if (if e2 < x2 then x2 else e2) < x4 then x4 else (if e2 < x2 then x2 else e2))]), .inl (0, [.ref 10, .ref 11, .ref 12]), .inr ((.object "java/lang/String"), [.ref 1, .ref 2, .ref 3]), .inl (2, [.int (1 : Int32), .ref 13, .int (1 : Int32)]), .inr (.int, [.int e0, .int e1, .int (if (if e2 < x2 then x2 else e2) < x4 then x4 else (if e2 < x2 then x2 else e2))]), .inr (.boolean, [.int (0 : Int32), .int (0 : Int32), .int (0 : Int32)]), .inr ((.object "java/lang/Object"), [.ref 9, .null, .null, .null, .null, .null, .null, .null, .null, .null])]) (sl' := ((((((((((sl + 19) + 0) + 0) + 0) + 0) + 0) + 0) + 0) + 0) + 0)) rfl ?_
      refine mmW_f (XT.ii_ne_f (rfl)) ?_
      refine mmW_steps (k := 7) (n := 817) (pc' := (if if_icmp.holds .ne (if (if e2 < x2 then x2 else e2) < x4 then x4 else (if e2 < x2 then x2 else e2)) (if (if e2 < x2 then x2 else e2) < x4 then x4 else (if e2 < x2 then x2 else e2)) = true then 224 else 220)) (L' := [.val (.int x0), .val (.int x1), .val (.int x2), .val (.int x3), .val (.int x4), .val (.ref 7), .val (.ref 8), .val (.int (2 : Int32)), .val (.int (2 : Int32)), .val (.int (1 : Int32)), .unset]) (S' := []) (H' := [.inr ((.object "java/lang/Object"), []), .inl (1, [.ref 4, .int (0 : Int32)]), .inl (1, [.ref 5, .int (0 : Int32)]), .inl (1, [.ref 6, .int (0 : Int32)]), .inr (.byte, b0), .inr (.byte, b1), .inr (.byte, b2), .inr (.int, [.int e0, .int e1, .int (if (if e2 < x2 then x2 else e2) < x4 then x4 else (if e2 < x2 then x2 else e2))]), .inl (0, [.ref 10, .ref 11, .ref 12]), .inr ((.object "java/lang/String"), [.ref 1, .ref 2, .ref 3]), .inl (2, [.int (1 : Int32), .ref 13, .int (1 : Int32)]), .inr (.int, [.int e0, .int e1, .int (if (if e2 < x2 then x2 else e2) < x4 then x4 else (if e2 < x2 then x2 else e2))]), .inr (.boolean, [.int (0 : Int32), .int (0 : Int32), .int (0 : Int32)]), .inr ((.object "java/lang/Object"), [.ref 9, .null, .null, .null, .null, .null, .null, .null, .null, .null])]) (sl' := (((((((((((sl + 19) + 0) + 0) + 0) + 0) + 0) + 0) + 0) + 0) + 0) + 0)) rfl ?_
      refine mmW_f (XT.ii_ne_f (rfl)) ?_
      refine mmW_steps (k := 9) (n := 808) (pc' := 242) (L' := [.val (.int x0), .val (.int x1), .val (.int x2), .val (.int x3), .val (.int x4), .val (.ref 7), .val (.ref 8), .val (.int (2 : Int32)), .val (.int (2 : Int32)), .val (.int (1 : Int32)), .val (.int (1 : Int32))]) (S' := [.int (1 : Int32)]) (H' := [.inr ((.object "java/lang/Object"), []), .inl (1, [.ref 4, .int (0 : Int32)]), .inl (1, [.ref 5, .int (0 : Int32)]), .inl (1, [.ref 6, .int (0 : Int32)]), .inr (.byte, b0), .inr (.byte, b1), .inr (.byte, b2), .inr (.int, [.int e0, .int e1, .int (if (if e2 < x2 then x2 else e2) < x4 then x4 else (if e2 < x2 then x2 else e2))]), .inl (0, [.ref 10, .ref 11, .ref 12]), .inr ((.object "java/lang/String"), [.ref 1, .ref 2, .ref 3]), .inl (2, [.int (1 : Int32), .ref 13, .int (1 : Int32)]), .inr (.int, [.int e0, .int e1, .int (if (if e2 < x2 then x2 else e2) < x4 then x4 else (if e2 < x2 then x2 else e2))]), .inr (.boolean, [.int (0 : Int32), .int (0 : Int32), .int (0 : Int32)]), .inr ((.object "java/lang/Object"), [.ref 9, .null, .null, .null, .null, .null, .null, .null, .null, .null])]) (sl' := (((((((((((sl + 19) + 0) + 0) + 0) + 0) + 0) + 0) + 0) + 0) + 0) + 0)) rfl ?_
      exact mmW_ret (n := 807) (i := .ireturn) rfl rfl ⟨rfl, rfl, by omega⟩

/-! ## where the law's cells lie -/
def own_rho (as : List Nat) (b : Nat) : Nat → Nat := fun a => if a < as.length then as.getD a 0 else b + (a - as.length)
theorem own_rho_hi {as : List Nat} {b a : Nat} (h : as.length ≤ a) : own_rho as b a = b + (a - as.length) := by unfold own_rho; rw [if_neg (by omega)]
def mmVals : MObj → List Value
  | .inl (_, vs) => vs
  | .inr (_, vs) => vs
theorem mmObj_rho {CT : List MCls} {Z : State} {n0 n1 : Nat → Nat} {h : Heap} {a : Addr} {o : MObj} (hv : ∀ v ∈ mmVals o, mmUp n0 v = mmUp n1 v) (F : mmObjOk CT Z n0 h a o) : mmObjOk CT Z n1 h a o := by
  cases o with
  | inl q =>
    obtain ⟨k, vs⟩ := q
    obtain ⟨C, n, fs, h1, h2, h3, h4⟩ := F
    exact ⟨C, n, fs, h1, h2, h3, fun j O f d ty v q1 q2 => by rw [← hv v (List.mem_of_getElem? q2)]; exact h4 j O f d ty v q1 q2⟩
  | inr q =>
    obtain ⟨ty, vs⟩ := q
    obtain ⟨c, h1, h2, h3⟩ := F
    refine ⟨c, h1, ?_, h3⟩
    rw [h2]
    congr 1
    exact List.map_congr_left hv
theorem own_ea {Z : State} {h : Heap} {x b : Addr} {C : String} {a0 : Array Value} {n : Nat} {cl : Cell} {ty : FieldType} (E : Exa Z h x C) (A : Arr Z h b cl ty) (w : (Cond.instantiable C n).before a0 Z = true) : x ≠ b := by
  rintro rfl
  obtain ⟨cell, k, e1, e2, e3, -⟩ := E
  cases A.1.symm.trans e1
  obtain ⟨-, k', hk', comp, hkind⟩ := A.2.1
  obtain ⟨c2, k2, i1, i2, i3, -⟩ := Cond.instantiable_spec w
  cases e2.symm.trans i1
  cases e3.symm.trans i2
  cases e3.symm.trans hk'
  rw [i3] at hkind; cases hkind
theorem own_aa {Z : State} {h : Heap} {x b : Addr} {c1 c2 : Cell} {t1 t2 : FieldType} (A : Arr Z h x c1 t1) (B : Arr Z h b c2 t2) (hne : t1 ≠ t2) : x ≠ b := by
  rintro rfl
  cases A.1.symm.trans B.1
  obtain ⟨-, k, hk, comp, hkind⟩ := A.2.1
  obtain ⟨-, k', hk', comp', hkind'⟩ := B.2.1
  cases hk.symm.trans hk'
  rw [hkind] at hkind'
  injection hkind' with _ z
  exact hne z
theorem own_ee {Z : State} {h : Heap} {x b : Addr} {C D : String} (E : Exa Z h x C) (F : Exa Z h b D) (hne : C ≠ D) : x ≠ b := Exa.ne E F hne
theorem own_inj {d s0 s1 s2 b0 b1 b2 N base : Nat} (hd : d < N) (hs0 : s0 < base ∧ s0 ≠ N ∧ s0 ≠ N + 1 ∧ s0 ≠ N + 2) (hs1 : s1 < base ∧ s1 ≠ N ∧ s1 ≠ N + 1 ∧ s1 ≠ N + 2) (hs2 : s2 < base ∧ s2 ≠ N ∧ s2 ≠ N + 1 ∧ s2 ≠ N + 2)
    (hb0 : b0 < base ∧ b0 ≠ N ∧ b0 ≠ N + 1 ∧ b0 ≠ N + 2) (hb1 : b1 < base ∧ b1 ≠ N ∧ b1 ≠ N + 1 ∧ b1 ≠ N + 2) (hb2 : b2 < base ∧ b2 ≠ N ∧ b2 ≠ N + 1 ∧ b2 ≠ N + 2) (hN : N + 3 ≤ base) : mmInj (own_rho [d, s0, s1, s2, b0, b1, b2, N, N + 1, N + 2] base) := by
  intro a b ha hne
  have ha : 7 ≤ a := ha
  have ca : a = 7 ∨ a = 8 ∨ a = 9 ∨ 10 ≤ a := by omega
  have cb : b = 0 ∨ b = 1 ∨ b = 2 ∨ b = 3 ∨ b = 4 ∨ b = 5 ∨ b = 6 ∨ b = 7 ∨ b = 8 ∨ b = 9 ∨ 10 ≤ b := by omega
  have v : ∀ {z : Nat}, 10 ≤ z → own_rho [d, s0, s1, s2, b0, b1, b2, N, N + 1, N + 2] base z = base + (z - 10) := fun h => own_rho_hi h
  rcases ca with rfl | rfl | rfl | ca <;> rcases cb with rfl | rfl | rfl | rfl | rfl | rfl | rfl | rfl | rfl | rfl | cb <;> first | (rw [v ca, v cb]; omega) | (rw [v ca]; show _ ≠ (_ : Nat); first | (show base + (a - 10) ≠ d; omega) | (show base + (a - 10) ≠ s0; omega) | (show base + (a - 10) ≠ s1; omega) | (show base + (a - 10) ≠ s2; omega) | (show base + (a - 10) ≠ b0; omega) | (show base + (a - 10) ≠ b1; omega) | (show base + (a - 10) ≠ b2; omega) | (show base + (a - 10) ≠ N; omega) | (show base + (a - 10) ≠ N + 1; omega) | (show base + (a - 10) ≠ N + 2; omega)) | (rw [v cb]; first | (show N ≠ base + (b - 10); omega) | (show N + 1 ≠ base + (b - 10); omega) | (show N + 2 ≠ base + (b - 10); omega)) | (exact absurd rfl hne) | skip
  all_goals first
    | (show N ≠ d; omega) | (show N + 1 ≠ d; omega) | (show N + 2 ≠ d; omega)
    | (show N ≠ s0; omega) | (show N + 1 ≠ s0; omega) | (show N + 2 ≠ s0; omega)
    | (show N ≠ s1; omega) | (show N + 1 ≠ s1; omega) | (show N + 2 ≠ s1; omega)
    | (show N ≠ s2; omega) | (show N + 1 ≠ s2; omega) | (show N + 2 ≠ s2; omega)
    | (show N ≠ b0; omega) | (show N + 1 ≠ b0; omega) | (show N + 2 ≠ b0; omega)
    | (show N ≠ b1; omega) | (show N + 1 ≠ b1; omega) | (show N + 2 ≠ b1; omega)
    | (show N ≠ b2; omega) | (show N + 1 ≠ b2; omega) | (show N + 2 ≠ b2; omega)
    | (show N ≠ N + 1; omega) | (show N ≠ N + 2; omega) | (show N + 1 ≠ N; omega) | (show N + 1 ≠ N + 2; omega) | (show N + 2 ≠ N; omega) | (show N + 2 ≠ N + 1; omega)

/-! ## the String constants: 'cell' by hand (a callee that may intern) -/
def cellQ (Z : State) (q : Int32) (h : Heap) (v : Option Value) (h' : Heap) (L : List Loc) : Prop :=
  L = [] ∧ Ext h h' ∧ ∃ (a b : Addr) (k : ClassId) (vs : List Value), v = some (.ref a) ∧ Exa Z h' a "java/lang/String" ∧ Fld Z h' a "java/lang/String" "coder" "B" (.int 0) ∧ Fld Z h' a "java/lang/String" "value" "[B" (.ref b) ∧ Arv Z h' b k .byte q vs (.int 0) ∧ ¬ q < 0 ∧ q.toNatClampNeg = vs.length ∧ a < h'.size ∧ b < h'.size ∧ ∀ n0 : Nat → Nat, mmUV n0 vs = vs
theorem cell_ldc {l : Launch} {Z : State} {a0 : Array Value} {p : Program} {e : Env} {R : Room} {s : State} {m : MethodId} {args : Array Value} {below : List Frame} {meth : Method} {c : Code} {T : State} {h : Heap} {EL : List (String × Nat)} {OWN text : String} {ix pc : Nat} {q : Int32} {vs : List Value} {Ls : Array Slot}
    (X : Stand p l e R s m args below meth c T [] 0 0) (hx : p.tables.exec = Jvm.exec) (hZ : Z.Warmed39 s.vm) (hown : s.vm.findClass OWN = some m.cls) (w : (Cond.stringLink OWN ix text).before a0 Z = true) (wS : ∀ a ∈ Bundle.stringAtoms, a.before a0 Z = true) (eT : T.heap = h) (hsh : s.heap = h)
    (hEL : EW Z a0 EL) (hmem : (OWN, ix) ∈ EL) (H : CHv Z EL s.vm h) (ht : (∀ c ∈ text.toList, c.toNat < 256) ∧ text.toList.map (fun c => Value.int (Jvm.Lit.byteI c.toNat.toUInt16)) = vs) (hz : ¬ q < 0) (hl : q.toNatClampNeg = vs.length) (hu : ∀ n0 : Nat → Nat, mmUV n0 vs = vs)
    (hd : decode c.code pc = .ok (.ldc ix, 2)) (hd2 : decode c.code (pc + 2) = .ok (.areturn, 1)) (hn : 4 * text.toList.length ≤ 12) (hRc : 0 + 2 ≤ R.cells) (hRs : 0 + (12 + 4) ≤ R.slots) (hret : meth.sig.returnType = some (.object "java/lang/String")) (hlk : meth.locks = false) :
    ∃ (u : State) (o : Outcome), Steps p.tables e below (T.setTop (mkF m pc Ls [])) u ∧ u.status = .running ∧ Ended u below o ∧ ∃ v L, o = .returned v ∧ cellQ Z q h v u.heap L ∧ CHr Z EL s.vm s.heap u.vm u.heap ∧ ReturnedEndW s o u L 2 16 := by
  obtain ⟨a, T', h', k1, b, k, X', e', E, hS, hk, hW, hf, e1, e2, e3, e4, e5, e6, hC, hL, hSf, st⟩ := ldcCH (s := s) (vm0 := s.vm) (EL := EL) X hx hZ hown w wS eT (k0 := 0) ((State.WarmedH.refl s).since 0) (Nat.zero_le _) hEL hmem H ht hz hl (g := mkF m pc Ls []) rfl hd (n := 12) hn (by decide) hRc hRs
  subst e'
  obtain ⟨fs, hr, hrun, hend, hEW⟩ := X'.leaveW hS hk (v := some (.ref a)) (fun z => by rw [hret] at z; cases z) hlk
  refine ⟨_, _, st _ (retOut X' hx hret (w := .ref a) rfl (Or.inr (Or.inr (Or.inr (Or.inr ⟨rfl, rfl, rfl⟩)))) hd2 hr), hrun, hend, _, [], rfl, ⟨rfl, E, a, b, k, vs, rfl, e1, e2, e3, e4, hz, hl, e5, e6, hu⟩, ?_, ?_⟩
  · rw [hsh]; exact hC
  · exact hEW

abbrev cellEL : List (String × Nat) := [("com/example/charterlens/charterlens/cli/TableWidenPinLaw", 7), ("com/example/charterlens/charterlens/cli/TableWidenPinLaw", 9), ("com/example/charterlens/charterlens/cli/TableWidenPinLaw", 11), ("com/example/charterlens/charterlens/cli/TableWidenPinLaw", 13)]
abbrev cellN : MethodName := ⟨"com/example/charterlens/charterlens/cli/TableWidenPinLaw", "cell", "(I)Ljava/lang/String;"⟩
abbrev cellR : Room := { frames := 0, cells := 2, slots := 16, locals := 0 }
theorem cell_pl : plainFor cellN = true := by first | exact plainFor_of_name (by first | (simp [plainName, overriddenIn]; done) | decide +kernel) | decide +kernel
theorem cell_d0 : decode method_2_code 0 = .ok (.iload_n 0, 1) := by decide +kernel
theorem cell_d1 : decode method_2_code 1 = .ok (.ifCond .ne 6, 3) := by decide +kernel
theorem cell_d4 : decode method_2_code 4 = .ok (.ldc 7, 2) := by decide +kernel
theorem cell_d6 : decode method_2_code 6 = .ok (.areturn, 1) := by decide +kernel
theorem cell_d7 : decode method_2_code 7 = .ok (.iload_n 0, 1) := by decide +kernel
theorem cell_d8 : decode method_2_code 8 = .ok (.iconst 1, 1) := by decide +kernel
theorem cell_d9 : decode method_2_code 9 = .ok (.if_icmp .ne 6, 3) := by decide +kernel
theorem cell_d12 : decode method_2_code 12 = .ok (.ldc 9, 2) := by decide +kernel
theorem cell_d14 : decode method_2_code 14 = .ok (.areturn, 1) := by decide +kernel
theorem cell_d15 : decode method_2_code 15 = .ok (.iload_n 0, 1) := by decide +kernel
theorem cell_d16 : decode method_2_code 16 = .ok (.iconst 2, 1) := by decide +kernel
theorem cell_d17 : decode method_2_code 17 = .ok (.if_icmp .ne 6, 3) := by decide +kernel
theorem cell_d20 : decode method_2_code 20 = .ok (.ldc 11, 2) := by decide +kernel
theorem cell_d22 : decode method_2_code 22 = .ok (.areturn, 1) := by decide +kernel
theorem cell_d23 : decode method_2_code 23 = .ok (.ldc 13, 2) := by decide +kernel
theorem cell_d25 : decode method_2_code 25 = .ok (.areturn, 1) := by decide +kernel
theorem cell_ef (m : MethodId) (x : Int32) : entryFrame m #[(.int x)] 1 = mkF m 0 #[.val (.int x)] [] := by first | (simp [entryFrame, mkF, argsToLocals, Value.category]; done) | rfl
theorem cell_met0 {l : Launch} {Z : State} {a0 : Array Value} (w : (Cond.stringLink "com/example/charterlens/charterlens/cli/TableWidenPinLaw" 7 "").before a0 Z = true) (wS : ∀ a ∈ Bundle.stringAtoms, a.before a0 Z = true) (hEL : EW Z a0 cellEL) (h : Heap) :
    MetFree l cellN (head1 [Cond.code cellN method_2_code 1 (some (.object "java/lang/String"))] cellR) (fun a U => a = #[.int 0] ∧ Z.Warmed39 U.vm ∧ U.heap = h ∧ CHv Z cellEL U.vm h) (fun _ _ _ _ _ => True) (fun _ U o U' => ∃ v L, o = .returned v ∧ cellQ Z 0 h v U'.heap L ∧ CHr Z cellEL U.vm U.heap U'.vm U'.heap ∧ ReturnedEndW U o U' L cellR.cells cellR.slots) := by
  refine MetFree.of_bodySF cell_pl hisR ?_
  intro p e s m args below meth c s₁ Bd hml0 hP hK0
  obtain ⟨rfl, hZ, hh, hCH⟩ := hP
  have hx := Bd.exec
  have hby := Bd.bytes
  have hown : s.vm.findClass "com/example/charterlens/charterlens/cli/TableWidenPinLaw" = some m.cls := findClass_of_methodNamed Bd.named
  have X0 : Stand p l e cellR s m #[.int 0] below meth c s₁ [] 0 0 := Stand.of_body Bd
  have e0 : s₁.heap = h := by rw [← hh, Bd.state]; rfl
  obtain ⟨u, o, st, r1, r2, r3⟩ := cell_ldc (Ls := #[.val (.int 0)]) (pc := 4) (q := 0) (vs := []) X0 hx hZ hown w wS e0 hh hEL (by simp) hCH ⟨by decide, by decide⟩ (by decide) rfl (fun _ => rfl) (by rw [hby]; exact cell_d4) (by rw [hby]; exact cell_d6) (by decide) (by decide) (by decide) Bd.returns Bd.notSynchronized
  refine ⟨u, o, castTop (cell_ef m 0) ?_, r1, r2, r3⟩
  show Steps p.tables e below (s₁.setTop (mkF m 0 #[.val (.int 0)] [])) _
  refine XS.iloadN X0.here hx rfl (by rw [hby]; exact cell_d0) rfl ?_
  show Steps p.tables e below (s₁.setTop (mkF m 1 #[.val (.int 0)] [.int 0])) _
  refine XS.ifNo X0.here hx rfl (by rw [hby]; exact cell_d1) rfl (by decide) ?_
  show Steps p.tables e below (s₁.setTop (mkF m 4 #[.val (.int 0)] [])) _
  exact st
theorem cell_met1 {l : Launch} {Z : State} {a0 : Array Value} (w : (Cond.stringLink "com/example/charterlens/charterlens/cli/TableWidenPinLaw" 9 "a").before a0 Z = true) (wS : ∀ a ∈ Bundle.stringAtoms, a.before a0 Z = true) (hEL : EW Z a0 cellEL) (h : Heap) :
    MetFree l cellN (head1 [Cond.code cellN method_2_code 1 (some (.object "java/lang/String"))] cellR) (fun a U => a = #[.int 1] ∧ Z.Warmed39 U.vm ∧ U.heap = h ∧ CHv Z cellEL U.vm h) (fun _ _ _ _ _ => True) (fun _ U o U' => ∃ v L, o = .returned v ∧ cellQ Z 1 h v U'.heap L ∧ CHr Z cellEL U.vm U.heap U'.vm U'.heap ∧ ReturnedEndW U o U' L cellR.cells cellR.slots) := by
  refine MetFree.of_bodySF cell_pl hisR ?_
  intro p e s m args below meth c s₁ Bd hml0 hP hK0
  obtain ⟨rfl, hZ, hh, hCH⟩ := hP
  have hx := Bd.exec
  have hby := Bd.bytes
  have hown : s.vm.findClass "com/example/charterlens/charterlens/cli/TableWidenPinLaw" = some m.cls := findClass_of_methodNamed Bd.named
  have X0 : Stand p l e cellR s m #[.int 1] below meth c s₁ [] 0 0 := Stand.of_body Bd
  have e0 : s₁.heap = h := by rw [← hh, Bd.state]; rfl
  obtain ⟨u, o, st, r1, r2, r3⟩ := cell_ldc (Ls := #[.val (.int 1)]) (pc := 12) (q := 1) (vs := [.int 97]) X0 hx hZ hown w wS e0 hh hEL (by simp) hCH ⟨by decide, by decide⟩ (by decide) rfl (fun _ => rfl) (by rw [hby]; exact cell_d12) (by rw [hby]; exact cell_d14) (by decide) (by decide) (by decide) Bd.returns Bd.notSynchronized
  refine ⟨u, o, castTop (cell_ef m 1) ?_, r1, r2, r3⟩
  show Steps p.tables e below (s₁.setTop (mkF m 0 #[.val (.int 1)] [])) _
  refine XS.iloadN X0.here hx rfl (by rw [hby]; exact cell_d0) rfl ?_
  show Steps p.tables e below (s₁.setTop (mkF m 1 #[.val (.int 1)] [.int 1])) _
  refine XS.ifYes X0.here hx rfl rfl (by rw [hby]; exact cell_d1) rfl (by decide) (show (0 : Int) ≤ ((1 : Nat) : Int) + 6 by decide) rfl ?_
  show Steps p.tables e below (s₁.setTop (mkF m 7 #[.val (.int 1)] [])) _
  refine XS.iloadN X0.here hx rfl (by rw [hby]; exact cell_d7) rfl ?_
  show Steps p.tables e below (s₁.setTop (mkF m 8 #[.val (.int 1)] [.int 1])) _
  refine XS.iconst X0.here hx rfl (by rw [hby]; exact cell_d8) ?_
  show Steps p.tables e below (s₁.setTop (mkF m 9 #[.val (.int 1)] [.int 1, .int 1])) _
  refine XS.icmpNo X0.here hx rfl (by rw [hby]; exact cell_d9) rfl (by decide) ?_
  show Steps p.tables e below (s₁.setTop (mkF m 12 #[.val (.int 1)] [])) _
  exact st
theorem cell_met2 {l : Launch} {Z : State} {a0 : Array Value} (w : (Cond.stringLink "com/example/charterlens/charterlens/cli/TableWidenPinLaw" 11 "ab").before a0 Z = true) (wS : ∀ a ∈ Bundle.stringAtoms, a.before a0 Z = true) (hEL : EW Z a0 cellEL) (h : Heap) :
    MetFree l cellN (head1 [Cond.code cellN method_2_code 1 (some (.object "java/lang/String"))] cellR) (fun a U => a = #[.int 2] ∧ Z.Warmed39 U.vm ∧ U.heap = h ∧ CHv Z cellEL U.vm h) (fun _ _ _ _ _ => True) (fun _ U o U' => ∃ v L, o = .returned v ∧ cellQ Z 2 h v U'.heap L ∧ CHr Z cellEL U.vm U.heap U'.vm U'.heap ∧ ReturnedEndW U o U' L cellR.cells cellR.slots) := by
  refine MetFree.of_bodySF cell_pl hisR ?_
  intro p e s m args below meth c s₁ Bd hml0 hP hK0
  obtain ⟨rfl, hZ, hh, hCH⟩ := hP
  have hx := Bd.exec
  have hby := Bd.bytes
  have hown : s.vm.findClass "com/example/charterlens/charterlens/cli/TableWidenPinLaw" = some m.cls := findClass_of_methodNamed Bd.named
  have X0 : Stand p l e cellR s m #[.int 2] below meth c s₁ [] 0 0 := Stand.of_body Bd
  have e0 : s₁.heap = h := by rw [← hh, Bd.state]; rfl
  obtain ⟨u, o, st, r1, r2, r3⟩ := cell_ldc (Ls := #[.val (.int 2)]) (pc := 20) (q := 2) (vs := [.int 97, .int 98]) X0 hx hZ hown w wS e0 hh hEL (by simp) hCH ⟨by decide, by decide⟩ (by decide) rfl (fun _ => rfl) (by rw [hby]; exact cell_d20) (by rw [hby]; exact cell_d22) (by decide) (by decide) (by decide) Bd.returns Bd.notSynchronized
  refine ⟨u, o, castTop (cell_ef m 2) ?_, r1, r2, r3⟩
  show Steps p.tables e below (s₁.setTop (mkF m 0 #[.val (.int 2)] [])) _
  refine XS.iloadN X0.here hx rfl (by rw [hby]; exact cell_d0) rfl ?_
  show Steps p.tables e below (s₁.setTop (mkF m 1 #[.val (.int 2)] [.int 2])) _
  refine XS.ifYes X0.here hx rfl rfl (by rw [hby]; exact cell_d1) rfl (by decide) (show (0 : Int) ≤ ((1 : Nat) : Int) + 6 by decide) rfl ?_
  show Steps p.tables e below (s₁.setTop (mkF m 7 #[.val (.int 2)] [])) _
  refine XS.iloadN X0.here hx rfl (by rw [hby]; exact cell_d7) rfl ?_
  show Steps p.tables e below (s₁.setTop (mkF m 8 #[.val (.int 2)] [.int 2])) _
  refine XS.iconst X0.here hx rfl (by rw [hby]; exact cell_d8) ?_
  show Steps p.tables e below (s₁.setTop (mkF m 9 #[.val (.int 2)] [.int 1, .int 2])) _
  refine XS.icmpYes X0.here hx rfl rfl (by rw [hby]; exact cell_d9) rfl (by decide) (show (0 : Int) ≤ ((9 : Nat) : Int) + 6 by decide) rfl ?_
  show Steps p.tables e below (s₁.setTop (mkF m 15 #[.val (.int 2)] [])) _
  refine XS.iloadN X0.here hx rfl (by rw [hby]; exact cell_d15) rfl ?_
  show Steps p.tables e below (s₁.setTop (mkF m 16 #[.val (.int 2)] [.int 2])) _
  refine XS.iconst X0.here hx rfl (by rw [hby]; exact cell_d16) ?_
  show Steps p.tables e below (s₁.setTop (mkF m 17 #[.val (.int 2)] [.int 2, .int 2])) _
  refine XS.icmpNo X0.here hx rfl (by rw [hby]; exact cell_d17) rfl (by decide) ?_
  show Steps p.tables e below (s₁.setTop (mkF m 20 #[.val (.int 2)] [])) _
  exact st
theorem cell_met3 {l : Launch} {Z : State} {a0 : Array Value} (w : (Cond.stringLink "com/example/charterlens/charterlens/cli/TableWidenPinLaw" 13 "abc").before a0 Z = true) (wS : ∀ a ∈ Bundle.stringAtoms, a.before a0 Z = true) (hEL : EW Z a0 cellEL) (h : Heap) :
    MetFree l cellN (head1 [Cond.code cellN method_2_code 1 (some (.object "java/lang/String"))] cellR) (fun a U => a = #[.int 3] ∧ Z.Warmed39 U.vm ∧ U.heap = h ∧ CHv Z cellEL U.vm h) (fun _ _ _ _ _ => True) (fun _ U o U' => ∃ v L, o = .returned v ∧ cellQ Z 3 h v U'.heap L ∧ CHr Z cellEL U.vm U.heap U'.vm U'.heap ∧ ReturnedEndW U o U' L cellR.cells cellR.slots) := by
  refine MetFree.of_bodySF cell_pl hisR ?_
  intro p e s m args below meth c s₁ Bd hml0 hP hK0
  obtain ⟨rfl, hZ, hh, hCH⟩ := hP
  have hx := Bd.exec
  have hby := Bd.bytes
  have hown : s.vm.findClass "com/example/charterlens/charterlens/cli/TableWidenPinLaw" = some m.cls := findClass_of_methodNamed Bd.named
  have X0 : Stand p l e cellR s m #[.int 3] below meth c s₁ [] 0 0 := Stand.of_body Bd
  have e0 : s₁.heap = h := by rw [← hh, Bd.state]; rfl
  obtain ⟨u, o, st, r1, r2, r3⟩ := cell_ldc (Ls := #[.val (.int 3)]) (pc := 23) (q := 3) (vs := [.int 97, .int 98, .int 99]) X0 hx hZ hown w wS e0 hh hEL (by simp) hCH ⟨by decide, by decide⟩ (by decide) rfl (fun _ => rfl) (by rw [hby]; exact cell_d23) (by rw [hby]; exact cell_d25) (by decide) (by decide) (by decide) Bd.returns Bd.notSynchronized
  refine ⟨u, o, castTop (cell_ef m 3) ?_, r1, r2, r3⟩
  show Steps p.tables e below (s₁.setTop (mkF m 0 #[.val (.int 3)] [])) _
  refine XS.iloadN X0.here hx rfl (by rw [hby]; exact cell_d0) rfl ?_
  show Steps p.tables e below (s₁.setTop (mkF m 1 #[.val (.int 3)] [.int 3])) _
  refine XS.ifYes X0.here hx rfl rfl (by rw [hby]; exact cell_d1) rfl (by decide) (show (0 : Int) ≤ ((1 : Nat) : Int) + 6 by decide) rfl ?_
  show Steps p.tables e below (s₁.setTop (mkF m 7 #[.val (.int 3)] [])) _
  refine XS.iloadN X0.here hx rfl (by rw [hby]; exact cell_d7) rfl ?_
  show Steps p.tables e below (s₁.setTop (mkF m 8 #[.val (.int 3)] [.int 3])) _
  refine XS.iconst X0.here hx rfl (by rw [hby]; exact cell_d8) ?_
  show Steps p.tables e below (s₁.setTop (mkF m 9 #[.val (.int 3)] [.int 1, .int 3])) _
  refine XS.icmpYes X0.here hx rfl rfl (by rw [hby]; exact cell_d9) rfl (by decide) (show (0 : Int) ≤ ((9 : Nat) : Int) + 6 by decide) rfl ?_
  show Steps p.tables e below (s₁.setTop (mkF m 15 #[.val (.int 3)] [])) _
  refine XS.iloadN X0.here hx rfl (by rw [hby]; exact cell_d15) rfl ?_
  show Steps p.tables e below (s₁.setTop (mkF m 16 #[.val (.int 3)] [.int 3])) _
  refine XS.iconst X0.here hx rfl (by rw [hby]; exact cell_d16) ?_
  show Steps p.tables e below (s₁.setTop (mkF m 17 #[.val (.int 3)] [.int 2, .int 3])) _
  refine XS.icmpYes X0.here hx rfl rfl (by rw [hby]; exact cell_d17) rfl (by decide) (show (0 : Int) ≤ ((17 : Nat) : Int) + 6 by decide) rfl ?_
  show Steps p.tables e below (s₁.setTop (mkF m 23 #[.val (.int 3)] [])) _
  exact st
theorem cell_met {l : Launch} {Z : State} {a0 : Array Value} (w0 : (Cond.stringLink "com/example/charterlens/charterlens/cli/TableWidenPinLaw" 7 "").before a0 Z = true) (w1 : (Cond.stringLink "com/example/charterlens/charterlens/cli/TableWidenPinLaw" 9 "a").before a0 Z = true) (w2 : (Cond.stringLink "com/example/charterlens/charterlens/cli/TableWidenPinLaw" 11 "ab").before a0 Z = true) (w3 : (Cond.stringLink "com/example/charterlens/charterlens/cli/TableWidenPinLaw" 13 "abc").before a0 Z = true) (wS : ∀ a ∈ Bundle.stringAtoms, a.before a0 Z = true) (hEL : EW Z a0 cellEL) (q : Int32) (hq : q = 0 ∨ q = 1 ∨ q = 2 ∨ q = 3) (h : Heap) :
    MetFree l cellN (head1 [Cond.code cellN method_2_code 1 (some (.object "java/lang/String"))] cellR) (fun a U => a = #[.int q] ∧ Z.Warmed39 U.vm ∧ U.heap = h ∧ CHv Z cellEL U.vm h) (fun _ _ _ _ _ => True) (fun _ U o U' => ∃ v L, o = .returned v ∧ cellQ Z q h v U'.heap L ∧ CHr Z cellEL U.vm U.heap U'.vm U'.heap ∧ ReturnedEndW U o U' L cellR.cells cellR.slots) := by
  rcases hq with rfl | rfl | rfl | rfl
  · exact cell_met0 w0 wS hEL h
  · exact cell_met1 w1 wS hEL h
  · exact cell_met2 w2 wS hEL h
  · exact cell_met3 w3 wS hEL h

theorem cell_call {l : Launch} {Z : State} {a0 : Array Value} {p : Program} {e : Env} {R : Room} {s : State} {vm0 : Vm} {m : MethodId} {args : Array Value} {below : List Frame} {meth : Method} {c : Code} {T : State} {locs : List Loc} {cells sl k0 pc : Nat} {q : Int32} {Ls : Array Slot} {r : List Value}
    (X : Stand p l e R (s.setVm vm0) m args below meth c T locs cells sl) (hx : p.tables.exec = Jvm.exec) (hS : s.Since vm0 k0) (hk : k0 ≤ T.heap.size) (hZ : Z.Warmed39 vm0) (hown : vm0.findClass cellN.cls = some m.cls) (hEL : EW Z a0 cellEL) (H : CHv Z cellEL vm0 T.heap)
    (M : MetFree l cellN (head1 [Cond.code cellN method_2_code 1 (some (.object "java/lang/String"))] cellR) (fun a U => a = #[.int q] ∧ Z.Warmed39 U.vm ∧ U.heap = T.heap ∧ CHv Z cellEL U.vm T.heap) (fun _ _ _ _ _ => True) (fun _ U o U' => ∃ v L, o = .returned v ∧ cellQ Z q T.heap v U'.heap L ∧ CHr Z cellEL U.vm U.heap U'.vm U'.heap ∧ ReturnedEndW U o U' L cellR.cells cellR.slots))
    (w1 : (Cond.methodLink cellN.cls 19 cellN).before a0 Z = true) (w2 : (Cond.static cellN).before a0 Z = true) (w3 : (Cond.initialized cellN.cls).before a0 Z = true) (w4 : (Cond.code cellN method_2_code 1 (some (.object "java/lang/String"))).before a0 Z = true)
    (hLs : Ls.size = c.maxLocals) (hcat : (r.map fun v => v.category).sum ≤ 8) (hd : decode c.code pc = .ok (.invokestatic 19, 3)) (hRf : cellR.frames + 1 ≤ R.frames) (hRl : 8 + (1 + 11) + cellR.locals ≤ R.locals) (hRc : cells + cellR.cells ≤ R.cells) (hRs : sl + cellR.slots ≤ R.slots) :
    ∃ (T' : State) (a b : Addr) (k : ClassId) (vs : List Value), Stand p l e R (s.setVm T'.vm) m args below meth c T' locs (cells + 2) (sl + 16) ∧ s.Since T'.vm T'.heap.size ∧ Z.Warmed39 T'.vm ∧ T'.vm.findClass cellN.cls = some m.cls ∧ CHv Z cellEL T'.vm T'.heap ∧ Ext T.heap T'.heap ∧
      (Exa Z T'.heap a "java/lang/String" ∧ Fld Z T'.heap a "java/lang/String" "coder" "B" (.int 0) ∧ Fld Z T'.heap a "java/lang/String" "value" "[B" (.ref b) ∧ Arv Z T'.heap b k .byte q vs (.int 0) ∧ ¬ q < 0 ∧ q.toNatClampNeg = vs.length ∧ a < T'.heap.size ∧ b < T'.heap.size ∧ ∀ n0 : Nat → Nat, mmUV n0 vs = vs) ∧
      ∀ target, Steps p.tables e below (T'.setTop (mkF m (pc + 3) Ls (.ref a :: r))) target → Steps p.tables e below (T.setTop (mkF m pc Ls (.int q :: r))) target := by
  obtain ⟨v, vm1, ⟨U, L1, k1, j1⟩, -, X1, hS1, hgr, ⟨Lc, hQ, l1, y1, z1, hC⟩, st⟩ := callSS (s := s.setVm vm0) X hx (y := cellN) hown (mvT (s := s.setVm vm0) hZ w1) (mvT (s := s.setVm vm0) hZ w2) (mvT (s := s.setVm vm0) hZ w3) (mvT (s := s.setVm vm0) hZ w4) (by decide)
    (backOfSH (s := s) (vm0 := vm0) (W := 8) (Q := cellQ Z q T.heap) M hZ w4 w3 hRf hRl hEL H)
    (g := mkF m pc Ls (.int q :: r)) rfl hLs (argsL := [.int q]) (rest := r) (lenOf (by decide +kernel : parseMethodDescriptor cellN.desc = some ⟨[.int], some (.object "java/lang/String")⟩) rfl) rfl (by show 2 * 0 + _ ≤ 8; omega) hd (fun _ _ => ⟨rfl, rfl, hRc, hRs⟩)
  dsimp only [Pt.U, Pt.locs, Pt.cells, Pt.slots] at X1 hS1 hgr l1 y1 z1 st hQ hC
  obtain ⟨rfl, E, a, b, k, vs, rfl, f1, f2, f3, f4, f5, f6, f7, f8, f9⟩ := hQ
  subst l1 y1 z1
  rw [List.append_nil] at X1
  have hS2 : s.Since U.vm U.heap.size := hS.trans hS1 (Nat.le_trans hk hgr)
  have hW2 : Z.Warmed39 U.vm := State.Warmed39.trans (t := s.setVm vm0) hZ hS1.1
  exact ⟨U, a, b, k, vs, X1, hS2, hW2, (hS1.1.alike.findClass _ _).trans hown, hC.1, E, ⟨f1, f2, f3, f4, f5, f6, f7, f8, f9⟩, fun target z => st.trans z⟩

theorem own_slots {cl : Cell} {vs : List Value} {d : Value} (hs : cl.slots.size = vs.length) (H : Has cl vs d) : cl.slots = vs.toArray := by
  apply Array.ext_getElem?
  intro j
  by_cases hj : j < cl.slots.size
  · rw [H j hj]
    have hj' : j < vs.length := by omega
    simp [hj']
  · rw [Array.getElem?_eq_none (by omega), Array.getElem?_eq_none (by simp; omega)]
theorem own_in {j : Int32} {n : Nat} (h1 : ¬ j < 0) (h2 : j.toNatClampNeg < n) : ¬ (j < 0 ∨ n ≤ j.toNatClampNeg) := fun q => q.elim h1 (fun z => absurd h2 (Nat.not_lt.mpr z))
theorem own_len0 {args : Array Value} {s : State} {d : Addr} {cd : Cell} {t : Term} (ev : t.eval args s none [] s = some (.ref d)) (hat : s.arrayAt? d = some cd) (r8 : (Term.length t).eval args s none [] s = some (.int 0)) : cd.slots.size < 2 ^ 31 ∧ cd.slots.size.toInt32 = 0 := by
  simp only [Term.eval, ev, hat, Option.bind_eq_bind, Option.bind_some, Option.pure_def] at r8
  split at r8
  · rename_i h
    exact ⟨h, by simpa using r8⟩
  · cases r8
theorem own_lenq {q : Int32} {n : Nat} (hq : ¬ q < 0) (h : q.toNatClampNeg = n) : n.toInt32 = q := by
  have z : (0 : Int32).toInt = 0 := rfl
  rw [Int32.lt_iff_toInt_lt, z] at hq
  have h1 : q.toInt.toNat = n := h
  have h2 := q.toInt_lt
  apply Int32.toInt_inj.mp
  rw [len_toInt (by omega)]; omega
theorem own_q3 (x : Int32) : (x &&& (3 : Int32)) = 0 ∨ (x &&& (3 : Int32)) = 1 ∨ (x &&& (3 : Int32)) = 2 ∨ (x &&& (3 : Int32)) = 3 := by
  have h1 := Kit.i32_mask x 3 (k := 2) (by decide) (by decide)
  have h2 : (x &&& 3 : Int32).toInt = 0 ∨ (x &&& 3 : Int32).toInt = 1 ∨ (x &&& 3 : Int32).toInt = 2 ∨ (x &&& 3 : Int32).toInt = 3 := by omega
  simp only [← Int32.toInt_inj]
  exact h2
theorem own_seg {l : Launch} {Z : State} {a0 : Array Value} {p : Program} {e : Env} {R : Room} {s : State} {m : MethodId} {args : Array Value} {below : List Frame} {meth : Method} {c : Code} {T : State} {locs : List Loc} {cells sl P : Nat} {j jn w : Int32} {nn : Int} {a r t ea : Addr} {cl cle : Cell} {L : Array Slot}
    (X : Stand p l e R s m args below meth c T locs cells sl) (hx : p.tables.exec = Jvm.exec) (hZ : Z.Warmed39 s.vm) (A : Arr Z T.heap r cl (.object "java/lang/String")) (O : Ovr Z cl.cls "java/lang/String") (E : Exa Z T.heap a "java/lang/String") (wc : (Cond.castable "java/lang/String" "java/lang/String").before a0 Z = true)
    (hj : ¬ (j < 0 ∨ cl.slots.size ≤ j.toNatClampNeg)) (Ae : Arr Z T.heap ea cle .int) (hne : ea ≠ r) (hjn : Int32.ofInt nn = jn) (hin : ¬ (jn < 0 ∨ cle.slots.size ≤ jn.toNatClampNeg)) (hat : cle.slots[jn.toNatClampNeg]? = some (.int w)) (hL5 : L[5]? = some (.val (.ref ea)))
    (d1 : decode c.code P = .ok (.aastore, 1)) (d2 : decode c.code (P + 1) = .ok (.dup, 1)) (d3 : decode c.code (P + 2) = .ok (.iconst nn, 1)) (d4 : decode c.code (P + 3) = .ok (.aload 5, 2)) (d5 : decode c.code (P + 5) = .ok (.iconst nn, 1)) (d6 : decode c.code (P + 6) = .ok (.iaload, 1)) :
    ∃ T', Stand p l e R s m args below meth c T' (locs ++ [⟨r, j.toNatClampNeg⟩]) cells sl ∧ Wr T.heap T'.heap r j.toNatClampNeg (.ref a) ∧ ∀ target, Steps p.tables e below (T'.setTop (mkF m (P + 7) L [.int w, .int jn, .ref r, .ref r, .ref t, .ref t])) target → Steps p.tables e below (T.setTop (mkF m P L [.ref a, .int j, .ref r, .ref r, .ref t, .ref t])) target := by
  obtain ⟨T', h', X', e', W, st⟩ := stR X hx hZ rfl A hj rfl (Sto.of A O (Ins.of_exa E wc)) (g := mkF m P L [.ref a, .int j, .ref r, .ref r, .ref t, .ref t]) rfl rfl d1
  subst e'
  subst hjn
  refine ⟨T', X', W, fun target z => st target ?_⟩
  refine XS.dup X'.here hx rfl d2 rfl rfl ?_
  refine XS.iconst X'.here hx rfl d3 ?_
  refine XS.aload X'.here hx rfl d4 hL5 rfl ?_
  refine XS.iconst X'.here hx rfl d5 ?_
  exact X'.iaload hx (Ae.other W hne).1 (State.isArrayOf_alike hZ.alike Ae.2.1) Ae.2.2 hin hat (g := mkF m (P + 6) L [.int (Int32.ofInt nn), .ref ea, .int (Int32.ofInt nn), .ref r, .ref r, .ref t, .ref t]) rfl rfl d6 target z
theorem own_seg1 {l : Launch} {Z : State} {a0 : Array Value} {p : Program} {e : Env} {R : Room} {s : State} {m : MethodId} {args : Array Value} {below : List Frame} {meth : Method} {c : Code} {T : State} {locs : List Loc} {cells sl P : Nat} {j : Int32} {a r t : Addr} {cl : Cell} {L : Array Slot}
    (X : Stand p l e R s m args below meth c T locs cells sl) (hx : p.tables.exec = Jvm.exec) (hZ : Z.Warmed39 s.vm) (A : Arr Z T.heap r cl (.object "java/lang/String")) (O : Ovr Z cl.cls "java/lang/String") (E : Exa Z T.heap a "java/lang/String") (wc : (Cond.castable "java/lang/String" "java/lang/String").before a0 Z = true)
    (hj : ¬ (j < 0 ∨ cl.slots.size ≤ j.toNatClampNeg)) (d1 : decode c.code P = .ok (.aastore, 1)) :
    ∃ T', Stand p l e R s m args below meth c T' (locs ++ [⟨r, j.toNatClampNeg⟩]) cells sl ∧ Wr T.heap T'.heap r j.toNatClampNeg (.ref a) ∧ ∀ target, Steps p.tables e below (T'.setTop (mkF m (P + 1) L [.ref r, .ref t, .ref t])) target → Steps p.tables e below (T.setTop (mkF m P L [.ref a, .int j, .ref r, .ref r, .ref t, .ref t])) target := by
  obtain ⟨T', h', X', e', W, st⟩ := stR X hx hZ rfl A hj rfl (Sto.of A O (Ins.of_exa E wc)) (g := mkF m P L [.ref a, .int j, .ref r, .ref r, .ref t, .ref t]) rfl rfl d1
  subst e'
  exact ⟨T', X', W, st⟩

def mmNa (I : Nat → Option Instr) : Nat → Bool
  | 0 => true
  | n + 1 => (match I n with | none => true | some i => !mmAlloc i) && mmNa I n
theorem mmNa_ok {I : Nat → Option Instr} : ∀ {n : Nat}, mmNa I n = true → ∀ pc i, pc < n → I pc = some i → mmAlloc i = false
  | 0, _, _, _, h, _ => absurd h (Nat.not_lt_zero _)
  | n + 1, h, pc, i, hp, hi => by
    unfold mmNa at h
    rw [Bool.and_eq_true] at h
    rcases Nat.lt_succ_iff_lt_or_eq.mp hp with q | rfl
    · exact mmNa_ok h.2 pc i q hi
    · have h1 := h.1
      rw [hi] at h1
      simpa using h1
theorem I_0s_sub {pc : Nat} {i : Instr} (h : I_0s pc = some i) : I_0 pc = some i := by
  unfold I_0s at h
  cases hb : Nat.ble 68 pc
  · rw [hb] at h; cases h
  · rw [hb] at h; exact h
theorem I_0s_na : ∀ pc i, I_0s pc = some i → mmAlloc i = false := fun pc i h => by
  by_cases hp : pc < 243
  · exact mmNa_ok (I := I_0s) (n := 243) (by decide +kernel) pc i hp h
  · have q := I_0s_sub h
    have hb : Nat.blt pc 243 = false := by
      cases hb : Nat.blt pc 243
      · rfl
      · exact absurd (Nat.le_of_ble_eq_true (n := pc + 1) hb) hp
    unfold I_0 mmCut at q
    rw [hb] at q
    cases q
theorem law_d44 : decode code 44 = .ok (.invokestatic 19, 3) := by decide +kernel
theorem law_d54 : decode code 54 = .ok (.invokestatic 19, 3) := by decide +kernel
theorem law_d64 : decode code 64 = .ok (.invokestatic 19, 3) := by decide +kernel
theorem law_d47 : decode code 47 = .ok (.aastore, 1) := by decide +kernel
theorem law_d48 : decode code 48 = .ok (.dup, 1) := by decide +kernel
theorem law_d49 : decode code 49 = .ok (.iconst 1, 1) := by decide +kernel
theorem law_d50 : decode code 50 = .ok (.aload 5, 2) := by decide +kernel
theorem law_d52 : decode code 52 = .ok (.iconst 1, 1) := by decide +kernel
theorem law_d53 : decode code 53 = .ok (.iaload, 1) := by decide +kernel
theorem law_d57 : decode code 57 = .ok (.aastore, 1) := by decide +kernel
theorem law_d58 : decode code 58 = .ok (.dup, 1) := by decide +kernel
theorem law_d59 : decode code 59 = .ok (.iconst 2, 1) := by decide +kernel
theorem law_d60 : decode code 60 = .ok (.aload 5, 2) := by decide +kernel
theorem law_d62 : decode code 62 = .ok (.iconst 2, 1) := by decide +kernel
theorem law_d63 : decode code 63 = .ok (.iaload, 1) := by decide +kernel
theorem law_d67 : decode code 67 = .ok (.aastore, 1) := by decide +kernel
theorem own_relA {Z : State} {h : Heap} {d : Nat} (oD : ∀ n0 : Nat → Nat, mmObjOk CT Z n0 h d (.inr (.object "java/lang/Object", []))) (hd : d < h.size) (t1 : Sta Z h "java/util/ArrayList" "DEFAULTCAPACITY_EMPTY_ELEMENTDATA" "[Ljava/lang/Object;" (.ref d)) (t2 : ∃ z : Int32, z ≠ 0 ∧ Sta Z h "java/lang/String" "COMPACT_STRINGS" "Z" (.int z)) :
    mmRel CT Z (own_rho [d, d, d, d, d, d, d] h.size) h [.inr (.object "java/lang/Object", []), .inr (.object "java/lang/Object", []), .inr (.object "java/lang/Object", []), .inr (.object "java/lang/Object", []), .inr (.object "java/lang/Object", []), .inr (.object "java/lang/Object", []), .inr (.object "java/lang/Object", [])] := by
  refine ⟨fun a ha => own_rho_hi ha, fun i o hi => ?_, fun a b ha hne => ?_, ⟨t1, trivial⟩, t2⟩
  · match i, hi with
    | 0, hi => cases hi; exact oD _
    | 1, hi => cases hi; exact oD _
    | 2, hi => cases hi; exact oD _
    | 3, hi => cases hi; exact oD _
    | 4, hi => cases hi; exact oD _
    | 5, hi => cases hi; exact oD _
    | 6, hi => cases hi; exact oD _
    | n + 7, hi => simp at hi
  · have ha : 7 ≤ a := ha
    rw [own_rho_hi (show [d, d, d, d, d, d, d].length ≤ a from ha)]
    by_cases hb : 7 ≤ b
    · rw [own_rho_hi (show [d, d, d, d, d, d, d].length ≤ b from hb)]
      show h.size + (a - 7) ≠ h.size + (b - 7)
      omega
    · have cb : b = 0 ∨ b = 1 ∨ b = 2 ∨ b = 3 ∨ b = 4 ∨ b = 5 ∨ b = 6 := by omega
      rcases cb with rfl | rfl | rfl | rfl | rfl | rfl | rfl <;> (show h.size + (a - 7) ≠ d; omega)
theorem own_str {Z : State} {n0 : Nat → Nat} {h : Heap} {a b i : Nat} (hb : n0 i = b) (e1 : Exa Z h a "java/lang/String") (e2 : Fld Z h a "java/lang/String" "coder" "B" (.int 0)) (e3 : Fld Z h a "java/lang/String" "value" "[B" (.ref b)) : mmObjOk CT Z n0 h a (.inl (1, [.ref i, .int 0])) := by
  refine ⟨_, _, _, rfl, e1, rfl, fun j O f d ty v q1 q2 => ?_⟩
  match j, q1, q2 with
  | 0, q1, q2 =>
    cases q1; cases q2
    show Fld Z h a _ _ _ (.ref (n0 i))
    rw [hb]; exact e3
  | 1, q1, q2 => cases q1; cases q2; exact e2
  | k + 2, q1, q2 => simp at q2
theorem own_rel {Z : State} {h : Heap} {d s0 s1 s2 b0 b1 b2 N : Nat} {o0 o1 o2 o3 o4 o5 o6 o7 o8 o9 : MObj} (hi : mmInj (own_rho [d, s0, s1, s2, b0, b1, b2, N, N + 1, N + 2] h.size)) (t1 : Sta Z h "java/util/ArrayList" "DEFAULTCAPACITY_EMPTY_ELEMENTDATA" "[Ljava/lang/Object;" (.ref d)) (t2 : ∃ z : Int32, z ≠ 0 ∧ Sta Z h "java/lang/String" "COMPACT_STRINGS" "Z" (.int z))
    (q0 : mmObjOk CT Z (own_rho [d, s0, s1, s2, b0, b1, b2, N, N + 1, N + 2] h.size) h d o0) (q1 : mmObjOk CT Z (own_rho [d, s0, s1, s2, b0, b1, b2, N, N + 1, N + 2] h.size) h s0 o1) (q2 : mmObjOk CT Z (own_rho [d, s0, s1, s2, b0, b1, b2, N, N + 1, N + 2] h.size) h s1 o2) (q3 : mmObjOk CT Z (own_rho [d, s0, s1, s2, b0, b1, b2, N, N + 1, N + 2] h.size) h s2 o3) (q4 : mmObjOk CT Z (own_rho [d, s0, s1, s2, b0, b1, b2, N, N + 1, N + 2] h.size) h b0 o4) (q5 : mmObjOk CT Z (own_rho [d, s0, s1, s2, b0, b1, b2, N, N + 1, N + 2] h.size) h b1 o5) (q6 : mmObjOk CT Z (own_rho [d, s0, s1, s2, b0, b1, b2, N, N + 1, N + 2] h.size) h b2 o6) (q7 : mmObjOk CT Z (own_rho [d, s0, s1, s2, b0, b1, b2, N, N + 1, N + 2] h.size) h N o7) (q8 : mmObjOk CT Z (own_rho [d, s0, s1, s2, b0, b1, b2, N, N + 1, N + 2] h.size) h (N + 1) o8) (q9 : mmObjOk CT Z (own_rho [d, s0, s1, s2, b0, b1, b2, N, N + 1, N + 2] h.size) h (N + 2) o9) : mmRel CT Z (own_rho [d, s0, s1, s2, b0, b1, b2, N, N + 1, N + 2] h.size) h [o0, o1, o2, o3, o4, o5, o6, o7, o8, o9] := by
  refine ⟨fun a ha => own_rho_hi ha, fun i o hi => ?_, hi, ⟨t1, trivial⟩, t2⟩
  match i, hi with
  | 0, hi => cases hi; exact q0
  | 1, hi => cases hi; exact q1
  | 2, hi => cases hi; exact q2
  | 3, hi => cases hi; exact q3
  | 4, hi => cases hi; exact q4
  | 5, hi => cases hi; exact q5
  | 6, hi => cases hi; exact q6
  | 7, hi => cases hi; exact q7
  | 8, hi => cases hi; exact q8
  | 9, hi => cases hi; exact q9
  | n + 10, hi => simp at hi
set_option maxRecDepth 65536 in
set_option maxHeartbeats 40000000 in
theorem law_met (l : Launch) (Z : State) (a0 : Array Value) (hw : ∀ d ∈ tables_1, d.before a0 Z = true) (ws : List Jvm.Cond) (x0 x1 x2 x3 x4 : Int32) (d : Nat) (hd : d < Z.heap.size) (hdef : ∃ c : Cell, Arr Z Z.heap d c (.object "java/lang/Object") ∧ c.slots = #[]) (t1 : Sta Z Z.heap "java/util/ArrayList" "DEFAULTCAPACITY_EMPTY_ELEMENTDATA" "[Ljava/lang/Object;" (.ref d)) (t2 : ∃ z : Int32, z ≠ 0 ∧ Sta Z Z.heap "java/lang/String" "COMPACT_STRINGS" "Z" (.int z)) (hEL : EW Z a0 cellEL) (hCH : CHv Z cellEL Z.vm Z.heap) (wS : ∀ a ∈ Bundle.stringAtoms, a.before a0 Z = true) :
    MetFree l x (head1 (Jvm.Cond.code x code maxLocals ret :: ws) room_1) (fun a U => a = #[(.int x0), (.int x1), (.int x2), (.int x3), (.int x4)] ∧ U.vm = Z.vm ∧ U.heap = Z.heap) (fun _ _ _ _ _ => True) (fun _ U o U' => ∃ v L, o = .returned v ∧ (v = some (.int 1) ∧ Fr Z.heap.size L) ∧ ReturnedEndW U o U' L room_1.cells room_1.slots) := by
  refine MetFree.of_bodySF pl_0 hisR ?_
  intro p e s m args below meth c s₁ Bd hml0 hP hK0
  obtain ⟨rfl, hvm, hh⟩ := hP
  have hx := Bd.exec
  have hby := Bd.bytes
  have hown : s.vm.findClass "com/example/charterlens/charterlens/cli/TableWidenPinLaw" = some m.cls := findClass_of_methodNamed Bd.named
  have hnm : meth.name = "law" := (name_of_methodNamed Bd.named Bd.method).1
  have hZ : Z.Warmed39 s.vm := by rw [hvm]; exact State.Warmed39.refl Z
  have X0 : Stand p l e room_1 s m #[(.int x0), (.int x1), (.int x2), (.int x3), (.int x4)] below meth c s₁ [] 0 0 := Stand.of_body Bd
  have e0 : s₁.heap = s.heap := by rw [Bd.state]; rfl
  have hI : ∀ pc i, I_0 pc = some i → decode c.code pc = .ok (i, mmLen i) := fun pc i h => by rw [hby]; exact hI_0 pc i h
  have hIs : ∀ pc i, I_0s pc = some i → decode c.code pc = .ok (i, mmLen i) := fun pc i h => hI pc i (I_0s_sub h)
  have hCT := CT_ok l Z a0 hw
  have hT := T_0 l Z a0 hw
  obtain ⟨cd, Ad, sd⟩ := hdef
  rw [← hh] at hd Ad t1 t2 hCH
  rw [← hvm] at hCH
  have oD : ∀ (n0 : Nat → Nat), mmObjOk CT Z n0 s.heap d (.inr (.object "java/lang/Object", [])) := fun n0 => ⟨cd, Ad, by rw [sd]; rfl, fun C _ => Or.inl rfl⟩
  have relA := own_relA oD hd t1 t2
  have hNA : ∀ a, mmM ≤ a → s.heap.size ≤ (own_rho [d, d, d, d, d, d, d] s.heap.size) a := fun a ha => by rw [own_rho_hi (show [d, d, d, d, d, d, d].length ≤ a from ha)]; exact Nat.le_add_right _ _
  obtain ⟨-, T1, ⟨locs1, cells1, X1, hc1, N1, rel1⟩, -, st1⟩ := mmStepN_ok (own := "com/example/charterlens/charterlens/cli/TableWidenPinLaw") (name := "law") (N0 := s.heap.size) (hl0 := 7) (n0 := (own_rho [d, d, d, d, d, d, d] s.heap.size)) (ret := some .boolean) hx hZ hown hnm hCT hT hNA (Or.inr fun a ha => own_rho_hi ha) hI (k := 34) (pc := 0) (pc' := 44) (L := [.val (.int x0), .val (.int x1), .val (.int x2), .val (.int x3), .val (.int x4), .unset, .unset, .unset, .unset, .unset, .unset]) (L' := [.val (.int x0), .val (.int x1), .val (.int x2), .val (.int x3), .val (.int x4), .val (.ref 7), .unset, .unset, .unset, .unset, .unset]) (S := []) (S' := [.int (x0 &&& (3 : Int32)), .int 0, .ref 9, .ref 9, .ref 8, .ref 8]) (H := [.inr (.object "java/lang/Object", []), .inr (.object "java/lang/Object", []), .inr (.object "java/lang/Object", []), .inr (.object "java/lang/Object", []), .inr (.object "java/lang/Object", []), .inr (.object "java/lang/Object", []), .inr (.object "java/lang/Object", [])]) (H' := [.inr (.object "java/lang/Object", []), .inr (.object "java/lang/Object", []), .inr (.object "java/lang/Object", []), .inr (.object "java/lang/Object", []), .inr (.object "java/lang/Object", []), .inr (.object "java/lang/Object", []), .inr (.object "java/lang/Object", []), .inr (.int, [.int (x0 &&& (3 : Int32)), .int ((XT.ushr x0 (2 : Int32)) &&& (3 : Int32)), .int ((XT.ushr x0 (4 : Int32)) &&& (3 : Int32))]), .inl (0, [.null, .null, .null]), .inr (.object "java/lang/String", [.null, .null, .null])]) (sl := 0) (sl' := 9) (T := s₁) rfl (by rw [hml0]; rfl) ⟨[], 0, X0, rfl, Fr.nil _, by rw [e0]; exact relA⟩ (Nat.le_of_ble_eq_true rfl) (Nat.le_of_ble_eq_true rfl)
  obtain rfl : cells1 = 3 := by have : cells1 + 7 = 10 := hc1; omega
  have z1 : T1.heap.size = s.heap.size + 3 := by
    have q1 := rel1.1 10 (Nat.le_refl _)
    rw [own_rho_hi (show [d, d, d, d, d, d, d].length ≤ 10 from Nat.le_of_ble_eq_true rfl)] at q1
    have q2 : s.heap.size + 3 = T1.heap.size + 0 := q1
    omega
  have E1 : Ext s.heap T1.heap := ⟨by omega, oldF X1 N1⟩
  obtain ⟨cle, Ae1, se, -⟩ := rel1.2.1 7 _ rfl
  have Ae1 : Arr Z T1.heap s.heap.size cle .int := Ae1
  have se : cle.slots = #[.int (x0 &&& (3 : Int32)), .int ((XT.ushr x0 (2 : Int32)) &&& (3 : Int32)), .int ((XT.ushr x0 (4 : Int32)) &&& (3 : Int32))] := se
  have oT1 := rel1.2.1 8 _ rfl
  have oT1 : mmObjOk CT Z (own_rho [d, d, d, d, d, d, d] s.heap.size) T1.heap (s.heap.size + 1) (.inl (0, [.null, .null, .null])) := oT1
  obtain ⟨clr, Ar1, sr, hO⟩ := rel1.2.1 9 _ rfl
  have Ar1 : Arr Z T1.heap (s.heap.size + 2) clr (.object "java/lang/String") := Ar1
  have sr : clr.slots = #[.null, .null, .null] := sr
  obtain ⟨Ov, fr, vr⟩ := (hO "java/lang/String" rfl).resolve_left (by decide)
  have oTn : ∀ (n0 : Nat → Nat), mmObjOk CT Z n0 T1.heap (s.heap.size + 1) (.inl (0, [.null, .null, .null])) := fun n0 => mmObj_rho (fun v hv => by
    have hv : v ∈ [Value.null, Value.null, Value.null] := hv
    simp only [List.mem_cons, List.not_mem_nil, or_false, or_self] at hv
    subst hv; rfl) oT1
  obtain ⟨CC, nC, fsC, rC, ET1, -, -⟩ := oTn id
  cases rC
  have wT := (hw _ (List.mem_of_getElem? (i := 2) rfl))
  have wStr := (hw _ (List.mem_of_getElem? (i := 12) rfl))
  have wc := (hw _ (List.mem_of_getElem? (i := 18) rfl))
  clear rel1 oT1 relA
  have hCHc : CHv Z cellEL s.vm T1.heap := hCH.ext E1
  have N1' : Fr s.heap.size locs1 := N1
  -- constant 0
  obtain ⟨C0, a0, b0, k0, v0, Y0, hS0, hZ0, hown0, hCH0, EC0, ⟨f1_0, f2_0, f3_0, f4_0, f5_0, f6_0, f7_0, f8_0, f9_0⟩, stc0⟩ := cell_call (s := s) (vm0 := s.vm) (pc := 44) (q := (x0 &&& (3 : Int32))) (Ls := #[.val (.int x0), .val (.int x1), .val (.int x2), .val (.int x3), .val (.int x4), .val (.ref s.heap.size), .unset, .unset, .unset, .unset, .unset]) (r := [.int 0, .ref (s.heap.size + 2), .ref (s.heap.size + 2), .ref (s.heap.size + 1), .ref (s.heap.size + 1)]) X1 hx ((State.WarmedH.refl s).since 0) (Nat.zero_le _) hZ hown hEL hCHc (cell_met (hw _ (List.mem_of_getElem? (i := 10) rfl)) (hw _ (List.mem_of_getElem? (i := 127) rfl)) (hw _ (List.mem_of_getElem? (i := 126) rfl)) (hw _ (List.mem_of_getElem? (i := 125) rfl)) wS hEL _ (own_q3 x0) _) (hw _ (List.mem_of_getElem? (i := 6) rfl)) (hw _ (List.mem_of_getElem? (i := 7) rfl)) (hw _ (List.mem_of_getElem? (i := 8) rfl)) (hw _ (List.mem_of_getElem? (i := 9) rfl)) (by rw [hml0]; rfl) (Nat.le_of_ble_eq_true rfl) (by rw [hby]; exact law_d44) (by decide) (by decide) (by decide) (by decide)
  obtain ⟨cb0, Ab0, -, Sb0, -, Hb0, -⟩ := f4_0
  have sb0 := own_slots (Sb0.trans f6_0) Hb0
  have Ae10 := Ae1.ext EC0
  have Ar10 := Ar1.ext EC0
  have ET10 := ET1.ext EC0
  have oT10 := fun n0 => mmObj_ext EC0 (oTn n0)
  have na0 : a0 ≠ s.heap.size ∧ a0 ≠ s.heap.size + 1 ∧ a0 ≠ s.heap.size + 2 := ⟨own_ea f1_0 Ae10 wStr, own_ee f1_0 ET10 (by decide), own_ea f1_0 Ar10 wStr⟩
  have nb0 : b0 ≠ s.heap.size ∧ b0 ≠ s.heap.size + 1 ∧ b0 ≠ s.heap.size + 2 := ⟨own_aa Ab0 Ae10 (by decide), fun z => own_ea ET10 Ab0 wT z.symm, own_aa Ab0 Ar10 (by decide)⟩
  obtain ⟨D0, V0, W0, std0⟩ := own_seg (s := s.setVm C0.vm) (P := 47) (j := 0) (jn := 1) (w := ((XT.ushr x0 (2 : Int32)) &&& (3 : Int32))) (nn := 1) (t := s.heap.size + 1) (L := #[.val (.int x0), .val (.int x1), .val (.int x2), .val (.int x3), .val (.int x4), .val (.ref s.heap.size), .unset, .unset, .unset, .unset, .unset]) Y0 hx hZ0 Ar10 Ov f1_0 wc (by rw [sr]; exact own_in (by decide) (Nat.le_of_ble_eq_true rfl)) Ae10 (show (s.heap.size : Nat) ≠ s.heap.size + 2 by omega) rfl (by rw [se]; exact own_in (by decide) (Nat.le_of_ble_eq_true rfl)) (by rw [se]; rfl) rfl (by rw [hby]; exact law_d47) (by rw [hby]; exact law_d48) (by rw [hby]; exact law_d49) (by rw [hby]; exact law_d50) (by rw [hby]; exact law_d52) (by rw [hby]; exact law_d53)
  have Ae20 := Ae10.other W0 (show (s.heap.size : Nat) ≠ s.heap.size + 2 by omega)
  have Ar20 := Ar10.same W0
  have ET20 := ET10.wr W0
  have oT20 := fun n0 => mmObj_other W0 (show (s.heap.size + 1 : Nat) ≠ s.heap.size + 2 by omega) (oT10 n0)
  have f1_0_20 := f1_0.wr W0
  have f2_0_20 := f2_0.other W0 (Or.inl na0.2.2)
  have f3_0_20 := f3_0.other W0 (Or.inl na0.2.2)
  have Ab_0_20 := Ab0.other W0 nb0.2.2
  have sr1 : (clr.setSlot (0 : Int32).toNatClampNeg (.ref a0)).slots = #[.ref a0, .null, .null] := by show Array.setIfInBounds (clr.slots) (0 : Int32).toNatClampNeg (.ref a0) = _; rw [sr]; rfl
  have Ov1 : Ovr Z (clr.setSlot (0 : Int32).toNatClampNeg (.ref a0)).cls "java/lang/String" := Ov
  have szW0 : D0.heap.size = C0.heap.size := W0.size
  have szE0 := EC0.1
  have hCHc : CHv Z cellEL C0.vm D0.heap := hCH0.wr W0 (Safe.arr hZ0.alike Ar10 (by decide))
  -- constant 1
  obtain ⟨C1, a1, b1, k1, v1, Y1, hS1, hZ1, hown1, hCH1, EC1, ⟨f1_1, f2_1, f3_1, f4_1, f5_1, f6_1, f7_1, f8_1, f9_1⟩, stc1⟩ := cell_call (s := s) (vm0 := C0.vm) (pc := 54) (q := ((XT.ushr x0 (2 : Int32)) &&& (3 : Int32))) (Ls := #[.val (.int x0), .val (.int x1), .val (.int x2), .val (.int x3), .val (.int x4), .val (.ref s.heap.size), .unset, .unset, .unset, .unset, .unset]) (r := [.int 1, .ref (s.heap.size + 2), .ref (s.heap.size + 2), .ref (s.heap.size + 1), .ref (s.heap.size + 1)]) V0 hx hS0 (by omega) hZ0 hown0 hEL hCHc (cell_met (hw _ (List.mem_of_getElem? (i := 10) rfl)) (hw _ (List.mem_of_getElem? (i := 127) rfl)) (hw _ (List.mem_of_getElem? (i := 126) rfl)) (hw _ (List.mem_of_getElem? (i := 125) rfl)) wS hEL _ (own_q3 (XT.ushr x0 (2 : Int32))) _) (hw _ (List.mem_of_getElem? (i := 6) rfl)) (hw _ (List.mem_of_getElem? (i := 7) rfl)) (hw _ (List.mem_of_getElem? (i := 8) rfl)) (hw _ (List.mem_of_getElem? (i := 9) rfl)) (by rw [hml0]; rfl) (Nat.le_of_ble_eq_true rfl) (by rw [hby]; exact law_d54) (by decide) (by decide) (by decide) (by decide)
  obtain ⟨cb1, Ab1, -, Sb1, -, Hb1, -⟩ := f4_1
  have sb1 := own_slots (Sb1.trans f6_1) Hb1
  have Ae11 := Ae20.ext EC1
  have Ar11 := Ar20.ext EC1
  have ET11 := ET20.ext EC1
  have oT11 := fun n0 => mmObj_ext EC1 (oT20 n0)
  have f1_0_11 := f1_0_20.ext EC1
  have f2_0_11 := f2_0_20.ext EC1
  have f3_0_11 := f3_0_20.ext EC1
  have Ab_0_11 := Ab_0_20.ext EC1
  have na1 : a1 ≠ s.heap.size ∧ a1 ≠ s.heap.size + 1 ∧ a1 ≠ s.heap.size + 2 := ⟨own_ea f1_1 Ae11 wStr, own_ee f1_1 ET11 (by decide), own_ea f1_1 Ar11 wStr⟩
  have nb1 : b1 ≠ s.heap.size ∧ b1 ≠ s.heap.size + 1 ∧ b1 ≠ s.heap.size + 2 := ⟨own_aa Ab1 Ae11 (by decide), fun z => own_ea ET11 Ab1 wT z.symm, own_aa Ab1 Ar11 (by decide)⟩
  obtain ⟨D1, V1, W1, std1⟩ := own_seg (s := s.setVm C1.vm) (P := 57) (j := 1) (jn := 2) (w := ((XT.ushr x0 (4 : Int32)) &&& (3 : Int32))) (nn := 2) (t := s.heap.size + 1) (L := #[.val (.int x0), .val (.int x1), .val (.int x2), .val (.int x3), .val (.int x4), .val (.ref s.heap.size), .unset, .unset, .unset, .unset, .unset]) Y1 hx hZ1 Ar11 Ov1 f1_1 wc (by rw [sr1]; exact own_in (by decide) (Nat.le_of_ble_eq_true rfl)) Ae11 (show (s.heap.size : Nat) ≠ s.heap.size + 2 by omega) rfl (by rw [se]; exact own_in (by decide) (Nat.le_of_ble_eq_true rfl)) (by rw [se]; rfl) rfl (by rw [hby]; exact law_d57) (by rw [hby]; exact law_d58) (by rw [hby]; exact law_d59) (by rw [hby]; exact law_d60) (by rw [hby]; exact law_d62) (by rw [hby]; exact law_d63)
  have Ae21 := Ae11.other W1 (show (s.heap.size : Nat) ≠ s.heap.size + 2 by omega)
  have Ar21 := Ar11.same W1
  have ET21 := ET11.wr W1
  have oT21 := fun n0 => mmObj_other W1 (show (s.heap.size + 1 : Nat) ≠ s.heap.size + 2 by omega) (oT11 n0)
  have f1_0_21 := f1_0_11.wr W1
  have f2_0_21 := f2_0_11.other W1 (Or.inl na0.2.2)
  have f3_0_21 := f3_0_11.other W1 (Or.inl na0.2.2)
  have Ab_0_21 := Ab_0_11.other W1 nb0.2.2
  have f1_1_21 := f1_1.wr W1
  have f2_1_21 := f2_1.other W1 (Or.inl na1.2.2)
  have f3_1_21 := f3_1.other W1 (Or.inl na1.2.2)
  have Ab_1_21 := Ab1.other W1 nb1.2.2
  have sr2 : (((clr.setSlot (0 : Int32).toNatClampNeg (.ref a0))).setSlot (1 : Int32).toNatClampNeg (.ref a1)).slots = #[.ref a0, .ref a1, .null] := by show Array.setIfInBounds (((clr.setSlot (0 : Int32).toNatClampNeg (.ref a0))).slots) (1 : Int32).toNatClampNeg (.ref a1) = _; rw [sr1]; rfl
  have Ov2 : Ovr Z ((clr.setSlot (0 : Int32).toNatClampNeg (.ref a0)).setSlot (1 : Int32).toNatClampNeg (.ref a1)).cls "java/lang/String" := Ov1
  have szW1 : D1.heap.size = C1.heap.size := W1.size
  have szE1 := EC1.1
  have hCHc : CHv Z cellEL C1.vm D1.heap := hCH1.wr W1 (Safe.arr hZ1.alike Ar11 (by decide))
  -- constant 2
  obtain ⟨C2, a2, b2, k2, v2, Y2, hS2, hZ2, hown2, hCH2, EC2, ⟨f1_2, f2_2, f3_2, f4_2, f5_2, f6_2, f7_2, f8_2, f9_2⟩, stc2⟩ := cell_call (s := s) (vm0 := C1.vm) (pc := 64) (q := ((XT.ushr x0 (4 : Int32)) &&& (3 : Int32))) (Ls := #[.val (.int x0), .val (.int x1), .val (.int x2), .val (.int x3), .val (.int x4), .val (.ref s.heap.size), .unset, .unset, .unset, .unset, .unset]) (r := [.int 2, .ref (s.heap.size + 2), .ref (s.heap.size + 2), .ref (s.heap.size + 1), .ref (s.heap.size + 1)]) V1 hx hS1 (by omega) hZ1 hown1 hEL hCHc (cell_met (hw _ (List.mem_of_getElem? (i := 10) rfl)) (hw _ (List.mem_of_getElem? (i := 127) rfl)) (hw _ (List.mem_of_getElem? (i := 126) rfl)) (hw _ (List.mem_of_getElem? (i := 125) rfl)) wS hEL _ (own_q3 (XT.ushr x0 (4 : Int32))) _) (hw _ (List.mem_of_getElem? (i := 6) rfl)) (hw _ (List.mem_of_getElem? (i := 7) rfl)) (hw _ (List.mem_of_getElem? (i := 8) rfl)) (hw _ (List.mem_of_getElem? (i := 9) rfl)) (by rw [hml0]; rfl) (Nat.le_of_ble_eq_true rfl) (by rw [hby]; exact law_d64) (by decide) (by decide) (by decide) (by decide)
  obtain ⟨cb2, Ab2, -, Sb2, -, Hb2, -⟩ := f4_2
  have sb2 := own_slots (Sb2.trans f6_2) Hb2
  have Ae12 := Ae21.ext EC2
  have Ar12 := Ar21.ext EC2
  have ET12 := ET21.ext EC2
  have oT12 := fun n0 => mmObj_ext EC2 (oT21 n0)
  have f1_0_12 := f1_0_21.ext EC2
  have f2_0_12 := f2_0_21.ext EC2
  have f3_0_12 := f3_0_21.ext EC2
  have Ab_0_12 := Ab_0_21.ext EC2
  have f1_1_12 := f1_1_21.ext EC2
  have f2_1_12 := f2_1_21.ext EC2
  have f3_1_12 := f3_1_21.ext EC2
  have Ab_1_12 := Ab_1_21.ext EC2
  have na2 : a2 ≠ s.heap.size ∧ a2 ≠ s.heap.size + 1 ∧ a2 ≠ s.heap.size + 2 := ⟨own_ea f1_2 Ae12 wStr, own_ee f1_2 ET12 (by decide), own_ea f1_2 Ar12 wStr⟩
  have nb2 : b2 ≠ s.heap.size ∧ b2 ≠ s.heap.size + 1 ∧ b2 ≠ s.heap.size + 2 := ⟨own_aa Ab2 Ae12 (by decide), fun z => own_ea ET12 Ab2 wT z.symm, own_aa Ab2 Ar12 (by decide)⟩
  obtain ⟨D2, V2, W2, std2⟩ := own_seg1 (s := s.setVm C2.vm) (P := 67) (j := 2) (t := s.heap.size + 1) (L := #[.val (.int x0), .val (.int x1), .val (.int x2), .val (.int x3), .val (.int x4), .val (.ref s.heap.size), .unset, .unset, .unset, .unset, .unset]) Y2 hx hZ2 Ar12 Ov2 f1_2 wc (by rw [sr2]; exact own_in (by decide) (Nat.le_of_ble_eq_true rfl)) (by rw [hby]; exact law_d67)
  have Ae22 := Ae12.other W2 (show (s.heap.size : Nat) ≠ s.heap.size + 2 by omega)
  have Ar22 := Ar12.same W2
  have ET22 := ET12.wr W2
  have oT22 := fun n0 => mmObj_other W2 (show (s.heap.size + 1 : Nat) ≠ s.heap.size + 2 by omega) (oT12 n0)
  have f1_0_22 := f1_0_12.wr W2
  have f2_0_22 := f2_0_12.other W2 (Or.inl na0.2.2)
  have f3_0_22 := f3_0_12.other W2 (Or.inl na0.2.2)
  have Ab_0_22 := Ab_0_12.other W2 nb0.2.2
  have f1_1_22 := f1_1_12.wr W2
  have f2_1_22 := f2_1_12.other W2 (Or.inl na1.2.2)
  have f3_1_22 := f3_1_12.other W2 (Or.inl na1.2.2)
  have Ab_1_22 := Ab_1_12.other W2 nb1.2.2
  have f1_2_22 := f1_2.wr W2
  have f2_2_22 := f2_2.other W2 (Or.inl na2.2.2)
  have f3_2_22 := f3_2.other W2 (Or.inl na2.2.2)
  have Ab_2_22 := Ab2.other W2 nb2.2.2
  have sr3 : ((((clr.setSlot (0 : Int32).toNatClampNeg (.ref a0)).setSlot (1 : Int32).toNatClampNeg (.ref a1))).setSlot (2 : Int32).toNatClampNeg (.ref a2)).slots = #[.ref a0, .ref a1, .ref a2] := by show Array.setIfInBounds ((((clr.setSlot (0 : Int32).toNatClampNeg (.ref a0)).setSlot (1 : Int32).toNatClampNeg (.ref a1))).slots) (2 : Int32).toNatClampNeg (.ref a2) = _; rw [sr2]; rfl
  have Ov3 : Ovr Z (((clr.setSlot (0 : Int32).toNatClampNeg (.ref a0)).setSlot (1 : Int32).toNatClampNeg (.ref a1)).setSlot (2 : Int32).toNatClampNeg (.ref a2)).cls "java/lang/String" := Ov2
  have szW2 : D2.heap.size = C2.heap.size := W2.size
  have szE2 := EC2.1
  have zA : s.heap.size + 3 ≤ D2.heap.size := by omega
  have ED : Ext s.heap D2.heap := ⟨by omega, oldF (s := s.setVm C2.vm) V2 (Fr.snoc V2 (Fr.snoc V1 (Fr.snoc V0 N1' (Nat.le_add_right _ _)) (Nat.le_add_right _ _)) (Nat.le_add_right _ _))⟩
  have m0 : C0.heap.size ≤ D2.heap.size := by omega
  have m1 : C1.heap.size ≤ D2.heap.size := by omega
  have m2 : C2.heap.size ≤ D2.heap.size := by omega
  have inj3 : mmInj (own_rho [d, a0, a1, a2, b0, b1, b2, s.heap.size, s.heap.size + 1, s.heap.size + 2] D2.heap.size) := own_inj hd ⟨Nat.lt_of_lt_of_le f7_0 m0, na0⟩ ⟨Nat.lt_of_lt_of_le f7_1 m1, na1⟩ ⟨Nat.lt_of_lt_of_le f7_2 m2, na2⟩ ⟨Nat.lt_of_lt_of_le f8_0 m0, nb0⟩ ⟨Nat.lt_of_lt_of_le f8_1 m1, nb1⟩ ⟨Nat.lt_of_lt_of_le f8_2 m2, nb2⟩ zA
  have rel3 : mmRel CT Z (own_rho [d, a0, a1, a2, b0, b1, b2, s.heap.size, s.heap.size + 1, s.heap.size + 2] D2.heap.size) D2.heap [.inr (.object "java/lang/Object", []), .inl (1, [.ref 4, .int 0]), .inl (1, [.ref 5, .int 0]), .inl (1, [.ref 6, .int 0]), .inr (.byte, v0), .inr (.byte, v1), .inr (.byte, v2), .inr (.int, [.int (x0 &&& (3 : Int32)), .int ((XT.ushr x0 (2 : Int32)) &&& (3 : Int32)), .int ((XT.ushr x0 (4 : Int32)) &&& (3 : Int32))]), .inl (0, [.null, .null, .null]), .inr (.object "java/lang/String", [.ref 1, .ref 2, .ref 3])] := own_rel inj3 (t1.ext ED) (t2.imp fun _ q => ⟨q.1, q.2.ext ED⟩) (mmObj_ext ED (oD _)) (own_str rfl f1_0_22 f2_0_22 f3_0_22) (own_str rfl f1_1_22 f2_1_22 f3_1_22) (own_str rfl f1_2_22 f2_2_22 f3_2_22) ⟨_, Ab_0_22, by rw [sb0, f9_0], fun C z => by cases z⟩ ⟨_, Ab_1_22, by rw [sb1, f9_1], fun C z => by cases z⟩ ⟨_, Ab_2_22, by rw [sb2, f9_2], fun C z => by cases z⟩ ⟨_, Ae22, se, fun C z => by cases z⟩ (oT22 _) ⟨_, Ar22, sr3, fun C z => by cases z; exact Or.inr ⟨Ov3, fr, vr⟩⟩
  have hN3 : ∀ a, mmM ≤ a → s.heap.size ≤ (own_rho [d, a0, a1, a2, b0, b1, b2, s.heap.size, s.heap.size + 1, s.heap.size + 2] D2.heap.size) a := fun a ha => by
    have ha : 7 ≤ a := ha
    have ca : a = 7 ∨ a = 8 ∨ a = 9 ∨ 10 ≤ a := by omega
    rcases ca with rfl | rfl | rfl | ca
    · exact Nat.le_refl _
    · exact Nat.le_add_right _ _
    · exact Nat.le_add_right _ _
    · rw [own_rho_hi (show [d, a0, a1, a2, b0, b1, b2, s.heap.size, s.heap.size + 1, s.heap.size + 2].length ≤ a from ca)]; omega
  obtain ⟨v, H', ds, hrun, rfl, hlen, hds⟩ := own_rest x0 x1 x2 x3 x4 (x0 &&& (3 : Int32)) ((XT.ushr x0 (2 : Int32)) &&& (3 : Int32)) ((XT.ushr x0 (4 : Int32)) &&& (3 : Int32)) v0 v1 v2 (own_lenq f5_0 f6_0) (own_lenq f5_1 f6_1) (own_lenq f5_2 f6_2) f5_0 f5_1 f5_2 57
  obtain ⟨T', locs, cells, fs, r1, r2, r3, r4, r5, r6, r7, r8⟩ := mmRun_ok (s := s.setVm C2.vm) (own := "com/example/charterlens/charterlens/cli/TableWidenPinLaw") (name := "law") (N0 := s.heap.size) (hl0 := 1) (n0 := (own_rho [d, a0, a1, a2, b0, b1, b2, s.heap.size, s.heap.size + 1, s.heap.size + 2] D2.heap.size)) hx hZ2 hown2 hnm Bd.returns Bd.notSynchronized hCT hT hN3 (Or.inl I_0s_na) hIs hrun (by rw [hml0]; rfl) ⟨_, 9, V2, rfl, Fr.snoc V2 (Fr.snoc V1 (Fr.snoc V0 N1' (Nat.le_add_right _ _)) (Nat.le_add_right _ _)) (Nat.le_add_right _ _), rel3⟩ (by rw [hlen]; decide) (by show ds ≤ 4288; omega)
  have hsz : D2.heap.size ≤ T'.heap.size := by
    have q := r3.1 H'.length (Nat.le_refl _)
    rw [hlen, own_rho_hi (show [d, a0, a1, a2, b0, b1, b2, s.heap.size, s.heap.size + 1, s.heap.size + 2].length ≤ 14 from Nat.le_of_ble_eq_true rfl)] at q
    have q2 : D2.heap.size + 4 = T'.heap.size + (14 - 14) := q
    omega
  obtain ⟨u1, u2, u3⟩ := hS2.ended (U := T'.setFrames fs) r7 (show C2.heap.size ≤ T'.heap.size by omega) r8
  refine ⟨_, _, ?_, r5, r6, _, locs, rfl, ⟨rfl, by rw [← hh]; exact r2⟩, ⟨_, rfl⟩, u1, u2, u3.mono (by rw [hlen] at r1; show cells ≤ 32; omega) (by show ds ≤ 4288; omega)⟩
  refine castTop (mmEntry_up (own_rho [d, d, d, d, d, d, d] s.heap.size) 11 m [.int x0, .int x1, .int x2, .int x3, .int x4]) ?_
  refine st1 _ (stc0 _ (std0 _ (stc1 _ (std1 _ (stc2 _ (std2 _ r4))))))

set_option maxRecDepth 65536 in
set_option maxHeartbeats 40000000 in
theorem comes_1 {Post : Tables → Env → Array Value → State → Outcome → State → Prop} (hpost : ∀ tb e args s v u, (limb_1_1.after args s (.returned v) u = true ∧ limb_1_2.after args s (.returned v) u = true ∧ True) → ReturnedEndW s (.returned v) u (Jvm.fieldLocs frame_1_writes args s ++ Jvm.arrayLocs frame_1_arrays args s ++ Jvm.staticLocs frame_1_statics s) 32 4288 → Post tb e args s (.returned v) u) :
    ArmFor flags0 classFile x code maxLocals ret World_1 tables_1 room_1 Calls_1 rest_1 Pre_1 Post := by
  intro l hfl _ _ p e ha hc hk s m args below hf hA hF happ hP
  obtain ⟨hcalls, hrest, hpre⟩ := hP
  obtain ⟨-, -, -, hnamed, -, -, -, hat⟩ := (Spec.applies_iff hf).mp happ
  obtain ⟨hg, hn⟩ := and_e (Cond.before_iff.mp (show (Jvm.Cond.and given_1 narrow_1).before args s = true from hpre))
  obtain ⟨c0, d0⟩ := and_e hg
  obtain ⟨c1, d1⟩ := and_e d0
  obtain ⟨c2, d2⟩ := and_e d1
  obtain ⟨c3, d3⟩ := and_e d2
  obtain ⟨c4, d4⟩ := and_e d3
  have c5 := d4
  obtain ⟨w0, w1, w2, w3, w4, rfl⟩ : ∃ w0 w1 w2 w3 w4 : Value, args = #[w0, w1, w2, w3, w4] := by
    have hs : args.size = 5 := by simpa [Cond.value, given_1] using c0
    obtain ⟨L⟩ := args
    match L, hs with
    | [w0, w1, w2, w3, w4], _ => exact ⟨w0, w1, w2, w3, w4, rfl⟩
  have hw := fun d (hd : d ∈ tables_1) => atoms_spec (ws := Jvm.Cond.code x code maxLocals ret :: tables_1) hat d (List.mem_cons_of_mem _ hd)
  obtain ⟨x0, ei0⟩ := is_v c1
  obtain rfl : w0 = (.int x0) := Option.some.inj ei0
  obtain ⟨x1, ei1⟩ := is_v c2
  obtain rfl : w1 = (.int x1) := Option.some.inj ei1
  obtain ⟨x2, ei2⟩ := is_v c3
  obtain rfl : w2 = (.int x2) := Option.some.inj ei2
  obtain ⟨x3, ei3⟩ := is_v c4
  obtain rfl : w3 = (.int x3) := Option.some.inj ei3
  obtain ⟨x4, ei4⟩ := is_v c5
  obtain rfl : w4 = (.int x4) := Option.some.inj ei4
  have hr := (atoms_of jdkStatics_1 (own := restOwn_1) (by rw [← rest_1_c_eq]; exact hrest)).1
  have r2 := hr _ (List.mem_of_getElem? (i := 2) rfl)
  have r6 := Cond.before_iff.mp (hr _ (List.mem_of_getElem? (i := 6) rfl))
  have r8 := Jvm.Free.NT.SwA.eq_int (hr _ (List.mem_of_getElem? (i := 8) rfl))
  have r9 := hr _ (List.mem_of_getElem? (i := 9) rfl)
  obtain ⟨z, ez⟩ := is_v (Cond.before_iff.mp (hr _ (List.mem_of_getElem? (i := 10) rfl)))
  have r11 := hr _ (List.mem_of_getElem? (i := 11) rfl)
  have hz : z ≠ 0 := fun q => by
    subst q
    have q1 := not_v (Cond.before_iff.mp r11)
    rw [eq_i ez (Term.int_eval (0)) rfl] at q1
    cases q1
  obtain ⟨d, ev⟩ : ∃ d, (Term.static "java/util/ArrayList" "DEFAULTCAPACITY_EMPTY_ELEMENTDATA" "[Ljava/lang/Object;").eval #[.int x0, .int x1, .int x2, .int x3, .int x4] s none [] s = some (.ref d) := by
    cases hev : (Term.static "java/util/ArrayList" "DEFAULTCAPACITY_EMPTY_ELEMENTDATA" "[Ljava/lang/Object;").eval #[.int x0, .int x1, .int x2, .int x3, .int x4] s none [] s with
    | none => simp [Cond.value, hev] at r6
    | some v => cases v <;> first | exact ⟨_, rfl⟩ | (simp [Cond.value, hev] at r6; done)
  obtain ⟨cd, Ad⟩ := Arr.start ev r6
  have sd : cd.slots = #[] := by
    have hat : s.arrayAt? d = some cd := Arr.fin (Vm.Alike.refl _) Ad
    obtain ⟨q1, q2⟩ := own_len0 ev hat r8
    have q3 := len_toInt q1
    rw [q2] at q3
    have q4 : cd.slots.size = 0 := by have : (0 : Int32).toInt = 0 := rfl; omega
    exact Array.eq_empty_of_size_eq_zero q4
  have hld : d < s.heap.size := (Array.getElem?_eq_some_iff.mp Ad.1).1
  have wS : ∀ a ∈ Bundle.stringAtoms, a.before #[.int x0, .int x1, .int x2, .int x3, .int x4] s = true := fun a ha => by
    have : a ∈ tables_1 := by
      simp only [Bundle.stringAtoms, List.mem_cons, List.not_mem_nil, or_false] at ha
      rcases ha with rfl | rfl | rfl | rfl | rfl | rfl | rfl <;> (simp [tables_1, Bundle.sN]; done)
    exact hw a this
  have hEL : EW s #[.int x0, .int x1, .int x2, .int x3, .int x4] cellEL := EW.cons (hw _ (List.mem_of_getElem? (i := 10) rfl)) (by decide) (EW.cons (hw _ (List.mem_of_getElem? (i := 127) rfl)) (by decide) (EW.cons (hw _ (List.mem_of_getElem? (i := 126) rfl)) (by decide) (EW.cons (hw _ (List.mem_of_getElem? (i := 125) rfl)) (by decide) EW.nil)))
  have hch : ∀ p ∈ cellEL, Jvm.Lit.constHeld s p.1 p.2 := fun p hp => hcalls.1 p hp
  have hCH := CHv.start hEL hch r11 (hw _ (List.mem_of_getElem? (i := 13) rfl)) (hw _ (List.mem_of_getElem? (i := 12) rfl))
  obtain ⟨n, o, h1, h2, h3, _, L, rfl, ⟨rfl, N⟩, hq⟩ := law_met l s _ hw tables_1 x0 x1 x2 x3 x4 d hld ⟨cd, Ad, sd⟩ (Sta.start ev (Or.inr ⟨(hw _ (List.mem_of_getElem? (i := 27) rfl)), r2⟩)) ⟨z, hz, Sta.start ez (Or.inl r9)⟩ hEL hCH wS p e ha hc hk s m _ below hf ((Spec.applies_iff_loose hf).mp happ).1 ⟨rfl, rfl, rfl⟩ trivial
  refine ⟨n, _, h1, h2, h3, hpost _ _ _ _ _ _ ⟨Cond.after_iff.mpr rfl, Cond.after_iff.mpr (eq_i res_at (Term.int_eval (1)) rfl), trivial⟩ ⟨hq.1, hq.2.1, hq.2.2.1, (hq.2.2.2.sift fun y hy => Or.inr (N y hy)).mono (by decide) (by decide)⟩⟩
theorem main_1_1 : Claimed_1_1 := comes_1 fun _ _ _ _ _ _ h hF => ⟨h.1, hF⟩
theorem main_1_2 : Claimed_1_2 := comes_1 fun _ _ _ _ _ _ h hF => ⟨h.2.1, hF⟩
end Jvm.Pilot.@@N@@
namespace Jvm.Pilot.@@N@@
open Jvm Jvm.ClassFile Sem Op Lib Jvm.Free Jvm.Stand Jvm.Pilot.@@N@@.Jvm.D
/-! MADE BY PROGRAM (witnessworld.py) out of the Statement's table words and the real class files: 30 classes; the members and pool entries that the words name. The judged class is class 1, her method 3. -/
namespace start1
open Jvm.ClassFile
def u (s : String) : CpInfo := .utf8 (stringToUtf16 s)
/-- a pool by its gaps: so many unusable entries, then the entry; so many at the end -/
def gap : Nat → List CpInfo → List CpInfo
  | 0, r => r
  | n + 1, r => .unusable :: gap n r
def poolList (es : List (Nat × CpInfo)) (last : Nat) : List CpInfo := es.foldr (fun e r => gap e.1 (e.2 :: r)) (gap last [])
def pool (es : List (Nat × CpInfo)) (last : Nat) : Array CpInfo := ⟨poolList es last⟩
def fileOf (pool : Array CpInfo) (this : Nat) (attrs : Array Attribute := #[]) (ms : Array MethodInfo := #[]) (fl : Nat := 33) (sup : Nat := 0) (ifs : Array Nat := #[]) (fds : Array FieldInfo := #[]) : ClassFile where
  minorVersion := 0
  majorVersion := 65
  constantPool := pool
  accessFlags := fl
  thisClass := this
  superClass := sup
  interfaces := ifs
  fields := fds
  methods := ms
  attributes := attrs
def plain (name : String) (sup : Option ClassId) : Class where
  name := name
  kind := .ordinary
  loader := none
  accessFlags := 33
  super := sup
  interfaces := #[]
  cf := none
  fields := #[]
  methods := #[]
  instanceTypes := #[]
  staticTypes := #[]
  resolved := #[]
  callSites := []
  init := .initialized
  statics := none
  mirror := none

def pool0 : Array CpInfo := pool [(5, u "<init>"), (0, u "()V"), (1, .class_ 10), (1, u "java/lang/Object")] 113

def k0c0 : Code := { maxStack := 0, maxLocals := 1, code := object_method_1_code, exceptionTable := #[], attributes := #[] }
def k0m0 : Method := { name := "<init>", desc := "()V", sig := { parameters := [], returnType := none }, accessFlags := 1, code := some k0c0 }
/-- java/lang/Object -/
def k0 : Class := { plain "java/lang/Object" none with
  accessFlags := 33
  interfaces := #[]
  cf := some (fileOf pool0 8 #[] #[{ accessFlags := 1, nameIndex := 5, descriptorIndex := 6, attributes := #[] }] 33 0 #[] #[])
  fields := #[]
  methods := #[k0m0]
  instanceTypes := #[]
  staticTypes := #[]
  resolved := Array.replicate 124 none
  statics := none }

def pool1 : Array CpInfo := pool [(2, .class_ 4), (1, u "java/lang/Object"), (0, u "<init>"), (0, u "()V"), (0, .string 8), (0, u ""), (0, .string 10), (0, u "a"), (0, .string 12), (0, u "ab"), (0, .string 14), (0, u "abc"), (0, .class_ 16), (0, u "com/example/charterlens/charterlens/cli/Table"), (0, .class_ 18), (0, u "java/lang/String"), (0, .methodref 20 21), (0, .class_ 22), (0, .nameAndType 23 24), (0, u "com/example/charterlens/charterlens/cli/TableWidenPinLaw"), (0, u "cell"), (0, u "(I)Ljava/lang/String;"), (0, .methodref 15 26), (0, .nameAndType 5 27), (0, u "([Ljava/lang/String;)V"), (0, .integer 2147483647), (0, .methodref 15 30), (0, .nameAndType 31 32), (0, u "widen"), (0, u "(II)V"), (0, .methodref 20 34), (0, .nameAndType 35 36), (0, u "atLeast"), (0, u "(II)I"), (0, .methodref 15 38), (0, .nameAndType 39 40), (0, u "width"), (0, u "(I)I"), (3, u "law"), (0, u "(IIIII)Z")] 4

def k1m0 : Method := { name := "<init>", desc := "()V", sig := { parameters := [], returnType := none }, accessFlags := 1, code := none }
def k1c1 : Code := { maxStack := 2, maxLocals := 1, code := method_2_code, exceptionTable := #[], attributes := #[] }
def k1m1 : Method := { name := "cell", desc := "(I)Ljava/lang/String;", sig := { parameters := [.int], returnType := some (.object "java/lang/String") }, accessFlags := 10, code := some k1c1 }
def k1c2 : Code := { maxStack := 2, maxLocals := 2, code := method_3_code, exceptionTable := #[], attributes := #[] }
def k1m2 : Method := { name := "atLeast", desc := "(II)I", sig := { parameters := [.int, .int], returnType := some .int }, accessFlags := 10, code := some k1c2 }
def k1c3 : Code := { maxStack := 7, maxLocals := 11, code := code, exceptionTable := #[], attributes := #[] }
def k1m3 : Method := { name := "law", desc := "(IIIII)Z", sig := { parameters := [.int, .int, .int, .int, .int], returnType := some .boolean }, accessFlags := 9, code := some k1c3 }
/-- com/example/charterlens/charterlens/cli/TableWidenPinLaw -/
def k1 : Class := { plain "com/example/charterlens/charterlens/cli/TableWidenPinLaw" (some 0) with
  accessFlags := 49
  interfaces := #[]
  cf := some (fileOf pool1 20 #[] #[{ accessFlags := 1, nameIndex := 5, descriptorIndex := 6, attributes := #[] }, { accessFlags := 10, nameIndex := 23, descriptorIndex := 24, attributes := #[] }, { accessFlags := 10, nameIndex := 35, descriptorIndex := 36, attributes := #[] }, { accessFlags := 9, nameIndex := 44, descriptorIndex := 45, attributes := #[] }] 49 2 #[] #[])
  fields := #[]
  methods := #[k1m0, k1m1, k1m2, k1m3]
  instanceTypes := #[]
  staticTypes := #[]
  resolved := Array.replicate 50 none
  statics := none }

def pool2 : Array CpInfo := pool [(1, .methodref 2 3), (0, .class_ 4), (0, .nameAndType 5 6), (0, u "java/lang/Object"), (0, u "<init>"), (0, u "()V"), (0, .class_ 8), (0, u "java/util/ArrayList"), (0, .methodref 7 3), (0, .fieldref 11 12), (0, .class_ 13), (0, .nameAndType 14 15), (0, u "com/example/charterlens/charterlens/cli/Table"), (0, u "rows"), (0, u "Ljava/util/List;"), (0, .fieldref 11 17), (0, .nameAndType 18 19), (0, u "widths"), (0, u "[I"), (0, .fieldref 11 21), (0, .nameAndType 22 23), (0, u "alignedRight"), (0, u "[Z"), (0, .methodref 11 25), (0, .nameAndType 26 27), (0, u "add"), (0, u "([Ljava/lang/String;)V"), (0, .interfaceMethodref 29 30), (0, .class_ 31), (0, .nameAndType 26 32), (0, u "java/util/List"), (0, u "(Ljava/lang/Object;)Z"), (0, .methodref 34 35), (0, .class_ 36), (0, .nameAndType 37 38), (0, u "java/lang/String"), (0, u "length"), (0, u "()I"), (0, .methodref 11 40), (0, .nameAndType 41 42), (0, u "widen"), (0, u "(II)V"), (0, .methodref 44 45), (0, .class_ 46), (0, .nameAndType 47 48), (0, u "java/lang/Math"), (0, u "max"), (0, u "(II)I"), (58, u "width"), (0, u "(I)I")] 20

def k2c0 : Code := { maxStack := 3, maxLocals := 2, code := prog_64_method_1_code, exceptionTable := #[], attributes := #[] }
def k2m0 : Method := { name := "<init>", desc := "([Ljava/lang/String;)V", sig := { parameters := [(.array (.object "java/lang/String"))], returnType := none }, accessFlags := 128, code := some k2c0 }
def k2c1 : Code := { maxStack := 4, maxLocals := 3, code := prog_64_method_3_code, exceptionTable := #[], attributes := #[] }
def k2m1 : Method := { name := "add", desc := "([Ljava/lang/String;)V", sig := { parameters := [(.array (.object "java/lang/String"))], returnType := none }, accessFlags := 128, code := some k2c1 }
def k2c2 : Code := { maxStack := 4, maxLocals := 3, code := prog_64_method_4_code, exceptionTable := #[], attributes := #[] }
def k2m2 : Method := { name := "widen", desc := "(II)V", sig := { parameters := [.int, .int], returnType := none }, accessFlags := 0, code := some k2c2 }
def k2c3 : Code := { maxStack := 2, maxLocals := 2, code := prog_64_method_5_code, exceptionTable := #[], attributes := #[] }
def k2m3 : Method := { name := "width", desc := "(I)I", sig := { parameters := [.int], returnType := some .int }, accessFlags := 0, code := some k2c3 }
/-- com/example/charterlens/charterlens/cli/Table -/
def k2 : Class := { plain "com/example/charterlens/charterlens/cli/Table" (some 0) with
  accessFlags := 48
  interfaces := #[]
  cf := some (fileOf pool2 11 #[] #[{ accessFlags := 128, nameIndex := 5, descriptorIndex := 27, attributes := #[] }, { accessFlags := 128, nameIndex := 26, descriptorIndex := 27, attributes := #[] }, { accessFlags := 0, nameIndex := 41, descriptorIndex := 42, attributes := #[] }, { accessFlags := 0, nameIndex := 107, descriptorIndex := 108, attributes := #[] }] 48 2 #[] #[{ accessFlags := 18, nameIndex := 14, descriptorIndex := 15, attributes := #[] }, { accessFlags := 18, nameIndex := 18, descriptorIndex := 19, attributes := #[] }, { accessFlags := 18, nameIndex := 22, descriptorIndex := 23, attributes := #[] }])
  fields := #[{ name := "rows", type := (.object "java/util/List"), accessFlags := 18, slot := 0, constantValue := 0 }, { name := "widths", type := (.array .int), accessFlags := 18, slot := 1, constantValue := 0 }, { name := "alignedRight", type := (.array .boolean), accessFlags := 18, slot := 2, constantValue := 0 }]
  methods := #[k2m0, k2m1, k2m2, k2m3]
  instanceTypes := #[(.object "java/util/List"), (.array .int), (.array .boolean)]
  staticTypes := #[]
  resolved := Array.replicate 129 none
  statics := none }

def pool3 : Array CpInfo := pool [(1, .class_ 2), (0, u "java/io/Serializable"), (0, .class_ 4), (0, u "java/lang/Object")] 2

/-- java/io/Serializable -/
def k3 : Class := { plain "java/io/Serializable" (some 0) with
  accessFlags := 1537
  interfaces := #[]
  cf := some (fileOf pool3 1 #[] #[] 1537 3 #[] #[])
  fields := #[]
  methods := #[]
  instanceTypes := #[]
  staticTypes := #[]
  resolved := Array.replicate 7 none
  statics := none }

def pool4 : Array CpInfo := pool [(1, .class_ 2), (0, u "java/lang/Comparable"), (0, .class_ 4), (0, u "java/lang/Object")] 7

/-- java/lang/Comparable -/
def k4 : Class := { plain "java/lang/Comparable" (some 0) with
  accessFlags := 1537
  interfaces := #[]
  cf := some (fileOf pool4 1 #[] #[] 1537 3 #[] #[])
  fields := #[]
  methods := #[]
  instanceTypes := #[]
  staticTypes := #[]
  resolved := Array.replicate 12 none
  statics := none }

def pool5 : Array CpInfo := pool [(2, .class_ 4), (1, u "java/lang/CharSequence"), (42, .class_ 48), (0, u "java/lang/CharSequence$1CodePointIterator"), (10, .class_ 60), (0, u "java/lang/CharSequence$1CharIterator"), (5, .class_ 67), (0, u "java/lang/Object")] 63

/-- java/lang/CharSequence -/
def k5 : Class := { plain "java/lang/CharSequence" (some 0) with
  accessFlags := 1537
  interfaces := #[]
  cf := some (fileOf pool5 2 #[.nestMembers #[47, 59]] #[] 1537 66 #[] #[])
  fields := #[]
  methods := #[]
  instanceTypes := #[]
  staticTypes := #[]
  resolved := Array.replicate 131 none
  statics := none }

def pool6 : Array CpInfo := pool [(1, .class_ 2), (0, u "java/lang/constant/Constable"), (0, .class_ 4), (0, u "java/lang/Object")] 6

/-- java/lang/constant/Constable -/
def k6 : Class := { plain "java/lang/constant/Constable" (some 0) with
  accessFlags := 1537
  interfaces := #[]
  cf := some (fileOf pool6 1 #[] #[] 1537 3 #[] #[])
  fields := #[]
  methods := #[]
  instanceTypes := #[]
  staticTypes := #[]
  resolved := Array.replicate 11 none
  statics := none }

def pool7 : Array CpInfo := pool [(1, .class_ 2), (0, u "java/lang/constant/ConstantDesc"), (0, .class_ 4), (0, u "java/lang/Object")] 32

/-- java/lang/constant/ConstantDesc -/
def k7 : Class := { plain "java/lang/constant/ConstantDesc" (some 0) with
  accessFlags := 1537
  interfaces := #[]
  cf := some (fileOf pool7 1 #[] #[] 1537 3 #[] #[])
  fields := #[]
  methods := #[]
  instanceTypes := #[]
  staticTypes := #[]
  resolved := Array.replicate 37 none
  statics := none }

def pool8 : Array CpInfo := pool [(2, .class_ 4), (1, u "java/lang/Object"), (0, u "<init>"), (0, u "()V"), (2, .fieldref 10 11), (0, .class_ 12), (0, .nameAndType 13 14), (0, u "java/lang/String"), (0, u "value"), (0, u "[B"), (0, .fieldref 10 16), (0, .nameAndType 17 18), (0, u "coder"), (0, u "B"), (2, u "hash"), (0, u "I"), (2, u "hashIsZero"), (0, u "Z"), (11, .fieldref 10 39), (0, .nameAndType 40 26), (0, u "COMPACT_STRINGS"), (293, u "()I"), (0, .methodref 10 336), (0, .nameAndType 17 337), (0, u "()B"), (169, u "length"), (67, .class_ 576), (0, u "java/lang/CharSequence"), (22, u "CASE_INSENSITIVE_ORDER"), (0, u "Ljava/util/Comparator;"), (500, u "serialPersistentFields"), (0, u "[Ljava/io/ObjectStreamField;"), (0, .class_ 1104), (0, u "java/lang/String$CaseInsensitiveComparator"), (1, .class_ 1107), (0, u "java/io/Serializable"), (0, .class_ 1109), (0, u "java/lang/Comparable"), (0, .class_ 1111), (0, u "java/lang/constant/Constable"), (0, .class_ 1113), (0, u "java/lang/constant/ConstantDesc"), (2, u "serialVersionUID"), (0, u "J"), (3, u "REPL"), (0, u "C"), (2, u "LATIN1"), (1, u "UTF16")] 323

def k8m0 : Method := { name := "<init>", desc := "()V", sig := { parameters := [], returnType := none }, accessFlags := 1, code := none }
def k8c1 : Code := { maxStack := 2, maxLocals := 1, code := jdk_42_method_54_code, exceptionTable := #[], attributes := #[] }
def k8m1 : Method := { name := "length", desc := "()I", sig := { parameters := [], returnType := some .int }, accessFlags := 1, code := some k8c1 }
def k8c2 : Code := { maxStack := 1, maxLocals := 1, code := jdk_42_method_152_code, exceptionTable := #[], attributes := #[] }
def k8m2 : Method := { name := "coder", desc := "()B", sig := { parameters := [], returnType := some .byte }, accessFlags := 0, code := some k8c2 }
/-- java/lang/String -/
def k8 : Class := { plain "java/lang/String" (some 0) with
  accessFlags := 49
  interfaces := #[3, 4, 5, 6, 7]
  cf := some (fileOf pool8 10 #[.nestMembers #[1103]] #[{ accessFlags := 1, nameIndex := 5, descriptorIndex := 6, attributes := #[] }, { accessFlags := 1, nameIndex := 507, descriptorIndex := 334, attributes := #[] }, { accessFlags := 0, nameIndex := 17, descriptorIndex := 337, attributes := #[] }] 49 2 #[1106, 1108, 575, 1110, 1112] #[{ accessFlags := 18, nameIndex := 13, descriptorIndex := 14, attributes := #[] }, { accessFlags := 18, nameIndex := 17, descriptorIndex := 18, attributes := #[] }, { accessFlags := 2, nameIndex := 21, descriptorIndex := 22, attributes := #[] }, { accessFlags := 2, nameIndex := 25, descriptorIndex := 26, attributes := #[] }, { accessFlags := 26, nameIndex := 1116, descriptorIndex := 1117, attributes := #[] }, { accessFlags := 24, nameIndex := 40, descriptorIndex := 26, attributes := #[] }, { accessFlags := 26, nameIndex := 1101, descriptorIndex := 1102, attributes := #[] }, { accessFlags := 26, nameIndex := 1121, descriptorIndex := 1122, attributes := #[] }, { accessFlags := 25, nameIndex := 599, descriptorIndex := 600, attributes := #[] }, { accessFlags := 24, nameIndex := 1125, descriptorIndex := 18, attributes := #[] }, { accessFlags := 24, nameIndex := 1127, descriptorIndex := 18, attributes := #[] }])
  fields := #[{ name := "value", type := (.array .byte), accessFlags := 18, slot := 0, constantValue := 0 }, { name := "coder", type := .byte, accessFlags := 18, slot := 1, constantValue := 0 }, { name := "hash", type := .int, accessFlags := 2, slot := 2, constantValue := 0 }, { name := "hashIsZero", type := .boolean, accessFlags := 2, slot := 3, constantValue := 0 }, { name := "serialVersionUID", type := .long, accessFlags := 26, slot := 0, constantValue := 0 }, { name := "COMPACT_STRINGS", type := .boolean, accessFlags := 24, slot := 1, constantValue := 0 }, { name := "serialPersistentFields", type := (.array (.object "java/io/ObjectStreamField")), accessFlags := 26, slot := 2, constantValue := 0 }, { name := "REPL", type := .char, accessFlags := 26, slot := 3, constantValue := 0 }, { name := "CASE_INSENSITIVE_ORDER", type := (.object "java/util/Comparator"), accessFlags := 25, slot := 4, constantValue := 0 }, { name := "LATIN1", type := .byte, accessFlags := 24, slot := 5, constantValue := 0 }, { name := "UTF16", type := .byte, accessFlags := 24, slot := 6, constantValue := 0 }]
  methods := #[k8m0, k8m1, k8m2]
  instanceTypes := #[(.array .byte), .byte, .int, .boolean]
  staticTypes := #[.long, .boolean, (.array (.object "java/io/ObjectStreamField")), .char, (.object "java/util/Comparator"), .byte, .byte]
  resolved := Array.replicate 1451 none
  statics := some 0 }

def pool9 : Array CpInfo := pool [(8, .class_ 10), (1, u "java/lang/Iterable"), (24, .class_ 36), (0, u "java/lang/Object")] 25

/-- java/lang/Iterable -/
def k9 : Class := { plain "java/lang/Iterable" (some 0) with
  accessFlags := 1537
  interfaces := #[]
  cf := some (fileOf pool9 8 #[] #[] 1537 35 #[] #[])
  fields := #[]
  methods := #[]
  instanceTypes := #[]
  staticTypes := #[]
  resolved := Array.replicate 62 none
  statics := none }

def pool10 : Array CpInfo := pool [(10, .class_ 12), (1, u "java/util/Collection"), (47, .class_ 61), (0, u "java/lang/Object"), (0, .class_ 63), (0, u "java/lang/Iterable")] 51

/-- java/util/Collection -/
def k10 : Class := { plain "java/util/Collection" (some 0) with
  accessFlags := 1537
  interfaces := #[9]
  cf := some (fileOf pool10 10 #[] #[] 1537 60 #[62] #[])
  fields := #[]
  methods := #[]
  instanceTypes := #[]
  staticTypes := #[]
  resolved := Array.replicate 115 none
  statics := none }

def pool11 : Array CpInfo := pool [(1, .methodref 2 3), (0, .class_ 4), (0, .nameAndType 5 6), (0, u "java/lang/Object"), (0, u "<init>"), (0, u "()V"), (1, .class_ 10), (1, u "java/util/AbstractCollection"), (66, .class_ 78), (0, u "java/util/Collection")] 81

def k11c0 : Code := { maxStack := 1, maxLocals := 1, code := jdk_22_method_1_code, exceptionTable := #[], attributes := #[] }
def k11m0 : Method := { name := "<init>", desc := "()V", sig := { parameters := [], returnType := none }, accessFlags := 4, code := some k11c0 }
/-- java/util/AbstractCollection -/
def k11 : Class := { plain "java/util/AbstractCollection" (some 0) with
  accessFlags := 1057
  interfaces := #[10]
  cf := some (fileOf pool11 8 #[] #[{ accessFlags := 4, nameIndex := 5, descriptorIndex := 6, attributes := #[] }] 1057 2 #[77] #[])
  fields := #[]
  methods := #[k11m0]
  instanceTypes := #[]
  staticTypes := #[]
  resolved := Array.replicate 160 none
  statics := none }

def pool12 : Array CpInfo := pool [(8, .class_ 10), (1, u "java/util/SequencedCollection"), (15, .class_ 27), (0, u "java/lang/Object"), (0, .class_ 29), (0, u "java/util/Collection")] 27

/-- java/util/SequencedCollection -/
def k12 : Class := { plain "java/util/SequencedCollection" (some 0) with
  accessFlags := 1537
  interfaces := #[10]
  cf := some (fileOf pool12 8 #[] #[] 1537 26 #[28] #[])
  fields := #[]
  methods := #[]
  instanceTypes := #[]
  staticTypes := #[]
  resolved := Array.replicate 57 none
  statics := none }

def pool13 : Array CpInfo := pool [(8, .class_ 10), (1, u "java/util/List"), (49, u "add"), (3, u "(Ljava/lang/Object;)Z"), (38, .class_ 104), (0, u "java/lang/Object"), (15, .class_ 121), (0, u "java/util/SequencedCollection")] 129

def k13m0 : Method := { name := "add", desc := "(Ljava/lang/Object;)Z", sig := { parameters := [(.object "java/lang/Object")], returnType := some .boolean }, accessFlags := 1025, code := none }
/-- java/util/List -/
def k13 : Class := { plain "java/util/List" (some 0) with
  accessFlags := 1537
  interfaces := #[12]
  cf := some (fileOf pool13 8 #[] #[{ accessFlags := 1025, nameIndex := 60, descriptorIndex := 64, attributes := #[] }] 1537 103 #[120] #[])
  fields := #[]
  methods := #[k13m0]
  instanceTypes := #[]
  staticTypes := #[]
  resolved := Array.replicate 251 none
  statics := none }

def pool14 : Array CpInfo := pool [(1, .methodref 2 3), (0, .class_ 4), (0, .nameAndType 5 6), (0, u "java/util/AbstractCollection"), (0, u "<init>"), (0, u "()V"), (0, .fieldref 8 9), (0, .class_ 10), (0, .nameAndType 11 12), (0, u "java/util/AbstractList"), (0, u "modCount"), (0, u "I"), (64, .class_ 78), (0, u "java/util/AbstractList$Itr"), (3, .class_ 83), (0, u "java/util/AbstractList$ListItr"), (9, .class_ 94), (0, u "java/util/AbstractList$RandomAccessSubList"), (3, .class_ 99), (0, u "java/util/AbstractList$SubList"), (33, .class_ 134), (0, u "java/util/List"), (73, .class_ 209), (0, u "java/util/AbstractList$SubList$1"), (0, .class_ 211), (0, u "java/util/AbstractList$RandomAccessSpliterator")] 6

def k14c0 : Code := { maxStack := 2, maxLocals := 1, code := jdk_39_method_1_code, exceptionTable := #[], attributes := #[] }
def k14m0 : Method := { name := "<init>", desc := "()V", sig := { parameters := [], returnType := none }, accessFlags := 4, code := some k14c0 }
/-- java/util/AbstractList -/
def k14 : Class := { plain "java/util/AbstractList" (some 11) with
  accessFlags := 1057
  interfaces := #[13]
  cf := some (fileOf pool14 8 #[.nestMembers #[93, 98, 208, 210, 82, 77]] #[{ accessFlags := 4, nameIndex := 5, descriptorIndex := 6, attributes := #[] }] 1057 2 #[133] #[{ accessFlags := 132, nameIndex := 11, descriptorIndex := 12, attributes := #[] }])
  fields := #[{ name := "modCount", type := .int, accessFlags := 132, slot := 0, constantValue := 0 }]
  methods := #[k14m0]
  instanceTypes := #[.int]
  staticTypes := #[]
  resolved := Array.replicate 218 none
  statics := none }

def pool15 : Array CpInfo := pool [(1, .class_ 2), (0, u "java/util/RandomAccess"), (0, .class_ 4), (0, u "java/lang/Object")] 2

/-- java/util/RandomAccess -/
def k15 : Class := { plain "java/util/RandomAccess" (some 0) with
  accessFlags := 1537
  interfaces := #[]
  cf := some (fileOf pool15 1 #[] #[] 1537 3 #[] #[])
  fields := #[]
  methods := #[]
  instanceTypes := #[]
  staticTypes := #[]
  resolved := Array.replicate 7 none
  statics := none }

def pool16 : Array CpInfo := pool [(1, .class_ 2), (0, u "java/lang/Cloneable"), (0, .class_ 4), (0, u "java/lang/Object")] 2

/-- java/lang/Cloneable -/
def k16 : Class := { plain "java/lang/Cloneable" (some 0) with
  accessFlags := 1537
  interfaces := #[]
  cf := some (fileOf pool16 1 #[] #[] 1537 3 #[] #[])
  fields := #[]
  methods := #[]
  instanceTypes := #[]
  staticTypes := #[]
  resolved := Array.replicate 7 none
  statics := none }

def pool17 : Array CpInfo := pool [(1, .methodref 2 3), (0, .class_ 4), (0, .nameAndType 5 6), (0, u "java/util/AbstractList"), (0, u "<init>"), (0, u "()V"), (0, .class_ 8), (0, u "java/lang/Object"), (0, .fieldref 10 11), (0, .class_ 12), (0, .nameAndType 13 14), (0, u "java/util/ArrayList"), (0, u "elementData"), (0, u "[Ljava/lang/Object;"), (2, u "EMPTY_ELEMENTDATA"), (21, .fieldref 10 40), (0, .nameAndType 41 14), (0, u "DEFAULTCAPACITY_EMPTY_ELEMENTDATA"), (5, u "()[Ljava/lang/Object;"), (0, .fieldref 10 49), (0, .nameAndType 50 51), (0, u "size"), (0, u "I"), (11, .fieldref 10 64), (0, .nameAndType 65 51), (0, u "modCount"), (3, .methodref 10 70), (0, .nameAndType 71 72), (0, u "grow"), (0, u "(I)[Ljava/lang/Object;"), (6, .methodref 80 81), (0, .class_ 82), (0, .nameAndType 83 84), (0, u "java/lang/Math"), (0, u "max"), (0, u "(II)I"), (11, u "(Ljava/lang/Object;)Z"), (32, .methodref 10 130), (0, .nameAndType 71 47), (0, .methodref 10 132), (0, .nameAndType 133 134), (0, u "add"), (0, u "(Ljava/lang/Object;[Ljava/lang/Object;I)V"), (13, .class_ 149), (0, u "java/util/List"), (112, .class_ 263), (0, u "java/util/ArrayList$ListItr"), (3, .class_ 268), (0, u "java/util/ArrayList$Itr"), (7, .class_ 277), (0, u "java/util/ArrayList$SubList"), (12, .class_ 291), (0, u "java/util/ArrayList$ArrayListSpliterator"), (37, .class_ 330), (0, u "java/util/RandomAccess"), (0, .class_ 332), (0, u "java/lang/Cloneable"), (0, .class_ 334), (0, u "java/io/Serializable"), (0, u "serialVersionUID"), (0, u "J"), (3, u "DEFAULT_CAPACITY"), (159, .class_ 501), (0, u "java/util/ArrayList$SubList$2"), (0, .class_ 503), (0, u "java/util/ArrayList$SubList$1")] 5

def k17c0 : Code := { maxStack := 2, maxLocals := 1, code := jdk_38_method_2_code, exceptionTable := #[], attributes := #[] }
def k17m0 : Method := { name := "<init>", desc := "()V", sig := { parameters := [], returnType := none }, accessFlags := 1, code := some k17c0 }
def k17c1 : Code := { maxStack := 4, maxLocals := 4, code := jdk_38_method_6_code, exceptionTable := #[], attributes := #[] }
def k17m1 : Method := { name := "grow", desc := "(I)[Ljava/lang/Object;", sig := { parameters := [.int], returnType := some (.array (.object "java/lang/Object")) }, accessFlags := 2, code := some k17c1 }
def k17c2 : Code := { maxStack := 3, maxLocals := 1, code := jdk_38_method_7_code, exceptionTable := #[], attributes := #[] }
def k17m2 : Method := { name := "grow", desc := "()[Ljava/lang/Object;", sig := { parameters := [], returnType := some (.array (.object "java/lang/Object")) }, accessFlags := 2, code := some k17c2 }
def k17c3 : Code := { maxStack := 3, maxLocals := 4, code := jdk_38_method_24_code, exceptionTable := #[], attributes := #[] }
def k17m3 : Method := { name := "add", desc := "(Ljava/lang/Object;[Ljava/lang/Object;I)V", sig := { parameters := [(.object "java/lang/Object"), (.array (.object "java/lang/Object")), .int], returnType := none }, accessFlags := 2, code := some k17c3 }
def k17c4 : Code := { maxStack := 4, maxLocals := 2, code := jdk_38_method_25_code, exceptionTable := #[], attributes := #[] }
def k17m4 : Method := { name := "add", desc := "(Ljava/lang/Object;)Z", sig := { parameters := [(.object "java/lang/Object")], returnType := some .boolean }, accessFlags := 1, code := some k17c4 }
/-- java/util/ArrayList -/
def k17 : Class := { plain "java/util/ArrayList" (some 14) with
  accessFlags := 33
  interfaces := #[13, 15, 16, 3]
  cf := some (fileOf pool17 10 #[.nestMembers #[290, 276, 500, 502, 262, 267]] #[{ accessFlags := 1, nameIndex := 5, descriptorIndex := 6, attributes := #[] }, { accessFlags := 2, nameIndex := 71, descriptorIndex := 72, attributes := #[] }, { accessFlags := 2, nameIndex := 71, descriptorIndex := 47, attributes := #[] }, { accessFlags := 2, nameIndex := 133, descriptorIndex := 134, attributes := #[] }, { accessFlags := 1, nameIndex := 133, descriptorIndex := 96, attributes := #[] }] 33 2 #[148, 329, 331, 333] #[{ accessFlags := 26, nameIndex := 335, descriptorIndex := 336, attributes := #[] }, { accessFlags := 26, nameIndex := 340, descriptorIndex := 51, attributes := #[] }, { accessFlags := 26, nameIndex := 17, descriptorIndex := 14, attributes := #[] }, { accessFlags := 26, nameIndex := 41, descriptorIndex := 14, attributes := #[] }, { accessFlags := 128, nameIndex := 13, descriptorIndex := 14, attributes := #[] }, { accessFlags := 2, nameIndex := 50, descriptorIndex := 51, attributes := #[] }])
  fields := #[{ name := "serialVersionUID", type := .long, accessFlags := 26, slot := 0, constantValue := 0 }, { name := "DEFAULT_CAPACITY", type := .int, accessFlags := 26, slot := 1, constantValue := 0 }, { name := "EMPTY_ELEMENTDATA", type := (.array (.object "java/lang/Object")), accessFlags := 26, slot := 2, constantValue := 0 }, { name := "DEFAULTCAPACITY_EMPTY_ELEMENTDATA", type := (.array (.object "java/lang/Object")), accessFlags := 26, slot := 3, constantValue := 0 }, { name := "elementData", type := (.array (.object "java/lang/Object")), accessFlags := 128, slot := 1, constantValue := 0 }, { name := "size", type := .int, accessFlags := 2, slot := 2, constantValue := 0 }]
  methods := #[k17m0, k17m1, k17m2, k17m3, k17m4]
  instanceTypes := #[.int, (.array (.object "java/lang/Object")), .int]
  staticTypes := #[.long, .int, (.array (.object "java/lang/Object")), (.array (.object "java/lang/Object"))]
  resolved := Array.replicate 509 none
  statics := some 1 }

def pool18 : Array CpInfo := pool [(1, .class_ 2), (0, u "java/lang/Math"), (1, .class_ 6), (1, u "java/lang/Object"), (0, u "<init>"), (0, u "()V"), (89, .class_ 100), (1, u "java/lang/Math$RandomNumberGeneratorHolder"), (71, u "negativeZeroFloatBits"), (0, u "J"), (2, u "negativeZeroDoubleBits"), (21, u "max"), (46, u "$assertionsDisabled"), (0, u "Z"), (88, u "(II)I"), (2, u "twoToTheDoubleScaleDown"), (0, u "D"), (4, u "twoToTheDoubleScaleUp"), (9, u "E"), (3, u "PI"), (2, u "TAU"), (2, u "DEGREES_TO_RADIANS"), (0, u "RADIANS_TO_DEGREES")] 94

def k18m0 : Method := { name := "<init>", desc := "()V", sig := { parameters := [], returnType := none }, accessFlags := 2, code := none }
def k18c1 : Code := { maxStack := 2, maxLocals := 2, code := jdk_29_method_65_code, exceptionTable := #[], attributes := #[] }
def k18m1 : Method := { name := "max", desc := "(II)I", sig := { parameters := [.int, .int], returnType := some .int }, accessFlags := 9, code := some k18c1 }
/-- java/lang/Math -/
def k18 : Class := { plain "java/lang/Math" (some 0) with
  accessFlags := 49
  interfaces := #[]
  cf := some (fileOf pool18 1 #[.nestMembers #[98]] #[{ accessFlags := 2, nameIndex := 7, descriptorIndex := 8, attributes := #[] }, { accessFlags := 9, nameIndex := 198, descriptorIndex := 335, attributes := #[] }] 49 4 #[] #[{ accessFlags := 25, nameIndex := 354, descriptorIndex := 339, attributes := #[] }, { accessFlags := 25, nameIndex := 358, descriptorIndex := 339, attributes := #[] }, { accessFlags := 25, nameIndex := 361, descriptorIndex := 339, attributes := #[] }, { accessFlags := 26, nameIndex := 364, descriptorIndex := 339, attributes := #[] }, { accessFlags := 26, nameIndex := 365, descriptorIndex := 339, attributes := #[] }, { accessFlags := 26, nameIndex := 172, descriptorIndex := 173, attributes := #[] }, { accessFlags := 26, nameIndex := 176, descriptorIndex := 173, attributes := #[] }, { accessFlags := 8, nameIndex := 344, descriptorIndex := 339, attributes := #[] }, { accessFlags := 8, nameIndex := 338, descriptorIndex := 339, attributes := #[] }, { accessFlags := 4120, nameIndex := 245, descriptorIndex := 246, attributes := #[] }])
  fields := #[{ name := "E", type := .double, accessFlags := 25, slot := 0, constantValue := 0 }, { name := "PI", type := .double, accessFlags := 25, slot := 1, constantValue := 0 }, { name := "TAU", type := .double, accessFlags := 25, slot := 2, constantValue := 0 }, { name := "DEGREES_TO_RADIANS", type := .double, accessFlags := 26, slot := 3, constantValue := 0 }, { name := "RADIANS_TO_DEGREES", type := .double, accessFlags := 26, slot := 4, constantValue := 0 }, { name := "negativeZeroFloatBits", type := .long, accessFlags := 26, slot := 5, constantValue := 0 }, { name := "negativeZeroDoubleBits", type := .long, accessFlags := 26, slot := 6, constantValue := 0 }, { name := "twoToTheDoubleScaleUp", type := .double, accessFlags := 8, slot := 7, constantValue := 0 }, { name := "twoToTheDoubleScaleDown", type := .double, accessFlags := 8, slot := 8, constantValue := 0 }, { name := "$assertionsDisabled", type := .boolean, accessFlags := 4120, slot := 9, constantValue := 0 }]
  methods := #[k18m0, k18m1]
  instanceTypes := #[]
  staticTypes := #[.double, .double, .double, .double, .double, .long, .long, .double, .double, .boolean]
  resolved := Array.replicate 460 none
  statics := none }

def pool19 : Array CpInfo := pool [(4, .class_ 6), (1, u "java/lang/Object"), (0, u "<init>"), (0, u "()V"), (5, .class_ 16), (1, u "java/lang/StringLatin1"), (104, u "$assertionsDisabled"), (0, u "Z"), (98, .class_ 223), (1, u "java/lang/StringLatin1$LinesSpliterator"), (166, .class_ 391), (0, u "java/lang/StringLatin1$CharsSpliterator")] 3

def k19m0 : Method := { name := "<init>", desc := "()V", sig := { parameters := [], returnType := none }, accessFlags := 0, code := none }
/-- java/lang/StringLatin1 -/
def k19 : Class := { plain "java/lang/StringLatin1" (some 0) with
  accessFlags := 48
  interfaces := #[]
  cf := some (fileOf pool19 14 #[.nestMembers #[390, 221]] #[{ accessFlags := 0, nameIndex := 7, descriptorIndex := 8, attributes := #[] }] 48 4 #[] #[{ accessFlags := 4120, nameIndex := 121, descriptorIndex := 122, attributes := #[] }])
  fields := #[{ name := "$assertionsDisabled", type := .boolean, accessFlags := 4120, slot := 0, constantValue := 0 }]
  methods := #[k19m0]
  instanceTypes := #[]
  staticTypes := #[.boolean]
  resolved := Array.replicate 395 none
  statics := none }

def pool20 : Array CpInfo := pool [(2, .class_ 4), (1, u "java/lang/Object"), (0, u "<init>"), (0, u "()V"), (17, .class_ 26), (1, u "jdk/internal/util/Preconditions"), (28, .class_ 56), (0, u "jdk/internal/util/Preconditions$4"), (57, .class_ 115), (0, u "jdk/internal/util/Preconditions$1"), (7, u "SIOOBE_FORMATTER"), (0, u "Ljava/util/function/BiFunction;"), (0, .class_ 126), (0, u "jdk/internal/util/Preconditions$2"), (3, u "AIOOBE_FORMATTER"), (0, .class_ 132), (0, u "jdk/internal/util/Preconditions$3"), (3, u "IOOBE_FORMATTER")] 57

def k20m0 : Method := { name := "<init>", desc := "()V", sig := { parameters := [], returnType := none }, accessFlags := 1, code := none }
/-- jdk/internal/util/Preconditions -/
def k20 : Class := { plain "jdk/internal/util/Preconditions" (some 0) with
  accessFlags := 33
  interfaces := #[]
  cf := some (fileOf pool20 24 #[.nestMembers #[55, 131, 125, 114]] #[{ accessFlags := 1, nameIndex := 5, descriptorIndex := 6, attributes := #[] }] 33 2 #[] #[{ accessFlags := 25, nameIndex := 123, descriptorIndex := 124, attributes := #[] }, { accessFlags := 25, nameIndex := 130, descriptorIndex := 124, attributes := #[] }, { accessFlags := 25, nameIndex := 136, descriptorIndex := 124, attributes := #[] }])
  fields := #[{ name := "SIOOBE_FORMATTER", type := (.object "java/util/function/BiFunction"), accessFlags := 25, slot := 0, constantValue := 0 }, { name := "AIOOBE_FORMATTER", type := (.object "java/util/function/BiFunction"), accessFlags := 25, slot := 1, constantValue := 0 }, { name := "IOOBE_FORMATTER", type := (.object "java/util/function/BiFunction"), accessFlags := 25, slot := 2, constantValue := 0 }]
  methods := #[k20m0]
  instanceTypes := #[]
  staticTypes := #[(.object "java/util/function/BiFunction"), (.object "java/util/function/BiFunction"), (.object "java/util/function/BiFunction")]
  resolved := Array.replicate 194 none
  statics := some 2 }

def pool21 : Array CpInfo := pool [(9, u "<init>"), (6, .class_ 18), (1, u "java/lang/Object"), (0, u "()V"), (1, .class_ 23), (1, u "jdk/internal/util/ArraysSupport"), (0, u "LOG2_ARRAY_LONG_INDEX_SCALE"), (0, u "I"), (2, u "U"), (0, u "Ljdk/internal/misc/Unsafe;"), (8, u "BIG_ENDIAN"), (0, u "Z"), (8, u "LOG2_BYTE_BIT_SIZE"), (4, u "LOG2_ARRAY_INT_INDEX_SCALE"), (54, u "JLA"), (0, u "Ljdk/internal/access/JavaLangAccess;"), (11, u "LOG2_ARRAY_BOOLEAN_INDEX_SCALE"), (9, u "LOG2_ARRAY_BYTE_INDEX_SCALE"), (5, u "LOG2_ARRAY_CHAR_INDEX_SCALE"), (5, u "LOG2_ARRAY_SHORT_INDEX_SCALE"), (18, u "LOG2_ARRAY_FLOAT_INDEX_SCALE"), (24, u "LOG2_ARRAY_DOUBLE_INDEX_SCALE"), (89, u "T_BOOLEAN"), (2, u "T_CHAR"), (1, u "T_FLOAT"), (1, u "T_DOUBLE"), (1, u "T_BYTE"), (1, u "T_SHORT"), (1, u "T_INT"), (1, u "T_LONG"), (1, u "SOFT_MAX_ARRAY_LENGTH")] 83

def k21m0 : Method := { name := "<init>", desc := "()V", sig := { parameters := [], returnType := none }, accessFlags := 2, code := none }
/-- jdk/internal/util/ArraysSupport -/
def k21 : Class := { plain "jdk/internal/util/ArraysSupport" (some 0) with
  accessFlags := 33
  interfaces := #[]
  cf := some (fileOf pool21 21 #[] #[{ accessFlags := 2, nameIndex := 9, descriptorIndex := 19, attributes := #[] }] 33 16 #[] #[{ accessFlags := 24, nameIndex := 28, descriptorIndex := 29, attributes := #[] }, { accessFlags := 26, nameIndex := 38, descriptorIndex := 39, attributes := #[] }, { accessFlags := 25, nameIndex := 121, descriptorIndex := 25, attributes := #[] }, { accessFlags := 25, nameIndex := 131, descriptorIndex := 25, attributes := #[] }, { accessFlags := 25, nameIndex := 137, descriptorIndex := 25, attributes := #[] }, { accessFlags := 25, nameIndex := 143, descriptorIndex := 25, attributes := #[] }, { accessFlags := 25, nameIndex := 53, descriptorIndex := 25, attributes := #[] }, { accessFlags := 25, nameIndex := 24, descriptorIndex := 25, attributes := #[] }, { accessFlags := 25, nameIndex := 162, descriptorIndex := 25, attributes := #[] }, { accessFlags := 25, nameIndex := 187, descriptorIndex := 25, attributes := #[] }, { accessFlags := 26, nameIndex := 48, descriptorIndex := 25, attributes := #[] }, { accessFlags := 25, nameIndex := 277, descriptorIndex := 25, attributes := #[] }, { accessFlags := 25, nameIndex := 280, descriptorIndex := 25, attributes := #[] }, { accessFlags := 25, nameIndex := 282, descriptorIndex := 25, attributes := #[] }, { accessFlags := 25, nameIndex := 284, descriptorIndex := 25, attributes := #[] }, { accessFlags := 25, nameIndex := 286, descriptorIndex := 25, attributes := #[] }, { accessFlags := 25, nameIndex := 288, descriptorIndex := 25, attributes := #[] }, { accessFlags := 25, nameIndex := 290, descriptorIndex := 25, attributes := #[] }, { accessFlags := 25, nameIndex := 292, descriptorIndex := 25, attributes := #[] }, { accessFlags := 26, nameIndex := 108, descriptorIndex := 109, attributes := #[] }, { accessFlags := 25, nameIndex := 294, descriptorIndex := 25, attributes := #[] }])
  fields := #[{ name := "U", type := (.object "jdk/internal/misc/Unsafe"), accessFlags := 24, slot := 0, constantValue := 0 }, { name := "BIG_ENDIAN", type := .boolean, accessFlags := 26, slot := 1, constantValue := 0 }, { name := "LOG2_ARRAY_BOOLEAN_INDEX_SCALE", type := .int, accessFlags := 25, slot := 2, constantValue := 0 }, { name := "LOG2_ARRAY_BYTE_INDEX_SCALE", type := .int, accessFlags := 25, slot := 3, constantValue := 0 }, { name := "LOG2_ARRAY_CHAR_INDEX_SCALE", type := .int, accessFlags := 25, slot := 4, constantValue := 0 }, { name := "LOG2_ARRAY_SHORT_INDEX_SCALE", type := .int, accessFlags := 25, slot := 5, constantValue := 0 }, { name := "LOG2_ARRAY_INT_INDEX_SCALE", type := .int, accessFlags := 25, slot := 6, constantValue := 0 }, { name := "LOG2_ARRAY_LONG_INDEX_SCALE", type := .int, accessFlags := 25, slot := 7, constantValue := 0 }, { name := "LOG2_ARRAY_FLOAT_INDEX_SCALE", type := .int, accessFlags := 25, slot := 8, constantValue := 0 }, { name := "LOG2_ARRAY_DOUBLE_INDEX_SCALE", type := .int, accessFlags := 25, slot := 9, constantValue := 0 }, { name := "LOG2_BYTE_BIT_SIZE", type := .int, accessFlags := 26, slot := 10, constantValue := 0 }, { name := "T_BOOLEAN", type := .int, accessFlags := 25, slot := 11, constantValue := 0 }, { name := "T_CHAR", type := .int, accessFlags := 25, slot := 12, constantValue := 0 }, { name := "T_FLOAT", type := .int, accessFlags := 25, slot := 13, constantValue := 0 }, { name := "T_DOUBLE", type := .int, accessFlags := 25, slot := 14, constantValue := 0 }, { name := "T_BYTE", type := .int, accessFlags := 25, slot := 15, constantValue := 0 }, { name := "T_SHORT", type := .int, accessFlags := 25, slot := 16, constantValue := 0 }, { name := "T_INT", type := .int, accessFlags := 25, slot := 17, constantValue := 0 }, { name := "T_LONG", type := .int, accessFlags := 25, slot := 18, constantValue := 0 }, { name := "JLA", type := (.object "jdk/internal/access/JavaLangAccess"), accessFlags := 26, slot := 19, constantValue := 0 }, { name := "SOFT_MAX_ARRAY_LENGTH", type := .int, accessFlags := 25, slot := 20, constantValue := 0 }]
  methods := #[k21m0]
  instanceTypes := #[]
  staticTypes := #[(.object "jdk/internal/misc/Unsafe"), .boolean, .int, .int, .int, .int, .int, .int, .int, .int, .int, .int, .int, .int, .int, .int, .int, .int, .int, (.object "jdk/internal/access/JavaLangAccess"), .int]
  resolved := Array.replicate 378 none
  statics := none }

/-- the primitive boolean -/
def k22 : Class := { plain "boolean" none with kind := .primitive 'Z', accessFlags := 0x411 }
/-- [Z -/
def k23 : Class := { plain "[Z" (some 0) with kind := .array 22 .boolean, interfaces := #[16, 3], accessFlags := 1041 }

/-- the primitive byte -/
def k24 : Class := { plain "byte" none with kind := .primitive 'B', accessFlags := 0x411 }
/-- [B -/
def k25 : Class := { plain "[B" (some 0) with kind := .array 24 .byte, interfaces := #[16, 3], accessFlags := 1041 }

/-- the primitive int -/
def k26 : Class := { plain "int" none with kind := .primitive 'I', accessFlags := 0x411 }
/-- [I -/
def k27 : Class := { plain "[I" (some 0) with kind := .array 26 .int, interfaces := #[16, 3], accessFlags := 1041 }

/-- [Ljava/lang/Object; -/
def k28 : Class := { plain "[Ljava/lang/Object;" (some 0) with kind := .array 0 (.object "java/lang/Object"), interfaces := #[16, 3], accessFlags := 1041 }

/-- [Ljava/lang/String; -/
def k29 : Class := { plain "[Ljava/lang/String;" (some 0) with kind := .array 8 (.object "java/lang/String"), interfaces := #[16, 3], accessFlags := 1041 }

def heap : Heap := #[{ cls := 8, slots := #[.long 0, .int 1, .null, .int 0, .null, .int 0, .int 0], vm := .statics 8 },
  { cls := 17, slots := #[.long 0, .int 0, .ref 3, .ref 4], vm := .statics 17 },
  { cls := 20, slots := #[.null, .null, .null], vm := .statics 20 },
  { cls := 28, slots := #[], vm := .none },
  { cls := 28, slots := #[], vm := .none }]
def classes : Array Class := #[k0, k1, k2, k3, k4, k5, k6, k7, k8, k9, k10, k11, k12, k13, k14, k15, k16, k17, k18, k19, k20, k21, k22, k23, k24, k25, k26, k27, k28, k29]
def interned : List (Array UInt16 × Addr) := []
def slotsUsed : Nat := 14
def theMethod : MethodId := ⟨1, 3⟩
def args0 : Array Value := #[.int 5, .int 5, .int 5, .int 5, .int 5]
def aboutOver (below : List Frame) : State where
  vm := { classes := classes, interned := interned.toArray }
  heap := heap
  slotsUsed := slotsUsed
  threads := #[{ frames := .invoking theMethod args0 :: below }]
def below0 : List Frame := [.native { method := ⟨0, 0⟩, args := #[] }]
def about1 : State := aboutOver below0
def p0 : Program := .bare "" "" ""
def e0 : Env := launch0.env 0 0 0
theorem w_frames : about1.frames = Frame.invoking theMethod args0 :: below0 := rfl
set_option maxRecDepth 65536 in
theorem w_args : argsFit about1.vm theMethod args0 = true := by decide +kernel
set_option maxRecDepth 65536 in
theorem w_heap : heapFits about1 = true := by decide +kernel
set_option maxRecDepth 65536 in
theorem w_runnable : about1.curStatus? = some .runnable := by decide +kernel
set_option maxRecDepth 65536 in
theorem w_alone : about1.alone = true := by decide +kernel
set_option maxRecDepth 65536 in
theorem w_named : about1.methodNamed? x = some theMethod := by decide +kernel
set_option maxRecDepth 65536 in
theorem w_hears : about1.hears theMethod below0 = true := by decide +kernel
set_option maxRecDepth 65536 in
theorem w_ripe : about1.ripe theMethod args0 below0 = true := by decide +kernel
theorem w_running : about1.status = .running := rfl
set_option maxRecDepth 65536 in
theorem w_room : about1.hasRoom e0.platform room_1 = true :=
  launch0.hasRoom_least _ room_1 (by decide +kernel) (by decide +kernel) (by decide +kernel) (by decide +kernel) (by decide +kernel) (by decide +kernel)
theorem allAtoms_all (ts : List Jvm.Cond) (a : Array Jvm.Value) (st : Jvm.State) : (allAtoms ts).before a st = ts.all (fun c => c.before a st) := by
  induction ts with
  | nil => rfl
  | cons c t ih =>
    show (Jvm.Cond.and c (allAtoms t)).before a st = _
    rw [Jvm.Cond.before_and, ih, List.all_cons]
def words1 : List Jvm.Cond := Jvm.Cond.code x code maxLocals ret :: tables_1
/-- a 'code' word, met by the world's own term for the bytes: nothing is compared byte by byte -/
theorem code_word {y : MethodName} {bytes : ByteArray} {mx : Nat} {rt : Option FieldType} {a : Array Value} {s : State} {m : MethodId} {meth : Method} {c : Code} (h1 : s.methodNamed? y = some m) (h2 : s.vm.method? m = some meth) (h3 : meth.code = some c) (h4 : c.code = bytes)
    (h5 : (c.maxLocals == mx && c.exceptionTable.isEmpty && decide (c.maxStack ≤ mostOperands) && decide (meth.sig.returnType = rt) && !meth.locks && decide (parseMethodDescriptor y.desc = some meth.sig)) = true) : (Jvm.Cond.code y bytes mx rt).before a s = true := by
  simp only [Bool.and_eq_true, beq_iff_eq, Bool.not_eq_true', decide_eq_true_eq] at h5
  obtain ⟨⟨⟨⟨⟨g1, g2⟩, g3⟩, g4⟩, g5⟩, g6⟩ := h5
  simp [Cond.before, Cond.holds, Cond.value, h1, h2, h3, h4, g1, g2, g3, g4, g5, g6]
def isCode : Jvm.Cond → Bool
  | .code _ _ _ _ => true
  | _ => false
theorem all_split {L : List Jvm.Cond} {P : Jvm.Cond → Bool} (h1 : L.all (fun c => isCode c || P c) = true) (h2 : ∀ c ∈ L.filter isCode, P c = true) : L.all P = true := by
  refine List.all_eq_true.mpr fun c hc => ?_
  have h := List.all_eq_true.mp h1 c hc
  rcases Bool.eq_false_or_eq_true (isCode c) with hi | hi
  · exact h2 c (List.mem_filter.mpr ⟨hc, hi⟩)
  · simpa [hi] using h
set_option maxRecDepth 65536 in
theorem w_c0 : (Jvm.Cond.code x code maxLocals ret).before args0 about1 = true := code_word (m := ⟨1, 3⟩) (meth := k1m3) (c := k1c3) (by decide +kernel) rfl rfl rfl (by decide +kernel)
set_option maxRecDepth 65536 in
theorem w_c1 : (Jvm.Cond.code ({ cls := "com/example/charterlens/charterlens/cli/TableWidenPinLaw", name := "cell", desc := "(I)Ljava/lang/String;" } : Jvm.MethodName) method_2_code (1 : Nat) (Option.some (Jvm.ClassFile.FieldType.object "java/lang/String"))).before args0 about1 = true := code_word (m := ⟨1, 1⟩) (meth := k1m1) (c := k1c1) (by decide +kernel) rfl rfl rfl (by decide +kernel)
set_option maxRecDepth 65536 in
theorem w_c2 : (Jvm.Cond.code ({ cls := "com/example/charterlens/charterlens/cli/Table", name := "<init>", desc := "([Ljava/lang/String;)V" } : Jvm.MethodName) prog_64_method_1_code (2 : Nat) (Option.none : Option Jvm.ClassFile.FieldType)).before args0 about1 = true := code_word (m := ⟨2, 0⟩) (meth := k2m0) (c := k2c0) (by decide +kernel) rfl rfl rfl (by decide +kernel)
set_option maxRecDepth 65536 in
theorem w_c3 : (Jvm.Cond.code ({ cls := "java/lang/Object", name := "<init>", desc := "()V" } : Jvm.MethodName) object_method_1_code (1 : Nat) (Option.none : Option Jvm.ClassFile.FieldType)).before args0 about1 = true := code_word (m := ⟨0, 0⟩) (meth := k0m0) (c := k0c0) (by decide +kernel) rfl rfl rfl (by decide +kernel)
set_option maxRecDepth 65536 in
theorem w_c4 : (Jvm.Cond.code ({ cls := "java/util/ArrayList", name := "<init>", desc := "()V" } : Jvm.MethodName) jdk_38_method_2_code (1 : Nat) (Option.none : Option Jvm.ClassFile.FieldType)).before args0 about1 = true := code_word (m := ⟨17, 0⟩) (meth := k17m0) (c := k17c0) (by decide +kernel) rfl rfl rfl (by decide +kernel)
set_option maxRecDepth 65536 in
theorem w_c5 : (Jvm.Cond.code ({ cls := "java/util/AbstractList", name := "<init>", desc := "()V" } : Jvm.MethodName) jdk_39_method_1_code (1 : Nat) (Option.none : Option Jvm.ClassFile.FieldType)).before args0 about1 = true := code_word (m := ⟨14, 0⟩) (meth := k14m0) (c := k14c0) (by decide +kernel) rfl rfl rfl (by decide +kernel)
set_option maxRecDepth 65536 in
theorem w_c6 : (Jvm.Cond.code ({ cls := "java/util/AbstractCollection", name := "<init>", desc := "()V" } : Jvm.MethodName) jdk_22_method_1_code (1 : Nat) (Option.none : Option Jvm.ClassFile.FieldType)).before args0 about1 = true := code_word (m := ⟨11, 0⟩) (meth := k11m0) (c := k11c0) (by decide +kernel) rfl rfl rfl (by decide +kernel)
set_option maxRecDepth 65536 in
theorem w_c7 : (Jvm.Cond.code ({ cls := "com/example/charterlens/charterlens/cli/Table", name := "add", desc := "([Ljava/lang/String;)V" } : Jvm.MethodName) prog_64_method_3_code (3 : Nat) (Option.none : Option Jvm.ClassFile.FieldType)).before args0 about1 = true := code_word (m := ⟨2, 1⟩) (meth := k2m1) (c := k2c1) (by decide +kernel) rfl rfl rfl (by decide +kernel)
set_option maxRecDepth 65536 in
theorem w_c8 : (Jvm.Cond.code ({ cls := "java/util/ArrayList", name := "add", desc := "(Ljava/lang/Object;)Z" } : Jvm.MethodName) jdk_38_method_25_code (2 : Nat) (Option.some Jvm.ClassFile.FieldType.boolean)).before args0 about1 = true := code_word (m := ⟨17, 4⟩) (meth := k17m4) (c := k17c4) (by decide +kernel) rfl rfl rfl (by decide +kernel)
set_option maxRecDepth 65536 in
theorem w_c9 : (Jvm.Cond.code ({ cls := "java/util/ArrayList", name := "add", desc := "(Ljava/lang/Object;[Ljava/lang/Object;I)V" } : Jvm.MethodName) jdk_38_method_24_code (4 : Nat) (Option.none : Option Jvm.ClassFile.FieldType)).before args0 about1 = true := code_word (m := ⟨17, 3⟩) (meth := k17m3) (c := k17c3) (by decide +kernel) rfl rfl rfl (by decide +kernel)
set_option maxRecDepth 65536 in
theorem w_c10 : (Jvm.Cond.code ({ cls := "java/util/ArrayList", name := "grow", desc := "()[Ljava/lang/Object;" } : Jvm.MethodName) jdk_38_method_7_code (1 : Nat) (Option.some (Jvm.ClassFile.FieldType.array (Jvm.ClassFile.FieldType.object "java/lang/Object")))).before args0 about1 = true := code_word (m := ⟨17, 2⟩) (meth := k17m2) (c := k17c2) (by decide +kernel) rfl rfl rfl (by decide +kernel)
set_option maxRecDepth 65536 in
theorem w_c11 : (Jvm.Cond.code ({ cls := "java/util/ArrayList", name := "grow", desc := "(I)[Ljava/lang/Object;" } : Jvm.MethodName) jdk_38_method_6_code (4 : Nat) (Option.some (Jvm.ClassFile.FieldType.array (Jvm.ClassFile.FieldType.object "java/lang/Object")))).before args0 about1 = true := code_word (m := ⟨17, 1⟩) (meth := k17m1) (c := k17c1) (by decide +kernel) rfl rfl rfl (by decide +kernel)
set_option maxRecDepth 65536 in
theorem w_c12 : (Jvm.Cond.code ({ cls := "java/lang/Math", name := "max", desc := "(II)I" } : Jvm.MethodName) jdk_29_method_65_code (2 : Nat) (Option.some Jvm.ClassFile.FieldType.int)).before args0 about1 = true := code_word (m := ⟨18, 1⟩) (meth := k18m1) (c := k18c1) (by decide +kernel) rfl rfl rfl (by decide +kernel)
set_option maxRecDepth 65536 in
theorem w_c13 : (Jvm.Cond.code ({ cls := "java/lang/String", name := "length", desc := "()I" } : Jvm.MethodName) jdk_42_method_54_code (1 : Nat) (Option.some Jvm.ClassFile.FieldType.int)).before args0 about1 = true := code_word (m := ⟨8, 1⟩) (meth := k8m1) (c := k8c1) (by decide +kernel) rfl rfl rfl (by decide +kernel)
set_option maxRecDepth 65536 in
theorem w_c14 : (Jvm.Cond.code ({ cls := "java/lang/String", name := "coder", desc := "()B" } : Jvm.MethodName) jdk_42_method_152_code (1 : Nat) (Option.some Jvm.ClassFile.FieldType.byte)).before args0 about1 = true := code_word (m := ⟨8, 2⟩) (meth := k8m2) (c := k8c2) (by decide +kernel) rfl rfl rfl (by decide +kernel)
set_option maxRecDepth 65536 in
theorem w_c15 : (Jvm.Cond.code ({ cls := "com/example/charterlens/charterlens/cli/Table", name := "widen", desc := "(II)V" } : Jvm.MethodName) prog_64_method_4_code (3 : Nat) (Option.none : Option Jvm.ClassFile.FieldType)).before args0 about1 = true := code_word (m := ⟨2, 2⟩) (meth := k2m2) (c := k2c2) (by decide +kernel) rfl rfl rfl (by decide +kernel)
set_option maxRecDepth 65536 in
theorem w_c16 : (Jvm.Cond.code ({ cls := "com/example/charterlens/charterlens/cli/TableWidenPinLaw", name := "atLeast", desc := "(II)I" } : Jvm.MethodName) method_3_code (2 : Nat) (Option.some Jvm.ClassFile.FieldType.int)).before args0 about1 = true := code_word (m := ⟨1, 2⟩) (meth := k1m2) (c := k1c2) (by decide +kernel) rfl rfl rfl (by decide +kernel)
set_option maxRecDepth 65536 in
theorem w_c17 : (Jvm.Cond.code ({ cls := "com/example/charterlens/charterlens/cli/Table", name := "width", desc := "(I)I" } : Jvm.MethodName) prog_64_method_5_code (2 : Nat) (Option.some Jvm.ClassFile.FieldType.int)).before args0 about1 = true := code_word (m := ⟨2, 3⟩) (meth := k2m3) (c := k2c3) (by decide +kernel) rfl rfl rfl (by decide +kernel)
def codes1 : List Jvm.Cond := [Jvm.Cond.code x code maxLocals ret, Jvm.Cond.code ({ cls := "com/example/charterlens/charterlens/cli/TableWidenPinLaw", name := "cell", desc := "(I)Ljava/lang/String;" } : Jvm.MethodName) method_2_code (1 : Nat) (Option.some (Jvm.ClassFile.FieldType.object "java/lang/String")), Jvm.Cond.code ({ cls := "com/example/charterlens/charterlens/cli/Table", name := "<init>", desc := "([Ljava/lang/String;)V" } : Jvm.MethodName) prog_64_method_1_code (2 : Nat) (Option.none : Option Jvm.ClassFile.FieldType), Jvm.Cond.code ({ cls := "java/lang/Object", name := "<init>", desc := "()V" } : Jvm.MethodName) object_method_1_code (1 : Nat) (Option.none : Option Jvm.ClassFile.FieldType), Jvm.Cond.code ({ cls := "java/util/ArrayList", name := "<init>", desc := "()V" } : Jvm.MethodName) jdk_38_method_2_code (1 : Nat) (Option.none : Option Jvm.ClassFile.FieldType), Jvm.Cond.code ({ cls := "java/util/AbstractList", name := "<init>", desc := "()V" } : Jvm.MethodName) jdk_39_method_1_code (1 : Nat) (Option.none : Option Jvm.ClassFile.FieldType), Jvm.Cond.code ({ cls := "java/util/AbstractCollection", name := "<init>", desc := "()V" } : Jvm.MethodName) jdk_22_method_1_code (1 : Nat) (Option.none : Option Jvm.ClassFile.FieldType), Jvm.Cond.code ({ cls := "com/example/charterlens/charterlens/cli/Table", name := "add", desc := "([Ljava/lang/String;)V" } : Jvm.MethodName) prog_64_method_3_code (3 : Nat) (Option.none : Option Jvm.ClassFile.FieldType), Jvm.Cond.code ({ cls := "java/util/ArrayList", name := "add", desc := "(Ljava/lang/Object;)Z" } : Jvm.MethodName) jdk_38_method_25_code (2 : Nat) (Option.some Jvm.ClassFile.FieldType.boolean), Jvm.Cond.code ({ cls := "java/util/ArrayList", name := "add", desc := "(Ljava/lang/Object;[Ljava/lang/Object;I)V" } : Jvm.MethodName) jdk_38_method_24_code (4 : Nat) (Option.none : Option Jvm.ClassFile.FieldType), Jvm.Cond.code ({ cls := "java/util/ArrayList", name := "grow", desc := "()[Ljava/lang/Object;" } : Jvm.MethodName) jdk_38_method_7_code (1 : Nat) (Option.some (Jvm.ClassFile.FieldType.array (Jvm.ClassFile.FieldType.object "java/lang/Object"))), Jvm.Cond.code ({ cls := "java/util/ArrayList", name := "grow", desc := "(I)[Ljava/lang/Object;" } : Jvm.MethodName) jdk_38_method_6_code (4 : Nat) (Option.some (Jvm.ClassFile.FieldType.array (Jvm.ClassFile.FieldType.object "java/lang/Object"))), Jvm.Cond.code ({ cls := "java/lang/Math", name := "max", desc := "(II)I" } : Jvm.MethodName) jdk_29_method_65_code (2 : Nat) (Option.some Jvm.ClassFile.FieldType.int), Jvm.Cond.code ({ cls := "java/lang/String", name := "length", desc := "()I" } : Jvm.MethodName) jdk_42_method_54_code (1 : Nat) (Option.some Jvm.ClassFile.FieldType.int), Jvm.Cond.code ({ cls := "java/lang/String", name := "coder", desc := "()B" } : Jvm.MethodName) jdk_42_method_152_code (1 : Nat) (Option.some Jvm.ClassFile.FieldType.byte), Jvm.Cond.code ({ cls := "com/example/charterlens/charterlens/cli/Table", name := "widen", desc := "(II)V" } : Jvm.MethodName) prog_64_method_4_code (3 : Nat) (Option.none : Option Jvm.ClassFile.FieldType), Jvm.Cond.code ({ cls := "com/example/charterlens/charterlens/cli/TableWidenPinLaw", name := "atLeast", desc := "(II)I" } : Jvm.MethodName) method_3_code (2 : Nat) (Option.some Jvm.ClassFile.FieldType.int), Jvm.Cond.code ({ cls := "com/example/charterlens/charterlens/cli/Table", name := "width", desc := "(I)I" } : Jvm.MethodName) prog_64_method_5_code (2 : Nat) (Option.some Jvm.ClassFile.FieldType.int)]
set_option maxRecDepth 65536 in
theorem codes_eq : words1.filter isCode = codes1 := rfl
theorem w_codes : ∀ c ∈ words1.filter isCode, c.before args0 about1 = true := by
  rw [codes_eq]
  intro c hc
  simp only [codes1, List.mem_cons, List.not_mem_nil, or_false] at hc
  rcases hc with rfl | rfl | rfl | rfl | rfl | rfl | rfl | rfl | rfl | rfl | rfl | rfl | rfl | rfl | rfl | rfl | rfl | rfl
  · exact w_c0
  · exact w_c1
  · exact w_c2
  · exact w_c3
  · exact w_c4
  · exact w_c5
  · exact w_c6
  · exact w_c7
  · exact w_c8
  · exact w_c9
  · exact w_c10
  · exact w_c11
  · exact w_c12
  · exact w_c13
  · exact w_c14
  · exact w_c15
  · exact w_c16
  · exact w_c17
set_option maxRecDepth 65536 in
theorem w_t1 : (words1.take 24).all (fun c => isCode c || c.before args0 about1) = true := by decide +kernel
set_option maxRecDepth 65536 in
theorem w_t2 : ((words1.drop 24).take 24).all (fun c => isCode c || c.before args0 about1) = true := by decide +kernel
set_option maxRecDepth 65536 in
theorem w_t3 : (((words1.drop 24).drop 24).take 24).all (fun c => isCode c || c.before args0 about1) = true := by decide +kernel
set_option maxRecDepth 65536 in
theorem w_t4 : ((((words1.drop 24).drop 24).drop 24).take 24).all (fun c => isCode c || c.before args0 about1) = true := by decide +kernel
set_option maxRecDepth 65536 in
theorem w_t5 : (((((words1.drop 24).drop 24).drop 24).drop 24).take 24).all (fun c => isCode c || c.before args0 about1) = true := by decide +kernel
set_option maxRecDepth 65536 in
theorem w_t6 : (((((words1.drop 24).drop 24).drop 24).drop 24).drop 24).all (fun c => isCode c || c.before args0 about1) = true := by decide +kernel
theorem w_tables : (allAtoms (Jvm.Cond.code x code maxLocals ret :: tables_1)).before args0 about1 = true := by
  rw [allAtoms_all]
  show words1.all (fun c => c.before args0 about1) = true
  refine all_split ?_ w_codes
  rw [← List.take_append_drop 24 words1, List.all_append, w_t1, ← List.take_append_drop 24 (words1.drop 24), List.all_append, w_t2, ← List.take_append_drop 24 ((words1.drop 24).drop 24), List.all_append, w_t3, ← List.take_append_drop 24 (((words1.drop 24).drop 24).drop 24), List.all_append, w_t4, ← List.take_append_drop 24 ((((words1.drop 24).drop 24).drop 24).drop 24), List.all_append, w_t5, w_t6]
  rfl
set_option maxRecDepth 65536 in
theorem w_rest : rest_1_c.before args0 about1 = true := by decide +kernel
set_option maxRecDepth 65536 in
theorem w_case : (Jvm.Cond.and given_1 narrow_1).before args0 about1 = true := by decide +kernel
set_option maxRecDepth 65536 in
theorem w_consts : constsHeld consts_1 about1 := Jvm.Lit.constsHeldB_iff.mp (by decide +kernel)
theorem w_applies : (headSpec (Jvm.Cond.code x code maxLocals ret :: tables_1) room_1).applies x e0.platform about1 = true :=
  (Spec.applies_iff w_frames).mpr ⟨w_running, w_runnable, w_alone, w_named, w_hears, w_ripe, w_room, w_tables⟩
theorem atStart : AtStart classFile x code maxLocals ret World_1 tables_1 room_1 Calls_1 rest_1 Pre_1 launch0 p0 e0 about1 theMethod args0 below0 :=
  ⟨lists_1, trivial, launch0.admits_env _ _ _, launch0.least_env, fairChoices_fair.cas, fairChoices_fair.clock, w_frames, w_args, w_heap, w_applies, ⟨w_consts, trivial⟩, w_rest, w_case⟩
end start1
theorem witness_1 : WitnessClaimed_1 := ⟨start1.p0, start1.e0, start1.about1, start1.theMethod, start1.args0, start1.below0, start1.atStart⟩
end Jvm.Pilot.@@N@@
