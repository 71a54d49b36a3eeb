import JvmDerived
import JvmDerived.Pilot.@@N@@Statement
import JvmDerived.Pilot.@@N@@Code
set_option linter.unusedVariables false
set_option linter.unusedSimpArgs false
@@BLOCK:NumsL.lean.txt@@
namespace Jvm.Pilot.@@N@@
open Jvm Jvm.ClassFile Sem Op Lib Jvm.Free Jvm.Stand Jvm.LawKit Jvm.RoadKit Bundle Jvm.Pilot.@@N@@.Jvm.D
/-! ## mm: a small machine over relative addresses, whose runs are walks of the model (lawnew's family of laws throughout) -/
def mmUp (n0 : Nat) : Value → Value
  | .ref a => .ref (n0 + a)
  | v => v
def mmUpS (n0 : Nat) : Slot → Slot
  | .val v => .val (mmUp n0 v)
  | x => x
abbrev mmUL (n0 : Nat) (L : List Slot) : Array Slot := (L.map (mmUpS n0)).toArray
abbrev mmUV (n0 : Nat) (S : List Value) : List Value := S.map (mmUp n0)
theorem mmUp_cat (n0 : Nat) (v : Value) : (mmUp n0 v).category = v.category := by cases v <;> rfl
theorem mmUp_isRef (n0 : Nat) (v : Value) : (mmUp n0 v).isRef = v.isRef := by cases v <;> rfl
/-- an object: its class's number and its fields' values; or an array: its kind and its values -/
abbrev MObj := (Nat × List Value) ⊕ (FieldType × List Value)
abbrev MHeap := List MObj
abbrev MFld := String × String × String × FieldType
abbrev MCls := String × Nat × List MFld
def mmNth {α : Type} : List α → Nat → Option α
  | [], _ => none
  | a :: _, 0 => some a
  | _ :: r, n + 1 => mmNth r n
theorem mmNth_eq {α : Type} : ∀ (l : List α) (n : Nat), mmNth l n = l[n]?
  | [], _ => by simp [mmNth]
  | a :: _, 0 => by simp [mmNth]
  | _ :: r, n + 1 => by simp [mmNth, mmNth_eq r n]
def mmSetAt (l : List Slot) (i : Nat) (x : Slot) : Option (List Slot) := if i < l.length then some (l.set i x) else none
def mmSelf (l : List Slot) (i : Nat) (v : Value) : Option (List Slot) :=
  match mmSetAt l i (.val v) with
  | none => none
  | some l1 =>
    if v.category = 2 then
      match mmNth l1 (i + 1) with
      | none => none
      | some (.val old) => if old.category = 2 then (match mmSetAt l1 (i + 2) .unset with | none => none | some l2 => mmSetAt l2 (i + 1) .second) else mmSetAt l1 (i + 1) .second
      | some _ => mmSetAt l1 (i + 1) .second
    else some l1
def mmStore (l : List Slot) (i : Nat) (v : Value) : Option (List Slot) :=
  match mmNth l i with
  | none => none
  | some .second => (match mmSetAt l (i - 1) .unset with | none => none | some l1 => mmSelf l1 i v)
  | some (.val old) => if old.category = 2 then (match mmSetAt l (i + 1) .unset with | none => none | some l1 => mmSelf l1 i v) else mmSelf l i v
  | some .unset => mmSelf l i v
theorem mmSetAt_ok {n0 : Nat} {l l' : List Slot} {i : Nat} {x : Slot} (h : mmSetAt l i x = some l') : setAt (mmUL n0 l) i (mmUpS n0 x) = some (mmUL n0 l') := by
  unfold mmSetAt at h
  split at h
  · cases h; rename_i h
    simp [setAt, h, mmUL, List.map_set]
  · cases h
theorem mmNth_up {n0 : Nat} {l : List Slot} {i : Nat} {x : Slot} (h : mmNth l i = some x) : (mmUL n0 l)[i]? = some (mmUpS n0 x) := by
  rw [mmNth_eq] at h
  simp [mmUL, h]
theorem mmSelf_ok {n0 : Nat} {l l' : List Slot} {i : Nat} {v : Value} (h : mmSelf l i v = some l') : storeSelf (mmUL n0 l) i (mmUp n0 v) = some (mmUL n0 l') := by
  unfold mmSelf at h
  split at h
  · cases h
  rename_i l1 h1
  have e1 : setAt (mmUL n0 l) i (.val (mmUp n0 v)) = some (mmUL n0 l1) := mmSetAt_ok (x := .val v) h1
  unfold storeSelf
  simp only [e1, Option.bind_eq_bind, Option.bind_some, mmUp_cat]
  split at h
  · rename_i hc
    rw [if_pos hc]
    split at h
    · cases h
    · rename_i old hn
      have e2 : (mmUL n0 l1)[i + 1]? = some (.val (mmUp n0 old)) := mmNth_up (x := .val old) hn
      rw [e2]; simp only [Option.bind_some, mmUp_cat]
      split at h
      · rename_i ho
        rw [if_pos ho]
        split at h
        · cases h
        · rename_i l2 h2
          have e3 : setAt (mmUL n0 l1) (i + 2) .unset = some (mmUL n0 l2) := mmSetAt_ok (x := .unset) h2
          rw [e3]; exact mmSetAt_ok (x := .second) h
      · rename_i ho
        rw [if_neg ho]; exact mmSetAt_ok (x := .second) h
    · rename_i y hy hn
      have e2 := mmNth_up (n0 := n0) hn
      rw [e2]; simp only [Option.bind_some]
      cases y with
      | val w => exact absurd rfl (hy w)
      | unset => exact mmSetAt_ok (x := .second) h
      | second => exact mmSetAt_ok (x := .second) h
  · rename_i hc
    rw [if_neg hc]; cases h; rfl
theorem mmStore_ok {n0 : Nat} {l l' : List Slot} {i : Nat} {v : Value} (h : mmStore l i v = some l') : storeLocals (mmUL n0 l) i (mmUp n0 v) = some (mmUL n0 l') := by
  unfold mmStore at h
  unfold storeLocals
  split at h
  · cases h
  · rename_i hn
    rw [mmNth_up (n0 := n0) hn]
    split at h
    · cases h
    · rename_i l1 h1
      have e1 : setAt (mmUL n0 l) (i - 1) .unset = some (mmUL n0 l1) := mmSetAt_ok (x := .unset) h1
      simp only [Option.bind_eq_bind, Option.bind_some, mmUpS, e1]
      exact mmSelf_ok h
  · rename_i old hn
    rw [mmNth_up (n0 := n0) hn]
    simp only [Option.bind_eq_bind, Option.bind_some, mmUpS, mmUp_cat]
    split at h
    · rename_i ho
      rw [if_pos ho]
      split at h
      · cases h
      · rename_i l1 h1
        have e1 : setAt (mmUL n0 l) (i + 1) .unset = some (mmUL n0 l1) := mmSetAt_ok (x := .unset) h1
        simp only [e1, Option.bind_some]
        exact mmSelf_ok h
    · rename_i ho
      rw [if_neg ho]; exact mmSelf_ok h
  · rename_i hn
    rw [mmNth_up (n0 := n0) hn]
    simp only [Option.bind_eq_bind, Option.bind_some, mmUpS]
    exact mmSelf_ok h
theorem mmStore_len {l l' : List Slot} {i : Nat} {v : Value} (h : mmStore l i v = some l') : l'.length = l.length := by
  have hs : ∀ {l l' : List Slot} {i : Nat} {x : Slot}, mmSetAt l i x = some l' → l'.length = l.length := fun {l l' i x} h => by
    unfold mmSetAt at h; split at h <;> cases h; simp
  have hf : ∀ {l l' : List Slot} {i : Nat} {v : Value}, mmSelf l i v = some l' → l'.length = l.length := fun {l l' i v} h => by
    unfold mmSelf at h
    split at h
    · cases h
    rename_i l1 h1
    split at h
    · split at h
      · cases h
      · split at h
        · split at h
          · cases h
          · rename_i l2 h2; exact (hs h).trans ((hs h2).trans (hs h1))
        · exact (hs h).trans (hs h1)
      · exact (hs h).trans (hs h1)
    · cases h; exact hs h1
  unfold mmStore at h
  split at h
  · cases h
  · split at h
    · cases h
    · rename_i l1 h1; exact (hf h).trans (hs h1)
  · split at h
    · split at h
      · cases h
      · rename_i l1 h1; exact (hf h).trans (hs h1)
    · exact hf h
  · exact hf h
/-! ### the instructions that touch neither the heap nor the tables -/
abbrev MPt := Nat × List Slot × List Value
def mmLen : Instr → Nat
  | .iload _ | .aload _ | .lload _ | .istore _ | .astore _ | .lstore _ | .bipush _ | .ldc _ | .newarray _ => 2
  | .sipush _ | .iinc _ _ | .ifCond _ _ | .if_icmp _ _ | .if_acmp _ _ | .goto _ | .getfield _ | .putfield _ | .invokestatic _ | .invokespecial _ | .invokevirtual _ | .new _ | .ldc2_w _ | .ldc_w _ | .getstatic _ | .ifnull _ | .ifnonnull _ | .anewarray _ => 3
  | .invokeinterface _ _ => 5
  | _ => 1
def mmLdI (d k pc : Nat) (L : List Slot) (S : List Value) : Option MPt := match mmNth L k with | some (.val (.int x)) => some (pc + d, L, .int x :: S) | _ => none
def mmLdJ (d k pc : Nat) (L : List Slot) (S : List Value) : Option MPt := match mmNth L k with | some (.val (.long x)) => some (pc + d, L, .long x :: S) | _ => none
def mmLdA (d k pc : Nat) (L : List Slot) (S : List Value) : Option MPt := match mmNth L k with | some (.val (.ref x)) => some (pc + d, L, .ref x :: S) | some (.val .null) => some (pc + d, L, .null :: S) | _ => none
def mmStI (d k pc : Nat) (L : List Slot) (S : List Value) : Option MPt := match S with | .int x :: r => (match mmStore L k (.int x) with | some L' => some (pc + d, L', r) | none => none) | _ => none
def mmStJ (d k pc : Nat) (L : List Slot) (S : List Value) : Option MPt := match S with | .long x :: r => (match mmStore L k (.long x) with | some L' => some (pc + d, L', r) | none => none) | _ => none
def mmStA (d k pc : Nat) (L : List Slot) (S : List Value) : Option MPt := match S with | .ref x :: r => (match mmStore L k (.ref x) with | some L' => some (pc + d, L', r) | none => none) | .null :: r => (match mmStore L k .null with | some L' => some (pc + d, L', r) | none => none) | _ => none
def mmII (f : Int32 → Int32 → Int32) (pc : Nat) (L : List Slot) (S : List Value) : Option MPt := match S with | .int y :: .int x :: r => some (pc + 1, L, .int (f x y) :: r) | _ => none
def mmIIz (f : Int32 → Int32 → Int32) (pc : Nat) (L : List Slot) (S : List Value) : Option MPt := match S with | .int y :: .int x :: r => if y = 0 then none else some (pc + 1, L, .int (f x y) :: r) | _ => none
def mmJJ (f : Int64 → Int64 → Int64) (pc : Nat) (L : List Slot) (S : List Value) : Option MPt := match S with | .long y :: .long x :: r => some (pc + 1, L, .long (f x y) :: r) | _ => none
def mmJJz (f : Int64 → Int64 → Int64) (pc : Nat) (L : List Slot) (S : List Value) : Option MPt := match S with | .long y :: .long x :: r => if y = 0 then none else some (pc + 1, L, .long (f x y) :: r) | _ => none
def mmJI (f : Int64 → Int32 → Int64) (pc : Nat) (L : List Slot) (S : List Value) : Option MPt := match S with | .int y :: .long x :: r => some (pc + 1, L, .long (f x y) :: r) | _ => none
def mmI (f : Int32 → Value) (pc : Nat) (L : List Slot) (S : List Value) : Option MPt := match S with | .int x :: r => some (pc + 1, L, f x :: r) | _ => none
def mmJ (f : Int64 → Value) (pc : Nat) (L : List Slot) (S : List Value) : Option MPt := match S with | .long x :: r => some (pc + 1, L, f x :: r) | _ => none
def mmTo (pc : Nat) (o : Int) : Nat := ((pc : Int) + o).toNat
def mmOk (pc : Nat) (o : Int) : Bool := decide (0 ≤ (pc : Int) + o)
def mmPure (i : Instr) (pc : Nat) (L : List Slot) (S : List Value) : Option MPt :=
  match i with
  | .iload_n k => mmLdI 1 k.val pc L S
  | .iload k => mmLdI 2 k pc L S
  | .lload_n k => mmLdJ 1 k.val pc L S
  | .lload k => mmLdJ 2 k pc L S
  | .aload_n k => mmLdA 1 k.val pc L S
  | .aload k => mmLdA 2 k pc L S
  | .istore_n k => mmStI 1 k.val pc L S
  | .istore k => mmStI 2 k pc L S
  | .lstore_n k => mmStJ 1 k.val pc L S
  | .lstore k => mmStJ 2 k pc L S
  | .astore_n k => mmStA 1 k.val pc L S
  | .astore k => mmStA 2 k pc L S
  | .iconst n => some (pc + 1, L, .int (Int32.ofInt n) :: S)
  | .bipush n => some (pc + 2, L, .int (Int8.ofInt n).toInt32 :: S)
  | .sipush n => some (pc + 3, L, .int (Int16.ofInt n).toInt32 :: S)
  | .lconst k => some (pc + 1, L, .long (Int64.ofNat k) :: S)
  | .iadd => mmII (fun x y => x + y) pc L S
  | .isub => mmII (fun x y => x - y) pc L S
  | .imul => mmII (fun x y => x * y) pc L S
  | .idiv => mmIIz (fun x y => x / y) pc L S
  | .irem => mmIIz (fun x y => x % y) pc L S
  | .iand => mmII (fun x y => x &&& y) pc L S
  | .ior => mmII (fun x y => x ||| y) pc L S
  | .ixor => mmII (fun x y => x ^^^ y) pc L S
  | .ishl => mmII (fun x y => x <<< (y &&& 31)) pc L S
  | .ishr => mmII (fun x y => x >>> (y &&& 31)) pc L S
  | .iushr => mmII XT.ushr pc L S
  | .ineg => mmI (fun x => .int (-x)) pc L S
  | .ladd => mmJJ (fun x y => x + y) pc L S
  | .lsub => mmJJ (fun x y => x - y) pc L S
  | .lmul => mmJJ (fun x y => x * y) pc L S
  | .ldiv => mmJJz (fun x y => x / y) pc L S
  | .lrem => mmJJz (fun x y => x % y) pc L S
  | .land => mmJJ (fun x y => x &&& y) pc L S
  | .lor => mmJJ (fun x y => x ||| y) pc L S
  | .lxor => mmJJ (fun x y => x ^^^ y) pc L S
  | .lshl => mmJI (fun x y => x <<< (y.toInt64 &&& 63)) pc L S
  | .lshr => mmJI (fun x y => x >>> (y.toInt64 &&& 63)) pc L S
  | .lushr => mmJI XT.ushrL pc L S
  | .i2l => mmI (fun x => .long x.toInt64) pc L S
  | .l2i => mmJ (fun x => .int x.toInt32) pc L S
  | .i2b => mmI (fun x => .int x.toInt8.toInt32) pc L S
  | .i2c => mmI (fun x => .int x.toUInt32.toUInt16.toUInt32.toInt32) pc L S
  | .i2s => mmI (fun x => .int x.toInt16.toInt32) pc L S
  | .lcmp => (match S with | .long y :: .long x :: r => some (pc + 1, L, .int (XT.cmpL x y) :: r) | _ => none)
  | .iinc k n => (match mmNth L k with | some (.val (.int x)) => (match mmStore L k (.int (x + Int32.ofInt n)) with | some L' => some (pc + 3, L', S) | none => none) | _ => none)
  | .goto o => if mmOk pc o = true then some (mmTo pc o, L, S) else none
  | .ifCond cd o => (match S with | .int x :: r => if mmOk pc o = true then some (if ifCond.holds cd x = true then mmTo pc o else pc + 3, L, r) else none | _ => none)
  | .if_icmp cd o => (match S with | .int y :: .int x :: r => if mmOk pc o = true then some (if if_icmp.holds cd x y = true then mmTo pc o else pc + 3, L, r) else none | _ => none)
  | .if_acmp cd o => (match S with | .ref y :: .ref x :: r => if mmOk pc o = true then some (if XT.acmp cd (.ref x) (.ref y) = true then mmTo pc o else pc + 3, L, r) else none | _ => none)
  | .dup => (match S with | x :: r => if x.category = 1 then some (pc + 1, L, x :: x :: r) else none | _ => none)
  | .dup_x1 => (match S with | x :: y :: r => if x.category = 1 ∧ y.category = 1 then some (pc + 1, L, x :: y :: x :: r) else none | _ => none)
  | .dup2 => (match S with | .long x :: r => some (pc + 1, L, .long x :: .long x :: r) | x :: y :: r => if x.category = 1 ∧ y.category = 1 then some (pc + 1, L, x :: y :: x :: y :: r) else none | _ => none)
  | .pop => (match S with | x :: r => if x.category = 1 then some (pc + 1, L, r) else none | _ => none)
  | .pop2 => (match S with | .long _ :: r => some (pc + 1, L, r) | _ => none)
  | _ => none

section MMInv
variable {pc pc' : Nat} {L L' : List Slot} {S S' : List Value}
theorem mmLdI_inv {d k : Nat} (h : mmLdI d k pc L S = some (pc', L', S')) : ∃ x, mmNth L k = some (.val (.int x)) ∧ pc' = pc + d ∧ L' = L ∧ S' = .int x :: S := by
  unfold mmLdI at h
  split at h
  · rename_i x hx; cases h; exact ⟨x, hx, rfl, rfl, rfl⟩
  · cases h
theorem mmLdJ_inv {d k : Nat} (h : mmLdJ d k pc L S = some (pc', L', S')) : ∃ x, mmNth L k = some (.val (.long x)) ∧ pc' = pc + d ∧ L' = L ∧ S' = .long x :: S := by
  unfold mmLdJ at h
  split at h
  · rename_i x hx; cases h; exact ⟨x, hx, rfl, rfl, rfl⟩
  · cases h
theorem mmLdA_inv {d k : Nat} (h : mmLdA d k pc L S = some (pc', L', S')) : ∃ v : Value, v.isRef = true ∧ mmNth L k = some (.val v) ∧ pc' = pc + d ∧ L' = L ∧ S' = v :: S := by
  unfold mmLdA at h
  split at h
  · rename_i x hx; cases h; exact ⟨_, rfl, hx, rfl, rfl, rfl⟩
  · rename_i hx; cases h; exact ⟨_, rfl, hx, rfl, rfl, rfl⟩
  · cases h
theorem mmStI_inv {d k : Nat} (h : mmStI d k pc L S = some (pc', L', S')) : ∃ x, S = .int x :: S' ∧ mmStore L k (.int x) = some L' ∧ pc' = pc + d := by
  unfold mmStI at h
  split at h
  · split at h
    · rename_i hs; cases h; exact ⟨_, rfl, hs, rfl⟩
    · cases h
  · cases h
theorem mmStJ_inv {d k : Nat} (h : mmStJ d k pc L S = some (pc', L', S')) : ∃ x, S = .long x :: S' ∧ mmStore L k (.long x) = some L' ∧ pc' = pc + d := by
  unfold mmStJ at h
  split at h
  · split at h
    · rename_i hs; cases h; exact ⟨_, rfl, hs, rfl⟩
    · cases h
  · cases h
theorem mmStA_inv {d k : Nat} (h : mmStA d k pc L S = some (pc', L', S')) : ∃ v : Value, v.isRef = true ∧ S = v :: S' ∧ mmStore L k v = some L' ∧ pc' = pc + d := by
  unfold mmStA at h
  split at h
  · split at h
    · rename_i x r L1 hs; cases h; exact ⟨_, rfl, rfl, hs, rfl⟩
    · cases h
  · split at h
    · rename_i r L1 hs; cases h; exact ⟨_, rfl, rfl, hs, rfl⟩
    · cases h
  · cases h
theorem mmII_inv {f : Int32 → Int32 → Int32} (h : mmII f pc L S = some (pc', L', S')) : ∃ x y r, S = .int y :: .int x :: r ∧ pc' = pc + 1 ∧ L' = L ∧ S' = .int (f x y) :: r := by
  unfold mmII at h
  split at h
  · cases h; exact ⟨_, _, _, rfl, rfl, rfl, rfl⟩
  · cases h
theorem mmIIz_inv {f : Int32 → Int32 → Int32} (h : mmIIz f pc L S = some (pc', L', S')) : ∃ x y r, S = .int y :: .int x :: r ∧ y ≠ 0 ∧ pc' = pc + 1 ∧ L' = L ∧ S' = .int (f x y) :: r := by
  unfold mmIIz at h
  split at h
  · split at h
    · cases h
    · rename_i hy; cases h; exact ⟨_, _, _, rfl, hy, rfl, rfl, rfl⟩
  · cases h
theorem mmJJ_inv {f : Int64 → Int64 → Int64} (h : mmJJ f pc L S = some (pc', L', S')) : ∃ x y r, S = .long y :: .long x :: r ∧ pc' = pc + 1 ∧ L' = L ∧ S' = .long (f x y) :: r := by
  unfold mmJJ at h
  split at h
  · cases h; exact ⟨_, _, _, rfl, rfl, rfl, rfl⟩
  · cases h
theorem mmJJz_inv {f : Int64 → Int64 → Int64} (h : mmJJz f pc L S = some (pc', L', S')) : ∃ x y r, S = .long y :: .long x :: r ∧ y ≠ 0 ∧ pc' = pc + 1 ∧ L' = L ∧ S' = .long (f x y) :: r := by
  unfold mmJJz at h
  split at h
  · split at h
    · cases h
    · rename_i hy; cases h; exact ⟨_, _, _, rfl, hy, rfl, rfl, rfl⟩
  · cases h
theorem mmJI_inv {f : Int64 → Int32 → Int64} (h : mmJI f pc L S = some (pc', L', S')) : ∃ x y r, S = .int y :: .long x :: r ∧ pc' = pc + 1 ∧ L' = L ∧ S' = .long (f x y) :: r := by
  unfold mmJI at h
  split at h
  · cases h; exact ⟨_, _, _, rfl, rfl, rfl, rfl⟩
  · cases h
theorem mmI_inv {f : Int32 → Value} (h : mmI f pc L S = some (pc', L', S')) : ∃ x r, S = .int x :: r ∧ pc' = pc + 1 ∧ L' = L ∧ S' = f x :: r := by
  unfold mmI at h
  split at h
  · cases h; exact ⟨_, _, rfl, rfl, rfl, rfl⟩
  · cases h
theorem mmJ_inv {f : Int64 → Value} (h : mmJ f pc L S = some (pc', L', S')) : ∃ x r, S = .long x :: r ∧ pc' = pc + 1 ∧ L' = L ∧ S' = f x :: r := by
  unfold mmJ at h
  split at h
  · cases h; exact ⟨_, _, rfl, rfl, rfl, rfl⟩
  · cases h
theorem mmLdI_len {d k : Nat} (h : mmLdI d k pc L S = some (pc', L', S')) : L'.length = L.length := by obtain ⟨_, _, _, rfl, _⟩ := mmLdI_inv h; rfl
theorem mmLdJ_len {d k : Nat} (h : mmLdJ d k pc L S = some (pc', L', S')) : L'.length = L.length := by obtain ⟨_, _, _, rfl, _⟩ := mmLdJ_inv h; rfl
theorem mmLdA_len {d k : Nat} (h : mmLdA d k pc L S = some (pc', L', S')) : L'.length = L.length := by obtain ⟨_, _, _, _, rfl, _⟩ := mmLdA_inv h; rfl
theorem mmStI_len {d k : Nat} (h : mmStI d k pc L S = some (pc', L', S')) : L'.length = L.length := by obtain ⟨_, _, hs, _⟩ := mmStI_inv h; exact mmStore_len hs
theorem mmStJ_len {d k : Nat} (h : mmStJ d k pc L S = some (pc', L', S')) : L'.length = L.length := by obtain ⟨_, _, hs, _⟩ := mmStJ_inv h; exact mmStore_len hs
theorem mmStA_len {d k : Nat} (h : mmStA d k pc L S = some (pc', L', S')) : L'.length = L.length := by obtain ⟨_, _, _, hs, _⟩ := mmStA_inv h; exact mmStore_len hs
theorem mmII_len {f : Int32 → Int32 → Int32} (h : mmII f pc L S = some (pc', L', S')) : L'.length = L.length := by obtain ⟨_, _, _, _, _, rfl, _⟩ := mmII_inv h; rfl
theorem mmIIz_len {f : Int32 → Int32 → Int32} (h : mmIIz f pc L S = some (pc', L', S')) : L'.length = L.length := by obtain ⟨_, _, _, _, _, _, rfl, _⟩ := mmIIz_inv h; rfl
theorem mmJJ_len {f : Int64 → Int64 → Int64} (h : mmJJ f pc L S = some (pc', L', S')) : L'.length = L.length := by obtain ⟨_, _, _, _, _, rfl, _⟩ := mmJJ_inv h; rfl
theorem mmJJz_len {f : Int64 → Int64 → Int64} (h : mmJJz f pc L S = some (pc', L', S')) : L'.length = L.length := by obtain ⟨_, _, _, _, _, _, rfl, _⟩ := mmJJz_inv h; rfl
theorem mmJI_len {f : Int64 → Int32 → Int64} (h : mmJI f pc L S = some (pc', L', S')) : L'.length = L.length := by obtain ⟨_, _, _, _, _, rfl, _⟩ := mmJI_inv h; rfl
theorem mmI_len {f : Int32 → Value} (h : mmI f pc L S = some (pc', L', S')) : L'.length = L.length := by obtain ⟨_, _, _, _, rfl, _⟩ := mmI_inv h; rfl
theorem mmJ_len {f : Int64 → Value} (h : mmJ f pc L S = some (pc', L', S')) : L'.length = L.length := by obtain ⟨_, _, _, _, rfl, _⟩ := mmJ_inv h; rfl
end MMInv

theorem mmLrem (x y : Int64) : x - (x / y) * y = x % y := by
  apply Int64.toInt_inj.mp
  have h1 := Int64.le_toInt (x % y)
  have h2 := Int64.toInt_lt (x % y)
  rw [Int64.toInt_sub, Int64.toInt_mul, Int64.toInt_div, Int.bmod_mul_bmod, Int.sub_bmod_bmod, Int.mul_comm (x.toInt.tdiv y.toInt), ← Int.tmod_def, ← Int64.toInt_mod]
  exact Int.bmod_eq_of_le_mul_two (by omega) (by omega)
theorem mmAcmp (n0 x y : Nat) (cd : ClassFile.ACond) : XT.acmp cd (.ref (n0 + x)) (.ref (n0 + y)) = XT.acmp cd (.ref x) (.ref y) := by
  cases cd <;> simp [XT.acmp]
section MMPure
variable {tb : Tables} [Ours tb] {e : Env} {below : List Frame} {T target : State} {m : MethodId} {c : Code} {pc pc' n0 : Nat} {L L' : List Slot} {S S' : List Value}
theorem mmPop2L {g : JFrame} (h : At T m c below) (hx : tb.exec = Jvm.exec) (hg : g.method = m) {x : Int64} {rest : List Value} (hd : decode c.code g.pc = .ok (.pop2, 1)) (hs : g.stack = .long x :: rest)
    (hr : Steps tb e below (T.setTop { g with pc := g.pc + 1, stack := rest }) target) : Steps tb e below (T.setTop g) target := by
  subst hg
  jvm_step h [h.top, hx, hd, hs, Value.category]
  exact hr
theorem mmOk_le {o : Int} (h : mmOk pc o = true) : 0 ≤ (pc : Int) + o := of_decide_eq_true h
set_option maxHeartbeats 4000000 in
theorem mmPure_ok {i : Instr} (h : At T m c below) (hx : tb.exec = Jvm.exec) (hp : mmPure i pc L S = some (pc', L', S')) (hd : decode c.code pc = .ok (i, mmLen i))
    (hr : Steps tb e below (T.setTop (mkF m pc' (mmUL n0 L') (mmUV n0 S'))) target) : Steps tb e below (T.setTop (mkF m pc (mmUL n0 L) (mmUV n0 S))) target := by
  unfold mmPure at hp
  split at hp
  · obtain ⟨x, hn, rfl, rfl, rfl⟩ := mmLdI_inv hp; exact XS.iloadN h hx rfl hd (mmNth_up hn) hr
  · obtain ⟨x, hn, rfl, rfl, rfl⟩ := mmLdI_inv hp; exact XS.iload h hx rfl hd (mmNth_up hn) hr
  · obtain ⟨x, hn, rfl, rfl, rfl⟩ := mmLdJ_inv hp; exact XT.lloadN h hx rfl hd (mmNth_up hn) hr
  · obtain ⟨x, hn, rfl, rfl, rfl⟩ := mmLdJ_inv hp; exact XT.lload h hx rfl hd (mmNth_up hn) hr
  · obtain ⟨v, hv, hn, rfl, rfl, rfl⟩ := mmLdA_inv hp; exact XS.aloadN h hx rfl hd (mmNth_up hn) ((mmUp_isRef n0 v).trans hv) hr
  · obtain ⟨v, hv, hn, rfl, rfl, rfl⟩ := mmLdA_inv hp; exact XS.aload h hx rfl hd (mmNth_up hn) ((mmUp_isRef n0 v).trans hv) hr
  · obtain ⟨x, rfl, hs, rfl⟩ := mmStI_inv hp; exact XS.istoreN h hx rfl hd rfl (mmStore_ok (v := .int x) hs) hr
  · obtain ⟨x, rfl, hs, rfl⟩ := mmStI_inv hp; exact XS.istore h hx rfl hd rfl (mmStore_ok (v := .int x) hs) hr
  · obtain ⟨x, rfl, hs, rfl⟩ := mmStJ_inv hp; exact XT.lstoreN h hx rfl hd rfl (mmStore_ok (v := .long x) hs) hr
  · obtain ⟨x, rfl, hs, rfl⟩ := mmStJ_inv hp; exact XT.lstore h hx rfl hd rfl (mmStore_ok (v := .long x) hs) hr
  · obtain ⟨v, hv, rfl, hs, rfl⟩ := mmStA_inv hp; exact XS.astoreN h hx rfl hd rfl ((mmUp_isRef n0 v).trans hv) (mmStore_ok hs) hr
  · obtain ⟨v, hv, rfl, hs, rfl⟩ := mmStA_inv hp; exact XS.astore h hx rfl hd rfl ((mmUp_isRef n0 v).trans hv) (mmStore_ok hs) hr
  · cases hp; exact XS.iconst h hx rfl hd hr
  · cases hp; exact XS.bipush h hx rfl hd hr
  · cases hp; exact XS.sipush h hx rfl hd hr
  · cases hp; exact XT.lconst h hx rfl hd hr
  · obtain ⟨x, y, r, rfl, rfl, rfl, rfl⟩ := mmII_inv hp; exact XS.iadd h hx rfl hd rfl hr
  · obtain ⟨x, y, r, rfl, rfl, rfl, rfl⟩ := mmII_inv hp; exact XS.isub h hx rfl hd rfl hr
  · obtain ⟨x, y, r, rfl, rfl, rfl, rfl⟩ := mmII_inv hp; exact XS.imul h hx rfl hd rfl hr
  · obtain ⟨x, y, r, rfl, hy, rfl, rfl, rfl⟩ := mmIIz_inv hp; exact XS.idiv h hx rfl hd rfl hy hr
  · obtain ⟨x, y, r, rfl, hy, rfl, rfl, rfl⟩ := mmIIz_inv hp; exact XS.irem h hx rfl hd rfl hy (by rw [irem_eq_mod]; exact hr)
  · obtain ⟨x, y, r, rfl, rfl, rfl, rfl⟩ := mmII_inv hp; exact XS.iand h hx rfl hd rfl hr
  · obtain ⟨x, y, r, rfl, rfl, rfl, rfl⟩ := mmII_inv hp; exact XT.ior h hx rfl hd rfl hr
  · obtain ⟨x, y, r, rfl, rfl, rfl, rfl⟩ := mmII_inv hp; exact XT.ixor h hx rfl hd rfl hr
  · obtain ⟨x, y, r, rfl, rfl, rfl, rfl⟩ := mmII_inv hp; exact XT.ishl h hx rfl hd rfl hr
  · obtain ⟨x, y, r, rfl, rfl, rfl, rfl⟩ := mmII_inv hp; exact XT.ishr h hx rfl hd rfl hr
  · obtain ⟨x, y, r, rfl, rfl, rfl, rfl⟩ := mmII_inv hp; exact XT.iushr h hx rfl hd rfl hr
  · obtain ⟨x, r, rfl, rfl, rfl, rfl⟩ := mmI_inv hp; exact XS.ineg h hx rfl hd rfl hr
  · obtain ⟨x, y, r, rfl, rfl, rfl, rfl⟩ := mmJJ_inv hp; exact XT.ladd h hx rfl hd rfl hr
  · obtain ⟨x, y, r, rfl, rfl, rfl, rfl⟩ := mmJJ_inv hp; exact XT.lsub h hx rfl hd rfl hr
  · obtain ⟨x, y, r, rfl, rfl, rfl, rfl⟩ := mmJJ_inv hp; exact XT.lmul h hx rfl hd rfl hr
  · obtain ⟨x, y, r, rfl, hy, rfl, rfl, rfl⟩ := mmJJz_inv hp; exact XT.ldiv h hx rfl hd rfl hy hr
  · obtain ⟨x, y, r, rfl, hy, rfl, rfl, rfl⟩ := mmJJz_inv hp; exact XT.lrem h hx rfl hd rfl hy (by rw [mmLrem]; exact hr)
  · obtain ⟨x, y, r, rfl, rfl, rfl, rfl⟩ := mmJJ_inv hp; exact XT.land h hx rfl hd rfl hr
  · obtain ⟨x, y, r, rfl, rfl, rfl, rfl⟩ := mmJJ_inv hp; exact XT.lor h hx rfl hd rfl hr
  · obtain ⟨x, y, r, rfl, rfl, rfl, rfl⟩ := mmJJ_inv hp; exact XT.lxor h hx rfl hd rfl hr
  · obtain ⟨x, y, r, rfl, rfl, rfl, rfl⟩ := mmJI_inv hp; exact XT.lshl h hx rfl hd rfl hr
  · obtain ⟨x, y, r, rfl, rfl, rfl, rfl⟩ := mmJI_inv hp; exact XT.lshr h hx rfl hd rfl hr
  · obtain ⟨x, y, r, rfl, rfl, rfl, rfl⟩ := mmJI_inv hp; exact XT.lushr h hx rfl hd rfl hr
  · obtain ⟨x, r, rfl, rfl, rfl, rfl⟩ := mmI_inv hp; exact XT.i2l h hx rfl hd rfl hr
  · obtain ⟨x, r, rfl, rfl, rfl, rfl⟩ := mmJ_inv hp; exact XT.l2i h hx rfl hd rfl hr
  · obtain ⟨x, r, rfl, rfl, rfl, rfl⟩ := mmI_inv hp; exact XT.i2b h hx rfl hd rfl hr
  · obtain ⟨x, r, rfl, rfl, rfl, rfl⟩ := mmI_inv hp; exact XT.i2c h hx rfl hd rfl hr
  · obtain ⟨x, r, rfl, rfl, rfl, rfl⟩ := mmI_inv hp; exact XT.i2s h hx rfl hd rfl hr
  · split at hp
    · cases hp; exact XT.lcmp h hx rfl hd rfl hr
    · cases hp
  · split at hp
    · rename_i x hn
      split at hp
      · rename_i L1 hs; cases hp; exact XS.iinc h hx rfl hd (mmNth_up hn) (mmStore_ok (v := .int _) hs) hr
      · cases hp
    · cases hp
  · split at hp
    · rename_i ho; cases hp; exact XS.goto h hx rfl rfl hd (mmOk_le ho) rfl hr
    · cases hp
  · split at hp
    · split at hp
      · rename_i x r ho; cases hp
        split at hr
        · rename_i hc; exact XS.ifYes h hx rfl rfl hd rfl hc (mmOk_le ho) rfl hr
        · rename_i hc; exact XS.ifNo h hx rfl hd rfl (Bool.eq_false_iff.mpr hc) hr
      · cases hp
    · cases hp
  · split at hp
    · split at hp
      · rename_i y x r ho; cases hp
        split at hr
        · rename_i hc; exact XS.icmpYes h hx rfl rfl hd rfl hc (mmOk_le ho) rfl hr
        · rename_i hc; exact XS.icmpNo h hx rfl hd rfl (Bool.eq_false_iff.mpr hc) hr
      · cases hp
    · cases hp
  · split at hp
    · split at hp
      · rename_i y x r ho; cases hp
        split at hr
        · rename_i hc; exact XT.acmpYes h hx rfl rfl hd (x := .ref (n0 + x)) (y := .ref (n0 + y)) rfl rfl rfl ((mmAcmp n0 x y _).trans hc) (mmOk_le ho) rfl hr
        · rename_i hc; exact XT.acmpNo h hx rfl hd (x := .ref (n0 + x)) (y := .ref (n0 + y)) rfl rfl rfl ((mmAcmp n0 x y _).trans (Bool.eq_false_iff.mpr hc)) hr
      · cases hp
    · cases hp
  · split at hp
    · split at hp
      · rename_i x r hc; cases hp; exact XS.dup h hx rfl hd rfl ((mmUp_cat n0 x).trans hc) hr
      · cases hp
    · cases hp
  · split at hp
    · split at hp
      · rename_i x y r hc; cases hp; exact XT.dupX1 h hx rfl hd rfl ((mmUp_cat n0 x).trans hc.1) ((mmUp_cat n0 y).trans hc.2) hr
      · cases hp
    · cases hp
  · split at hp
    · cases hp; exact XT.dup2L h hx rfl hd rfl hr
    · split at hp
      · rename_i x y r _ hc; cases hp; exact XT.dup2 h hx rfl hd rfl ((mmUp_cat n0 x).trans hc.1) ((mmUp_cat n0 y).trans hc.2) hr
      · cases hp
    · cases hp
  · split at hp
    · split at hp
      · rename_i x r hc; cases hp; exact XT.pop h hx rfl hd rfl ((mmUp_cat n0 x).trans hc) hr
      · cases hp
    · cases hp
  · split at hp
    · cases hp; exact mmPop2L h hx rfl hd rfl hr
    · cases hp
  · cases hp
end MMPure
theorem mmPure_len {i : Instr} {pc pc' : Nat} {L L' : List Slot} {S S' : List Value} (hp : mmPure i pc L S = some (pc', L', S')) : L'.length = L.length := by
  unfold mmPure at hp
  split at hp
  all_goals first
    | exact mmLdI_len hp | exact mmLdJ_len hp | exact mmLdA_len hp | exact mmStI_len hp | exact mmStJ_len hp | exact mmStA_len hp
    | exact mmII_len hp | exact mmIIz_len hp | exact mmJJ_len hp | exact mmJJz_len hp | exact mmJI_len hp | exact mmI_len hp | exact mmJ_len hp
    | (cases hp; rfl)
    | skip
  · split at hp <;> cases hp; rfl
  · split at hp
    · split at hp
      · rename_i L1 hs; cases hp; exact mmStore_len hs
      · cases hp
    · cases hp
  all_goals (repeat' split at hp) <;> first | (cases hp; done) | (cases hp; rfl)

/-! ### the heap: what the small machine's heap says of the model's -/
def mmObjOk (CT : List MCls) (Z : State) (n0 : Nat) (h : Heap) (a : Addr) : MObj → Prop
  | .inl (k, vs) => ∃ (C : String) (n : Nat) (fs : List MFld), CT[k]? = some (C, n, fs) ∧ Exa Z h a C ∧ vs.length = fs.length ∧ ∀ (j : Nat) (O f d : String) (ty : FieldType) (v : Value), fs[j]? = some (O, f, d, ty) → vs[j]? = some v → Fld Z h a O f d (mmUp n0 v)
  | .inr (ty, vs) => ∃ c : Cell, Arr Z h a c ty ∧ c.slots = (mmUV n0 vs).toArray
def mmRel (CT : List MCls) (Z : State) (n0 : Nat) (h : Heap) (H : MHeap) : Prop := h.size = n0 + H.length ∧ ∀ (i : Nat) (o : MObj), H[i]? = some o → mmObjOk CT Z n0 h (n0 + i) o
def mmAll {α : Type} (P : α → Prop) : List α → Prop
  | [] => True
  | a :: r => P a ∧ mmAll P r
theorem mmAll_mem {α : Type} {P : α → Prop} : ∀ {l : List α}, mmAll P l → ∀ x ∈ l, P x
  | [], _, _, h => nomatch h
  | _ :: _, H, x, h => (List.mem_cons.mp h).elim (fun e => e ▸ H.1) (mmAll_mem H.2 x)
theorem mmAll_nth {α : Type} {P : α → Prop} {l : List α} (H : mmAll P l) {k : Nat} {x : α} (h : l[k]? = some x) : P x := mmAll_mem H x (List.mem_of_getElem? h)
def mmLook {α : Type} : List (Nat × α) → Nat → Option α
  | [], _ => none
  | (k, v) :: r, i => if i = k then some v else mmLook r i
theorem mmLook_mem {α : Type} : ∀ {l : List (Nat × α)} {i : Nat} {v : α}, mmLook l i = some v → (i, v) ∈ l
  | [], _, _, h => nomatch h
  | (k, w) :: r, i, v, h => by
    unfold mmLook at h
    split at h
    · rename_i e; cases h; subst e; exact List.mem_cons_self ..
    · exact List.mem_cons_of_mem _ (mmLook_mem h)
/-- of a class: its words, its fields' words, and that no two fields bear one name -/
def mmClsOk (Z : State) (a0 : Array Value) (q : MCls) : Prop :=
  (Cond.instantiable q.1 q.2.1).before a0 Z = true ∧ (Cond.initialized q.1).before a0 Z = true ∧ mmAll (fun f : MFld => Laid Z a0 q.1 f.1 f.2.1 f.2.2.1 ∧ parseFieldDescriptor f.2.2.1 = some f.2.2.2) q.2.2 ∧ (q.2.2.map (·.2.1)).Nodup
theorem mmUp_default (n0 : Nat) (ty : FieldType) : mmUp n0 (defaultValue ty) = defaultValue ty := by cases ty <;> rfl
section MMHeap
variable {CT : List MCls} {Z : State} {a0 : Array Value} {n0 : Nat} {h h' : Heap} {H H' : MHeap} {a b : Addr} {o : MObj} {sl : Nat} {v w : Value}
theorem mmObj_ext (E : Ext h h') (F : mmObjOk CT Z n0 h a o) : mmObjOk CT Z n0 h' a o := by
  cases o with
  | inl q =>
    obtain ⟨k, vs⟩ := q
    obtain ⟨C, n, fs, h1, h2, h3, h4⟩ := F
    exact ⟨C, n, fs, h1, h2.ext E, h3, fun j O f d ty v q1 q2 => (h4 j O f d ty v q1 q2).ext E⟩
  | inr q =>
    obtain ⟨ty, vs⟩ := q
    obtain ⟨c, h1, h2⟩ := F
    exact ⟨c, h1.ext E, h2⟩
theorem mmObj_other (W : Wr h h' b sl w) (hne : a ≠ b) (F : mmObjOk CT Z n0 h a o) : mmObjOk CT Z n0 h' a o := by
  cases o with
  | inl q =>
    obtain ⟨k, vs⟩ := q
    obtain ⟨C, n, fs, h1, h2, h3, h4⟩ := F
    exact ⟨C, n, fs, h1, h2.wr W, h3, fun j O f d ty v q1 q2 => (h4 j O f d ty v q1 q2).other W (Or.inl hne)⟩
  | inr q =>
    obtain ⟨ty, vs⟩ := q
    obtain ⟨c, h1, h2⟩ := F
    exact ⟨c, h1.other W hne, h2⟩
theorem mmRel_set (R : mmRel CT Z n0 h H) {i : Nat} {o' : MObj} (W : Wr h h' (n0 + i) sl w) (G : i < H.length → mmObjOk CT Z n0 h' (n0 + i) o') : mmRel CT Z n0 h' (H.set i o') := by
  refine ⟨by rw [W.size, R.1, List.length_set], fun j q hj => ?_⟩
  rw [List.getElem?_set] at hj
  split at hj
  · rename_i e; subst e
    split at hj
    · rename_i hl; cases hj; exact G hl
    · cases hj
  · rename_i e
    exact mmObj_other W (fun z => e (Nat.add_left_cancel z).symm) (R.2 j q hj)
theorem mmRel_arr (R : mmRel CT Z n0 h H) {i jn : Nat} {ty : FieldType} {vs : List Value} {c : Cell} (A : Arr Z h (n0 + i) c ty) (hc : c.slots = (mmUV n0 vs).toArray) (W : Wr h h' (n0 + i) jn (mmUp n0 v)) : mmRel CT Z n0 h' (H.set i (.inr (ty, vs.set jn v))) := by
  refine mmRel_set R W fun _ => ⟨c.setSlot jn (mmUp n0 v), A.same W, ?_⟩
  simp [Cell.setSlot, hc, List.map_set]
theorem mmRel_fld {k n j : Nat} {C O f d : String} {ty : FieldType} {fs : List MFld} {vs : List Value} {i : Nat} (hCT : mmClsOk Z a0 (C, n, fs)) (hk : CT[k]? = some (C, n, fs)) (hj : fs[j]? = some (O, f, d, ty))
    (R : mmRel CT Z n0 h H) (hH : H[i]? = some (.inl (k, vs))) (W : Wr h h' (n0 + i) (RoadKit.slotOf Z O f d) (mmUp n0 v)) : mmRel CT Z n0 h' (H.set i (.inl (k, vs.set j v))) := by
  refine mmRel_set R W fun _ => ?_
  obtain ⟨C', n', fs', h1, h2, h3, h4⟩ := R.2 i _ hH
  cases hk.symm.trans h1
  refine ⟨C, n, fs, hk, h2.wr W, by rw [List.length_set]; exact h3, fun j' O' f' d' ty' v' q1 q2 => ?_⟩
  by_cases e : j' = j
  · subst e
    cases hj.symm.trans q1
    have hl : j' < vs.length := by rw [h3]; exact (List.getElem?_eq_some_iff.mp hj).1
    rw [List.getElem?_set_self hl] at q2
    cases q2
    have hv := List.getElem?_eq_getElem hl
    exact (h4 j' O f d ty _ hj hv).same W
  · rw [List.getElem?_set_ne (Ne.symm e)] at q2
    have L1 := mmAll_nth hCT.2.2.1 hj
    have L2 := mmAll_nth hCT.2.2.1 q1
    have hne : f' ≠ f := fun z => by
      have n1 : (fs.map (·.2.1))[j']? = some f' := by simp [q1]
      have n2 : (fs.map (·.2.1))[j]? = some f := by simp [hj]
      have hnd := hCT.2.2.2
      obtain ⟨l1, g1⟩ := List.getElem?_eq_some_iff.mp n1
      obtain ⟨l2, g2⟩ := List.getElem?_eq_some_iff.mp n2
      exact e ((List.getElem_inj hnd).mp (g1.trans (z.trans g2.symm)))
    exact (h4 j' O' f' d' ty' v' q1 q2).other W (Or.inr (slot_ne L2.1 L1.1 hne L2.2 L1.2))
theorem mmRel_push (R : mmRel CT Z n0 h H) (E : Ext h h') (hs : h'.size = h.size + 1) (G : mmObjOk CT Z n0 h' h.size o) : mmRel CT Z n0 h' (H ++ [o]) := by
  refine ⟨by rw [hs, R.1]; simp; omega, fun i q hi => ?_⟩
  by_cases e : i < H.length
  · rw [List.getElem?_append_left e] at hi
    exact mmObj_ext E (R.2 i q hi)
  · rw [List.getElem?_append_right (Nat.le_of_not_lt e)] at hi
    have : i = H.length := by
      have := (List.getElem?_eq_some_iff.mp hi).1
      simp at this; omega
    subst this
    simp at hi
    subst hi
    rw [← R.1]; exact G
end MMHeap
/-! ### the instructions that touch the heap or the tables -/
abbrev MSt := Nat × List Slot × List Value × MHeap × Nat
abbrev MKall := List Value → MHeap → Option (Option Value × MHeap × Nat)
/-- a call: how many values it takes; the receiver's class (asked where it is named); what may lie under; what it does -/
abbrev MCall := Nat × Option Nat × Nat × MKall
/-- constants; fields read; fields written; classes made; arrays made; Object's constructor; calls: static, virtual, special -/
abbrev MTab := List (Nat × Value) × List (Nat × Nat × Nat) × List (Nat × Nat × Nat × FieldType) × List (Nat × Nat × Nat × List Value) × List ArrayType × List (Nat × Nat) × List (Nat × MCall) × List (Nat × MCall) × List (Nat × MCall)
def mmCat : List Value → Nat
  | [] => 0
  | v :: r => v.category + mmCat r
theorem mmCat_up (n0 : Nat) : ∀ r : List Value, ((mmUV n0 r).map fun v => v.category).sum = mmCat r
  | [] => rfl
  | v :: r => by
    have := mmCat_up n0 r
    simp only [mmUV, List.map_cons, List.sum_cons, mmUp_cat, mmCat] at this ⊢
    rw [this]
def mmPop : Nat → List Value → List Value → Option (List Value × List Value)
  | 0, S, acc => some (acc, S)
  | _ + 1, [], _ => none
  | n + 1, v :: S, acc => mmPop n S (v :: acc)
theorem mmPop_spec : ∀ {n : Nat} {S acc as r : List Value}, mmPop n S acc = some (as, r) → ∃ q : List Value, as = q.reverse ++ acc ∧ S = q ++ r ∧ q.length = n
  | 0, S, acc, as, r, h => by cases h; exact ⟨[], rfl, rfl, rfl⟩
  | n + 1, [], _, _, _, h => nomatch h
  | n + 1, v :: S, acc, as, r, h => by
    obtain ⟨q, h1, h2, h3⟩ := mmPop_spec (n := n) (S := S) (acc := v :: acc) h
    exact ⟨v :: q, by rw [h1]; simp, by rw [h2]; rfl, by simp [h3]⟩
def mmRecv (rc : Option Nat) (as : List Value) (H : MHeap) : Bool :=
  match rc with
  | none => true
  | some k => (match as with | .ref a :: _ => (match mmNth H a with | some (.inl (k', _)) => k' == k | _ => false) | _ => false)
def mmCall (kl : List (Nat × MCall)) (idx pc : Nat) (L : List Slot) (S : List Value) (H : MHeap) (sl : Nat) : Option MSt :=
  match mmLook kl idx with
  | some (na, rc, W, K) =>
    (match mmPop na S [] with
    | some (as, r) => if mmRecv rc as H = true ∧ mmCat r ≤ W then (match K as H with | some (v, H', ds) => some (pc + 3, L, v.toList ++ r, H', sl + ds) | none => none) else none
    | none => none)
  | none => none
def mmSame : FieldType → FieldType → Bool
  | .int, .int => true
  | .long, .long => true
  | .byte, .byte => true
  | .char, .char => true
  | .boolean, .boolean => true
  | _, _ => false
theorem mmSame_eq {t u : FieldType} (h : mmSame t u = true) : t = u := by
  unfold mmSame at h; split at h <;> first | rfl | cases h
def mmALd (t : FieldType) (pc : Nat) (L : List Slot) (S : List Value) (H : MHeap) (sl : Nat) : Option MSt :=
  match S with
  | .int j :: .ref a :: r =>
    (match mmNth H a with
    | some (.inr (ty, vs)) => if mmSame ty t = true ∧ ¬ j < 0 then (match mmNth vs j.toNatClampNeg with | some v => some (pc + 1, L, v :: r, H, sl) | none => none) else none
    | _ => none)
  | _ => none
def mmASt (t : FieldType) (w : Value) (j : Int32) (a : Nat) (r : List Value) (pc : Nat) (L : List Slot) (H : MHeap) (sl : Nat) : Option MSt :=
  match mmNth H a with
  | some (.inr (ty, vs)) => if mmSame ty t = true ∧ ¬ j < 0 ∧ j.toNatClampNeg < vs.length then some (pc + 1, L, r, H.set a (.inr (ty, vs.set j.toNatClampNeg w)), sl) else none
  | _ => none
def mmGetF (kg : List (Nat × Nat × Nat)) (idx pc : Nat) (L : List Slot) (S : List Value) (H : MHeap) (sl : Nat) : Option MSt :=
  match S with
  | .ref a :: r =>
    (match mmLook kg idx with
    | some (k, j) =>
      (match mmNth H a with
      | some (.inl (k', vs)) => if k' = k then (match mmNth vs j with | some v => some (pc + 3, L, v :: r, H, sl) | none => none) else none
      | _ => none)
    | none => none)
  | _ => none
def mmFits : FieldType → Value → Bool
  | .int, .int _ => true
  | .long, .long _ => true
  | .boolean, .int v => v == 0 || v == 1
  | .object _, .ref _ => true
  | .object _, .null => true
  | .array _, .ref _ => true
  | .array _, .null => true
  | _, _ => false
theorem mmFits_ok {n0 : Nat} {ty : FieldType} {v : Value} (h : mmFits ty v = true) : narrow ty (mmUp n0 v) = mmUp n0 v ∧ fits ty (mmUp n0 v) = true := by
  unfold mmFits at h
  split at h <;> first | exact ⟨rfl, rfl⟩ | (cases h; done) | skip
  rename_i x
  simp only [Bool.or_eq_true, beq_iff_eq] at h
  rcases h with rfl | rfl <;> exact ⟨rfl, rfl⟩
def mmPutF (kp : List (Nat × Nat × Nat × FieldType)) (idx pc : Nat) (L : List Slot) (S : List Value) (H : MHeap) (sl : Nat) : Option MSt :=
  match S with
  | v :: .ref a :: r =>
    (match mmLook kp idx with
    | some (k, j, ty) =>
      (match mmNth H a with
      | some (.inl (k', vs)) => if k' = k ∧ mmFits ty v = true then some (pc + 3, L, r, H.set a (.inl (k', vs.set j v)), sl) else none
      | _ => none)
    | none => none)
  | _ => none
def mmHasTy (ka : List ArrayType) (t : ArrayType) : Bool := ka.any fun u => decide (u = t)
def mmStep (K : MTab) (i : Instr) (pc : Nat) (L : List Slot) (S : List Value) (H : MHeap) (sl : Nat) : Option MSt :=
  match i with
  | .ldc idx => (match mmLook K.1 idx with | some (.int x) => some (pc + 2, L, .int x :: S, H, sl) | _ => none)
  | .ldc2_w idx => (match mmLook K.1 idx with | some (.long x) => some (pc + 3, L, .long x :: S, H, sl) | _ => none)
  | .getfield idx => mmGetF K.2.1 idx pc L S H sl
  | .putfield idx => mmPutF K.2.2.1 idx pc L S H sl
  | .new idx => (match mmLook K.2.2.2.1 idx with | some (k, n, ds) => some (pc + 3, L, .ref H.length :: S, H ++ [.inl (k, ds)], sl + n) | none => none)
  | .newarray t => (match S with
    | .int n :: r => if mmHasTy K.2.2.2.2.1 t = true ∧ ¬ n < 0 ∧ n.toNatClampNeg ≤ 67108864 then some (pc + 2, L, .ref H.length :: r, H ++ [.inr (newarray.typeOf t, List.replicate n.toNatClampNeg (defaultValue (newarray.typeOf t)))], sl + n.toNatClampNeg) else none
    | _ => none)
  | .arraylength => (match S with
    | .ref a :: r => (match mmNth H a with | some (.inr (_, vs)) => some (pc + 1, L, .int vs.length.toInt32 :: r, H, sl) | _ => none)
    | _ => none)
  | .iaload => mmALd .int pc L S H sl
  | .laload => mmALd .long pc L S H sl
  | .caload => mmALd .char pc L S H sl
  | .baload => mmALd .byte pc L S H sl
  | .iastore => (match S with | .int x :: .int j :: .ref a :: r => mmASt .int (.int x) j a r pc L H sl | _ => none)
  | .lastore => (match S with | .long x :: .int j :: .ref a :: r => mmASt .long (.long x) j a r pc L H sl | _ => none)
  | .castore => (match S with | .int x :: .int j :: .ref a :: r => mmASt .char (.int (nar .char x)) j a r pc L H sl | _ => none)
  | .bastore => (match S with | .int x :: .int j :: .ref a :: r => mmASt .byte (.int (nar .byte x)) j a r pc L H sl | _ => none)
  | .invokestatic idx => mmCall K.2.2.2.2.2.2.1 idx pc L S H sl
  | .invokevirtual idx => mmCall K.2.2.2.2.2.2.2.1 idx pc L S H sl
  | .invokespecial idx => (match mmLook K.2.2.2.2.2.1 idx with
    | some W => (match S with | .ref _ :: r => if mmCat r ≤ W then some (pc + 3, L, r, H, sl) else none | _ => none)
    | none => mmCall K.2.2.2.2.2.2.2.2 idx pc L S H sl)
  | i => (match mmPure i pc L S with | some (pc', L', S') => some (pc', L', S', H, sl) | none => none)
def mmRet (ret : Option FieldType) (i : Instr) (S : List Value) : Option (Option Value) :=
  match i with
  | .ireturn => (match S with
    | .int z :: _ => (match ret with | some .int => some (some (.int z)) | some .boolean => some (some (.int (nar .boolean z))) | some .byte => some (some (.int (nar .byte z))) | some .char => some (some (.int (nar .char z))) | _ => none)
    | _ => none)
  | .lreturn => (match S with | [.long w] => (match ret with | some .long => some (some (.long w)) | _ => none) | _ => none)
  | .areturn => (match S with | [.ref a] => (match ret with | some (.array _) => some (some (.ref a)) | some (.object _) => some (some (.ref a)) | _ => none) | _ => none)
  | .return_ => (match S with | [] => (match ret with | none => some none | _ => none) | _ => none)
  | _ => none
def mmRun (K : MTab) (I : Nat → Option Instr) (ret : Option FieldType) : Nat → Nat → List Slot → List Value → MHeap → Nat → Option (Option Value × MHeap × Nat)
  | 0, _, _, _, _, _ => none
  | f + 1, pc, L, S, H, sl =>
    match I pc with
    | none => none
    | some i =>
      match mmRet ret i S with
      | some v => some (v, H, sl)
      | none =>
        match mmStep K i pc L S H sl with
        | some (pc', L', S', H', sl') => mmRun K I ret f pc' L' S' H' sl'
        | none => none
def mmEntry (as : List Value) (n : Nat) : List Slot := Jvm.Sym.laidSlots as ++ List.replicate (n - (Jvm.Sym.laidSlots as).length) .unset
def mmBody (K : MTab) (I : Nat → Option Instr) (ret : Option FieldType) (maxL fuel : Nat) : MKall := fun as H => if (mmEntry as maxL).length = maxL then mmRun K I ret fuel 0 (mmEntry as maxL) [] H 0 else none
/-- the table of instructions against the bytes -/
def mmChk (bytes : ByteArray) (I : Nat → Option Instr) : Nat → Bool
  | 0 => true
  | n + 1 => (match I n with | none => true | some i => (match decode bytes n with | .ok (i', k) => decide (i' = i) && k == mmLen i | .error _ => false)) && mmChk bytes I n
theorem mmChk_ok {bytes : ByteArray} {I : Nat → Option Instr} : ∀ {n : Nat}, mmChk bytes I n = true → ∀ pc i, pc < n → I pc = some i → decode bytes pc = .ok (i, mmLen i)
  | 0, _, _, _, h, _ => absurd h (Nat.not_lt_zero _)
  | n + 1, h, pc, i, hp, hi => by
    unfold mmChk at h
    rw [Bool.and_eq_true] at h
    rcases Nat.lt_succ_iff_lt_or_eq.mp hp with q | rfl
    · exact mmChk_ok h.2 pc i q hi
    · have h1 := h.1
      rw [hi] at h1
      dsimp only at h1
      split at h1
      · rename_i i' k hd
        simp only [Bool.and_eq_true, decide_eq_true_eq, beq_iff_eq] at h1
        rw [hd, h1.1, h1.2]
      · cases h1

/-! ### soundness of one step -/
def mmKMono (K : MKall) : Prop := ∀ as H v H' ds, K as H = some (v, H', ds) → H.length ≤ H'.length
def mmCallOk (CT : List MCls) (l : Launch) (Z : State) (own : String) (R : Room) (ins : Instr) (q : MCall) : Prop :=
  mmKMono q.2.2.2 ∧
  ∀ {p : Program} {e : Env} {s : State} {m : MethodId} {args : Array Value} {below : List Frame} {meth : Method} {c : Code} {T : State} {locs : List Loc} {cells slots n0 pc : Nat} {H H' : MHeap} {Ls : Array Slot} {as r : List Value} {v : Option Value} {ds : Nat},
  Stand p l e R s m args below meth c T locs cells slots → p.tables.exec = Jvm.exec → Z.Warmed39 s.vm → s.vm.findClass own = some m.cls → mmRel CT Z n0 T.heap H → Ls.size = c.maxLocals → decode c.code pc = .ok (ins, 3) → as.length = q.1 → mmRecv q.2.1 as H = true → mmCat r ≤ q.2.2.1 →
  q.2.2.2 as H = some (v, H', ds) → cells + (H'.length - H.length) ≤ R.cells → slots + ds ≤ R.slots →
  ∃ (T' : State) (L' : List Loc), Stand p l e R s m args below meth c T' (locs ++ L') (cells + (H'.length - H.length)) (slots + ds) ∧ mmRel CT Z n0 T'.heap H' ∧ Fr n0 L' ∧
    ∀ target, Steps p.tables e below (T'.setTop (mkF m (pc + 3) Ls (mmUV n0 (v.toList ++ r)))) target → Steps p.tables e below (T.setTop (mkF m pc Ls (mmUV n0 (as.reverse ++ r)))) target
/-- what the tables' words must say for a method of class 'own' called 'name' in room R -/
def mmTabOk (CT : List MCls) (l : Launch) (Z : State) (a0 : Array Value) (own name : String) (R : Room) (K : MTab) : Prop :=
  mmAll (fun q : Nat × Value => (∀ x, q.2 = .int x → (Cond.constant own q.1 x).before a0 Z = true) ∧ (∀ x, q.2 = .long x → (Cond.constantLong own q.1 x).before a0 Z = true)) K.1 ∧
  mmAll (fun q : Nat × Nat × Nat => ∃ (C : String) (n : Nat) (fs : List MFld) (O f d : String) (ty : FieldType), CT[q.2.1]? = some (C, n, fs) ∧ fs[q.2.2]? = some (O, f, d, ty) ∧ (Cond.fieldLink own q.1 O f d).before a0 Z = true) K.2.1 ∧
  mmAll (fun q : Nat × Nat × Nat × FieldType => ∃ (C : String) (n : Nat) (fs : List MFld) (O f d : String), CT[q.2.1]? = some (C, n, fs) ∧ fs[q.2.2.1]? = some (O, f, d, q.2.2.2) ∧ (Cond.fieldLink own q.1 O f d).before a0 Z = true ∧ ((Cond.lays C O f d).before a0 Z = true ∨ ((Cond.laysFinal C O f d).before a0 Z = true ∧ own = O ∧ name = "<init>"))) K.2.2.1 ∧
  mmAll (fun q : Nat × Nat × Nat × List Value => ∃ (C : String) (fs : List MFld), CT[q.2.1]? = some (C, q.2.2.1, fs) ∧ q.2.2.2 = fs.map (fun f => defaultValue f.2.2.2) ∧ (Cond.classLink own q.1 C).before a0 Z = true) K.2.2.2.1 ∧
  mmAll (fun t : ArrayType => (Cond.arrayClass (newarray.typeOf t)).before a0 Z = true) K.2.2.2.2.1 ∧
  mmAll (fun q : Nat × Nat => (Cond.methodLink own q.1 Lib.objectInit).before a0 Z = true ∧ (Cond.instanceMethod Lib.objectInit).before a0 Z = true ∧ (Cond.code Lib.objectInit ⟨#[0xb1]⟩ 1 none).before a0 Z = true ∧ 1 ≤ R.frames ∧ q.2 + 12 ≤ R.locals) K.2.2.2.2.2.1 ∧
  mmAll (fun q : Nat × MCall => mmCallOk CT l Z own R (.invokestatic q.1) q.2) K.2.2.2.2.2.2.1 ∧
  mmAll (fun q : Nat × MCall => mmCallOk CT l Z own R (.invokevirtual q.1) q.2) K.2.2.2.2.2.2.2.1 ∧
  mmAll (fun q : Nat × MCall => mmCallOk CT l Z own R (.invokespecial q.1) q.2) K.2.2.2.2.2.2.2.2
section MMSound
variable {CT : List MCls} {p : Program} {l : Launch} {e : Env} {R : Room} {s : State} {m : MethodId} {args : Array Value} {below : List Frame} {meth : Method} {c : Code} {Z : State} {a0 : Array Value} {own name : String} {n0 hl0 : Nat}
/-- where the walk stands, as the small machine sees it -/
def mmInv (CT : List MCls) (Z : State) (p : Program) (l : Launch) (e : Env) (R : Room) (s : State) (m : MethodId) (args : Array Value) (below : List Frame) (meth : Method) (c : Code) (n0 hl0 : Nat) (T : State) (H : MHeap) (sl : Nat) : Prop :=
  ∃ (locs : List Loc) (cells : Nat), Stand p l e R s m args below meth c T locs cells sl ∧ cells + hl0 = H.length ∧ Fr n0 locs ∧ mmRel CT Z n0 T.heap H
theorem mmCallOk_step {T : State} {pc sl : Nat} {L : List Slot} {S : List Value} {H : MHeap} {pc' sl' idx : Nat} {L' : List Slot} {S' : List Value} {H' : MHeap} {ins : Instr} {kl : List (Nat × MCall)}
    (hx : p.tables.exec = Jvm.exec) (hZ : Z.Warmed39 s.vm) (hown : s.vm.findClass own = some m.cls) (hkl : ∀ q : MCall, (idx, q) ∈ kl → mmCallOk CT l Z own R ins q) (hL : L.length = c.maxLocals)
    (I : mmInv CT Z p l e R s m args below meth c n0 hl0 T H sl) (hc : H'.length ≤ hl0 + R.cells) (hs : sl' ≤ R.slots) (hd : decode c.code pc = .ok (ins, 3)) (hst : mmCall kl idx pc L S H sl = some (pc', L', S', H', sl')) :
    L'.length = L.length ∧ ∃ T', mmInv CT Z p l e R s m args below meth c n0 hl0 T' H' sl' ∧ ∀ target, Steps p.tables e below (T'.setTop (mkF m pc' (mmUL n0 L') (mmUV n0 S'))) target → Steps p.tables e below (T.setTop (mkF m pc (mmUL n0 L) (mmUV n0 S))) target := by
  obtain ⟨locs, cells, X, hcl, N, rel⟩ := I
  unfold mmCall at hst
  split at hst
  · rename_i na rc W K hk
    split at hst
    · rename_i as r hp
      split at hst
      · rename_i hrc
        split at hst
        · rename_i v H1 ds hK
          cases hst
          obtain ⟨hmono, law⟩ := hkl _ (mmLook_mem hk)
          have hm := hmono _ _ _ _ _ hK
          obtain ⟨q, e1, e2, e3⟩ := mmPop_spec hp
          rw [List.append_nil] at e1
          subst e1 e2
          obtain ⟨T', L', X', rel', N', st⟩ := law (Ls := mmUL n0 L) (as := q.reverse) (r := r) X hx hZ hown rel (by simpa [mmUL] using hL) hd (by simpa using e3) hrc.1 hrc.2 hK (by omega) hs
          rw [List.reverse_reverse] at st
          exact ⟨rfl, T', ⟨_, _, X', by omega, Fr.app N N', rel'⟩, st⟩
        · cases hst
      · cases hst
    · cases hst
  · cases hst
theorem mmALd_step {T : State} {pc sl : Nat} {L : List Slot} {S : List Value} {H : MHeap} {pc' sl' : Nat} {L' : List Slot} {S' : List Value} {H' : MHeap} {t : FieldType}
    (hst : mmALd t pc L S H sl = some (pc', L', S', H', sl')) (rel : mmRel CT Z n0 T.heap H) :
    ∃ (j : Int32) (a : Nat) (r : List Value) (cl : Cell) (v : Value), S = .int j :: .ref a :: r ∧ pc' = pc + 1 ∧ L' = L ∧ S' = v :: r ∧ H' = H ∧ sl' = sl ∧ Arr Z T.heap (n0 + a) cl t ∧ ¬ (j < 0 ∨ cl.slots.size ≤ j.toNatClampNeg) ∧ cl.slots[j.toNatClampNeg]? = some (mmUp n0 v) := by
  unfold mmALd at hst
  split at hst
  · rename_i j a r
    split at hst
    · rename_i ty vs hn
      split at hst
      · rename_i hq
        split at hst
        · rename_i v hv
          cases hst
          obtain ⟨rfl⟩ := mmSame_eq hq.1
          rw [mmNth_eq] at hn hv
          obtain ⟨cl, A, hc⟩ := rel.2 a _ hn
          have hlt := (List.getElem?_eq_some_iff.mp hv).1
          refine ⟨j, a, r, cl, v, rfl, rfl, rfl, rfl, rfl, rfl, A, ?_, ?_⟩
          · rintro (q | q)
            · exact hq.2 q
            · rw [hc] at q; simp at q; omega
          · rw [hc]; simp [hv]
        · cases hst
      · cases hst
    · cases hst
  · cases hst
theorem mmASt_step {T : State} {pc sl : Nat} {L : List Slot} {r : List Value} {H : MHeap} {pc' sl' a : Nat} {j : Int32} {w : Value} {L' : List Slot} {S' : List Value} {H' : MHeap} {t : FieldType}
    (hst : mmASt t w j a r pc L H sl = some (pc', L', S', H', sl')) (rel : mmRel CT Z n0 T.heap H) :
    ∃ (vs : List Value) (cl : Cell), pc' = pc + 1 ∧ L' = L ∧ S' = r ∧ H' = H.set a (.inr (t, vs.set j.toNatClampNeg w)) ∧ sl' = sl ∧ Arr Z T.heap (n0 + a) cl t ∧ cl.slots = (mmUV n0 vs).toArray ∧ ¬ (j < 0 ∨ cl.slots.size ≤ j.toNatClampNeg) := by
  unfold mmASt at hst
  split at hst
  · rename_i ty vs hn
    split at hst
    · rename_i hq
      cases hst
      obtain ⟨rfl⟩ := mmSame_eq hq.1
      rw [mmNth_eq] at hn
      obtain ⟨cl, A, hc⟩ := rel.2 a _ hn
      refine ⟨vs, cl, rfl, rfl, rfl, rfl, rfl, A, hc, ?_⟩
      rintro (q | q)
      · exact hq.2.1 q
      · rw [hc] at q; have := hq.2.2; simp at q; omega
    · cases hst
  · cases hst
set_option maxHeartbeats 4000000 in
theorem mmStep_ok {K : MTab} {T : State} {pc sl : Nat} {L : List Slot} {S : List Value} {H : MHeap} {pc' sl' : Nat} {L' : List Slot} {S' : List Value} {H' : MHeap} {i : Instr} (hx : p.tables.exec = Jvm.exec) (hZ : Z.Warmed39 s.vm) (hown : s.vm.findClass own = some m.cls) (hnm : meth.name = name)
    (hCT : mmAll (mmClsOk Z a0) CT) (hK : mmTabOk CT l Z a0 own name R K) (hs0 : s.heap.size = n0 + hl0) (hL : L.length = c.maxLocals)
    (I : mmInv CT Z p l e R s m args below meth c n0 hl0 T H sl) (hc : H'.length ≤ hl0 + R.cells) (hs : sl' ≤ R.slots) (hd : decode c.code pc = .ok (i, mmLen i)) (hst : mmStep K i pc L S H sl = some (pc', L', S', H', sl')) :
    L'.length = L.length ∧ ∃ T', mmInv CT Z p l e R s m args below meth c n0 hl0 T' H' sl' ∧ ∀ target, Steps p.tables e below (T'.setTop (mkF m pc' (mmUL n0 L') (mmUV n0 S'))) target → Steps p.tables e below (T.setTop (mkF m pc (mmUL n0 L) (mmUV n0 S))) target := by
  obtain ⟨k1, k2, k3, k4, k5, k6, k7, k8, k9⟩ := hK
  have I0 := I
  obtain ⟨locs, cells, X, hcl, N, rel⟩ := I
  unfold mmStep at hst
  split at hst
  · -- ldc
    split at hst
    · rename_i x hk
      cases hst
      exact ⟨rfl, T, I0, fun target hr => X.ldcI hx hown (mvT hZ ((mmAll_mem k1 _ (mmLook_mem hk)).1 x rfl)) rfl hd hr⟩
    · cases hst
  · -- ldc2_w
    split at hst
    · rename_i x hk
      cases hst
      exact ⟨rfl, T, I0, fun target hr => X.ldc2J hx hown (mvT hZ ((mmAll_mem k1 _ (mmLook_mem hk)).2 x rfl)) rfl hd hr⟩
    · cases hst
  · -- getfield
    unfold mmGetF at hst
    split at hst
    · rename_i a r
      split at hst
      · rename_i k j hk
        split at hst
        · rename_i k' vs hn
          split at hst
          · rename_i hkk
            split at hst
            · rename_i v hv
              cases hst; subst hkk
              obtain ⟨C, n, fs, O, f, d, ty, q1, q2, q3⟩ := mmAll_mem k2 _ (mmLook_mem hk)
              rw [mmNth_eq] at hn hv
              obtain ⟨C', n', fs', r1, r2, r3, r4⟩ := rel.2 a _ hn
              cases q1.symm.trans r1
              obtain ⟨T', X', e', st⟩ := getF X hx hZ hown (host := "") (Or.inl q3) Via.refl rfl (r4 j O f d ty v q2 hv) (g := mkF m pc (mmUL n0 L) (mmUV n0 (.ref a :: r))) rfl rfl hd
              exact ⟨rfl, T', ⟨locs, cells, X', hcl, N, by rw [e']; exact rel⟩, st⟩
            · cases hst
          · cases hst
        · cases hst
      · cases hst
    · cases hst
  · -- putfield
    unfold mmPutF at hst
    split at hst
    · rename_i v a r
      split at hst
      · rename_i k j ty hk
        split at hst
        · rename_i k' vs hn
          split at hst
          · rename_i hkk
            cases hst
            obtain ⟨hkk, hft⟩ := hkk
            subst hkk
            obtain ⟨C, n, fs, O, f, d, q1, q2, q3, q4⟩ := mmAll_mem k3 _ (mmLook_mem hk)
            rw [mmNth_eq] at hn
            obtain ⟨C', n', fs', r1, r2, r3, r4⟩ := rel.2 a _ hn
            cases q1.symm.trans r1
            have hcls := mmAll_nth hCT q1
            have hl : j < vs.length := by rw [r3]; exact (List.getElem?_eq_some_iff.mp q2).1
            obtain ⟨T', h', X', e', W, st⟩ := putF X hx hZ hown (host := "") (Or.inl q3) Via.refl rfl (r4 j O f d ty _ q2 (List.getElem?_eq_getElem hl)) r2 (q4.imp id fun z => ⟨z.1, z.2.1, hnm.trans z.2.2⟩) hcls.1 (ty := ty) (mmAll_nth hcls.2.2.1 q2).2 (v := mmUp n0 v) (mmFits_ok hft).1 (mmFits_ok hft).2 (g := mkF m pc (mmUL n0 L) (mmUV n0 (v :: .ref a :: S'))) rfl rfl hd
            refine ⟨rfl, T', ⟨_, cells, X', by rw [List.length_set]; exact hcl, Fr.snoc X' N (Nat.le_add_right n0 a), ?_⟩, st⟩
            rw [e']
            exact mmRel_fld hcls q1 q2 rel hn W
          · cases hst
        · cases hst
      · cases hst
    · cases hst
  · -- new
    split at hst
    · rename_i k n ds hk
      cases hst
      obtain ⟨C, fs, q1, q2, q3⟩ := mmAll_mem k4 _ (mmLook_mem hk)
      have hcls := mmAll_nth hCT q1
      rw [List.length_append] at hc
      have hc' : H.length + 1 ≤ hl0 + R.cells := hc
      obtain ⟨T', h', X', e', E, A, D, -, st⟩ := newO X hx hZ hown q3 hcls.1 hcls.2.1 rfl (g := mkF m pc (mmUL n0 L) (mmUV n0 S)) rfl hd (by omega) hs
      have z1 := X'.heapSize
      have z2 : T.heap.size < h'.size := A.lt
      have z3 : h'.size = T.heap.size + 1 := by rw [e'] at z1; have := rel.1; omega
      refine ⟨rfl, T', ⟨_, _, X', by simp; omega, N, ?_⟩, fun target hr => st target ?_⟩
      · rw [e']
        refine mmRel_push rel E z3 ⟨C, _, fs, q1, A, by simp only [] at q2; rw [q2]; simp, fun j O f d ty v g1 g2 => ?_⟩
        simp only [] at q2
        rw [q2, List.getElem?_map, g1] at g2
        cases g2
        rw [mmUp_default]
        exact D (mmAll_nth hcls.2.2.1 g1).1 (mmAll_nth hcls.2.2.1 g1).2
      · rw [rel.1]; exact hr
    · cases hst
  · -- newarray
    rename_i t
    split at hst
    · rename_i n r
      split at hst
      · rename_i hq
        cases hst
        rw [List.length_append] at hc
        have hc' : H.length + 1 ≤ hl0 + R.cells := hc
        have hty : (Cond.arrayClass (newarray.typeOf t)).before a0 Z = true := by
          have q := hq.1
          unfold mmHasTy at q
          rw [List.any_eq_true] at q
          obtain ⟨u, hu, e⟩ := q
          have e := of_decide_eq_true e
          subst e
          exact mmAll_mem k5 _ hu
        obtain ⟨T', h', cA, X', e', E, A, st⟩ := newP X hx hZ hty rfl (g := mkF m pc (mmUL n0 L) (mmUV n0 (.int n :: r))) rfl hd rfl hq.2.1 (cap := n.toNatClampNeg) (Nat.le_refl _) (by have := hq.2.2; omega) (by omega) hs
        have z1 := X'.heapSize
        have z2 : T.heap.size < h'.size := A.lt
        have z3 : h'.size = T.heap.size + 1 := by rw [e'] at z1; have := rel.1; omega
        refine ⟨rfl, T', ⟨_, _, X', by simp; omega, N, ?_⟩, fun target hr => st target ?_⟩
        · rw [e']
          refine mmRel_push rel E z3 ⟨_, A, ?_⟩
          simp [newA, mmUp_default]
        · rw [rel.1]; exact hr
      · cases hst
    · cases hst
  · -- arraylength
    split at hst
    · rename_i a r
      split at hst
      · rename_i ty vs hn
        cases hst
        rw [mmNth_eq] at hn
        obtain ⟨cl, A, hcs⟩ := rel.2 a _ hn
        refine ⟨rfl, T, I0, fun target hr => X.arraylength hx A.1 (State.isArrayOf_alike hZ.alike A.2.1) (g := mkF m pc (mmUL n0 L) (mmUV n0 (.ref a :: r))) rfl rfl hd target ?_⟩
        have e1 : cl.slots.size = vs.length := by rw [hcs]; simp
        rw [e1]; exact hr
      · cases hst
    · cases hst
  · obtain ⟨j, a, r, cl, v, rfl, rfl, rfl, rfl, rfl, rfl, A, hin, hat⟩ := mmALd_step (T := T) hst rel
    exact ⟨rfl, T, I0, fun target hr => X.iaload hx A.1 (State.isArrayOf_alike hZ.alike A.2.1) A.2.2 hin hat (g := mkF m pc (mmUL n0 L') (mmUV n0 (.int j :: .ref a :: r))) rfl rfl hd target hr⟩
  · obtain ⟨j, a, r, cl, v, rfl, rfl, rfl, rfl, rfl, rfl, A, hin, hat⟩ := mmALd_step (T := T) hst rel
    exact ⟨rfl, T, I0, fun target hr => X.laload hx A.1 (State.isArrayOf_alike hZ.alike A.2.1) A.2.2 hin hat (g := mkF m pc (mmUL n0 L') (mmUV n0 (.int j :: .ref a :: r))) rfl rfl hd target hr⟩
  · obtain ⟨j, a, r, cl, v, rfl, rfl, rfl, rfl, rfl, rfl, A, hin, hat⟩ := mmALd_step (T := T) hst rel
    exact ⟨rfl, T, I0, fun target hr => X.caload hx A.1 (State.isArrayOf_alike hZ.alike A.2.1) A.2.2 hin hat (g := mkF m pc (mmUL n0 L') (mmUV n0 (.int j :: .ref a :: r))) rfl rfl hd target hr⟩
  · obtain ⟨j, a, r, cl, v, rfl, rfl, rfl, rfl, rfl, rfl, A, hin, hat⟩ := mmALd_step (T := T) hst rel
    exact ⟨rfl, T, I0, fun target hr => X.baloadBytes hx A.1 (State.isArrayOf_alike hZ.alike A.2.1) A.2.2 hin hat (g := mkF m pc (mmUL n0 L') (mmUV n0 (.int j :: .ref a :: r))) rfl rfl hd target hr⟩
  · split at hst
    · rename_i x j a r
      obtain ⟨vs, cl, rfl, rfl, rfl, rfl, rfl, A, hcs, hin⟩ := mmASt_step (T := T) hst rel
      obtain ⟨T', h', X', e', W, st⟩ := stI X hx hZ rfl A hin (g := mkF m pc (mmUL n0 L') (mmUV n0 (.int x :: .int j :: .ref a :: S'))) rfl rfl hd
      exact ⟨rfl, T', ⟨_, cells, X', by rw [List.length_set]; exact hcl, Fr.snoc X' N (Nat.le_add_right n0 a), by rw [e']; exact mmRel_arr (v := .int x) rel A hcs W⟩, st⟩
    · cases hst
  · split at hst
    · rename_i x j a r
      obtain ⟨vs, cl, rfl, rfl, rfl, rfl, rfl, A, hcs, hin⟩ := mmASt_step (T := T) hst rel
      obtain ⟨T', h', X', e', W, st⟩ := stJ X hx hZ rfl A hin (g := mkF m pc (mmUL n0 L') (mmUV n0 (.long x :: .int j :: .ref a :: S'))) rfl rfl hd
      exact ⟨rfl, T', ⟨_, cells, X', by rw [List.length_set]; exact hcl, Fr.snoc X' N (Nat.le_add_right n0 a), by rw [e']; exact mmRel_arr (v := .long x) rel A hcs W⟩, st⟩
    · cases hst
  · split at hst
    · rename_i x j a r
      obtain ⟨vs, cl, rfl, rfl, rfl, rfl, rfl, A, hcs, hin⟩ := mmASt_step (T := T) hst rel
      obtain ⟨T', h', X', e', W, st⟩ := stC X hx hZ rfl A hin (g := mkF m pc (mmUL n0 L') (mmUV n0 (.int x :: .int j :: .ref a :: S'))) rfl rfl hd
      exact ⟨rfl, T', ⟨_, cells, X', by rw [List.length_set]; exact hcl, Fr.snoc X' N (Nat.le_add_right n0 a), by rw [e']; exact mmRel_arr (v := .int (nar .char x)) rel A hcs W⟩, st⟩
    · cases hst
  · split at hst
    · rename_i x j a r
      obtain ⟨vs, cl, rfl, rfl, rfl, rfl, rfl, A, hcs, hin⟩ := mmASt_step (T := T) hst rel
      obtain ⟨T', h', X', e', W, st⟩ := stB X hx hZ rfl A hin (g := mkF m pc (mmUL n0 L') (mmUV n0 (.int x :: .int j :: .ref a :: S'))) rfl rfl hd
      exact ⟨rfl, T', ⟨_, cells, X', by rw [List.length_set]; exact hcl, Fr.snoc X' N (Nat.le_add_right n0 a), by rw [e']; exact mmRel_arr (v := .int (nar .byte x)) rel A hcs W⟩, st⟩
    · cases hst
  · exact mmCallOk_step hx hZ hown (fun q hq => mmAll_mem k7 _ hq) hL I0 hc hs hd hst
  · exact mmCallOk_step hx hZ hown (fun q hq => mmAll_mem k8 _ hq) hL I0 hc hs hd hst
  · split at hst
    · rename_i idx W hk
      split at hst
      · rename_i a r
        split at hst
        · rename_i hW
          cases hst
          obtain ⟨q1, q2, q3, q4, q5⟩ := mmAll_mem k6 _ (mmLook_mem hk)
          obtain ⟨T', X', e', st⟩ := initO X hx hZ hown q1 q2 q3 rfl (g := mkF m pc (mmUL n0 L) (mmUV n0 (.ref a :: S'))) rfl (by simpa [mmUL] using hL) rfl hd q4 (W := W) (by rw [mmCat_up]; show 2 * 0 + _ ≤ _; omega) q5
          exact ⟨rfl, T', ⟨locs, cells, X', hcl, N, by rw [e']; exact rel⟩, st⟩
        · cases hst
      · cases hst
    · exact mmCallOk_step hx hZ hown (fun q hq => mmAll_mem k9 _ hq) hL I0 hc hs hd hst
  · split at hst
    · rename_i hp
      cases hst
      exact ⟨mmPure_len hp, T, I0, fun target hr => mmPure_ok X.here hx hp hd hr⟩
    · cases hst
end MMSound

/-! ### soundness of a run, of a body, of a call -/
def mmMonos (K : MTab) : Prop := mmAll (fun q : Nat × MCall => mmKMono q.2.2.2.2) K.2.2.2.2.2.2.1 ∧ mmAll (fun q : Nat × MCall => mmKMono q.2.2.2.2) K.2.2.2.2.2.2.2.1 ∧ mmAll (fun q : Nat × MCall => mmKMono q.2.2.2.2) K.2.2.2.2.2.2.2.2
theorem mmAll_imp {α : Type} {P Q : α → Prop} (h : ∀ x, P x → Q x) : ∀ {l : List α}, mmAll P l → mmAll Q l
  | [], _ => trivial
  | _ :: _, H => ⟨h _ H.1, mmAll_imp h H.2⟩
theorem mmCall_mono {kl : List (Nat × MCall)} (hk : mmAll (fun q : Nat × MCall => mmKMono q.2.2.2.2) kl) {idx pc sl pc' sl' : Nat} {L L' : List Slot} {S S' : List Value} {H H' : MHeap} (h : mmCall kl idx pc L S H sl = some (pc', L', S', H', sl')) : H.length ≤ H'.length ∧ sl ≤ sl' := by
  unfold mmCall at h
  split at h
  · rename_i na rc W K hq
    split at h
    · split at h
      · split at h
        · rename_i v H1 ds hK
          cases h
          exact ⟨mmAll_mem hk _ (mmLook_mem hq) _ _ _ _ _ hK, Nat.le_add_right _ _⟩
        · cases h
      · cases h
    · cases h
  · cases h
theorem mmALd_mono {t : FieldType} {pc sl pc' sl' : Nat} {L L' : List Slot} {S S' : List Value} {H H' : MHeap} (h : mmALd t pc L S H sl = some (pc', L', S', H', sl')) : H.length ≤ H'.length ∧ sl ≤ sl' := by
  unfold mmALd at h
  repeat' split at h
  all_goals first | (cases h; done) | (cases h; exact ⟨Nat.le_refl _, Nat.le_refl _⟩)
theorem mmASt_mono {t : FieldType} {w : Value} {j : Int32} {a : Nat} {r : List Value} {pc sl pc' sl' : Nat} {L L' : List Slot} {S' : List Value} {H H' : MHeap} (h : mmASt t w j a r pc L H sl = some (pc', L', S', H', sl')) : H.length ≤ H'.length ∧ sl ≤ sl' := by
  unfold mmASt at h
  repeat' split at h
  all_goals first | (cases h; done) | (cases h; exact ⟨by simp, Nat.le_refl _⟩)
theorem mmGetF_mono {kg : List (Nat × Nat × Nat)} {idx pc sl pc' sl' : Nat} {L L' : List Slot} {S S' : List Value} {H H' : MHeap} (h : mmGetF kg idx pc L S H sl = some (pc', L', S', H', sl')) : H.length ≤ H'.length ∧ sl ≤ sl' := by
  unfold mmGetF at h
  repeat' split at h
  all_goals first | (cases h; done) | (cases h; exact ⟨Nat.le_refl _, Nat.le_refl _⟩)
theorem mmPutF_mono {kg : List (Nat × Nat × Nat × FieldType)} {idx pc sl pc' sl' : Nat} {L L' : List Slot} {S S' : List Value} {H H' : MHeap} (h : mmPutF kg idx pc L S H sl = some (pc', L', S', H', sl')) : H.length ≤ H'.length ∧ sl ≤ sl' := by
  unfold mmPutF at h
  repeat' split at h
  all_goals first | (cases h; done) | (cases h; exact ⟨by simp, Nat.le_refl _⟩)
theorem mmStep_mono {K : MTab} (hK : mmMonos K) {i : Instr} {pc sl pc' sl' : Nat} {L L' : List Slot} {S S' : List Value} {H H' : MHeap} (h : mmStep K i pc L S H sl = some (pc', L', S', H', sl')) : H.length ≤ H'.length ∧ sl ≤ sl' := by
  unfold mmStep at h
  split at h
  · split at h <;> first | (cases h; done) | (cases h; exact ⟨Nat.le_refl _, Nat.le_refl _⟩)
  · split at h <;> first | (cases h; done) | (cases h; exact ⟨Nat.le_refl _, Nat.le_refl _⟩)
  · exact mmGetF_mono h
  · exact mmPutF_mono h
  · split at h <;> first | (cases h; done) | (cases h; exact ⟨by simp, Nat.le_add_right _ _⟩)
  · split at h
    · split at h <;> first | (cases h; done) | (cases h; exact ⟨by simp, Nat.le_add_right _ _⟩)
    · cases h
  · split at h
    · split at h <;> first | (cases h; done) | (cases h; exact ⟨Nat.le_refl _, Nat.le_refl _⟩)
    · cases h
  · exact mmALd_mono h
  · exact mmALd_mono h
  · exact mmALd_mono h
  · exact mmALd_mono h
  · split at h <;> first | exact mmASt_mono h | cases h
  · split at h <;> first | exact mmASt_mono h | cases h
  · split at h <;> first | exact mmASt_mono h | cases h
  · split at h <;> first | exact mmASt_mono h | cases h
  · exact mmCall_mono hK.1 h
  · exact mmCall_mono hK.2.1 h
  · split at h
    · split at h
      · split at h <;> first | (cases h; done) | (cases h; exact ⟨Nat.le_refl _, Nat.le_refl _⟩)
      · cases h
    · exact mmCall_mono hK.2.2 h
  · split at h <;> first | (cases h; done) | (cases h; exact ⟨Nat.le_refl _, Nat.le_refl _⟩)
theorem mmRun_mono {K : MTab} (hK : mmMonos K) {I : Nat → Option Instr} {ret : Option FieldType} : ∀ {f pc sl : Nat} {L : List Slot} {S : List Value} {H : MHeap} {v : Option Value} {H' : MHeap} {sl' : Nat}, mmRun K I ret f pc L S H sl = some (v, H', sl') → H.length ≤ H'.length ∧ sl ≤ sl'
  | 0, _, _, _, _, _, _, _, _, h => nomatch h
  | f + 1, pc, sl, L, S, H, v, H', sl', h => by
    unfold mmRun at h
    split at h
    · cases h
    · split at h
      · cases h; exact ⟨Nat.le_refl _, Nat.le_refl _⟩
      · split at h
        · rename_i hst
          have q1 := mmStep_mono hK hst
          have q2 := mmRun_mono hK h
          exact ⟨Nat.le_trans q1.1 q2.1, Nat.le_trans q1.2 q2.2⟩
        · cases h
theorem mmBody_mono {K : MTab} (hK : mmMonos K) {I : Nat → Option Instr} {ret : Option FieldType} {maxL fuel : Nat} : mmKMono (mmBody K I ret maxL fuel) := fun as H v H' ds h => by
  unfold mmBody at h
  split at h
  · exact (mmRun_mono hK h).1
  · cases h
theorem mmTabOk_mono {CT : List MCls} {l : Launch} {Z : State} {a0 : Array Value} {own name : String} {R : Room} {K : MTab} (h : mmTabOk CT l Z a0 own name R K) : mmMonos K :=
  ⟨mmAll_imp (fun _ q => q.1) h.2.2.2.2.2.2.1, mmAll_imp (fun _ q => q.1) h.2.2.2.2.2.2.2.1, mmAll_imp (fun _ q => q.1) h.2.2.2.2.2.2.2.2⟩
section MMRunOk
variable {CT : List MCls} {p : Program} {l : Launch} {e : Env} {R : Room} {s : State} {m : MethodId} {args : Array Value} {below : List Frame} {meth : Method} {c : Code} {Z : State} {a0 : Array Value} {own name : String} {n0 hl0 : Nat}
theorem mmRet_ok {T : State} {locs : List Loc} {cells slots : Nat} (X : Stand p l e R s m args below meth c T locs cells slots) (hx : p.tables.exec = Jvm.exec) {ret : Option FieldType} (hret : meth.sig.returnType = ret) {i : Instr} {pc : Nat} {Ls : Array Slot} {S : List Value} {v : Option Value}
    (h : mmRet ret i S = some v) (hd : decode c.code pc = .ok (i, mmLen i)) {fs : List Frame} (hl : ∀ (f : JFrame) (acts : List Action), f.method = m → f.locked = none → f.entered = [] → (doReturn e (T.setTop f) acts (v.map (mmUp n0))).1 = T.setFrames fs) :
    Steps p.tables e below (T.setTop (mkF m pc Ls (mmUV n0 S))) (T.setFrames fs) := by
  unfold mmRet at h
  split at h
  · split at h
    · rename_i z r
      split at h
      · cases h; exact retOut X hx hret (w := .int z) rfl (Or.inl ⟨rfl, Or.inl rfl, z, rfl⟩) hd hl
      · cases h; exact retN X hx (t := .boolean) hret (by simp) hd hl
      · cases h; exact retN X hx (t := .byte) hret (by simp) hd hl
      · cases h; exact retN X hx (t := .char) hret (by simp) hd hl
      · cases h
    · cases h
  · split at h
    · rename_i w
      split at h
      · cases h; exact retOut X hx hret (w := .long w) rfl (Or.inr (Or.inl ⟨rfl, rfl, w, rfl⟩)) hd hl
      · cases h
    · cases h
  · split at h
    · rename_i a
      split at h
      · cases h; exact retOut X hx hret (w := .ref (n0 + a)) rfl (Or.inr (Or.inr (Or.inr (Or.inr ⟨rfl, rfl, rfl⟩)))) hd hl
      · cases h; exact retOut X hx hret (w := .ref (n0 + a)) rfl (Or.inr (Or.inr (Or.inr (Or.inr ⟨rfl, rfl, rfl⟩)))) hd hl
      · cases h
    · cases h
  · split at h
    · split at h
      · cases h; exact X.returnOut hx hret hd hl
      · cases h
    · cases h
  · cases h
theorem mmRet_none {ret : Option FieldType} {i : Instr} {S : List Value} {v : Option Value} (h : mmRet ret i S = some v) : ret = none → v = none := by
  unfold mmRet at h
  repeat' split at h
  all_goals first | (cases h; done) | (cases h; intro z; first | rfl | cases z)
theorem mmRun_ok {K : MTab} {I : Nat → Option Instr} {ret : Option FieldType} (hx : p.tables.exec = Jvm.exec) (hZ : Z.Warmed39 s.vm) (hown : s.vm.findClass own = some m.cls) (hnm : meth.name = name) (hret : meth.sig.returnType = ret) (hlk : meth.locks = false)
    (hCT : mmAll (mmClsOk Z a0) CT) (hK : mmTabOk CT l Z a0 own name R K) (hs0 : s.heap.size = n0 + hl0) (hI : ∀ pc i, I pc = some i → decode c.code pc = .ok (i, mmLen i)) :
    ∀ {f pc sl : Nat} {L : List Slot} {S : List Value} {H : MHeap} {v : Option Value} {H' : MHeap} {sl' : Nat} {T : State}, mmRun K I ret f pc L S H sl = some (v, H', sl') → L.length = c.maxLocals → mmInv CT Z p l e R s m args below meth c n0 hl0 T H sl → H'.length ≤ hl0 + R.cells → sl' ≤ R.slots →
    ∃ (T' : State) (locs : List Loc) (cells : Nat) (fs : List Frame), cells + hl0 = H'.length ∧ Fr n0 locs ∧ mmRel CT Z n0 T'.heap H' ∧ Steps p.tables e below (T.setTop (mkF m pc (mmUL n0 L) (mmUV n0 S))) (T'.setFrames fs) ∧ (T'.setFrames fs).status = .running ∧ Ended (T'.setFrames fs) below (.returned (v.map (mmUp n0))) ∧
      s.WarmedH (T'.setFrames fs).vm ∧ s.sameButNew ({ T'.setFrames fs with vm := s.vm } : State) locs cells sl'
  | 0, _, _, _, _, _, _, _, _, _, h, _, _, _, _ => nomatch h
  | f + 1, pc, sl, L, S, H, v, H', sl', T, h, hL, Iv, hc, hs => by
    unfold mmRun at h
    split at h
    · cases h
    · rename_i i hi
      have hd := hI _ _ hi
      split at h
      · rename_i v' hv
        cases h
        obtain ⟨locs, cells, X, hcl, N, rel⟩ := Iv
        obtain ⟨fs, hr, hrun, hended, hW, hsame⟩ := X.leave (v := v.map (mmUp n0)) (fun z => by rw [mmRet_none hv (hret.symm.trans z)]; rfl) hlk
        exact ⟨T, locs, cells, fs, hcl, N, rel, mmRet_ok X hx hret hv hd hr, hrun, hended, hW, hsame⟩
      · split at h
        · rename_i hst
          have mn := mmRun_mono (mmTabOk_mono hK) h
          obtain ⟨q1, T1, Iv1, st⟩ := mmStep_ok hx hZ hown hnm hCT hK hs0 hL Iv (Nat.le_trans mn.1 hc) (Nat.le_trans mn.2 hs) hd hst
          obtain ⟨T', locs, cells, fs, r1, r2, r3, r4, r5⟩ := mmRun_ok hx hZ hown hnm hret hlk hCT hK hs0 hI h (q1.trans hL) Iv1 hc hs
          exact ⟨T', locs, cells, fs, r1, r2, r3, st _ r4, r5⟩
        · cases h
end MMRunOk
theorem mmLaid_up (n0 : Nat) : ∀ as : List Value, Jvm.Sym.laidSlots (mmUV n0 as) = (Jvm.Sym.laidSlots as).map (mmUpS n0)
  | [] => rfl
  | v :: r => by
    have e1 : mmUV n0 (v :: r) = mmUp n0 v :: mmUV n0 r := rfl
    have e2 : ∀ (w : Value) (q : List Value), Jvm.Sym.laidSlots (w :: q) = if w.category = 2 then .val w :: .second :: Jvm.Sym.laidSlots q else .val w :: Jvm.Sym.laidSlots q := fun _ _ => rfl
    rw [e1, e2, e2, mmUp_cat, mmLaid_up n0 r]
    split <;> rfl
theorem mmEntry_up (n0 n : Nat) (m : MethodId) (as : List Value) : entryFrame m (mmUV n0 as).toArray n = mkF m 0 (mmUL n0 (mmEntry as n)) [] := by
  have e1 : argsToLocals (mmUV n0 as).toArray n = mmUL n0 (mmEntry as n) := Array.toList_inj.mp (by
    rw [Jvm.Sym.argsToLocals_toList]
    simp [mmEntry, mmLaid_up, mmUpS])
  unfold entryFrame
  rw [e1]
set_option maxHeartbeats 4000000 in
theorem mmMet {CT : List MCls} {l : Launch} {Z : State} {a0 : Array Value} {y : MethodName} {bytes : ByteArray} {maxL : Nat} {ret : Option FieldType} {rm : Room} {K : MTab} {I : Nat → Option Instr} (hpl : plainFor y = true) (hI : ∀ pc i, I pc = some i → decode bytes pc = .ok (i, mmLen i))
    (hCT : mmAll (mmClsOk Z a0) CT) (hK : mmTabOk CT l Z a0 y.cls y.name rm K) (ws : List Jvm.Cond) {fuel n0 ds : Nat} {as : List Value} {H H' : MHeap} {v : Option Value} {h0 : Heap}
    (hrun : mmBody K I ret maxL fuel as H = some (v, H', ds)) (rel : mmRel CT Z n0 h0 H) (hc : H'.length ≤ H.length + rm.cells) (hs : ds ≤ rm.slots) :
    MetFree l y (head1 (Jvm.Cond.code y bytes maxL ret :: ws) rm) (fun a U => a = (mmUV n0 as).toArray ∧ Z.Warmed39 U.vm ∧ U.heap = h0) (fun _ _ _ _ _ => True)
      (fun _ U o U' => ∃ w L, o = .returned w ∧ (w = v.map (mmUp n0) ∧ Fr n0 L ∧ mmRel CT Z n0 U'.heap H') ∧ FrameEnd U o U' L rm.cells rm.slots) := by
  refine MetFree.of_bodySF hpl hisR ?_
  intro p e s m args below meth c s₁ Bd hml0 hP hK0
  obtain ⟨rfl, hZ, hh⟩ := hP
  have hby := Bd.bytes
  have hown : s.vm.findClass y.cls = some m.cls := findClass_of_methodNamed Bd.named
  have hnm := (name_of_methodNamed Bd.named Bd.method).1
  have X0 : Stand p l e rm s m (mmUV n0 as).toArray below meth c s₁ [] 0 0 := Stand.of_body Bd
  have e0 : s₁.heap = h0 := by rw [← hh, Bd.state]; rfl
  unfold mmBody at hrun
  split at hrun
  · rename_i hlen
    obtain ⟨T', locs, cells, fs, r1, r2, r3, r4, r5, r6, r7, r8⟩ := mmRun_ok (own := y.cls) (name := y.name) (n0 := n0) (hl0 := H.length) Bd.exec hZ hown hnm Bd.returns Bd.notSynchronized hCT hK (by rw [hh]; exact rel.1) (fun pc i h => by rw [hby]; exact hI pc i h) hrun (hlen.trans hml0.symm) ⟨[], 0, X0, Nat.zero_add _, Fr.nil n0, by rw [e0]; exact rel⟩ hc hs
    refine ⟨_, _, ?_, r5, r6, _, locs, rfl, ⟨rfl, r2, r3⟩, ⟨_, rfl⟩, r7, r8.mono (by omega) hs⟩
    exact castTop (mmEntry_up n0 maxL m as) r4
  · cases hrun
/-- what is known of a callee: it makes no cell vanish, and its runs are walks -/
def mmGood (CT : List MCls) (l : Launch) (Z : State) (y : MethodName) (bytes : ByteArray) (maxL : Nat) (ret : Option FieldType) (fr lo : Nat) (K : MKall) : Prop :=
  mmKMono K ∧ ∀ {n0 : Nat} {h0 : Heap} {H H' : MHeap} {as : List Value} {v : Option Value} {ds : Nat}, K as H = some (v, H', ds) → mmRel CT Z n0 h0 H →
    MetFree l y (head1 [Jvm.Cond.code y bytes maxL ret] { frames := fr, cells := H'.length - H.length, slots := ds, locals := lo }) (fun a U => a = (mmUV n0 as).toArray ∧ Z.Warmed39 U.vm ∧ U.heap = h0) (fun _ _ _ _ _ => True)
      (fun _ U o U' => ∃ w L, o = .returned w ∧ (w = v.map (mmUp n0) ∧ Fr n0 L ∧ mmRel CT Z n0 U'.heap H') ∧ FrameEnd U o U' L (H'.length - H.length) ds)
theorem mmGood_of {CT : List MCls} {l : Launch} {Z : State} {a0 : Array Value} {y : MethodName} {bytes : ByteArray} {maxL : Nat} {ret : Option FieldType} {fr lo : Nat} {K : MTab} {I : Nat → Option Instr} (fuel : Nat) (hpl : plainFor y = true) (hI : ∀ pc i, I pc = some i → decode bytes pc = .ok (i, mmLen i))
    (hCT : mmAll (mmClsOk Z a0) CT) (hK : ∀ ce sl : Nat, mmTabOk CT l Z a0 y.cls y.name { frames := fr, cells := ce, slots := sl, locals := lo } K) : mmGood CT l Z y bytes maxL ret fr lo (mmBody K I ret maxL fuel) :=
  ⟨mmBody_mono (mmTabOk_mono (hK 0 0)), fun {n0 h0 H H' as v ds} h rel => by
    have mn := mmBody_mono (mmTabOk_mono (hK 0 0)) _ _ _ _ _ h
    exact mmMet hpl hI hCT (hK (H'.length - H.length) ds) [] h rel (by show H'.length ≤ H.length + (H'.length - H.length); omega) (Nat.le_refl _)⟩
theorem mmGood_sub {CT : List MCls} {l : Launch} {Z : State} {y : MethodName} {bytes : ByteArray} {maxL : Nat} {ret : Option FieldType} {fr lo : Nat} {K K' : MKall} (h : ∀ as H r, K' as H = some r → K as H = some r) (G : mmGood CT l Z y bytes maxL ret fr lo K) : mmGood CT l Z y bytes maxL ret fr lo K' :=
  ⟨fun as H v H' ds q => G.1 as H v H' ds (h _ _ _ q), fun q rel => G.2 (h _ _ _ q) rel⟩
section MMCalls
variable {CT : List MCls} {l : Launch} {Z : State} {a0 : Array Value} {own : String} {R : Room} {y : MethodName} {bytes : ByteArray} {maxL : Nat} {ret : Option FieldType} {fr lo na W idx : Nat} {K : MKall}
theorem mmCallS (w1 : (Cond.methodLink own idx y).before a0 Z = true) (w2 : (Cond.static y).before a0 Z = true) (w3 : (Cond.initialized y.cls).before a0 Z = true) (w4 : (Cond.code y bytes maxL ret).before a0 Z = true)
    (hy : y.cls ≠ "java/lang/invoke/MethodHandle" ∧ y.cls ≠ "java/lang/invoke/VarHandle") (G : mmGood CT l Z y bytes maxL ret fr lo K) (hf : fr + 1 ≤ R.frames) (hl : W + (maxL + 11) + lo ≤ R.locals) {ps : List FieldType} {rt : Option FieldType} (hn : parseMethodDescriptor y.desc = some ⟨ps, rt⟩) (hna : na = ps.length) :
    mmCallOk CT l Z own R (.invokestatic idx) (na, none, W, K) := by
  refine ⟨G.1, ?_⟩
  intro p e s m args below meth c T locs cells slots n0 pc H H' Ls as r v ds X hx hZ hown rel hLs hd has hrc hcat hK hce hsl
  obtain ⟨_, _, ⟨T1, L1, k1, j1⟩, -, X1, ⟨Lc, ⟨q1, q2, q3⟩, l1, y1, z1⟩, st⟩ := Jvm.LawKit.callS X hx (y := y) hown (mvT hZ w1) (mvT hZ w2) (mvT hZ w3) (mvT hZ w4) hy
    (backOf (W := W) (Q := fun w hp L => w = v.map (mmUp n0) ∧ Fr n0 L ∧ mmRel CT Z n0 hp H') (G.2 (h0 := T.heap) hK rel) hZ w4 w3 hf hl)
    (g := mkF m pc Ls (mmUV n0 (as.reverse ++ r))) rfl hLs (argsL := mmUV n0 as) (rest := mmUV n0 r) (lenOf hn (by simp; exact has.trans hna)) (by simp [mmUV]) (by rw [mmCat_up]; show 2 * 0 + mmCat r ≤ W; rw [Nat.mul_zero, Nat.zero_add]; exact hcat) hd (fun _ _ => ⟨rfl, rfl, hce, hsl⟩)
  dsimp only [Pt.U, Pt.locs, Pt.cells, Pt.slots] at X1 l1 y1 z1 st q3
  subst l1 y1 z1
  refine ⟨T1, Lc, X1, q3, q2, fun target hr => st target ?_⟩
  subst q1
  have e1 : mmUV n0 (v.toList ++ r) = (v.map (mmUp n0)).toList ++ mmUV n0 r := by cases v <;> simp [mmUV]
  rw [e1] at hr
  exact hr
theorem mmCallV {k n : Nat} {fs : List MFld} {C : String} (hk : CT[k]? = some (C, n, fs)) (w1 : (Cond.methodLink own idx y).before a0 Z = true) (w2 : (Cond.declares y).before a0 Z = true) (w5 : (Cond.selects C y y).before a0 Z = true) (w6 : (Cond.instanceMethod y).before a0 Z = true) (w3 : (Cond.initialized y.cls).before a0 Z = true) (w4 : (Cond.code y bytes maxL ret).before a0 Z = true)
    (hy : y.cls ≠ "java/lang/invoke/MethodHandle" ∧ y.cls ≠ "java/lang/invoke/VarHandle") (G : mmGood CT l Z y bytes maxL ret fr lo K) (hf : fr + 1 ≤ R.frames) (hl : W + (maxL + 11) + lo ≤ R.locals) {ps : List FieldType} {rt : Option FieldType} (hn : parseMethodDescriptor y.desc = some ⟨ps, rt⟩) (hna : na = ps.length + 1) :
    mmCallOk CT l Z own R (.invokevirtual idx) (na, some k, W, K) := by
  refine ⟨G.1, ?_⟩
  intro p e s m args below meth c T locs cells slots n0 pc H H' Ls as r v ds X hx hZ hown rel hLs hd has hrc hcat hK hce hsl
  obtain ⟨a, as', vs, rfl, hH⟩ : ∃ (a : Nat) (as' vs : List Value), as = .ref a :: as' ∧ H[a]? = some (.inl (k, vs)) := by
    unfold mmRecv at hrc
    dsimp only at hrc
    split at hrc
    · rename_i a as'
      split at hrc
      · rename_i k' vs hq
        rw [mmNth_eq] at hq
        simp only [beq_iff_eq] at hrc
        subst hrc
        exact ⟨a, as', vs, rfl, hq⟩
      · cases hrc
    · cases hrc
  obtain ⟨C', n', fs', r1, E, -, -⟩ := rel.2 a _ hH
  cases hk.symm.trans r1
  obtain ⟨cq, kq, qa, qb, qc⟩ := isOf hZ rfl E
  obtain ⟨_, _, ⟨T1, L1, k1, j1⟩, -, X1, ⟨Lc, ⟨q1, q2, q3⟩, l1, y1, z1⟩, st⟩ := X.virtualBack hx (y := y) (z := y) hown (mvT hZ w1) (mvT hZ w2) (notFace_of_selects (args := #[]) (mvT hZ w5)) (mvT hZ w5) (mvT hZ w6) hy
    (backOf (W := W) (Q := fun w hp L => w = v.map (mmUp n0) ∧ Fr n0 L ∧ mmRel CT Z n0 hp H') (G.2 (h0 := T.heap) hK rel) hZ w4 w3 hf hl) qa qc
    (g := mkF m pc Ls (mmUV n0 ((.ref a :: as').reverse ++ r))) rfl hLs (Steps.refl _) (argsL := mmUV n0 as') (rest := mmUV n0 r) (lenOf hn (by simp at has ⊢; omega)) (by simp [mmUV, mmUp]) (by rw [mmCat_up]; show 2 * 0 + mmCat r ≤ W; rw [Nat.mul_zero, Nat.zero_add]; exact hcat) hd (fun _ _ => ⟨rfl, rfl, hce, hsl⟩)
  dsimp only [Pt.U, Pt.locs, Pt.cells, Pt.slots] at X1 l1 y1 z1 st q3
  subst l1 y1 z1
  refine ⟨T1, Lc, X1, q3, q2, fun target hr => st.trans ?_⟩
  subst q1
  have e1 : mmUV n0 (v.toList ++ r) = (v.map (mmUp n0)).toList ++ mmUV n0 r := by cases v <;> simp [mmUV]
  rw [e1] at hr
  exact hr
theorem mmCallP {k n : Nat} {fs : List MFld} (hk : CT[k]? = some (y.cls, n, fs)) (hcls : mmClsOk Z a0 (y.cls, n, fs)) (w1 : (Cond.methodLink own idx y).before a0 Z = true) (w6 : (Cond.instanceMethod y).before a0 Z = true) (w7 : (Cond.privateMethod y).before a0 Z = true) (w3 : (Cond.initialized y.cls).before a0 Z = true) (w4 : (Cond.code y bytes maxL ret).before a0 Z = true)
    (hy : y.cls ≠ "java/lang/invoke/MethodHandle" ∧ y.cls ≠ "java/lang/invoke/VarHandle") (G : mmGood CT l Z y bytes maxL ret fr lo K) (hf : fr + 1 ≤ R.frames) (hl : W + (maxL + 11) + lo ≤ R.locals) {ps : List FieldType} {rt : Option FieldType} (hn : parseMethodDescriptor y.desc = some ⟨ps, rt⟩) (hna : na = ps.length + 1) :
    mmCallOk CT l Z own R (.invokevirtual idx) (na, some k, W, K) := by
  refine ⟨G.1, ?_⟩
  intro p e s m args below meth c T locs cells slots n0 pc H H' Ls as r v ds X hx hZ hown rel hLs hd has hrc hcat hK hce hsl
  obtain ⟨a, as', vs, rfl, hH⟩ : ∃ (a : Nat) (as' vs : List Value), as = .ref a :: as' ∧ H[a]? = some (.inl (k, vs)) := by
    unfold mmRecv at hrc
    dsimp only at hrc
    split at hrc
    · rename_i a as'
      split at hrc
      · rename_i k' vs hq
        rw [mmNth_eq] at hq
        simp only [beq_iff_eq] at hrc
        subst hrc
        exact ⟨a, as', vs, rfl, hq⟩
      · cases hrc
    · cases hrc
  obtain ⟨C', n', fs', r1, E, -, -⟩ := rel.2 a _ hH
  cases hk.symm.trans r1
  obtain ⟨cq, qa, qb⟩ := E.cell
  have hpriv : s.PrivateAt y := Cond.privateMethod_at (mvP hZ w7 (args := #[]))
  have hsel : (Cond.selects y.cls y y).before args s = true := by
    obtain ⟨c2, k2, i1, i2, -, i4, -⟩ := Cond.instantiable_spec (mvT (args := args) hZ hcls.1)
    exact selects_self_of_private i1 i2 (by simp only [Bool.or_eq_false_iff] at i4; exact i4.1) hpriv (mvT hZ w6) hy
  obtain ⟨_, _, ⟨T1, L1, k1, j1⟩, -, X1, ⟨Lc, ⟨q1, q2, q3⟩, l1, y1, z1⟩, st⟩ := X.privateBack hx (y := y) hown (mvT hZ w1) (mvT hZ w6) hsel hpriv (mvT hZ w4) hy
    (backOf (W := W) (Q := fun w hp L => w = v.map (mmUp n0) ∧ Fr n0 L ∧ mmRel CT Z n0 hp H') (G.2 (h0 := T.heap) hK rel) hZ w4 w3 hf hl)
    (g := mkF m pc Ls (mmUV n0 ((.ref a :: as').reverse ++ r))) rfl hLs (Steps.refl _) (a := n0 + a) qa qb (argsL := mmUV n0 as') (rest := mmUV n0 r) (lenOf hn (by simp at has ⊢; omega)) (by simp [mmUV, mmUp]) (by rw [mmCat_up]; show 2 * 0 + mmCat r ≤ W; rw [Nat.mul_zero, Nat.zero_add]; exact hcat) hd (fun _ _ => ⟨rfl, rfl, hce, hsl⟩)
  dsimp only [Pt.U, Pt.locs, Pt.cells, Pt.slots] at X1 l1 y1 z1 st q3
  subst l1 y1 z1
  refine ⟨T1, Lc, X1, q3, q2, fun target hr => st.trans ?_⟩
  subst q1
  have e1 : mmUV n0 (v.toList ++ r) = (v.map (mmUp n0)).toList ++ mmUV n0 r := by cases v <;> simp [mmUV]
  rw [e1] at hr
  exact hr
theorem mmCallI (hy1 : y.name = "<init>") (w1 : (Cond.methodLink own idx y).before a0 Z = true) (w6 : (Cond.instanceMethod y).before a0 Z = true) (w3 : (Cond.initialized y.cls).before a0 Z = true) (w4 : (Cond.code y bytes maxL none).before a0 Z = true)
    (hy : y.cls ≠ "java/lang/invoke/MethodHandle" ∧ y.cls ≠ "java/lang/invoke/VarHandle") {k : Nat} (G : mmGood CT l Z y bytes maxL none fr lo K) (hf : fr + 1 ≤ R.frames) (hl : W + (maxL + 11) + lo ≤ R.locals) {ps : List FieldType} {rt : Option FieldType} (hn : parseMethodDescriptor y.desc = some ⟨ps, rt⟩) (hna : na = ps.length + 1) :
    mmCallOk CT l Z own R (.invokespecial idx) (na, some k, W, K) := by
  refine ⟨G.1, ?_⟩
  intro p e s m args below meth c T locs cells slots n0 pc H H' Ls as r v ds X hx hZ hown rel hLs hd has hrc hcat hK hce hsl
  obtain ⟨a, as', rfl⟩ : ∃ (a : Nat) (as' : List Value), as = .ref a :: as' := by
    unfold mmRecv at hrc
    dsimp only at hrc
    split at hrc
    · exact ⟨_, _, rfl⟩
    · cases hrc
  obtain ⟨_, _, ⟨T1, L1, k1, j1⟩, -, X1, ⟨Lc, ⟨q1, q2, q3⟩, l1, y1, z1⟩, st⟩ := X.specialBack hx (y := y) hy1 hown (mvT hZ w1) (mvT hZ w6) (mvT hZ w4) hy
    (backOf (W := W) (Q := fun w hp L => w = v.map (mmUp n0) ∧ Fr n0 L ∧ mmRel CT Z n0 hp H') (G.2 (h0 := T.heap) hK rel) hZ w4 w3 hf hl)
    (g := mkF m pc Ls (mmUV n0 ((.ref a :: as').reverse ++ r))) rfl hLs (Steps.refl _) (a := n0 + a) (argsL := mmUV n0 as') (rest := mmUV n0 r) (lenOf hn (by simp at has ⊢; omega)) (by simp [mmUV, mmUp]) (by rw [mmCat_up]; show 2 * 0 + mmCat r ≤ W; rw [Nat.mul_zero, Nat.zero_add]; exact hcat) hd (fun _ _ => ⟨rfl, rfl, hce, hsl⟩)
  dsimp only [Pt.U, Pt.locs, Pt.cells, Pt.slots] at X1 l1 y1 z1 st q3
  subst l1 y1 z1
  refine ⟨T1, Lc, X1, q3, q2, fun target hr => st.trans ?_⟩
  subst q1
  have e1 : mmUV n0 (v.toList ++ r) = (v.map (mmUp n0)).toList ++ mmUV n0 r := by cases v <;> simp [mmUV]
  rw [e1] at hr
  exact hr
end MMCalls

/-! ### the table of a body's instructions -/
def mmCut (N : Nat) (t : Nat → Option Instr) (pc : Nat) : Option Instr := bif Nat.blt pc N then t pc else none
theorem mmCut_ok {bytes : ByteArray} {N : Nat} {t : Nat → Option Instr} (h : mmChk bytes (mmCut N t) N = true) : ∀ pc i, mmCut N t pc = some i → decode bytes pc = .ok (i, mmLen i) := fun pc i hi => by
  by_cases q : pc < N
  · exact mmChk_ok h pc i q hi
  · have e : Nat.blt pc N = false := by rw [Bool.eq_false_iff]; intro z; exact q (Nat.blt_eq.mp z)
    unfold mmCut at hi
    rw [e] at hi
    cases hi

/-! ### walking the small machine -/
def mmStep1 (K : MTab) (I : Nat → Option Instr) (ret : Option FieldType) (pc : Nat) (L : List Slot) (S : List Value) (H : MHeap) (sl : Nat) : Option MSt :=
  match I pc with
  | none => none
  | some i => (match mmRet ret i S with | some _ => none | none => mmStep K i pc L S H sl)
def mmStepN (K : MTab) (I : Nat → Option Instr) (ret : Option FieldType) : Nat → Nat → List Slot → List Value → MHeap → Nat → Option MSt
  | 0, pc, L, S, H, sl => some (pc, L, S, H, sl)
  | k + 1, pc, L, S, H, sl => (match mmStep1 K I ret pc L S H sl with | some (pc', L', S', H', sl') => mmStepN K I ret k pc' L' S' H' sl' | none => none)
theorem mmRun_eq {K : MTab} {I : Nat → Option Instr} {ret : Option FieldType} (n pc : Nat) (L : List Slot) (S : List Value) (H : MHeap) (sl : Nat) : mmRun K I ret (n + 1) pc L S H sl = (match I pc with
    | none => none
    | some i => (match mmRet ret i S with
      | some v => some (v, H, sl)
      | none => (match mmStep K i pc L S H sl with
        | some (pc', L', S', H', sl') => mmRun K I ret n pc' L' S' H' sl'
        | none => none))) := rfl
theorem mmRun_step1 {K : MTab} {I : Nat → Option Instr} {ret : Option FieldType} {n pc sl pc' sl' : Nat} {L L' : List Slot} {S S' : List Value} {H H' : MHeap} (h : mmStep1 K I ret pc L S H sl = some (pc', L', S', H', sl')) : mmRun K I ret (n + 1) pc L S H sl = mmRun K I ret n pc' L' S' H' sl' := by
  rw [mmRun_eq]
  unfold mmStep1 at h
  cases hi : I pc with
  | none => rw [hi] at h; cases h
  | some i =>
    rw [hi] at h
    dsimp only at h ⊢
    cases hr : mmRet ret i S with
    | some v => rw [hr] at h; cases h
    | none =>
      rw [hr] at h
      dsimp only at h ⊢
      rw [h]
theorem mmRun_steps {K : MTab} {I : Nat → Option Instr} {ret : Option FieldType} {n : Nat} : ∀ {k pc sl pc' sl' : Nat} {L L' : List Slot} {S S' : List Value} {H H' : MHeap}, mmStepN K I ret k pc L S H sl = some (pc', L', S', H', sl') → mmRun K I ret (n + k) pc L S H sl = mmRun K I ret n pc' L' S' H' sl'
  | 0, _, _, _, _, _, _, _, _, _, _, h => by cases h; rfl
  | k + 1, pc, sl, pc', sl', L, L', S, S', H, H', h => by
    unfold mmStepN at h
    split at h
    · rename_i h1
      rw [← Nat.add_assoc, mmRun_step1 h1]
      exact mmRun_steps h
    · cases h
/-- it ends, and so -/
def mmW (K : MTab) (I : Nat → Option Instr) (ret : Option FieldType) (n pc : Nat) (L : List Slot) (S : List Value) (H : MHeap) (sl : Nat) (Q : Option Value → MHeap → Nat → Prop) : Prop := ∃ v H' ds, mmRun K I ret n pc L S H sl = some (v, H', ds) ∧ Q v H' ds
theorem mmW_steps {K : MTab} {I : Nat → Option Instr} {ret : Option FieldType} {Q : Option Value → MHeap → Nat → Prop} {n k pc sl pc' sl' : Nat} {L L' : List Slot} {S S' : List Value} {H H' : MHeap} (h : mmStepN K I ret k pc L S H sl = some (pc', L', S', H', sl')) (w : mmW K I ret n pc' L' S' H' sl' Q) : mmW K I ret (n + k) pc L S H sl Q := by
  obtain ⟨v, H1, ds, h1, h2⟩ := w
  exact ⟨v, H1, ds, (mmRun_steps h).trans h1, h2⟩
theorem mmW_ret {K : MTab} {I : Nat → Option Instr} {ret : Option FieldType} {Q : Option Value → MHeap → Nat → Prop} {n pc sl : Nat} {L : List Slot} {S : List Value} {H : MHeap} {i : Instr} {v : Option Value} (h1 : I pc = some i) (h2 : mmRet ret i S = some v) (q : Q v H sl) : mmW K I ret (n + 1) pc L S H sl Q :=
  ⟨v, H, sl, by rw [mmRun_eq, h1]; dsimp only; rw [h2], q⟩
theorem mmRun_more {K : MTab} {I : Nat → Option Instr} {ret : Option FieldType} : ∀ {n pc sl : Nat} {L : List Slot} {S : List Value} {H : MHeap} {r : Option Value × MHeap × Nat}, mmRun K I ret n pc L S H sl = some r → mmRun K I ret (n + 1) pc L S H sl = some r
  | 0, _, _, _, _, _, _, h => nomatch h
  | n + 1, pc, sl, L, S, H, r, h => by
    rw [mmRun_eq] at h
    rw [mmRun_eq]
    cases hi : I pc with
    | none => rw [hi] at h; cases h
    | some i =>
      rw [hi] at h
      dsimp only at h ⊢
      cases hv : mmRet ret i S with
      | some v => rw [hv] at h; exact h
      | none =>
        rw [hv] at h
        dsimp only at h ⊢
        cases hs : mmStep K i pc L S H sl with
        | none => rw [hs] at h; cases h
        | some q =>
          obtain ⟨pc', L', S', H', sl'⟩ := q
          rw [hs] at h
          exact mmRun_more h
theorem mmW_more {K : MTab} {I : Nat → Option Instr} {ret : Option FieldType} {Q : Option Value → MHeap → Nat → Prop} {n pc sl : Nat} {L : List Slot} {S : List Value} {H : MHeap} (w : mmW K I ret n pc L S H sl Q) : ∀ d, mmW K I ret (n + d) pc L S H sl Q
  | 0 => w
  | d + 1 => by
    obtain ⟨v, H1, ds, h1, h2⟩ := mmW_more w d
    exact ⟨v, H1, ds, mmRun_more h1, h2⟩
theorem mmW_le {K : MTab} {I : Nat → Option Instr} {ret : Option FieldType} {Q : Option Value → MHeap → Nat → Prop} {n n' pc sl : Nat} {L : List Slot} {S : List Value} {H : MHeap} (hn : n ≤ n') (w : mmW K I ret n pc L S H sl Q) : mmW K I ret n' pc L S H sl Q := by
  obtain ⟨d, rfl⟩ := Nat.exists_eq_add_of_le hn
  exact mmW_more w d
theorem mmW_t {K : MTab} {I : Nat → Option Instr} {ret : Option FieldType} {Q : Option Value → MHeap → Nat → Prop} {n t f sl : Nat} {L : List Slot} {S : List Value} {H : MHeap} {c : Bool} (hc : c = true) (w : mmW K I ret n t L S H sl Q) : mmW K I ret n (if c = true then t else f) L S H sl Q := by rw [if_pos hc]; exact w
theorem mmW_f {K : MTab} {I : Nat → Option Instr} {ret : Option FieldType} {Q : Option Value → MHeap → Nat → Prop} {n t f sl : Nat} {L : List Slot} {S : List Value} {H : MHeap} {c : Bool} (hc : c = false) (w : mmW K I ret n f L S H sl Q) : mmW K I ret n (if c = true then t else f) L S H sl Q := by rw [hc, if_neg (by decide)]; exact w
/-- what the law's run must show -/
def mmLawQ (C D : Nat) (v : Option Value) (H : MHeap) (ds : Nat) : Prop := v = some (.int 1) ∧ H.length ≤ C ∧ ds ≤ D
theorem mmLaw_of {K : MTab} {I : Nat → Option Instr} {maxL fuel C D : Nat} {as : List Value} (hl : (mmEntry as maxL).length = maxL) (w : mmW K I (some .boolean) fuel 0 (mmEntry as maxL) [] [] 0 (mmLawQ C D)) : ∃ H' ds, mmBody K I (some .boolean) maxL fuel as [] = some (some (.int 1), H', ds) ∧ H'.length ≤ C ∧ ds ≤ D := by
  obtain ⟨v, H', ds, h1, rfl, h3, h4⟩ := w
  exact ⟨H', ds, by unfold mmBody; rw [if_pos hl]; exact h1, h3, h4⟩
theorem mmW_step1 {K : MTab} {I : Nat → Option Instr} {ret : Option FieldType} {Q : Option Value → MHeap → Nat → Prop} {n pc sl pc' sl' : Nat} {L L' : List Slot} {S S' : List Value} {H H' : MHeap} (h : mmStep1 K I ret pc L S H sl = some (pc', L', S', H', sl')) (w : mmW K I ret n pc' L' S' H' sl' Q) : mmW K I ret (n + 1) pc L S H sl Q := by
  obtain ⟨v, H1, ds, h1, h2⟩ := w
  exact ⟨v, H1, ds, (mmRun_step1 h).trans h1, h2⟩
theorem mmCall_at {kl : List (Nat × MCall)} {idx pc sl na W ds : Nat} {rc : Option Nat} {F : MKall} {L : List Slot} {S as r : List Value} {H H' : MHeap} {v : Option Value} (h1 : mmLook kl idx = some (na, rc, W, F)) (h2 : mmPop na S [] = some (as, r)) (h3 : mmRecv rc as H = true) (h4 : mmCat r ≤ W) (h5 : F as H = some (v, H', ds)) :
    mmCall kl idx pc L S H sl = some (pc + 3, L, v.toList ++ r, H', sl + ds) := by
  unfold mmCall
  rw [h1]; dsimp only
  rw [h2]; dsimp only
  rw [if_pos ⟨h3, h4⟩, h5]
theorem mmW_callS {K : MTab} {I : Nat → Option Instr} {ret : Option FieldType} {Q : Option Value → MHeap → Nat → Prop} {n idx pc sl na W ds : Nat} {rc : Option Nat} {F : MKall} {L : List Slot} {S as r : List Value} {H H' : MHeap} {v : Option Value} (h0 : I pc = some (.invokestatic idx)) (h1 : mmLook K.2.2.2.2.2.2.1 idx = some (na, rc, W, F)) (h2 : mmPop na S [] = some (as, r)) (h3 : mmRecv rc as H = true) (h4 : mmCat r ≤ W) (h5 : F as H = some (v, H', ds))
    (w : mmW K I ret n (pc + 3) L (v.toList ++ r) H' (sl + ds) Q) : mmW K I ret (n + 1) pc L S H sl Q := by
  refine mmW_step1 ?_ w
  unfold mmStep1
  rw [h0]
  exact mmCall_at h1 h2 h3 h4 h5
theorem mmW_callV {K : MTab} {I : Nat → Option Instr} {ret : Option FieldType} {Q : Option Value → MHeap → Nat → Prop} {n idx pc sl na W ds : Nat} {rc : Option Nat} {F : MKall} {L : List Slot} {S as r : List Value} {H H' : MHeap} {v : Option Value} (h0 : I pc = some (.invokevirtual idx)) (h1 : mmLook K.2.2.2.2.2.2.2.1 idx = some (na, rc, W, F)) (h2 : mmPop na S [] = some (as, r)) (h3 : mmRecv rc as H = true) (h4 : mmCat r ≤ W) (h5 : F as H = some (v, H', ds))
    (w : mmW K I ret n (pc + 3) L (v.toList ++ r) H' (sl + ds) Q) : mmW K I ret (n + 1) pc L S H sl Q := by
  refine mmW_step1 ?_ w
  unfold mmStep1
  rw [h0]
  exact mmCall_at h1 h2 h3 h4 h5
theorem mmW_callI {K : MTab} {I : Nat → Option Instr} {ret : Option FieldType} {Q : Option Value → MHeap → Nat → Prop} {n idx pc sl na W ds : Nat} {rc : Option Nat} {F : MKall} {L : List Slot} {S as r : List Value} {H H' : MHeap} {v : Option Value} (h0 : I pc = some (.invokespecial idx)) (h1' : mmLook K.2.2.2.2.2.1 idx = none) (h1 : mmLook K.2.2.2.2.2.2.2.2 idx = some (na, rc, W, F)) (h2 : mmPop na S [] = some (as, r)) (h3 : mmRecv rc as H = true) (h4 : mmCat r ≤ W) (h5 : F as H = some (v, H', ds))
    (w : mmW K I ret n (pc + 3) L (v.toList ++ r) H' (sl + ds) Q) : mmW K I ret (n + 1) pc L S H sl Q := by
  refine mmW_step1 ?_ w
  unfold mmStep1
  rw [h0]
  show (match mmLook K.2.2.2.2.2.1 idx with | some W => (match S with | .ref _ :: r => if mmCat r ≤ W then some (pc + 3, L, r, H, sl) else none | _ => none) | none => mmCall K.2.2.2.2.2.2.2.2 idx pc L S H sl) = _
  rw [h1']
  exact mmCall_at h1 h2 h3 h4 h5
theorem mmB_of {K : MTab} {I : Nat → Option Instr} {ret : Option FieldType} {maxL fuel d0 : Nat} {as : List Value} {H H0 : MHeap} {v0 : Option Value} (hl : (mmEntry as maxL).length = maxL) (w : mmW K I ret fuel 0 (mmEntry as maxL) [] H 0 (fun v H' ds => v = v0 ∧ H' = H0 ∧ ds = d0)) : mmBody K I ret maxL fuel as H = some (v0, H0, d0) := by
  obtain ⟨v, H', ds, h1, rfl, rfl, rfl⟩ := w
  unfold mmBody
  rw [if_pos hl]; exact h1
def mmOkB (r : Option (Option Value × MHeap × Nat)) (C D : Nat) : Bool :=
  match r with
  | some (some (.int v), H, ds) => decide (v = 1) && Nat.ble H.length C && Nat.ble ds D
  | _ => false
theorem mmW_of_okB {K : MTab} {I : Nat → Option Instr} {ret : Option FieldType} {n pc sl C D : Nat} {L : List Slot} {S : List Value} {H : MHeap} (h : mmOkB (mmRun K I ret n pc L S H sl) C D = true) : mmW K I ret n pc L S H sl (mmLawQ C D) := by
  unfold mmOkB at h
  split at h
  · rename_i v H' ds hr
    simp only [Bool.and_eq_true, decide_eq_true_eq] at h
    obtain ⟨⟨h1, h2⟩, h3⟩ := h
    subst h1
    exact ⟨_, H', ds, hr, rfl, Nat.le_of_ble_eq_true h2, Nat.le_of_ble_eq_true h3⟩
  · cases h
theorem mmW_newA {K : MTab} {I : Nat → Option Instr} {ret : Option FieldType} {Q : Option Value → MHeap → Nat → Prop} {n pc sl : Nat} {L : List Slot} {r : List Value} {H : MHeap} {t : ArrayType} {z : Int32} (h0 : I pc = some (.newarray t)) (h1 : mmHasTy K.2.2.2.2.1 t = true) (h2 : ¬ z < 0) (h3 : z.toNatClampNeg ≤ 67108864)
    (w : mmW K I ret n (pc + 2) L (.ref H.length :: r) (H ++ [.inr (newarray.typeOf t, List.replicate z.toNatClampNeg (defaultValue (newarray.typeOf t)))]) (sl + z.toNatClampNeg) Q) : mmW K I ret (n + 1) pc L (.int z :: r) H sl Q := by
  refine mmW_step1 ?_ w
  unfold mmStep1
  rw [h0]
  exact if_pos ⟨h1, h2, h3⟩
theorem mmW_iaload {K : MTab} {I : Nat → Option Instr} {ret : Option FieldType} {Q : Option Value → MHeap → Nat → Prop} {n pc sl a : Nat} {L : List Slot} {r vs : List Value} {H : MHeap} {j : Int32} {v : Value} (h0 : I pc = some .iaload) (h1 : mmNth H a = some (.inr (.int, vs))) (h2 : ¬ j < 0) (h3 : mmNth vs j.toNatClampNeg = some v) (w : mmW K I ret n (pc + 1) L (v :: r) H sl Q) : mmW K I ret (n + 1) pc L (.int j :: .ref a :: r) H sl Q := by
  refine mmW_step1 ?_ w
  unfold mmStep1
  rw [h0]
  show mmALd .int pc L (.int j :: .ref a :: r) H sl = _
  unfold mmALd; dsimp only
  rw [h1]; dsimp only
  rw [if_pos ⟨rfl, h2⟩, h3]
theorem mmW_laload {K : MTab} {I : Nat → Option Instr} {ret : Option FieldType} {Q : Option Value → MHeap → Nat → Prop} {n pc sl a : Nat} {L : List Slot} {r vs : List Value} {H : MHeap} {j : Int32} {v : Value} (h0 : I pc = some .laload) (h1 : mmNth H a = some (.inr (.long, vs))) (h2 : ¬ j < 0) (h3 : mmNth vs j.toNatClampNeg = some v) (w : mmW K I ret n (pc + 1) L (v :: r) H sl Q) : mmW K I ret (n + 1) pc L (.int j :: .ref a :: r) H sl Q := by
  refine mmW_step1 ?_ w
  unfold mmStep1
  rw [h0]
  show mmALd .long pc L (.int j :: .ref a :: r) H sl = _
  unfold mmALd; dsimp only
  rw [h1]; dsimp only
  rw [if_pos ⟨rfl, h2⟩, h3]
theorem mmW_caload {K : MTab} {I : Nat → Option Instr} {ret : Option FieldType} {Q : Option Value → MHeap → Nat → Prop} {n pc sl a : Nat} {L : List Slot} {r vs : List Value} {H : MHeap} {j : Int32} {v : Value} (h0 : I pc = some .caload) (h1 : mmNth H a = some (.inr (.char, vs))) (h2 : ¬ j < 0) (h3 : mmNth vs j.toNatClampNeg = some v) (w : mmW K I ret n (pc + 1) L (v :: r) H sl Q) : mmW K I ret (n + 1) pc L (.int j :: .ref a :: r) H sl Q := by
  refine mmW_step1 ?_ w
  unfold mmStep1
  rw [h0]
  show mmALd .char pc L (.int j :: .ref a :: r) H sl = _
  unfold mmALd; dsimp only
  rw [h1]; dsimp only
  rw [if_pos ⟨rfl, h2⟩, h3]
theorem mmW_baload {K : MTab} {I : Nat → Option Instr} {ret : Option FieldType} {Q : Option Value → MHeap → Nat → Prop} {n pc sl a : Nat} {L : List Slot} {r vs : List Value} {H : MHeap} {j : Int32} {v : Value} (h0 : I pc = some .baload) (h1 : mmNth H a = some (.inr (.byte, vs))) (h2 : ¬ j < 0) (h3 : mmNth vs j.toNatClampNeg = some v) (w : mmW K I ret n (pc + 1) L (v :: r) H sl Q) : mmW K I ret (n + 1) pc L (.int j :: .ref a :: r) H sl Q := by
  refine mmW_step1 ?_ w
  unfold mmStep1
  rw [h0]
  show mmALd .byte pc L (.int j :: .ref a :: r) H sl = _
  unfold mmALd; dsimp only
  rw [h1]; dsimp only
  rw [if_pos ⟨rfl, h2⟩, h3]
theorem mmW_iastore {K : MTab} {I : Nat → Option Instr} {ret : Option FieldType} {Q : Option Value → MHeap → Nat → Prop} {n pc sl a : Nat} {L : List Slot} {r vs : List Value} {H : MHeap} {j : Int32} {x : Int32} (h0 : I pc = some .iastore) (h1 : mmNth H a = some (.inr (.int, vs))) (h2 : ¬ j < 0) (h3 : j.toNatClampNeg < vs.length) (w : mmW K I ret n (pc + 1) L r (H.set a (.inr (.int, vs.set j.toNatClampNeg (.int x)))) sl Q) : mmW K I ret (n + 1) pc L (.int x :: .int j :: .ref a :: r) H sl Q := by
  refine mmW_step1 ?_ w
  unfold mmStep1
  rw [h0]
  show mmASt .int (.int x) j a r pc L H sl = _
  unfold mmASt
  rw [h1]; dsimp only
  rw [if_pos ⟨rfl, h2, h3⟩]
theorem mmW_lastore {K : MTab} {I : Nat → Option Instr} {ret : Option FieldType} {Q : Option Value → MHeap → Nat → Prop} {n pc sl a : Nat} {L : List Slot} {r vs : List Value} {H : MHeap} {j : Int32} {x : Int64} (h0 : I pc = some .lastore) (h1 : mmNth H a = some (.inr (.long, vs))) (h2 : ¬ j < 0) (h3 : j.toNatClampNeg < vs.length) (w : mmW K I ret n (pc + 1) L r (H.set a (.inr (.long, vs.set j.toNatClampNeg (.long x)))) sl Q) : mmW K I ret (n + 1) pc L (.long x :: .int j :: .ref a :: r) H sl Q := by
  refine mmW_step1 ?_ w
  unfold mmStep1
  rw [h0]
  show mmASt .long (.long x) j a r pc L H sl = _
  unfold mmASt
  rw [h1]; dsimp only
  rw [if_pos ⟨rfl, h2, h3⟩]
theorem mmW_castore {K : MTab} {I : Nat → Option Instr} {ret : Option FieldType} {Q : Option Value → MHeap → Nat → Prop} {n pc sl a : Nat} {L : List Slot} {r vs : List Value} {H : MHeap} {j : Int32} {x : Int32} (h0 : I pc = some .castore) (h1 : mmNth H a = some (.inr (.char, vs))) (h2 : ¬ j < 0) (h3 : j.toNatClampNeg < vs.length) (w : mmW K I ret n (pc + 1) L r (H.set a (.inr (.char, vs.set j.toNatClampNeg (.int (nar .char x))))) sl Q) : mmW K I ret (n + 1) pc L (.int x :: .int j :: .ref a :: r) H sl Q := by
  refine mmW_step1 ?_ w
  unfold mmStep1
  rw [h0]
  show mmASt .char (.int (nar .char x)) j a r pc L H sl = _
  unfold mmASt
  rw [h1]; dsimp only
  rw [if_pos ⟨rfl, h2, h3⟩]
theorem mmW_bastore {K : MTab} {I : Nat → Option Instr} {ret : Option FieldType} {Q : Option Value → MHeap → Nat → Prop} {n pc sl a : Nat} {L : List Slot} {r vs : List Value} {H : MHeap} {j : Int32} {x : Int32} (h0 : I pc = some .bastore) (h1 : mmNth H a = some (.inr (.byte, vs))) (h2 : ¬ j < 0) (h3 : j.toNatClampNeg < vs.length) (w : mmW K I ret n (pc + 1) L r (H.set a (.inr (.byte, vs.set j.toNatClampNeg (.int (nar .byte x))))) sl Q) : mmW K I ret (n + 1) pc L (.int x :: .int j :: .ref a :: r) H sl Q := by
  refine mmW_step1 ?_ w
  unfold mmStep1
  rw [h0]
  show mmASt .byte (.int (nar .byte x)) j a r pc L H sl = _
  unfold mmASt
  rw [h1]; dsimp only
  rw [if_pos ⟨rfl, h2, h3⟩]
theorem mmW_lrem {K : MTab} {I : Nat → Option Instr} {ret : Option FieldType} {Q : Option Value → MHeap → Nat → Prop} {n pc sl : Nat} {L : List Slot} {r : List Value} {H : MHeap} {x y : Int64} (h0 : I pc = some .lrem) (h1 : ¬ y = 0) (w : mmW K I ret n (pc + 1) L (.long (x % y) :: r) H sl Q) : mmW K I ret (n + 1) pc L (.long y :: .long x :: r) H sl Q := by
  refine mmW_step1 ?_ w
  unfold mmStep1
  rw [h0]
  show (match mmJJz (fun x y => x % y) pc L (.long y :: .long x :: r) with | some (pc', L', S') => some (pc', L', S', H, sl) | none => none) = _
  unfold mmJJz; dsimp only
  rw [if_neg h1]
theorem mmW_irem {K : MTab} {I : Nat → Option Instr} {ret : Option FieldType} {Q : Option Value → MHeap → Nat → Prop} {n pc sl : Nat} {L : List Slot} {r : List Value} {H : MHeap} {x y : Int32} (h0 : I pc = some .irem) (h1 : ¬ y = 0) (w : mmW K I ret n (pc + 1) L (.int (x % y) :: r) H sl Q) : mmW K I ret (n + 1) pc L (.int y :: .int x :: r) H sl Q := by
  refine mmW_step1 ?_ w
  unfold mmStep1
  rw [h0]
  show (match mmIIz (fun x y => x % y) pc L (.int y :: .int x :: r) with | some (pc', L', S') => some (pc', L', S', H, sl) | none => none) = _
  unfold mmIIz; dsimp only
  rw [if_neg h1]
theorem mmW_idiv {K : MTab} {I : Nat → Option Instr} {ret : Option FieldType} {Q : Option Value → MHeap → Nat → Prop} {n pc sl : Nat} {L : List Slot} {r : List Value} {H : MHeap} {x y : Int32} (h0 : I pc = some .idiv) (h1 : ¬ y = 0) (w : mmW K I ret n (pc + 1) L (.int (x / y) :: r) H sl Q) : mmW K I ret (n + 1) pc L (.int y :: .int x :: r) H sl Q := by
  refine mmW_step1 ?_ w
  unfold mmStep1
  rw [h0]
  show (match mmIIz (fun x y => x / y) pc L (.int y :: .int x :: r) with | some (pc', L', S') => some (pc', L', S', H, sl) | none => none) = _
  unfold mmIIz; dsimp only
  rw [if_neg h1]

/-! ### locals that nobody reads any more may be forgotten -/
def mmLeS (a b : Slot) : Prop := a = b ∨ (a = .unset ∧ ∃ w : Value, b = .val w ∧ w.category = 1)
def mmLe : List Slot → List Slot → Prop
  | [], [] => True
  | a :: r, b :: r' => mmLeS a b ∧ mmLe r r'
  | _, _ => False
theorem mmLe_len : ∀ {L M : List Slot}, mmLe L M → L.length = M.length
  | [], [], _ => rfl
  | [], _ :: _, h => h.elim
  | _ :: _, [], h => h.elim
  | _ :: r, _ :: r', h => by simp [mmLe_len (L := r) (M := r') h.2]
theorem mmLe_nth : ∀ {L M : List Slot} {k : Nat} {a : Slot}, mmLe L M → mmNth L k = some a → ∃ b, mmNth M k = some b ∧ mmLeS a b
  | [], [], _, _, _, h => nomatch h
  | [], _ :: _, _, _, h, _ => h.elim
  | _ :: _, [], _, _, h, _ => h.elim
  | x :: r, y :: r', 0, a, h, q => by cases q; exact ⟨y, rfl, h.1⟩
  | x :: r, y :: r', k + 1, a, h, q => mmLe_nth (L := r) (M := r') h.2 q
theorem mmLe_set : ∀ {L M : List Slot} (k : Nat) (x : Slot), mmLe L M → mmLe (L.set k x) (M.set k x)
  | [], [], _, _, _ => trivial
  | [], _ :: _, _, _, h => h.elim
  | _ :: _, [], _, _, h => h.elim
  | a :: r, b :: r', 0, x, h => ⟨Or.inl rfl, h.2⟩
  | a :: r, b :: r', k + 1, x, h => ⟨h.1, mmLe_set k x h.2⟩
theorem mmLe_setAt {L M L' : List Slot} {k : Nat} {x : Slot} (h : mmLe L M) (q : mmSetAt L k x = some L') : ∃ M', mmSetAt M k x = some M' ∧ mmLe L' M' := by
  unfold mmSetAt at q ⊢
  split at q
  · rename_i hk; cases q
    rw [if_pos (by rw [← mmLe_len h]; exact hk)]
    exact ⟨_, rfl, mmLe_set k x h⟩
  · cases q
theorem mmLe_self {L M L' : List Slot} {k : Nat} {v : Value} (h : mmLe L M) (q : mmSelf L k v = some L') : ∃ M', mmSelf M k v = some M' ∧ mmLe L' M' := by
  unfold mmSelf at q
  unfold mmSelf
  split at q
  · cases q
  rename_i l1 h1
  obtain ⟨m1, e1, g1⟩ := mmLe_setAt h h1
  rw [e1]; dsimp only
  split at q
  · rename_i hc
    rw [if_pos hc]
    split at q
    · cases q
    · rename_i old hn
      obtain ⟨b, hb, hle⟩ := mmLe_nth g1 hn
      rcases hle with rfl | ⟨hu, -⟩
      · rw [hb]; dsimp only
        split at q
        · rename_i ho; rw [if_pos ho]
          split at q
          · cases q
          · rename_i l2 h2
            obtain ⟨m2, e2, g2⟩ := mmLe_setAt g1 h2
            rw [e2]; exact mmLe_setAt g2 q
        · rename_i ho; rw [if_neg ho]; exact mmLe_setAt g1 q
      · cases hu
    · rename_i y hy hn
      obtain ⟨b, hb, hle⟩ := mmLe_nth g1 hn
      rcases hle with rfl | ⟨rfl, w, rfl, hw⟩
      · rw [hb]
        cases y with
        | val w => exact absurd rfl (hy w)
        | unset => exact mmLe_setAt g1 q
        | second => exact mmLe_setAt g1 q
      · rw [hb]; dsimp only
        rw [if_neg (by omega)]; exact mmLe_setAt g1 q
  · rename_i hc
    rw [if_neg hc]; cases q; exact ⟨m1, rfl, g1⟩
theorem mmLe_store {L M L' : List Slot} {k : Nat} {v : Value} (h : mmLe L M) (q : mmStore L k v = some L') : ∃ M', mmStore M k v = some M' ∧ mmLe L' M' := by
  unfold mmStore at q
  unfold mmStore
  split at q
  · cases q
  · rename_i hn
    obtain ⟨b, hb, hle⟩ := mmLe_nth h hn
    rcases hle with rfl | ⟨hu, -⟩
    · rw [hb]; dsimp only
      split at q
      · cases q
      · rename_i l1 h1
        obtain ⟨m1, e1, g1⟩ := mmLe_setAt h h1
        rw [e1]; exact mmLe_self g1 q
    · cases hu
  · rename_i old hn
    obtain ⟨b, hb, hle⟩ := mmLe_nth h hn
    rcases hle with rfl | ⟨hu, -⟩
    · rw [hb]; dsimp only
      split at q
      · rename_i ho; rw [if_pos ho]
        split at q
        · cases q
        · rename_i l1 h1
          obtain ⟨m1, e1, g1⟩ := mmLe_setAt h h1
          rw [e1]; exact mmLe_self g1 q
      · rename_i ho; rw [if_neg ho]; exact mmLe_self h q
    · cases hu
  · rename_i hn
    obtain ⟨b, hb, hle⟩ := mmLe_nth h hn
    rcases hle with rfl | ⟨-, w, rfl, hw⟩
    · rw [hb]; exact mmLe_self h q
    · rw [hb]; dsimp only
      rw [if_neg (by omega)]; exact mmLe_self h q
theorem mmLe_val {L M : List Slot} {k : Nat} {v : Value} (h : mmLe L M) (q : mmNth L k = some (.val v)) : mmNth M k = some (.val v) := by
  obtain ⟨b, hb, rfl | ⟨hu, -⟩⟩ := mmLe_nth h q
  · exact hb
  · cases hu
theorem mmLdI_at {d k pc : Nat} {L : List Slot} {S : List Value} {x : Int32} (h : mmNth L k = some (.val (.int x))) : mmLdI d k pc L S = some (pc + d, L, .int x :: S) := by unfold mmLdI; rw [h]
theorem mmLdJ_at {d k pc : Nat} {L : List Slot} {S : List Value} {x : Int64} (h : mmNth L k = some (.val (.long x))) : mmLdJ d k pc L S = some (pc + d, L, .long x :: S) := by unfold mmLdJ; rw [h]
theorem mmLdA_at {d k pc : Nat} {L : List Slot} {S : List Value} {v : Value} (hv : v.isRef = true) (h : mmNth L k = some (.val v)) : mmLdA d k pc L S = some (pc + d, L, v :: S) := by
  unfold mmLdA; rw [h]; rcases ref_cases hv with rfl | ⟨a, rfl⟩ <;> rfl
theorem mmStI_at {d k pc : Nat} {L L' : List Slot} {S : List Value} {x : Int32} (h : mmStore L k (.int x) = some L') : mmStI d k pc L (.int x :: S) = some (pc + d, L', S) := by unfold mmStI; dsimp only; rw [h]
theorem mmStJ_at {d k pc : Nat} {L L' : List Slot} {S : List Value} {x : Int64} (h : mmStore L k (.long x) = some L') : mmStJ d k pc L (.long x :: S) = some (pc + d, L', S) := by unfold mmStJ; dsimp only; rw [h]
theorem mmStA_at {d k pc : Nat} {L L' : List Slot} {S : List Value} {v : Value} (hv : v.isRef = true) (h : mmStore L k v = some L') : mmStA d k pc L (v :: S) = some (pc + d, L', S) := by
  unfold mmStA; rcases ref_cases hv with rfl | ⟨a, rfl⟩ <;> (dsimp only; rw [h])
theorem mmIIz_at {f : Int32 → Int32 → Int32} {pc : Nat} {L : List Slot} {S : List Value} {x y : Int32} (h : y ≠ 0) : mmIIz f pc L (.int y :: .int x :: S) = some (pc + 1, L, .int (f x y) :: S) := by unfold mmIIz; dsimp only; rw [if_neg h]
theorem mmJJz_at {f : Int64 → Int64 → Int64} {pc : Nat} {L : List Slot} {S : List Value} {x y : Int64} (h : y ≠ 0) : mmJJz f pc L (.long y :: .long x :: S) = some (pc + 1, L, .long (f x y) :: S) := by unfold mmJJz; dsimp only; rw [if_neg h]
set_option maxHeartbeats 4000000 in
theorem mmLe_pure {i : Instr} {pc pc' : Nat} {L M L' : List Slot} {S S' : List Value} (h : mmLe L M) (q : mmPure i pc L S = some (pc', L', S')) : ∃ M', mmPure i pc M S = some (pc', M', S') ∧ mmLe L' M' := by
  unfold mmPure at q
  split at q
  all_goals first
    | (obtain ⟨x, hn, rfl, rfl, rfl⟩ := mmLdI_inv q; exact ⟨M, mmLdI_at (mmLe_val h hn), h⟩)
    | (obtain ⟨x, hn, rfl, rfl, rfl⟩ := mmLdJ_inv q; exact ⟨M, mmLdJ_at (mmLe_val h hn), h⟩)
    | (obtain ⟨v, hv, hn, rfl, rfl, rfl⟩ := mmLdA_inv q; exact ⟨M, mmLdA_at hv (mmLe_val h hn), h⟩)
    | (obtain ⟨x, rfl, hs, rfl⟩ := mmStI_inv q; obtain ⟨M', e, g⟩ := mmLe_store h hs; exact ⟨M', mmStI_at e, g⟩)
    | (obtain ⟨x, rfl, hs, rfl⟩ := mmStJ_inv q; obtain ⟨M', e, g⟩ := mmLe_store h hs; exact ⟨M', mmStJ_at e, g⟩)
    | (obtain ⟨v, hv, rfl, hs, rfl⟩ := mmStA_inv q; obtain ⟨M', e, g⟩ := mmLe_store h hs; exact ⟨M', mmStA_at hv e, g⟩)
    | (obtain ⟨x, y, r, rfl, rfl, rfl, rfl⟩ := mmII_inv q; exact ⟨M, rfl, h⟩)
    | (obtain ⟨x, y, r, rfl, hy, rfl, rfl, rfl⟩ := mmIIz_inv q; exact ⟨M, mmIIz_at hy, h⟩)
    | (obtain ⟨x, y, r, rfl, rfl, rfl, rfl⟩ := mmJJ_inv q; exact ⟨M, rfl, h⟩)
    | (obtain ⟨x, y, r, rfl, hy, rfl, rfl, rfl⟩ := mmJJz_inv q; exact ⟨M, mmJJz_at hy, h⟩)
    | (obtain ⟨x, y, r, rfl, rfl, rfl, rfl⟩ := mmJI_inv q; exact ⟨M, rfl, h⟩)
    | (obtain ⟨x, r, rfl, rfl, rfl, rfl⟩ := mmI_inv q; exact ⟨M, rfl, h⟩)
    | (obtain ⟨x, r, rfl, rfl, rfl, rfl⟩ := mmJ_inv q; exact ⟨M, rfl, h⟩)
    | (cases q; exact ⟨M, rfl, h⟩)
    | skip
  · split at q
    · cases q; exact ⟨M, rfl, h⟩
    · cases q
  · split at q
    · rename_i k n _ x hn
      split at q
      · rename_i L1 hs; cases q
        obtain ⟨M', e, g⟩ := mmLe_store h hs
        refine ⟨M', ?_, g⟩
        show (match mmNth M k with | some (.val (.int x)) => (match mmStore M k (.int (x + Int32.ofInt n)) with | some L' => some (pc + 3, L', S) | none => none) | _ => none) = _
        rw [mmLe_val h hn]; dsimp only; rw [e]
      · cases q
    · cases q
  · split at q
    · rename_i ho; cases q; exact ⟨M, if_pos ho, h⟩
    · cases q
  · split at q
    · split at q
      · rename_i ho; cases q; exact ⟨M, if_pos ho, h⟩
      · cases q
    · cases q
  · split at q
    · split at q
      · rename_i ho; cases q; exact ⟨M, if_pos ho, h⟩
      · cases q
    · cases q
  · split at q
    · split at q
      · rename_i ho; cases q; exact ⟨M, if_pos ho, h⟩
      · cases q
    · cases q
  · split at q
    · split at q
      · rename_i hc; cases q; exact ⟨M, if_pos hc, h⟩
      · cases q
    · cases q
  · split at q
    · split at q
      · rename_i hc; cases q; exact ⟨M, if_pos hc, h⟩
      · cases q
    · cases q
  · split at q
    · cases q; exact ⟨M, rfl, h⟩
    · split at q
      · rename_i x y r hno hc; cases q
        refine ⟨M, ?_, h⟩
        cases x with
        | long z => exact absurd rfl (hno z)
        | _ => exact if_pos hc
      · cases q
    · cases q
  · split at q
    · split at q
      · rename_i hc; cases q; exact ⟨M, if_pos hc, h⟩
      · cases q
    · cases q
  · split at q
    · cases q; exact ⟨M, rfl, h⟩
    · cases q
  · cases q
theorem mmLe_call {kl : List (Nat × MCall)} {idx pc sl pc' sl' : Nat} {L M L' : List Slot} {S S' : List Value} {H H' : MHeap} (h : mmLe L M) (q : mmCall kl idx pc L S H sl = some (pc', L', S', H', sl')) : ∃ M', mmCall kl idx pc M S H sl = some (pc', M', S', H', sl') ∧ mmLe L' M' := by
  unfold mmCall at q
  split at q
  · rename_i na rc W K hk
    split at q
    · rename_i as r hp
      split at q
      · rename_i hrc
        split at q
        · rename_i v H1 ds hK
          cases q
          exact ⟨M, mmCall_at hk hp hrc.1 hrc.2 hK, h⟩
        · cases q
      · cases q
    · cases q
  · cases q
theorem mmLe_ald {t : FieldType} {pc sl pc' sl' : Nat} {L M L' : List Slot} {S S' : List Value} {H H' : MHeap} (h : mmLe L M) (q : mmALd t pc L S H sl = some (pc', L', S', H', sl')) : ∃ M', mmALd t pc M S H sl = some (pc', M', S', H', sl') ∧ mmLe L' M' := by
  unfold mmALd at q
  split at q
  · split at q
    · rename_i hn
      split at q
      · rename_i hc
        split at q
        · rename_i hv
          cases q
          refine ⟨M, ?_, h⟩
          unfold mmALd; dsimp only
          rw [hn]; dsimp only
          rw [if_pos hc, hv]
        · cases q
      · cases q
    · cases q
  · cases q
theorem mmLe_ast {t : FieldType} {w : Value} {j : Int32} {a : Nat} {r : List Value} {pc sl pc' sl' : Nat} {L M L' : List Slot} {S' : List Value} {H H' : MHeap} (h : mmLe L M) (q : mmASt t w j a r pc L H sl = some (pc', L', S', H', sl')) : ∃ M', mmASt t w j a r pc M H sl = some (pc', M', S', H', sl') ∧ mmLe L' M' := by
  unfold mmASt at q
  split at q
  · rename_i hn
    split at q
    · rename_i hc
      cases q
      refine ⟨M, ?_, h⟩
      unfold mmASt
      rw [hn]; dsimp only
      rw [if_pos hc]
    · cases q
  · cases q
theorem mmLe_step {K : MTab} {i : Instr} {pc sl pc' sl' : Nat} {L M L' : List Slot} {S S' : List Value} {H H' : MHeap} (h : mmLe L M) (q : mmStep K i pc L S H sl = some (pc', L', S', H', sl')) : ∃ M', mmStep K i pc M S H sl = some (pc', M', S', H', sl') ∧ mmLe L' M' := by
  unfold mmStep at q
  split at q
  · split at q
    · rename_i hk; cases q; refine ⟨M, ?_, h⟩; simp only [mmStep, hk]
    · cases q
  · split at q
    · rename_i hk; cases q; refine ⟨M, ?_, h⟩; simp only [mmStep, hk]
    · cases q
  · unfold mmGetF at q
    repeat' split at q
    all_goals first | (cases q; done) | (cases q; refine ⟨M, ?_, h⟩; simp only [mmStep, mmGetF, *, if_true])
  · unfold mmPutF at q
    repeat' split at q
    all_goals first | (cases q; done) | (cases q; refine ⟨M, ?_, h⟩; simp only [mmStep, mmPutF, *, and_self, if_true])
  · split at q
    · rename_i hk; cases q; refine ⟨M, ?_, h⟩; simp only [mmStep, hk]
    · cases q
  · split at q
    · split at q
      · rename_i hk; cases q; exact ⟨M, if_pos hk, h⟩
      · cases q
    · cases q
  · split at q
    · split at q
      · rename_i hk; cases q; refine ⟨M, ?_, h⟩; simp only [mmStep, hk]
      · cases q
    · cases q
  · exact mmLe_ald h q
  · exact mmLe_ald h q
  · exact mmLe_ald h q
  · exact mmLe_ald h q
  · split at q
    · exact mmLe_ast h q
    · cases q
  · split at q
    · exact mmLe_ast h q
    · cases q
  · split at q
    · exact mmLe_ast h q
    · cases q
  · split at q
    · exact mmLe_ast h q
    · cases q
  · exact mmLe_call h q
  · exact mmLe_call h q
  · split at q
    · rename_i hk
      split at q
      · split at q
        · rename_i hc; cases q; refine ⟨M, ?_, h⟩; simp only [mmStep, hk]; exact if_pos hc
        · cases q
      · cases q
    · rename_i hk
      obtain ⟨M', e, g⟩ := mmLe_call h q
      refine ⟨M', ?_, g⟩
      simp only [mmStep, hk]; exact e
  · split at q
    · rename_i hp
      cases q
      obtain ⟨M', e, g⟩ := mmLe_pure h hp
      refine ⟨M', ?_, g⟩
      unfold mmStep
      split
      all_goals first | (exfalso; simp_all; done) | (rw [e])
    · cases q
theorem mmLe_run {K : MTab} {I : Nat → Option Instr} {ret : Option FieldType} : ∀ {n pc sl : Nat} {L M : List Slot} {S : List Value} {H : MHeap} {r : Option Value × MHeap × Nat}, mmLe L M → mmRun K I ret n pc L S H sl = some r → mmRun K I ret n pc M S H sl = some r
  | 0, _, _, _, _, _, _, _, _, h => nomatch h
  | n + 1, pc, sl, L, M, S, H, r, hl, h => by
    rw [mmRun_eq] at h
    rw [mmRun_eq]
    cases hi : I pc with
    | none => rw [hi] at h; cases h
    | some i =>
      rw [hi] at h
      dsimp only at h ⊢
      cases hv : mmRet ret i S with
      | some v => rw [hv] at h; exact h
      | none =>
        rw [hv] at h
        dsimp only at h ⊢
        cases hs : mmStep K i pc L S H sl with
        | none => rw [hs] at h; cases h
        | some q =>
          obtain ⟨pc', L', S', H', sl'⟩ := q
          rw [hs] at h
          obtain ⟨M', e, g⟩ := mmLe_step hl hs
          rw [e]
          exact mmLe_run g h
theorem mmW_forget {K : MTab} {I : Nat → Option Instr} {ret : Option FieldType} {Q : Option Value → MHeap → Nat → Prop} {n pc sl : Nat} {L M : List Slot} {S : List Value} {H : MHeap} (hl : mmLe L M) (w : mmW K I ret n pc L S H sl Q) : mmW K I ret n pc M S H sl Q := by
  obtain ⟨v, H', ds, h1, h2⟩ := w
  exact ⟨v, H', ds, mmLe_run hl h1, h2⟩

/-! ## this claim's tables (printed by program) -/
def CT : List MCls := [("com/example/invigil/invigil/solve/SeatOverflow", 6, [("com/example/invigil/invigil/solve/SeatOverflow", "size", "[I", (.array .int)), ("com/example/invigil/invigil/solve/SeatOverflow", "seats", "I", .int), ("com/example/invigil/invigil/solve/SeatOverflow", "slotOf", "[I", (.array .int)), ("com/example/invigil/invigil/solve/SeatOverflow", "load", "[J", (.array .long)), ("com/example/invigil/invigil/solve/SeatOverflow", "examsIn", "[I", (.array .int)), ("com/example/invigil/invigil/solve/SeatOverflow", "excess", "J", .long)])]
theorem CT_ok (l : Launch) (Z : State) (a0 : Array Value) (hw : ∀ d ∈ tables_1, d.before a0 Z = true) : mmAll (mmClsOk Z a0) CT :=
  ⟨⟨(hw _ (List.mem_of_getElem? (i := 7) rfl)), (hw _ (List.mem_of_getElem? (i := 8) rfl)), ⟨⟨Or.inr (hw _ (List.mem_of_getElem? (i := 16) rfl)), by decide +kernel⟩, ⟨Or.inr (hw _ (List.mem_of_getElem? (i := 18) rfl)), by decide +kernel⟩, ⟨Or.inr (hw _ (List.mem_of_getElem? (i := 20) rfl)), by decide +kernel⟩, ⟨Or.inr (hw _ (List.mem_of_getElem? (i := 23) rfl)), by decide +kernel⟩, ⟨Or.inr (hw _ (List.mem_of_getElem? (i := 25) rfl)), by decide +kernel⟩, ⟨Or.inl (hw _ (List.mem_of_getElem? (i := 32) rfl)), by decide +kernel⟩, trivial⟩, by decide +kernel⟩, trivial⟩
def own_l (n : Nat) (f : Nat → Int64) : List Value := (List.range n).map fun k => .long (f k)
theorem own_l_len (n : Nat) (f : Nat → Int64) : (own_l n f).length = n := by simp [own_l]
theorem own_l_nth {n k : Nat} (f : Nat → Int64) (h : k < n) : (own_l n f)[k]? = some (.long (f k)) := by simp [own_l, h]
theorem own_l_set (n k : Nat) (f : Nat → Int64) (y : Int64) : (own_l n f).set k (.long y) = own_l n (fun j => if j = k then y else f j) := by
  apply List.ext_getElem?
  intro j
  rw [List.getElem?_set]
  by_cases hj : j < n
  · have r1 := own_l_nth f hj
    have r2 := own_l_nth (fun j => if j = k then y else f j) hj
    rw [r1, r2, own_l_len]
    by_cases e : k = j
    · subst e; simp [hj]
    · have e' : ¬ j = k := fun z => e z.symm
      simp [e, e']
  · have r1 : (own_l n f)[j]? = none := by simp [own_l]; omega
    have r2 : (own_l n (fun j => if j = k then y else f j))[j]? = none := by simp [own_l]; omega
    rw [r1, r2, own_l_len]
    by_cases e : k = j
    · subst e; simp [hj]
    · simp [e]
def own_n (n : Nat) (f : Nat → Int32) : List Value := (List.range n).map fun k => .int (f k)
theorem own_n_len (n : Nat) (f : Nat → Int32) : (own_n n f).length = n := by simp [own_n]
theorem own_n_nth {n k : Nat} (f : Nat → Int32) (h : k < n) : (own_n n f)[k]? = some (.int (f k)) := by simp [own_n, h]
theorem own_n_set (n k : Nat) (f : Nat → Int32) (y : Int32) : (own_n n f).set k (.int y) = own_n n (fun j => if j = k then y else f j) := by
  apply List.ext_getElem?
  intro j
  rw [List.getElem?_set]
  by_cases hj : j < n
  · have r1 := own_n_nth f hj
    have r2 := own_n_nth (fun j => if j = k then y else f j) hj
    rw [r1, r2, own_n_len]
    by_cases e : k = j
    · subst e; simp [hj]
    · have e' : ¬ j = k := fun z => e z.symm
      simp [e, e']
  · have r1 : (own_n n f)[j]? = none := by simp [own_n]; omega
    have r2 : (own_n n (fun j => if j = k then y else f j))[j]? = none := by simp [own_n]; omega
    rw [r1, r2, own_n_len]
    by_cases e : k = j
    · subst e; simp [hj]
    · simp [e]
theorem own_len3 (f : Nat → Int64) : (own_l 3 f).length.toInt32 = (3 : Int32) := by rw [own_l_len]; rfl
theorem own_nn {q : Int32} {Q : Nat} (h : q.toInt = Q) : ¬ q < 0 ∧ q.toNatClampNeg = Q := by
  have z : (0 : Int32).toInt = 0 := rfl
  rw [Int32.lt_iff_toInt_lt, z, Int32.toNatClampNeg, h]; omega
theorem own_ne {q : Int32} {Q : Nat} (h : q.toInt = Q) : ¬ q = (-1 : Int32) := fun z => by
  rw [z] at h
  have e : (-1 : Int32).toInt = -1 := rfl
  rw [e] at h; omega
theorem own_m (y : Int32) : ∃ P : Nat, ((y &&& (3 : Int32)) % (3 : Int32)).toInt = P ∧ P < 3 := by
  have h1 := Kit.i32_mask y 3 (k := 2) (by decide) (by decide)
  have h2 : ((y &&& 3) % 3 : Int32).toInt = (y &&& 3).toInt % 3 := Kit.i32_rem_nonneg (by rw [h1]; omega)
  exact ⟨((y &&& 3) % 3 : Int32).toInt.toNat, by omega, by omega⟩
theorem own_t {p : Int32} {P : Nat} (h : p.toInt = P) (hP : P < 3) (y : Int32) : ∃ T : Nat, (((p + (1 : Int32)) + (y &&& (1 : Int32))) % (3 : Int32)).toInt = T ∧ T < 3 := by
  have h1 := Kit.i32_mask y 1 (k := 1) (by decide) (by decide)
  have e1 : (1 : Int32).toInt = 1 := rfl
  have e2 : (p + (1 : Int32)).toInt = P + 1 := by rw [Kit.i32_add (by rw [e1]; omega) (by rw [e1]; omega), e1, h]
  have e3 : ((p + (1 : Int32)) + (y &&& (1 : Int32))).toInt = P + 1 + (y &&& 1).toInt := by rw [Kit.i32_add (by rw [e2]; omega) (by rw [e2]; omega), e2]
  have h2 : (((p + (1 : Int32)) + (y &&& (1 : Int32))) % (3 : Int32)).toInt = ((p + (1 : Int32)) + (y &&& (1 : Int32))).toInt % 3 := Kit.i32_rem_nonneg (by rw [e3]; omega)
  exact ⟨(((p + (1 : Int32)) + (y &&& (1 : Int32))) % (3 : Int32)).toInt.toNat, by omega, by omega⟩
def own_load (t a b c s0 s1 s2 : Int32) : Int64 := (if c = t then (if b = t then (if a = t then (0 : Int64) + s0.toInt64 else (0 : Int64)) + s1.toInt64 else (if a = t then (0 : Int64) + s0.toInt64 else (0 : Int64))) + s2.toInt64 else (if b = t then (if a = t then (0 : Int64) + s0.toInt64 else (0 : Int64)) + s1.toInt64 else (if a = t then (0 : Int64) + s0.toInt64 else (0 : Int64))))
def own_br (t e a b c s0 s1 s2 : Int32) : Int32 := if t < 0 then (0 : Int32) else if e.toInt64 < own_load t a b c s0 s1 s2 then (1 : Int32) else (0 : Int32)
def own_bc (e : Int32) (f : Nat → Int64) (g : Nat → Int32) : Int32 := if e.toInt64 < f 2 then (if e.toInt64 < f 1 then (if e.toInt64 < f 0 then (0 : Int32) + g 0 else (0 : Int32)) + g 1 else (if e.toInt64 < f 0 then (0 : Int32) + g 0 else (0 : Int32))) + g 2 else (if e.toInt64 < f 1 then (if e.toInt64 < f 0 then (0 : Int32) + g 0 else (0 : Int32)) + g 1 else (if e.toInt64 < f 0 then (0 : Int32) + g 0 else (0 : Int32)))
theorem own_eqv {a b : Int32} {A B : Nat} (ha : a.toInt = A) (hb : b.toInt = B) : (a = b) = (B = A) := by
  apply propext
  constructor
  · intro e; rw [e, hb] at ha; omega
  · intro e; apply Int32.toInt_inj.mp; omega
theorem own_fin3 (e a b c s0 s1 s2 : Int32) (A B C : Nat) (ha : a.toInt = A) (hb : b.toInt = B) (hc : c.toInt = C) (hA : A < 3) (hB : B < 3) (hC : C < 3) (f : Nat → Int64) (g : Nat → Int32)
    (hf : ∀ j, f j = (if j = A then s0.toInt64 else 0) + (if j = B then s1.toInt64 else 0) + (if j = C then s2.toInt64 else 0)) (hg : ∀ j, g j = (if j = A then 1 else 0) + (if j = B then 1 else 0) + (if j = C then 1 else 0)) :
    own_bc e f g = ((own_br a e a b c s0 s1 s2 + own_br b e a b c s0 s1 s2) + own_br c e a b c s0 s1 s2) := by
  have hl : ∀ (z : Int32) (Z : Nat), z.toInt = Z → own_br z e a b c s0 s1 s2 = if e.toInt64 < f Z then (1 : Int32) else (0 : Int32) := fun z Z hz => by
    have e1 : own_load z a b c s0 s1 s2 = f Z := by
      unfold own_load
      simp only [own_eqv ha hz, own_eqv hb hz, own_eqv hc hz, hf]
      grind
    unfold own_br
    rw [if_neg (own_nn hz).1, e1]
  rw [hl a A ha, hl b B hb, hl c C hc]
  unfold own_bc
  simp only [hg]
  clear hl hf hg
  have hA' : A = 0 ∨ A = 1 ∨ A = 2 := by omega
  have hB' : B = 0 ∨ B = 1 ∨ B = 2 := by omega
  have hC' : C = 0 ∨ C = 1 ∨ C = 2 := by omega
  clear ha hb hc hA hB hC
  by_cases h0 : e.toInt64 < f 0 <;> by_cases h1 : e.toInt64 < f 1 <;> by_cases h2 : e.toInt64 < f 2 <;> rcases hA' with rfl | rfl | rfl <;> rcases hB' with rfl | rfl | rfl <;> rcases hC' with rfl | rfl | rfl <;> simp only [h0, h1, h2, if_true, if_false] <;> rfl
theorem own_fin2 (e a b s0 s1 s2 : Int32) (A B : Nat) (ha : a.toInt = A) (hb : b.toInt = B) (hA : A < 3) (hB : B < 3) (f : Nat → Int64) (g : Nat → Int32)
    (hf : ∀ j, f j = (if j = A then s0.toInt64 else 0) + (if j = B then s1.toInt64 else 0)) (hg : ∀ j, g j = (if j = A then 1 else 0) + (if j = B then 1 else 0)) :
    own_bc e f g = ((own_br a e a b (-1 : Int32) s0 s1 s2 + own_br b e a b (-1 : Int32) s0 s1 s2) + own_br (-1 : Int32) e a b (-1 : Int32) s0 s1 s2) := by
  have hl : ∀ (z : Int32) (Z : Nat), z.toInt = Z → own_br z e a b (-1 : Int32) s0 s1 s2 = if e.toInt64 < f Z then (1 : Int32) else (0 : Int32) := fun z Z hz => by
    have e1 : own_load z a b (-1 : Int32) s0 s1 s2 = f Z := by
      have hn : ((-1 : Int32) = z) = False := eq_false fun q => own_ne hz q.symm
      unfold own_load
      simp only [own_eqv ha hz, own_eqv hb hz, hf, hn, if_false]
      grind
    unfold own_br
    rw [if_neg (own_nn hz).1, e1]
  have hm : own_br (-1 : Int32) e a b (-1 : Int32) s0 s1 s2 = 0 := by
    unfold own_br
    rw [if_pos (by decide)]
  rw [hl a A ha, hl b B hb, hm]
  unfold own_bc
  simp only [hg]
  clear hl hf hg
  have hA' : A = 0 ∨ A = 1 ∨ A = 2 := by omega
  have hB' : B = 0 ∨ B = 1 ∨ B = 2 := by omega
  clear ha hb hA hB
  by_cases h0 : e.toInt64 < f 0 <;> by_cases h1 : e.toInt64 < f 1 <;> by_cases h2 : e.toInt64 < f 2 <;> rcases hA' with rfl | rfl | rfl <;> rcases hB' with rfl | rfl | rfl <;> simp only [h0, h1, h2, if_true, if_false] <;> rfl

/-- body 1: Math.max -/
def I_1 : Nat → Option Instr := mmCut 11 fun pc => (bif Nat.ble pc 2 then (bif Nat.ble pc 0 then (bif Nat.beq pc 0 then some (.iload_n 0) else none) else (bif Nat.ble pc 1 then (bif Nat.beq pc 1 then some (.iload_n 1) else none) else (bif Nat.beq pc 2 then some (.if_icmp .lt 7) else none))) else (bif Nat.ble pc 6 then (bif Nat.ble pc 5 then (bif Nat.beq pc 5 then some (.iload_n 0) else none) else (bif Nat.beq pc 6 then some (.goto 4) else none)) else (bif Nat.ble pc 9 then (bif Nat.beq pc 9 then some (.iload_n 1) else none) else (bif Nat.beq pc 10 then some (.ireturn) else none))))
def K_1 : MTab := ([], [], [], [], [], [], [], [], [])
abbrev B_1 : MKall := mmBody K_1 I_1 (some .int) 2 1000
theorem chk_1 : mmChk jdk_29_method_65_code I_1 11 = true := by decide +kernel
theorem hI_1 : ∀ pc i, I_1 pc = some i → decode jdk_29_method_65_code pc = .ok (i, mmLen i) := mmCut_ok chk_1
theorem pd_1 : parseMethodDescriptor "(II)I" = some ⟨[.int, .int], some .int⟩ := by decide +kernel
theorem T_1 (l : Launch) (Z : State) (a0 : Array Value) (hw : ∀ d ∈ tables_1, d.before a0 Z = true) (ce sl : Nat) : mmTabOk CT l Z a0 "java/lang/Math" "max" ({ frames := 0, cells := ce, slots := sl, locals := 0 } : Room) K_1 :=
  ⟨trivial,
   trivial,
   trivial,
   trivial,
   trivial,
   trivial,
   trivial,
   trivial,
   trivial⟩
theorem pl_1 : plainFor (⟨"java/lang/Math", "max", "(II)I"⟩ : MethodName) = true := by first | exact plainFor_of_name (by first | (simp [plainName, overriddenIn]; done) | decide +kernel) | decide +kernel
theorem G_1b (l : Launch) (Z : State) (a0 : Array Value) (hw : ∀ d ∈ tables_1, d.before a0 Z = true) : mmGood CT l Z (⟨"java/lang/Math", "max", "(II)I"⟩ : MethodName) jdk_29_method_65_code 2 (some .int) 0 0 B_1 := mmGood_of 1000 pl_1 hI_1 (CT_ok l Z a0 hw) (T_1 l Z a0 hw)
def F_1 : MKall := fun as H => match as with
  | [.int a, .int b] => some (some (.int (if a < b then b else a)), H, 0)
  | _ => none
theorem F_1_ok : ∀ as H r, F_1 as H = some r → B_1 as H = some r := fun as H r h => by
  unfold F_1 at h
  split at h
  · rename_i a b
    cases h
    show mmRun K_1 I_1 (some .int) 1000 0 [.val (.int a), .val (.int b)] [] H 0 = _
    rw [mmRun_steps (k := 3) (n := 997) (pc' := (if if_icmp.holds .lt a b = true then 9 else 5)) (L' := [.val (.int a), .val (.int b)]) (S' := []) (H' := H) (sl' := 0) rfl]
    by_cases hc : a < b
    · rw [if_pos (XT.ii_lt_t hc), if_pos hc]; rfl
    · have e : if_icmp.holds .lt a b = false := XT.ii_lt_f hc
      rw [e, if_neg hc]; rfl
  · cases h
theorem F_1_t {a b : Int32} {H : MHeap} (h : a < b) : F_1 [.int a, .int b] H = some (some (.int b), H, 0) := by
  show some (some (Value.int (if a < b then b else a)), H, 0) = _
  rw [if_pos h]
theorem F_1_f {a b : Int32} {H : MHeap} (h : ¬ a < b) : F_1 [.int a, .int b] H = some (some (.int a), H, 0) := by
  show some (some (Value.int (if a < b then b else a)), H, 0) = _
  rw [if_neg h]

theorem G_1 (l : Launch) (Z : State) (a0 : Array Value) (hw : ∀ d ∈ tables_1, d.before a0 Z = true) : mmGood CT l Z (⟨"java/lang/Math", "max", "(II)I"⟩ : MethodName) jdk_29_method_65_code 2 (some .int) 0 0 F_1 := mmGood_sub F_1_ok (G_1b l Z a0 hw)
/-- body 2: SeatOverflow.init -/
def I_2 : Nat → Option Instr := mmCut 35 fun pc => (bif Nat.ble pc 15 then (bif Nat.ble pc 6 then (bif Nat.ble pc 1 then (bif Nat.ble pc 0 then (bif Nat.beq pc 0 then some (.aload_n 0) else none) else (bif Nat.beq pc 1 then some (.invokespecial 1) else none)) else (bif Nat.ble pc 4 then (bif Nat.beq pc 4 then some (.aload_n 0) else none) else (bif Nat.ble pc 5 then (bif Nat.beq pc 5 then some (.aload_n 1) else none) else (bif Nat.beq pc 6 then some (.putfield 7) else none)))) else (bif Nat.ble pc 10 then (bif Nat.ble pc 9 then (bif Nat.beq pc 9 then some (.aload_n 0) else none) else (bif Nat.beq pc 10 then some (.iload_n 2) else none)) else (bif Nat.ble pc 11 then (bif Nat.beq pc 11 then some (.putfield 13) else none) else (bif Nat.ble pc 14 then (bif Nat.beq pc 14 then some (.aload_n 0) else none) else (bif Nat.beq pc 15 then some (.aload 4) else none))))) else (bif Nat.ble pc 24 then (bif Nat.ble pc 20 then (bif Nat.ble pc 17 then (bif Nat.beq pc 17 then some (.putfield 17) else none) else (bif Nat.beq pc 20 then some (.aload_n 0) else none)) else (bif Nat.ble pc 21 then (bif Nat.beq pc 21 then some (.iload_n 3) else none) else (bif Nat.ble pc 22 then (bif Nat.beq pc 22 then some (.newarray .long) else none) else (bif Nat.beq pc 24 then some (.putfield 20) else none)))) else (bif Nat.ble pc 28 then (bif Nat.ble pc 27 then (bif Nat.beq pc 27 then some (.aload_n 0) else none) else (bif Nat.beq pc 28 then some (.iload_n 3) else none)) else (bif Nat.ble pc 29 then (bif Nat.beq pc 29 then some (.newarray .int) else none) else (bif Nat.ble pc 31 then (bif Nat.beq pc 31 then some (.putfield 24) else none) else (bif Nat.beq pc 34 then some (.return_) else none))))))
def K_2 : MTab := ([], [], [(7, (0, 0, (.array .int))), (13, (0, 1, .int)), (17, (0, 2, (.array .int))), (20, (0, 3, (.array .long))), (24, (0, 4, (.array .int)))], [], [.long, .int], [(1, 0)], [], [], [])
abbrev B_2 : MKall := mmBody K_2 I_2 none 5 1000
theorem chk_2 : mmChk prog_25_method_1_code I_2 35 = true := by decide +kernel
theorem hI_2 : ∀ pc i, I_2 pc = some i → decode prog_25_method_1_code pc = .ok (i, mmLen i) := mmCut_ok chk_2
theorem pd_2 : parseMethodDescriptor "([III[I)V" = some ⟨[(.array .int), .int, .int, (.array .int)], none⟩ := by decide +kernel
theorem T_2 (l : Launch) (Z : State) (a0 : Array Value) (hw : ∀ d ∈ tables_1, d.before a0 Z = true) (ce sl : Nat) : mmTabOk CT l Z a0 "com/example/invigil/invigil/solve/SeatOverflow" "<init>" ({ frames := 1, cells := ce, slots := sl, locals := 12 } : Room) K_2 :=
  ⟨trivial,
   trivial,
   ⟨⟨_, _, _, _, _, _, rfl, rfl, (hw _ (List.mem_of_getElem? (i := 15) rfl)), Or.inr ⟨(hw _ (List.mem_of_getElem? (i := 16) rfl)), rfl, rfl⟩⟩, ⟨_, _, _, _, _, _, rfl, rfl, (hw _ (List.mem_of_getElem? (i := 17) rfl)), Or.inr ⟨(hw _ (List.mem_of_getElem? (i := 18) rfl)), rfl, rfl⟩⟩, ⟨_, _, _, _, _, _, rfl, rfl, (hw _ (List.mem_of_getElem? (i := 19) rfl)), Or.inr ⟨(hw _ (List.mem_of_getElem? (i := 20) rfl)), rfl, rfl⟩⟩, ⟨_, _, _, _, _, _, rfl, rfl, (hw _ (List.mem_of_getElem? (i := 22) rfl)), Or.inr ⟨(hw _ (List.mem_of_getElem? (i := 23) rfl)), rfl, rfl⟩⟩, ⟨_, _, _, _, _, _, rfl, rfl, (hw _ (List.mem_of_getElem? (i := 24) rfl)), Or.inr ⟨(hw _ (List.mem_of_getElem? (i := 25) rfl)), rfl, rfl⟩⟩, trivial⟩,
   trivial,
   ⟨(hw _ (List.mem_of_getElem? (i := 21) rfl)), (hw _ (List.mem_of_getElem? (i := 5) rfl)), trivial⟩,
   ⟨⟨(hw _ (List.mem_of_getElem? (i := 12) rfl)), (hw _ (List.mem_of_getElem? (i := 13) rfl)), (hw _ (List.mem_of_getElem? (i := 14) rfl)), Nat.le_of_ble_eq_true rfl, Nat.le_of_ble_eq_true rfl⟩, trivial⟩,
   trivial,
   trivial,
   trivial⟩
theorem pl_2 : plainFor (⟨"com/example/invigil/invigil/solve/SeatOverflow", "<init>", "([III[I)V"⟩ : MethodName) = true := by first | exact plainFor_of_name (by first | (simp [plainName, overriddenIn]; done) | decide +kernel) | decide +kernel
theorem G_2 (l : Launch) (Z : State) (a0 : Array Value) (hw : ∀ d ∈ tables_1, d.before a0 Z = true) : mmGood CT l Z (⟨"com/example/invigil/invigil/solve/SeatOverflow", "<init>", "([III[I)V"⟩ : MethodName) prog_25_method_1_code 5 none 1 12 B_2 := mmGood_of 1000 pl_2 hI_2 (CT_ok l Z a0 hw) (T_2 l Z a0 hw)
/-- body 5: Math.max -/
def I_5 : Nat → Option Instr := mmCut 12 fun pc => (bif Nat.ble pc 3 then (bif Nat.ble pc 1 then (bif Nat.ble pc 0 then (bif Nat.beq pc 0 then some (.lload_n 0) else none) else (bif Nat.beq pc 1 then some (.lload_n 2) else none)) else (bif Nat.ble pc 2 then (bif Nat.beq pc 2 then some (.lcmp) else none) else (bif Nat.beq pc 3 then some (.ifCond .lt 7) else none))) else (bif Nat.ble pc 7 then (bif Nat.ble pc 6 then (bif Nat.beq pc 6 then some (.lload_n 0) else none) else (bif Nat.beq pc 7 then some (.goto 4) else none)) else (bif Nat.ble pc 10 then (bif Nat.beq pc 10 then some (.lload_n 2) else none) else (bif Nat.beq pc 11 then some (.lreturn) else none))))
def K_5 : MTab := ([], [], [], [], [], [], [], [], [])
abbrev B_5 : MKall := mmBody K_5 I_5 (some .long) 4 1000
theorem chk_5 : mmChk jdk_29_method_66_code I_5 12 = true := by decide +kernel
theorem hI_5 : ∀ pc i, I_5 pc = some i → decode jdk_29_method_66_code pc = .ok (i, mmLen i) := mmCut_ok chk_5
theorem pd_5 : parseMethodDescriptor "(JJ)J" = some ⟨[.long, .long], some .long⟩ := by decide +kernel
theorem T_5 (l : Launch) (Z : State) (a0 : Array Value) (hw : ∀ d ∈ tables_1, d.before a0 Z = true) (ce sl : Nat) : mmTabOk CT l Z a0 "java/lang/Math" "max" ({ frames := 0, cells := ce, slots := sl, locals := 0 } : Room) K_5 :=
  ⟨trivial,
   trivial,
   trivial,
   trivial,
   trivial,
   trivial,
   trivial,
   trivial,
   trivial⟩
theorem pl_5 : plainFor (⟨"java/lang/Math", "max", "(JJ)J"⟩ : MethodName) = true := by first | exact plainFor_of_name (by first | (simp [plainName, overriddenIn]; done) | decide +kernel) | decide +kernel
theorem G_5b (l : Launch) (Z : State) (a0 : Array Value) (hw : ∀ d ∈ tables_1, d.before a0 Z = true) : mmGood CT l Z (⟨"java/lang/Math", "max", "(JJ)J"⟩ : MethodName) jdk_29_method_66_code 4 (some .long) 0 0 B_5 := mmGood_of 1000 pl_5 hI_5 (CT_ok l Z a0 hw) (T_5 l Z a0 hw)
def F_5 : MKall := fun as H => match as with
  | [.long a, .long b] => some (some (.long (if a < b then b else a)), H, 0)
  | _ => none
theorem F_5_ok : ∀ as H r, F_5 as H = some r → B_5 as H = some r := fun as H r h => by
  unfold F_5 at h
  split at h
  · rename_i a b
    cases h
    show mmRun K_5 I_5 (some .long) 1000 0 [.val (.long a), .second, .val (.long b), .second] [] H 0 = _
    rw [mmRun_steps (k := 4) (n := 996) (pc' := (if ifCond.holds .lt (XT.cmpL a b) = true then 10 else 6)) (L' := [.val (.long a), .second, .val (.long b), .second]) (S' := []) (H' := H) (sl' := 0) rfl]
    by_cases hc : a < b
    · rw [if_pos (XT.ll_lt_t hc), if_pos hc]; rfl
    · have e : ifCond.holds .lt (XT.cmpL a b) = false := XT.ll_lt_f hc
      rw [e, if_neg hc]; rfl
  · cases h

theorem G_5 (l : Launch) (Z : State) (a0 : Array Value) (hw : ∀ d ∈ tables_1, d.before a0 Z = true) : mmGood CT l Z (⟨"java/lang/Math", "max", "(JJ)J"⟩ : MethodName) jdk_29_method_66_code 4 (some .long) 0 0 F_5 := mmGood_sub F_5_ok (G_5b l Z a0 hw)
/-- body 4: SeatOverflow.over -/
def I_4 : Nat → Option Instr := mmCut 12 fun pc => (bif Nat.ble pc 3 then (bif Nat.ble pc 1 then (bif Nat.ble pc 0 then (bif Nat.beq pc 0 then some (.lconst 0) else none) else (bif Nat.beq pc 1 then some (.lload_n 1) else none)) else (bif Nat.ble pc 2 then (bif Nat.beq pc 2 then some (.aload_n 0) else none) else (bif Nat.beq pc 3 then some (.getfield 13) else none))) else (bif Nat.ble pc 7 then (bif Nat.ble pc 6 then (bif Nat.beq pc 6 then some (.i2l) else none) else (bif Nat.beq pc 7 then some (.lsub) else none)) else (bif Nat.ble pc 8 then (bif Nat.beq pc 8 then some (.invokestatic 43) else none) else (bif Nat.beq pc 11 then some (.lreturn) else none))))
def K_4 : MTab := ([], [(13, (0, 1))], [], [], [], [], [(43, (2, none, 0, F_5))], [], [])
abbrev B_4 : MKall := mmBody K_4 I_4 (some .long) 3 1000
theorem chk_4 : mmChk prog_25_method_7_code I_4 12 = true := by decide +kernel
theorem hI_4 : ∀ pc i, I_4 pc = some i → decode prog_25_method_7_code pc = .ok (i, mmLen i) := mmCut_ok chk_4
theorem pd_4 : parseMethodDescriptor "(J)J" = some ⟨[.long], some .long⟩ := by decide +kernel
theorem T_4 (l : Launch) (Z : State) (a0 : Array Value) (hw : ∀ d ∈ tables_1, d.before a0 Z = true) (ce sl : Nat) : mmTabOk CT l Z a0 "com/example/invigil/invigil/solve/SeatOverflow" "over" ({ frames := 1, cells := ce, slots := sl, locals := 15 } : Room) K_4 :=
  ⟨trivial,
   ⟨⟨_, _, _, _, _, _, _, rfl, rfl, (hw _ (List.mem_of_getElem? (i := 17) rfl))⟩, trivial⟩,
   trivial,
   trivial,
   trivial,
   trivial,
   ⟨mmCallS (hw _ (List.mem_of_getElem? (i := 37) rfl)) (hw _ (List.mem_of_getElem? (i := 38) rfl)) (hw _ (List.mem_of_getElem? (i := 3) rfl)) (hw _ (List.mem_of_getElem? (i := 39) rfl)) (by decide) (G_5 l Z a0 hw) (Nat.le_of_ble_eq_true rfl) (Nat.le_of_ble_eq_true rfl) pd_5 rfl, trivial⟩,
   trivial,
   trivial⟩
theorem pl_4 : plainFor (⟨"com/example/invigil/invigil/solve/SeatOverflow", "over", "(J)J"⟩ : MethodName) = true := by first | exact plainFor_of_name (by first | (simp [plainName, overriddenIn]; done) | decide +kernel) | decide +kernel
theorem G_4 (l : Launch) (Z : State) (a0 : Array Value) (hw : ∀ d ∈ tables_1, d.before a0 Z = true) : mmGood CT l Z (⟨"com/example/invigil/invigil/solve/SeatOverflow", "over", "(J)J"⟩ : MethodName) prog_25_method_7_code 3 (some .long) 1 15 B_4 := mmGood_of 1000 pl_4 hI_4 (CT_ok l Z a0 hw) (T_4 l Z a0 hw)
/-- body 3: SeatOverflow.move -/
def I_3 : Nat → Option Instr := mmCut 127 fun pc => (bif Nat.ble pc 65 then (bif Nat.ble pc 32 then (bif Nat.ble pc 14 then (bif Nat.ble pc 6 then (bif Nat.ble pc 1 then (bif Nat.ble pc 0 then (bif Nat.beq pc 0 then some (.aload_n 0) else none) else (bif Nat.beq pc 1 then some (.getfield 7) else none)) else (bif Nat.ble pc 4 then (bif Nat.beq pc 4 then some (.iload_n 1) else none) else (bif Nat.ble pc 5 then (bif Nat.beq pc 5 then some (.iaload) else none) else (bif Nat.beq pc 6 then some (.istore 4) else none)))) else (bif Nat.ble pc 9 then (bif Nat.ble pc 8 then (bif Nat.beq pc 8 then some (.iload_n 2) else none) else (bif Nat.beq pc 9 then some (.iconst (-1)) else none)) else (bif Nat.ble pc 10 then (bif Nat.beq pc 10 then some (.if_icmp .eq 59) else none) else (bif Nat.ble pc 13 then (bif Nat.beq pc 13 then some (.aload_n 0) else none) else (bif Nat.beq pc 14 then some (.dup) else none))))) else (bif Nat.ble pc 23 then (bif Nat.ble pc 18 then (bif Nat.ble pc 15 then (bif Nat.beq pc 15 then some (.getfield 27) else none) else (bif Nat.beq pc 18 then some (.aload_n 0) else none)) else (bif Nat.ble pc 19 then (bif Nat.beq pc 19 then some (.aload_n 0) else none) else (bif Nat.ble pc 20 then (bif Nat.beq pc 20 then some (.getfield 20) else none) else (bif Nat.beq pc 23 then some (.iload_n 2) else none)))) else (bif Nat.ble pc 27 then (bif Nat.ble pc 24 then (bif Nat.beq pc 24 then some (.laload) else none) else (bif Nat.ble pc 25 then (bif Nat.beq pc 25 then some (.iload 4) else none) else (bif Nat.beq pc 27 then some (.i2l) else none))) else (bif Nat.ble pc 28 then (bif Nat.beq pc 28 then some (.lsub) else none) else (bif Nat.ble pc 29 then (bif Nat.beq pc 29 then some (.invokevirtual 33) else none) else (bif Nat.beq pc 32 then some (.aload_n 0) else none)))))) else (bif Nat.ble pc 51 then (bif Nat.ble pc 39 then (bif Nat.ble pc 34 then (bif Nat.ble pc 33 then (bif Nat.beq pc 33 then some (.aload_n 0) else none) else (bif Nat.beq pc 34 then some (.getfield 20) else none)) else (bif Nat.ble pc 37 then (bif Nat.beq pc 37 then some (.iload_n 2) else none) else (bif Nat.ble pc 38 then (bif Nat.beq pc 38 then some (.laload) else none) else (bif Nat.beq pc 39 then some (.invokevirtual 33) else none)))) else (bif Nat.ble pc 44 then (bif Nat.ble pc 42 then (bif Nat.beq pc 42 then some (.lsub) else none) else (bif Nat.ble pc 43 then (bif Nat.beq pc 43 then some (.ladd) else none) else (bif Nat.beq pc 44 then some (.putfield 27) else none))) else (bif Nat.ble pc 47 then (bif Nat.beq pc 47 then some (.aload_n 0) else none) else (bif Nat.ble pc 48 then (bif Nat.beq pc 48 then some (.getfield 20) else none) else (bif Nat.beq pc 51 then some (.iload_n 2) else none))))) else (bif Nat.ble pc 57 then (bif Nat.ble pc 53 then (bif Nat.ble pc 52 then (bif Nat.beq pc 52 then some (.dup2) else none) else (bif Nat.beq pc 53 then some (.laload) else none)) else (bif Nat.ble pc 54 then (bif Nat.beq pc 54 then some (.iload 4) else none) else (bif Nat.ble pc 56 then (bif Nat.beq pc 56 then some (.i2l) else none) else (bif Nat.beq pc 57 then some (.lsub) else none)))) else (bif Nat.ble pc 60 then (bif Nat.ble pc 58 then (bif Nat.beq pc 58 then some (.lastore) else none) else (bif Nat.ble pc 59 then (bif Nat.beq pc 59 then some (.aload_n 0) else none) else (bif Nat.beq pc 60 then some (.getfield 24) else none))) else (bif Nat.ble pc 63 then (bif Nat.beq pc 63 then some (.iload_n 2) else none) else (bif Nat.ble pc 64 then (bif Nat.beq pc 64 then some (.dup2) else none) else (bif Nat.beq pc 65 then some (.iaload) else none))))))) else (bif Nat.ble pc 95 then (bif Nat.ble pc 79 then (bif Nat.ble pc 70 then (bif Nat.ble pc 67 then (bif Nat.ble pc 66 then (bif Nat.beq pc 66 then some (.iconst 1) else none) else (bif Nat.beq pc 67 then some (.isub) else none)) else (bif Nat.ble pc 68 then (bif Nat.beq pc 68 then some (.iastore) else none) else (bif Nat.ble pc 69 then (bif Nat.beq pc 69 then some (.aload_n 0) else none) else (bif Nat.beq pc 70 then some (.dup) else none)))) else (bif Nat.ble pc 74 then (bif Nat.ble pc 71 then (bif Nat.beq pc 71 then some (.getfield 27) else none) else (bif Nat.beq pc 74 then some (.aload_n 0) else none)) else (bif Nat.ble pc 75 then (bif Nat.beq pc 75 then some (.aload_n 0) else none) else (bif Nat.ble pc 76 then (bif Nat.beq pc 76 then some (.getfield 20) else none) else (bif Nat.beq pc 79 then some (.iload_n 3) else none))))) else (bif Nat.ble pc 85 then (bif Nat.ble pc 81 then (bif Nat.ble pc 80 then (bif Nat.beq pc 80 then some (.laload) else none) else (bif Nat.beq pc 81 then some (.iload 4) else none)) else (bif Nat.ble pc 83 then (bif Nat.beq pc 83 then some (.i2l) else none) else (bif Nat.ble pc 84 then (bif Nat.beq pc 84 then some (.ladd) else none) else (bif Nat.beq pc 85 then some (.invokevirtual 33) else none)))) else (bif Nat.ble pc 90 then (bif Nat.ble pc 88 then (bif Nat.beq pc 88 then some (.aload_n 0) else none) else (bif Nat.ble pc 89 then (bif Nat.beq pc 89 then some (.aload_n 0) else none) else (bif Nat.beq pc 90 then some (.getfield 20) else none))) else (bif Nat.ble pc 93 then (bif Nat.beq pc 93 then some (.iload_n 3) else none) else (bif Nat.ble pc 94 then (bif Nat.beq pc 94 then some (.laload) else none) else (bif Nat.beq pc 95 then some (.invokevirtual 33) else none)))))) else (bif Nat.ble pc 113 then (bif Nat.ble pc 104 then (bif Nat.ble pc 99 then (bif Nat.ble pc 98 then (bif Nat.beq pc 98 then some (.lsub) else none) else (bif Nat.beq pc 99 then some (.ladd) else none)) else (bif Nat.ble pc 100 then (bif Nat.beq pc 100 then some (.putfield 27) else none) else (bif Nat.ble pc 103 then (bif Nat.beq pc 103 then some (.aload_n 0) else none) else (bif Nat.beq pc 104 then some (.getfield 20) else none)))) else (bif Nat.ble pc 109 then (bif Nat.ble pc 107 then (bif Nat.beq pc 107 then some (.iload_n 3) else none) else (bif Nat.ble pc 108 then (bif Nat.beq pc 108 then some (.dup2) else none) else (bif Nat.beq pc 109 then some (.laload) else none))) else (bif Nat.ble pc 110 then (bif Nat.beq pc 110 then some (.iload 4) else none) else (bif Nat.ble pc 112 then (bif Nat.beq pc 112 then some (.i2l) else none) else (bif Nat.beq pc 113 then some (.ladd) else none))))) else (bif Nat.ble pc 120 then (bif Nat.ble pc 115 then (bif Nat.ble pc 114 then (bif Nat.beq pc 114 then some (.lastore) else none) else (bif Nat.beq pc 115 then some (.aload_n 0) else none)) else (bif Nat.ble pc 116 then (bif Nat.beq pc 116 then some (.getfield 24) else none) else (bif Nat.ble pc 119 then (bif Nat.beq pc 119 then some (.iload_n 3) else none) else (bif Nat.beq pc 120 then some (.dup2) else none)))) else (bif Nat.ble pc 123 then (bif Nat.ble pc 121 then (bif Nat.beq pc 121 then some (.iaload) else none) else (bif Nat.ble pc 122 then (bif Nat.beq pc 122 then some (.iconst 1) else none) else (bif Nat.beq pc 123 then some (.iadd) else none))) else (bif Nat.ble pc 124 then (bif Nat.beq pc 124 then some (.iastore) else none) else (bif Nat.ble pc 125 then (bif Nat.beq pc 125 then some (.lconst 0) else none) else (bif Nat.beq pc 126 then some (.lreturn) else none))))))))
def K_3 : MTab := ([], [(7, (0, 0)), (20, (0, 3)), (24, (0, 4)), (27, (0, 5))], [(27, (0, 5, .long))], [], [], [], [], [(33, (2, some 0, 5, B_4))], [])
abbrev B_3 : MKall := mmBody K_3 I_3 (some .long) 5 1000
theorem chk_3 : mmChk prog_25_method_5_code I_3 127 = true := by decide +kernel
theorem hI_3 : ∀ pc i, I_3 pc = some i → decode prog_25_method_5_code pc = .ok (i, mmLen i) := mmCut_ok chk_3
theorem pd_3 : parseMethodDescriptor "(III)J" = some ⟨[.int, .int, .int], some .long⟩ := by decide +kernel
theorem T_3 (l : Launch) (Z : State) (a0 : Array Value) (hw : ∀ d ∈ tables_1, d.before a0 Z = true) (ce sl : Nat) : mmTabOk CT l Z a0 "com/example/invigil/invigil/solve/SeatOverflow" "move" ({ frames := 2, cells := ce, slots := sl, locals := 34 } : Room) K_3 :=
  ⟨trivial,
   ⟨⟨_, _, _, _, _, _, _, rfl, rfl, (hw _ (List.mem_of_getElem? (i := 15) rfl))⟩, ⟨_, _, _, _, _, _, _, rfl, rfl, (hw _ (List.mem_of_getElem? (i := 22) rfl))⟩, ⟨_, _, _, _, _, _, _, rfl, rfl, (hw _ (List.mem_of_getElem? (i := 24) rfl))⟩, ⟨_, _, _, _, _, _, _, rfl, rfl, (hw _ (List.mem_of_getElem? (i := 31) rfl))⟩, trivial⟩,
   ⟨⟨_, _, _, _, _, _, rfl, rfl, (hw _ (List.mem_of_getElem? (i := 31) rfl)), Or.inl (hw _ (List.mem_of_getElem? (i := 32) rfl))⟩, trivial⟩,
   trivial,
   trivial,
   trivial,
   trivial,
   ⟨mmCallP rfl (mmAll_nth (CT_ok l Z a0 hw) (k := 0) rfl) (hw _ (List.mem_of_getElem? (i := 33) rfl)) (hw _ (List.mem_of_getElem? (i := 34) rfl)) (hw _ (List.mem_of_getElem? (i := 35) rfl)) (hw _ (List.mem_of_getElem? (i := 8) rfl)) (hw _ (List.mem_of_getElem? (i := 36) rfl)) (by decide) (G_4 l Z a0 hw) (Nat.le_of_ble_eq_true rfl) (Nat.le_of_ble_eq_true rfl) pd_4 rfl, trivial⟩,
   trivial⟩
theorem pl_3 : plainFor (⟨"com/example/invigil/invigil/solve/SeatOverflow", "move", "(III)J"⟩ : MethodName) = true := by first | exact plainFor_of_name (by first | (simp [plainName, overriddenIn]; done) | decide +kernel) | decide +kernel
theorem G_3 (l : Launch) (Z : State) (a0 : Array Value) (hw : ∀ d ∈ tables_1, d.before a0 Z = true) : mmGood CT l Z (⟨"com/example/invigil/invigil/solve/SeatOverflow", "move", "(III)J"⟩ : MethodName) prog_25_method_5_code 5 (some .long) 2 34 B_3 := mmGood_of 1000 pl_3 hI_3 (CT_ok l Z a0 hw) (T_3 l Z a0 hw)
/-- body 7: SeatOverflowBreachingCountPinLaw.load -/
def I_7 : Nat → Option Instr := mmCut 45 fun pc => (bif Nat.ble pc 21 then (bif Nat.ble pc 10 then (bif Nat.ble pc 3 then (bif Nat.ble pc 0 then (bif Nat.beq pc 0 then some (.lconst 0) else none) else (bif Nat.ble pc 1 then (bif Nat.beq pc 1 then some (.lstore 7) else none) else (bif Nat.beq pc 3 then some (.iload_n 1) else none))) else (bif Nat.ble pc 5 then (bif Nat.ble pc 4 then (bif Nat.beq pc 4 then some (.iload_n 0) else none) else (bif Nat.beq pc 5 then some (.if_icmp .ne 11) else none)) else (bif Nat.ble pc 8 then (bif Nat.beq pc 8 then some (.lload 7) else none) else (bif Nat.beq pc 10 then some (.iload 4) else none)))) else (bif Nat.ble pc 14 then (bif Nat.ble pc 12 then (bif Nat.beq pc 12 then some (.i2l) else none) else (bif Nat.ble pc 13 then (bif Nat.beq pc 13 then some (.ladd) else none) else (bif Nat.beq pc 14 then some (.lstore 7) else none))) else (bif Nat.ble pc 17 then (bif Nat.ble pc 16 then (bif Nat.beq pc 16 then some (.iload_n 2) else none) else (bif Nat.beq pc 17 then some (.iload_n 0) else none)) else (bif Nat.ble pc 18 then (bif Nat.beq pc 18 then some (.if_icmp .ne 11) else none) else (bif Nat.beq pc 21 then some (.lload 7) else none))))) else (bif Nat.ble pc 31 then (bif Nat.ble pc 26 then (bif Nat.ble pc 23 then (bif Nat.beq pc 23 then some (.iload 5) else none) else (bif Nat.ble pc 25 then (bif Nat.beq pc 25 then some (.i2l) else none) else (bif Nat.beq pc 26 then some (.ladd) else none))) else (bif Nat.ble pc 29 then (bif Nat.ble pc 27 then (bif Nat.beq pc 27 then some (.lstore 7) else none) else (bif Nat.beq pc 29 then some (.iload_n 3) else none)) else (bif Nat.ble pc 30 then (bif Nat.beq pc 30 then some (.iload_n 0) else none) else (bif Nat.beq pc 31 then some (.if_icmp .ne 11) else none)))) else (bif Nat.ble pc 38 then (bif Nat.ble pc 34 then (bif Nat.beq pc 34 then some (.lload 7) else none) else (bif Nat.ble pc 36 then (bif Nat.beq pc 36 then some (.iload 6) else none) else (bif Nat.beq pc 38 then some (.i2l) else none))) else (bif Nat.ble pc 40 then (bif Nat.ble pc 39 then (bif Nat.beq pc 39 then some (.ladd) else none) else (bif Nat.beq pc 40 then some (.lstore 7) else none)) else (bif Nat.ble pc 42 then (bif Nat.beq pc 42 then some (.lload 7) else none) else (bif Nat.beq pc 44 then some (.lreturn) else none))))))
def K_7 : MTab := ([], [], [], [], [], [], [], [], [])
abbrev B_7 : MKall := mmBody K_7 I_7 (some .long) 9 1000
theorem chk_7 : mmChk method_3_code I_7 45 = true := by decide +kernel
theorem hI_7 : ∀ pc i, I_7 pc = some i → decode method_3_code pc = .ok (i, mmLen i) := mmCut_ok chk_7
theorem pd_7 : parseMethodDescriptor "(IIIIIII)J" = some ⟨[.int, .int, .int, .int, .int, .int, .int], some .long⟩ := by decide +kernel
theorem T_7 (l : Launch) (Z : State) (a0 : Array Value) (hw : ∀ d ∈ tables_1, d.before a0 Z = true) (ce sl : Nat) : mmTabOk CT l Z a0 "com/example/invigil/invigil/solve/SeatOverflowBreachingCountPinLaw" "load" ({ frames := 0, cells := ce, slots := sl, locals := 0 } : Room) K_7 :=
  ⟨trivial,
   trivial,
   trivial,
   trivial,
   trivial,
   trivial,
   trivial,
   trivial,
   trivial⟩
theorem pl_7 : plainFor (⟨"com/example/invigil/invigil/solve/SeatOverflowBreachingCountPinLaw", "load", "(IIIIIII)J"⟩ : MethodName) = true := by first | exact plainFor_of_name (by first | (simp [plainName, overriddenIn]; done) | decide +kernel) | decide +kernel
theorem G_7 (l : Launch) (Z : State) (a0 : Array Value) (hw : ∀ d ∈ tables_1, d.before a0 Z = true) : mmGood CT l Z (⟨"com/example/invigil/invigil/solve/SeatOverflowBreachingCountPinLaw", "load", "(IIIIIII)J"⟩ : MethodName) method_3_code 9 (some .long) 0 0 B_7 := mmGood_of 1000 pl_7 hI_7 (CT_ok l Z a0 hw) (T_7 l Z a0 hw)
/-- body 6: SeatOverflowBreachingCountPinLaw.breaching -/
def I_6 : Nat → Option Instr := mmCut 32 fun pc => (bif Nat.ble pc 13 then (bif Nat.ble pc 6 then (bif Nat.ble pc 1 then (bif Nat.ble pc 0 then (bif Nat.beq pc 0 then some (.iload_n 0) else none) else (bif Nat.beq pc 1 then some (.ifCond .ge 5) else none)) else (bif Nat.ble pc 4 then (bif Nat.beq pc 4 then some (.iconst 0) else none) else (bif Nat.ble pc 5 then (bif Nat.beq pc 5 then some (.ireturn) else none) else (bif Nat.beq pc 6 then some (.iload_n 0) else none)))) else (bif Nat.ble pc 8 then (bif Nat.ble pc 7 then (bif Nat.beq pc 7 then some (.iload_n 2) else none) else (bif Nat.beq pc 8 then some (.iload_n 3) else none)) else (bif Nat.ble pc 9 then (bif Nat.beq pc 9 then some (.iload 4) else none) else (bif Nat.ble pc 11 then (bif Nat.beq pc 11 then some (.iload 5) else none) else (bif Nat.beq pc 13 then some (.iload 6) else none))))) else (bif Nat.ble pc 22 then (bif Nat.ble pc 17 then (bif Nat.ble pc 15 then (bif Nat.beq pc 15 then some (.iload 7) else none) else (bif Nat.beq pc 17 then some (.invokestatic 35) else none)) else (bif Nat.ble pc 20 then (bif Nat.beq pc 20 then some (.iload_n 1) else none) else (bif Nat.ble pc 21 then (bif Nat.beq pc 21 then some (.i2l) else none) else (bif Nat.beq pc 22 then some (.lcmp) else none)))) else (bif Nat.ble pc 26 then (bif Nat.ble pc 23 then (bif Nat.beq pc 23 then some (.ifCond .le 7) else none) else (bif Nat.beq pc 26 then some (.iconst 1) else none)) else (bif Nat.ble pc 27 then (bif Nat.beq pc 27 then some (.goto 4) else none) else (bif Nat.ble pc 30 then (bif Nat.beq pc 30 then some (.iconst 0) else none) else (bif Nat.beq pc 31 then some (.ireturn) else none))))))
def K_6 : MTab := ([], [], [], [], [], [], [(35, (7, none, 0, B_7))], [], [])
abbrev B_6 : MKall := mmBody K_6 I_6 (some .int) 8 1000
theorem chk_6 : mmChk method_4_code I_6 32 = true := by decide +kernel
theorem hI_6 : ∀ pc i, I_6 pc = some i → decode method_4_code pc = .ok (i, mmLen i) := mmCut_ok chk_6
theorem pd_6 : parseMethodDescriptor "(IIIIIIII)I" = some ⟨[.int, .int, .int, .int, .int, .int, .int, .int], some .int⟩ := by decide +kernel
theorem T_6 (l : Launch) (Z : State) (a0 : Array Value) (hw : ∀ d ∈ tables_1, d.before a0 Z = true) (ce sl : Nat) : mmTabOk CT l Z a0 "com/example/invigil/invigil/solve/SeatOverflowBreachingCountPinLaw" "breaching" ({ frames := 1, cells := ce, slots := sl, locals := 20 } : Room) K_6 :=
  ⟨trivial,
   trivial,
   trivial,
   trivial,
   trivial,
   trivial,
   ⟨mmCallS (hw _ (List.mem_of_getElem? (i := 44) rfl)) (hw _ (List.mem_of_getElem? (i := 45) rfl)) (hw _ (List.mem_of_getElem? (i := 42) rfl)) (hw _ (List.mem_of_getElem? (i := 46) rfl)) (by decide) (G_7 l Z a0 hw) (Nat.le_of_ble_eq_true rfl) (Nat.le_of_ble_eq_true rfl) pd_7 rfl, trivial⟩,
   trivial,
   trivial⟩
theorem pl_6 : plainFor (⟨"com/example/invigil/invigil/solve/SeatOverflowBreachingCountPinLaw", "breaching", "(IIIIIIII)I"⟩ : MethodName) = true := by first | exact plainFor_of_name (by first | (simp [plainName, overriddenIn]; done) | decide +kernel) | decide +kernel
theorem G_6 (l : Launch) (Z : State) (a0 : Array Value) (hw : ∀ d ∈ tables_1, d.before a0 Z = true) : mmGood CT l Z (⟨"com/example/invigil/invigil/solve/SeatOverflowBreachingCountPinLaw", "breaching", "(IIIIIIII)I"⟩ : MethodName) method_4_code 8 (some .int) 1 20 B_6 := mmGood_of 1000 pl_6 hI_6 (CT_ok l Z a0 hw) (T_6 l Z a0 hw)
/-- body 8: SeatOverflow.breachingCount -/
def I_8 : Nat → Option Instr := mmCut 45 fun pc => (bif Nat.ble pc 19 then (bif Nat.ble pc 6 then (bif Nat.ble pc 2 then (bif Nat.ble pc 0 then (bif Nat.beq pc 0 then some (.iconst 0) else none) else (bif Nat.ble pc 1 then (bif Nat.beq pc 1 then some (.istore_n 1) else none) else (bif Nat.beq pc 2 then some (.iconst 0) else none))) else (bif Nat.ble pc 4 then (bif Nat.ble pc 3 then (bif Nat.beq pc 3 then some (.istore_n 2) else none) else (bif Nat.beq pc 4 then some (.iload_n 2) else none)) else (bif Nat.ble pc 5 then (bif Nat.beq pc 5 then some (.aload_n 0) else none) else (bif Nat.beq pc 6 then some (.getfield 20) else none)))) else (bif Nat.ble pc 13 then (bif Nat.ble pc 9 then (bif Nat.beq pc 9 then some (.arraylength) else none) else (bif Nat.ble pc 10 then (bif Nat.beq pc 10 then some (.if_icmp .ge 33) else none) else (bif Nat.beq pc 13 then some (.aload_n 0) else none))) else (bif Nat.ble pc 17 then (bif Nat.ble pc 14 then (bif Nat.beq pc 14 then some (.getfield 20) else none) else (bif Nat.beq pc 17 then some (.iload_n 2) else none)) else (bif Nat.ble pc 18 then (bif Nat.beq pc 18 then some (.laload) else none) else (bif Nat.beq pc 19 then some (.aload_n 0) else none))))) else (bif Nat.ble pc 30 then (bif Nat.ble pc 24 then (bif Nat.ble pc 20 then (bif Nat.beq pc 20 then some (.getfield 13) else none) else (bif Nat.ble pc 23 then (bif Nat.beq pc 23 then some (.i2l) else none) else (bif Nat.beq pc 24 then some (.lcmp) else none))) else (bif Nat.ble pc 28 then (bif Nat.ble pc 25 then (bif Nat.beq pc 25 then some (.ifCond .le 12) else none) else (bif Nat.beq pc 28 then some (.iload_n 1) else none)) else (bif Nat.ble pc 29 then (bif Nat.beq pc 29 then some (.aload_n 0) else none) else (bif Nat.beq pc 30 then some (.getfield 24) else none)))) else (bif Nat.ble pc 36 then (bif Nat.ble pc 34 then (bif Nat.ble pc 33 then (bif Nat.beq pc 33 then some (.iload_n 2) else none) else (bif Nat.beq pc 34 then some (.iaload) else none)) else (bif Nat.ble pc 35 then (bif Nat.beq pc 35 then some (.iadd) else none) else (bif Nat.beq pc 36 then some (.istore_n 1) else none))) else (bif Nat.ble pc 40 then (bif Nat.ble pc 37 then (bif Nat.beq pc 37 then some (.iinc 2 1) else none) else (bif Nat.beq pc 40 then some (.goto (-36)) else none)) else (bif Nat.ble pc 43 then (bif Nat.beq pc 43 then some (.iload_n 1) else none) else (bif Nat.beq pc 44 then some (.ireturn) else none))))))
def K_8 : MTab := ([], [(13, (0, 1)), (20, (0, 3)), (24, (0, 4))], [], [], [], [], [], [], [])
abbrev B_8 : MKall := mmBody K_8 I_8 (some .int) 3 1000
theorem chk_8 : mmChk prog_25_method_3_code I_8 45 = true := by decide +kernel
theorem hI_8 : ∀ pc i, I_8 pc = some i → decode prog_25_method_3_code pc = .ok (i, mmLen i) := mmCut_ok chk_8
theorem pd_8 : parseMethodDescriptor "()I" = some ⟨[], some .int⟩ := by decide +kernel
theorem T_8 (l : Launch) (Z : State) (a0 : Array Value) (hw : ∀ d ∈ tables_1, d.before a0 Z = true) (ce sl : Nat) : mmTabOk CT l Z a0 "com/example/invigil/invigil/solve/SeatOverflow" "breachingCount" ({ frames := 0, cells := ce, slots := sl, locals := 0 } : Room) K_8 :=
  ⟨trivial,
   ⟨⟨_, _, _, _, _, _, _, rfl, rfl, (hw _ (List.mem_of_getElem? (i := 17) rfl))⟩, ⟨_, _, _, _, _, _, _, rfl, rfl, (hw _ (List.mem_of_getElem? (i := 22) rfl))⟩, ⟨_, _, _, _, _, _, _, rfl, rfl, (hw _ (List.mem_of_getElem? (i := 24) rfl))⟩, trivial⟩,
   trivial,
   trivial,
   trivial,
   trivial,
   trivial,
   trivial,
   trivial⟩
theorem pl_8 : plainFor (⟨"com/example/invigil/invigil/solve/SeatOverflow", "breachingCount", "()I"⟩ : MethodName) = true := by first | exact plainFor_of_name (by first | (simp [plainName, overriddenIn]; done) | decide +kernel) | decide +kernel
theorem G_8 (l : Launch) (Z : State) (a0 : Array Value) (hw : ∀ d ∈ tables_1, d.before a0 Z = true) : mmGood CT l Z (⟨"com/example/invigil/invigil/solve/SeatOverflow", "breachingCount", "()I"⟩ : MethodName) prog_25_method_3_code 3 (some .int) 0 0 B_8 := mmGood_of 1000 pl_8 hI_8 (CT_ok l Z a0 hw) (T_8 l Z a0 hw)
/-- body 0: SeatOverflowBreachingCountPinLaw.law -/
def I_0 : Nat → Option Instr := mmCut 313 fun pc => (bif Nat.ble pc 142 then (bif Nat.ble pc 63 then (bif Nat.ble pc 33 then (bif Nat.ble pc 15 then (bif Nat.ble pc 6 then (bif Nat.ble pc 1 then (bif Nat.ble pc 0 then (bif Nat.beq pc 0 then some (.iload_n 0) else none) else (bif Nat.beq pc 1 then some (.ldc 7) else none)) else (bif Nat.ble pc 3 then (bif Nat.beq pc 3 then some (.iand) else none) else (bif Nat.ble pc 4 then (bif Nat.beq pc 4 then some (.istore 5) else none) else (bif Nat.beq pc 6 then some (.iload_n 1) else none)))) else (bif Nat.ble pc 10 then (bif Nat.ble pc 7 then (bif Nat.beq pc 7 then some (.ldc 7) else none) else (bif Nat.ble pc 9 then (bif Nat.beq pc 9 then some (.iand) else none) else (bif Nat.beq pc 10 then some (.istore 6) else none))) else (bif Nat.ble pc 12 then (bif Nat.beq pc 12 then some (.iload_n 2) else none) else (bif Nat.ble pc 13 then (bif Nat.beq pc 13 then some (.ldc 7) else none) else (bif Nat.beq pc 15 then some (.iand) else none))))) else (bif Nat.ble pc 23 then (bif Nat.ble pc 19 then (bif Nat.ble pc 16 then (bif Nat.beq pc 16 then some (.istore 7) else none) else (bif Nat.ble pc 18 then (bif Nat.beq pc 18 then some (.iconst 1) else none) else (bif Nat.beq pc 19 then some (.iload_n 3) else none))) else (bif Nat.ble pc 20 then (bif Nat.beq pc 20 then some (.ldc 7) else none) else (bif Nat.ble pc 22 then (bif Nat.beq pc 22 then some (.iand) else none) else (bif Nat.beq pc 23 then some (.invokestatic 8) else none)))) else (bif Nat.ble pc 30 then (bif Nat.ble pc 26 then (bif Nat.beq pc 26 then some (.istore 8) else none) else (bif Nat.ble pc 28 then (bif Nat.beq pc 28 then some (.iload 4) else none) else (bif Nat.beq pc 30 then some (.iconst 3) else none))) else (bif Nat.ble pc 31 then (bif Nat.beq pc 31 then some (.iand) else none) else (bif Nat.ble pc 32 then (bif Nat.beq pc 32 then some (.iconst 3) else none) else (bif Nat.beq pc 33 then some (.irem) else none)))))) else (bif Nat.ble pc 48 then (bif Nat.ble pc 40 then (bif Nat.ble pc 36 then (bif Nat.ble pc 34 then (bif Nat.beq pc 34 then some (.istore 9) else none) else (bif Nat.beq pc 36 then some (.iload 4) else none)) else (bif Nat.ble pc 38 then (bif Nat.beq pc 38 then some (.iconst 2) else none) else (bif Nat.ble pc 39 then (bif Nat.beq pc 39 then some (.iushr) else none) else (bif Nat.beq pc 40 then some (.iconst 3) else none)))) else (bif Nat.ble pc 43 then (bif Nat.ble pc 41 then (bif Nat.beq pc 41 then some (.iand) else none) else (bif Nat.ble pc 42 then (bif Nat.beq pc 42 then some (.iconst 3) else none) else (bif Nat.beq pc 43 then some (.irem) else none))) else (bif Nat.ble pc 44 then (bif Nat.beq pc 44 then some (.istore 10) else none) else (bif Nat.ble pc 46 then (bif Nat.beq pc 46 then some (.iload 4) else none) else (bif Nat.beq pc 48 then some (.iconst 4) else none))))) else (bif Nat.ble pc 54 then (bif Nat.ble pc 51 then (bif Nat.ble pc 49 then (bif Nat.beq pc 49 then some (.iushr) else none) else (bif Nat.ble pc 50 then (bif Nat.beq pc 50 then some (.iconst 3) else none) else (bif Nat.beq pc 51 then some (.iand) else none))) else (bif Nat.ble pc 52 then (bif Nat.beq pc 52 then some (.iconst 3) else none) else (bif Nat.ble pc 53 then (bif Nat.beq pc 53 then some (.irem) else none) else (bif Nat.beq pc 54 then some (.istore 11) else none)))) else (bif Nat.ble pc 60 then (bif Nat.ble pc 56 then (bif Nat.beq pc 56 then some (.iload 4) else none) else (bif Nat.ble pc 58 then (bif Nat.beq pc 58 then some (.bipush 6) else none) else (bif Nat.beq pc 60 then some (.iushr) else none))) else (bif Nat.ble pc 61 then (bif Nat.beq pc 61 then some (.iconst 1) else none) else (bif Nat.ble pc 62 then (bif Nat.beq pc 62 then some (.iand) else none) else (bif Nat.beq pc 63 then some (.ifCond .eq 7) else none))))))) else (bif Nat.ble pc 103 then (bif Nat.ble pc 84 then (bif Nat.ble pc 73 then (bif Nat.ble pc 67 then (bif Nat.ble pc 66 then (bif Nat.beq pc 66 then some (.iconst 1) else none) else (bif Nat.beq pc 67 then some (.goto 4) else none)) else (bif Nat.ble pc 70 then (bif Nat.beq pc 70 then some (.iconst 0) else none) else (bif Nat.ble pc 71 then (bif Nat.beq pc 71 then some (.istore 12) else none) else (bif Nat.beq pc 73 then some (.iload 12) else none)))) else (bif Nat.ble pc 80 then (bif Nat.ble pc 75 then (bif Nat.beq pc 75 then some (.ifCond .eq 20) else none) else (bif Nat.ble pc 78 then (bif Nat.beq pc 78 then some (.iload 9) else none) else (bif Nat.beq pc 80 then some (.iconst 1) else none))) else (bif Nat.ble pc 81 then (bif Nat.beq pc 81 then some (.iadd) else none) else (bif Nat.ble pc 82 then (bif Nat.beq pc 82 then some (.iload 4) else none) else (bif Nat.beq pc 84 then some (.bipush 7) else none))))) else (bif Nat.ble pc 91 then (bif Nat.ble pc 88 then (bif Nat.ble pc 86 then (bif Nat.beq pc 86 then some (.iushr) else none) else (bif Nat.ble pc 87 then (bif Nat.beq pc 87 then some (.iconst 1) else none) else (bif Nat.beq pc 88 then some (.iand) else none))) else (bif Nat.ble pc 89 then (bif Nat.beq pc 89 then some (.iadd) else none) else (bif Nat.ble pc 90 then (bif Nat.beq pc 90 then some (.iconst 3) else none) else (bif Nat.beq pc 91 then some (.irem) else none)))) else (bif Nat.ble pc 97 then (bif Nat.ble pc 92 then (bif Nat.beq pc 92 then some (.goto 5) else none) else (bif Nat.ble pc 95 then (bif Nat.beq pc 95 then some (.iload 9) else none) else (bif Nat.beq pc 97 then some (.istore 13) else none))) else (bif Nat.ble pc 99 then (bif Nat.beq pc 99 then some (.iload 4) else none) else (bif Nat.ble pc 101 then (bif Nat.beq pc 101 then some (.bipush 8) else none) else (bif Nat.beq pc 103 then some (.iushr) else none)))))) else (bif Nat.ble pc 126 then (bif Nat.ble pc 113 then (bif Nat.ble pc 106 then (bif Nat.ble pc 104 then (bif Nat.beq pc 104 then some (.iconst 1) else none) else (bif Nat.ble pc 105 then (bif Nat.beq pc 105 then some (.iand) else none) else (bif Nat.beq pc 106 then some (.ifCond .eq 7) else none))) else (bif Nat.ble pc 109 then (bif Nat.beq pc 109 then some (.iconst 1) else none) else (bif Nat.ble pc 110 then (bif Nat.beq pc 110 then some (.goto 4) else none) else (bif Nat.beq pc 113 then some (.iconst 0) else none)))) else (bif Nat.ble pc 118 then (bif Nat.ble pc 114 then (bif Nat.beq pc 114 then some (.istore 14) else none) else (bif Nat.ble pc 116 then (bif Nat.beq pc 116 then some (.iload 14) else none) else (bif Nat.beq pc 118 then some (.ifCond .eq 8) else none))) else (bif Nat.ble pc 121 then (bif Nat.beq pc 121 then some (.iload 11) else none) else (bif Nat.ble pc 123 then (bif Nat.beq pc 123 then some (.goto 4) else none) else (bif Nat.beq pc 126 then some (.iconst (-1)) else none))))) else (bif Nat.ble pc 134 then (bif Nat.ble pc 130 then (bif Nat.ble pc 127 then (bif Nat.beq pc 127 then some (.istore 15) else none) else (bif Nat.ble pc 129 then (bif Nat.beq pc 129 then some (.iconst 3) else none) else (bif Nat.beq pc 130 then some (.newarray .int) else none))) else (bif Nat.ble pc 132 then (bif Nat.beq pc 132 then some (.dup) else none) else (bif Nat.ble pc 133 then (bif Nat.beq pc 133 then some (.iconst 0) else none) else (bif Nat.beq pc 134 then some (.iload 5) else none)))) else (bif Nat.ble pc 138 then (bif Nat.ble pc 136 then (bif Nat.beq pc 136 then some (.iastore) else none) else (bif Nat.ble pc 137 then (bif Nat.beq pc 137 then some (.dup) else none) else (bif Nat.beq pc 138 then some (.iconst 1) else none))) else (bif Nat.ble pc 139 then (bif Nat.beq pc 139 then some (.iload 6) else none) else (bif Nat.ble pc 141 then (bif Nat.beq pc 141 then some (.iastore) else none) else (bif Nat.beq pc 142 then some (.dup) else none)))))))) else (bif Nat.ble pc 216 then (bif Nat.ble pc 175 then (bif Nat.ble pc 157 then (bif Nat.ble pc 149 then (bif Nat.ble pc 144 then (bif Nat.ble pc 143 then (bif Nat.beq pc 143 then some (.iconst 2) else none) else (bif Nat.beq pc 144 then some (.iload 7) else none)) else (bif Nat.ble pc 146 then (bif Nat.beq pc 146 then some (.iastore) else none) else (bif Nat.ble pc 147 then (bif Nat.beq pc 147 then some (.astore 16) else none) else (bif Nat.beq pc 149 then some (.iconst 3) else none)))) else (bif Nat.ble pc 153 then (bif Nat.ble pc 150 then (bif Nat.beq pc 150 then some (.newarray .int) else none) else (bif Nat.ble pc 152 then (bif Nat.beq pc 152 then some (.dup) else none) else (bif Nat.beq pc 153 then some (.iconst 0) else none))) else (bif Nat.ble pc 154 then (bif Nat.beq pc 154 then some (.iload 13) else none) else (bif Nat.ble pc 156 then (bif Nat.beq pc 156 then some (.iastore) else none) else (bif Nat.beq pc 157 then some (.dup) else none))))) else (bif Nat.ble pc 164 then (bif Nat.ble pc 161 then (bif Nat.ble pc 158 then (bif Nat.beq pc 158 then some (.iconst 1) else none) else (bif Nat.ble pc 159 then (bif Nat.beq pc 159 then some (.iload 10) else none) else (bif Nat.beq pc 161 then some (.iastore) else none))) else (bif Nat.ble pc 162 then (bif Nat.beq pc 162 then some (.dup) else none) else (bif Nat.ble pc 163 then (bif Nat.beq pc 163 then some (.iconst 2) else none) else (bif Nat.beq pc 164 then some (.iload 15) else none)))) else (bif Nat.ble pc 169 then (bif Nat.ble pc 166 then (bif Nat.beq pc 166 then some (.iastore) else none) else (bif Nat.ble pc 167 then (bif Nat.beq pc 167 then some (.astore 17) else none) else (bif Nat.beq pc 169 then some (.new 14) else none))) else (bif Nat.ble pc 172 then (bif Nat.beq pc 172 then some (.dup) else none) else (bif Nat.ble pc 173 then (bif Nat.beq pc 173 then some (.aload 16) else none) else (bif Nat.beq pc 175 then some (.iload 8) else none)))))) else (bif Nat.ble pc 195 then (bif Nat.ble pc 185 then (bif Nat.ble pc 178 then (bif Nat.ble pc 177 then (bif Nat.beq pc 177 then some (.iconst 3) else none) else (bif Nat.beq pc 178 then some (.aload 17) else none)) else (bif Nat.ble pc 180 then (bif Nat.beq pc 180 then some (.invokespecial 16) else none) else (bif Nat.ble pc 183 then (bif Nat.beq pc 183 then some (.astore 18) else none) else (bif Nat.beq pc 185 then some (.aload 18) else none)))) else (bif Nat.ble pc 189 then (bif Nat.ble pc 187 then (bif Nat.beq pc 187 then some (.iconst 0) else none) else (bif Nat.ble pc 188 then (bif Nat.beq pc 188 then some (.iconst (-1)) else none) else (bif Nat.beq pc 189 then some (.iload 9) else none))) else (bif Nat.ble pc 191 then (bif Nat.beq pc 191 then some (.invokevirtual 21) else none) else (bif Nat.ble pc 194 then (bif Nat.beq pc 194 then some (.pop2) else none) else (bif Nat.beq pc 195 then some (.aload 18) else none))))) else (bif Nat.ble pc 205 then (bif Nat.ble pc 199 then (bif Nat.ble pc 197 then (bif Nat.beq pc 197 then some (.iconst 1) else none) else (bif Nat.ble pc 198 then (bif Nat.beq pc 198 then some (.iconst (-1)) else none) else (bif Nat.beq pc 199 then some (.iload 10) else none))) else (bif Nat.ble pc 201 then (bif Nat.beq pc 201 then some (.invokevirtual 21) else none) else (bif Nat.ble pc 204 then (bif Nat.beq pc 204 then some (.pop2) else none) else (bif Nat.beq pc 205 then some (.iload 14) else none)))) else (bif Nat.ble pc 212 then (bif Nat.ble pc 207 then (bif Nat.beq pc 207 then some (.ifCond .eq 13) else none) else (bif Nat.ble pc 210 then (bif Nat.beq pc 210 then some (.aload 18) else none) else (bif Nat.beq pc 212 then some (.iconst 2) else none))) else (bif Nat.ble pc 213 then (bif Nat.beq pc 213 then some (.iconst (-1)) else none) else (bif Nat.ble pc 214 then (bif Nat.beq pc 214 then some (.iload 11) else none) else (bif Nat.beq pc 216 then some (.invokevirtual 21) else none))))))) else (bif Nat.ble pc 263 then (bif Nat.ble pc 238 then (bif Nat.ble pc 227 then (bif Nat.ble pc 220 then (bif Nat.ble pc 219 then (bif Nat.beq pc 219 then some (.pop2) else none) else (bif Nat.beq pc 220 then some (.iload 12) else none)) else (bif Nat.ble pc 222 then (bif Nat.beq pc 222 then some (.ifCond .eq 14) else none) else (bif Nat.ble pc 225 then (bif Nat.beq pc 225 then some (.aload 18) else none) else (bif Nat.beq pc 227 then some (.iconst 0) else none)))) else (bif Nat.ble pc 232 then (bif Nat.ble pc 228 then (bif Nat.beq pc 228 then some (.iload 9) else none) else (bif Nat.ble pc 230 then (bif Nat.beq pc 230 then some (.iload 13) else none) else (bif Nat.beq pc 232 then some (.invokevirtual 21) else none))) else (bif Nat.ble pc 235 then (bif Nat.beq pc 235 then some (.pop2) else none) else (bif Nat.ble pc 236 then (bif Nat.beq pc 236 then some (.iload 13) else none) else (bif Nat.beq pc 238 then some (.iload 8) else none))))) else (bif Nat.ble pc 250 then (bif Nat.ble pc 244 then (bif Nat.ble pc 240 then (bif Nat.beq pc 240 then some (.iload 13) else none) else (bif Nat.ble pc 242 then (bif Nat.beq pc 242 then some (.iload 10) else none) else (bif Nat.beq pc 244 then some (.iload 15) else none))) else (bif Nat.ble pc 246 then (bif Nat.beq pc 246 then some (.iload 5) else none) else (bif Nat.ble pc 248 then (bif Nat.beq pc 248 then some (.iload 6) else none) else (bif Nat.beq pc 250 then some (.iload 7) else none)))) else (bif Nat.ble pc 257 then (bif Nat.ble pc 252 then (bif Nat.beq pc 252 then some (.invokestatic 25) else none) else (bif Nat.ble pc 255 then (bif Nat.beq pc 255 then some (.iload 10) else none) else (bif Nat.beq pc 257 then some (.iload 8) else none))) else (bif Nat.ble pc 259 then (bif Nat.beq pc 259 then some (.iload 13) else none) else (bif Nat.ble pc 261 then (bif Nat.beq pc 261 then some (.iload 10) else none) else (bif Nat.beq pc 263 then some (.iload 15) else none)))))) else (bif Nat.ble pc 287 then (bif Nat.ble pc 275 then (bif Nat.ble pc 269 then (bif Nat.ble pc 265 then (bif Nat.beq pc 265 then some (.iload 5) else none) else (bif Nat.ble pc 267 then (bif Nat.beq pc 267 then some (.iload 6) else none) else (bif Nat.beq pc 269 then some (.iload 7) else none))) else (bif Nat.ble pc 271 then (bif Nat.beq pc 271 then some (.invokestatic 25) else none) else (bif Nat.ble pc 274 then (bif Nat.beq pc 274 then some (.iadd) else none) else (bif Nat.beq pc 275 then some (.iload 15) else none)))) else (bif Nat.ble pc 281 then (bif Nat.ble pc 277 then (bif Nat.beq pc 277 then some (.iload 8) else none) else (bif Nat.ble pc 279 then (bif Nat.beq pc 279 then some (.iload 13) else none) else (bif Nat.beq pc 281 then some (.iload 10) else none))) else (bif Nat.ble pc 283 then (bif Nat.beq pc 283 then some (.iload 15) else none) else (bif Nat.ble pc 285 then (bif Nat.beq pc 285 then some (.iload 5) else none) else (bif Nat.beq pc 287 then some (.iload 6) else none))))) else (bif Nat.ble pc 299 then (bif Nat.ble pc 294 then (bif Nat.ble pc 289 then (bif Nat.beq pc 289 then some (.iload 7) else none) else (bif Nat.ble pc 291 then (bif Nat.beq pc 291 then some (.invokestatic 25) else none) else (bif Nat.beq pc 294 then some (.iadd) else none))) else (bif Nat.ble pc 295 then (bif Nat.beq pc 295 then some (.istore 19) else none) else (bif Nat.ble pc 297 then (bif Nat.beq pc 297 then some (.aload 18) else none) else (bif Nat.beq pc 299 then some (.invokevirtual 31) else none)))) else (bif Nat.ble pc 307 then (bif Nat.ble pc 302 then (bif Nat.beq pc 302 then some (.iload 19) else none) else (bif Nat.ble pc 304 then (bif Nat.beq pc 304 then some (.if_icmp .ne 7) else none) else (bif Nat.beq pc 307 then some (.iconst 1) else none))) else (bif Nat.ble pc 308 then (bif Nat.beq pc 308 then some (.goto 4) else none) else (bif Nat.ble pc 311 then (bif Nat.beq pc 311 then some (.iconst 0) else none) else (bif Nat.beq pc 312 then some (.ireturn) else none)))))))))
def K_0 : MTab := ([(7, .int (2147483647))], [], [], [(14, (0, 6, [.null, .int 0, .null, .null, .null, .long 0]))], [.int], [], [(8, (2, none, 0, F_1)), (25, (8, none, 1, B_6))], [(21, (4, some 0, 0, B_3)), (31, (1, some 0, 0, B_8))], [(16, (5, some 0, 1, B_2))])
abbrev B_0 : MKall := mmBody K_0 I_0 (some .boolean) 20 1000
theorem chk_0 : mmChk code I_0 313 = true := by decide +kernel
theorem hI_0 : ∀ pc i, I_0 pc = some i → decode code pc = .ok (i, mmLen i) := mmCut_ok chk_0
theorem T_0 (l : Launch) (Z : State) (a0 : Array Value) (hw : ∀ d ∈ tables_1, d.before a0 Z = true) : mmTabOk CT l Z a0 "com/example/invigil/invigil/solve/SeatOverflowBreachingCountPinLaw" "law" room_1 K_0 :=
  ⟨⟨⟨fun x h => by cases h; exact (hw _ (List.mem_of_getElem? (i := 0) rfl)), fun x h => by cases h⟩, trivial⟩,
   trivial,
   trivial,
   ⟨⟨_, _, rfl, rfl, (hw _ (List.mem_of_getElem? (i := 6) rfl))⟩, trivial⟩,
   ⟨(hw _ (List.mem_of_getElem? (i := 5) rfl)), trivial⟩,
   trivial,
   ⟨mmCallS (hw _ (List.mem_of_getElem? (i := 1) rfl)) (hw _ (List.mem_of_getElem? (i := 2) rfl)) (hw _ (List.mem_of_getElem? (i := 3) rfl)) (hw _ (List.mem_of_getElem? (i := 4) rfl)) (by decide) (G_1 l Z a0 hw) (Nat.le_of_ble_eq_true rfl) (Nat.le_of_ble_eq_true rfl) pd_1 rfl, mmCallS (hw _ (List.mem_of_getElem? (i := 40) rfl)) (hw _ (List.mem_of_getElem? (i := 41) rfl)) (hw _ (List.mem_of_getElem? (i := 42) rfl)) (hw _ (List.mem_of_getElem? (i := 43) rfl)) (by decide) (G_6 l Z a0 hw) (Nat.le_of_ble_eq_true rfl) (Nat.le_of_ble_eq_true rfl) pd_6 rfl, trivial⟩,
   ⟨mmCallV rfl (hw _ (List.mem_of_getElem? (i := 26) rfl)) (hw _ (List.mem_of_getElem? (i := 27) rfl)) (hw _ (List.mem_of_getElem? (i := 29) rfl)) (hw _ (List.mem_of_getElem? (i := 28) rfl)) (hw _ (List.mem_of_getElem? (i := 8) rfl)) (hw _ (List.mem_of_getElem? (i := 30) rfl)) (by decide) (G_3 l Z a0 hw) (Nat.le_of_ble_eq_true rfl) (Nat.le_of_ble_eq_true rfl) pd_3 rfl, mmCallV rfl (hw _ (List.mem_of_getElem? (i := 47) rfl)) (hw _ (List.mem_of_getElem? (i := 48) rfl)) (hw _ (List.mem_of_getElem? (i := 50) rfl)) (hw _ (List.mem_of_getElem? (i := 49) rfl)) (hw _ (List.mem_of_getElem? (i := 8) rfl)) (hw _ (List.mem_of_getElem? (i := 51) rfl)) (by decide) (G_8 l Z a0 hw) (Nat.le_of_ble_eq_true rfl) (Nat.le_of_ble_eq_true rfl) pd_8 rfl, trivial⟩,
   ⟨mmCallI rfl (hw _ (List.mem_of_getElem? (i := 9) rfl)) (hw _ (List.mem_of_getElem? (i := 10) rfl)) (hw _ (List.mem_of_getElem? (i := 8) rfl)) (hw _ (List.mem_of_getElem? (i := 11) rfl)) (by decide) (G_2 l Z a0 hw) (Nat.le_of_ble_eq_true rfl) (Nat.le_of_ble_eq_true rfl) pd_2 rfl, trivial⟩⟩
theorem pl_0 : plainFor x = true := by first | exact plainFor_of_name (by first | (simp [plainName, overriddenIn]; done) | decide +kernel) | decide +kernel
set_option maxRecDepth 65536 in
set_option maxHeartbeats 40000000 in
theorem own_mv0 (f : Nat → Int64) (g : Nat → Int32) (x : Int64) (s0 s1 s2 t0 t1 t2 e : Int32) (p : Int32) (P : Nat) (hp : p.toInt = P) (hP : P < 3) : ∃ (f' : Nat → Int64) (g' : Nat → Int32) (x' : Int64), B_3 [.ref 2, .int (0 : Int32), .int (-1 : Int32), .int p] [.inr (.int, [.int s0, .int s1, .int s2]), .inr (.int, [.int t0, .int t1, .int t2]), .inl (0, [.ref 0, .int e, .ref 1, .ref 3, .ref 4, .long x]), .inr (.long, own_l 3 f), .inr (.int, own_n 3 g)] = some (some (.long 0), [.inr (.int, [.int s0, .int s1, .int s2]), .inr (.int, [.int t0, .int t1, .int t2]), .inl (0, [.ref 0, .int e, .ref 1, .ref 3, .ref 4, .long x']), .inr (.long, own_l 3 f'), .inr (.int, own_n 3 g')], 0) ∧ (∀ j, f' j = if j = P then f P + s0.toInt64 else f j) ∧ (∀ j, g' j = if j = P then g P + (1 : Int32) else g j) := by
  have hpn := own_nn hp
  refine ⟨(fun j => if j = P then ((f P) + s0.toInt64) else f j), (fun j => if j = P then ((g P) + (1 : Int32)) else g j), (x + ((if (0 : Int64) < (((f P) + s0.toInt64) - e.toInt64) then (((f P) + s0.toInt64) - e.toInt64) else (0 : Int64)) - (if (0 : Int64) < ((f P) - e.toInt64) then ((f P) - e.toInt64) else (0 : Int64)))), mmB_of rfl ?_, fun _ => rfl, fun _ => rfl⟩
  show mmW K_3 I_3 (some .long) 1000 0 [.val (.ref 2), .val (.int (0 : Int32)), .val (.int (-1 : Int32)), .val (.int p), .unset] [] [.inr (.int, [.int s0, .int s1, .int s2]), .inr (.int, [.int t0, .int t1, .int t2]), .inl (0, [.ref 0, .int e, .ref 1, .ref 3, .ref 4, .long x]), .inr (.long, own_l 3 f), .inr (.int, own_n 3 g)] 0 _
  refine mmW_steps (k := 15) (n := 985) (pc' := 80) (L' := [.val (.ref 2), .val (.int (0 : Int32)), .val (.int (-1 : Int32)), .val (.int p), .val (.int s0)]) (S' := [.int p, .ref 3, .ref 2, .long x, .ref 2]) (H' := [.inr (.int, [.int s0, .int s1, .int s2]), .inr (.int, [.int t0, .int t1, .int t2]), .inl (0, [.ref 0, .int e, .ref 1, .ref 3, .ref 4, .long x]), .inr (.long, own_l 3 f), .inr (.int, own_n 3 g)]) (sl' := 0) rfl ?_
  refine mmW_laload (n := 984) rfl (rfl) (hpn.1) (by rw [mmNth_eq, hpn.2]; exact own_l_nth f hP) ?_
  show mmW K_3 I_3 (some .long) (984) 81 [.val (.ref 2), .val (.int (0 : Int32)), .val (.int (-1 : Int32)), .val (.int p), .val (.int s0)] [.long (f P), .ref 2, .long x, .ref 2] [.inr (.int, [.int s0, .int s1, .int s2]), .inr (.int, [.int t0, .int t1, .int t2]), .inl (0, [.ref 0, .int e, .ref 1, .ref 3, .ref 4, .long x]), .inr (.long, own_l 3 f), .inr (.int, own_n 3 g)] 0 _
  refine mmW_steps (k := 8) (n := 976) (pc' := 94) (L' := [.val (.ref 2), .val (.int (0 : Int32)), .val (.int (-1 : Int32)), .val (.int p), .val (.int s0)]) (S' := [.int p, .ref 3, .ref 2, .long (if (0 : Int64) < (((f P) + s0.toInt64) - e.toInt64) then (((f P) + s0.toInt64) - e.toInt64) else (0 : Int64)), .long x, .ref 2]) (H' := [.inr (.int, [.int s0, .int s1, .int s2]), .inr (.int, [.int t0, .int t1, .int t2]), .inl (0, [.ref 0, .int e, .ref 1, .ref 3, .ref 4, .long x]), .inr (.long, own_l 3 f), .inr (.int, own_n 3 g)]) (sl' := 0) rfl ?_
  refine mmW_laload (n := 975) rfl (rfl) (hpn.1) (by rw [mmNth_eq, hpn.2]; exact own_l_nth f hP) ?_
  show mmW K_3 I_3 (some .long) (975) 95 [.val (.ref 2), .val (.int (0 : Int32)), .val (.int (-1 : Int32)), .val (.int p), .val (.int s0)] [.long (f P), .ref 2, .long (if (0 : Int64) < (((f P) + s0.toInt64) - e.toInt64) then (((f P) + s0.toInt64) - e.toInt64) else (0 : Int64)), .long x, .ref 2] [.inr (.int, [.int s0, .int s1, .int s2]), .inr (.int, [.int t0, .int t1, .int t2]), .inl (0, [.ref 0, .int e, .ref 1, .ref 3, .ref 4, .long x]), .inr (.long, own_l 3 f), .inr (.int, own_n 3 g)] 0 _
  refine mmW_steps (k := 8) (n := 967) (pc' := 109) (L' := [.val (.ref 2), .val (.int (0 : Int32)), .val (.int (-1 : Int32)), .val (.int p), .val (.int s0)]) (S' := [.int p, .ref 3, .int p, .ref 3]) (H' := [.inr (.int, [.int s0, .int s1, .int s2]), .inr (.int, [.int t0, .int t1, .int t2]), .inl (0, [.ref 0, .int e, .ref 1, .ref 3, .ref 4, .long (x + ((if (0 : Int64) < (((f P) + s0.toInt64) - e.toInt64) then (((f P) + s0.toInt64) - e.toInt64) else (0 : Int64)) - (if (0 : Int64) < ((f P) - e.toInt64) then ((f P) - e.toInt64) else (0 : Int64))))]), .inr (.long, own_l 3 f), .inr (.int, own_n 3 g)]) (sl' := 0) rfl ?_
  refine mmW_laload (n := 966) rfl (rfl) (hpn.1) (by rw [mmNth_eq, hpn.2]; exact own_l_nth f hP) ?_
  show mmW K_3 I_3 (some .long) (966) 110 [.val (.ref 2), .val (.int (0 : Int32)), .val (.int (-1 : Int32)), .val (.int p), .val (.int s0)] [.long (f P), .int p, .ref 3] [.inr (.int, [.int s0, .int s1, .int s2]), .inr (.int, [.int t0, .int t1, .int t2]), .inl (0, [.ref 0, .int e, .ref 1, .ref 3, .ref 4, .long (x + ((if (0 : Int64) < (((f P) + s0.toInt64) - e.toInt64) then (((f P) + s0.toInt64) - e.toInt64) else (0 : Int64)) - (if (0 : Int64) < ((f P) - e.toInt64) then ((f P) - e.toInt64) else (0 : Int64))))]), .inr (.long, own_l 3 f), .inr (.int, own_n 3 g)] 0 _
  refine mmW_steps (k := 3) (n := 963) (pc' := 114) (L' := [.val (.ref 2), .val (.int (0 : Int32)), .val (.int (-1 : Int32)), .val (.int p), .val (.int s0)]) (S' := [.long ((f P) + s0.toInt64), .int p, .ref 3]) (H' := [.inr (.int, [.int s0, .int s1, .int s2]), .inr (.int, [.int t0, .int t1, .int t2]), .inl (0, [.ref 0, .int e, .ref 1, .ref 3, .ref 4, .long (x + ((if (0 : Int64) < (((f P) + s0.toInt64) - e.toInt64) then (((f P) + s0.toInt64) - e.toInt64) else (0 : Int64)) - (if (0 : Int64) < ((f P) - e.toInt64) then ((f P) - e.toInt64) else (0 : Int64))))]), .inr (.long, own_l 3 f), .inr (.int, own_n 3 g)]) (sl' := 0) rfl ?_
  refine mmW_lastore (n := 962) rfl (rfl) (hpn.1) (by rw [hpn.2, own_l_len]; exact hP) ?_
  show mmW K_3 I_3 (some .long) (962) 115 [.val (.ref 2), .val (.int (0 : Int32)), .val (.int (-1 : Int32)), .val (.int p), .val (.int s0)] [] [.inr (.int, [.int s0, .int s1, .int s2]), .inr (.int, [.int t0, .int t1, .int t2]), .inl (0, [.ref 0, .int e, .ref 1, .ref 3, .ref 4, .long (x + ((if (0 : Int64) < (((f P) + s0.toInt64) - e.toInt64) then (((f P) + s0.toInt64) - e.toInt64) else (0 : Int64)) - (if (0 : Int64) < ((f P) - e.toInt64) then ((f P) - e.toInt64) else (0 : Int64))))]), .inr (.long, (own_l 3 f).set p.toNatClampNeg (.long ((f P) + s0.toInt64))), .inr (.int, own_n 3 g)] 0 _
  rw [hpn.2, own_l_set]
  refine mmW_steps (k := 4) (n := 958) (pc' := 121) (L' := [.val (.ref 2), .val (.int (0 : Int32)), .val (.int (-1 : Int32)), .val (.int p), .val (.int s0)]) (S' := [.int p, .ref 4, .int p, .ref 4]) (H' := [.inr (.int, [.int s0, .int s1, .int s2]), .inr (.int, [.int t0, .int t1, .int t2]), .inl (0, [.ref 0, .int e, .ref 1, .ref 3, .ref 4, .long (x + ((if (0 : Int64) < (((f P) + s0.toInt64) - e.toInt64) then (((f P) + s0.toInt64) - e.toInt64) else (0 : Int64)) - (if (0 : Int64) < ((f P) - e.toInt64) then ((f P) - e.toInt64) else (0 : Int64))))]), .inr (.long, own_l 3 (fun j => if j = P then ((f P) + s0.toInt64) else f j)), .inr (.int, own_n 3 g)]) (sl' := 0) rfl ?_
  refine mmW_iaload (n := 957) rfl (rfl) (hpn.1) (by rw [mmNth_eq, hpn.2]; exact own_n_nth g hP) ?_
  show mmW K_3 I_3 (some .long) (957) 122 [.val (.ref 2), .val (.int (0 : Int32)), .val (.int (-1 : Int32)), .val (.int p), .val (.int s0)] [.int (g P), .int p, .ref 4] [.inr (.int, [.int s0, .int s1, .int s2]), .inr (.int, [.int t0, .int t1, .int t2]), .inl (0, [.ref 0, .int e, .ref 1, .ref 3, .ref 4, .long (x + ((if (0 : Int64) < (((f P) + s0.toInt64) - e.toInt64) then (((f P) + s0.toInt64) - e.toInt64) else (0 : Int64)) - (if (0 : Int64) < ((f P) - e.toInt64) then ((f P) - e.toInt64) else (0 : Int64))))]), .inr (.long, own_l 3 (fun j => if j = P then ((f P) + s0.toInt64) else f j)), .inr (.int, own_n 3 g)] 0 _
  refine mmW_steps (k := 2) (n := 955) (pc' := 124) (L' := [.val (.ref 2), .val (.int (0 : Int32)), .val (.int (-1 : Int32)), .val (.int p), .val (.int s0)]) (S' := [.int ((g P) + (1 : Int32)), .int p, .ref 4]) (H' := [.inr (.int, [.int s0, .int s1, .int s2]), .inr (.int, [.int t0, .int t1, .int t2]), .inl (0, [.ref 0, .int e, .ref 1, .ref 3, .ref 4, .long (x + ((if (0 : Int64) < (((f P) + s0.toInt64) - e.toInt64) then (((f P) + s0.toInt64) - e.toInt64) else (0 : Int64)) - (if (0 : Int64) < ((f P) - e.toInt64) then ((f P) - e.toInt64) else (0 : Int64))))]), .inr (.long, own_l 3 (fun j => if j = P then ((f P) + s0.toInt64) else f j)), .inr (.int, own_n 3 g)]) (sl' := 0) rfl ?_
  refine mmW_iastore (n := 954) rfl (rfl) (hpn.1) (by rw [hpn.2, own_n_len]; exact hP) ?_
  show mmW K_3 I_3 (some .long) (954) 125 [.val (.ref 2), .val (.int (0 : Int32)), .val (.int (-1 : Int32)), .val (.int p), .val (.int s0)] [] [.inr (.int, [.int s0, .int s1, .int s2]), .inr (.int, [.int t0, .int t1, .int t2]), .inl (0, [.ref 0, .int e, .ref 1, .ref 3, .ref 4, .long (x + ((if (0 : Int64) < (((f P) + s0.toInt64) - e.toInt64) then (((f P) + s0.toInt64) - e.toInt64) else (0 : Int64)) - (if (0 : Int64) < ((f P) - e.toInt64) then ((f P) - e.toInt64) else (0 : Int64))))]), .inr (.long, own_l 3 (fun j => if j = P then ((f P) + s0.toInt64) else f j)), .inr (.int, (own_n 3 g).set p.toNatClampNeg (.int ((g P) + (1 : Int32))))] 0 _
  rw [hpn.2, own_n_set]
  refine mmW_steps (k := 1) (n := 953) (pc' := 126) (L' := [.val (.ref 2), .val (.int (0 : Int32)), .val (.int (-1 : Int32)), .val (.int p), .val (.int s0)]) (S' := [.long (0 : Int64)]) (H' := [.inr (.int, [.int s0, .int s1, .int s2]), .inr (.int, [.int t0, .int t1, .int t2]), .inl (0, [.ref 0, .int e, .ref 1, .ref 3, .ref 4, .long (x + ((if (0 : Int64) < (((f P) + s0.toInt64) - e.toInt64) then (((f P) + s0.toInt64) - e.toInt64) else (0 : Int64)) - (if (0 : Int64) < ((f P) - e.toInt64) then ((f P) - e.toInt64) else (0 : Int64))))]), .inr (.long, own_l 3 (fun j => if j = P then ((f P) + s0.toInt64) else f j)), .inr (.int, own_n 3 (fun j => if j = P then ((g P) + (1 : Int32)) else g j))]) (sl' := 0) rfl ?_
  exact mmW_ret (n := 952) (i := .lreturn) rfl rfl ⟨rfl, rfl, rfl⟩
set_option maxRecDepth 65536 in
set_option maxHeartbeats 40000000 in
theorem own_mv1 (f : Nat → Int64) (g : Nat → Int32) (x : Int64) (s0 s1 s2 t0 t1 t2 e : Int32) (p : Int32) (P : Nat) (hp : p.toInt = P) (hP : P < 3) : ∃ (f' : Nat → Int64) (g' : Nat → Int32) (x' : Int64), B_3 [.ref 2, .int (1 : Int32), .int (-1 : Int32), .int p] [.inr (.int, [.int s0, .int s1, .int s2]), .inr (.int, [.int t0, .int t1, .int t2]), .inl (0, [.ref 0, .int e, .ref 1, .ref 3, .ref 4, .long x]), .inr (.long, own_l 3 f), .inr (.int, own_n 3 g)] = some (some (.long 0), [.inr (.int, [.int s0, .int s1, .int s2]), .inr (.int, [.int t0, .int t1, .int t2]), .inl (0, [.ref 0, .int e, .ref 1, .ref 3, .ref 4, .long x']), .inr (.long, own_l 3 f'), .inr (.int, own_n 3 g')], 0) ∧ (∀ j, f' j = if j = P then f P + s1.toInt64 else f j) ∧ (∀ j, g' j = if j = P then g P + (1 : Int32) else g j) := by
  have hpn := own_nn hp
  refine ⟨(fun j => if j = P then ((f P) + s1.toInt64) else f j), (fun j => if j = P then ((g P) + (1 : Int32)) else g j), (x + ((if (0 : Int64) < (((f P) + s1.toInt64) - e.toInt64) then (((f P) + s1.toInt64) - e.toInt64) else (0 : Int64)) - (if (0 : Int64) < ((f P) - e.toInt64) then ((f P) - e.toInt64) else (0 : Int64)))), mmB_of rfl ?_, fun _ => rfl, fun _ => rfl⟩
  show mmW K_3 I_3 (some .long) 1000 0 [.val (.ref 2), .val (.int (1 : Int32)), .val (.int (-1 : Int32)), .val (.int p), .unset] [] [.inr (.int, [.int s0, .int s1, .int s2]), .inr (.int, [.int t0, .int t1, .int t2]), .inl (0, [.ref 0, .int e, .ref 1, .ref 3, .ref 4, .long x]), .inr (.long, own_l 3 f), .inr (.int, own_n 3 g)] 0 _
  refine mmW_steps (k := 15) (n := 985) (pc' := 80) (L' := [.val (.ref 2), .val (.int (1 : Int32)), .val (.int (-1 : Int32)), .val (.int p), .val (.int s1)]) (S' := [.int p, .ref 3, .ref 2, .long x, .ref 2]) (H' := [.inr (.int, [.int s0, .int s1, .int s2]), .inr (.int, [.int t0, .int t1, .int t2]), .inl (0, [.ref 0, .int e, .ref 1, .ref 3, .ref 4, .long x]), .inr (.long, own_l 3 f), .inr (.int, own_n 3 g)]) (sl' := 0) rfl ?_
  refine mmW_laload (n := 984) rfl (rfl) (hpn.1) (by rw [mmNth_eq, hpn.2]; exact own_l_nth f hP) ?_
  show mmW K_3 I_3 (some .long) (984) 81 [.val (.ref 2), .val (.int (1 : Int32)), .val (.int (-1 : Int32)), .val (.int p), .val (.int s1)] [.long (f P), .ref 2, .long x, .ref 2] [.inr (.int, [.int s0, .int s1, .int s2]), .inr (.int, [.int t0, .int t1, .int t2]), .inl (0, [.ref 0, .int e, .ref 1, .ref 3, .ref 4, .long x]), .inr (.long, own_l 3 f), .inr (.int, own_n 3 g)] 0 _
  refine mmW_steps (k := 8) (n := 976) (pc' := 94) (L' := [.val (.ref 2), .val (.int (1 : Int32)), .val (.int (-1 : Int32)), .val (.int p), .val (.int s1)]) (S' := [.int p, .ref 3, .ref 2, .long (if (0 : Int64) < (((f P) + s1.toInt64) - e.toInt64) then (((f P) + s1.toInt64) - e.toInt64) else (0 : Int64)), .long x, .ref 2]) (H' := [.inr (.int, [.int s0, .int s1, .int s2]), .inr (.int, [.int t0, .int t1, .int t2]), .inl (0, [.ref 0, .int e, .ref 1, .ref 3, .ref 4, .long x]), .inr (.long, own_l 3 f), .inr (.int, own_n 3 g)]) (sl' := 0) rfl ?_
  refine mmW_laload (n := 975) rfl (rfl) (hpn.1) (by rw [mmNth_eq, hpn.2]; exact own_l_nth f hP) ?_
  show mmW K_3 I_3 (some .long) (975) 95 [.val (.ref 2), .val (.int (1 : Int32)), .val (.int (-1 : Int32)), .val (.int p), .val (.int s1)] [.long (f P), .ref 2, .long (if (0 : Int64) < (((f P) + s1.toInt64) - e.toInt64) then (((f P) + s1.toInt64) - e.toInt64) else (0 : Int64)), .long x, .ref 2] [.inr (.int, [.int s0, .int s1, .int s2]), .inr (.int, [.int t0, .int t1, .int t2]), .inl (0, [.ref 0, .int e, .ref 1, .ref 3, .ref 4, .long x]), .inr (.long, own_l 3 f), .inr (.int, own_n 3 g)] 0 _
  refine mmW_steps (k := 8) (n := 967) (pc' := 109) (L' := [.val (.ref 2), .val (.int (1 : Int32)), .val (.int (-1 : Int32)), .val (.int p), .val (.int s1)]) (S' := [.int p, .ref 3, .int p, .ref 3]) (H' := [.inr (.int, [.int s0, .int s1, .int s2]), .inr (.int, [.int t0, .int t1, .int t2]), .inl (0, [.ref 0, .int e, .ref 1, .ref 3, .ref 4, .long (x + ((if (0 : Int64) < (((f P) + s1.toInt64) - e.toInt64) then (((f P) + s1.toInt64) - e.toInt64) else (0 : Int64)) - (if (0 : Int64) < ((f P) - e.toInt64) then ((f P) - e.toInt64) else (0 : Int64))))]), .inr (.long, own_l 3 f), .inr (.int, own_n 3 g)]) (sl' := 0) rfl ?_
  refine mmW_laload (n := 966) rfl (rfl) (hpn.1) (by rw [mmNth_eq, hpn.2]; exact own_l_nth f hP) ?_
  show mmW K_3 I_3 (some .long) (966) 110 [.val (.ref 2), .val (.int (1 : Int32)), .val (.int (-1 : Int32)), .val (.int p), .val (.int s1)] [.long (f P), .int p, .ref 3] [.inr (.int, [.int s0, .int s1, .int s2]), .inr (.int, [.int t0, .int t1, .int t2]), .inl (0, [.ref 0, .int e, .ref 1, .ref 3, .ref 4, .long (x + ((if (0 : Int64) < (((f P) + s1.toInt64) - e.toInt64) then (((f P) + s1.toInt64) - e.toInt64) else (0 : Int64)) - (if (0 : Int64) < ((f P) - e.toInt64) then ((f P) - e.toInt64) else (0 : Int64))))]), .inr (.long, own_l 3 f), .inr (.int, own_n 3 g)] 0 _
  refine mmW_steps (k := 3) (n := 963) (pc' := 114) (L' := [.val (.ref 2), .val (.int (1 : Int32)), .val (.int (-1 : Int32)), .val (.int p), .val (.int s1)]) (S' := [.long ((f P) + s1.toInt64), .int p, .ref 3]) (H' := [.inr (.int, [.int s0, .int s1, .int s2]), .inr (.int, [.int t0, .int t1, .int t2]), .inl (0, [.ref 0, .int e, .ref 1, .ref 3, .ref 4, .long (x + ((if (0 : Int64) < (((f P) + s1.toInt64) - e.toInt64) then (((f P) + s1.toInt64) - e.toInt64) else (0 : Int64)) - (if (0 : Int64) < ((f P) - e.toInt64) then ((f P) - e.toInt64) else (0 : Int64))))]), .inr (.long, own_l 3 f), .inr (.int, own_n 3 g)]) (sl' := 0) rfl ?_
  refine mmW_lastore (n := 962) rfl (rfl) (hpn.1) (by rw [hpn.2, own_l_len]; exact hP) ?_
  show mmW K_3 I_3 (some .long) (962) 115 [.val (.ref 2), .val (.int (1 : Int32)), .val (.int (-1 : Int32)), .val (.int p), .val (.int s1)] [] [.inr (.int, [.int s0, .int s1, .int s2]), .inr (.int, [.int t0, .int t1, .int t2]), .inl (0, [.ref 0, .int e, .ref 1, .ref 3, .ref 4, .long (x + ((if (0 : Int64) < (((f P) + s1.toInt64) - e.toInt64) then (((f P) + s1.toInt64) - e.toInt64) else (0 : Int64)) - (if (0 : Int64) < ((f P) - e.toInt64) then ((f P) - e.toInt64) else (0 : Int64))))]), .inr (.long, (own_l 3 f).set p.toNatClampNeg (.long ((f P) + s1.toInt64))), .inr (.int, own_n 3 g)] 0 _
  rw [hpn.2, own_l_set]
  refine mmW_steps (k := 4) (n := 958) (pc' := 121) (L' := [.val (.ref 2), .val (.int (1 : Int32)), .val (.int (-1 : Int32)), .val (.int p), .val (.int s1)]) (S' := [.int p, .ref 4, .int p, .ref 4]) (H' := [.inr (.int, [.int s0, .int s1, .int s2]), .inr (.int, [.int t0, .int t1, .int t2]), .inl (0, [.ref 0, .int e, .ref 1, .ref 3, .ref 4, .long (x + ((if (0 : Int64) < (((f P) + s1.toInt64) - e.toInt64) then (((f P) + s1.toInt64) - e.toInt64) else (0 : Int64)) - (if (0 : Int64) < ((f P) - e.toInt64) then ((f P) - e.toInt64) else (0 : Int64))))]), .inr (.long, own_l 3 (fun j => if j = P then ((f P) + s1.toInt64) else f j)), .inr (.int, own_n 3 g)]) (sl' := 0) rfl ?_
  refine mmW_iaload (n := 957) rfl (rfl) (hpn.1) (by rw [mmNth_eq, hpn.2]; exact own_n_nth g hP) ?_
  show mmW K_3 I_3 (some .long) (957) 122 [.val (.ref 2), .val (.int (1 : Int32)), .val (.int (-1 : Int32)), .val (.int p), .val (.int s1)] [.int (g P), .int p, .ref 4] [.inr (.int, [.int s0, .int s1, .int s2]), .inr (.int, [.int t0, .int t1, .int t2]), .inl (0, [.ref 0, .int e, .ref 1, .ref 3, .ref 4, .long (x + ((if (0 : Int64) < (((f P) + s1.toInt64) - e.toInt64) then (((f P) + s1.toInt64) - e.toInt64) else (0 : Int64)) - (if (0 : Int64) < ((f P) - e.toInt64) then ((f P) - e.toInt64) else (0 : Int64))))]), .inr (.long, own_l 3 (fun j => if j = P then ((f P) + s1.toInt64) else f j)), .inr (.int, own_n 3 g)] 0 _
  refine mmW_steps (k := 2) (n := 955) (pc' := 124) (L' := [.val (.ref 2), .val (.int (1 : Int32)), .val (.int (-1 : Int32)), .val (.int p), .val (.int s1)]) (S' := [.int ((g P) + (1 : Int32)), .int p, .ref 4]) (H' := [.inr (.int, [.int s0, .int s1, .int s2]), .inr (.int, [.int t0, .int t1, .int t2]), .inl (0, [.ref 0, .int e, .ref 1, .ref 3, .ref 4, .long (x + ((if (0 : Int64) < (((f P) + s1.toInt64) - e.toInt64) then (((f P) + s1.toInt64) - e.toInt64) else (0 : Int64)) - (if (0 : Int64) < ((f P) - e.toInt64) then ((f P) - e.toInt64) else (0 : Int64))))]), .inr (.long, own_l 3 (fun j => if j = P then ((f P) + s1.toInt64) else f j)), .inr (.int, own_n 3 g)]) (sl' := 0) rfl ?_
  refine mmW_iastore (n := 954) rfl (rfl) (hpn.1) (by rw [hpn.2, own_n_len]; exact hP) ?_
  show mmW K_3 I_3 (some .long) (954) 125 [.val (.ref 2), .val (.int (1 : Int32)), .val (.int (-1 : Int32)), .val (.int p), .val (.int s1)] [] [.inr (.int, [.int s0, .int s1, .int s2]), .inr (.int, [.int t0, .int t1, .int t2]), .inl (0, [.ref 0, .int e, .ref 1, .ref 3, .ref 4, .long (x + ((if (0 : Int64) < (((f P) + s1.toInt64) - e.toInt64) then (((f P) + s1.toInt64) - e.toInt64) else (0 : Int64)) - (if (0 : Int64) < ((f P) - e.toInt64) then ((f P) - e.toInt64) else (0 : Int64))))]), .inr (.long, own_l 3 (fun j => if j = P then ((f P) + s1.toInt64) else f j)), .inr (.int, (own_n 3 g).set p.toNatClampNeg (.int ((g P) + (1 : Int32))))] 0 _
  rw [hpn.2, own_n_set]
  refine mmW_steps (k := 1) (n := 953) (pc' := 126) (L' := [.val (.ref 2), .val (.int (1 : Int32)), .val (.int (-1 : Int32)), .val (.int p), .val (.int s1)]) (S' := [.long (0 : Int64)]) (H' := [.inr (.int, [.int s0, .int s1, .int s2]), .inr (.int, [.int t0, .int t1, .int t2]), .inl (0, [.ref 0, .int e, .ref 1, .ref 3, .ref 4, .long (x + ((if (0 : Int64) < (((f P) + s1.toInt64) - e.toInt64) then (((f P) + s1.toInt64) - e.toInt64) else (0 : Int64)) - (if (0 : Int64) < ((f P) - e.toInt64) then ((f P) - e.toInt64) else (0 : Int64))))]), .inr (.long, own_l 3 (fun j => if j = P then ((f P) + s1.toInt64) else f j)), .inr (.int, own_n 3 (fun j => if j = P then ((g P) + (1 : Int32)) else g j))]) (sl' := 0) rfl ?_
  exact mmW_ret (n := 952) (i := .lreturn) rfl rfl ⟨rfl, rfl, rfl⟩
set_option maxRecDepth 65536 in
set_option maxHeartbeats 40000000 in
theorem own_mv2 (f : Nat → Int64) (g : Nat → Int32) (x : Int64) (s0 s1 s2 t0 t1 t2 e : Int32) (p : Int32) (P : Nat) (hp : p.toInt = P) (hP : P < 3) : ∃ (f' : Nat → Int64) (g' : Nat → Int32) (x' : Int64), B_3 [.ref 2, .int (2 : Int32), .int (-1 : Int32), .int p] [.inr (.int, [.int s0, .int s1, .int s2]), .inr (.int, [.int t0, .int t1, .int t2]), .inl (0, [.ref 0, .int e, .ref 1, .ref 3, .ref 4, .long x]), .inr (.long, own_l 3 f), .inr (.int, own_n 3 g)] = some (some (.long 0), [.inr (.int, [.int s0, .int s1, .int s2]), .inr (.int, [.int t0, .int t1, .int t2]), .inl (0, [.ref 0, .int e, .ref 1, .ref 3, .ref 4, .long x']), .inr (.long, own_l 3 f'), .inr (.int, own_n 3 g')], 0) ∧ (∀ j, f' j = if j = P then f P + s2.toInt64 else f j) ∧ (∀ j, g' j = if j = P then g P + (1 : Int32) else g j) := by
  have hpn := own_nn hp
  refine ⟨(fun j => if j = P then ((f P) + s2.toInt64) else f j), (fun j => if j = P then ((g P) + (1 : Int32)) else g j), (x + ((if (0 : Int64) < (((f P) + s2.toInt64) - e.toInt64) then (((f P) + s2.toInt64) - e.toInt64) else (0 : Int64)) - (if (0 : Int64) < ((f P) - e.toInt64) then ((f P) - e.toInt64) else (0 : Int64)))), mmB_of rfl ?_, fun _ => rfl, fun _ => rfl⟩
  show mmW K_3 I_3 (some .long) 1000 0 [.val (.ref 2), .val (.int (2 : Int32)), .val (.int (-1 : Int32)), .val (.int p), .unset] [] [.inr (.int, [.int s0, .int s1, .int s2]), .inr (.int, [.int t0, .int t1, .int t2]), .inl (0, [.ref 0, .int e, .ref 1, .ref 3, .ref 4, .long x]), .inr (.long, own_l 3 f), .inr (.int, own_n 3 g)] 0 _
  refine mmW_steps (k := 15) (n := 985) (pc' := 80) (L' := [.val (.ref 2), .val (.int (2 : Int32)), .val (.int (-1 : Int32)), .val (.int p), .val (.int s2)]) (S' := [.int p, .ref 3, .ref 2, .long x, .ref 2]) (H' := [.inr (.int, [.int s0, .int s1, .int s2]), .inr (.int, [.int t0, .int t1, .int t2]), .inl (0, [.ref 0, .int e, .ref 1, .ref 3, .ref 4, .long x]), .inr (.long, own_l 3 f), .inr (.int, own_n 3 g)]) (sl' := 0) rfl ?_
  refine mmW_laload (n := 984) rfl (rfl) (hpn.1) (by rw [mmNth_eq, hpn.2]; exact own_l_nth f hP) ?_
  show mmW K_3 I_3 (some .long) (984) 81 [.val (.ref 2), .val (.int (2 : Int32)), .val (.int (-1 : Int32)), .val (.int p), .val (.int s2)] [.long (f P), .ref 2, .long x, .ref 2] [.inr (.int, [.int s0, .int s1, .int s2]), .inr (.int, [.int t0, .int t1, .int t2]), .inl (0, [.ref 0, .int e, .ref 1, .ref 3, .ref 4, .long x]), .inr (.long, own_l 3 f), .inr (.int, own_n 3 g)] 0 _
  refine mmW_steps (k := 8) (n := 976) (pc' := 94) (L' := [.val (.ref 2), .val (.int (2 : Int32)), .val (.int (-1 : Int32)), .val (.int p), .val (.int s2)]) (S' := [.int p, .ref 3, .ref 2, .long (if (0 : Int64) < (((f P) + s2.toInt64) - e.toInt64) then (((f P) + s2.toInt64) - e.toInt64) else (0 : Int64)), .long x, .ref 2]) (H' := [.inr (.int, [.int s0, .int s1, .int s2]), .inr (.int, [.int t0, .int t1, .int t2]), .inl (0, [.ref 0, .int e, .ref 1, .ref 3, .ref 4, .long x]), .inr (.long, own_l 3 f), .inr (.int, own_n 3 g)]) (sl' := 0) rfl ?_
  refine mmW_laload (n := 975) rfl (rfl) (hpn.1) (by rw [mmNth_eq, hpn.2]; exact own_l_nth f hP) ?_
  show mmW K_3 I_3 (some .long) (975) 95 [.val (.ref 2), .val (.int (2 : Int32)), .val (.int (-1 : Int32)), .val (.int p), .val (.int s2)] [.long (f P), .ref 2, .long (if (0 : Int64) < (((f P) + s2.toInt64) - e.toInt64) then (((f P) + s2.toInt64) - e.toInt64) else (0 : Int64)), .long x, .ref 2] [.inr (.int, [.int s0, .int s1, .int s2]), .inr (.int, [.int t0, .int t1, .int t2]), .inl (0, [.ref 0, .int e, .ref 1, .ref 3, .ref 4, .long x]), .inr (.long, own_l 3 f), .inr (.int, own_n 3 g)] 0 _
  refine mmW_steps (k := 8) (n := 967) (pc' := 109) (L' := [.val (.ref 2), .val (.int (2 : Int32)), .val (.int (-1 : Int32)), .val (.int p), .val (.int s2)]) (S' := [.int p, .ref 3, .int p, .ref 3]) (H' := [.inr (.int, [.int s0, .int s1, .int s2]), .inr (.int, [.int t0, .int t1, .int t2]), .inl (0, [.ref 0, .int e, .ref 1, .ref 3, .ref 4, .long (x + ((if (0 : Int64) < (((f P) + s2.toInt64) - e.toInt64) then (((f P) + s2.toInt64) - e.toInt64) else (0 : Int64)) - (if (0 : Int64) < ((f P) - e.toInt64) then ((f P) - e.toInt64) else (0 : Int64))))]), .inr (.long, own_l 3 f), .inr (.int, own_n 3 g)]) (sl' := 0) rfl ?_
  refine mmW_laload (n := 966) rfl (rfl) (hpn.1) (by rw [mmNth_eq, hpn.2]; exact own_l_nth f hP) ?_
  show mmW K_3 I_3 (some .long) (966) 110 [.val (.ref 2), .val (.int (2 : Int32)), .val (.int (-1 : Int32)), .val (.int p), .val (.int s2)] [.long (f P), .int p, .ref 3] [.inr (.int, [.int s0, .int s1, .int s2]), .inr (.int, [.int t0, .int t1, .int t2]), .inl (0, [.ref 0, .int e, .ref 1, .ref 3, .ref 4, .long (x + ((if (0 : Int64) < (((f P) + s2.toInt64) - e.toInt64) then (((f P) + s2.toInt64) - e.toInt64) else (0 : Int64)) - (if (0 : Int64) < ((f P) - e.toInt64) then ((f P) - e.toInt64) else (0 : Int64))))]), .inr (.long, own_l 3 f), .inr (.int, own_n 3 g)] 0 _
  refine mmW_steps (k := 3) (n := 963) (pc' := 114) (L' := [.val (.ref 2), .val (.int (2 : Int32)), .val (.int (-1 : Int32)), .val (.int p), .val (.int s2)]) (S' := [.long ((f P) + s2.toInt64), .int p, .ref 3]) (H' := [.inr (.int, [.int s0, .int s1, .int s2]), .inr (.int, [.int t0, .int t1, .int t2]), .inl (0, [.ref 0, .int e, .ref 1, .ref 3, .ref 4, .long (x + ((if (0 : Int64) < (((f P) + s2.toInt64) - e.toInt64) then (((f P) + s2.toInt64) - e.toInt64) else (0 : Int64)) - (if (0 : Int64) < ((f P) - e.toInt64) then ((f P) - e.toInt64) else (0 : Int64))))]), .inr (.long, own_l 3 f), .inr (.int, own_n 3 g)]) (sl' := 0) rfl ?_
  refine mmW_lastore (n := 962) rfl (rfl) (hpn.1) (by rw [hpn.2, own_l_len]; exact hP) ?_
  show mmW K_3 I_3 (some .long) (962) 115 [.val (.ref 2), .val (.int (2 : Int32)), .val (.int (-1 : Int32)), .val (.int p), .val (.int s2)] [] [.inr (.int, [.int s0, .int s1, .int s2]), .inr (.int, [.int t0, .int t1, .int t2]), .inl (0, [.ref 0, .int e, .ref 1, .ref 3, .ref 4, .long (x + ((if (0 : Int64) < (((f P) + s2.toInt64) - e.toInt64) then (((f P) + s2.toInt64) - e.toInt64) else (0 : Int64)) - (if (0 : Int64) < ((f P) - e.toInt64) then ((f P) - e.toInt64) else (0 : Int64))))]), .inr (.long, (own_l 3 f).set p.toNatClampNeg (.long ((f P) + s2.toInt64))), .inr (.int, own_n 3 g)] 0 _
  rw [hpn.2, own_l_set]
  refine mmW_steps (k := 4) (n := 958) (pc' := 121) (L' := [.val (.ref 2), .val (.int (2 : Int32)), .val (.int (-1 : Int32)), .val (.int p), .val (.int s2)]) (S' := [.int p, .ref 4, .int p, .ref 4]) (H' := [.inr (.int, [.int s0, .int s1, .int s2]), .inr (.int, [.int t0, .int t1, .int t2]), .inl (0, [.ref 0, .int e, .ref 1, .ref 3, .ref 4, .long (x + ((if (0 : Int64) < (((f P) + s2.toInt64) - e.toInt64) then (((f P) + s2.toInt64) - e.toInt64) else (0 : Int64)) - (if (0 : Int64) < ((f P) - e.toInt64) then ((f P) - e.toInt64) else (0 : Int64))))]), .inr (.long, own_l 3 (fun j => if j = P then ((f P) + s2.toInt64) else f j)), .inr (.int, own_n 3 g)]) (sl' := 0) rfl ?_
  refine mmW_iaload (n := 957) rfl (rfl) (hpn.1) (by rw [mmNth_eq, hpn.2]; exact own_n_nth g hP) ?_
  show mmW K_3 I_3 (some .long) (957) 122 [.val (.ref 2), .val (.int (2 : Int32)), .val (.int (-1 : Int32)), .val (.int p), .val (.int s2)] [.int (g P), .int p, .ref 4] [.inr (.int, [.int s0, .int s1, .int s2]), .inr (.int, [.int t0, .int t1, .int t2]), .inl (0, [.ref 0, .int e, .ref 1, .ref 3, .ref 4, .long (x + ((if (0 : Int64) < (((f P) + s2.toInt64) - e.toInt64) then (((f P) + s2.toInt64) - e.toInt64) else (0 : Int64)) - (if (0 : Int64) < ((f P) - e.toInt64) then ((f P) - e.toInt64) else (0 : Int64))))]), .inr (.long, own_l 3 (fun j => if j = P then ((f P) + s2.toInt64) else f j)), .inr (.int, own_n 3 g)] 0 _
  refine mmW_steps (k := 2) (n := 955) (pc' := 124) (L' := [.val (.ref 2), .val (.int (2 : Int32)), .val (.int (-1 : Int32)), .val (.int p), .val (.int s2)]) (S' := [.int ((g P) + (1 : Int32)), .int p, .ref 4]) (H' := [.inr (.int, [.int s0, .int s1, .int s2]), .inr (.int, [.int t0, .int t1, .int t2]), .inl (0, [.ref 0, .int e, .ref 1, .ref 3, .ref 4, .long (x + ((if (0 : Int64) < (((f P) + s2.toInt64) - e.toInt64) then (((f P) + s2.toInt64) - e.toInt64) else (0 : Int64)) - (if (0 : Int64) < ((f P) - e.toInt64) then ((f P) - e.toInt64) else (0 : Int64))))]), .inr (.long, own_l 3 (fun j => if j = P then ((f P) + s2.toInt64) else f j)), .inr (.int, own_n 3 g)]) (sl' := 0) rfl ?_
  refine mmW_iastore (n := 954) rfl (rfl) (hpn.1) (by rw [hpn.2, own_n_len]; exact hP) ?_
  show mmW K_3 I_3 (some .long) (954) 125 [.val (.ref 2), .val (.int (2 : Int32)), .val (.int (-1 : Int32)), .val (.int p), .val (.int s2)] [] [.inr (.int, [.int s0, .int s1, .int s2]), .inr (.int, [.int t0, .int t1, .int t2]), .inl (0, [.ref 0, .int e, .ref 1, .ref 3, .ref 4, .long (x + ((if (0 : Int64) < (((f P) + s2.toInt64) - e.toInt64) then (((f P) + s2.toInt64) - e.toInt64) else (0 : Int64)) - (if (0 : Int64) < ((f P) - e.toInt64) then ((f P) - e.toInt64) else (0 : Int64))))]), .inr (.long, own_l 3 (fun j => if j = P then ((f P) + s2.toInt64) else f j)), .inr (.int, (own_n 3 g).set p.toNatClampNeg (.int ((g P) + (1 : Int32))))] 0 _
  rw [hpn.2, own_n_set]
  refine mmW_steps (k := 1) (n := 953) (pc' := 126) (L' := [.val (.ref 2), .val (.int (2 : Int32)), .val (.int (-1 : Int32)), .val (.int p), .val (.int s2)]) (S' := [.long (0 : Int64)]) (H' := [.inr (.int, [.int s0, .int s1, .int s2]), .inr (.int, [.int t0, .int t1, .int t2]), .inl (0, [.ref 0, .int e, .ref 1, .ref 3, .ref 4, .long (x + ((if (0 : Int64) < (((f P) + s2.toInt64) - e.toInt64) then (((f P) + s2.toInt64) - e.toInt64) else (0 : Int64)) - (if (0 : Int64) < ((f P) - e.toInt64) then ((f P) - e.toInt64) else (0 : Int64))))]), .inr (.long, own_l 3 (fun j => if j = P then ((f P) + s2.toInt64) else f j)), .inr (.int, own_n 3 (fun j => if j = P then ((g P) + (1 : Int32)) else g j))]) (sl' := 0) rfl ?_
  exact mmW_ret (n := 952) (i := .lreturn) rfl rfl ⟨rfl, rfl, rfl⟩
set_option maxRecDepth 65536 in
set_option maxHeartbeats 40000000 in
theorem own_mvb (f : Nat → Int64) (g : Nat → Int32) (x : Int64) (s0 s1 s2 t0 t1 t2 e : Int32) (p q : Int32) (P Q : Nat) (hp : p.toInt = P) (hP : P < 3) (hq : q.toInt = Q) (hQ : Q < 3) : ∃ (f1 f' : Nat → Int64) (g1 g' : Nat → Int32) (x' : Int64), B_3 [.ref 2, .int (0 : Int32), .int p, .int q] [.inr (.int, [.int s0, .int s1, .int s2]), .inr (.int, [.int t0, .int t1, .int t2]), .inl (0, [.ref 0, .int e, .ref 1, .ref 3, .ref 4, .long x]), .inr (.long, own_l 3 f), .inr (.int, own_n 3 g)] = some (some (.long 0), [.inr (.int, [.int s0, .int s1, .int s2]), .inr (.int, [.int t0, .int t1, .int t2]), .inl (0, [.ref 0, .int e, .ref 1, .ref 3, .ref 4, .long x']), .inr (.long, own_l 3 f'), .inr (.int, own_n 3 g')], 0) ∧ (∀ j, f1 j = if j = P then f P - s0.toInt64 else f j) ∧ (∀ j, g1 j = if j = P then g P - (1 : Int32) else g j) ∧ (∀ j, f' j = if j = Q then f1 Q + s0.toInt64 else f1 j) ∧ (∀ j, g' j = if j = Q then g1 Q + (1 : Int32) else g1 j) := by
  have hpn := own_nn hp
  have hqn := own_nn hq
  refine ⟨(fun j => if j = P then ((f P) - s0.toInt64) else f j), (fun j => if j = Q then (((fun j => if j = P then ((f P) - s0.toInt64) else f j) Q) + s0.toInt64) else (fun j => if j = P then ((f P) - s0.toInt64) else f j) j), (fun j => if j = P then ((g P) - (1 : Int32)) else g j), (fun j => if j = Q then (((fun j => if j = P then ((g P) - (1 : Int32)) else g j) Q) + (1 : Int32)) else (fun j => if j = P then ((g P) - (1 : Int32)) else g j) j), ((x + ((if (0 : Int64) < (((f P) - s0.toInt64) - e.toInt64) then (((f P) - s0.toInt64) - e.toInt64) else (0 : Int64)) - (if (0 : Int64) < ((f P) - e.toInt64) then ((f P) - e.toInt64) else (0 : Int64)))) + ((if (0 : Int64) < ((((fun j => if j = P then ((f P) - s0.toInt64) else f j) Q) + s0.toInt64) - e.toInt64) then ((((fun j => if j = P then ((f P) - s0.toInt64) else f j) Q) + s0.toInt64) - e.toInt64) else (0 : Int64)) - (if (0 : Int64) < (((fun j => if j = P then ((f P) - s0.toInt64) else f j) Q) - e.toInt64) then (((fun j => if j = P then ((f P) - s0.toInt64) else f j) Q) - e.toInt64) else (0 : Int64)))), ?_, fun _ => rfl, fun _ => rfl, fun _ => rfl, fun _ => rfl⟩
  generalize hf1 : (fun j => if j = P then ((f P) - s0.toInt64) else f j) = f1
  generalize hg1 : (fun j => if j = P then ((g P) - (1 : Int32)) else g j) = g1
  refine mmB_of rfl ?_
  show mmW K_3 I_3 (some .long) 1000 0 [.val (.ref 2), .val (.int (0 : Int32)), .val (.int p), .val (.int q), .unset] [] [.inr (.int, [.int s0, .int s1, .int s2]), .inr (.int, [.int t0, .int t1, .int t2]), .inl (0, [.ref 0, .int e, .ref 1, .ref 3, .ref 4, .long x]), .inr (.long, own_l 3 f), .inr (.int, own_n 3 g)] 0 _
  refine mmW_steps (k := 8) (n := 992) (pc' := (if if_icmp.holds .eq p (-1 : Int32) = true then 69 else 13)) (L' := [.val (.ref 2), .val (.int (0 : Int32)), .val (.int p), .val (.int q), .val (.int s0)]) (S' := []) (H' := [.inr (.int, [.int s0, .int s1, .int s2]), .inr (.int, [.int t0, .int t1, .int t2]), .inl (0, [.ref 0, .int e, .ref 1, .ref 3, .ref 4, .long x]), .inr (.long, own_l 3 f), .inr (.int, own_n 3 g)]) (sl' := 0) rfl ?_
  refine mmW_f (XT.ii_eq_f (own_ne hp)) ?_
  refine mmW_steps (k := 7) (n := 985) (pc' := 24) (L' := [.val (.ref 2), .val (.int (0 : Int32)), .val (.int p), .val (.int q), .val (.int s0)]) (S' := [.int p, .ref 3, .ref 2, .long x, .ref 2]) (H' := [.inr (.int, [.int s0, .int s1, .int s2]), .inr (.int, [.int t0, .int t1, .int t2]), .inl (0, [.ref 0, .int e, .ref 1, .ref 3, .ref 4, .long x]), .inr (.long, own_l 3 f), .inr (.int, own_n 3 g)]) (sl' := 0) rfl ?_
  refine mmW_laload (n := 984) rfl (rfl) (hpn.1) (by rw [mmNth_eq, hpn.2]; exact own_l_nth f hP) ?_
  show mmW K_3 I_3 (some .long) (984) 25 [.val (.ref 2), .val (.int (0 : Int32)), .val (.int p), .val (.int q), .val (.int s0)] [.long (f P), .ref 2, .long x, .ref 2] [.inr (.int, [.int s0, .int s1, .int s2]), .inr (.int, [.int t0, .int t1, .int t2]), .inl (0, [.ref 0, .int e, .ref 1, .ref 3, .ref 4, .long x]), .inr (.long, own_l 3 f), .inr (.int, own_n 3 g)] 0 _
  refine mmW_steps (k := 8) (n := 976) (pc' := 38) (L' := [.val (.ref 2), .val (.int (0 : Int32)), .val (.int p), .val (.int q), .val (.int s0)]) (S' := [.int p, .ref 3, .ref 2, .long (if (0 : Int64) < (((f P) - s0.toInt64) - e.toInt64) then (((f P) - s0.toInt64) - e.toInt64) else (0 : Int64)), .long x, .ref 2]) (H' := [.inr (.int, [.int s0, .int s1, .int s2]), .inr (.int, [.int t0, .int t1, .int t2]), .inl (0, [.ref 0, .int e, .ref 1, .ref 3, .ref 4, .long x]), .inr (.long, own_l 3 f), .inr (.int, own_n 3 g)]) (sl' := 0) rfl ?_
  refine mmW_laload (n := 975) rfl (rfl) (hpn.1) (by rw [mmNth_eq, hpn.2]; exact own_l_nth f hP) ?_
  show mmW K_3 I_3 (some .long) (975) 39 [.val (.ref 2), .val (.int (0 : Int32)), .val (.int p), .val (.int q), .val (.int s0)] [.long (f P), .ref 2, .long (if (0 : Int64) < (((f P) - s0.toInt64) - e.toInt64) then (((f P) - s0.toInt64) - e.toInt64) else (0 : Int64)), .long x, .ref 2] [.inr (.int, [.int s0, .int s1, .int s2]), .inr (.int, [.int t0, .int t1, .int t2]), .inl (0, [.ref 0, .int e, .ref 1, .ref 3, .ref 4, .long x]), .inr (.long, own_l 3 f), .inr (.int, own_n 3 g)] 0 _
  refine mmW_steps (k := 8) (n := 967) (pc' := 53) (L' := [.val (.ref 2), .val (.int (0 : Int32)), .val (.int p), .val (.int q), .val (.int s0)]) (S' := [.int p, .ref 3, .int p, .ref 3]) (H' := [.inr (.int, [.int s0, .int s1, .int s2]), .inr (.int, [.int t0, .int t1, .int t2]), .inl (0, [.ref 0, .int e, .ref 1, .ref 3, .ref 4, .long (x + ((if (0 : Int64) < (((f P) - s0.toInt64) - e.toInt64) then (((f P) - s0.toInt64) - e.toInt64) else (0 : Int64)) - (if (0 : Int64) < ((f P) - e.toInt64) then ((f P) - e.toInt64) else (0 : Int64))))]), .inr (.long, own_l 3 f), .inr (.int, own_n 3 g)]) (sl' := 0) rfl ?_
  refine mmW_laload (n := 966) rfl (rfl) (hpn.1) (by rw [mmNth_eq, hpn.2]; exact own_l_nth f hP) ?_
  show mmW K_3 I_3 (some .long) (966) 54 [.val (.ref 2), .val (.int (0 : Int32)), .val (.int p), .val (.int q), .val (.int s0)] [.long (f P), .int p, .ref 3] [.inr (.int, [.int s0, .int s1, .int s2]), .inr (.int, [.int t0, .int t1, .int t2]), .inl (0, [.ref 0, .int e, .ref 1, .ref 3, .ref 4, .long (x + ((if (0 : Int64) < (((f P) - s0.toInt64) - e.toInt64) then (((f P) - s0.toInt64) - e.toInt64) else (0 : Int64)) - (if (0 : Int64) < ((f P) - e.toInt64) then ((f P) - e.toInt64) else (0 : Int64))))]), .inr (.long, own_l 3 f), .inr (.int, own_n 3 g)] 0 _
  refine mmW_steps (k := 3) (n := 963) (pc' := 58) (L' := [.val (.ref 2), .val (.int (0 : Int32)), .val (.int p), .val (.int q), .val (.int s0)]) (S' := [.long ((f P) - s0.toInt64), .int p, .ref 3]) (H' := [.inr (.int, [.int s0, .int s1, .int s2]), .inr (.int, [.int t0, .int t1, .int t2]), .inl (0, [.ref 0, .int e, .ref 1, .ref 3, .ref 4, .long (x + ((if (0 : Int64) < (((f P) - s0.toInt64) - e.toInt64) then (((f P) - s0.toInt64) - e.toInt64) else (0 : Int64)) - (if (0 : Int64) < ((f P) - e.toInt64) then ((f P) - e.toInt64) else (0 : Int64))))]), .inr (.long, own_l 3 f), .inr (.int, own_n 3 g)]) (sl' := 0) rfl ?_
  refine mmW_lastore (n := 962) rfl (rfl) (hpn.1) (by rw [hpn.2, own_l_len]; exact hP) ?_
  show mmW K_3 I_3 (some .long) (962) 59 [.val (.ref 2), .val (.int (0 : Int32)), .val (.int p), .val (.int q), .val (.int s0)] [] [.inr (.int, [.int s0, .int s1, .int s2]), .inr (.int, [.int t0, .int t1, .int t2]), .inl (0, [.ref 0, .int e, .ref 1, .ref 3, .ref 4, .long (x + ((if (0 : Int64) < (((f P) - s0.toInt64) - e.toInt64) then (((f P) - s0.toInt64) - e.toInt64) else (0 : Int64)) - (if (0 : Int64) < ((f P) - e.toInt64) then ((f P) - e.toInt64) else (0 : Int64))))]), .inr (.long, (own_l 3 f).set p.toNatClampNeg (.long ((f P) - s0.toInt64))), .inr (.int, own_n 3 g)] 0 _
  rw [hpn.2, own_l_set]
  refine mmW_steps (k := 4) (n := 958) (pc' := 65) (L' := [.val (.ref 2), .val (.int (0 : Int32)), .val (.int p), .val (.int q), .val (.int s0)]) (S' := [.int p, .ref 4, .int p, .ref 4]) (H' := [.inr (.int, [.int s0, .int s1, .int s2]), .inr (.int, [.int t0, .int t1, .int t2]), .inl (0, [.ref 0, .int e, .ref 1, .ref 3, .ref 4, .long (x + ((if (0 : Int64) < (((f P) - s0.toInt64) - e.toInt64) then (((f P) - s0.toInt64) - e.toInt64) else (0 : Int64)) - (if (0 : Int64) < ((f P) - e.toInt64) then ((f P) - e.toInt64) else (0 : Int64))))]), .inr (.long, own_l 3 (fun j => if j = P then ((f P) - s0.toInt64) else f j)), .inr (.int, own_n 3 g)]) (sl' := 0) rfl ?_
  refine mmW_iaload (n := 957) rfl (rfl) (hpn.1) (by rw [mmNth_eq, hpn.2]; exact own_n_nth g hP) ?_
  show mmW K_3 I_3 (some .long) (957) 66 [.val (.ref 2), .val (.int (0 : Int32)), .val (.int p), .val (.int q), .val (.int s0)] [.int (g P), .int p, .ref 4] [.inr (.int, [.int s0, .int s1, .int s2]), .inr (.int, [.int t0, .int t1, .int t2]), .inl (0, [.ref 0, .int e, .ref 1, .ref 3, .ref 4, .long (x + ((if (0 : Int64) < (((f P) - s0.toInt64) - e.toInt64) then (((f P) - s0.toInt64) - e.toInt64) else (0 : Int64)) - (if (0 : Int64) < ((f P) - e.toInt64) then ((f P) - e.toInt64) else (0 : Int64))))]), .inr (.long, own_l 3 (fun j => if j = P then ((f P) - s0.toInt64) else f j)), .inr (.int, own_n 3 g)] 0 _
  refine mmW_steps (k := 2) (n := 955) (pc' := 68) (L' := [.val (.ref 2), .val (.int (0 : Int32)), .val (.int p), .val (.int q), .val (.int s0)]) (S' := [.int ((g P) - (1 : Int32)), .int p, .ref 4]) (H' := [.inr (.int, [.int s0, .int s1, .int s2]), .inr (.int, [.int t0, .int t1, .int t2]), .inl (0, [.ref 0, .int e, .ref 1, .ref 3, .ref 4, .long (x + ((if (0 : Int64) < (((f P) - s0.toInt64) - e.toInt64) then (((f P) - s0.toInt64) - e.toInt64) else (0 : Int64)) - (if (0 : Int64) < ((f P) - e.toInt64) then ((f P) - e.toInt64) else (0 : Int64))))]), .inr (.long, own_l 3 (fun j => if j = P then ((f P) - s0.toInt64) else f j)), .inr (.int, own_n 3 g)]) (sl' := 0) rfl ?_
  refine mmW_iastore (n := 954) rfl (rfl) (hpn.1) (by rw [hpn.2, own_n_len]; exact hP) ?_
  show mmW K_3 I_3 (some .long) (954) 69 [.val (.ref 2), .val (.int (0 : Int32)), .val (.int p), .val (.int q), .val (.int s0)] [] [.inr (.int, [.int s0, .int s1, .int s2]), .inr (.int, [.int t0, .int t1, .int t2]), .inl (0, [.ref 0, .int e, .ref 1, .ref 3, .ref 4, .long (x + ((if (0 : Int64) < (((f P) - s0.toInt64) - e.toInt64) then (((f P) - s0.toInt64) - e.toInt64) else (0 : Int64)) - (if (0 : Int64) < ((f P) - e.toInt64) then ((f P) - e.toInt64) else (0 : Int64))))]), .inr (.long, own_l 3 (fun j => if j = P then ((f P) - s0.toInt64) else f j)), .inr (.int, (own_n 3 g).set p.toNatClampNeg (.int ((g P) - (1 : Int32))))] 0 _
  rw [hpn.2, own_n_set]
  rw [hf1, hg1]
  refine mmW_steps (k := 7) (n := 947) (pc' := 80) (L' := [.val (.ref 2), .val (.int (0 : Int32)), .val (.int p), .val (.int q), .val (.int s0)]) (S' := [.int q, .ref 3, .ref 2, .long (x + ((if (0 : Int64) < (((f P) - s0.toInt64) - e.toInt64) then (((f P) - s0.toInt64) - e.toInt64) else (0 : Int64)) - (if (0 : Int64) < ((f P) - e.toInt64) then ((f P) - e.toInt64) else (0 : Int64)))), .ref 2]) (H' := [.inr (.int, [.int s0, .int s1, .int s2]), .inr (.int, [.int t0, .int t1, .int t2]), .inl (0, [.ref 0, .int e, .ref 1, .ref 3, .ref 4, .long (x + ((if (0 : Int64) < (((f P) - s0.toInt64) - e.toInt64) then (((f P) - s0.toInt64) - e.toInt64) else (0 : Int64)) - (if (0 : Int64) < ((f P) - e.toInt64) then ((f P) - e.toInt64) else (0 : Int64))))]), .inr (.long, own_l 3 f1), .inr (.int, own_n 3 g1)]) (sl' := 0) rfl ?_
  refine mmW_laload (n := 946) rfl (rfl) (hqn.1) (by rw [mmNth_eq, hqn.2]; exact own_l_nth f1 hQ) ?_
  show mmW K_3 I_3 (some .long) (946) 81 [.val (.ref 2), .val (.int (0 : Int32)), .val (.int p), .val (.int q), .val (.int s0)] [.long (f1 Q), .ref 2, .long (x + ((if (0 : Int64) < (((f P) - s0.toInt64) - e.toInt64) then (((f P) - s0.toInt64) - e.toInt64) else (0 : Int64)) - (if (0 : Int64) < ((f P) - e.toInt64) then ((f P) - e.toInt64) else (0 : Int64)))), .ref 2] [.inr (.int, [.int s0, .int s1, .int s2]), .inr (.int, [.int t0, .int t1, .int t2]), .inl (0, [.ref 0, .int e, .ref 1, .ref 3, .ref 4, .long (x + ((if (0 : Int64) < (((f P) - s0.toInt64) - e.toInt64) then (((f P) - s0.toInt64) - e.toInt64) else (0 : Int64)) - (if (0 : Int64) < ((f P) - e.toInt64) then ((f P) - e.toInt64) else (0 : Int64))))]), .inr (.long, own_l 3 f1), .inr (.int, own_n 3 g1)] 0 _
  refine mmW_steps (k := 8) (n := 938) (pc' := 94) (L' := [.val (.ref 2), .val (.int (0 : Int32)), .val (.int p), .val (.int q), .val (.int s0)]) (S' := [.int q, .ref 3, .ref 2, .long (if (0 : Int64) < (((f1 Q) + s0.toInt64) - e.toInt64) then (((f1 Q) + s0.toInt64) - e.toInt64) else (0 : Int64)), .long (x + ((if (0 : Int64) < (((f P) - s0.toInt64) - e.toInt64) then (((f P) - s0.toInt64) - e.toInt64) else (0 : Int64)) - (if (0 : Int64) < ((f P) - e.toInt64) then ((f P) - e.toInt64) else (0 : Int64)))), .ref 2]) (H' := [.inr (.int, [.int s0, .int s1, .int s2]), .inr (.int, [.int t0, .int t1, .int t2]), .inl (0, [.ref 0, .int e, .ref 1, .ref 3, .ref 4, .long (x + ((if (0 : Int64) < (((f P) - s0.toInt64) - e.toInt64) then (((f P) - s0.toInt64) - e.toInt64) else (0 : Int64)) - (if (0 : Int64) < ((f P) - e.toInt64) then ((f P) - e.toInt64) else (0 : Int64))))]), .inr (.long, own_l 3 f1), .inr (.int, own_n 3 g1)]) (sl' := 0) rfl ?_
  refine mmW_laload (n := 937) rfl (rfl) (hqn.1) (by rw [mmNth_eq, hqn.2]; exact own_l_nth f1 hQ) ?_
  show mmW K_3 I_3 (some .long) (937) 95 [.val (.ref 2), .val (.int (0 : Int32)), .val (.int p), .val (.int q), .val (.int s0)] [.long (f1 Q), .ref 2, .long (if (0 : Int64) < (((f1 Q) + s0.toInt64) - e.toInt64) then (((f1 Q) + s0.toInt64) - e.toInt64) else (0 : Int64)), .long (x + ((if (0 : Int64) < (((f P) - s0.toInt64) - e.toInt64) then (((f P) - s0.toInt64) - e.toInt64) else (0 : Int64)) - (if (0 : Int64) < ((f P) - e.toInt64) then ((f P) - e.toInt64) else (0 : Int64)))), .ref 2] [.inr (.int, [.int s0, .int s1, .int s2]), .inr (.int, [.int t0, .int t1, .int t2]), .inl (0, [.ref 0, .int e, .ref 1, .ref 3, .ref 4, .long (x + ((if (0 : Int64) < (((f P) - s0.toInt64) - e.toInt64) then (((f P) - s0.toInt64) - e.toInt64) else (0 : Int64)) - (if (0 : Int64) < ((f P) - e.toInt64) then ((f P) - e.toInt64) else (0 : Int64))))]), .inr (.long, own_l 3 f1), .inr (.int, own_n 3 g1)] 0 _
  refine mmW_steps (k := 8) (n := 929) (pc' := 109) (L' := [.val (.ref 2), .val (.int (0 : Int32)), .val (.int p), .val (.int q), .val (.int s0)]) (S' := [.int q, .ref 3, .int q, .ref 3]) (H' := [.inr (.int, [.int s0, .int s1, .int s2]), .inr (.int, [.int t0, .int t1, .int t2]), .inl (0, [.ref 0, .int e, .ref 1, .ref 3, .ref 4, .long ((x + ((if (0 : Int64) < (((f P) - s0.toInt64) - e.toInt64) then (((f P) - s0.toInt64) - e.toInt64) else (0 : Int64)) - (if (0 : Int64) < ((f P) - e.toInt64) then ((f P) - e.toInt64) else (0 : Int64)))) + ((if (0 : Int64) < (((f1 Q) + s0.toInt64) - e.toInt64) then (((f1 Q) + s0.toInt64) - e.toInt64) else (0 : Int64)) - (if (0 : Int64) < ((f1 Q) - e.toInt64) then ((f1 Q) - e.toInt64) else (0 : Int64))))]), .inr (.long, own_l 3 f1), .inr (.int, own_n 3 g1)]) (sl' := 0) rfl ?_
  refine mmW_laload (n := 928) rfl (rfl) (hqn.1) (by rw [mmNth_eq, hqn.2]; exact own_l_nth f1 hQ) ?_
  show mmW K_3 I_3 (some .long) (928) 110 [.val (.ref 2), .val (.int (0 : Int32)), .val (.int p), .val (.int q), .val (.int s0)] [.long (f1 Q), .int q, .ref 3] [.inr (.int, [.int s0, .int s1, .int s2]), .inr (.int, [.int t0, .int t1, .int t2]), .inl (0, [.ref 0, .int e, .ref 1, .ref 3, .ref 4, .long ((x + ((if (0 : Int64) < (((f P) - s0.toInt64) - e.toInt64) then (((f P) - s0.toInt64) - e.toInt64) else (0 : Int64)) - (if (0 : Int64) < ((f P) - e.toInt64) then ((f P) - e.toInt64) else (0 : Int64)))) + ((if (0 : Int64) < (((f1 Q) + s0.toInt64) - e.toInt64) then (((f1 Q) + s0.toInt64) - e.toInt64) else (0 : Int64)) - (if (0 : Int64) < ((f1 Q) - e.toInt64) then ((f1 Q) - e.toInt64) else (0 : Int64))))]), .inr (.long, own_l 3 f1), .inr (.int, own_n 3 g1)] 0 _
  refine mmW_steps (k := 3) (n := 925) (pc' := 114) (L' := [.val (.ref 2), .val (.int (0 : Int32)), .val (.int p), .val (.int q), .val (.int s0)]) (S' := [.long ((f1 Q) + s0.toInt64), .int q, .ref 3]) (H' := [.inr (.int, [.int s0, .int s1, .int s2]), .inr (.int, [.int t0, .int t1, .int t2]), .inl (0, [.ref 0, .int e, .ref 1, .ref 3, .ref 4, .long ((x + ((if (0 : Int64) < (((f P) - s0.toInt64) - e.toInt64) then (((f P) - s0.toInt64) - e.toInt64) else (0 : Int64)) - (if (0 : Int64) < ((f P) - e.toInt64) then ((f P) - e.toInt64) else (0 : Int64)))) + ((if (0 : Int64) < (((f1 Q) + s0.toInt64) - e.toInt64) then (((f1 Q) + s0.toInt64) - e.toInt64) else (0 : Int64)) - (if (0 : Int64) < ((f1 Q) - e.toInt64) then ((f1 Q) - e.toInt64) else (0 : Int64))))]), .inr (.long, own_l 3 f1), .inr (.int, own_n 3 g1)]) (sl' := 0) rfl ?_
  refine mmW_lastore (n := 924) rfl (rfl) (hqn.1) (by rw [hqn.2, own_l_len]; exact hQ) ?_
  show mmW K_3 I_3 (some .long) (924) 115 [.val (.ref 2), .val (.int (0 : Int32)), .val (.int p), .val (.int q), .val (.int s0)] [] [.inr (.int, [.int s0, .int s1, .int s2]), .inr (.int, [.int t0, .int t1, .int t2]), .inl (0, [.ref 0, .int e, .ref 1, .ref 3, .ref 4, .long ((x + ((if (0 : Int64) < (((f P) - s0.toInt64) - e.toInt64) then (((f P) - s0.toInt64) - e.toInt64) else (0 : Int64)) - (if (0 : Int64) < ((f P) - e.toInt64) then ((f P) - e.toInt64) else (0 : Int64)))) + ((if (0 : Int64) < (((f1 Q) + s0.toInt64) - e.toInt64) then (((f1 Q) + s0.toInt64) - e.toInt64) else (0 : Int64)) - (if (0 : Int64) < ((f1 Q) - e.toInt64) then ((f1 Q) - e.toInt64) else (0 : Int64))))]), .inr (.long, (own_l 3 f1).set q.toNatClampNeg (.long ((f1 Q) + s0.toInt64))), .inr (.int, own_n 3 g1)] 0 _
  rw [hqn.2, own_l_set]
  refine mmW_steps (k := 4) (n := 920) (pc' := 121) (L' := [.val (.ref 2), .val (.int (0 : Int32)), .val (.int p), .val (.int q), .val (.int s0)]) (S' := [.int q, .ref 4, .int q, .ref 4]) (H' := [.inr (.int, [.int s0, .int s1, .int s2]), .inr (.int, [.int t0, .int t1, .int t2]), .inl (0, [.ref 0, .int e, .ref 1, .ref 3, .ref 4, .long ((x + ((if (0 : Int64) < (((f P) - s0.toInt64) - e.toInt64) then (((f P) - s0.toInt64) - e.toInt64) else (0 : Int64)) - (if (0 : Int64) < ((f P) - e.toInt64) then ((f P) - e.toInt64) else (0 : Int64)))) + ((if (0 : Int64) < (((f1 Q) + s0.toInt64) - e.toInt64) then (((f1 Q) + s0.toInt64) - e.toInt64) else (0 : Int64)) - (if (0 : Int64) < ((f1 Q) - e.toInt64) then ((f1 Q) - e.toInt64) else (0 : Int64))))]), .inr (.long, own_l 3 (fun j => if j = Q then ((f1 Q) + s0.toInt64) else f1 j)), .inr (.int, own_n 3 g1)]) (sl' := 0) rfl ?_
  refine mmW_iaload (n := 919) rfl (rfl) (hqn.1) (by rw [mmNth_eq, hqn.2]; exact own_n_nth g1 hQ) ?_
  show mmW K_3 I_3 (some .long) (919) 122 [.val (.ref 2), .val (.int (0 : Int32)), .val (.int p), .val (.int q), .val (.int s0)] [.int (g1 Q), .int q, .ref 4] [.inr (.int, [.int s0, .int s1, .int s2]), .inr (.int, [.int t0, .int t1, .int t2]), .inl (0, [.ref 0, .int e, .ref 1, .ref 3, .ref 4, .long ((x + ((if (0 : Int64) < (((f P) - s0.toInt64) - e.toInt64) then (((f P) - s0.toInt64) - e.toInt64) else (0 : Int64)) - (if (0 : Int64) < ((f P) - e.toInt64) then ((f P) - e.toInt64) else (0 : Int64)))) + ((if (0 : Int64) < (((f1 Q) + s0.toInt64) - e.toInt64) then (((f1 Q) + s0.toInt64) - e.toInt64) else (0 : Int64)) - (if (0 : Int64) < ((f1 Q) - e.toInt64) then ((f1 Q) - e.toInt64) else (0 : Int64))))]), .inr (.long, own_l 3 (fun j => if j = Q then ((f1 Q) + s0.toInt64) else f1 j)), .inr (.int, own_n 3 g1)] 0 _
  refine mmW_steps (k := 2) (n := 917) (pc' := 124) (L' := [.val (.ref 2), .val (.int (0 : Int32)), .val (.int p), .val (.int q), .val (.int s0)]) (S' := [.int ((g1 Q) + (1 : Int32)), .int q, .ref 4]) (H' := [.inr (.int, [.int s0, .int s1, .int s2]), .inr (.int, [.int t0, .int t1, .int t2]), .inl (0, [.ref 0, .int e, .ref 1, .ref 3, .ref 4, .long ((x + ((if (0 : Int64) < (((f P) - s0.toInt64) - e.toInt64) then (((f P) - s0.toInt64) - e.toInt64) else (0 : Int64)) - (if (0 : Int64) < ((f P) - e.toInt64) then ((f P) - e.toInt64) else (0 : Int64)))) + ((if (0 : Int64) < (((f1 Q) + s0.toInt64) - e.toInt64) then (((f1 Q) + s0.toInt64) - e.toInt64) else (0 : Int64)) - (if (0 : Int64) < ((f1 Q) - e.toInt64) then ((f1 Q) - e.toInt64) else (0 : Int64))))]), .inr (.long, own_l 3 (fun j => if j = Q then ((f1 Q) + s0.toInt64) else f1 j)), .inr (.int, own_n 3 g1)]) (sl' := 0) rfl ?_
  refine mmW_iastore (n := 916) rfl (rfl) (hqn.1) (by rw [hqn.2, own_n_len]; exact hQ) ?_
  show mmW K_3 I_3 (some .long) (916) 125 [.val (.ref 2), .val (.int (0 : Int32)), .val (.int p), .val (.int q), .val (.int s0)] [] [.inr (.int, [.int s0, .int s1, .int s2]), .inr (.int, [.int t0, .int t1, .int t2]), .inl (0, [.ref 0, .int e, .ref 1, .ref 3, .ref 4, .long ((x + ((if (0 : Int64) < (((f P) - s0.toInt64) - e.toInt64) then (((f P) - s0.toInt64) - e.toInt64) else (0 : Int64)) - (if (0 : Int64) < ((f P) - e.toInt64) then ((f P) - e.toInt64) else (0 : Int64)))) + ((if (0 : Int64) < (((f1 Q) + s0.toInt64) - e.toInt64) then (((f1 Q) + s0.toInt64) - e.toInt64) else (0 : Int64)) - (if (0 : Int64) < ((f1 Q) - e.toInt64) then ((f1 Q) - e.toInt64) else (0 : Int64))))]), .inr (.long, own_l 3 (fun j => if j = Q then ((f1 Q) + s0.toInt64) else f1 j)), .inr (.int, (own_n 3 g1).set q.toNatClampNeg (.int ((g1 Q) + (1 : Int32))))] 0 _
  rw [hqn.2, own_n_set]
  refine mmW_steps (k := 1) (n := 915) (pc' := 126) (L' := [.val (.ref 2), .val (.int (0 : Int32)), .val (.int p), .val (.int q), .val (.int s0)]) (S' := [.long (0 : Int64)]) (H' := [.inr (.int, [.int s0, .int s1, .int s2]), .inr (.int, [.int t0, .int t1, .int t2]), .inl (0, [.ref 0, .int e, .ref 1, .ref 3, .ref 4, .long ((x + ((if (0 : Int64) < (((f P) - s0.toInt64) - e.toInt64) then (((f P) - s0.toInt64) - e.toInt64) else (0 : Int64)) - (if (0 : Int64) < ((f P) - e.toInt64) then ((f P) - e.toInt64) else (0 : Int64)))) + ((if (0 : Int64) < (((f1 Q) + s0.toInt64) - e.toInt64) then (((f1 Q) + s0.toInt64) - e.toInt64) else (0 : Int64)) - (if (0 : Int64) < ((f1 Q) - e.toInt64) then ((f1 Q) - e.toInt64) else (0 : Int64))))]), .inr (.long, own_l 3 (fun j => if j = Q then ((f1 Q) + s0.toInt64) else f1 j)), .inr (.int, own_n 3 (fun j => if j = Q then ((g1 Q) + (1 : Int32)) else g1 j))]) (sl' := 0) rfl ?_
  exact mmW_ret (n := 914) (i := .lreturn) rfl rfl ⟨rfl, rfl, rfl⟩
set_option maxRecDepth 65536 in
set_option maxHeartbeats 40000000 in
theorem own_ld (f : Nat → Int64) (g : Nat → Int32) (x : Int64) (s0 s1 s2 t0 t1 t2 e : Int32) (t a b c : Int32) : B_7 [.int t, .int a, .int b, .int c, .int s0, .int s1, .int s2] [.inr (.int, [.int s0, .int s1, .int s2]), .inr (.int, [.int t0, .int t1, .int t2]), .inl (0, [.ref 0, .int e, .ref 1, .ref 3, .ref 4, .long x]), .inr (.long, own_l 3 f), .inr (.int, own_n 3 g)] = some (some (.long (own_load t a b c s0 s1 s2)), [.inr (.int, [.int s0, .int s1, .int s2]), .inr (.int, [.int t0, .int t1, .int t2]), .inl (0, [.ref 0, .int e, .ref 1, .ref 3, .ref 4, .long x]), .inr (.long, own_l 3 f), .inr (.int, own_n 3 g)], 0) := by
  refine mmB_of rfl ?_
  show mmW K_7 I_7 (some .long) 1000 0 [.val (.int t), .val (.int a), .val (.int b), .val (.int c), .val (.int s0), .val (.int s1), .val (.int s2), .unset, .unset] [] [.inr (.int, [.int s0, .int s1, .int s2]), .inr (.int, [.int t0, .int t1, .int t2]), .inl (0, [.ref 0, .int e, .ref 1, .ref 3, .ref 4, .long x]), .inr (.long, own_l 3 f), .inr (.int, own_n 3 g)] 0 _
  refine mmW_steps (k := 5) (n := 995) (pc' := (if if_icmp.holds .ne a t = true then 16 else 8)) (L' := [.val (.int t), .val (.int a), .val (.int b), .val (.int c), .val (.int s0), .val (.int s1), .val (.int s2), .val (.long (0 : Int64)), .second]) (S' := []) (H' := [.inr (.int, [.int s0, .int s1, .int s2]), .inr (.int, [.int t0, .int t1, .int t2]), .inl (0, [.ref 0, .int e, .ref 1, .ref 3, .ref 4, .long x]), .inr (.long, own_l 3 f), .inr (.int, own_n 3 g)]) (sl' := 0) rfl ?_
  by_cases hc1 : a = t
  · refine mmW_f (XT.ii_ne_f (hc1)) ?_
    refine mmW_steps (k := 8) (n := 987) (pc' := (if if_icmp.holds .ne b t = true then 29 else 21)) (L' := [.val (.int t), .val (.int a), .val (.int b), .val (.int c), .val (.int s0), .val (.int s1), .val (.int s2), .val (.long ((0 : Int64) + s0.toInt64)), .second]) (S' := []) (H' := [.inr (.int, [.int s0, .int s1, .int s2]), .inr (.int, [.int t0, .int t1, .int t2]), .inl (0, [.ref 0, .int e, .ref 1, .ref 3, .ref 4, .long x]), .inr (.long, own_l 3 f), .inr (.int, own_n 3 g)]) (sl' := 0) rfl ?_
    by_cases hc2 : b = t
    · refine mmW_f (XT.ii_ne_f (hc2)) ?_
      refine mmW_steps (k := 8) (n := 979) (pc' := (if if_icmp.holds .ne c t = true then 42 else 34)) (L' := [.val (.int t), .val (.int a), .val (.int b), .val (.int c), .val (.int s0), .val (.int s1), .val (.int s2), .val (.long (((0 : Int64) + s0.toInt64) + s1.toInt64)), .second]) (S' := []) (H' := [.inr (.int, [.int s0, .int s1, .int s2]), .inr (.int, [.int t0, .int t1, .int t2]), .inl (0, [.ref 0, .int e, .ref 1, .ref 3, .ref 4, .long x]), .inr (.long, own_l 3 f), .inr (.int, own_n 3 g)]) (sl' := 0) rfl ?_
      by_cases hc3 : c = t
      · refine mmW_f (XT.ii_ne_f (hc3)) ?_
        refine mmW_steps (k := 6) (n := 973) (pc' := 44) (L' := [.val (.int t), .val (.int a), .val (.int b), .val (.int c), .val (.int s0), .val (.int s1), .val (.int s2), .val (.long ((((0 : Int64) + s0.toInt64) + s1.toInt64) + s2.toInt64)), .second]) (S' := [.long ((((0 : Int64) + s0.toInt64) + s1.toInt64) + s2.toInt64)]) (H' := [.inr (.int, [.int s0, .int s1, .int s2]), .inr (.int, [.int t0, .int t1, .int t2]), .inl (0, [.ref 0, .int e, .ref 1, .ref 3, .ref 4, .long x]), .inr (.long, own_l 3 f), .inr (.int, own_n 3 g)]) (sl' := 0) rfl ?_
        exact mmW_ret (n := 972) (i := .lreturn) rfl rfl ⟨by simp only [own_load, hc1, hc2, hc3, if_true, if_false], rfl, rfl⟩
      · refine mmW_t (XT.ii_ne_t (hc3)) ?_
        refine mmW_steps (k := 1) (n := 978) (pc' := 44) (L' := [.val (.int t), .val (.int a), .val (.int b), .val (.int c), .val (.int s0), .val (.int s1), .val (.int s2), .val (.long (((0 : Int64) + s0.toInt64) + s1.toInt64)), .second]) (S' := [.long (((0 : Int64) + s0.toInt64) + s1.toInt64)]) (H' := [.inr (.int, [.int s0, .int s1, .int s2]), .inr (.int, [.int t0, .int t1, .int t2]), .inl (0, [.ref 0, .int e, .ref 1, .ref 3, .ref 4, .long x]), .inr (.long, own_l 3 f), .inr (.int, own_n 3 g)]) (sl' := 0) rfl ?_
        exact mmW_ret (n := 977) (i := .lreturn) rfl rfl ⟨by simp only [own_load, hc1, hc2, hc3, if_true, if_false], rfl, rfl⟩
    · refine mmW_t (XT.ii_ne_t (hc2)) ?_
      refine mmW_steps (k := 3) (n := 984) (pc' := (if if_icmp.holds .ne c t = true then 42 else 34)) (L' := [.val (.int t), .val (.int a), .val (.int b), .val (.int c), .val (.int s0), .val (.int s1), .val (.int s2), .val (.long ((0 : Int64) + s0.toInt64)), .second]) (S' := []) (H' := [.inr (.int, [.int s0, .int s1, .int s2]), .inr (.int, [.int t0, .int t1, .int t2]), .inl (0, [.ref 0, .int e, .ref 1, .ref 3, .ref 4, .long x]), .inr (.long, own_l 3 f), .inr (.int, own_n 3 g)]) (sl' := 0) rfl ?_
      by_cases hc3 : c = t
      · refine mmW_f (XT.ii_ne_f (hc3)) ?_
        refine mmW_steps (k := 6) (n := 978) (pc' := 44) (L' := [.val (.int t), .val (.int a), .val (.int b), .val (.int c), .val (.int s0), .val (.int s1), .val (.int s2), .val (.long (((0 : Int64) + s0.toInt64) + s2.toInt64)), .second]) (S' := [.long (((0 : Int64) + s0.toInt64) + s2.toInt64)]) (H' := [.inr (.int, [.int s0, .int s1, .int s2]), .inr (.int, [.int t0, .int t1, .int t2]), .inl (0, [.ref 0, .int e, .ref 1, .ref 3, .ref 4, .long x]), .inr (.long, own_l 3 f), .inr (.int, own_n 3 g)]) (sl' := 0) rfl ?_
        exact mmW_ret (n := 977) (i := .lreturn) rfl rfl ⟨by simp only [own_load, hc1, hc2, hc3, if_true, if_false], rfl, rfl⟩
      · refine mmW_t (XT.ii_ne_t (hc3)) ?_
        refine mmW_steps (k := 1) (n := 983) (pc' := 44) (L' := [.val (.int t), .val (.int a), .val (.int b), .val (.int c), .val (.int s0), .val (.int s1), .val (.int s2), .val (.long ((0 : Int64) + s0.toInt64)), .second]) (S' := [.long ((0 : Int64) + s0.toInt64)]) (H' := [.inr (.int, [.int s0, .int s1, .int s2]), .inr (.int, [.int t0, .int t1, .int t2]), .inl (0, [.ref 0, .int e, .ref 1, .ref 3, .ref 4, .long x]), .inr (.long, own_l 3 f), .inr (.int, own_n 3 g)]) (sl' := 0) rfl ?_
        exact mmW_ret (n := 982) (i := .lreturn) rfl rfl ⟨by simp only [own_load, hc1, hc2, hc3, if_true, if_false], rfl, rfl⟩
  · refine mmW_t (XT.ii_ne_t (hc1)) ?_
    refine mmW_steps (k := 3) (n := 992) (pc' := (if if_icmp.holds .ne b t = true then 29 else 21)) (L' := [.val (.int t), .val (.int a), .val (.int b), .val (.int c), .val (.int s0), .val (.int s1), .val (.int s2), .val (.long (0 : Int64)), .second]) (S' := []) (H' := [.inr (.int, [.int s0, .int s1, .int s2]), .inr (.int, [.int t0, .int t1, .int t2]), .inl (0, [.ref 0, .int e, .ref 1, .ref 3, .ref 4, .long x]), .inr (.long, own_l 3 f), .inr (.int, own_n 3 g)]) (sl' := 0) rfl ?_
    by_cases hc2 : b = t
    · refine mmW_f (XT.ii_ne_f (hc2)) ?_
      refine mmW_steps (k := 8) (n := 984) (pc' := (if if_icmp.holds .ne c t = true then 42 else 34)) (L' := [.val (.int t), .val (.int a), .val (.int b), .val (.int c), .val (.int s0), .val (.int s1), .val (.int s2), .val (.long ((0 : Int64) + s1.toInt64)), .second]) (S' := []) (H' := [.inr (.int, [.int s0, .int s1, .int s2]), .inr (.int, [.int t0, .int t1, .int t2]), .inl (0, [.ref 0, .int e, .ref 1, .ref 3, .ref 4, .long x]), .inr (.long, own_l 3 f), .inr (.int, own_n 3 g)]) (sl' := 0) rfl ?_
      by_cases hc3 : c = t
      · refine mmW_f (XT.ii_ne_f (hc3)) ?_
        refine mmW_steps (k := 6) (n := 978) (pc' := 44) (L' := [.val (.int t), .val (.int a), .val (.int b), .val (.int c), .val (.int s0), .val (.int s1), .val (.int s2), .val (.long (((0 : Int64) + s1.toInt64) + s2.toInt64)), .second]) (S' := [.long (((0 : Int64) + s1.toInt64) + s2.toInt64)]) (H' := [.inr (.int, [.int s0, .int s1, .int s2]), .inr (.int, [.int t0, .int t1, .int t2]), .inl (0, [.ref 0, .int e, .ref 1, .ref 3, .ref 4, .long x]), .inr (.long, own_l 3 f), .inr (.int, own_n 3 g)]) (sl' := 0) rfl ?_
        exact mmW_ret (n := 977) (i := .lreturn) rfl rfl ⟨by simp only [own_load, hc1, hc2, hc3, if_true, if_false], rfl, rfl⟩
      · refine mmW_t (XT.ii_ne_t (hc3)) ?_
        refine mmW_steps (k := 1) (n := 983) (pc' := 44) (L' := [.val (.int t), .val (.int a), .val (.int b), .val (.int c), .val (.int s0), .val (.int s1), .val (.int s2), .val (.long ((0 : Int64) + s1.toInt64)), .second]) (S' := [.long ((0 : Int64) + s1.toInt64)]) (H' := [.inr (.int, [.int s0, .int s1, .int s2]), .inr (.int, [.int t0, .int t1, .int t2]), .inl (0, [.ref 0, .int e, .ref 1, .ref 3, .ref 4, .long x]), .inr (.long, own_l 3 f), .inr (.int, own_n 3 g)]) (sl' := 0) rfl ?_
        exact mmW_ret (n := 982) (i := .lreturn) rfl rfl ⟨by simp only [own_load, hc1, hc2, hc3, if_true, if_false], rfl, rfl⟩
    · refine mmW_t (XT.ii_ne_t (hc2)) ?_
      refine mmW_steps (k := 3) (n := 989) (pc' := (if if_icmp.holds .ne c t = true then 42 else 34)) (L' := [.val (.int t), .val (.int a), .val (.int b), .val (.int c), .val (.int s0), .val (.int s1), .val (.int s2), .val (.long (0 : Int64)), .second]) (S' := []) (H' := [.inr (.int, [.int s0, .int s1, .int s2]), .inr (.int, [.int t0, .int t1, .int t2]), .inl (0, [.ref 0, .int e, .ref 1, .ref 3, .ref 4, .long x]), .inr (.long, own_l 3 f), .inr (.int, own_n 3 g)]) (sl' := 0) rfl ?_
      by_cases hc3 : c = t
      · refine mmW_f (XT.ii_ne_f (hc3)) ?_
        refine mmW_steps (k := 6) (n := 983) (pc' := 44) (L' := [.val (.int t), .val (.int a), .val (.int b), .val (.int c), .val (.int s0), .val (.int s1), .val (.int s2), .val (.long ((0 : Int64) + s2.toInt64)), .second]) (S' := [.long ((0 : Int64) + s2.toInt64)]) (H' := [.inr (.int, [.int s0, .int s1, .int s2]), .inr (.int, [.int t0, .int t1, .int t2]), .inl (0, [.ref 0, .int e, .ref 1, .ref 3, .ref 4, .long x]), .inr (.long, own_l 3 f), .inr (.int, own_n 3 g)]) (sl' := 0) rfl ?_
        exact mmW_ret (n := 982) (i := .lreturn) rfl rfl ⟨by simp only [own_load, hc1, hc2, hc3, if_true, if_false], rfl, rfl⟩
      · refine mmW_t (XT.ii_ne_t (hc3)) ?_
        refine mmW_steps (k := 1) (n := 988) (pc' := 44) (L' := [.val (.int t), .val (.int a), .val (.int b), .val (.int c), .val (.int s0), .val (.int s1), .val (.int s2), .val (.long (0 : Int64)), .second]) (S' := [.long (0 : Int64)]) (H' := [.inr (.int, [.int s0, .int s1, .int s2]), .inr (.int, [.int t0, .int t1, .int t2]), .inl (0, [.ref 0, .int e, .ref 1, .ref 3, .ref 4, .long x]), .inr (.long, own_l 3 f), .inr (.int, own_n 3 g)]) (sl' := 0) rfl ?_
        exact mmW_ret (n := 987) (i := .lreturn) rfl rfl ⟨by simp only [own_load, hc1, hc2, hc3, if_true, if_false], rfl, rfl⟩
set_option maxRecDepth 65536 in
set_option maxHeartbeats 40000000 in
theorem own_brs (f : Nat → Int64) (g : Nat → Int32) (x : Int64) (s0 s1 s2 t0 t1 t2 e : Int32) (t a b c : Int32) : B_6 [.int t, .int e, .int a, .int b, .int c, .int s0, .int s1, .int s2] [.inr (.int, [.int s0, .int s1, .int s2]), .inr (.int, [.int t0, .int t1, .int t2]), .inl (0, [.ref 0, .int e, .ref 1, .ref 3, .ref 4, .long x]), .inr (.long, own_l 3 f), .inr (.int, own_n 3 g)] = some (some (.int (own_br t e a b c s0 s1 s2)), [.inr (.int, [.int s0, .int s1, .int s2]), .inr (.int, [.int t0, .int t1, .int t2]), .inl (0, [.ref 0, .int e, .ref 1, .ref 3, .ref 4, .long x]), .inr (.long, own_l 3 f), .inr (.int, own_n 3 g)], 0) := by
  refine mmB_of rfl ?_
  show mmW K_6 I_6 (some .int) 1000 0 [.val (.int t), .val (.int e), .val (.int a), .val (.int b), .val (.int c), .val (.int s0), .val (.int s1), .val (.int s2)] [] [.inr (.int, [.int s0, .int s1, .int s2]), .inr (.int, [.int t0, .int t1, .int t2]), .inl (0, [.ref 0, .int e, .ref 1, .ref 3, .ref 4, .long x]), .inr (.long, own_l 3 f), .inr (.int, own_n 3 g)] 0 _
  refine mmW_steps (k := 2) (n := 998) (pc' := (if ifCond.holds .ge t = true then 6 else 4)) (L' := [.val (.int t), .val (.int e), .val (.int a), .val (.int b), .val (.int c), .val (.int s0), .val (.int s1), .val (.int s2)]) (S' := []) (H' := [.inr (.int, [.int s0, .int s1, .int s2]), .inr (.int, [.int t0, .int t1, .int t2]), .inl (0, [.ref 0, .int e, .ref 1, .ref 3, .ref 4, .long x]), .inr (.long, own_l 3 f), .inr (.int, own_n 3 g)]) (sl' := 0) rfl ?_
  by_cases hc1 : t < 0
  · refine mmW_f (XT.i0_ge_f (hc1)) ?_
    refine mmW_steps (k := 1) (n := 997) (pc' := 5) (L' := [.val (.int t), .val (.int e), .val (.int a), .val (.int b), .val (.int c), .val (.int s0), .val (.int s1), .val (.int s2)]) (S' := [.int (0 : Int32)]) (H' := [.inr (.int, [.int s0, .int s1, .int s2]), .inr (.int, [.int t0, .int t1, .int t2]), .inl (0, [.ref 0, .int e, .ref 1, .ref 3, .ref 4, .long x]), .inr (.long, own_l 3 f), .inr (.int, own_n 3 g)]) (sl' := 0) rfl ?_
    exact mmW_ret (n := 996) (i := .ireturn) rfl rfl ⟨by simp only [own_br, hc1, if_true, if_false], rfl, rfl⟩
  · refine mmW_t (XT.i0_ge_t (hc1)) ?_
    refine mmW_steps (k := 7) (n := 991) (pc' := 17) (L' := [.val (.int t), .val (.int e), .val (.int a), .val (.int b), .val (.int c), .val (.int s0), .val (.int s1), .val (.int s2)]) (S' := [.int s2, .int s1, .int s0, .int c, .int b, .int a, .int t]) (H' := [.inr (.int, [.int s0, .int s1, .int s2]), .inr (.int, [.int t0, .int t1, .int t2]), .inl (0, [.ref 0, .int e, .ref 1, .ref 3, .ref 4, .long x]), .inr (.long, own_l 3 f), .inr (.int, own_n 3 g)]) (sl' := 0) rfl ?_
    refine mmW_callS (n := 990) rfl rfl rfl (rfl) (Nat.le_of_ble_eq_true rfl) (own_ld f g x s0 s1 s2 t0 t1 t2 e t a b c) ?_
    show mmW K_6 I_6 (some .int) (990) 20 [.val (.int t), .val (.int e), .val (.int a), .val (.int b), .val (.int c), .val (.int s0), .val (.int s1), .val (.int s2)] [.long (own_load t a b c s0 s1 s2)] [.inr (.int, [.int s0, .int s1, .int s2]), .inr (.int, [.int t0, .int t1, .int t2]), .inl (0, [.ref 0, .int e, .ref 1, .ref 3, .ref 4, .long x]), .inr (.long, own_l 3 f), .inr (.int, own_n 3 g)] 0 _
    refine mmW_steps (k := 4) (n := 986) (pc' := (if ifCond.holds .le (XT.cmpL (own_load t a b c s0 s1 s2) e.toInt64) = true then 30 else 26)) (L' := [.val (.int t), .val (.int e), .val (.int a), .val (.int b), .val (.int c), .val (.int s0), .val (.int s1), .val (.int s2)]) (S' := []) (H' := [.inr (.int, [.int s0, .int s1, .int s2]), .inr (.int, [.int t0, .int t1, .int t2]), .inl (0, [.ref 0, .int e, .ref 1, .ref 3, .ref 4, .long x]), .inr (.long, own_l 3 f), .inr (.int, own_n 3 g)]) (sl' := 0) rfl ?_
    by_cases hc2 : e.toInt64 < (own_load t a b c s0 s1 s2)
    · refine mmW_f (XT.ll_le_f (hc2)) ?_
      refine mmW_steps (k := 2) (n := 984) (pc' := 31) (L' := [.val (.int t), .val (.int e), .val (.int a), .val (.int b), .val (.int c), .val (.int s0), .val (.int s1), .val (.int s2)]) (S' := [.int (1 : Int32)]) (H' := [.inr (.int, [.int s0, .int s1, .int s2]), .inr (.int, [.int t0, .int t1, .int t2]), .inl (0, [.ref 0, .int e, .ref 1, .ref 3, .ref 4, .long x]), .inr (.long, own_l 3 f), .inr (.int, own_n 3 g)]) (sl' := 0) rfl ?_
      exact mmW_ret (n := 983) (i := .ireturn) rfl rfl ⟨by simp only [own_br, hc1, hc2, if_true, if_false], rfl, rfl⟩
    · refine mmW_t (XT.ll_le_t (hc2)) ?_
      refine mmW_steps (k := 1) (n := 985) (pc' := 31) (L' := [.val (.int t), .val (.int e), .val (.int a), .val (.int b), .val (.int c), .val (.int s0), .val (.int s1), .val (.int s2)]) (S' := [.int (0 : Int32)]) (H' := [.inr (.int, [.int s0, .int s1, .int s2]), .inr (.int, [.int t0, .int t1, .int t2]), .inl (0, [.ref 0, .int e, .ref 1, .ref 3, .ref 4, .long x]), .inr (.long, own_l 3 f), .inr (.int, own_n 3 g)]) (sl' := 0) rfl ?_
      exact mmW_ret (n := 984) (i := .ireturn) rfl rfl ⟨by simp only [own_br, hc1, hc2, if_true, if_false], rfl, rfl⟩
set_option maxRecDepth 65536 in
set_option maxHeartbeats 40000000 in
theorem own_bcs (f : Nat → Int64) (g : Nat → Int32) (x : Int64) (s0 s1 s2 t0 t1 t2 e : Int32) : B_8 [.ref 2] [.inr (.int, [.int s0, .int s1, .int s2]), .inr (.int, [.int t0, .int t1, .int t2]), .inl (0, [.ref 0, .int e, .ref 1, .ref 3, .ref 4, .long x]), .inr (.long, own_l 3 f), .inr (.int, own_n 3 g)] = some (some (.int (own_bc e f g)), [.inr (.int, [.int s0, .int s1, .int s2]), .inr (.int, [.int t0, .int t1, .int t2]), .inl (0, [.ref 0, .int e, .ref 1, .ref 3, .ref 4, .long x]), .inr (.long, own_l 3 f), .inr (.int, own_n 3 g)], 0) := by
  refine mmB_of rfl ?_
  show mmW K_8 I_8 (some .int) 1000 0 [.val (.ref 2), .unset, .unset] [] [.inr (.int, [.int s0, .int s1, .int s2]), .inr (.int, [.int t0, .int t1, .int t2]), .inl (0, [.ref 0, .int e, .ref 1, .ref 3, .ref 4, .long x]), .inr (.long, own_l 3 f), .inr (.int, own_n 3 g)] 0 _
  refine mmW_steps (k := 8) (n := 992) (pc' := 10) (L' := [.val (.ref 2), .val (.int (0 : Int32)), .val (.int (0 : Int32))]) (S' := [.int (own_l 3 f).length.toInt32, .int (0 : Int32)]) (H' := [.inr (.int, [.int s0, .int s1, .int s2]), .inr (.int, [.int t0, .int t1, .int t2]), .inl (0, [.ref 0, .int e, .ref 1, .ref 3, .ref 4, .long x]), .inr (.long, own_l 3 f), .inr (.int, own_n 3 g)]) (sl' := 0) rfl ?_
  rw [own_len3 f]
  refine mmW_steps (k := 4) (n := 988) (pc' := 18) (L' := [.val (.ref 2), .val (.int (0 : Int32)), .val (.int (0 : Int32))]) (S' := [.int (0 : Int32), .ref 3]) (H' := [.inr (.int, [.int s0, .int s1, .int s2]), .inr (.int, [.int t0, .int t1, .int t2]), .inl (0, [.ref 0, .int e, .ref 1, .ref 3, .ref 4, .long x]), .inr (.long, own_l 3 f), .inr (.int, own_n 3 g)]) (sl' := 0) rfl ?_
  refine mmW_laload (n := 987) rfl (rfl) (by decide) (by rw [mmNth_eq]; exact own_l_nth f (by decide)) ?_
  show mmW K_8 I_8 (some .int) (987) 19 [.val (.ref 2), .val (.int (0 : Int32)), .val (.int (0 : Int32))] [.long (f 0)] [.inr (.int, [.int s0, .int s1, .int s2]), .inr (.int, [.int t0, .int t1, .int t2]), .inl (0, [.ref 0, .int e, .ref 1, .ref 3, .ref 4, .long x]), .inr (.long, own_l 3 f), .inr (.int, own_n 3 g)] 0 _
  refine mmW_steps (k := 5) (n := 982) (pc' := (if ifCond.holds .le (XT.cmpL (f 0) e.toInt64) = true then 37 else 28)) (L' := [.val (.ref 2), .val (.int (0 : Int32)), .val (.int (0 : Int32))]) (S' := []) (H' := [.inr (.int, [.int s0, .int s1, .int s2]), .inr (.int, [.int t0, .int t1, .int t2]), .inl (0, [.ref 0, .int e, .ref 1, .ref 3, .ref 4, .long x]), .inr (.long, own_l 3 f), .inr (.int, own_n 3 g)]) (sl' := 0) rfl ?_
  by_cases hc1 : e.toInt64 < (f 0)
  · refine mmW_f (XT.ll_le_f (hc1)) ?_
    refine mmW_steps (k := 4) (n := 978) (pc' := 34) (L' := [.val (.ref 2), .val (.int (0 : Int32)), .val (.int (0 : Int32))]) (S' := [.int (0 : Int32), .ref 4, .int (0 : Int32)]) (H' := [.inr (.int, [.int s0, .int s1, .int s2]), .inr (.int, [.int t0, .int t1, .int t2]), .inl (0, [.ref 0, .int e, .ref 1, .ref 3, .ref 4, .long x]), .inr (.long, own_l 3 f), .inr (.int, own_n 3 g)]) (sl' := 0) rfl ?_
    refine mmW_iaload (n := 977) rfl (rfl) (by decide) (by rw [mmNth_eq]; exact own_n_nth g (by decide)) ?_
    show mmW K_8 I_8 (some .int) (977) 35 [.val (.ref 2), .val (.int (0 : Int32)), .val (.int (0 : Int32))] [.int (g 0), .int (0 : Int32)] [.inr (.int, [.int s0, .int s1, .int s2]), .inr (.int, [.int t0, .int t1, .int t2]), .inl (0, [.ref 0, .int e, .ref 1, .ref 3, .ref 4, .long x]), .inr (.long, own_l 3 f), .inr (.int, own_n 3 g)] 0 _
    refine mmW_steps (k := 8) (n := 969) (pc' := 10) (L' := [.val (.ref 2), .val (.int ((0 : Int32) + (g 0))), .val (.int (1 : Int32))]) (S' := [.int (own_l 3 f).length.toInt32, .int (1 : Int32)]) (H' := [.inr (.int, [.int s0, .int s1, .int s2]), .inr (.int, [.int t0, .int t1, .int t2]), .inl (0, [.ref 0, .int e, .ref 1, .ref 3, .ref 4, .long x]), .inr (.long, own_l 3 f), .inr (.int, own_n 3 g)]) (sl' := 0) rfl ?_
    rw [own_len3 f]
    refine mmW_steps (k := 4) (n := 965) (pc' := 18) (L' := [.val (.ref 2), .val (.int ((0 : Int32) + (g 0))), .val (.int (1 : Int32))]) (S' := [.int (1 : Int32), .ref 3]) (H' := [.inr (.int, [.int s0, .int s1, .int s2]), .inr (.int, [.int t0, .int t1, .int t2]), .inl (0, [.ref 0, .int e, .ref 1, .ref 3, .ref 4, .long x]), .inr (.long, own_l 3 f), .inr (.int, own_n 3 g)]) (sl' := 0) rfl ?_
    refine mmW_laload (n := 964) rfl (rfl) (by decide) (by rw [mmNth_eq]; exact own_l_nth f (by decide)) ?_
    show mmW K_8 I_8 (some .int) (964) 19 [.val (.ref 2), .val (.int ((0 : Int32) + (g 0))), .val (.int (1 : Int32))] [.long (f 1)] [.inr (.int, [.int s0, .int s1, .int s2]), .inr (.int, [.int t0, .int t1, .int t2]), .inl (0, [.ref 0, .int e, .ref 1, .ref 3, .ref 4, .long x]), .inr (.long, own_l 3 f), .inr (.int, own_n 3 g)] 0 _
    refine mmW_steps (k := 5) (n := 959) (pc' := (if ifCond.holds .le (XT.cmpL (f 1) e.toInt64) = true then 37 else 28)) (L' := [.val (.ref 2), .val (.int ((0 : Int32) + (g 0))), .val (.int (1 : Int32))]) (S' := []) (H' := [.inr (.int, [.int s0, .int s1, .int s2]), .inr (.int, [.int t0, .int t1, .int t2]), .inl (0, [.ref 0, .int e, .ref 1, .ref 3, .ref 4, .long x]), .inr (.long, own_l 3 f), .inr (.int, own_n 3 g)]) (sl' := 0) rfl ?_
    by_cases hc2 : e.toInt64 < (f 1)
    · refine mmW_f (XT.ll_le_f (hc2)) ?_
      refine mmW_steps (k := 4) (n := 955) (pc' := 34) (L' := [.val (.ref 2), .val (.int ((0 : Int32) + (g 0))), .val (.int (1 : Int32))]) (S' := [.int (1 : Int32), .ref 4, .int ((0 : Int32) + (g 0))]) (H' := [.inr (.int, [.int s0, .int s1, .int s2]), .inr (.int, [.int t0, .int t1, .int t2]), .inl (0, [.ref 0, .int e, .ref 1, .ref 3, .ref 4, .long x]), .inr (.long, own_l 3 f), .inr (.int, own_n 3 g)]) (sl' := 0) rfl ?_
      refine mmW_iaload (n := 954) rfl (rfl) (by decide) (by rw [mmNth_eq]; exact own_n_nth g (by decide)) ?_
      show mmW K_8 I_8 (some .int) (954) 35 [.val (.ref 2), .val (.int ((0 : Int32) + (g 0))), .val (.int (1 : Int32))] [.int (g 1), .int ((0 : Int32) + (g 0))] [.inr (.int, [.int s0, .int s1, .int s2]), .inr (.int, [.int t0, .int t1, .int t2]), .inl (0, [.ref 0, .int e, .ref 1, .ref 3, .ref 4, .long x]), .inr (.long, own_l 3 f), .inr (.int, own_n 3 g)] 0 _
      refine mmW_steps (k := 8) (n := 946) (pc' := 10) (L' := [.val (.ref 2), .val (.int (((0 : Int32) + (g 0)) + (g 1))), .val (.int (2 : Int32))]) (S' := [.int (own_l 3 f).length.toInt32, .int (2 : Int32)]) (H' := [.inr (.int, [.int s0, .int s1, .int s2]), .inr (.int, [.int t0, .int t1, .int t2]), .inl (0, [.ref 0, .int e, .ref 1, .ref 3, .ref 4, .long x]), .inr (.long, own_l 3 f), .inr (.int, own_n 3 g)]) (sl' := 0) rfl ?_
      rw [own_len3 f]
      refine mmW_steps (k := 4) (n := 942) (pc' := 18) (L' := [.val (.ref 2), .val (.int (((0 : Int32) + (g 0)) + (g 1))), .val (.int (2 : Int32))]) (S' := [.int (2 : Int32), .ref 3]) (H' := [.inr (.int, [.int s0, .int s1, .int s2]), .inr (.int, [.int t0, .int t1, .int t2]), .inl (0, [.ref 0, .int e, .ref 1, .ref 3, .ref 4, .long x]), .inr (.long, own_l 3 f), .inr (.int, own_n 3 g)]) (sl' := 0) rfl ?_
      refine mmW_laload (n := 941) rfl (rfl) (by decide) (by rw [mmNth_eq]; exact own_l_nth f (by decide)) ?_
      show mmW K_8 I_8 (some .int) (941) 19 [.val (.ref 2), .val (.int (((0 : Int32) + (g 0)) + (g 1))), .val (.int (2 : Int32))] [.long (f 2)] [.inr (.int, [.int s0, .int s1, .int s2]), .inr (.int, [.int t0, .int t1, .int t2]), .inl (0, [.ref 0, .int e, .ref 1, .ref 3, .ref 4, .long x]), .inr (.long, own_l 3 f), .inr (.int, own_n 3 g)] 0 _
      refine mmW_steps (k := 5) (n := 936) (pc' := (if ifCond.holds .le (XT.cmpL (f 2) e.toInt64) = true then 37 else 28)) (L' := [.val (.ref 2), .val (.int (((0 : Int32) + (g 0)) + (g 1))), .val (.int (2 : Int32))]) (S' := []) (H' := [.inr (.int, [.int s0, .int s1, .int s2]), .inr (.int, [.int t0, .int t1, .int t2]), .inl (0, [.ref 0, .int e, .ref 1, .ref 3, .ref 4, .long x]), .inr (.long, own_l 3 f), .inr (.int, own_n 3 g)]) (sl' := 0) rfl ?_
      by_cases hc3 : e.toInt64 < (f 2)
      · refine mmW_f (XT.ll_le_f (hc3)) ?_
        refine mmW_steps (k := 4) (n := 932) (pc' := 34) (L' := [.val (.ref 2), .val (.int (((0 : Int32) + (g 0)) + (g 1))), .val (.int (2 : Int32))]) (S' := [.int (2 : Int32), .ref 4, .int (((0 : Int32) + (g 0)) + (g 1))]) (H' := [.inr (.int, [.int s0, .int s1, .int s2]), .inr (.int, [.int t0, .int t1, .int t2]), .inl (0, [.ref 0, .int e, .ref 1, .ref 3, .ref 4, .long x]), .inr (.long, own_l 3 f), .inr (.int, own_n 3 g)]) (sl' := 0) rfl ?_
        refine mmW_iaload (n := 931) rfl (rfl) (by decide) (by rw [mmNth_eq]; exact own_n_nth g (by decide)) ?_
        show mmW K_8 I_8 (some .int) (931) 35 [.val (.ref 2), .val (.int (((0 : Int32) + (g 0)) + (g 1))), .val (.int (2 : Int32))] [.int (g 2), .int (((0 : Int32) + (g 0)) + (g 1))] [.inr (.int, [.int s0, .int s1, .int s2]), .inr (.int, [.int t0, .int t1, .int t2]), .inl (0, [.ref 0, .int e, .ref 1, .ref 3, .ref 4, .long x]), .inr (.long, own_l 3 f), .inr (.int, own_n 3 g)] 0 _
        refine mmW_steps (k := 8) (n := 923) (pc' := 10) (L' := [.val (.ref 2), .val (.int ((((0 : Int32) + (g 0)) + (g 1)) + (g 2))), .val (.int (3 : Int32))]) (S' := [.int (own_l 3 f).length.toInt32, .int (3 : Int32)]) (H' := [.inr (.int, [.int s0, .int s1, .int s2]), .inr (.int, [.int t0, .int t1, .int t2]), .inl (0, [.ref 0, .int e, .ref 1, .ref 3, .ref 4, .long x]), .inr (.long, own_l 3 f), .inr (.int, own_n 3 g)]) (sl' := 0) rfl ?_
        rw [own_len3 f]
        refine mmW_steps (k := 2) (n := 921) (pc' := 44) (L' := [.val (.ref 2), .val (.int ((((0 : Int32) + (g 0)) + (g 1)) + (g 2))), .val (.int (3 : Int32))]) (S' := [.int ((((0 : Int32) + (g 0)) + (g 1)) + (g 2))]) (H' := [.inr (.int, [.int s0, .int s1, .int s2]), .inr (.int, [.int t0, .int t1, .int t2]), .inl (0, [.ref 0, .int e, .ref 1, .ref 3, .ref 4, .long x]), .inr (.long, own_l 3 f), .inr (.int, own_n 3 g)]) (sl' := 0) rfl ?_
        exact mmW_ret (n := 920) (i := .ireturn) rfl rfl ⟨by simp only [own_bc, hc1, hc2, hc3, if_true, if_false], rfl, rfl⟩
      · refine mmW_t (XT.ll_le_t (hc3)) ?_
        refine mmW_steps (k := 6) (n := 930) (pc' := 10) (L' := [.val (.ref 2), .val (.int (((0 : Int32) + (g 0)) + (g 1))), .val (.int (3 : Int32))]) (S' := [.int (own_l 3 f).length.toInt32, .int (3 : Int32)]) (H' := [.inr (.int, [.int s0, .int s1, .int s2]), .inr (.int, [.int t0, .int t1, .int t2]), .inl (0, [.ref 0, .int e, .ref 1, .ref 3, .ref 4, .long x]), .inr (.long, own_l 3 f), .inr (.int, own_n 3 g)]) (sl' := 0) rfl ?_
        rw [own_len3 f]
        refine mmW_steps (k := 2) (n := 928) (pc' := 44) (L' := [.val (.ref 2), .val (.int (((0 : Int32) + (g 0)) + (g 1))), .val (.int (3 : Int32))]) (S' := [.int (((0 : Int32) + (g 0)) + (g 1))]) (H' := [.inr (.int, [.int s0, .int s1, .int s2]), .inr (.int, [.int t0, .int t1, .int t2]), .inl (0, [.ref 0, .int e, .ref 1, .ref 3, .ref 4, .long x]), .inr (.long, own_l 3 f), .inr (.int, own_n 3 g)]) (sl' := 0) rfl ?_
        exact mmW_ret (n := 927) (i := .ireturn) rfl rfl ⟨by simp only [own_bc, hc1, hc2, hc3, if_true, if_false], rfl, rfl⟩
    · refine mmW_t (XT.ll_le_t (hc2)) ?_
      refine mmW_steps (k := 6) (n := 953) (pc' := 10) (L' := [.val (.ref 2), .val (.int ((0 : Int32) + (g 0))), .val (.int (2 : Int32))]) (S' := [.int (own_l 3 f).length.toInt32, .int (2 : Int32)]) (H' := [.inr (.int, [.int s0, .int s1, .int s2]), .inr (.int, [.int t0, .int t1, .int t2]), .inl (0, [.ref 0, .int e, .ref 1, .ref 3, .ref 4, .long x]), .inr (.long, own_l 3 f), .inr (.int, own_n 3 g)]) (sl' := 0) rfl ?_
      rw [own_len3 f]
      refine mmW_steps (k := 4) (n := 949) (pc' := 18) (L' := [.val (.ref 2), .val (.int ((0 : Int32) + (g 0))), .val (.int (2 : Int32))]) (S' := [.int (2 : Int32), .ref 3]) (H' := [.inr (.int, [.int s0, .int s1, .int s2]), .inr (.int, [.int t0, .int t1, .int t2]), .inl (0, [.ref 0, .int e, .ref 1, .ref 3, .ref 4, .long x]), .inr (.long, own_l 3 f), .inr (.int, own_n 3 g)]) (sl' := 0) rfl ?_
      refine mmW_laload (n := 948) rfl (rfl) (by decide) (by rw [mmNth_eq]; exact own_l_nth f (by decide)) ?_
      show mmW K_8 I_8 (some .int) (948) 19 [.val (.ref 2), .val (.int ((0 : Int32) + (g 0))), .val (.int (2 : Int32))] [.long (f 2)] [.inr (.int, [.int s0, .int s1, .int s2]), .inr (.int, [.int t0, .int t1, .int t2]), .inl (0, [.ref 0, .int e, .ref 1, .ref 3, .ref 4, .long x]), .inr (.long, own_l 3 f), .inr (.int, own_n 3 g)] 0 _
      refine mmW_steps (k := 5) (n := 943) (pc' := (if ifCond.holds .le (XT.cmpL (f 2) e.toInt64) = true then 37 else 28)) (L' := [.val (.ref 2), .val (.int ((0 : Int32) + (g 0))), .val (.int (2 : Int32))]) (S' := []) (H' := [.inr (.int, [.int s0, .int s1, .int s2]), .inr (.int, [.int t0, .int t1, .int t2]), .inl (0, [.ref 0, .int e, .ref 1, .ref 3, .ref 4, .long x]), .inr (.long, own_l 3 f), .inr (.int, own_n 3 g)]) (sl' := 0) rfl ?_
      by_cases hc3 : e.toInt64 < (f 2)
      · refine mmW_f (XT.ll_le_f (hc3)) ?_
        refine mmW_steps (k := 4) (n := 939) (pc' := 34) (L' := [.val (.ref 2), .val (.int ((0 : Int32) + (g 0))), .val (.int (2 : Int32))]) (S' := [.int (2 : Int32), .ref 4, .int ((0 : Int32) + (g 0))]) (H' := [.inr (.int, [.int s0, .int s1, .int s2]), .inr (.int, [.int t0, .int t1, .int t2]), .inl (0, [.ref 0, .int e, .ref 1, .ref 3, .ref 4, .long x]), .inr (.long, own_l 3 f), .inr (.int, own_n 3 g)]) (sl' := 0) rfl ?_
        refine mmW_iaload (n := 938) rfl (rfl) (by decide) (by rw [mmNth_eq]; exact own_n_nth g (by decide)) ?_
        show mmW K_8 I_8 (some .int) (938) 35 [.val (.ref 2), .val (.int ((0 : Int32) + (g 0))), .val (.int (2 : Int32))] [.int (g 2), .int ((0 : Int32) + (g 0))] [.inr (.int, [.int s0, .int s1, .int s2]), .inr (.int, [.int t0, .int t1, .int t2]), .inl (0, [.ref 0, .int e, .ref 1, .ref 3, .ref 4, .long x]), .inr (.long, own_l 3 f), .inr (.int, own_n 3 g)] 0 _
        refine mmW_steps (k := 8) (n := 930) (pc' := 10) (L' := [.val (.ref 2), .val (.int (((0 : Int32) + (g 0)) + (g 2))), .val (.int (3 : Int32))]) (S' := [.int (own_l 3 f).length.toInt32, .int (3 : Int32)]) (H' := [.inr (.int, [.int s0, .int s1, .int s2]), .inr (.int, [.int t0, .int t1, .int t2]), .inl (0, [.ref 0, .int e, .ref 1, .ref 3, .ref 4, .long x]), .inr (.long, own_l 3 f), .inr (.int, own_n 3 g)]) (sl' := 0) rfl ?_
        rw [own_len3 f]
        refine mmW_steps (k := 2) (n := 928) (pc' := 44) (L' := [.val (.ref 2), .val (.int (((0 : Int32) + (g 0)) + (g 2))), .val (.int (3 : Int32))]) (S' := [.int (((0 : Int32) + (g 0)) + (g 2))]) (H' := [.inr (.int, [.int s0, .int s1, .int s2]), .inr (.int, [.int t0, .int t1, .int t2]), .inl (0, [.ref 0, .int e, .ref 1, .ref 3, .ref 4, .long x]), .inr (.long, own_l 3 f), .inr (.int, own_n 3 g)]) (sl' := 0) rfl ?_
        exact mmW_ret (n := 927) (i := .ireturn) rfl rfl ⟨by simp only [own_bc, hc1, hc2, hc3, if_true, if_false], rfl, rfl⟩
      · refine mmW_t (XT.ll_le_t (hc3)) ?_
        refine mmW_steps (k := 6) (n := 937) (pc' := 10) (L' := [.val (.ref 2), .val (.int ((0 : Int32) + (g 0))), .val (.int (3 : Int32))]) (S' := [.int (own_l 3 f).length.toInt32, .int (3 : Int32)]) (H' := [.inr (.int, [.int s0, .int s1, .int s2]), .inr (.int, [.int t0, .int t1, .int t2]), .inl (0, [.ref 0, .int e, .ref 1, .ref 3, .ref 4, .long x]), .inr (.long, own_l 3 f), .inr (.int, own_n 3 g)]) (sl' := 0) rfl ?_
        rw [own_len3 f]
        refine mmW_steps (k := 2) (n := 935) (pc' := 44) (L' := [.val (.ref 2), .val (.int ((0 : Int32) + (g 0))), .val (.int (3 : Int32))]) (S' := [.int ((0 : Int32) + (g 0))]) (H' := [.inr (.int, [.int s0, .int s1, .int s2]), .inr (.int, [.int t0, .int t1, .int t2]), .inl (0, [.ref 0, .int e, .ref 1, .ref 3, .ref 4, .long x]), .inr (.long, own_l 3 f), .inr (.int, own_n 3 g)]) (sl' := 0) rfl ?_
        exact mmW_ret (n := 934) (i := .ireturn) rfl rfl ⟨by simp only [own_bc, hc1, hc2, hc3, if_true, if_false], rfl, rfl⟩
  · refine mmW_t (XT.ll_le_t (hc1)) ?_
    refine mmW_steps (k := 6) (n := 976) (pc' := 10) (L' := [.val (.ref 2), .val (.int (0 : Int32)), .val (.int (1 : Int32))]) (S' := [.int (own_l 3 f).length.toInt32, .int (1 : Int32)]) (H' := [.inr (.int, [.int s0, .int s1, .int s2]), .inr (.int, [.int t0, .int t1, .int t2]), .inl (0, [.ref 0, .int e, .ref 1, .ref 3, .ref 4, .long x]), .inr (.long, own_l 3 f), .inr (.int, own_n 3 g)]) (sl' := 0) rfl ?_
    rw [own_len3 f]
    refine mmW_steps (k := 4) (n := 972) (pc' := 18) (L' := [.val (.ref 2), .val (.int (0 : Int32)), .val (.int (1 : Int32))]) (S' := [.int (1 : Int32), .ref 3]) (H' := [.inr (.int, [.int s0, .int s1, .int s2]), .inr (.int, [.int t0, .int t1, .int t2]), .inl (0, [.ref 0, .int e, .ref 1, .ref 3, .ref 4, .long x]), .inr (.long, own_l 3 f), .inr (.int, own_n 3 g)]) (sl' := 0) rfl ?_
    refine mmW_laload (n := 971) rfl (rfl) (by decide) (by rw [mmNth_eq]; exact own_l_nth f (by decide)) ?_
    show mmW K_8 I_8 (some .int) (971) 19 [.val (.ref 2), .val (.int (0 : Int32)), .val (.int (1 : Int32))] [.long (f 1)] [.inr (.int, [.int s0, .int s1, .int s2]), .inr (.int, [.int t0, .int t1, .int t2]), .inl (0, [.ref 0, .int e, .ref 1, .ref 3, .ref 4, .long x]), .inr (.long, own_l 3 f), .inr (.int, own_n 3 g)] 0 _
    refine mmW_steps (k := 5) (n := 966) (pc' := (if ifCond.holds .le (XT.cmpL (f 1) e.toInt64) = true then 37 else 28)) (L' := [.val (.ref 2), .val (.int (0 : Int32)), .val (.int (1 : Int32))]) (S' := []) (H' := [.inr (.int, [.int s0, .int s1, .int s2]), .inr (.int, [.int t0, .int t1, .int t2]), .inl (0, [.ref 0, .int e, .ref 1, .ref 3, .ref 4, .long x]), .inr (.long, own_l 3 f), .inr (.int, own_n 3 g)]) (sl' := 0) rfl ?_
    by_cases hc2 : e.toInt64 < (f 1)
    · refine mmW_f (XT.ll_le_f (hc2)) ?_
      refine mmW_steps (k := 4) (n := 962) (pc' := 34) (L' := [.val (.ref 2), .val (.int (0 : Int32)), .val (.int (1 : Int32))]) (S' := [.int (1 : Int32), .ref 4, .int (0 : Int32)]) (H' := [.inr (.int, [.int s0, .int s1, .int s2]), .inr (.int, [.int t0, .int t1, .int t2]), .inl (0, [.ref 0, .int e, .ref 1, .ref 3, .ref 4, .long x]), .inr (.long, own_l 3 f), .inr (.int, own_n 3 g)]) (sl' := 0) rfl ?_
      refine mmW_iaload (n := 961) rfl (rfl) (by decide) (by rw [mmNth_eq]; exact own_n_nth g (by decide)) ?_
      show mmW K_8 I_8 (some .int) (961) 35 [.val (.ref 2), .val (.int (0 : Int32)), .val (.int (1 : Int32))] [.int (g 1), .int (0 : Int32)] [.inr (.int, [.int s0, .int s1, .int s2]), .inr (.int, [.int t0, .int t1, .int t2]), .inl (0, [.ref 0, .int e, .ref 1, .ref 3, .ref 4, .long x]), .inr (.long, own_l 3 f), .inr (.int, own_n 3 g)] 0 _
      refine mmW_steps (k := 8) (n := 953) (pc' := 10) (L' := [.val (.ref 2), .val (.int ((0 : Int32) + (g 1))), .val (.int (2 : Int32))]) (S' := [.int (own_l 3 f).length.toInt32, .int (2 : Int32)]) (H' := [.inr (.int, [.int s0, .int s1, .int s2]), .inr (.int, [.int t0, .int t1, .int t2]), .inl (0, [.ref 0, .int e, .ref 1, .ref 3, .ref 4, .long x]), .inr (.long, own_l 3 f), .inr (.int, own_n 3 g)]) (sl' := 0) rfl ?_
      rw [own_len3 f]
      refine mmW_steps (k := 4) (n := 949) (pc' := 18) (L' := [.val (.ref 2), .val (.int ((0 : Int32) + (g 1))), .val (.int (2 : Int32))]) (S' := [.int (2 : Int32), .ref 3]) (H' := [.inr (.int, [.int s0, .int s1, .int s2]), .inr (.int, [.int t0, .int t1, .int t2]), .inl (0, [.ref 0, .int e, .ref 1, .ref 3, .ref 4, .long x]), .inr (.long, own_l 3 f), .inr (.int, own_n 3 g)]) (sl' := 0) rfl ?_
      refine mmW_laload (n := 948) rfl (rfl) (by decide) (by rw [mmNth_eq]; exact own_l_nth f (by decide)) ?_
      show mmW K_8 I_8 (some .int) (948) 19 [.val (.ref 2), .val (.int ((0 : Int32) + (g 1))), .val (.int (2 : Int32))] [.long (f 2)] [.inr (.int, [.int s0, .int s1, .int s2]), .inr (.int, [.int t0, .int t1, .int t2]), .inl (0, [.ref 0, .int e, .ref 1, .ref 3, .ref 4, .long x]), .inr (.long, own_l 3 f), .inr (.int, own_n 3 g)] 0 _
      refine mmW_steps (k := 5) (n := 943) (pc' := (if ifCond.holds .le (XT.cmpL (f 2) e.toInt64) = true then 37 else 28)) (L' := [.val (.ref 2), .val (.int ((0 : Int32) + (g 1))), .val (.int (2 : Int32))]) (S' := []) (H' := [.inr (.int, [.int s0, .int s1, .int s2]), .inr (.int, [.int t0, .int t1, .int t2]), .inl (0, [.ref 0, .int e, .ref 1, .ref 3, .ref 4, .long x]), .inr (.long, own_l 3 f), .inr (.int, own_n 3 g)]) (sl' := 0) rfl ?_
      by_cases hc3 : e.toInt64 < (f 2)
      · refine mmW_f (XT.ll_le_f (hc3)) ?_
        refine mmW_steps (k := 4) (n := 939) (pc' := 34) (L' := [.val (.ref 2), .val (.int ((0 : Int32) + (g 1))), .val (.int (2 : Int32))]) (S' := [.int (2 : Int32), .ref 4, .int ((0 : Int32) + (g 1))]) (H' := [.inr (.int, [.int s0, .int s1, .int s2]), .inr (.int, [.int t0, .int t1, .int t2]), .inl (0, [.ref 0, .int e, .ref 1, .ref 3, .ref 4, .long x]), .inr (.long, own_l 3 f), .inr (.int, own_n 3 g)]) (sl' := 0) rfl ?_
        refine mmW_iaload (n := 938) rfl (rfl) (by decide) (by rw [mmNth_eq]; exact own_n_nth g (by decide)) ?_
        show mmW K_8 I_8 (some .int) (938) 35 [.val (.ref 2), .val (.int ((0 : Int32) + (g 1))), .val (.int (2 : Int32))] [.int (g 2), .int ((0 : Int32) + (g 1))] [.inr (.int, [.int s0, .int s1, .int s2]), .inr (.int, [.int t0, .int t1, .int t2]), .inl (0, [.ref 0, .int e, .ref 1, .ref 3, .ref 4, .long x]), .inr (.long, own_l 3 f), .inr (.int, own_n 3 g)] 0 _
        refine mmW_steps (k := 8) (n := 930) (pc' := 10) (L' := [.val (.ref 2), .val (.int (((0 : Int32) + (g 1)) + (g 2))), .val (.int (3 : Int32))]) (S' := [.int (own_l 3 f).length.toInt32, .int (3 : Int32)]) (H' := [.inr (.int, [.int s0, .int s1, .int s2]), .inr (.int, [.int t0, .int t1, .int t2]), .inl (0, [.ref 0, .int e, .ref 1, .ref 3, .ref 4, .long x]), .inr (.long, own_l 3 f), .inr (.int, own_n 3 g)]) (sl' := 0) rfl ?_
        rw [own_len3 f]
        refine mmW_steps (k := 2) (n := 928) (pc' := 44) (L' := [.val (.ref 2), .val (.int (((0 : Int32) + (g 1)) + (g 2))), .val (.int (3 : Int32))]) (S' := [.int (((0 : Int32) + (g 1)) + (g 2))]) (H' := [.inr (.int, [.int s0, .int s1, .int s2]), .inr (.int, [.int t0, .int t1, .int t2]), .inl (0, [.ref 0, .int e, .ref 1, .ref 3, .ref 4, .long x]), .inr (.long, own_l 3 f), .inr (.int, own_n 3 g)]) (sl' := 0) rfl ?_
        exact mmW_ret (n := 927) (i := .ireturn) rfl rfl ⟨by simp only [own_bc, hc1, hc2, hc3, if_true, if_false], rfl, rfl⟩
      · refine mmW_t (XT.ll_le_t (hc3)) ?_
        refine mmW_steps (k := 6) (n := 937) (pc' := 10) (L' := [.val (.ref 2), .val (.int ((0 : Int32) + (g 1))), .val (.int (3 : Int32))]) (S' := [.int (own_l 3 f).length.toInt32, .int (3 : Int32)]) (H' := [.inr (.int, [.int s0, .int s1, .int s2]), .inr (.int, [.int t0, .int t1, .int t2]), .inl (0, [.ref 0, .int e, .ref 1, .ref 3, .ref 4, .long x]), .inr (.long, own_l 3 f), .inr (.int, own_n 3 g)]) (sl' := 0) rfl ?_
        rw [own_len3 f]
        refine mmW_steps (k := 2) (n := 935) (pc' := 44) (L' := [.val (.ref 2), .val (.int ((0 : Int32) + (g 1))), .val (.int (3 : Int32))]) (S' := [.int ((0 : Int32) + (g 1))]) (H' := [.inr (.int, [.int s0, .int s1, .int s2]), .inr (.int, [.int t0, .int t1, .int t2]), .inl (0, [.ref 0, .int e, .ref 1, .ref 3, .ref 4, .long x]), .inr (.long, own_l 3 f), .inr (.int, own_n 3 g)]) (sl' := 0) rfl ?_
        exact mmW_ret (n := 934) (i := .ireturn) rfl rfl ⟨by simp only [own_bc, hc1, hc2, hc3, if_true, if_false], rfl, rfl⟩
    · refine mmW_t (XT.ll_le_t (hc2)) ?_
      refine mmW_steps (k := 6) (n := 960) (pc' := 10) (L' := [.val (.ref 2), .val (.int (0 : Int32)), .val (.int (2 : Int32))]) (S' := [.int (own_l 3 f).length.toInt32, .int (2 : Int32)]) (H' := [.inr (.int, [.int s0, .int s1, .int s2]), .inr (.int, [.int t0, .int t1, .int t2]), .inl (0, [.ref 0, .int e, .ref 1, .ref 3, .ref 4, .long x]), .inr (.long, own_l 3 f), .inr (.int, own_n 3 g)]) (sl' := 0) rfl ?_
      rw [own_len3 f]
      refine mmW_steps (k := 4) (n := 956) (pc' := 18) (L' := [.val (.ref 2), .val (.int (0 : Int32)), .val (.int (2 : Int32))]) (S' := [.int (2 : Int32), .ref 3]) (H' := [.inr (.int, [.int s0, .int s1, .int s2]), .inr (.int, [.int t0, .int t1, .int t2]), .inl (0, [.ref 0, .int e, .ref 1, .ref 3, .ref 4, .long x]), .inr (.long, own_l 3 f), .inr (.int, own_n 3 g)]) (sl' := 0) rfl ?_
      refine mmW_laload (n := 955) rfl (rfl) (by decide) (by rw [mmNth_eq]; exact own_l_nth f (by decide)) ?_
      show mmW K_8 I_8 (some .int) (955) 19 [.val (.ref 2), .val (.int (0 : Int32)), .val (.int (2 : Int32))] [.long (f 2)] [.inr (.int, [.int s0, .int s1, .int s2]), .inr (.int, [.int t0, .int t1, .int t2]), .inl (0, [.ref 0, .int e, .ref 1, .ref 3, .ref 4, .long x]), .inr (.long, own_l 3 f), .inr (.int, own_n 3 g)] 0 _
      refine mmW_steps (k := 5) (n := 950) (pc' := (if ifCond.holds .le (XT.cmpL (f 2) e.toInt64) = true then 37 else 28)) (L' := [.val (.ref 2), .val (.int (0 : Int32)), .val (.int (2 : Int32))]) (S' := []) (H' := [.inr (.int, [.int s0, .int s1, .int s2]), .inr (.int, [.int t0, .int t1, .int t2]), .inl (0, [.ref 0, .int e, .ref 1, .ref 3, .ref 4, .long x]), .inr (.long, own_l 3 f), .inr (.int, own_n 3 g)]) (sl' := 0) rfl ?_
      by_cases hc3 : e.toInt64 < (f 2)
      · refine mmW_f (XT.ll_le_f (hc3)) ?_
        refine mmW_steps (k := 4) (n := 946) (pc' := 34) (L' := [.val (.ref 2), .val (.int (0 : Int32)), .val (.int (2 : Int32))]) (S' := [.int (2 : Int32), .ref 4, .int (0 : Int32)]) (H' := [.inr (.int, [.int s0, .int s1, .int s2]), .inr (.int, [.int t0, .int t1, .int t2]), .inl (0, [.ref 0, .int e, .ref 1, .ref 3, .ref 4, .long x]), .inr (.long, own_l 3 f), .inr (.int, own_n 3 g)]) (sl' := 0) rfl ?_
        refine mmW_iaload (n := 945) rfl (rfl) (by decide) (by rw [mmNth_eq]; exact own_n_nth g (by decide)) ?_
        show mmW K_8 I_8 (some .int) (945) 35 [.val (.ref 2), .val (.int (0 : Int32)), .val (.int (2 : Int32))] [.int (g 2), .int (0 : Int32)] [.inr (.int, [.int s0, .int s1, .int s2]), .inr (.int, [.int t0, .int t1, .int t2]), .inl (0, [.ref 0, .int e, .ref 1, .ref 3, .ref 4, .long x]), .inr (.long, own_l 3 f), .inr (.int, own_n 3 g)] 0 _
        refine mmW_steps (k := 8) (n := 937) (pc' := 10) (L' := [.val (.ref 2), .val (.int ((0 : Int32) + (g 2))), .val (.int (3 : Int32))]) (S' := [.int (own_l 3 f).length.toInt32, .int (3 : Int32)]) (H' := [.inr (.int, [.int s0, .int s1, .int s2]), .inr (.int, [.int t0, .int t1, .int t2]), .inl (0, [.ref 0, .int e, .ref 1, .ref 3, .ref 4, .long x]), .inr (.long, own_l 3 f), .inr (.int, own_n 3 g)]) (sl' := 0) rfl ?_
        rw [own_len3 f]
        refine mmW_steps (k := 2) (n := 935) (pc' := 44) (L' := [.val (.ref 2), .val (.int ((0 : Int32) + (g 2))), .val (.int (3 : Int32))]) (S' := [.int ((0 : Int32) + (g 2))]) (H' := [.inr (.int, [.int s0, .int s1, .int s2]), .inr (.int, [.int t0, .int t1, .int t2]), .inl (0, [.ref 0, .int e, .ref 1, .ref 3, .ref 4, .long x]), .inr (.long, own_l 3 f), .inr (.int, own_n 3 g)]) (sl' := 0) rfl ?_
        exact mmW_ret (n := 934) (i := .ireturn) rfl rfl ⟨by simp only [own_bc, hc1, hc2, hc3, if_true, if_false], rfl, rfl⟩
      · refine mmW_t (XT.ll_le_t (hc3)) ?_
        refine mmW_steps (k := 6) (n := 944) (pc' := 10) (L' := [.val (.ref 2), .val (.int (0 : Int32)), .val (.int (3 : Int32))]) (S' := [.int (own_l 3 f).length.toInt32, .int (3 : Int32)]) (H' := [.inr (.int, [.int s0, .int s1, .int s2]), .inr (.int, [.int t0, .int t1, .int t2]), .inl (0, [.ref 0, .int e, .ref 1, .ref 3, .ref 4, .long x]), .inr (.long, own_l 3 f), .inr (.int, own_n 3 g)]) (sl' := 0) rfl ?_
        rw [own_len3 f]
        refine mmW_steps (k := 2) (n := 942) (pc' := 44) (L' := [.val (.ref 2), .val (.int (0 : Int32)), .val (.int (3 : Int32))]) (S' := [.int (0 : Int32)]) (H' := [.inr (.int, [.int s0, .int s1, .int s2]), .inr (.int, [.int t0, .int t1, .int t2]), .inl (0, [.ref 0, .int e, .ref 1, .ref 3, .ref 4, .long x]), .inr (.long, own_l 3 f), .inr (.int, own_n 3 g)]) (sl' := 0) rfl ?_
        exact mmW_ret (n := 941) (i := .ireturn) rfl rfl ⟨by simp only [own_bc, hc1, hc2, hc3, if_true, if_false], rfl, rfl⟩
set_option maxRecDepth 65536 in
set_option maxHeartbeats 40000000 in
theorem law_run (x0 : Int32) (x1 : Int32) (x2 : Int32) (x3 : Int32) (x4 : Int32) : ∃ H' ds, B_0 [.int x0, .int x1, .int x2, .int x3, .int x4] [] = some (some (.int 1), H', ds) ∧ H'.length ≤ 24 ∧ ds ≤ 128 := by
  refine mmLaw_of rfl ?_
  show mmW K_0 I_0 (some .boolean) 1000 0 [.val (.int x0), .val (.int x1), .val (.int x2), .val (.int x3), .val (.int x4), .unset, .unset, .unset, .unset, .unset, .unset, .unset, .unset, .unset, .unset, .unset, .unset, .unset, .unset, .unset] [] [] 0 _
  refine mmW_steps (k := 12) (n := 988) (pc' := 18) (L' := [.val (.int x0), .val (.int x1), .val (.int x2), .val (.int x3), .val (.int x4), .val (.int (x0 &&& (2147483647 : Int32))), .val (.int (x1 &&& (2147483647 : Int32))), .val (.int (x2 &&& (2147483647 : Int32))), .unset, .unset, .unset, .unset, .unset, .unset, .unset, .unset, .unset, .unset, .unset, .unset]) (S' := []) (H' := []) (sl' := 0) rfl ?_
  generalize (x0 &&& (2147483647 : Int32)) = s0
  generalize (x1 &&& (2147483647 : Int32)) = s1
  generalize (x2 &&& (2147483647 : Int32)) = s2
  refine mmW_steps (k := 5) (n := 983) (pc' := 26) (L' := [.val (.int x0), .val (.int x1), .val (.int x2), .val (.int x3), .val (.int x4), .val (.int s0), .val (.int s1), .val (.int s2), .unset, .unset, .unset, .unset, .unset, .unset, .unset, .unset, .unset, .unset, .unset, .unset]) (S' := [.int (if (1 : Int32) < (x3 &&& (2147483647 : Int32)) then (x3 &&& (2147483647 : Int32)) else (1 : Int32))]) (H' := []) (sl' := 0) rfl ?_
  generalize (if (1 : Int32) < (x3 &&& (2147483647 : Int32)) then (x3 &&& (2147483647 : Int32)) else (1 : Int32)) = e
  refine mmW_steps (k := 6) (n := 977) (pc' := 34) (L' := [.val (.int x0), .val (.int x1), .val (.int x2), .val (.int x3), .val (.int x4), .val (.int s0), .val (.int s1), .val (.int s2), .val (.int e), .unset, .unset, .unset, .unset, .unset, .unset, .unset, .unset, .unset, .unset, .unset]) (S' := [.int ((x4 &&& (3 : Int32)) % (3 : Int32))]) (H' := []) (sl' := 0) rfl ?_
  have hp0 := own_m x4
  generalize ((x4 &&& (3 : Int32)) % (3 : Int32)) = p0 at hp0 ⊢
  obtain ⟨P0, hp0, hP0⟩ := hp0
  refine mmW_steps (k := 8) (n := 969) (pc' := 44) (L' := [.val (.int x0), .val (.int x1), .val (.int x2), .val (.int x3), .val (.int x4), .val (.int s0), .val (.int s1), .val (.int s2), .val (.int e), .val (.int p0), .unset, .unset, .unset, .unset, .unset, .unset, .unset, .unset, .unset, .unset]) (S' := [.int (((XT.ushr x4 (2 : Int32)) &&& (3 : Int32)) % (3 : Int32))]) (H' := []) (sl' := 0) rfl ?_
  have hp1 := own_m (XT.ushr x4 (2 : Int32))
  generalize (((XT.ushr x4 (2 : Int32)) &&& (3 : Int32)) % (3 : Int32)) = p1 at hp1 ⊢
  obtain ⟨P1, hp1, hP1⟩ := hp1
  refine mmW_steps (k := 8) (n := 961) (pc' := 54) (L' := [.val (.int x0), .val (.int x1), .val (.int x2), .val (.int x3), .val (.int x4), .val (.int s0), .val (.int s1), .val (.int s2), .val (.int e), .val (.int p0), .val (.int p1), .unset, .unset, .unset, .unset, .unset, .unset, .unset, .unset, .unset]) (S' := [.int (((XT.ushr x4 (4 : Int32)) &&& (3 : Int32)) % (3 : Int32))]) (H' := []) (sl' := 0) rfl ?_
  have hp2 := own_m (XT.ushr x4 (4 : Int32))
  generalize (((XT.ushr x4 (4 : Int32)) &&& (3 : Int32)) % (3 : Int32)) = p2 at hp2 ⊢
  obtain ⟨P2, hp2, hP2⟩ := hp2
  refine mmW_steps (k := 7) (n := 954) (pc' := (if ifCond.holds .eq ((XT.ushr x4 (6 : Int32)) &&& (1 : Int32)) = true then 70 else 66)) (L' := [.val (.int x0), .val (.int x1), .val (.int x2), .val (.int x3), .val (.int x4), .val (.int s0), .val (.int s1), .val (.int s2), .val (.int e), .val (.int p0), .val (.int p1), .val (.int p2), .unset, .unset, .unset, .unset, .unset, .unset, .unset, .unset]) (S' := []) (H' := []) (sl' := 0) rfl ?_
  by_cases hm : ((XT.ushr x4 (6 : Int32)) &&& (1 : Int32)) = 0
  · refine mmW_t (XT.i0_eq_t (hm)) ?_
    refine mmW_steps (k := 12) (n := 942) (pc' := (if ifCond.holds .eq ((XT.ushr x4 (8 : Int32)) &&& (1 : Int32)) = true then 113 else 109)) (L' := [.val (.int x0), .val (.int x1), .val (.int x2), .val (.int x3), .val (.int x4), .val (.int s0), .val (.int s1), .val (.int s2), .val (.int e), .val (.int p0), .val (.int p1), .val (.int p2), .val (.int (0 : Int32)), .val (.int p0), .unset, .unset, .unset, .unset, .unset, .unset]) (S' := []) (H' := []) (sl' := 0) rfl ?_
    by_cases hq : ((XT.ushr x4 (8 : Int32)) &&& (1 : Int32)) = 0
    · refine mmW_t (XT.i0_eq_t (hq)) ?_
      refine mmW_steps (k := 44) (n := 898) (pc' := 185) (L' := [.val (.int x0), .val (.int x1), .val (.int x2), .val (.int x3), .val (.int x4), .val (.int s0), .val (.int s1), .val (.int s2), .val (.int e), .val (.int p0), .val (.int p1), .val (.int p2), .val (.int (0 : Int32)), .val (.int p0), .val (.int (0 : Int32)), .val (.int (-1 : Int32)), .val (.ref 0), .val (.ref 1), .val (.ref 2), .unset]) (S' := []) (H' := [.inr (.int, [.int s0, .int s1, .int s2]), .inr (.int, [.int p0, .int p1, .int (-1 : Int32)]), .inl (0, [.ref 0, .int e, .ref 1, .ref 3, .ref 4, .long (0 : Int64)]), .inr (.long, [.long (0 : Int64), .long (0 : Int64), .long (0 : Int64)]), .inr (.int, [.int (0 : Int32), .int (0 : Int32), .int (0 : Int32)])]) (sl' := 18) rfl ?_
      show mmW K_0 I_0 (some .boolean) 898 185 [.val (.int x0), .val (.int x1), .val (.int x2), .val (.int x3), .val (.int x4), .val (.int s0), .val (.int s1), .val (.int s2), .val (.int e), .val (.int p0), .val (.int p1), .val (.int p2), .val (.int (0 : Int32)), .val (.int p0), .val (.int (0 : Int32)), .val (.int (-1 : Int32)), .val (.ref 0), .val (.ref 1), .val (.ref 2), .unset] [] [.inr (.int, [.int s0, .int s1, .int s2]), .inr (.int, [.int p0, .int p1, .int (-1 : Int32)]), .inl (0, [.ref 0, .int e, .ref 1, .ref 3, .ref 4, .long (0 : Int64)]), .inr (.long, own_l 3 (fun _ => 0)), .inr (.int, own_n 3 (fun _ => 0))] 18 _
      refine mmW_steps (k := 4) (n := 894) (pc' := 191) (L' := [.val (.int x0), .val (.int x1), .val (.int x2), .val (.int x3), .val (.int x4), .val (.int s0), .val (.int s1), .val (.int s2), .val (.int e), .val (.int p0), .val (.int p1), .val (.int p2), .val (.int (0 : Int32)), .val (.int p0), .val (.int (0 : Int32)), .val (.int (-1 : Int32)), .val (.ref 0), .val (.ref 1), .val (.ref 2), .unset]) (S' := [.int p0, .int (-1 : Int32), .int (0 : Int32), .ref 2]) (H' := [.inr (.int, [.int s0, .int s1, .int s2]), .inr (.int, [.int p0, .int p1, .int (-1 : Int32)]), .inl (0, [.ref 0, .int e, .ref 1, .ref 3, .ref 4, .long (0 : Int64)]), .inr (.long, own_l 3 (fun _ => 0)), .inr (.int, own_n 3 (fun _ => 0))]) (sl' := 18) rfl ?_
      obtain ⟨f1, g1, y1, hB1, hf1, hg1⟩ := own_mv0 (fun _ => 0) (fun _ => 0) 0 s0 s1 s2 p0 p1 (-1 : Int32) e p0 P0 hp0 hP0
      refine mmW_callV (n := 893) rfl rfl rfl (rfl) (Nat.le_of_ble_eq_true rfl) (hB1) ?_
      show mmW K_0 I_0 (some .boolean) (893) 194 [.val (.int x0), .val (.int x1), .val (.int x2), .val (.int x3), .val (.int x4), .val (.int s0), .val (.int s1), .val (.int s2), .val (.int e), .val (.int p0), .val (.int p1), .val (.int p2), .val (.int (0 : Int32)), .val (.int p0), .val (.int (0 : Int32)), .val (.int (-1 : Int32)), .val (.ref 0), .val (.ref 1), .val (.ref 2), .unset] [.long (0 : Int64)] [.inr (.int, [.int s0, .int s1, .int s2]), .inr (.int, [.int p0, .int p1, .int (-1 : Int32)]), .inl (0, [.ref 0, .int e, .ref 1, .ref 3, .ref 4, .long y1]), .inr (.long, own_l 3 f1), .inr (.int, own_n 3 g1)] 18 _
      refine mmW_steps (k := 5) (n := 888) (pc' := 201) (L' := [.val (.int x0), .val (.int x1), .val (.int x2), .val (.int x3), .val (.int x4), .val (.int s0), .val (.int s1), .val (.int s2), .val (.int e), .val (.int p0), .val (.int p1), .val (.int p2), .val (.int (0 : Int32)), .val (.int p0), .val (.int (0 : Int32)), .val (.int (-1 : Int32)), .val (.ref 0), .val (.ref 1), .val (.ref 2), .unset]) (S' := [.int p1, .int (-1 : Int32), .int (1 : Int32), .ref 2]) (H' := [.inr (.int, [.int s0, .int s1, .int s2]), .inr (.int, [.int p0, .int p1, .int (-1 : Int32)]), .inl (0, [.ref 0, .int e, .ref 1, .ref 3, .ref 4, .long y1]), .inr (.long, own_l 3 f1), .inr (.int, own_n 3 g1)]) (sl' := 18) rfl ?_
      obtain ⟨f2, g2, y2, hB2, hf2, hg2⟩ := own_mv1 f1 g1 y1 s0 s1 s2 p0 p1 (-1 : Int32) e p1 P1 hp1 hP1
      refine mmW_callV (n := 887) rfl rfl rfl (rfl) (Nat.le_of_ble_eq_true rfl) (hB2) ?_
      show mmW K_0 I_0 (some .boolean) (887) 204 [.val (.int x0), .val (.int x1), .val (.int x2), .val (.int x3), .val (.int x4), .val (.int s0), .val (.int s1), .val (.int s2), .val (.int e), .val (.int p0), .val (.int p1), .val (.int p2), .val (.int (0 : Int32)), .val (.int p0), .val (.int (0 : Int32)), .val (.int (-1 : Int32)), .val (.ref 0), .val (.ref 1), .val (.ref 2), .unset] [.long (0 : Int64)] [.inr (.int, [.int s0, .int s1, .int s2]), .inr (.int, [.int p0, .int p1, .int (-1 : Int32)]), .inl (0, [.ref 0, .int e, .ref 1, .ref 3, .ref 4, .long y2]), .inr (.long, own_l 3 f2), .inr (.int, own_n 3 g2)] 18 _
      refine mmW_steps (k := 13) (n := 874) (pc' := 252) (L' := [.val (.int x0), .val (.int x1), .val (.int x2), .val (.int x3), .val (.int x4), .val (.int s0), .val (.int s1), .val (.int s2), .val (.int e), .val (.int p0), .val (.int p1), .val (.int p2), .val (.int (0 : Int32)), .val (.int p0), .val (.int (0 : Int32)), .val (.int (-1 : Int32)), .val (.ref 0), .val (.ref 1), .val (.ref 2), .unset]) (S' := [.int s2, .int s1, .int s0, .int (-1 : Int32), .int p1, .int p0, .int e, .int p0]) (H' := [.inr (.int, [.int s0, .int s1, .int s2]), .inr (.int, [.int p0, .int p1, .int (-1 : Int32)]), .inl (0, [.ref 0, .int e, .ref 1, .ref 3, .ref 4, .long y2]), .inr (.long, own_l 3 f2), .inr (.int, own_n 3 g2)]) (sl' := 18) rfl ?_
      refine mmW_callS (n := 873) rfl rfl rfl (rfl) (Nat.le_of_ble_eq_true rfl) (own_brs f2 g2 y2 s0 s1 s2 p0 p1 (-1 : Int32) e p0 p0 p1 (-1 : Int32)) ?_
      show mmW K_0 I_0 (some .boolean) (873) 255 [.val (.int x0), .val (.int x1), .val (.int x2), .val (.int x3), .val (.int x4), .val (.int s0), .val (.int s1), .val (.int s2), .val (.int e), .val (.int p0), .val (.int p1), .val (.int p2), .val (.int (0 : Int32)), .val (.int p0), .val (.int (0 : Int32)), .val (.int (-1 : Int32)), .val (.ref 0), .val (.ref 1), .val (.ref 2), .unset] [.int (own_br p0 e p0 p1 (-1 : Int32) s0 s1 s2)] [.inr (.int, [.int s0, .int s1, .int s2]), .inr (.int, [.int p0, .int p1, .int (-1 : Int32)]), .inl (0, [.ref 0, .int e, .ref 1, .ref 3, .ref 4, .long y2]), .inr (.long, own_l 3 f2), .inr (.int, own_n 3 g2)] 18 _
      refine mmW_steps (k := 8) (n := 865) (pc' := 271) (L' := [.val (.int x0), .val (.int x1), .val (.int x2), .val (.int x3), .val (.int x4), .val (.int s0), .val (.int s1), .val (.int s2), .val (.int e), .val (.int p0), .val (.int p1), .val (.int p2), .val (.int (0 : Int32)), .val (.int p0), .val (.int (0 : Int32)), .val (.int (-1 : Int32)), .val (.ref 0), .val (.ref 1), .val (.ref 2), .unset]) (S' := [.int s2, .int s1, .int s0, .int (-1 : Int32), .int p1, .int p0, .int e, .int p1, .int (own_br p0 e p0 p1 (-1 : Int32) s0 s1 s2)]) (H' := [.inr (.int, [.int s0, .int s1, .int s2]), .inr (.int, [.int p0, .int p1, .int (-1 : Int32)]), .inl (0, [.ref 0, .int e, .ref 1, .ref 3, .ref 4, .long y2]), .inr (.long, own_l 3 f2), .inr (.int, own_n 3 g2)]) (sl' := 18) rfl ?_
      refine mmW_callS (n := 864) rfl rfl rfl (rfl) (Nat.le_of_ble_eq_true rfl) (own_brs f2 g2 y2 s0 s1 s2 p0 p1 (-1 : Int32) e p1 p0 p1 (-1 : Int32)) ?_
      show mmW K_0 I_0 (some .boolean) (864) 274 [.val (.int x0), .val (.int x1), .val (.int x2), .val (.int x3), .val (.int x4), .val (.int s0), .val (.int s1), .val (.int s2), .val (.int e), .val (.int p0), .val (.int p1), .val (.int p2), .val (.int (0 : Int32)), .val (.int p0), .val (.int (0 : Int32)), .val (.int (-1 : Int32)), .val (.ref 0), .val (.ref 1), .val (.ref 2), .unset] [.int (own_br p1 e p0 p1 (-1 : Int32) s0 s1 s2), .int (own_br p0 e p0 p1 (-1 : Int32) s0 s1 s2)] [.inr (.int, [.int s0, .int s1, .int s2]), .inr (.int, [.int p0, .int p1, .int (-1 : Int32)]), .inl (0, [.ref 0, .int e, .ref 1, .ref 3, .ref 4, .long y2]), .inr (.long, own_l 3 f2), .inr (.int, own_n 3 g2)] 18 _
      refine mmW_steps (k := 9) (n := 855) (pc' := 291) (L' := [.val (.int x0), .val (.int x1), .val (.int x2), .val (.int x3), .val (.int x4), .val (.int s0), .val (.int s1), .val (.int s2), .val (.int e), .val (.int p0), .val (.int p1), .val (.int p2), .val (.int (0 : Int32)), .val (.int p0), .val (.int (0 : Int32)), .val (.int (-1 : Int32)), .val (.ref 0), .val (.ref 1), .val (.ref 2), .unset]) (S' := [.int s2, .int s1, .int s0, .int (-1 : Int32), .int p1, .int p0, .int e, .int (-1 : Int32), .int ((own_br p0 e p0 p1 (-1 : Int32) s0 s1 s2) + (own_br p1 e p0 p1 (-1 : Int32) s0 s1 s2))]) (H' := [.inr (.int, [.int s0, .int s1, .int s2]), .inr (.int, [.int p0, .int p1, .int (-1 : Int32)]), .inl (0, [.ref 0, .int e, .ref 1, .ref 3, .ref 4, .long y2]), .inr (.long, own_l 3 f2), .inr (.int, own_n 3 g2)]) (sl' := 18) rfl ?_
      refine mmW_callS (n := 854) rfl rfl rfl (rfl) (Nat.le_of_ble_eq_true rfl) (own_brs f2 g2 y2 s0 s1 s2 p0 p1 (-1 : Int32) e (-1 : Int32) p0 p1 (-1 : Int32)) ?_
      show mmW K_0 I_0 (some .boolean) (854) 294 [.val (.int x0), .val (.int x1), .val (.int x2), .val (.int x3), .val (.int x4), .val (.int s0), .val (.int s1), .val (.int s2), .val (.int e), .val (.int p0), .val (.int p1), .val (.int p2), .val (.int (0 : Int32)), .val (.int p0), .val (.int (0 : Int32)), .val (.int (-1 : Int32)), .val (.ref 0), .val (.ref 1), .val (.ref 2), .unset] [.int (own_br (-1 : Int32) e p0 p1 (-1 : Int32) s0 s1 s2), .int ((own_br p0 e p0 p1 (-1 : Int32) s0 s1 s2) + (own_br p1 e p0 p1 (-1 : Int32) s0 s1 s2))] [.inr (.int, [.int s0, .int s1, .int s2]), .inr (.int, [.int p0, .int p1, .int (-1 : Int32)]), .inl (0, [.ref 0, .int e, .ref 1, .ref 3, .ref 4, .long y2]), .inr (.long, own_l 3 f2), .inr (.int, own_n 3 g2)] 18 _
      refine mmW_steps (k := 3) (n := 851) (pc' := 299) (L' := [.val (.int x0), .val (.int x1), .val (.int x2), .val (.int x3), .val (.int x4), .val (.int s0), .val (.int s1), .val (.int s2), .val (.int e), .val (.int p0), .val (.int p1), .val (.int p2), .val (.int (0 : Int32)), .val (.int p0), .val (.int (0 : Int32)), .val (.int (-1 : Int32)), .val (.ref 0), .val (.ref 1), .val (.ref 2), .val (.int (((own_br p0 e p0 p1 (-1 : Int32) s0 s1 s2) + (own_br p1 e p0 p1 (-1 : Int32) s0 s1 s2)) + (own_br (-1 : Int32) e p0 p1 (-1 : Int32) s0 s1 s2)))]) (S' := [.ref 2]) (H' := [.inr (.int, [.int s0, .int s1, .int s2]), .inr (.int, [.int p0, .int p1, .int (-1 : Int32)]), .inl (0, [.ref 0, .int e, .ref 1, .ref 3, .ref 4, .long y2]), .inr (.long, own_l 3 f2), .inr (.int, own_n 3 g2)]) (sl' := 18) rfl ?_
      refine mmW_callV (n := 850) rfl rfl rfl (rfl) (Nat.le_of_ble_eq_true rfl) (own_bcs f2 g2 y2 s0 s1 s2 p0 p1 (-1 : Int32) e) ?_
      show mmW K_0 I_0 (some .boolean) (850) 302 [.val (.int x0), .val (.int x1), .val (.int x2), .val (.int x3), .val (.int x4), .val (.int s0), .val (.int s1), .val (.int s2), .val (.int e), .val (.int p0), .val (.int p1), .val (.int p2), .val (.int (0 : Int32)), .val (.int p0), .val (.int (0 : Int32)), .val (.int (-1 : Int32)), .val (.ref 0), .val (.ref 1), .val (.ref 2), .val (.int (((own_br p0 e p0 p1 (-1 : Int32) s0 s1 s2) + (own_br p1 e p0 p1 (-1 : Int32) s0 s1 s2)) + (own_br (-1 : Int32) e p0 p1 (-1 : Int32) s0 s1 s2)))] [.int (own_bc e f2 g2)] [.inr (.int, [.int s0, .int s1, .int s2]), .inr (.int, [.int p0, .int p1, .int (-1 : Int32)]), .inl (0, [.ref 0, .int e, .ref 1, .ref 3, .ref 4, .long y2]), .inr (.long, own_l 3 f2), .inr (.int, own_n 3 g2)] 18 _
      refine mmW_steps (k := 2) (n := 848) (pc' := (if if_icmp.holds .ne (own_bc e f2 g2) (((own_br p0 e p0 p1 (-1 : Int32) s0 s1 s2) + (own_br p1 e p0 p1 (-1 : Int32) s0 s1 s2)) + (own_br (-1 : Int32) e p0 p1 (-1 : Int32) s0 s1 s2)) = true then 311 else 307)) (L' := [.val (.int x0), .val (.int x1), .val (.int x2), .val (.int x3), .val (.int x4), .val (.int s0), .val (.int s1), .val (.int s2), .val (.int e), .val (.int p0), .val (.int p1), .val (.int p2), .val (.int (0 : Int32)), .val (.int p0), .val (.int (0 : Int32)), .val (.int (-1 : Int32)), .val (.ref 0), .val (.ref 1), .val (.ref 2), .val (.int (((own_br p0 e p0 p1 (-1 : Int32) s0 s1 s2) + (own_br p1 e p0 p1 (-1 : Int32) s0 s1 s2)) + (own_br (-1 : Int32) e p0 p1 (-1 : Int32) s0 s1 s2)))]) (S' := []) (H' := [.inr (.int, [.int s0, .int s1, .int s2]), .inr (.int, [.int p0, .int p1, .int (-1 : Int32)]), .inl (0, [.ref 0, .int e, .ref 1, .ref 3, .ref 4, .long y2]), .inr (.long, own_l 3 f2), .inr (.int, own_n 3 g2)]) (sl' := 18) rfl ?_
      refine mmW_f (XT.ii_ne_f (own_fin2 e p0 p1 s0 s1 s2 P0 P1 hp0 hp1 hP0 hP1 f2 g2 (fun j => by simp only [hf2, hf1]; grind) (fun j => by simp only [hg2, hg1]; grind))) ?_
      refine mmW_steps (k := 2) (n := 846) (pc' := 312) (L' := [.val (.int x0), .val (.int x1), .val (.int x2), .val (.int x3), .val (.int x4), .val (.int s0), .val (.int s1), .val (.int s2), .val (.int e), .val (.int p0), .val (.int p1), .val (.int p2), .val (.int (0 : Int32)), .val (.int p0), .val (.int (0 : Int32)), .val (.int (-1 : Int32)), .val (.ref 0), .val (.ref 1), .val (.ref 2), .val (.int (((own_br p0 e p0 p1 (-1 : Int32) s0 s1 s2) + (own_br p1 e p0 p1 (-1 : Int32) s0 s1 s2)) + (own_br (-1 : Int32) e p0 p1 (-1 : Int32) s0 s1 s2)))]) (S' := [.int (1 : Int32)]) (H' := [.inr (.int, [.int s0, .int s1, .int s2]), .inr (.int, [.int p0, .int p1, .int (-1 : Int32)]), .inl (0, [.ref 0, .int e, .ref 1, .ref 3, .ref 4, .long y2]), .inr (.long, own_l 3 f2), .inr (.int, own_n 3 g2)]) (sl' := 18) rfl ?_
      exact mmW_ret (n := 845) (i := .ireturn) rfl rfl ⟨rfl, Nat.le_of_ble_eq_true rfl, Nat.le_of_ble_eq_true rfl⟩
    · refine mmW_f (XT.i0_eq_f (hq)) ?_
      refine mmW_steps (k := 46) (n := 896) (pc' := 185) (L' := [.val (.int x0), .val (.int x1), .val (.int x2), .val (.int x3), .val (.int x4), .val (.int s0), .val (.int s1), .val (.int s2), .val (.int e), .val (.int p0), .val (.int p1), .val (.int p2), .val (.int (0 : Int32)), .val (.int p0), .val (.int (1 : Int32)), .val (.int p2), .val (.ref 0), .val (.ref 1), .val (.ref 2), .unset]) (S' := []) (H' := [.inr (.int, [.int s0, .int s1, .int s2]), .inr (.int, [.int p0, .int p1, .int p2]), .inl (0, [.ref 0, .int e, .ref 1, .ref 3, .ref 4, .long (0 : Int64)]), .inr (.long, [.long (0 : Int64), .long (0 : Int64), .long (0 : Int64)]), .inr (.int, [.int (0 : Int32), .int (0 : Int32), .int (0 : Int32)])]) (sl' := 18) rfl ?_
      show mmW K_0 I_0 (some .boolean) 896 185 [.val (.int x0), .val (.int x1), .val (.int x2), .val (.int x3), .val (.int x4), .val (.int s0), .val (.int s1), .val (.int s2), .val (.int e), .val (.int p0), .val (.int p1), .val (.int p2), .val (.int (0 : Int32)), .val (.int p0), .val (.int (1 : Int32)), .val (.int p2), .val (.ref 0), .val (.ref 1), .val (.ref 2), .unset] [] [.inr (.int, [.int s0, .int s1, .int s2]), .inr (.int, [.int p0, .int p1, .int p2]), .inl (0, [.ref 0, .int e, .ref 1, .ref 3, .ref 4, .long (0 : Int64)]), .inr (.long, own_l 3 (fun _ => 0)), .inr (.int, own_n 3 (fun _ => 0))] 18 _
      refine mmW_steps (k := 4) (n := 892) (pc' := 191) (L' := [.val (.int x0), .val (.int x1), .val (.int x2), .val (.int x3), .val (.int x4), .val (.int s0), .val (.int s1), .val (.int s2), .val (.int e), .val (.int p0), .val (.int p1), .val (.int p2), .val (.int (0 : Int32)), .val (.int p0), .val (.int (1 : Int32)), .val (.int p2), .val (.ref 0), .val (.ref 1), .val (.ref 2), .unset]) (S' := [.int p0, .int (-1 : Int32), .int (0 : Int32), .ref 2]) (H' := [.inr (.int, [.int s0, .int s1, .int s2]), .inr (.int, [.int p0, .int p1, .int p2]), .inl (0, [.ref 0, .int e, .ref 1, .ref 3, .ref 4, .long (0 : Int64)]), .inr (.long, own_l 3 (fun _ => 0)), .inr (.int, own_n 3 (fun _ => 0))]) (sl' := 18) rfl ?_
      obtain ⟨f1, g1, y1, hB1, hf1, hg1⟩ := own_mv0 (fun _ => 0) (fun _ => 0) 0 s0 s1 s2 p0 p1 p2 e p0 P0 hp0 hP0
      refine mmW_callV (n := 891) rfl rfl rfl (rfl) (Nat.le_of_ble_eq_true rfl) (hB1) ?_
      show mmW K_0 I_0 (some .boolean) (891) 194 [.val (.int x0), .val (.int x1), .val (.int x2), .val (.int x3), .val (.int x4), .val (.int s0), .val (.int s1), .val (.int s2), .val (.int e), .val (.int p0), .val (.int p1), .val (.int p2), .val (.int (0 : Int32)), .val (.int p0), .val (.int (1 : Int32)), .val (.int p2), .val (.ref 0), .val (.ref 1), .val (.ref 2), .unset] [.long (0 : Int64)] [.inr (.int, [.int s0, .int s1, .int s2]), .inr (.int, [.int p0, .int p1, .int p2]), .inl (0, [.ref 0, .int e, .ref 1, .ref 3, .ref 4, .long y1]), .inr (.long, own_l 3 f1), .inr (.int, own_n 3 g1)] 18 _
      refine mmW_steps (k := 5) (n := 886) (pc' := 201) (L' := [.val (.int x0), .val (.int x1), .val (.int x2), .val (.int x3), .val (.int x4), .val (.int s0), .val (.int s1), .val (.int s2), .val (.int e), .val (.int p0), .val (.int p1), .val (.int p2), .val (.int (0 : Int32)), .val (.int p0), .val (.int (1 : Int32)), .val (.int p2), .val (.ref 0), .val (.ref 1), .val (.ref 2), .unset]) (S' := [.int p1, .int (-1 : Int32), .int (1 : Int32), .ref 2]) (H' := [.inr (.int, [.int s0, .int s1, .int s2]), .inr (.int, [.int p0, .int p1, .int p2]), .inl (0, [.ref 0, .int e, .ref 1, .ref 3, .ref 4, .long y1]), .inr (.long, own_l 3 f1), .inr (.int, own_n 3 g1)]) (sl' := 18) rfl ?_
      obtain ⟨f2, g2, y2, hB2, hf2, hg2⟩ := own_mv1 f1 g1 y1 s0 s1 s2 p0 p1 p2 e p1 P1 hp1 hP1
      refine mmW_callV (n := 885) rfl rfl rfl (rfl) (Nat.le_of_ble_eq_true rfl) (hB2) ?_
      show mmW K_0 I_0 (some .boolean) (885) 204 [.val (.int x0), .val (.int x1), .val (.int x2), .val (.int x3), .val (.int x4), .val (.int s0), .val (.int s1), .val (.int s2), .val (.int e), .val (.int p0), .val (.int p1), .val (.int p2), .val (.int (0 : Int32)), .val (.int p0), .val (.int (1 : Int32)), .val (.int p2), .val (.ref 0), .val (.ref 1), .val (.ref 2), .unset] [.long (0 : Int64)] [.inr (.int, [.int s0, .int s1, .int s2]), .inr (.int, [.int p0, .int p1, .int p2]), .inl (0, [.ref 0, .int e, .ref 1, .ref 3, .ref 4, .long y2]), .inr (.long, own_l 3 f2), .inr (.int, own_n 3 g2)] 18 _
      refine mmW_steps (k := 7) (n := 878) (pc' := 216) (L' := [.val (.int x0), .val (.int x1), .val (.int x2), .val (.int x3), .val (.int x4), .val (.int s0), .val (.int s1), .val (.int s2), .val (.int e), .val (.int p0), .val (.int p1), .val (.int p2), .val (.int (0 : Int32)), .val (.int p0), .val (.int (1 : Int32)), .val (.int p2), .val (.ref 0), .val (.ref 1), .val (.ref 2), .unset]) (S' := [.int p2, .int (-1 : Int32), .int (2 : Int32), .ref 2]) (H' := [.inr (.int, [.int s0, .int s1, .int s2]), .inr (.int, [.int p0, .int p1, .int p2]), .inl (0, [.ref 0, .int e, .ref 1, .ref 3, .ref 4, .long y2]), .inr (.long, own_l 3 f2), .inr (.int, own_n 3 g2)]) (sl' := 18) rfl ?_
      obtain ⟨f3, g3, y3, hB3, hf3, hg3⟩ := own_mv2 f2 g2 y2 s0 s1 s2 p0 p1 p2 e p2 P2 hp2 hP2
      refine mmW_callV (n := 877) rfl rfl rfl (rfl) (Nat.le_of_ble_eq_true rfl) (hB3) ?_
      show mmW K_0 I_0 (some .boolean) (877) 219 [.val (.int x0), .val (.int x1), .val (.int x2), .val (.int x3), .val (.int x4), .val (.int s0), .val (.int s1), .val (.int s2), .val (.int e), .val (.int p0), .val (.int p1), .val (.int p2), .val (.int (0 : Int32)), .val (.int p0), .val (.int (1 : Int32)), .val (.int p2), .val (.ref 0), .val (.ref 1), .val (.ref 2), .unset] [.long (0 : Int64)] [.inr (.int, [.int s0, .int s1, .int s2]), .inr (.int, [.int p0, .int p1, .int p2]), .inl (0, [.ref 0, .int e, .ref 1, .ref 3, .ref 4, .long y3]), .inr (.long, own_l 3 f3), .inr (.int, own_n 3 g3)] 18 _
      refine mmW_steps (k := 11) (n := 866) (pc' := 252) (L' := [.val (.int x0), .val (.int x1), .val (.int x2), .val (.int x3), .val (.int x4), .val (.int s0), .val (.int s1), .val (.int s2), .val (.int e), .val (.int p0), .val (.int p1), .val (.int p2), .val (.int (0 : Int32)), .val (.int p0), .val (.int (1 : Int32)), .val (.int p2), .val (.ref 0), .val (.ref 1), .val (.ref 2), .unset]) (S' := [.int s2, .int s1, .int s0, .int p2, .int p1, .int p0, .int e, .int p0]) (H' := [.inr (.int, [.int s0, .int s1, .int s2]), .inr (.int, [.int p0, .int p1, .int p2]), .inl (0, [.ref 0, .int e, .ref 1, .ref 3, .ref 4, .long y3]), .inr (.long, own_l 3 f3), .inr (.int, own_n 3 g3)]) (sl' := 18) rfl ?_
      refine mmW_callS (n := 865) rfl rfl rfl (rfl) (Nat.le_of_ble_eq_true rfl) (own_brs f3 g3 y3 s0 s1 s2 p0 p1 p2 e p0 p0 p1 p2) ?_
      show mmW K_0 I_0 (some .boolean) (865) 255 [.val (.int x0), .val (.int x1), .val (.int x2), .val (.int x3), .val (.int x4), .val (.int s0), .val (.int s1), .val (.int s2), .val (.int e), .val (.int p0), .val (.int p1), .val (.int p2), .val (.int (0 : Int32)), .val (.int p0), .val (.int (1 : Int32)), .val (.int p2), .val (.ref 0), .val (.ref 1), .val (.ref 2), .unset] [.int (own_br p0 e p0 p1 p2 s0 s1 s2)] [.inr (.int, [.int s0, .int s1, .int s2]), .inr (.int, [.int p0, .int p1, .int p2]), .inl (0, [.ref 0, .int e, .ref 1, .ref 3, .ref 4, .long y3]), .inr (.long, own_l 3 f3), .inr (.int, own_n 3 g3)] 18 _
      refine mmW_steps (k := 8) (n := 857) (pc' := 271) (L' := [.val (.int x0), .val (.int x1), .val (.int x2), .val (.int x3), .val (.int x4), .val (.int s0), .val (.int s1), .val (.int s2), .val (.int e), .val (.int p0), .val (.int p1), .val (.int p2), .val (.int (0 : Int32)), .val (.int p0), .val (.int (1 : Int32)), .val (.int p2), .val (.ref 0), .val (.ref 1), .val (.ref 2), .unset]) (S' := [.int s2, .int s1, .int s0, .int p2, .int p1, .int p0, .int e, .int p1, .int (own_br p0 e p0 p1 p2 s0 s1 s2)]) (H' := [.inr (.int, [.int s0, .int s1, .int s2]), .inr (.int, [.int p0, .int p1, .int p2]), .inl (0, [.ref 0, .int e, .ref 1, .ref 3, .ref 4, .long y3]), .inr (.long, own_l 3 f3), .inr (.int, own_n 3 g3)]) (sl' := 18) rfl ?_
      refine mmW_callS (n := 856) rfl rfl rfl (rfl) (Nat.le_of_ble_eq_true rfl) (own_brs f3 g3 y3 s0 s1 s2 p0 p1 p2 e p1 p0 p1 p2) ?_
      show mmW K_0 I_0 (some .boolean) (856) 274 [.val (.int x0), .val (.int x1), .val (.int x2), .val (.int x3), .val (.int x4), .val (.int s0), .val (.int s1), .val (.int s2), .val (.int e), .val (.int p0), .val (.int p1), .val (.int p2), .val (.int (0 : Int32)), .val (.int p0), .val (.int (1 : Int32)), .val (.int p2), .val (.ref 0), .val (.ref 1), .val (.ref 2), .unset] [.int (own_br p1 e p0 p1 p2 s0 s1 s2), .int (own_br p0 e p0 p1 p2 s0 s1 s2)] [.inr (.int, [.int s0, .int s1, .int s2]), .inr (.int, [.int p0, .int p1, .int p2]), .inl (0, [.ref 0, .int e, .ref 1, .ref 3, .ref 4, .long y3]), .inr (.long, own_l 3 f3), .inr (.int, own_n 3 g3)] 18 _
      refine mmW_steps (k := 9) (n := 847) (pc' := 291) (L' := [.val (.int x0), .val (.int x1), .val (.int x2), .val (.int x3), .val (.int x4), .val (.int s0), .val (.int s1), .val (.int s2), .val (.int e), .val (.int p0), .val (.int p1), .val (.int p2), .val (.int (0 : Int32)), .val (.int p0), .val (.int (1 : Int32)), .val (.int p2), .val (.ref 0), .val (.ref 1), .val (.ref 2), .unset]) (S' := [.int s2, .int s1, .int s0, .int p2, .int p1, .int p0, .int e, .int p2, .int ((own_br p0 e p0 p1 p2 s0 s1 s2) + (own_br p1 e p0 p1 p2 s0 s1 s2))]) (H' := [.inr (.int, [.int s0, .int s1, .int s2]), .inr (.int, [.int p0, .int p1, .int p2]), .inl (0, [.ref 0, .int e, .ref 1, .ref 3, .ref 4, .long y3]), .inr (.long, own_l 3 f3), .inr (.int, own_n 3 g3)]) (sl' := 18) rfl ?_
      refine mmW_callS (n := 846) rfl rfl rfl (rfl) (Nat.le_of_ble_eq_true rfl) (own_brs f3 g3 y3 s0 s1 s2 p0 p1 p2 e p2 p0 p1 p2) ?_
      show mmW K_0 I_0 (some .boolean) (846) 294 [.val (.int x0), .val (.int x1), .val (.int x2), .val (.int x3), .val (.int x4), .val (.int s0), .val (.int s1), .val (.int s2), .val (.int e), .val (.int p0), .val (.int p1), .val (.int p2), .val (.int (0 : Int32)), .val (.int p0), .val (.int (1 : Int32)), .val (.int p2), .val (.ref 0), .val (.ref 1), .val (.ref 2), .unset] [.int (own_br p2 e p0 p1 p2 s0 s1 s2), .int ((own_br p0 e p0 p1 p2 s0 s1 s2) + (own_br p1 e p0 p1 p2 s0 s1 s2))] [.inr (.int, [.int s0, .int s1, .int s2]), .inr (.int, [.int p0, .int p1, .int p2]), .inl (0, [.ref 0, .int e, .ref 1, .ref 3, .ref 4, .long y3]), .inr (.long, own_l 3 f3), .inr (.int, own_n 3 g3)] 18 _
      refine mmW_steps (k := 3) (n := 843) (pc' := 299) (L' := [.val (.int x0), .val (.int x1), .val (.int x2), .val (.int x3), .val (.int x4), .val (.int s0), .val (.int s1), .val (.int s2), .val (.int e), .val (.int p0), .val (.int p1), .val (.int p2), .val (.int (0 : Int32)), .val (.int p0), .val (.int (1 : Int32)), .val (.int p2), .val (.ref 0), .val (.ref 1), .val (.ref 2), .val (.int (((own_br p0 e p0 p1 p2 s0 s1 s2) + (own_br p1 e p0 p1 p2 s0 s1 s2)) + (own_br p2 e p0 p1 p2 s0 s1 s2)))]) (S' := [.ref 2]) (H' := [.inr (.int, [.int s0, .int s1, .int s2]), .inr (.int, [.int p0, .int p1, .int p2]), .inl (0, [.ref 0, .int e, .ref 1, .ref 3, .ref 4, .long y3]), .inr (.long, own_l 3 f3), .inr (.int, own_n 3 g3)]) (sl' := 18) rfl ?_
      refine mmW_callV (n := 842) rfl rfl rfl (rfl) (Nat.le_of_ble_eq_true rfl) (own_bcs f3 g3 y3 s0 s1 s2 p0 p1 p2 e) ?_
      show mmW K_0 I_0 (some .boolean) (842) 302 [.val (.int x0), .val (.int x1), .val (.int x2), .val (.int x3), .val (.int x4), .val (.int s0), .val (.int s1), .val (.int s2), .val (.int e), .val (.int p0), .val (.int p1), .val (.int p2), .val (.int (0 : Int32)), .val (.int p0), .val (.int (1 : Int32)), .val (.int p2), .val (.ref 0), .val (.ref 1), .val (.ref 2), .val (.int (((own_br p0 e p0 p1 p2 s0 s1 s2) + (own_br p1 e p0 p1 p2 s0 s1 s2)) + (own_br p2 e p0 p1 p2 s0 s1 s2)))] [.int (own_bc e f3 g3)] [.inr (.int, [.int s0, .int s1, .int s2]), .inr (.int, [.int p0, .int p1, .int p2]), .inl (0, [.ref 0, .int e, .ref 1, .ref 3, .ref 4, .long y3]), .inr (.long, own_l 3 f3), .inr (.int, own_n 3 g3)] 18 _
      refine mmW_steps (k := 2) (n := 840) (pc' := (if if_icmp.holds .ne (own_bc e f3 g3) (((own_br p0 e p0 p1 p2 s0 s1 s2) + (own_br p1 e p0 p1 p2 s0 s1 s2)) + (own_br p2 e p0 p1 p2 s0 s1 s2)) = true then 311 else 307)) (L' := [.val (.int x0), .val (.int x1), .val (.int x2), .val (.int x3), .val (.int x4), .val (.int s0), .val (.int s1), .val (.int s2), .val (.int e), .val (.int p0), .val (.int p1), .val (.int p2), .val (.int (0 : Int32)), .val (.int p0), .val (.int (1 : Int32)), .val (.int p2), .val (.ref 0), .val (.ref 1), .val (.ref 2), .val (.int (((own_br p0 e p0 p1 p2 s0 s1 s2) + (own_br p1 e p0 p1 p2 s0 s1 s2)) + (own_br p2 e p0 p1 p2 s0 s1 s2)))]) (S' := []) (H' := [.inr (.int, [.int s0, .int s1, .int s2]), .inr (.int, [.int p0, .int p1, .int p2]), .inl (0, [.ref 0, .int e, .ref 1, .ref 3, .ref 4, .long y3]), .inr (.long, own_l 3 f3), .inr (.int, own_n 3 g3)]) (sl' := 18) rfl ?_
      refine mmW_f (XT.ii_ne_f (own_fin3 e p0 p1 p2 s0 s1 s2 P0 P1 P2 hp0 hp1 hp2 hP0 hP1 hP2 f3 g3 (fun j => by simp only [hf3, hf2, hf1]; grind) (fun j => by simp only [hg3, hg2, hg1]; grind))) ?_
      refine mmW_steps (k := 2) (n := 838) (pc' := 312) (L' := [.val (.int x0), .val (.int x1), .val (.int x2), .val (.int x3), .val (.int x4), .val (.int s0), .val (.int s1), .val (.int s2), .val (.int e), .val (.int p0), .val (.int p1), .val (.int p2), .val (.int (0 : Int32)), .val (.int p0), .val (.int (1 : Int32)), .val (.int p2), .val (.ref 0), .val (.ref 1), .val (.ref 2), .val (.int (((own_br p0 e p0 p1 p2 s0 s1 s2) + (own_br p1 e p0 p1 p2 s0 s1 s2)) + (own_br p2 e p0 p1 p2 s0 s1 s2)))]) (S' := [.int (1 : Int32)]) (H' := [.inr (.int, [.int s0, .int s1, .int s2]), .inr (.int, [.int p0, .int p1, .int p2]), .inl (0, [.ref 0, .int e, .ref 1, .ref 3, .ref 4, .long y3]), .inr (.long, own_l 3 f3), .inr (.int, own_n 3 g3)]) (sl' := 18) rfl ?_
      exact mmW_ret (n := 837) (i := .ireturn) rfl rfl ⟨rfl, Nat.le_of_ble_eq_true rfl, Nat.le_of_ble_eq_true rfl⟩
  · refine mmW_f (XT.i0_eq_f (hm)) ?_
    refine mmW_steps (k := 17) (n := 937) (pc' := 97) (L' := [.val (.int x0), .val (.int x1), .val (.int x2), .val (.int x3), .val (.int x4), .val (.int s0), .val (.int s1), .val (.int s2), .val (.int e), .val (.int p0), .val (.int p1), .val (.int p2), .val (.int (1 : Int32)), .unset, .unset, .unset, .unset, .unset, .unset, .unset]) (S' := [.int (((p0 + (1 : Int32)) + ((XT.ushr x4 (7 : Int32)) &&& (1 : Int32))) % (3 : Int32))]) (H' := []) (sl' := 0) rfl ?_
    have ht0 := own_t hp0 hP0 (XT.ushr x4 (7 : Int32))
    generalize (((p0 + (1 : Int32)) + ((XT.ushr x4 (7 : Int32)) &&& (1 : Int32))) % (3 : Int32)) = t0 at ht0 ⊢
    obtain ⟨T0, ht0, hT0⟩ := ht0
    refine mmW_steps (k := 7) (n := 930) (pc' := (if ifCond.holds .eq ((XT.ushr x4 (8 : Int32)) &&& (1 : Int32)) = true then 113 else 109)) (L' := [.val (.int x0), .val (.int x1), .val (.int x2), .val (.int x3), .val (.int x4), .val (.int s0), .val (.int s1), .val (.int s2), .val (.int e), .val (.int p0), .val (.int p1), .val (.int p2), .val (.int (1 : Int32)), .val (.int t0), .unset, .unset, .unset, .unset, .unset, .unset]) (S' := []) (H' := []) (sl' := 0) rfl ?_
    by_cases hq : ((XT.ushr x4 (8 : Int32)) &&& (1 : Int32)) = 0
    · refine mmW_t (XT.i0_eq_t (hq)) ?_
      refine mmW_steps (k := 44) (n := 886) (pc' := 185) (L' := [.val (.int x0), .val (.int x1), .val (.int x2), .val (.int x3), .val (.int x4), .val (.int s0), .val (.int s1), .val (.int s2), .val (.int e), .val (.int p0), .val (.int p1), .val (.int p2), .val (.int (1 : Int32)), .val (.int t0), .val (.int (0 : Int32)), .val (.int (-1 : Int32)), .val (.ref 0), .val (.ref 1), .val (.ref 2), .unset]) (S' := []) (H' := [.inr (.int, [.int s0, .int s1, .int s2]), .inr (.int, [.int t0, .int p1, .int (-1 : Int32)]), .inl (0, [.ref 0, .int e, .ref 1, .ref 3, .ref 4, .long (0 : Int64)]), .inr (.long, [.long (0 : Int64), .long (0 : Int64), .long (0 : Int64)]), .inr (.int, [.int (0 : Int32), .int (0 : Int32), .int (0 : Int32)])]) (sl' := 18) rfl ?_
      show mmW K_0 I_0 (some .boolean) 886 185 [.val (.int x0), .val (.int x1), .val (.int x2), .val (.int x3), .val (.int x4), .val (.int s0), .val (.int s1), .val (.int s2), .val (.int e), .val (.int p0), .val (.int p1), .val (.int p2), .val (.int (1 : Int32)), .val (.int t0), .val (.int (0 : Int32)), .val (.int (-1 : Int32)), .val (.ref 0), .val (.ref 1), .val (.ref 2), .unset] [] [.inr (.int, [.int s0, .int s1, .int s2]), .inr (.int, [.int t0, .int p1, .int (-1 : Int32)]), .inl (0, [.ref 0, .int e, .ref 1, .ref 3, .ref 4, .long (0 : Int64)]), .inr (.long, own_l 3 (fun _ => 0)), .inr (.int, own_n 3 (fun _ => 0))] 18 _
      refine mmW_steps (k := 4) (n := 882) (pc' := 191) (L' := [.val (.int x0), .val (.int x1), .val (.int x2), .val (.int x3), .val (.int x4), .val (.int s0), .val (.int s1), .val (.int s2), .val (.int e), .val (.int p0), .val (.int p1), .val (.int p2), .val (.int (1 : Int32)), .val (.int t0), .val (.int (0 : Int32)), .val (.int (-1 : Int32)), .val (.ref 0), .val (.ref 1), .val (.ref 2), .unset]) (S' := [.int p0, .int (-1 : Int32), .int (0 : Int32), .ref 2]) (H' := [.inr (.int, [.int s0, .int s1, .int s2]), .inr (.int, [.int t0, .int p1, .int (-1 : Int32)]), .inl (0, [.ref 0, .int e, .ref 1, .ref 3, .ref 4, .long (0 : Int64)]), .inr (.long, own_l 3 (fun _ => 0)), .inr (.int, own_n 3 (fun _ => 0))]) (sl' := 18) rfl ?_
      obtain ⟨f1, g1, y1, hB1, hf1, hg1⟩ := own_mv0 (fun _ => 0) (fun _ => 0) 0 s0 s1 s2 t0 p1 (-1 : Int32) e p0 P0 hp0 hP0
      refine mmW_callV (n := 881) rfl rfl rfl (rfl) (Nat.le_of_ble_eq_true rfl) (hB1) ?_
      show mmW K_0 I_0 (some .boolean) (881) 194 [.val (.int x0), .val (.int x1), .val (.int x2), .val (.int x3), .val (.int x4), .val (.int s0), .val (.int s1), .val (.int s2), .val (.int e), .val (.int p0), .val (.int p1), .val (.int p2), .val (.int (1 : Int32)), .val (.int t0), .val (.int (0 : Int32)), .val (.int (-1 : Int32)), .val (.ref 0), .val (.ref 1), .val (.ref 2), .unset] [.long (0 : Int64)] [.inr (.int, [.int s0, .int s1, .int s2]), .inr (.int, [.int t0, .int p1, .int (-1 : Int32)]), .inl (0, [.ref 0, .int e, .ref 1, .ref 3, .ref 4, .long y1]), .inr (.long, own_l 3 f1), .inr (.int, own_n 3 g1)] 18 _
      refine mmW_steps (k := 5) (n := 876) (pc' := 201) (L' := [.val (.int x0), .val (.int x1), .val (.int x2), .val (.int x3), .val (.int x4), .val (.int s0), .val (.int s1), .val (.int s2), .val (.int e), .val (.int p0), .val (.int p1), .val (.int p2), .val (.int (1 : Int32)), .val (.int t0), .val (.int (0 : Int32)), .val (.int (-1 : Int32)), .val (.ref 0), .val (.ref 1), .val (.ref 2), .unset]) (S' := [.int p1, .int (-1 : Int32), .int (1 : Int32), .ref 2]) (H' := [.inr (.int, [.int s0, .int s1, .int s2]), .inr (.int, [.int t0, .int p1, .int (-1 : Int32)]), .inl (0, [.ref 0, .int e, .ref 1, .ref 3, .ref 4, .long y1]), .inr (.long, own_l 3 f1), .inr (.int, own_n 3 g1)]) (sl' := 18) rfl ?_
      obtain ⟨f2, g2, y2, hB2, hf2, hg2⟩ := own_mv1 f1 g1 y1 s0 s1 s2 t0 p1 (-1 : Int32) e p1 P1 hp1 hP1
      refine mmW_callV (n := 875) rfl rfl rfl (rfl) (Nat.le_of_ble_eq_true rfl) (hB2) ?_
      show mmW K_0 I_0 (some .boolean) (875) 204 [.val (.int x0), .val (.int x1), .val (.int x2), .val (.int x3), .val (.int x4), .val (.int s0), .val (.int s1), .val (.int s2), .val (.int e), .val (.int p0), .val (.int p1), .val (.int p2), .val (.int (1 : Int32)), .val (.int t0), .val (.int (0 : Int32)), .val (.int (-1 : Int32)), .val (.ref 0), .val (.ref 1), .val (.ref 2), .unset] [.long (0 : Int64)] [.inr (.int, [.int s0, .int s1, .int s2]), .inr (.int, [.int t0, .int p1, .int (-1 : Int32)]), .inl (0, [.ref 0, .int e, .ref 1, .ref 3, .ref 4, .long y2]), .inr (.long, own_l 3 f2), .inr (.int, own_n 3 g2)] 18 _
      refine mmW_steps (k := 9) (n := 866) (pc' := 232) (L' := [.val (.int x0), .val (.int x1), .val (.int x2), .val (.int x3), .val (.int x4), .val (.int s0), .val (.int s1), .val (.int s2), .val (.int e), .val (.int p0), .val (.int p1), .val (.int p2), .val (.int (1 : Int32)), .val (.int t0), .val (.int (0 : Int32)), .val (.int (-1 : Int32)), .val (.ref 0), .val (.ref 1), .val (.ref 2), .unset]) (S' := [.int t0, .int p0, .int (0 : Int32), .ref 2]) (H' := [.inr (.int, [.int s0, .int s1, .int s2]), .inr (.int, [.int t0, .int p1, .int (-1 : Int32)]), .inl (0, [.ref 0, .int e, .ref 1, .ref 3, .ref 4, .long y2]), .inr (.long, own_l 3 f2), .inr (.int, own_n 3 g2)]) (sl' := 18) rfl ?_
      obtain ⟨f4, f5, g4, g5, y5, hB5, hf4, hg4, hf5, hg5⟩ := own_mvb f2 g2 y2 s0 s1 s2 t0 p1 (-1 : Int32) e p0 t0 P0 T0 hp0 hP0 ht0 hT0
      refine mmW_callV (n := 865) rfl rfl rfl (rfl) (Nat.le_of_ble_eq_true rfl) (hB5) ?_
      show mmW K_0 I_0 (some .boolean) (865) 235 [.val (.int x0), .val (.int x1), .val (.int x2), .val (.int x3), .val (.int x4), .val (.int s0), .val (.int s1), .val (.int s2), .val (.int e), .val (.int p0), .val (.int p1), .val (.int p2), .val (.int (1 : Int32)), .val (.int t0), .val (.int (0 : Int32)), .val (.int (-1 : Int32)), .val (.ref 0), .val (.ref 1), .val (.ref 2), .unset] [.long (0 : Int64)] [.inr (.int, [.int s0, .int s1, .int s2]), .inr (.int, [.int t0, .int p1, .int (-1 : Int32)]), .inl (0, [.ref 0, .int e, .ref 1, .ref 3, .ref 4, .long y5]), .inr (.long, own_l 3 f5), .inr (.int, own_n 3 g5)] 18 _
      refine mmW_steps (k := 9) (n := 856) (pc' := 252) (L' := [.val (.int x0), .val (.int x1), .val (.int x2), .val (.int x3), .val (.int x4), .val (.int s0), .val (.int s1), .val (.int s2), .val (.int e), .val (.int p0), .val (.int p1), .val (.int p2), .val (.int (1 : Int32)), .val (.int t0), .val (.int (0 : Int32)), .val (.int (-1 : Int32)), .val (.ref 0), .val (.ref 1), .val (.ref 2), .unset]) (S' := [.int s2, .int s1, .int s0, .int (-1 : Int32), .int p1, .int t0, .int e, .int t0]) (H' := [.inr (.int, [.int s0, .int s1, .int s2]), .inr (.int, [.int t0, .int p1, .int (-1 : Int32)]), .inl (0, [.ref 0, .int e, .ref 1, .ref 3, .ref 4, .long y5]), .inr (.long, own_l 3 f5), .inr (.int, own_n 3 g5)]) (sl' := 18) rfl ?_
      refine mmW_callS (n := 855) rfl rfl rfl (rfl) (Nat.le_of_ble_eq_true rfl) (own_brs f5 g5 y5 s0 s1 s2 t0 p1 (-1 : Int32) e t0 t0 p1 (-1 : Int32)) ?_
      show mmW K_0 I_0 (some .boolean) (855) 255 [.val (.int x0), .val (.int x1), .val (.int x2), .val (.int x3), .val (.int x4), .val (.int s0), .val (.int s1), .val (.int s2), .val (.int e), .val (.int p0), .val (.int p1), .val (.int p2), .val (.int (1 : Int32)), .val (.int t0), .val (.int (0 : Int32)), .val (.int (-1 : Int32)), .val (.ref 0), .val (.ref 1), .val (.ref 2), .unset] [.int (own_br t0 e t0 p1 (-1 : Int32) s0 s1 s2)] [.inr (.int, [.int s0, .int s1, .int s2]), .inr (.int, [.int t0, .int p1, .int (-1 : Int32)]), .inl (0, [.ref 0, .int e, .ref 1, .ref 3, .ref 4, .long y5]), .inr (.long, own_l 3 f5), .inr (.int, own_n 3 g5)] 18 _
      refine mmW_steps (k := 8) (n := 847) (pc' := 271) (L' := [.val (.int x0), .val (.int x1), .val (.int x2), .val (.int x3), .val (.int x4), .val (.int s0), .val (.int s1), .val (.int s2), .val (.int e), .val (.int p0), .val (.int p1), .val (.int p2), .val (.int (1 : Int32)), .val (.int t0), .val (.int (0 : Int32)), .val (.int (-1 : Int32)), .val (.ref 0), .val (.ref 1), .val (.ref 2), .unset]) (S' := [.int s2, .int s1, .int s0, .int (-1 : Int32), .int p1, .int t0, .int e, .int p1, .int (own_br t0 e t0 p1 (-1 : Int32) s0 s1 s2)]) (H' := [.inr (.int, [.int s0, .int s1, .int s2]), .inr (.int, [.int t0, .int p1, .int (-1 : Int32)]), .inl (0, [.ref 0, .int e, .ref 1, .ref 3, .ref 4, .long y5]), .inr (.long, own_l 3 f5), .inr (.int, own_n 3 g5)]) (sl' := 18) rfl ?_
      refine mmW_callS (n := 846) rfl rfl rfl (rfl) (Nat.le_of_ble_eq_true rfl) (own_brs f5 g5 y5 s0 s1 s2 t0 p1 (-1 : Int32) e p1 t0 p1 (-1 : Int32)) ?_
      show mmW K_0 I_0 (some .boolean) (846) 274 [.val (.int x0), .val (.int x1), .val (.int x2), .val (.int x3), .val (.int x4), .val (.int s0), .val (.int s1), .val (.int s2), .val (.int e), .val (.int p0), .val (.int p1), .val (.int p2), .val (.int (1 : Int32)), .val (.int t0), .val (.int (0 : Int32)), .val (.int (-1 : Int32)), .val (.ref 0), .val (.ref 1), .val (.ref 2), .unset] [.int (own_br p1 e t0 p1 (-1 : Int32) s0 s1 s2), .int (own_br t0 e t0 p1 (-1 : Int32) s0 s1 s2)] [.inr (.int, [.int s0, .int s1, .int s2]), .inr (.int, [.int t0, .int p1, .int (-1 : Int32)]), .inl (0, [.ref 0, .int e, .ref 1, .ref 3, .ref 4, .long y5]), .inr (.long, own_l 3 f5), .inr (.int, own_n 3 g5)] 18 _
      refine mmW_steps (k := 9) (n := 837) (pc' := 291) (L' := [.val (.int x0), .val (.int x1), .val (.int x2), .val (.int x3), .val (.int x4), .val (.int s0), .val (.int s1), .val (.int s2), .val (.int e), .val (.int p0), .val (.int p1), .val (.int p2), .val (.int (1 : Int32)), .val (.int t0), .val (.int (0 : Int32)), .val (.int (-1 : Int32)), .val (.ref 0), .val (.ref 1), .val (.ref 2), .unset]) (S' := [.int s2, .int s1, .int s0, .int (-1 : Int32), .int p1, .int t0, .int e, .int (-1 : Int32), .int ((own_br t0 e t0 p1 (-1 : Int32) s0 s1 s2) + (own_br p1 e t0 p1 (-1 : Int32) s0 s1 s2))]) (H' := [.inr (.int, [.int s0, .int s1, .int s2]), .inr (.int, [.int t0, .int p1, .int (-1 : Int32)]), .inl (0, [.ref 0, .int e, .ref 1, .ref 3, .ref 4, .long y5]), .inr (.long, own_l 3 f5), .inr (.int, own_n 3 g5)]) (sl' := 18) rfl ?_
      refine mmW_callS (n := 836) rfl rfl rfl (rfl) (Nat.le_of_ble_eq_true rfl) (own_brs f5 g5 y5 s0 s1 s2 t0 p1 (-1 : Int32) e (-1 : Int32) t0 p1 (-1 : Int32)) ?_
      show mmW K_0 I_0 (some .boolean) (836) 294 [.val (.int x0), .val (.int x1), .val (.int x2), .val (.int x3), .val (.int x4), .val (.int s0), .val (.int s1), .val (.int s2), .val (.int e), .val (.int p0), .val (.int p1), .val (.int p2), .val (.int (1 : Int32)), .val (.int t0), .val (.int (0 : Int32)), .val (.int (-1 : Int32)), .val (.ref 0), .val (.ref 1), .val (.ref 2), .unset] [.int (own_br (-1 : Int32) e t0 p1 (-1 : Int32) s0 s1 s2), .int ((own_br t0 e t0 p1 (-1 : Int32) s0 s1 s2) + (own_br p1 e t0 p1 (-1 : Int32) s0 s1 s2))] [.inr (.int, [.int s0, .int s1, .int s2]), .inr (.int, [.int t0, .int p1, .int (-1 : Int32)]), .inl (0, [.ref 0, .int e, .ref 1, .ref 3, .ref 4, .long y5]), .inr (.long, own_l 3 f5), .inr (.int, own_n 3 g5)] 18 _
      refine mmW_steps (k := 3) (n := 833) (pc' := 299) (L' := [.val (.int x0), .val (.int x1), .val (.int x2), .val (.int x3), .val (.int x4), .val (.int s0), .val (.int s1), .val (.int s2), .val (.int e), .val (.int p0), .val (.int p1), .val (.int p2), .val (.int (1 : Int32)), .val (.int t0), .val (.int (0 : Int32)), .val (.int (-1 : Int32)), .val (.ref 0), .val (.ref 1), .val (.ref 2), .val (.int (((own_br t0 e t0 p1 (-1 : Int32) s0 s1 s2) + (own_br p1 e t0 p1 (-1 : Int32) s0 s1 s2)) + (own_br (-1 : Int32) e t0 p1 (-1 : Int32) s0 s1 s2)))]) (S' := [.ref 2]) (H' := [.inr (.int, [.int s0, .int s1, .int s2]), .inr (.int, [.int t0, .int p1, .int (-1 : Int32)]), .inl (0, [.ref 0, .int e, .ref 1, .ref 3, .ref 4, .long y5]), .inr (.long, own_l 3 f5), .inr (.int, own_n 3 g5)]) (sl' := 18) rfl ?_
      refine mmW_callV (n := 832) rfl rfl rfl (rfl) (Nat.le_of_ble_eq_true rfl) (own_bcs f5 g5 y5 s0 s1 s2 t0 p1 (-1 : Int32) e) ?_
      show mmW K_0 I_0 (some .boolean) (832) 302 [.val (.int x0), .val (.int x1), .val (.int x2), .val (.int x3), .val (.int x4), .val (.int s0), .val (.int s1), .val (.int s2), .val (.int e), .val (.int p0), .val (.int p1), .val (.int p2), .val (.int (1 : Int32)), .val (.int t0), .val (.int (0 : Int32)), .val (.int (-1 : Int32)), .val (.ref 0), .val (.ref 1), .val (.ref 2), .val (.int (((own_br t0 e t0 p1 (-1 : Int32) s0 s1 s2) + (own_br p1 e t0 p1 (-1 : Int32) s0 s1 s2)) + (own_br (-1 : Int32) e t0 p1 (-1 : Int32) s0 s1 s2)))] [.int (own_bc e f5 g5)] [.inr (.int, [.int s0, .int s1, .int s2]), .inr (.int, [.int t0, .int p1, .int (-1 : Int32)]), .inl (0, [.ref 0, .int e, .ref 1, .ref 3, .ref 4, .long y5]), .inr (.long, own_l 3 f5), .inr (.int, own_n 3 g5)] 18 _
      refine mmW_steps (k := 2) (n := 830) (pc' := (if if_icmp.holds .ne (own_bc e f5 g5) (((own_br t0 e t0 p1 (-1 : Int32) s0 s1 s2) + (own_br p1 e t0 p1 (-1 : Int32) s0 s1 s2)) + (own_br (-1 : Int32) e t0 p1 (-1 : Int32) s0 s1 s2)) = true then 311 else 307)) (L' := [.val (.int x0), .val (.int x1), .val (.int x2), .val (.int x3), .val (.int x4), .val (.int s0), .val (.int s1), .val (.int s2), .val (.int e), .val (.int p0), .val (.int p1), .val (.int p2), .val (.int (1 : Int32)), .val (.int t0), .val (.int (0 : Int32)), .val (.int (-1 : Int32)), .val (.ref 0), .val (.ref 1), .val (.ref 2), .val (.int (((own_br t0 e t0 p1 (-1 : Int32) s0 s1 s2) + (own_br p1 e t0 p1 (-1 : Int32) s0 s1 s2)) + (own_br (-1 : Int32) e t0 p1 (-1 : Int32) s0 s1 s2)))]) (S' := []) (H' := [.inr (.int, [.int s0, .int s1, .int s2]), .inr (.int, [.int t0, .int p1, .int (-1 : Int32)]), .inl (0, [.ref 0, .int e, .ref 1, .ref 3, .ref 4, .long y5]), .inr (.long, own_l 3 f5), .inr (.int, own_n 3 g5)]) (sl' := 18) rfl ?_
      refine mmW_f (XT.ii_ne_f (own_fin2 e t0 p1 s0 s1 s2 T0 P1 ht0 hp1 hT0 hP1 f5 g5 (fun j => by simp only [hf5, hf4, hf2, hf1]; grind) (fun j => by simp only [hg5, hg4, hg2, hg1]; grind))) ?_
      refine mmW_steps (k := 2) (n := 828) (pc' := 312) (L' := [.val (.int x0), .val (.int x1), .val (.int x2), .val (.int x3), .val (.int x4), .val (.int s0), .val (.int s1), .val (.int s2), .val (.int e), .val (.int p0), .val (.int p1), .val (.int p2), .val (.int (1 : Int32)), .val (.int t0), .val (.int (0 : Int32)), .val (.int (-1 : Int32)), .val (.ref 0), .val (.ref 1), .val (.ref 2), .val (.int (((own_br t0 e t0 p1 (-1 : Int32) s0 s1 s2) + (own_br p1 e t0 p1 (-1 : Int32) s0 s1 s2)) + (own_br (-1 : Int32) e t0 p1 (-1 : Int32) s0 s1 s2)))]) (S' := [.int (1 : Int32)]) (H' := [.inr (.int, [.int s0, .int s1, .int s2]), .inr (.int, [.int t0, .int p1, .int (-1 : Int32)]), .inl (0, [.ref 0, .int e, .ref 1, .ref 3, .ref 4, .long y5]), .inr (.long, own_l 3 f5), .inr (.int, own_n 3 g5)]) (sl' := 18) rfl ?_
      exact mmW_ret (n := 827) (i := .ireturn) rfl rfl ⟨rfl, Nat.le_of_ble_eq_true rfl, Nat.le_of_ble_eq_true rfl⟩
    · refine mmW_f (XT.i0_eq_f (hq)) ?_
      refine mmW_steps (k := 46) (n := 884) (pc' := 185) (L' := [.val (.int x0), .val (.int x1), .val (.int x2), .val (.int x3), .val (.int x4), .val (.int s0), .val (.int s1), .val (.int s2), .val (.int e), .val (.int p0), .val (.int p1), .val (.int p2), .val (.int (1 : Int32)), .val (.int t0), .val (.int (1 : Int32)), .val (.int p2), .val (.ref 0), .val (.ref 1), .val (.ref 2), .unset]) (S' := []) (H' := [.inr (.int, [.int s0, .int s1, .int s2]), .inr (.int, [.int t0, .int p1, .int p2]), .inl (0, [.ref 0, .int e, .ref 1, .ref 3, .ref 4, .long (0 : Int64)]), .inr (.long, [.long (0 : Int64), .long (0 : Int64), .long (0 : Int64)]), .inr (.int, [.int (0 : Int32), .int (0 : Int32), .int (0 : Int32)])]) (sl' := 18) rfl ?_
      show mmW K_0 I_0 (some .boolean) 884 185 [.val (.int x0), .val (.int x1), .val (.int x2), .val (.int x3), .val (.int x4), .val (.int s0), .val (.int s1), .val (.int s2), .val (.int e), .val (.int p0), .val (.int p1), .val (.int p2), .val (.int (1 : Int32)), .val (.int t0), .val (.int (1 : Int32)), .val (.int p2), .val (.ref 0), .val (.ref 1), .val (.ref 2), .unset] [] [.inr (.int, [.int s0, .int s1, .int s2]), .inr (.int, [.int t0, .int p1, .int p2]), .inl (0, [.ref 0, .int e, .ref 1, .ref 3, .ref 4, .long (0 : Int64)]), .inr (.long, own_l 3 (fun _ => 0)), .inr (.int, own_n 3 (fun _ => 0))] 18 _
      refine mmW_steps (k := 4) (n := 880) (pc' := 191) (L' := [.val (.int x0), .val (.int x1), .val (.int x2), .val (.int x3), .val (.int x4), .val (.int s0), .val (.int s1), .val (.int s2), .val (.int e), .val (.int p0), .val (.int p1), .val (.int p2), .val (.int (1 : Int32)), .val (.int t0), .val (.int (1 : Int32)), .val (.int p2), .val (.ref 0), .val (.ref 1), .val (.ref 2), .unset]) (S' := [.int p0, .int (-1 : Int32), .int (0 : Int32), .ref 2]) (H' := [.inr (.int, [.int s0, .int s1, .int s2]), .inr (.int, [.int t0, .int p1, .int p2]), .inl (0, [.ref 0, .int e, .ref 1, .ref 3, .ref 4, .long (0 : Int64)]), .inr (.long, own_l 3 (fun _ => 0)), .inr (.int, own_n 3 (fun _ => 0))]) (sl' := 18) rfl ?_
      obtain ⟨f1, g1, y1, hB1, hf1, hg1⟩ := own_mv0 (fun _ => 0) (fun _ => 0) 0 s0 s1 s2 t0 p1 p2 e p0 P0 hp0 hP0
      refine mmW_callV (n := 879) rfl rfl rfl (rfl) (Nat.le_of_ble_eq_true rfl) (hB1) ?_
      show mmW K_0 I_0 (some .boolean) (879) 194 [.val (.int x0), .val (.int x1), .val (.int x2), .val (.int x3), .val (.int x4), .val (.int s0), .val (.int s1), .val (.int s2), .val (.int e), .val (.int p0), .val (.int p1), .val (.int p2), .val (.int (1 : Int32)), .val (.int t0), .val (.int (1 : Int32)), .val (.int p2), .val (.ref 0), .val (.ref 1), .val (.ref 2), .unset] [.long (0 : Int64)] [.inr (.int, [.int s0, .int s1, .int s2]), .inr (.int, [.int t0, .int p1, .int p2]), .inl (0, [.ref 0, .int e, .ref 1, .ref 3, .ref 4, .long y1]), .inr (.long, own_l 3 f1), .inr (.int, own_n 3 g1)] 18 _
      refine mmW_steps (k := 5) (n := 874) (pc' := 201) (L' := [.val (.int x0), .val (.int x1), .val (.int x2), .val (.int x3), .val (.int x4), .val (.int s0), .val (.int s1), .val (.int s2), .val (.int e), .val (.int p0), .val (.int p1), .val (.int p2), .val (.int (1 : Int32)), .val (.int t0), .val (.int (1 : Int32)), .val (.int p2), .val (.ref 0), .val (.ref 1), .val (.ref 2), .unset]) (S' := [.int p1, .int (-1 : Int32), .int (1 : Int32), .ref 2]) (H' := [.inr (.int, [.int s0, .int s1, .int s2]), .inr (.int, [.int t0, .int p1, .int p2]), .inl (0, [.ref 0, .int e, .ref 1, .ref 3, .ref 4, .long y1]), .inr (.long, own_l 3 f1), .inr (.int, own_n 3 g1)]) (sl' := 18) rfl ?_
      obtain ⟨f2, g2, y2, hB2, hf2, hg2⟩ := own_mv1 f1 g1 y1 s0 s1 s2 t0 p1 p2 e p1 P1 hp1 hP1
      refine mmW_callV (n := 873) rfl rfl rfl (rfl) (Nat.le_of_ble_eq_true rfl) (hB2) ?_
      show mmW K_0 I_0 (some .boolean) (873) 204 [.val (.int x0), .val (.int x1), .val (.int x2), .val (.int x3), .val (.int x4), .val (.int s0), .val (.int s1), .val (.int s2), .val (.int e), .val (.int p0), .val (.int p1), .val (.int p2), .val (.int (1 : Int32)), .val (.int t0), .val (.int (1 : Int32)), .val (.int p2), .val (.ref 0), .val (.ref 1), .val (.ref 2), .unset] [.long (0 : Int64)] [.inr (.int, [.int s0, .int s1, .int s2]), .inr (.int, [.int t0, .int p1, .int p2]), .inl (0, [.ref 0, .int e, .ref 1, .ref 3, .ref 4, .long y2]), .inr (.long, own_l 3 f2), .inr (.int, own_n 3 g2)] 18 _
      refine mmW_steps (k := 7) (n := 866) (pc' := 216) (L' := [.val (.int x0), .val (.int x1), .val (.int x2), .val (.int x3), .val (.int x4), .val (.int s0), .val (.int s1), .val (.int s2), .val (.int e), .val (.int p0), .val (.int p1), .val (.int p2), .val (.int (1 : Int32)), .val (.int t0), .val (.int (1 : Int32)), .val (.int p2), .val (.ref 0), .val (.ref 1), .val (.ref 2), .unset]) (S' := [.int p2, .int (-1 : Int32), .int (2 : Int32), .ref 2]) (H' := [.inr (.int, [.int s0, .int s1, .int s2]), .inr (.int, [.int t0, .int p1, .int p2]), .inl (0, [.ref 0, .int e, .ref 1, .ref 3, .ref 4, .long y2]), .inr (.long, own_l 3 f2), .inr (.int, own_n 3 g2)]) (sl' := 18) rfl ?_
      obtain ⟨f3, g3, y3, hB3, hf3, hg3⟩ := own_mv2 f2 g2 y2 s0 s1 s2 t0 p1 p2 e p2 P2 hp2 hP2
      refine mmW_callV (n := 865) rfl rfl rfl (rfl) (Nat.le_of_ble_eq_true rfl) (hB3) ?_
      show mmW K_0 I_0 (some .boolean) (865) 219 [.val (.int x0), .val (.int x1), .val (.int x2), .val (.int x3), .val (.int x4), .val (.int s0), .val (.int s1), .val (.int s2), .val (.int e), .val (.int p0), .val (.int p1), .val (.int p2), .val (.int (1 : Int32)), .val (.int t0), .val (.int (1 : Int32)), .val (.int p2), .val (.ref 0), .val (.ref 1), .val (.ref 2), .unset] [.long (0 : Int64)] [.inr (.int, [.int s0, .int s1, .int s2]), .inr (.int, [.int t0, .int p1, .int p2]), .inl (0, [.ref 0, .int e, .ref 1, .ref 3, .ref 4, .long y3]), .inr (.long, own_l 3 f3), .inr (.int, own_n 3 g3)] 18 _
      refine mmW_steps (k := 7) (n := 858) (pc' := 232) (L' := [.val (.int x0), .val (.int x1), .val (.int x2), .val (.int x3), .val (.int x4), .val (.int s0), .val (.int s1), .val (.int s2), .val (.int e), .val (.int p0), .val (.int p1), .val (.int p2), .val (.int (1 : Int32)), .val (.int t0), .val (.int (1 : Int32)), .val (.int p2), .val (.ref 0), .val (.ref 1), .val (.ref 2), .unset]) (S' := [.int t0, .int p0, .int (0 : Int32), .ref 2]) (H' := [.inr (.int, [.int s0, .int s1, .int s2]), .inr (.int, [.int t0, .int p1, .int p2]), .inl (0, [.ref 0, .int e, .ref 1, .ref 3, .ref 4, .long y3]), .inr (.long, own_l 3 f3), .inr (.int, own_n 3 g3)]) (sl' := 18) rfl ?_
      obtain ⟨f4, f5, g4, g5, y5, hB5, hf4, hg4, hf5, hg5⟩ := own_mvb f3 g3 y3 s0 s1 s2 t0 p1 p2 e p0 t0 P0 T0 hp0 hP0 ht0 hT0
      refine mmW_callV (n := 857) rfl rfl rfl (rfl) (Nat.le_of_ble_eq_true rfl) (hB5) ?_
      show mmW K_0 I_0 (some .boolean) (857) 235 [.val (.int x0), .val (.int x1), .val (.int x2), .val (.int x3), .val (.int x4), .val (.int s0), .val (.int s1), .val (.int s2), .val (.int e), .val (.int p0), .val (.int p1), .val (.int p2), .val (.int (1 : Int32)), .val (.int t0), .val (.int (1 : Int32)), .val (.int p2), .val (.ref 0), .val (.ref 1), .val (.ref 2), .unset] [.long (0 : Int64)] [.inr (.int, [.int s0, .int s1, .int s2]), .inr (.int, [.int t0, .int p1, .int p2]), .inl (0, [.ref 0, .int e, .ref 1, .ref 3, .ref 4, .long y5]), .inr (.long, own_l 3 f5), .inr (.int, own_n 3 g5)] 18 _
      refine mmW_steps (k := 9) (n := 848) (pc' := 252) (L' := [.val (.int x0), .val (.int x1), .val (.int x2), .val (.int x3), .val (.int x4), .val (.int s0), .val (.int s1), .val (.int s2), .val (.int e), .val (.int p0), .val (.int p1), .val (.int p2), .val (.int (1 : Int32)), .val (.int t0), .val (.int (1 : Int32)), .val (.int p2), .val (.ref 0), .val (.ref 1), .val (.ref 2), .unset]) (S' := [.int s2, .int s1, .int s0, .int p2, .int p1, .int t0, .int e, .int t0]) (H' := [.inr (.int, [.int s0, .int s1, .int s2]), .inr (.int, [.int t0, .int p1, .int p2]), .inl (0, [.ref 0, .int e, .ref 1, .ref 3, .ref 4, .long y5]), .inr (.long, own_l 3 f5), .inr (.int, own_n 3 g5)]) (sl' := 18) rfl ?_
      refine mmW_callS (n := 847) rfl rfl rfl (rfl) (Nat.le_of_ble_eq_true rfl) (own_brs f5 g5 y5 s0 s1 s2 t0 p1 p2 e t0 t0 p1 p2) ?_
      show mmW K_0 I_0 (some .boolean) (847) 255 [.val (.int x0), .val (.int x1), .val (.int x2), .val (.int x3), .val (.int x4), .val (.int s0), .val (.int s1), .val (.int s2), .val (.int e), .val (.int p0), .val (.int p1), .val (.int p2), .val (.int (1 : Int32)), .val (.int t0), .val (.int (1 : Int32)), .val (.int p2), .val (.ref 0), .val (.ref 1), .val (.ref 2), .unset] [.int (own_br t0 e t0 p1 p2 s0 s1 s2)] [.inr (.int, [.int s0, .int s1, .int s2]), .inr (.int, [.int t0, .int p1, .int p2]), .inl (0, [.ref 0, .int e, .ref 1, .ref 3, .ref 4, .long y5]), .inr (.long, own_l 3 f5), .inr (.int, own_n 3 g5)] 18 _
      refine mmW_steps (k := 8) (n := 839) (pc' := 271) (L' := [.val (.int x0), .val (.int x1), .val (.int x2), .val (.int x3), .val (.int x4), .val (.int s0), .val (.int s1), .val (.int s2), .val (.int e), .val (.int p0), .val (.int p1), .val (.int p2), .val (.int (1 : Int32)), .val (.int t0), .val (.int (1 : Int32)), .val (.int p2), .val (.ref 0), .val (.ref 1), .val (.ref 2), .unset]) (S' := [.int s2, .int s1, .int s0, .int p2, .int p1, .int t0, .int e, .int p1, .int (own_br t0 e t0 p1 p2 s0 s1 s2)]) (H' := [.inr (.int, [.int s0, .int s1, .int s2]), .inr (.int, [.int t0, .int p1, .int p2]), .inl (0, [.ref 0, .int e, .ref 1, .ref 3, .ref 4, .long y5]), .inr (.long, own_l 3 f5), .inr (.int, own_n 3 g5)]) (sl' := 18) rfl ?_
      refine mmW_callS (n := 838) rfl rfl rfl (rfl) (Nat.le_of_ble_eq_true rfl) (own_brs f5 g5 y5 s0 s1 s2 t0 p1 p2 e p1 t0 p1 p2) ?_
      show mmW K_0 I_0 (some .boolean) (838) 274 [.val (.int x0), .val (.int x1), .val (.int x2), .val (.int x3), .val (.int x4), .val (.int s0), .val (.int s1), .val (.int s2), .val (.int e), .val (.int p0), .val (.int p1), .val (.int p2), .val (.int (1 : Int32)), .val (.int t0), .val (.int (1 : Int32)), .val (.int p2), .val (.ref 0), .val (.ref 1), .val (.ref 2), .unset] [.int (own_br p1 e t0 p1 p2 s0 s1 s2), .int (own_br t0 e t0 p1 p2 s0 s1 s2)] [.inr (.int, [.int s0, .int s1, .int s2]), .inr (.int, [.int t0, .int p1, .int p2]), .inl (0, [.ref 0, .int e, .ref 1, .ref 3, .ref 4, .long y5]), .inr (.long, own_l 3 f5), .inr (.int, own_n 3 g5)] 18 _
      refine mmW_steps (k := 9) (n := 829) (pc' := 291) (L' := [.val (.int x0), .val (.int x1), .val (.int x2), .val (.int x3), .val (.int x4), .val (.int s0), .val (.int s1), .val (.int s2), .val (.int e), .val (.int p0), .val (.int p1), .val (.int p2), .val (.int (1 : Int32)), .val (.int t0), .val (.int (1 : Int32)), .val (.int p2), .val (.ref 0), .val (.ref 1), .val (.ref 2), .unset]) (S' := [.int s2, .int s1, .int s0, .int p2, .int p1, .int t0, .int e, .int p2, .int ((own_br t0 e t0 p1 p2 s0 s1 s2) + (own_br p1 e t0 p1 p2 s0 s1 s2))]) (H' := [.inr (.int, [.int s0, .int s1, .int s2]), .inr (.int, [.int t0, .int p1, .int p2]), .inl (0, [.ref 0, .int e, .ref 1, .ref 3, .ref 4, .long y5]), .inr (.long, own_l 3 f5), .inr (.int, own_n 3 g5)]) (sl' := 18) rfl ?_
      refine mmW_callS (n := 828) rfl rfl rfl (rfl) (Nat.le_of_ble_eq_true rfl) (own_brs f5 g5 y5 s0 s1 s2 t0 p1 p2 e p2 t0 p1 p2) ?_
      show mmW K_0 I_0 (some .boolean) (828) 294 [.val (.int x0), .val (.int x1), .val (.int x2), .val (.int x3), .val (.int x4), .val (.int s0), .val (.int s1), .val (.int s2), .val (.int e), .val (.int p0), .val (.int p1), .val (.int p2), .val (.int (1 : Int32)), .val (.int t0), .val (.int (1 : Int32)), .val (.int p2), .val (.ref 0), .val (.ref 1), .val (.ref 2), .unset] [.int (own_br p2 e t0 p1 p2 s0 s1 s2), .int ((own_br t0 e t0 p1 p2 s0 s1 s2) + (own_br p1 e t0 p1 p2 s0 s1 s2))] [.inr (.int, [.int s0, .int s1, .int s2]), .inr (.int, [.int t0, .int p1, .int p2]), .inl (0, [.ref 0, .int e, .ref 1, .ref 3, .ref 4, .long y5]), .inr (.long, own_l 3 f5), .inr (.int, own_n 3 g5)] 18 _
      refine mmW_steps (k := 3) (n := 825) (pc' := 299) (L' := [.val (.int x0), .val (.int x1), .val (.int x2), .val (.int x3), .val (.int x4), .val (.int s0), .val (.int s1), .val (.int s2), .val (.int e), .val (.int p0), .val (.int p1), .val (.int p2), .val (.int (1 : Int32)), .val (.int t0), .val (.int (1 : Int32)), .val (.int p2), .val (.ref 0), .val (.ref 1), .val (.ref 2), .val (.int (((own_br t0 e t0 p1 p2 s0 s1 s2) + (own_br p1 e t0 p1 p2 s0 s1 s2)) + (own_br p2 e t0 p1 p2 s0 s1 s2)))]) (S' := [.ref 2]) (H' := [.inr (.int, [.int s0, .int s1, .int s2]), .inr (.int, [.int t0, .int p1, .int p2]), .inl (0, [.ref 0, .int e, .ref 1, .ref 3, .ref 4, .long y5]), .inr (.long, own_l 3 f5), .inr (.int, own_n 3 g5)]) (sl' := 18) rfl ?_
      refine mmW_callV (n := 824) rfl rfl rfl (rfl) (Nat.le_of_ble_eq_true rfl) (own_bcs f5 g5 y5 s0 s1 s2 t0 p1 p2 e) ?_
      show mmW K_0 I_0 (some .boolean) (824) 302 [.val (.int x0), .val (.int x1), .val (.int x2), .val (.int x3), .val (.int x4), .val (.int s0), .val (.int s1), .val (.int s2), .val (.int e), .val (.int p0), .val (.int p1), .val (.int p2), .val (.int (1 : Int32)), .val (.int t0), .val (.int (1 : Int32)), .val (.int p2), .val (.ref 0), .val (.ref 1), .val (.ref 2), .val (.int (((own_br t0 e t0 p1 p2 s0 s1 s2) + (own_br p1 e t0 p1 p2 s0 s1 s2)) + (own_br p2 e t0 p1 p2 s0 s1 s2)))] [.int (own_bc e f5 g5)] [.inr (.int, [.int s0, .int s1, .int s2]), .inr (.int, [.int t0, .int p1, .int p2]), .inl (0, [.ref 0, .int e, .ref 1, .ref 3, .ref 4, .long y5]), .inr (.long, own_l 3 f5), .inr (.int, own_n 3 g5)] 18 _
      refine mmW_steps (k := 2) (n := 822) (pc' := (if if_icmp.holds .ne (own_bc e f5 g5) (((own_br t0 e t0 p1 p2 s0 s1 s2) + (own_br p1 e t0 p1 p2 s0 s1 s2)) + (own_br p2 e t0 p1 p2 s0 s1 s2)) = true then 311 else 307)) (L' := [.val (.int x0), .val (.int x1), .val (.int x2), .val (.int x3), .val (.int x4), .val (.int s0), .val (.int s1), .val (.int s2), .val (.int e), .val (.int p0), .val (.int p1), .val (.int p2), .val (.int (1 : Int32)), .val (.int t0), .val (.int (1 : Int32)), .val (.int p2), .val (.ref 0), .val (.ref 1), .val (.ref 2), .val (.int (((own_br t0 e t0 p1 p2 s0 s1 s2) + (own_br p1 e t0 p1 p2 s0 s1 s2)) + (own_br p2 e t0 p1 p2 s0 s1 s2)))]) (S' := []) (H' := [.inr (.int, [.int s0, .int s1, .int s2]), .inr (.int, [.int t0, .int p1, .int p2]), .inl (0, [.ref 0, .int e, .ref 1, .ref 3, .ref 4, .long y5]), .inr (.long, own_l 3 f5), .inr (.int, own_n 3 g5)]) (sl' := 18) rfl ?_
      refine mmW_f (XT.ii_ne_f (own_fin3 e t0 p1 p2 s0 s1 s2 T0 P1 P2 ht0 hp1 hp2 hT0 hP1 hP2 f5 g5 (fun j => by simp only [hf5, hf4, hf3, hf2, hf1]; grind) (fun j => by simp only [hg5, hg4, hg3, hg2, hg1]; grind))) ?_
      refine mmW_steps (k := 2) (n := 820) (pc' := 312) (L' := [.val (.int x0), .val (.int x1), .val (.int x2), .val (.int x3), .val (.int x4), .val (.int s0), .val (.int s1), .val (.int s2), .val (.int e), .val (.int p0), .val (.int p1), .val (.int p2), .val (.int (1 : Int32)), .val (.int t0), .val (.int (1 : Int32)), .val (.int p2), .val (.ref 0), .val (.ref 1), .val (.ref 2), .val (.int (((own_br t0 e t0 p1 p2 s0 s1 s2) + (own_br p1 e t0 p1 p2 s0 s1 s2)) + (own_br p2 e t0 p1 p2 s0 s1 s2)))]) (S' := [.int (1 : Int32)]) (H' := [.inr (.int, [.int s0, .int s1, .int s2]), .inr (.int, [.int t0, .int p1, .int p2]), .inl (0, [.ref 0, .int e, .ref 1, .ref 3, .ref 4, .long y5]), .inr (.long, own_l 3 f5), .inr (.int, own_n 3 g5)]) (sl' := 18) rfl ?_
      exact mmW_ret (n := 819) (i := .ireturn) rfl rfl ⟨rfl, Nat.le_of_ble_eq_true rfl, Nat.le_of_ble_eq_true rfl⟩

set_option maxRecDepth 65536 in
set_option maxHeartbeats 40000000 in
theorem law_met (l : Launch) (Z : State) (a0 : Array Value) (hw : ∀ d ∈ tables_1, d.before a0 Z = true) (ws : List Jvm.Cond) (x0 : Int32) (x1 : Int32) (x2 : Int32) (x3 : Int32) (x4 : Int32) (h0 : Heap) :
    MetFree l x (head1 (Jvm.Cond.code x code maxLocals ret :: ws) room_1) (fun a U => a = #[(.int x0), (.int x1), (.int x2), (.int x3), (.int x4)] ∧ Z.Warmed39 U.vm ∧ U.heap = h0) (fun _ _ _ _ _ => True) (fun _ U o U' => ∃ v L, o = .returned v ∧ (v = some (.int 1) ∧ Fr h0.size L) ∧ FrameEnd U o U' L room_1.cells room_1.slots) := by
  obtain ⟨H', ds, hrun, hc, hs⟩ := law_run x0 x1 x2 x3 x4
  have q := mmMet (CT := CT) (n0 := h0.size) (h0 := h0) (y := x) (bytes := code) (maxL := 20) (ret := some .boolean) (rm := room_1) pl_0 hI_0 (CT_ok l Z a0 hw) (T_0 l Z a0 hw) ws hrun ⟨rfl, fun i o h => by simp at h⟩ (by rw [List.length_nil, Nat.zero_add]; exact hc) hs
  intro p e ha hc hk s m args below hf happ hP hK
  obtain ⟨n, o, h1, h2, h3, v, L, h4, ⟨h5, h6, -⟩, h7⟩ := q p e ha hc hk s m args below hf happ hP hK
  exact ⟨n, o, h1, h2, h3, v, L, h4, ⟨h5, h6⟩, h7⟩
set_option maxRecDepth 65536 in
set_option maxHeartbeats 40000000 in
theorem comes_1 {Post : Tables → Env → Array Value → State → Outcome → State → Prop} (hpost : ∀ tb e args s v u, (limb_1_1.after args s (.returned v) u = true ∧ limb_1_2.after args s (.returned v) u = true ∧ True) → FrameEnd s (.returned v) u (Jvm.fieldLocs frame_1_writes args s ++ Jvm.arrayLocs frame_1_arrays args s ++ Jvm.staticLocs frame_1_statics s) 24 128 → Post tb e args s (.returned v) u) :
    ArmFor flags0 classFile x code maxLocals ret World_1 tables_1 room_1 Calls_1 rest_1 Pre_1 Post := by
  intro l hfl _ _ p e ha hc hk s m args below hf hA hF happ hP
  obtain ⟨hcalls, hrest, hpre⟩ := hP
  obtain ⟨-, -, -, hnamed, -, -, -, hat⟩ := (Spec.applies_iff hf).mp happ
  obtain ⟨hg, hn⟩ := and_e (Cond.before_iff.mp (show (Jvm.Cond.and given_1 narrow_1).before args s = true from hpre))
  obtain ⟨c0, d0⟩ := and_e hg
  obtain ⟨c1, d1⟩ := and_e d0
  obtain ⟨c2, d2⟩ := and_e d1
  obtain ⟨c3, d3⟩ := and_e d2
  obtain ⟨c4, d4⟩ := and_e d3
  have c5 := d4
  obtain ⟨w0, w1, w2, w3, w4, rfl⟩ : ∃ w0 w1 w2 w3 w4 : Value, args = #[w0, w1, w2, w3, w4] := by
    have hs : args.size = 5 := by simpa [Cond.value, given_1] using c0
    obtain ⟨L⟩ := args
    match L, hs with
    | [w0, w1, w2, w3, w4], _ => exact ⟨w0, w1, w2, w3, w4, rfl⟩
  have hw := fun d (hd : d ∈ tables_1) => atoms_spec (ws := Jvm.Cond.code x code maxLocals ret :: tables_1) hat d (List.mem_cons_of_mem _ hd)
  obtain ⟨x0, ei0⟩ := is_v c1
  obtain rfl : w0 = (.int x0) := Option.some.inj ei0
  obtain ⟨x1, ei1⟩ := is_v c2
  obtain rfl : w1 = (.int x1) := Option.some.inj ei1
  obtain ⟨x2, ei2⟩ := is_v c3
  obtain rfl : w2 = (.int x2) := Option.some.inj ei2
  obtain ⟨x3, ei3⟩ := is_v c4
  obtain rfl : w3 = (.int x3) := Option.some.inj ei3
  obtain ⟨x4, ei4⟩ := is_v c5
  obtain rfl : w4 = (.int x4) := Option.some.inj ei4
  obtain ⟨n, o, h1, h2, h3, _, L, rfl, ⟨rfl, N⟩, hq⟩ := law_met l s _ hw tables_1 x0 x1 x2 x3 x4 s.heap p e ha hc hk s m _ below hf ((Spec.applies_iff_loose hf).mp happ).1 ⟨rfl, State.Warmed39.refl s, rfl⟩ trivial
  refine ⟨n, _, h1, h2, h3, hpost _ _ _ _ _ _ ⟨Cond.after_iff.mpr rfl, Cond.after_iff.mpr (eq_i res_at (Term.int_eval (1)) rfl), trivial⟩ ⟨hq.1, hq.2.1, (hq.2.2.sift fun y hy => Or.inr (N y hy)).mono (by decide) (by decide)⟩⟩
theorem main_1_1 : Claimed_1_1 := comes_1 fun _ _ _ _ _ _ h hF => ⟨h.1, hF⟩
theorem main_1_2 : Claimed_1_2 := comes_1 fun _ _ _ _ _ _ h hF => ⟨h.2.1, hF⟩
end Jvm.Pilot.@@N@@
namespace Jvm.Pilot.@@N@@
open Jvm Jvm.ClassFile Sem Op Lib Jvm.Free Jvm.Stand Jvm.Pilot.@@N@@.Jvm.D
/-! MADE BY PROGRAM (witnessworld.py) out of the Statement's table words and the real class files: 13 classes; the members and pool entries that the words name. The judged class is class 1, her method 1. -/
namespace start1
open Jvm.ClassFile
def u (s : String) : CpInfo := .utf8 (stringToUtf16 s)
/-- a pool by its gaps: so many unusable entries, then the entry; so many at the end -/
def gap : Nat → List CpInfo → List CpInfo
  | 0, r => r
  | n + 1, r => .unusable :: gap n r
def poolList (es : List (Nat × CpInfo)) (last : Nat) : List CpInfo := es.foldr (fun e r => gap e.1 (e.2 :: r)) (gap last [])
def pool (es : List (Nat × CpInfo)) (last : Nat) : Array CpInfo := ⟨poolList es last⟩
def fileOf (pool : Array CpInfo) (this : Nat) (attrs : Array Attribute := #[]) (ms : Array MethodInfo := #[]) (fl : Nat := 33) (sup : Nat := 0) (ifs : Array Nat := #[]) (fds : Array FieldInfo := #[]) : ClassFile where
  minorVersion := 0
  majorVersion := 65
  constantPool := pool
  accessFlags := fl
  thisClass := this
  superClass := sup
  interfaces := ifs
  fields := fds
  methods := ms
  attributes := attrs
def plain (name : String) (sup : Option ClassId) : Class where
  name := name
  kind := .ordinary
  loader := none
  accessFlags := 33
  super := sup
  interfaces := #[]
  cf := none
  fields := #[]
  methods := #[]
  instanceTypes := #[]
  staticTypes := #[]
  resolved := #[]
  callSites := []
  init := .initialized
  statics := none
  mirror := none

def pool0 : Array CpInfo := pool [(5, u "<init>"), (0, u "()V"), (1, .class_ 10), (1, u "java/lang/Object")] 113

def k0c0 : Code := { maxStack := 0, maxLocals := 1, code := object_method_1_code, exceptionTable := #[], attributes := #[] }
def k0m0 : Method := { name := "<init>", desc := "()V", sig := { parameters := [], returnType := none }, accessFlags := 1, code := some k0c0 }
/-- java/lang/Object -/
def k0 : Class := { plain "java/lang/Object" none with
  accessFlags := 33
  interfaces := #[]
  cf := some (fileOf pool0 8 #[] #[{ accessFlags := 1, nameIndex := 5, descriptorIndex := 6, attributes := #[] }] 33 0 #[] #[])
  fields := #[]
  methods := #[k0m0]
  instanceTypes := #[]
  staticTypes := #[]
  resolved := Array.replicate 124 none
  statics := none }

def pool1 : Array CpInfo := pool [(2, .class_ 4), (1, u "java/lang/Object"), (0, u "<init>"), (0, u "()V"), (0, .integer 2147483647), (0, .methodref 9 10), (0, .class_ 11), (0, .nameAndType 12 13), (0, u "java/lang/Math"), (0, u "max"), (0, u "(II)I"), (0, .class_ 15), (0, u "com/example/invigil/invigil/solve/SeatOverflow"), (0, .methodref 14 17), (0, .nameAndType 5 18), (0, u "([III[I)V"), (2, .methodref 14 22), (0, .nameAndType 23 24), (0, u "move"), (0, u "(III)J"), (0, .methodref 26 27), (0, .class_ 28), (0, .nameAndType 29 30), (0, u "com/example/invigil/invigil/solve/SeatOverflowBreachingCountPinLaw"), (0, u "breaching"), (0, u "(IIIIIIII)I"), (0, .methodref 14 32), (0, .nameAndType 33 34), (0, u "breachingCount"), (0, u "()I"), (0, .methodref 26 36), (0, .nameAndType 37 38), (0, u "load"), (0, u "(IIIIIII)J"), (2, u "law"), (0, u "(IIIII)Z")] 5

def k1m0 : Method := { name := "<init>", desc := "()V", sig := { parameters := [], returnType := none }, accessFlags := 1, code := none }
def k1c1 : Code := { maxStack := 9, maxLocals := 20, code := code, exceptionTable := #[], attributes := #[] }
def k1m1 : Method := { name := "law", desc := "(IIIII)Z", sig := { parameters := [.int, .int, .int, .int, .int], returnType := some .boolean }, accessFlags := 9, code := some k1c1 }
def k1c2 : Code := { maxStack := 4, maxLocals := 9, code := method_3_code, exceptionTable := #[], attributes := #[] }
def k1m2 : Method := { name := "load", desc := "(IIIIIII)J", sig := { parameters := [.int, .int, .int, .int, .int, .int, .int], returnType := some .long }, accessFlags := 10, code := some k1c2 }
def k1c3 : Code := { maxStack := 7, maxLocals := 8, code := method_4_code, exceptionTable := #[], attributes := #[] }
def k1m3 : Method := { name := "breaching", desc := "(IIIIIIII)I", sig := { parameters := [.int, .int, .int, .int, .int, .int, .int, .int], returnType := some .int }, accessFlags := 10, code := some k1c3 }
/-- com/example/invigil/invigil/solve/SeatOverflowBreachingCountPinLaw -/
def k1 : Class := { plain "com/example/invigil/invigil/solve/SeatOverflowBreachingCountPinLaw" (some 0) with
  accessFlags := 49
  interfaces := #[]
  cf := some (fileOf pool1 26 #[] #[{ accessFlags := 1, nameIndex := 5, descriptorIndex := 6, attributes := #[] }, { accessFlags := 9, nameIndex := 41, descriptorIndex := 42, attributes := #[] }, { accessFlags := 10, nameIndex := 37, descriptorIndex := 38, attributes := #[] }, { accessFlags := 10, nameIndex := 29, descriptorIndex := 30, attributes := #[] }] 49 2 #[] #[])
  fields := #[]
  methods := #[k1m0, k1m1, k1m2, k1m3]
  instanceTypes := #[]
  staticTypes := #[]
  resolved := Array.replicate 48 none
  statics := none }

def pool2 : Array CpInfo := pool [(1, .class_ 2), (0, u "java/lang/Math"), (1, .class_ 6), (1, u "java/lang/Object"), (0, u "<init>"), (0, u "()V"), (89, .class_ 100), (1, u "java/lang/Math$RandomNumberGeneratorHolder"), (20, u "(JJ)J"), (50, u "negativeZeroFloatBits"), (0, u "J"), (2, u "negativeZeroDoubleBits"), (21, u "max"), (46, u "$assertionsDisabled"), (0, u "Z"), (88, u "(II)I"), (2, u "twoToTheDoubleScaleDown"), (0, u "D"), (4, u "twoToTheDoubleScaleUp"), (9, u "E"), (3, u "PI"), (2, u "TAU"), (2, u "DEGREES_TO_RADIANS"), (0, u "RADIANS_TO_DEGREES")] 94

def k2m0 : Method := { name := "<init>", desc := "()V", sig := { parameters := [], returnType := none }, accessFlags := 2, code := none }
def k2c1 : Code := { maxStack := 2, maxLocals := 2, code := jdk_29_method_65_code, exceptionTable := #[], attributes := #[] }
def k2m1 : Method := { name := "max", desc := "(II)I", sig := { parameters := [.int, .int], returnType := some .int }, accessFlags := 9, code := some k2c1 }
def k2c2 : Code := { maxStack := 4, maxLocals := 4, code := jdk_29_method_66_code, exceptionTable := #[], attributes := #[] }
def k2m2 : Method := { name := "max", desc := "(JJ)J", sig := { parameters := [.long, .long], returnType := some .long }, accessFlags := 9, code := some k2c2 }
/-- java/lang/Math -/
def k2 : Class := { plain "java/lang/Math" (some 0) with
  accessFlags := 49
  interfaces := #[]
  cf := some (fileOf pool2 1 #[.nestMembers #[98]] #[{ accessFlags := 2, nameIndex := 7, descriptorIndex := 8, attributes := #[] }, { accessFlags := 9, nameIndex := 198, descriptorIndex := 335, attributes := #[] }, { accessFlags := 9, nameIndex := 198, descriptorIndex := 121, attributes := #[] }] 49 4 #[] #[{ accessFlags := 25, nameIndex := 354, descriptorIndex := 339, attributes := #[] }, { accessFlags := 25, nameIndex := 358, descriptorIndex := 339, attributes := #[] }, { accessFlags := 25, nameIndex := 361, descriptorIndex := 339, attributes := #[] }, { accessFlags := 26, nameIndex := 364, descriptorIndex := 339, attributes := #[] }, { accessFlags := 26, nameIndex := 365, descriptorIndex := 339, attributes := #[] }, { accessFlags := 26, nameIndex := 172, descriptorIndex := 173, attributes := #[] }, { accessFlags := 26, nameIndex := 176, descriptorIndex := 173, attributes := #[] }, { accessFlags := 8, nameIndex := 344, descriptorIndex := 339, attributes := #[] }, { accessFlags := 8, nameIndex := 338, descriptorIndex := 339, attributes := #[] }, { accessFlags := 4120, nameIndex := 245, descriptorIndex := 246, attributes := #[] }])
  fields := #[{ name := "E", type := .double, accessFlags := 25, slot := 0, constantValue := 0 }, { name := "PI", type := .double, accessFlags := 25, slot := 1, constantValue := 0 }, { name := "TAU", type := .double, accessFlags := 25, slot := 2, constantValue := 0 }, { name := "DEGREES_TO_RADIANS", type := .double, accessFlags := 26, slot := 3, constantValue := 0 }, { name := "RADIANS_TO_DEGREES", type := .double, accessFlags := 26, slot := 4, constantValue := 0 }, { name := "negativeZeroFloatBits", type := .long, accessFlags := 26, slot := 5, constantValue := 0 }, { name := "negativeZeroDoubleBits", type := .long, accessFlags := 26, slot := 6, constantValue := 0 }, { name := "twoToTheDoubleScaleUp", type := .double, accessFlags := 8, slot := 7, constantValue := 0 }, { name := "twoToTheDoubleScaleDown", type := .double, accessFlags := 8, slot := 8, constantValue := 0 }, { name := "$assertionsDisabled", type := .boolean, accessFlags := 4120, slot := 9, constantValue := 0 }]
  methods := #[k2m0, k2m1, k2m2]
  instanceTypes := #[]
  staticTypes := #[.double, .double, .double, .double, .double, .long, .long, .double, .double, .boolean]
  resolved := Array.replicate 460 none
  statics := none }

def pool3 : Array CpInfo := pool [(1, .class_ 2), (0, u "com/example/invigil/invigil/solve/Breaches"), (4, .class_ 8), (0, u "java/lang/Object"), (0, u "UNPLACED"), (0, u "I")] 18

/-- com/example/invigil/invigil/solve/Breaches -/
def k3 : Class := { plain "com/example/invigil/invigil/solve/Breaches" (some 0) with
  accessFlags := 1536
  interfaces := #[]
  cf := some (fileOf pool3 1 #[] #[] 1536 7 #[] #[{ accessFlags := 25, nameIndex := 9, descriptorIndex := 10, attributes := #[] }])
  fields := #[{ name := "UNPLACED", type := .int, accessFlags := 25, slot := 0, constantValue := 0 }]
  methods := #[]
  instanceTypes := #[]
  staticTypes := #[.int]
  resolved := Array.replicate 29 none
  statics := none }

def pool4 : Array CpInfo := pool [(1, .methodref 2 3), (0, .class_ 4), (0, .nameAndType 5 6), (0, u "java/lang/Object"), (0, u "<init>"), (0, u "()V"), (0, .fieldref 8 9), (0, .class_ 10), (0, .nameAndType 11 12), (0, u "com/example/invigil/invigil/solve/SeatOverflow"), (0, u "size"), (0, u "[I"), (0, .fieldref 8 14), (0, .nameAndType 15 16), (0, u "seats"), (0, u "I"), (0, .fieldref 8 18), (0, .nameAndType 19 12), (0, u "slotOf"), (0, .fieldref 8 21), (0, .nameAndType 22 23), (0, u "load"), (0, u "[J"), (0, .fieldref 8 25), (0, .nameAndType 26 12), (0, u "examsIn"), (0, .fieldref 8 28), (0, .nameAndType 29 30), (0, u "excess"), (0, u "J"), (0, .class_ 32), (0, u "com/example/invigil/invigil/solve/Breaches"), (0, .methodref 8 34), (0, .nameAndType 35 36), (0, u "over"), (0, u "(J)J"), (6, .methodref 44 45), (0, .class_ 46), (0, .nameAndType 47 48), (0, u "java/lang/Math"), (0, u "max"), (0, u "(JJ)J"), (0, u "([III[I)V"), (4, u "breachingCount"), (0, u "()I"), (3, u "move"), (0, u "(III)J")] 4

def k4c0 : Code := { maxStack := 2, maxLocals := 5, code := prog_25_method_1_code, exceptionTable := #[], attributes := #[] }
def k4m0 : Method := { name := "<init>", desc := "([III[I)V", sig := { parameters := [(.array .int), .int, .int, (.array .int)], returnType := none }, accessFlags := 0, code := some k4c0 }
def k4c1 : Code := { maxStack := 4, maxLocals := 3, code := prog_25_method_3_code, exceptionTable := #[], attributes := #[] }
def k4m1 : Method := { name := "breachingCount", desc := "()I", sig := { parameters := [], returnType := some .int }, accessFlags := 1, code := some k4c1 }
def k4c2 : Code := { maxStack := 8, maxLocals := 5, code := prog_25_method_5_code, exceptionTable := #[], attributes := #[] }
def k4m2 : Method := { name := "move", desc := "(III)J", sig := { parameters := [.int, .int, .int], returnType := some .long }, accessFlags := 1, code := some k4c2 }
def k4c3 : Code := { maxStack := 6, maxLocals := 3, code := prog_25_method_7_code, exceptionTable := #[], attributes := #[] }
def k4m3 : Method := { name := "over", desc := "(J)J", sig := { parameters := [.long], returnType := some .long }, accessFlags := 2, code := some k4c3 }
/-- com/example/invigil/invigil/solve/SeatOverflow -/
def k4 : Class := { plain "com/example/invigil/invigil/solve/SeatOverflow" (some 0) with
  accessFlags := 48
  interfaces := #[3]
  cf := some (fileOf pool4 8 #[] #[{ accessFlags := 0, nameIndex := 5, descriptorIndex := 49, attributes := #[] }, { accessFlags := 1, nameIndex := 54, descriptorIndex := 55, attributes := #[] }, { accessFlags := 1, nameIndex := 59, descriptorIndex := 60, attributes := #[] }, { accessFlags := 2, nameIndex := 35, descriptorIndex := 36, attributes := #[] }] 48 2 #[31] #[{ accessFlags := 18, nameIndex := 11, descriptorIndex := 12, attributes := #[] }, { accessFlags := 18, nameIndex := 15, descriptorIndex := 16, attributes := #[] }, { accessFlags := 18, nameIndex := 19, descriptorIndex := 12, attributes := #[] }, { accessFlags := 18, nameIndex := 22, descriptorIndex := 23, attributes := #[] }, { accessFlags := 18, nameIndex := 26, descriptorIndex := 12, attributes := #[] }, { accessFlags := 2, nameIndex := 29, descriptorIndex := 30, attributes := #[] }])
  fields := #[{ name := "size", type := (.array .int), accessFlags := 18, slot := 0, constantValue := 0 }, { name := "seats", type := .int, accessFlags := 18, slot := 1, constantValue := 0 }, { name := "slotOf", type := (.array .int), accessFlags := 18, slot := 2, constantValue := 0 }, { name := "load", type := (.array .long), accessFlags := 18, slot := 3, constantValue := 0 }, { name := "examsIn", type := (.array .int), accessFlags := 18, slot := 4, constantValue := 0 }, { name := "excess", type := .long, accessFlags := 2, slot := 5, constantValue := 0 }]
  methods := #[k4m0, k4m1, k4m2, k4m3]
  instanceTypes := #[(.array .int), .int, (.array .int), (.array .long), (.array .int), .long]
  staticTypes := #[]
  resolved := Array.replicate 65 none
  statics := none }

def pool5 : Array CpInfo := pool [(1, u "java/lang/Cloneable"), (0, .class_ 1), (0, u "java/lang/Object"), (0, .class_ 3)] 3

/-- java/lang/Cloneable -/
def k5 : Class := { plain "java/lang/Cloneable" (some 0) with
  accessFlags := 1537
  interfaces := #[]
  cf := some (fileOf pool5 2 #[] #[] 1537 4 #[] #[])
  fields := #[]
  methods := #[]
  instanceTypes := #[]
  staticTypes := #[]
  resolved := Array.replicate 8 none
  statics := none }

def pool6 : Array CpInfo := pool [(1, u "java/io/Serializable"), (0, .class_ 1), (0, u "java/lang/Object"), (0, .class_ 3)] 3

/-- java/io/Serializable -/
def k6 : Class := { plain "java/io/Serializable" (some 0) with
  accessFlags := 1537
  interfaces := #[]
  cf := some (fileOf pool6 2 #[] #[] 1537 4 #[] #[])
  fields := #[]
  methods := #[]
  instanceTypes := #[]
  staticTypes := #[]
  resolved := Array.replicate 8 none
  statics := none }

/-- the primitive byte -/
def k7 : Class := { plain "byte" none with kind := .primitive 'B', accessFlags := 0x411 }
/-- [B -/
def k8 : Class := { plain "[B" (some 0) with kind := .array 7 .byte, interfaces := #[5, 6], accessFlags := 1041 }

/-- the primitive int -/
def k9 : Class := { plain "int" none with kind := .primitive 'I', accessFlags := 0x411 }
/-- [I -/
def k10 : Class := { plain "[I" (some 0) with kind := .array 9 .int, interfaces := #[5, 6], accessFlags := 1041 }

/-- the primitive long -/
def k11 : Class := { plain "long" none with kind := .primitive 'J', accessFlags := 0x411 }
/-- [J -/
def k12 : Class := { plain "[J" (some 0) with kind := .array 11 .long, interfaces := #[5, 6], accessFlags := 1041 }

def heap : Heap := #[]
def classes : Array Class := #[k0, k1, k2, k3, k4, k5, k6, k7, k8, k9, k10, k11, k12]
def interned : List (Array UInt16 × Addr) := []
def slotsUsed : Nat := 0
def theMethod : MethodId := ⟨1, 1⟩
def args0 : Array Value := #[.int 5, .int 5, .int 5, .int 5, .int 5]
def aboutOver (below : List Frame) : State where
  vm := { classes := classes, interned := interned.toArray }
  heap := heap
  slotsUsed := slotsUsed
  threads := #[{ frames := .invoking theMethod args0 :: below }]
def below0 : List Frame := [.native { method := ⟨0, 0⟩, args := #[] }]
def about1 : State := aboutOver below0
def p0 : Program := .bare "" "" ""
def e0 : Env := launch0.env 0 0 0
theorem w_frames : about1.frames = Frame.invoking theMethod args0 :: below0 := rfl
set_option maxRecDepth 65536 in
theorem w_args : argsFit about1.vm theMethod args0 = true := by decide +kernel
set_option maxRecDepth 65536 in
theorem w_heap : heapFits about1 = true := by decide +kernel
set_option maxRecDepth 65536 in
theorem w_runnable : about1.curStatus? = some .runnable := by decide +kernel
set_option maxRecDepth 65536 in
theorem w_alone : about1.alone = true := by decide +kernel
set_option maxRecDepth 65536 in
theorem w_named : about1.methodNamed? x = some theMethod := by decide +kernel
set_option maxRecDepth 65536 in
theorem w_hears : about1.hears theMethod below0 = true := by decide +kernel
set_option maxRecDepth 65536 in
theorem w_ripe : about1.ripe theMethod args0 below0 = true := by decide +kernel
theorem w_running : about1.status = .running := rfl
set_option maxRecDepth 65536 in
theorem w_room : about1.hasRoom e0.platform room_1 = true :=
  launch0.hasRoom_least _ room_1 (by decide +kernel) (by decide +kernel) (by decide +kernel) (by decide +kernel) (by decide +kernel) (by decide +kernel)
theorem allAtoms_all (ts : List Jvm.Cond) (a : Array Jvm.Value) (st : Jvm.State) : (allAtoms ts).before a st = ts.all (fun c => c.before a st) := by
  induction ts with
  | nil => rfl
  | cons c t ih =>
    show (Jvm.Cond.and c (allAtoms t)).before a st = _
    rw [Jvm.Cond.before_and, ih, List.all_cons]
def words1 : List Jvm.Cond := Jvm.Cond.code x code maxLocals ret :: tables_1
/-- a 'code' word, met by the world's own term for the bytes: nothing is compared byte by byte -/
theorem code_word {y : MethodName} {bytes : ByteArray} {mx : Nat} {rt : Option FieldType} {a : Array Value} {s : State} {m : MethodId} {meth : Method} {c : Code} (h1 : s.methodNamed? y = some m) (h2 : s.vm.method? m = some meth) (h3 : meth.code = some c) (h4 : c.code = bytes)
    (h5 : (c.maxLocals == mx && c.exceptionTable.isEmpty && decide (c.maxStack ≤ mostOperands) && decide (meth.sig.returnType = rt) && !meth.locks && decide (parseMethodDescriptor y.desc = some meth.sig)) = true) : (Jvm.Cond.code y bytes mx rt).before a s = true := by
  simp only [Bool.and_eq_true, beq_iff_eq, Bool.not_eq_true', decide_eq_true_eq] at h5
  obtain ⟨⟨⟨⟨⟨g1, g2⟩, g3⟩, g4⟩, g5⟩, g6⟩ := h5
  simp [Cond.before, Cond.holds, Cond.value, h1, h2, h3, h4, g1, g2, g3, g4, g5, g6]
def isCode : Jvm.Cond → Bool
  | .code _ _ _ _ => true
  | _ => false
theorem all_split {L : List Jvm.Cond} {P : Jvm.Cond → Bool} (h1 : L.all (fun c => isCode c || P c) = true) (h2 : ∀ c ∈ L.filter isCode, P c = true) : L.all P = true := by
  refine List.all_eq_true.mpr fun c hc => ?_
  have h := List.all_eq_true.mp h1 c hc
  rcases Bool.eq_false_or_eq_true (isCode c) with hi | hi
  · exact h2 c (List.mem_filter.mpr ⟨hc, hi⟩)
  · simpa [hi] using h
set_option maxRecDepth 65536 in
theorem w_c0 : (Jvm.Cond.code x code maxLocals ret).before args0 about1 = true := code_word (m := ⟨1, 1⟩) (meth := k1m1) (c := k1c1) (by decide +kernel) rfl rfl rfl (by decide +kernel)
set_option maxRecDepth 65536 in
theorem w_c1 : (Jvm.Cond.code ({ cls := "java/lang/Math", name := "max", desc := "(II)I" } : Jvm.MethodName) jdk_29_method_65_code (2 : Nat) (Option.some Jvm.ClassFile.FieldType.int)).before args0 about1 = true := code_word (m := ⟨2, 1⟩) (meth := k2m1) (c := k2c1) (by decide +kernel) rfl rfl rfl (by decide +kernel)
set_option maxRecDepth 65536 in
theorem w_c2 : (Jvm.Cond.code ({ cls := "com/example/invigil/invigil/solve/SeatOverflow", name := "<init>", desc := "([III[I)V" } : Jvm.MethodName) prog_25_method_1_code (5 : Nat) (Option.none : Option Jvm.ClassFile.FieldType)).before args0 about1 = true := code_word (m := ⟨4, 0⟩) (meth := k4m0) (c := k4c0) (by decide +kernel) rfl rfl rfl (by decide +kernel)
set_option maxRecDepth 65536 in
theorem w_c3 : (Jvm.Cond.code ({ cls := "java/lang/Object", name := "<init>", desc := "()V" } : Jvm.MethodName) object_method_1_code (1 : Nat) (Option.none : Option Jvm.ClassFile.FieldType)).before args0 about1 = true := code_word (m := ⟨0, 0⟩) (meth := k0m0) (c := k0c0) (by decide +kernel) rfl rfl rfl (by decide +kernel)
set_option maxRecDepth 65536 in
theorem w_c4 : (Jvm.Cond.code ({ cls := "com/example/invigil/invigil/solve/SeatOverflow", name := "move", desc := "(III)J" } : Jvm.MethodName) prog_25_method_5_code (5 : Nat) (Option.some Jvm.ClassFile.FieldType.long)).before args0 about1 = true := code_word (m := ⟨4, 2⟩) (meth := k4m2) (c := k4c2) (by decide +kernel) rfl rfl rfl (by decide +kernel)
set_option maxRecDepth 65536 in
theorem w_c5 : (Jvm.Cond.code ({ cls := "com/example/invigil/invigil/solve/SeatOverflow", name := "over", desc := "(J)J" } : Jvm.MethodName) prog_25_method_7_code (3 : Nat) (Option.some Jvm.ClassFile.FieldType.long)).before args0 about1 = true := code_word (m := ⟨4, 3⟩) (meth := k4m3) (c := k4c3) (by decide +kernel) rfl rfl rfl (by decide +kernel)
set_option maxRecDepth 65536 in
theorem w_c6 : (Jvm.Cond.code ({ cls := "java/lang/Math", name := "max", desc := "(JJ)J" } : Jvm.MethodName) jdk_29_method_66_code (4 : Nat) (Option.some Jvm.ClassFile.FieldType.long)).before args0 about1 = true := code_word (m := ⟨2, 2⟩) (meth := k2m2) (c := k2c2) (by decide +kernel) rfl rfl rfl (by decide +kernel)
set_option maxRecDepth 65536 in
theorem w_c7 : (Jvm.Cond.code ({ cls := "com/example/invigil/invigil/solve/SeatOverflowBreachingCountPinLaw", name := "breaching", desc := "(IIIIIIII)I" } : Jvm.MethodName) method_4_code (8 : Nat) (Option.some Jvm.ClassFile.FieldType.int)).before args0 about1 = true := code_word (m := ⟨1, 3⟩) (meth := k1m3) (c := k1c3) (by decide +kernel) rfl rfl rfl (by decide +kernel)
set_option maxRecDepth 65536 in
theorem w_c8 : (Jvm.Cond.code ({ cls := "com/example/invigil/invigil/solve/SeatOverflowBreachingCountPinLaw", name := "load", desc := "(IIIIIII)J" } : Jvm.MethodName) method_3_code (9 : Nat) (Option.some Jvm.ClassFile.FieldType.long)).before args0 about1 = true := code_word (m := ⟨1, 2⟩) (meth := k1m2) (c := k1c2) (by decide +kernel) rfl rfl rfl (by decide +kernel)
set_option maxRecDepth 65536 in
theorem w_c9 : (Jvm.Cond.code ({ cls := "com/example/invigil/invigil/solve/SeatOverflow", name := "breachingCount", desc := "()I" } : Jvm.MethodName) prog_25_method_3_code (3 : Nat) (Option.some Jvm.ClassFile.FieldType.int)).before args0 about1 = true := code_word (m := ⟨4, 1⟩) (meth := k4m1) (c := k4c1) (by decide +kernel) rfl rfl rfl (by decide +kernel)
def codes1 : List Jvm.Cond := [Jvm.Cond.code x code maxLocals ret, Jvm.Cond.code ({ cls := "java/lang/Math", name := "max", desc := "(II)I" } : Jvm.MethodName) jdk_29_method_65_code (2 : Nat) (Option.some Jvm.ClassFile.FieldType.int), Jvm.Cond.code ({ cls := "com/example/invigil/invigil/solve/SeatOverflow", name := "<init>", desc := "([III[I)V" } : Jvm.MethodName) prog_25_method_1_code (5 : Nat) (Option.none : Option Jvm.ClassFile.FieldType), Jvm.Cond.code ({ cls := "java/lang/Object", name := "<init>", desc := "()V" } : Jvm.MethodName) object_method_1_code (1 : Nat) (Option.none : Option Jvm.ClassFile.FieldType), Jvm.Cond.code ({ cls := "com/example/invigil/invigil/solve/SeatOverflow", name := "move", desc := "(III)J" } : Jvm.MethodName) prog_25_method_5_code (5 : Nat) (Option.some Jvm.ClassFile.FieldType.long), Jvm.Cond.code ({ cls := "com/example/invigil/invigil/solve/SeatOverflow", name := "over", desc := "(J)J" } : Jvm.MethodName) prog_25_method_7_code (3 : Nat) (Option.some Jvm.ClassFile.FieldType.long), Jvm.Cond.code ({ cls := "java/lang/Math", name := "max", desc := "(JJ)J" } : Jvm.MethodName) jdk_29_method_66_code (4 : Nat) (Option.some Jvm.ClassFile.FieldType.long), Jvm.Cond.code ({ cls := "com/example/invigil/invigil/solve/SeatOverflowBreachingCountPinLaw", name := "breaching", desc := "(IIIIIIII)I" } : Jvm.MethodName) method_4_code (8 : Nat) (Option.some Jvm.ClassFile.FieldType.int), Jvm.Cond.code ({ cls := "com/example/invigil/invigil/solve/SeatOverflowBreachingCountPinLaw", name := "load", desc := "(IIIIIII)J" } : Jvm.MethodName) method_3_code (9 : Nat) (Option.some Jvm.ClassFile.FieldType.long), Jvm.Cond.code ({ cls := "com/example/invigil/invigil/solve/SeatOverflow", name := "breachingCount", desc := "()I" } : Jvm.MethodName) prog_25_method_3_code (3 : Nat) (Option.some Jvm.ClassFile.FieldType.int)]
set_option maxRecDepth 65536 in
theorem codes_eq : words1.filter isCode = codes1 := rfl
theorem w_codes : ∀ c ∈ words1.filter isCode, c.before args0 about1 = true := by
  rw [codes_eq]
  intro c hc
  simp only [codes1, List.mem_cons, List.not_mem_nil, or_false] at hc
  rcases hc with rfl | rfl | rfl | rfl | rfl | rfl | rfl | rfl | rfl | rfl
  · exact w_c0
  · exact w_c1
  · exact w_c2
  · exact w_c3
  · exact w_c4
  · exact w_c5
  · exact w_c6
  · exact w_c7
  · exact w_c8
  · exact w_c9
set_option maxRecDepth 65536 in
theorem w_t1 : (words1.take 24).all (fun c => isCode c || c.before args0 about1) = true := by decide +kernel
set_option maxRecDepth 65536 in
theorem w_t2 : ((words1.drop 24).take 24).all (fun c => isCode c || c.before args0 about1) = true := by decide +kernel
set_option maxRecDepth 65536 in
theorem w_t3 : ((words1.drop 24).drop 24).all (fun c => isCode c || c.before args0 about1) = true := by decide +kernel
theorem w_tables : (allAtoms (Jvm.Cond.code x code maxLocals ret :: tables_1)).before args0 about1 = true := by
  rw [allAtoms_all]
  show words1.all (fun c => c.before args0 about1) = true
  refine all_split ?_ w_codes
  rw [← List.take_append_drop 24 words1, List.all_append, w_t1, ← List.take_append_drop 24 (words1.drop 24), List.all_append, w_t2, w_t3]
  rfl
set_option maxRecDepth 65536 in
theorem w_case : (Jvm.Cond.and given_1 narrow_1).before args0 about1 = true := by decide +kernel
theorem w_applies : (headSpec (Jvm.Cond.code x code maxLocals ret :: tables_1) room_1).applies x e0.platform about1 = true :=
  (Spec.applies_iff w_frames).mpr ⟨w_running, w_runnable, w_alone, w_named, w_hears, w_ripe, w_room, w_tables⟩
theorem atStart : AtStart classFile x code maxLocals ret World_1 tables_1 room_1 Calls_1 rest_1 Pre_1 launch0 p0 e0 about1 theMethod args0 below0 :=
  ⟨lists_1, trivial, launch0.admits_env _ _ _, launch0.least_env, fairChoices_fair.cas, fairChoices_fair.clock, w_frames, w_args, w_heap, w_applies, trivial, trivial, w_case⟩
end start1
theorem witness_1 : WitnessClaimed_1 := ⟨start1.p0, start1.e0, start1.about1, start1.theMethod, start1.args0, start1.below0, start1.atStart⟩
end Jvm.Pilot.@@N@@
